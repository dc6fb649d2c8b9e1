import JvmDerived
import JvmDerived.Pilot.@@N@@Statement
import JvmDerived.Pilot.@@N@@Code
set_option linter.unusedVariables false
set_option linter.unusedSimpArgs false
namespace Jvm.Pilot.@@N@@
open Jvm Jvm.ClassFile Sem Op Lib Jvm.Free Jvm.Stand Jvm.LawKit Jvm.RoadKit Bundle Jvm.Pilot.@@N@@.Jvm.D
section OwnGo
variable {p : Program} {l : Launch} {e : Env} {R : Room} {s : State} {m : MethodId} {args : Array Value} {below : List Frame} {meth : Method} {c : Code} {T : State} {n0 cells slots cells' slots' : Nat} {Z : State} {a0 : Array Value} {h : Heap} {K : State → Outcome → Prop} {pc pc' : Nat} {Ls : Array Slot} {St : List Value} {own : String} {by0 : ByteArray} {ml : Nat}
/-- from state T with the frame g on top the run comes to an end of which K holds -/
def OGo (p : Program) (e : Env) (below : List Frame) (K : State → Outcome → Prop) (T : State) (g : JFrame) : Prop := ∃ t o, Steps p.tables e below (T.setTop g) t ∧ K t o
/-- what does not change during one body's walk -/
def Cx (p : Program) (s : State) (m : MethodId) (c : Code) (Z : State) (own : String) (by0 : ByteArray) (ml : Nat) : Prop := p.tables.exec = Jvm.exec ∧ Z.Warmed39 s.vm ∧ s.vm.findClass own = some m.cls ∧ c.code = by0 ∧ c.maxLocals = ml
/-- where the walk stands: heap h, only cells from n0 on written -/
def Sd (p : Program) (l : Launch) (e : Env) (R : Room) (s : State) (m : MethodId) (args : Array Value) (below : List Frame) (meth : Method) (c : Code) (n0 : Nat) (T : State) (h : Heap) (cells slots : Nat) : Prop := T.heap = h ∧ n0 ≤ h.size ∧ ∃ locs, Stand p l e R s m args below meth c T locs cells slots ∧ Fr n0 locs
/-- what a body owes at its end -/
def Kk (s : State) (below : List Frame) (n0 : Nat) (Q : Option Value → Heap → Prop) (nc ns : Nat) : State → Outcome → Prop := fun t o => t.status = .running ∧ Ended t below o ∧ ∃ v L, o = .returned v ∧ (Q v t.heap ∧ Fr n0 L) ∧ FrameEnd s o t L nc ns
/-- a body's contract -/
def Ctr (l : Launch) (Z : State) (y : MethodName) (by0 : ByteArray) (ml : Nat) (ret : Option FieldType) (rm : Room) (n0 : Nat) (as' : Array Value) (h : Heap) (Q : Option Value → Heap → Prop) : Prop :=
  ∀ ws, MetFree l y (head1 (Jvm.Cond.code y by0 ml ret :: ws) rm) (fun a U => a = as' ∧ Z.Warmed39 U.vm ∧ U.heap = h) (fun _ _ _ _ _ => True) (fun _ U o U' => ∃ v L, o = .returned v ∧ ((Q v U'.heap ∧ h.size ≤ U'.heap.size) ∧ Fr n0 L) ∧ FrameEnd U o U' L rm.cells rm.slots)
theorem OGo.st {T T' : State} {g g' : JFrame} (st : ∀ target, Steps p.tables e below (T'.setTop g') target → Steps p.tables e below (T.setTop g) target) (hr : OGo p e below K T' g') : OGo p e below K T g := by
  obtain ⟨t, o, h1, h2⟩ := hr
  exact ⟨t, o, st t h1, h2⟩
theorem OGo.tr {T T' : State} {g g' : JFrame} (st : Steps p.tables e below (T.setTop g) (T'.setTop g')) (hr : OGo p e below K T' g') : OGo p e below K T g := by
  obtain ⟨t, o, h1, h2⟩ := hr
  exact ⟨t, o, st.trans h1, h2⟩
theorem Ctr.of {y : MethodName} {ret : Option FieldType} {rm : Room} {as' : Array Value} {Q : Option Value → Heap → Prop} (hpl : plainFor y = true) (hn : n0 ≤ h.size)
    (body : ∀ p e s m below meth c T, Cx p s m c Z y.cls by0 ml → meth.name = y.name → meth.sig.returnType = ret → meth.locks = false → Sd p l e rm s m as' below meth c n0 T h 0 0 → OGo p e below (Kk s below n0 Q rm.cells rm.slots) T (entryFrame m as' ml)) :
    Ctr l Z y by0 ml ret rm n0 as' h Q := by
  intro ws
  refine MetFree.of_bodySF hpl hisR ?_
  intro p e s m args below meth c s₁ Bd hml0 hP hK
  obtain ⟨rfl, hZ, hh⟩ := hP
  have hown : s.vm.findClass y.cls = some m.cls := findClass_of_methodNamed Bd.named
  have hnm := (name_of_methodNamed Bd.named Bd.method).1
  have X0 := Stand.of_body Bd
  have e0 : s₁.heap = h := by rw [← hh, Bd.state]; rfl
  obtain ⟨t, o, h1, h2, h3, v, L, h4, ⟨h5, h6⟩, h7⟩ := body p e s m below meth c s₁ ⟨Bd.exec, hZ, hown, Bd.bytes, hml0⟩ hnm Bd.returns (BodyLoose.notSynchronized Bd) ⟨e0, hn, [], X0, Fr.nil n0⟩
  exact ⟨t, o, h1, h2, h3, v, L, h4, ⟨⟨h5, by rw [← hh]; exact h7.2.2.2.1⟩, h6⟩, h7⟩
theorem Ctr.mono {y : MethodName} {ret : Option FieldType} {rm : Room} {as' : Array Value} {Q Q' : Option Value → Heap → Prop} (hM : Ctr l Z y by0 ml ret rm n0 as' h Q) (hq : ∀ v h', Q v h' → Q' v h') : Ctr l Z y by0 ml ret rm n0 as' h Q' := by
  intro ws p e ha hc hk s m args below hf happ hP hK
  obtain ⟨n, o, h1, h2, h3, v, L, h4, ⟨⟨h5, h8⟩, h6⟩, h7⟩ := hM ws p e ha hc hk s m args below hf happ hP hK
  exact ⟨n, o, h1, h2, h3, v, L, h4, ⟨⟨hq _ _ h5, h8⟩, h6⟩, h7⟩
theorem Sd.up (X : Sd p l e R s m args below meth c n0 T h cells slots) (hc : cells ≤ cells') (hs : slots ≤ slots') : Sd p l e R s m args below meth c n0 T h cells' slots' := by
  obtain ⟨h1, h2, locs, Y, N⟩ := X
  exact ⟨h1, h2, locs, { Y with same := Y.same.mono hc hs }, N⟩
theorem OGo.iload (C : Cx p s m c Z own by0 ml) (X : Sd p l e R s m args below meth c n0 T h cells slots) {k : Nat} {v : Int32} (hd : decode by0 pc = .ok (.iload k, 2)) (hp : pc + 2 = pc') (hl : Ls[k]? = some (.val (.int v))) (hr : OGo p e below K T (mkF m pc' Ls (.int v :: St))) : OGo p e below K T (mkF m pc Ls (St)) := by
  subst hp
  obtain ⟨-, -, locs, Y, -⟩ := X
  exact OGo.st (fun t k => XS.iload Y.here C.1 rfl (hb C.2.2.2.1 hd) hl k) hr
theorem OGo.iloadN (C : Cx p s m c Z own by0 ml) (X : Sd p l e R s m args below meth c n0 T h cells slots) {k : Fin 4} {v : Int32} (hd : decode by0 pc = .ok (.iload_n k, 1)) (hp : pc + 1 = pc') (hl : Ls[k.val]? = some (.val (.int v))) (hr : OGo p e below K T (mkF m pc' Ls (.int v :: St))) : OGo p e below K T (mkF m pc Ls (St)) := by
  subst hp
  obtain ⟨-, -, locs, Y, -⟩ := X
  exact OGo.st (fun t k => XS.iloadN Y.here C.1 rfl (hb C.2.2.2.1 hd) hl k) hr
theorem OGo.lload (C : Cx p s m c Z own by0 ml) (X : Sd p l e R s m args below meth c n0 T h cells slots) {k : Nat} {v : Int64} (hd : decode by0 pc = .ok (.lload k, 2)) (hp : pc + 2 = pc') (hl : Ls[k]? = some (.val (.long v))) (hr : OGo p e below K T (mkF m pc' Ls (.long v :: St))) : OGo p e below K T (mkF m pc Ls (St)) := by
  subst hp
  obtain ⟨-, -, locs, Y, -⟩ := X
  exact OGo.st (fun t k => XS.lload Y.here C.1 rfl (hb C.2.2.2.1 hd) hl k) hr
theorem OGo.lloadN (C : Cx p s m c Z own by0 ml) (X : Sd p l e R s m args below meth c n0 T h cells slots) {k : Fin 4} {v : Int64} (hd : decode by0 pc = .ok (.lload_n k, 1)) (hp : pc + 1 = pc') (hl : Ls[k.val]? = some (.val (.long v))) (hr : OGo p e below K T (mkF m pc' Ls (.long v :: St))) : OGo p e below K T (mkF m pc Ls (St)) := by
  subst hp
  obtain ⟨-, -, locs, Y, -⟩ := X
  exact OGo.st (fun t k => XS.lloadN Y.here C.1 rfl (hb C.2.2.2.1 hd) hl k) hr
theorem OGo.dload (C : Cx p s m c Z own by0 ml) (X : Sd p l e R s m args below meth c n0 T h cells slots) {k : Nat} {v : UInt64} (hd : decode by0 pc = .ok (.dload k, 2)) (hp : pc + 2 = pc') (hl : Ls[k]? = some (.val (.double v))) (hr : OGo p e below K T (mkF m pc' Ls (.double v :: St))) : OGo p e below K T (mkF m pc Ls (St)) := by
  subst hp
  obtain ⟨-, -, locs, Y, -⟩ := X
  exact OGo.st (fun t k => XS.dload Y.here C.1 rfl (hb C.2.2.2.1 hd) hl k) hr
theorem OGo.dloadN (C : Cx p s m c Z own by0 ml) (X : Sd p l e R s m args below meth c n0 T h cells slots) {k : Fin 4} {v : UInt64} (hd : decode by0 pc = .ok (.dload_n k, 1)) (hp : pc + 1 = pc') (hl : Ls[k.val]? = some (.val (.double v))) (hr : OGo p e below K T (mkF m pc' Ls (.double v :: St))) : OGo p e below K T (mkF m pc Ls (St)) := by
  subst hp
  obtain ⟨-, -, locs, Y, -⟩ := X
  exact OGo.st (fun t k => XS.dloadN Y.here C.1 rfl (hb C.2.2.2.1 hd) hl k) hr
theorem OGo.aload (C : Cx p s m c Z own by0 ml) (X : Sd p l e R s m args below meth c n0 T h cells slots) {k : Nat} {v : Value} (hd : decode by0 pc = .ok (.aload k, 2)) (hp : pc + 2 = pc') (hl : Ls[k]? = some (.val v)) (hv : v.isRef = true) (hr : OGo p e below K T (mkF m pc' Ls (v :: St))) : OGo p e below K T (mkF m pc Ls (St)) := by
  subst hp
  obtain ⟨-, -, locs, Y, -⟩ := X
  exact OGo.st (fun t k => XS.aload Y.here C.1 rfl (hb C.2.2.2.1 hd) hl hv k) hr
theorem OGo.aloadN (C : Cx p s m c Z own by0 ml) (X : Sd p l e R s m args below meth c n0 T h cells slots) {k : Fin 4} {v : Value} (hd : decode by0 pc = .ok (.aload_n k, 1)) (hp : pc + 1 = pc') (hl : Ls[k.val]? = some (.val v)) (hv : v.isRef = true) (hr : OGo p e below K T (mkF m pc' Ls (v :: St))) : OGo p e below K T (mkF m pc Ls (St)) := by
  subst hp
  obtain ⟨-, -, locs, Y, -⟩ := X
  exact OGo.st (fun t k => XS.aloadN Y.here C.1 rfl (hb C.2.2.2.1 hd) hl hv k) hr
theorem OGo.istore (C : Cx p s m c Z own by0 ml) (X : Sd p l e R s m args below meth c n0 T h cells slots) {k : Nat} {x : Int32} {l' : Array Slot} (hd : decode by0 pc = .ok (.istore k, 2)) (hp : pc + 2 = pc') (hl : storeLocals Ls k (.int x) = some l') (hr : OGo p e below K T (mkF m pc' l' (St))) : OGo p e below K T (mkF m pc Ls (.int x :: St)) := by
  subst hp
  obtain ⟨-, -, locs, Y, -⟩ := X
  exact OGo.st (fun t k => XS.istore Y.here C.1 rfl (hb C.2.2.2.1 hd) rfl hl k) hr
theorem OGo.istoreN (C : Cx p s m c Z own by0 ml) (X : Sd p l e R s m args below meth c n0 T h cells slots) {k : Fin 4} {x : Int32} {l' : Array Slot} (hd : decode by0 pc = .ok (.istore_n k, 1)) (hp : pc + 1 = pc') (hl : storeLocals Ls k.val (.int x) = some l') (hr : OGo p e below K T (mkF m pc' l' (St))) : OGo p e below K T (mkF m pc Ls (.int x :: St)) := by
  subst hp
  obtain ⟨-, -, locs, Y, -⟩ := X
  exact OGo.st (fun t k => XS.istoreN Y.here C.1 rfl (hb C.2.2.2.1 hd) rfl hl k) hr
theorem OGo.lstore (C : Cx p s m c Z own by0 ml) (X : Sd p l e R s m args below meth c n0 T h cells slots) {k : Nat} {x : Int64} {l' : Array Slot} (hd : decode by0 pc = .ok (.lstore k, 2)) (hp : pc + 2 = pc') (hl : storeLocals Ls k (.long x) = some l') (hr : OGo p e below K T (mkF m pc' l' (St))) : OGo p e below K T (mkF m pc Ls (.long x :: St)) := by
  subst hp
  obtain ⟨-, -, locs, Y, -⟩ := X
  exact OGo.st (fun t k => XS.lstore Y.here C.1 rfl (hb C.2.2.2.1 hd) rfl hl k) hr
theorem OGo.lstoreN (C : Cx p s m c Z own by0 ml) (X : Sd p l e R s m args below meth c n0 T h cells slots) {k : Fin 4} {x : Int64} {l' : Array Slot} (hd : decode by0 pc = .ok (.lstore_n k, 1)) (hp : pc + 1 = pc') (hl : storeLocals Ls k.val (.long x) = some l') (hr : OGo p e below K T (mkF m pc' l' (St))) : OGo p e below K T (mkF m pc Ls (.long x :: St)) := by
  subst hp
  obtain ⟨-, -, locs, Y, -⟩ := X
  exact OGo.st (fun t k => XS.lstoreN Y.here C.1 rfl (hb C.2.2.2.1 hd) rfl hl k) hr
theorem OGo.dstore (C : Cx p s m c Z own by0 ml) (X : Sd p l e R s m args below meth c n0 T h cells slots) {k : Nat} {x : UInt64} {l' : Array Slot} (hd : decode by0 pc = .ok (.dstore k, 2)) (hp : pc + 2 = pc') (hl : storeLocals Ls k (.double x) = some l') (hr : OGo p e below K T (mkF m pc' l' (St))) : OGo p e below K T (mkF m pc Ls (.double x :: St)) := by
  subst hp
  obtain ⟨-, -, locs, Y, -⟩ := X
  exact OGo.st (fun t k => XS.dstore Y.here C.1 rfl (hb C.2.2.2.1 hd) rfl hl k) hr
theorem OGo.dstoreN (C : Cx p s m c Z own by0 ml) (X : Sd p l e R s m args below meth c n0 T h cells slots) {k : Fin 4} {x : UInt64} {l' : Array Slot} (hd : decode by0 pc = .ok (.dstore_n k, 1)) (hp : pc + 1 = pc') (hl : storeLocals Ls k.val (.double x) = some l') (hr : OGo p e below K T (mkF m pc' l' (St))) : OGo p e below K T (mkF m pc Ls (.double x :: St)) := by
  subst hp
  obtain ⟨-, -, locs, Y, -⟩ := X
  exact OGo.st (fun t k => XS.dstoreN Y.here C.1 rfl (hb C.2.2.2.1 hd) rfl hl k) hr
theorem OGo.astore (C : Cx p s m c Z own by0 ml) (X : Sd p l e R s m args below meth c n0 T h cells slots) {k : Nat} {x : Value} {l' : Array Slot} (hd : decode by0 pc = .ok (.astore k, 2)) (hp : pc + 2 = pc') (hv : x.isRef = true) (hl : storeLocals Ls k x = some l') (hr : OGo p e below K T (mkF m pc' l' (St))) : OGo p e below K T (mkF m pc Ls (x :: St)) := by
  subst hp
  obtain ⟨-, -, locs, Y, -⟩ := X
  exact OGo.st (fun t k => XS.astore Y.here C.1 rfl (hb C.2.2.2.1 hd) rfl hv hl k) hr
theorem OGo.astoreN (C : Cx p s m c Z own by0 ml) (X : Sd p l e R s m args below meth c n0 T h cells slots) {k : Fin 4} {x : Value} {l' : Array Slot} (hd : decode by0 pc = .ok (.astore_n k, 1)) (hp : pc + 1 = pc') (hv : x.isRef = true) (hl : storeLocals Ls k.val x = some l') (hr : OGo p e below K T (mkF m pc' l' (St))) : OGo p e below K T (mkF m pc Ls (x :: St)) := by
  subst hp
  obtain ⟨-, -, locs, Y, -⟩ := X
  exact OGo.st (fun t k => XS.astoreN Y.here C.1 rfl (hb C.2.2.2.1 hd) rfl hv hl k) hr
theorem OGo.iconst (C : Cx p s m c Z own by0 ml) (X : Sd p l e R s m args below meth c n0 T h cells slots) {i : Int} {z : Int32} (hd : decode by0 pc = .ok (.iconst i, 1)) (hp : pc + 1 = pc') (hz : Int32.ofInt i = z) (hr : OGo p e below K T (mkF m pc' Ls (.int z :: St))) : OGo p e below K T (mkF m pc Ls (St)) := by
  subst hp
  subst hz
  obtain ⟨-, -, locs, Y, -⟩ := X
  exact OGo.st (fun t k => XS.iconst Y.here C.1 rfl (hb C.2.2.2.1 hd)  k) hr
theorem OGo.bipush (C : Cx p s m c Z own by0 ml) (X : Sd p l e R s m args below meth c n0 T h cells slots) {i : Int} {z : Int32} (hd : decode by0 pc = .ok (.bipush i, 2)) (hp : pc + 2 = pc') (hz : (Int8.ofInt i).toInt32 = z) (hr : OGo p e below K T (mkF m pc' Ls (.int z :: St))) : OGo p e below K T (mkF m pc Ls (St)) := by
  subst hp
  subst hz
  obtain ⟨-, -, locs, Y, -⟩ := X
  exact OGo.st (fun t k => XS.bipush Y.here C.1 rfl (hb C.2.2.2.1 hd)  k) hr
theorem OGo.sipush (C : Cx p s m c Z own by0 ml) (X : Sd p l e R s m args below meth c n0 T h cells slots) {i : Int} {z : Int32} (hd : decode by0 pc = .ok (.sipush i, 3)) (hp : pc + 3 = pc') (hz : (Int16.ofInt i).toInt32 = z) (hr : OGo p e below K T (mkF m pc' Ls (.int z :: St))) : OGo p e below K T (mkF m pc Ls (St)) := by
  subst hp
  subst hz
  obtain ⟨-, -, locs, Y, -⟩ := X
  exact OGo.st (fun t k => XS.sipush Y.here C.1 rfl (hb C.2.2.2.1 hd)  k) hr
theorem OGo.lconst (C : Cx p s m c Z own by0 ml) (X : Sd p l e R s m args below meth c n0 T h cells slots) {k : Fin 2} {z : Int64} (hd : decode by0 pc = .ok (.lconst k, 1)) (hp : pc + 1 = pc') (hz : Int64.ofNat k = z) (hr : OGo p e below K T (mkF m pc' Ls (.long z :: St))) : OGo p e below K T (mkF m pc Ls (St)) := by
  subst hp
  subst hz
  obtain ⟨-, -, locs, Y, -⟩ := X
  exact OGo.st (fun t k => XS.lconst Y.here C.1 rfl (hb C.2.2.2.1 hd)  k) hr
theorem OGo.dconst0 (C : Cx p s m c Z own by0 ml) (X : Sd p l e R s m args below meth c n0 T h cells slots) {v : UInt64} (hd : decode by0 pc = .ok (.dconst 0, 1)) (hp : pc + 1 = pc') (hz : FP.dconst0 = v) (hr : OGo p e below K T (mkF m pc' Ls (.double v :: St))) : OGo p e below K T (mkF m pc Ls (St)) := by
  subst hp
  obtain ⟨-, -, locs, Y, -⟩ := X
  exact OGo.st (fun t k => XS.dconst0 Y.here C.1 rfl (hb C.2.2.2.1 hd) hz k) hr
theorem OGo.dconst1 (C : Cx p s m c Z own by0 ml) (X : Sd p l e R s m args below meth c n0 T h cells slots) {v : UInt64} (hd : decode by0 pc = .ok (.dconst 1, 1)) (hp : pc + 1 = pc') (hz : FP.dconst1 = v) (hr : OGo p e below K T (mkF m pc' Ls (.double v :: St))) : OGo p e below K T (mkF m pc Ls (St)) := by
  subst hp
  obtain ⟨-, -, locs, Y, -⟩ := X
  exact OGo.st (fun t k => XS.dconst1 Y.here C.1 rfl (hb C.2.2.2.1 hd) hz k) hr
theorem OGo.aconst_null (C : Cx p s m c Z own by0 ml) (X : Sd p l e R s m args below meth c n0 T h cells slots)  (hd : decode by0 pc = .ok (.aconst_null, 1)) (hp : pc + 1 = pc')  (hr : OGo p e below K T (mkF m pc' Ls (.null :: St))) : OGo p e below K T (mkF m pc Ls (St)) := by
  subst hp
  obtain ⟨-, -, locs, Y, -⟩ := X
  exact OGo.st (fun t k => XS.aconstNull Y.here C.1 rfl (hb C.2.2.2.1 hd)  k) hr
theorem OGo.iadd (C : Cx p s m c Z own by0 ml) (X : Sd p l e R s m args below meth c n0 T h cells slots) {x y z : Int32} (hd : decode by0 pc = .ok (.iadd, 1)) (hp : pc + 1 = pc') (hz : x + y = z) (hr : OGo p e below K T (mkF m pc' Ls (.int z :: St))) : OGo p e below K T (mkF m pc Ls (.int y :: .int x :: St)) := by
  subst hp
  subst hz
  obtain ⟨-, -, locs, Y, -⟩ := X
  exact OGo.st (fun t k => XS.iadd Y.here C.1 rfl (hb C.2.2.2.1 hd) rfl k) hr
theorem OGo.isub (C : Cx p s m c Z own by0 ml) (X : Sd p l e R s m args below meth c n0 T h cells slots) {x y z : Int32} (hd : decode by0 pc = .ok (.isub, 1)) (hp : pc + 1 = pc') (hz : x - y = z) (hr : OGo p e below K T (mkF m pc' Ls (.int z :: St))) : OGo p e below K T (mkF m pc Ls (.int y :: .int x :: St)) := by
  subst hp
  subst hz
  obtain ⟨-, -, locs, Y, -⟩ := X
  exact OGo.st (fun t k => XS.isub Y.here C.1 rfl (hb C.2.2.2.1 hd) rfl k) hr
theorem OGo.imul (C : Cx p s m c Z own by0 ml) (X : Sd p l e R s m args below meth c n0 T h cells slots) {x y z : Int32} (hd : decode by0 pc = .ok (.imul, 1)) (hp : pc + 1 = pc') (hz : x * y = z) (hr : OGo p e below K T (mkF m pc' Ls (.int z :: St))) : OGo p e below K T (mkF m pc Ls (.int y :: .int x :: St)) := by
  subst hp
  subst hz
  obtain ⟨-, -, locs, Y, -⟩ := X
  exact OGo.st (fun t k => XS.imul Y.here C.1 rfl (hb C.2.2.2.1 hd) rfl k) hr
theorem OGo.iand (C : Cx p s m c Z own by0 ml) (X : Sd p l e R s m args below meth c n0 T h cells slots) {x y z : Int32} (hd : decode by0 pc = .ok (.iand, 1)) (hp : pc + 1 = pc') (hz : x &&& y = z) (hr : OGo p e below K T (mkF m pc' Ls (.int z :: St))) : OGo p e below K T (mkF m pc Ls (.int y :: .int x :: St)) := by
  subst hp
  subst hz
  obtain ⟨-, -, locs, Y, -⟩ := X
  exact OGo.st (fun t k => XS.iand Y.here C.1 rfl (hb C.2.2.2.1 hd) rfl k) hr
theorem OGo.ior (C : Cx p s m c Z own by0 ml) (X : Sd p l e R s m args below meth c n0 T h cells slots) {x y z : Int32} (hd : decode by0 pc = .ok (.ior, 1)) (hp : pc + 1 = pc') (hz : x ||| y = z) (hr : OGo p e below K T (mkF m pc' Ls (.int z :: St))) : OGo p e below K T (mkF m pc Ls (.int y :: .int x :: St)) := by
  subst hp
  subst hz
  obtain ⟨-, -, locs, Y, -⟩ := X
  exact OGo.st (fun t k => XS.ior Y.here C.1 rfl (hb C.2.2.2.1 hd) rfl k) hr
theorem OGo.ixor (C : Cx p s m c Z own by0 ml) (X : Sd p l e R s m args below meth c n0 T h cells slots) {x y z : Int32} (hd : decode by0 pc = .ok (.ixor, 1)) (hp : pc + 1 = pc') (hz : x ^^^ y = z) (hr : OGo p e below K T (mkF m pc' Ls (.int z :: St))) : OGo p e below K T (mkF m pc Ls (.int y :: .int x :: St)) := by
  subst hp
  subst hz
  obtain ⟨-, -, locs, Y, -⟩ := X
  exact OGo.st (fun t k => XS.ixor Y.here C.1 rfl (hb C.2.2.2.1 hd) rfl k) hr
theorem OGo.ishl (C : Cx p s m c Z own by0 ml) (X : Sd p l e R s m args below meth c n0 T h cells slots) {x y z : Int32} (hd : decode by0 pc = .ok (.ishl, 1)) (hp : pc + 1 = pc') (hz : x <<< (y &&& 31) = z) (hr : OGo p e below K T (mkF m pc' Ls (.int z :: St))) : OGo p e below K T (mkF m pc Ls (.int y :: .int x :: St)) := by
  subst hp
  subst hz
  obtain ⟨-, -, locs, Y, -⟩ := X
  exact OGo.st (fun t k => XS.ishl Y.here C.1 rfl (hb C.2.2.2.1 hd) rfl k) hr
theorem OGo.ishr (C : Cx p s m c Z own by0 ml) (X : Sd p l e R s m args below meth c n0 T h cells slots) {x y z : Int32} (hd : decode by0 pc = .ok (.ishr, 1)) (hp : pc + 1 = pc') (hz : x >>> (y &&& 31) = z) (hr : OGo p e below K T (mkF m pc' Ls (.int z :: St))) : OGo p e below K T (mkF m pc Ls (.int y :: .int x :: St)) := by
  subst hp
  subst hz
  obtain ⟨-, -, locs, Y, -⟩ := X
  exact OGo.st (fun t k => XS.ishr Y.here C.1 rfl (hb C.2.2.2.1 hd) rfl k) hr
theorem OGo.iushr (C : Cx p s m c Z own by0 ml) (X : Sd p l e R s m args below meth c n0 T h cells slots) {x y z : Int32} (hd : decode by0 pc = .ok (.iushr, 1)) (hp : pc + 1 = pc') (hz : (x.toUInt32 >>> (y &&& 31).toUInt32).toInt32 = z) (hr : OGo p e below K T (mkF m pc' Ls (.int z :: St))) : OGo p e below K T (mkF m pc Ls (.int y :: .int x :: St)) := by
  subst hp
  subst hz
  obtain ⟨-, -, locs, Y, -⟩ := X
  exact OGo.st (fun t k => XS.iushr Y.here C.1 rfl (hb C.2.2.2.1 hd) rfl k) hr
theorem OGo.idiv (C : Cx p s m c Z own by0 ml) (X : Sd p l e R s m args below meth c n0 T h cells slots) {x y z : Int32} (hd : decode by0 pc = .ok (.idiv, 1)) (hp : pc + 1 = pc') (hy : y ≠ 0) (hz : x / y = z) (hr : OGo p e below K T (mkF m pc' Ls (.int z :: St))) : OGo p e below K T (mkF m pc Ls (.int y :: .int x :: St)) := by
  subst hp
  subst hz
  obtain ⟨-, -, locs, Y, -⟩ := X
  exact OGo.st (fun t k => XS.idiv Y.here C.1 rfl (hb C.2.2.2.1 hd) rfl hy k) hr
theorem OGo.irem (C : Cx p s m c Z own by0 ml) (X : Sd p l e R s m args below meth c n0 T h cells slots) {x y z : Int32} (hd : decode by0 pc = .ok (.irem, 1)) (hp : pc + 1 = pc') (hy : y ≠ 0) (hz : x % y = z) (hr : OGo p e below K T (mkF m pc' Ls (.int z :: St))) : OGo p e below K T (mkF m pc Ls (.int y :: .int x :: St)) := by
  subst hp
  subst hz
  obtain ⟨-, -, locs, Y, -⟩ := X
  exact OGo.st (fun t k => iremM Y C.1 rfl (hb C.2.2.2.1 hd) rfl hy k) hr
theorem OGo.ineg (C : Cx p s m c Z own by0 ml) (X : Sd p l e R s m args below meth c n0 T h cells slots) {x z : Int32} (hd : decode by0 pc = .ok (.ineg, 1)) (hp : pc + 1 = pc') (hz : -x = z) (hr : OGo p e below K T (mkF m pc' Ls (.int z :: St))) : OGo p e below K T (mkF m pc Ls (.int x :: St)) := by
  subst hp
  subst hz
  obtain ⟨-, -, locs, Y, -⟩ := X
  exact OGo.st (fun t k => XS.ineg Y.here C.1 rfl (hb C.2.2.2.1 hd) rfl k) hr
theorem OGo.iinc (C : Cx p s m c Z own by0 ml) (X : Sd p l e R s m args below meth c n0 T h cells slots) {k : Nat} {cst : Int} {x z : Int32} {l' : Array Slot} (hd : decode by0 pc = .ok (.iinc k cst, 3)) (hp : pc + 3 = pc') (hl : Ls[k]? = some (.val (.int x))) (hz : x + Int32.ofInt cst = z) (hl' : storeLocals Ls k (.int z) = some l') (hr : OGo p e below K T (mkF m pc' l' (St))) : OGo p e below K T (mkF m pc Ls (St)) := by
  subst hp
  subst hz
  obtain ⟨-, -, locs, Y, -⟩ := X
  exact OGo.st (fun t k => XS.iinc Y.here C.1 rfl (hb C.2.2.2.1 hd) hl hl' k) hr
theorem OGo.ladd (C : Cx p s m c Z own by0 ml) (X : Sd p l e R s m args below meth c n0 T h cells slots) {x y z : Int64} (hd : decode by0 pc = .ok (.ladd, 1)) (hp : pc + 1 = pc') (hz : x + y = z) (hr : OGo p e below K T (mkF m pc' Ls (.long z :: St))) : OGo p e below K T (mkF m pc Ls (.long y :: .long x :: St)) := by
  subst hp
  subst hz
  obtain ⟨-, -, locs, Y, -⟩ := X
  exact OGo.st (fun t k => XS.ladd Y.here C.1 rfl (hb C.2.2.2.1 hd) rfl k) hr
theorem OGo.lsub (C : Cx p s m c Z own by0 ml) (X : Sd p l e R s m args below meth c n0 T h cells slots) {x y z : Int64} (hd : decode by0 pc = .ok (.lsub, 1)) (hp : pc + 1 = pc') (hz : x - y = z) (hr : OGo p e below K T (mkF m pc' Ls (.long z :: St))) : OGo p e below K T (mkF m pc Ls (.long y :: .long x :: St)) := by
  subst hp
  subst hz
  obtain ⟨-, -, locs, Y, -⟩ := X
  exact OGo.st (fun t k => XS.lsub Y.here C.1 rfl (hb C.2.2.2.1 hd) rfl k) hr
theorem OGo.lmul (C : Cx p s m c Z own by0 ml) (X : Sd p l e R s m args below meth c n0 T h cells slots) {x y z : Int64} (hd : decode by0 pc = .ok (.lmul, 1)) (hp : pc + 1 = pc') (hz : x * y = z) (hr : OGo p e below K T (mkF m pc' Ls (.long z :: St))) : OGo p e below K T (mkF m pc Ls (.long y :: .long x :: St)) := by
  subst hp
  subst hz
  obtain ⟨-, -, locs, Y, -⟩ := X
  exact OGo.st (fun t k => XS.lmul Y.here C.1 rfl (hb C.2.2.2.1 hd) rfl k) hr
theorem OGo.land (C : Cx p s m c Z own by0 ml) (X : Sd p l e R s m args below meth c n0 T h cells slots) {x y z : Int64} (hd : decode by0 pc = .ok (.land, 1)) (hp : pc + 1 = pc') (hz : x &&& y = z) (hr : OGo p e below K T (mkF m pc' Ls (.long z :: St))) : OGo p e below K T (mkF m pc Ls (.long y :: .long x :: St)) := by
  subst hp
  subst hz
  obtain ⟨-, -, locs, Y, -⟩ := X
  exact OGo.st (fun t k => XS.land Y.here C.1 rfl (hb C.2.2.2.1 hd) rfl k) hr
theorem OGo.lor (C : Cx p s m c Z own by0 ml) (X : Sd p l e R s m args below meth c n0 T h cells slots) {x y z : Int64} (hd : decode by0 pc = .ok (.lor, 1)) (hp : pc + 1 = pc') (hz : x ||| y = z) (hr : OGo p e below K T (mkF m pc' Ls (.long z :: St))) : OGo p e below K T (mkF m pc Ls (.long y :: .long x :: St)) := by
  subst hp
  subst hz
  obtain ⟨-, -, locs, Y, -⟩ := X
  exact OGo.st (fun t k => XS.lor Y.here C.1 rfl (hb C.2.2.2.1 hd) rfl k) hr
theorem OGo.lxor (C : Cx p s m c Z own by0 ml) (X : Sd p l e R s m args below meth c n0 T h cells slots) {x y z : Int64} (hd : decode by0 pc = .ok (.lxor, 1)) (hp : pc + 1 = pc') (hz : x ^^^ y = z) (hr : OGo p e below K T (mkF m pc' Ls (.long z :: St))) : OGo p e below K T (mkF m pc Ls (.long y :: .long x :: St)) := by
  subst hp
  subst hz
  obtain ⟨-, -, locs, Y, -⟩ := X
  exact OGo.st (fun t k => XS.lxor Y.here C.1 rfl (hb C.2.2.2.1 hd) rfl k) hr
theorem OGo.lshl (C : Cx p s m c Z own by0 ml) (X : Sd p l e R s m args below meth c n0 T h cells slots) {x z : Int64} {y : Int32} (hd : decode by0 pc = .ok (.lshl, 1)) (hp : pc + 1 = pc') (hz : x <<< (y &&& 0x3f).toInt64 = z) (hr : OGo p e below K T (mkF m pc' Ls (.long z :: St))) : OGo p e below K T (mkF m pc Ls (.int y :: .long x :: St)) := by
  subst hp
  subst hz
  obtain ⟨-, -, locs, Y, -⟩ := X
  exact OGo.st (fun t k => XS.lshl Y.here C.1 rfl (hb C.2.2.2.1 hd) rfl k) hr
theorem OGo.lshr (C : Cx p s m c Z own by0 ml) (X : Sd p l e R s m args below meth c n0 T h cells slots) {x z : Int64} {y : Int32} (hd : decode by0 pc = .ok (.lshr, 1)) (hp : pc + 1 = pc') (hz : x >>> (y &&& 0x3f).toInt64 = z) (hr : OGo p e below K T (mkF m pc' Ls (.long z :: St))) : OGo p e below K T (mkF m pc Ls (.int y :: .long x :: St)) := by
  subst hp
  subst hz
  obtain ⟨-, -, locs, Y, -⟩ := X
  exact OGo.st (fun t k => XS.lshr Y.here C.1 rfl (hb C.2.2.2.1 hd) rfl k) hr
theorem OGo.lushr (C : Cx p s m c Z own by0 ml) (X : Sd p l e R s m args below meth c n0 T h cells slots) {x z : Int64} {y : Int32} (hd : decode by0 pc = .ok (.lushr, 1)) (hp : pc + 1 = pc') (hz : (x.toUInt64 >>> (y &&& 0x3f).toInt64.toUInt64).toInt64 = z) (hr : OGo p e below K T (mkF m pc' Ls (.long z :: St))) : OGo p e below K T (mkF m pc Ls (.int y :: .long x :: St)) := by
  subst hp
  subst hz
  obtain ⟨-, -, locs, Y, -⟩ := X
  exact OGo.st (fun t k => XS.lushr Y.here C.1 rfl (hb C.2.2.2.1 hd) rfl k) hr
theorem OGo.ldiv (C : Cx p s m c Z own by0 ml) (X : Sd p l e R s m args below meth c n0 T h cells slots) {x y z : Int64} (hd : decode by0 pc = .ok (.ldiv, 1)) (hp : pc + 1 = pc') (hy : y ≠ 0) (hz : x / y = z) (hr : OGo p e below K T (mkF m pc' Ls (.long z :: St))) : OGo p e below K T (mkF m pc Ls (.long y :: .long x :: St)) := by
  subst hp
  subst hz
  obtain ⟨-, -, locs, Y, -⟩ := X
  exact OGo.st (fun t k => XS.ldiv Y.here C.1 rfl (hb C.2.2.2.1 hd) rfl hy k) hr
theorem OGo.lrem (C : Cx p s m c Z own by0 ml) (X : Sd p l e R s m args below meth c n0 T h cells slots) {x y z : Int64} (hd : decode by0 pc = .ok (.lrem, 1)) (hp : pc + 1 = pc') (hy : y ≠ 0) (hz : x - (x / y) * y = z) (hr : OGo p e below K T (mkF m pc' Ls (.long z :: St))) : OGo p e below K T (mkF m pc Ls (.long y :: .long x :: St)) := by
  subst hp
  subst hz
  obtain ⟨-, -, locs, Y, -⟩ := X
  exact OGo.st (fun t k => XS.lrem Y.here C.1 rfl (hb C.2.2.2.1 hd) rfl hy k) hr
theorem OGo.lneg (C : Cx p s m c Z own by0 ml) (X : Sd p l e R s m args below meth c n0 T h cells slots) {x z : Int64} (hd : decode by0 pc = .ok (.lneg, 1)) (hp : pc + 1 = pc') (hz : -x = z) (hr : OGo p e below K T (mkF m pc' Ls (.long z :: St))) : OGo p e below K T (mkF m pc Ls (.long x :: St)) := by
  subst hp
  subst hz
  obtain ⟨-, -, locs, Y, -⟩ := X
  exact OGo.st (fun t k => XS.lneg Y.here C.1 rfl (hb C.2.2.2.1 hd) rfl k) hr
theorem OGo.i2l (C : Cx p s m c Z own by0 ml) (X : Sd p l e R s m args below meth c n0 T h cells slots) {x : Int32} {z : Int64} (hd : decode by0 pc = .ok (.i2l, 1)) (hp : pc + 1 = pc') (hz : x.toInt64 = z) (hr : OGo p e below K T (mkF m pc' Ls (.long z :: St))) : OGo p e below K T (mkF m pc Ls (.int x :: St)) := by
  subst hp
  subst hz
  obtain ⟨-, -, locs, Y, -⟩ := X
  exact OGo.st (fun t k => XS.i2l Y.here C.1 rfl (hb C.2.2.2.1 hd) rfl k) hr
theorem OGo.l2i (C : Cx p s m c Z own by0 ml) (X : Sd p l e R s m args below meth c n0 T h cells slots) {x : Int64} {z : Int32} (hd : decode by0 pc = .ok (.l2i, 1)) (hp : pc + 1 = pc') (hz : x.toInt32 = z) (hr : OGo p e below K T (mkF m pc' Ls (.int z :: St))) : OGo p e below K T (mkF m pc Ls (.long x :: St)) := by
  subst hp
  subst hz
  obtain ⟨-, -, locs, Y, -⟩ := X
  exact OGo.st (fun t k => XS.l2i Y.here C.1 rfl (hb C.2.2.2.1 hd) rfl k) hr
theorem OGo.i2b (C : Cx p s m c Z own by0 ml) (X : Sd p l e R s m args below meth c n0 T h cells slots) {x : Int32} {z : Int32} (hd : decode by0 pc = .ok (.i2b, 1)) (hp : pc + 1 = pc') (hz : x.toInt8.toInt32 = z) (hr : OGo p e below K T (mkF m pc' Ls (.int z :: St))) : OGo p e below K T (mkF m pc Ls (.int x :: St)) := by
  subst hp
  subst hz
  obtain ⟨-, -, locs, Y, -⟩ := X
  exact OGo.st (fun t k => XS.i2b Y.here C.1 rfl (hb C.2.2.2.1 hd) rfl k) hr
theorem OGo.i2c (C : Cx p s m c Z own by0 ml) (X : Sd p l e R s m args below meth c n0 T h cells slots) {x : Int32} {z : Int32} (hd : decode by0 pc = .ok (.i2c, 1)) (hp : pc + 1 = pc') (hz : x.toUInt32.toUInt16.toUInt32.toInt32 = z) (hr : OGo p e below K T (mkF m pc' Ls (.int z :: St))) : OGo p e below K T (mkF m pc Ls (.int x :: St)) := by
  subst hp
  subst hz
  obtain ⟨-, -, locs, Y, -⟩ := X
  exact OGo.st (fun t k => XS.i2c Y.here C.1 rfl (hb C.2.2.2.1 hd) rfl k) hr
theorem OGo.i2s (C : Cx p s m c Z own by0 ml) (X : Sd p l e R s m args below meth c n0 T h cells slots) {x : Int32} {z : Int32} (hd : decode by0 pc = .ok (.i2s, 1)) (hp : pc + 1 = pc') (hz : x.toInt16.toInt32 = z) (hr : OGo p e below K T (mkF m pc' Ls (.int z :: St))) : OGo p e below K T (mkF m pc Ls (.int x :: St)) := by
  subst hp
  subst hz
  obtain ⟨-, -, locs, Y, -⟩ := X
  exact OGo.st (fun t k => XS.i2s Y.here C.1 rfl (hb C.2.2.2.1 hd) rfl k) hr
theorem OGo.lcmp (C : Cx p s m c Z own by0 ml) (X : Sd p l e R s m args below meth c n0 T h cells slots) {x y : Int64} {z : Int32} (hd : decode by0 pc = .ok (.lcmp, 1)) (hp : pc + 1 = pc') (hz : lcmpW x y = z) (hr : OGo p e below K T (mkF m pc' Ls (.int z :: St))) : OGo p e below K T (mkF m pc Ls (.long y :: .long x :: St)) := by
  subst hp
  subst hz
  obtain ⟨-, -, locs, Y, -⟩ := X
  exact OGo.st (fun t k => XS.lcmp Y.here C.1 rfl (hb C.2.2.2.1 hd) rfl k) hr
theorem OGo.i2d (C : Cx p s m c Z own by0 ml) (X : Sd p l e R s m args below meth c n0 T h cells slots) {x : Int32} {v : UInt64} (hd : decode by0 pc = .ok (.i2d, 1)) (hp : pc + 1 = pc') (hz : FP.i2d x = v) (hr : OGo p e below K T (mkF m pc' Ls (.double v :: St))) : OGo p e below K T (mkF m pc Ls (.int x :: St)) := by
  subst hp
  obtain ⟨-, -, locs, Y, -⟩ := X
  exact OGo.st (fun t k => XS.i2dS Y.here C.1 rfl (hb C.2.2.2.1 hd) rfl hz k) hr
theorem OGo.l2d (C : Cx p s m c Z own by0 ml) (X : Sd p l e R s m args below meth c n0 T h cells slots) {x : Int64} {v : UInt64} (hd : decode by0 pc = .ok (.l2d, 1)) (hp : pc + 1 = pc') (hz : FP.l2d x = v) (hr : OGo p e below K T (mkF m pc' Ls (.double v :: St))) : OGo p e below K T (mkF m pc Ls (.long x :: St)) := by
  subst hp
  obtain ⟨-, -, locs, Y, -⟩ := X
  exact OGo.st (fun t k => XS.l2dS Y.here C.1 rfl (hb C.2.2.2.1 hd) rfl hz k) hr
theorem OGo.d2i (C : Cx p s m c Z own by0 ml) (X : Sd p l e R s m args below meth c n0 T h cells slots) {x : UInt64} {v : Int32} (hd : decode by0 pc = .ok (.d2i, 1)) (hp : pc + 1 = pc') (hz : FP.d2i x = v) (hr : OGo p e below K T (mkF m pc' Ls (.int v :: St))) : OGo p e below K T (mkF m pc Ls (.double x :: St)) := by
  subst hp
  obtain ⟨-, -, locs, Y, -⟩ := X
  exact OGo.st (fun t k => XS.d2iS Y.here C.1 rfl (hb C.2.2.2.1 hd) rfl hz k) hr
theorem OGo.d2l (C : Cx p s m c Z own by0 ml) (X : Sd p l e R s m args below meth c n0 T h cells slots) {x : UInt64} {v : Int64} (hd : decode by0 pc = .ok (.d2l, 1)) (hp : pc + 1 = pc') (hz : FP.d2l x = v) (hr : OGo p e below K T (mkF m pc' Ls (.long v :: St))) : OGo p e below K T (mkF m pc Ls (.double x :: St)) := by
  subst hp
  obtain ⟨-, -, locs, Y, -⟩ := X
  exact OGo.st (fun t k => XS.d2lS Y.here C.1 rfl (hb C.2.2.2.1 hd) rfl hz k) hr
theorem OGo.dneg (C : Cx p s m c Z own by0 ml) (X : Sd p l e R s m args below meth c n0 T h cells slots) {x : UInt64} {v : UInt64} (hd : decode by0 pc = .ok (.dneg, 1)) (hp : pc + 1 = pc') (hz : FP.dneg x = v) (hr : OGo p e below K T (mkF m pc' Ls (.double v :: St))) : OGo p e below K T (mkF m pc Ls (.double x :: St)) := by
  subst hp
  obtain ⟨-, -, locs, Y, -⟩ := X
  exact OGo.st (fun t k => XS.dnegS Y.here C.1 rfl (hb C.2.2.2.1 hd) rfl hz k) hr
theorem OGo.dcmp (C : Cx p s m c Z own by0 ml) (X : Sd p l e R s m args below meth c n0 T h cells slots) {o : CmpOp} {x y : UInt64} {v : Int32} (hd : decode by0 pc = .ok (.dcmp o, 1)) (hp : pc + 1 = pc') (hz : cmpValue (FP.dcmp x y) o = v) (hr : OGo p e below K T (mkF m pc' Ls (.int v :: St))) : OGo p e below K T (mkF m pc Ls (.double y :: .double x :: St)) := by
  subst hp
  obtain ⟨-, -, locs, Y, -⟩ := X
  exact OGo.st (fun t k => XS.dcmpS Y.here C.1 rfl (hb C.2.2.2.1 hd) rfl hz k) hr
theorem OGo.dadd (C : Cx p s m c Z own by0 ml) (X : Sd p l e R s m args below meth c n0 T h cells slots) {x y v : UInt64} (hd : decode by0 pc = .ok (.dadd, 1)) (hp : pc + 1 = pc') (hn : Jvm.Free.Fl.NoNaN64 (FP.dadd x y)) (hz : FP.dadd x y = v) (hr : OGo p e below K T (mkF m pc' Ls (.double v :: St))) : OGo p e below K T (mkF m pc Ls (.double y :: .double x :: St)) := by
  subst hp
  obtain ⟨-, -, locs, Y, -⟩ := X
  exact OGo.st (fun t k => XS.daddS Y.here C.1 rfl (hb C.2.2.2.1 hd) rfl hn hz k) hr
theorem OGo.dsub (C : Cx p s m c Z own by0 ml) (X : Sd p l e R s m args below meth c n0 T h cells slots) {x y v : UInt64} (hd : decode by0 pc = .ok (.dsub, 1)) (hp : pc + 1 = pc') (hn : Jvm.Free.Fl.NoNaN64 (FP.dsub x y)) (hz : FP.dsub x y = v) (hr : OGo p e below K T (mkF m pc' Ls (.double v :: St))) : OGo p e below K T (mkF m pc Ls (.double y :: .double x :: St)) := by
  subst hp
  obtain ⟨-, -, locs, Y, -⟩ := X
  exact OGo.st (fun t k => XS.dsubS Y.here C.1 rfl (hb C.2.2.2.1 hd) rfl hn hz k) hr
theorem OGo.dmul (C : Cx p s m c Z own by0 ml) (X : Sd p l e R s m args below meth c n0 T h cells slots) {x y v : UInt64} (hd : decode by0 pc = .ok (.dmul, 1)) (hp : pc + 1 = pc') (hn : Jvm.Free.Fl.NoNaN64 (FP.dmul x y)) (hz : FP.dmul x y = v) (hr : OGo p e below K T (mkF m pc' Ls (.double v :: St))) : OGo p e below K T (mkF m pc Ls (.double y :: .double x :: St)) := by
  subst hp
  obtain ⟨-, -, locs, Y, -⟩ := X
  exact OGo.st (fun t k => XS.dmulS Y.here C.1 rfl (hb C.2.2.2.1 hd) rfl hn hz k) hr
theorem OGo.ddiv (C : Cx p s m c Z own by0 ml) (X : Sd p l e R s m args below meth c n0 T h cells slots) {x y v : UInt64} (hd : decode by0 pc = .ok (.ddiv, 1)) (hp : pc + 1 = pc') (hn : Jvm.Free.Fl.NoNaN64 (FP.ddiv x y)) (hz : FP.ddiv x y = v) (hr : OGo p e below K T (mkF m pc' Ls (.double v :: St))) : OGo p e below K T (mkF m pc Ls (.double y :: .double x :: St)) := by
  subst hp
  obtain ⟨-, -, locs, Y, -⟩ := X
  exact OGo.st (fun t k => XS.ddivS Y.here C.1 rfl (hb C.2.2.2.1 hd) rfl hn hz k) hr
theorem OGo.dup (C : Cx p s m c Z own by0 ml) (X : Sd p l e R s m args below meth c n0 T h cells slots) {x : Value} (hd : decode by0 pc = .ok (.dup, 1)) (hp : pc + 1 = pc') (hc : x.category = 1) (hr : OGo p e below K T (mkF m pc' Ls (x :: x :: St))) : OGo p e below K T (mkF m pc Ls (x :: St)) := by
  subst hp
  obtain ⟨-, -, locs, Y, -⟩ := X
  exact OGo.st (fun t k => XS.dup Y.here C.1 rfl (hb C.2.2.2.1 hd) rfl hc k) hr
theorem OGo.pop (C : Cx p s m c Z own by0 ml) (X : Sd p l e R s m args below meth c n0 T h cells slots) {x : Value} (hd : decode by0 pc = .ok (.pop, 1)) (hp : pc + 1 = pc') (hc : x.category = 1) (hr : OGo p e below K T (mkF m pc' Ls (St))) : OGo p e below K T (mkF m pc Ls (x :: St)) := by
  subst hp
  obtain ⟨-, -, locs, Y, -⟩ := X
  exact OGo.st (fun t k => XS.pop Y.here C.1 rfl (hb C.2.2.2.1 hd) rfl hc k) hr
theorem OGo.dup_x1 (C : Cx p s m c Z own by0 ml) (X : Sd p l e R s m args below meth c n0 T h cells slots) {x y : Value} (hd : decode by0 pc = .ok (.dup_x1, 1)) (hp : pc + 1 = pc') (hc : x.category = 1) (hc' : y.category = 1) (hr : OGo p e below K T (mkF m pc' Ls (x :: y :: x :: St))) : OGo p e below K T (mkF m pc Ls (x :: y :: St)) := by
  subst hp
  obtain ⟨-, -, locs, Y, -⟩ := X
  exact OGo.st (fun t k => XS.dupX1 Y.here C.1 rfl (hb C.2.2.2.1 hd) rfl hc hc' k) hr
theorem OGo.dup2 (C : Cx p s m c Z own by0 ml) (X : Sd p l e R s m args below meth c n0 T h cells slots) {x y : Value} (hd : decode by0 pc = .ok (.dup2, 1)) (hp : pc + 1 = pc') (hc : x.category = 1) (hc' : y.category = 1) (hr : OGo p e below K T (mkF m pc' Ls (x :: y :: x :: y :: St))) : OGo p e below K T (mkF m pc Ls (x :: y :: St)) := by
  subst hp
  obtain ⟨-, -, locs, Y, -⟩ := X
  exact OGo.st (fun t k => XT.dup2 Y.here C.1 rfl (hb C.2.2.2.1 hd) rfl hc hc' k) hr
theorem OGo.goto (C : Cx p s m c Z own by0 ml) (X : Sd p l e R s m args below meth c n0 T h cells slots)  {o : Int} (hd : decode by0 pc = .ok (.goto o, 3))  (ho : 0 ≤ (pc : Int) + o) (hp : ((pc : Int) + o).toNat = pc') (hr : OGo p e below K T (mkF m pc' Ls (St))) : OGo p e below K T (mkF m pc Ls (St)) := by
  obtain ⟨-, -, locs, Y, -⟩ := X
  exact OGo.st (fun t k => XS.goto Y.here C.1 rfl (pc0 := pc) rfl (hb C.2.2.2.1 hd)  ho hp k) hr
theorem OGo.ifYes (C : Cx p s m c Z own by0 ml) (X : Sd p l e R s m args below meth c n0 T h cells slots) {cd : ClassFile.Cond} {x : Int32} {o : Int} (hd : decode by0 pc = .ok (.ifCond cd o, 3)) (hc : if_icmp.holds cd x 0 = true) (ho : 0 ≤ (pc : Int) + o) (hp : ((pc : Int) + o).toNat = pc') (hr : OGo p e below K T (mkF m pc' Ls (St))) : OGo p e below K T (mkF m pc Ls (.int x :: St)) := by
  obtain ⟨-, -, locs, Y, -⟩ := X
  exact OGo.st (fun t k => XS.ifYes Y.here C.1 rfl (pc0 := pc) rfl (hb C.2.2.2.1 hd) rfl ((if0 _ _).trans hc) ho hp k) hr
theorem OGo.ifNo (C : Cx p s m c Z own by0 ml) (X : Sd p l e R s m args below meth c n0 T h cells slots) {cd : ClassFile.Cond} {x : Int32} {o : Int} (hd : decode by0 pc = .ok (.ifCond cd o, 3)) (hp : pc + 3 = pc') (hc : if_icmp.holds cd x 0 = false) (hr : OGo p e below K T (mkF m pc' Ls (St))) : OGo p e below K T (mkF m pc Ls (.int x :: St)) := by
  subst hp
  obtain ⟨-, -, locs, Y, -⟩ := X
  exact OGo.st (fun t k => XS.ifNo Y.here C.1 rfl (hb C.2.2.2.1 hd) rfl ((if0 _ _).trans hc) k) hr
theorem OGo.icmpYes (C : Cx p s m c Z own by0 ml) (X : Sd p l e R s m args below meth c n0 T h cells slots) {cd : ClassFile.Cond} {x y : Int32} {o : Int} (hd : decode by0 pc = .ok (.if_icmp cd o, 3)) (hc : if_icmp.holds cd x y = true) (ho : 0 ≤ (pc : Int) + o) (hp : ((pc : Int) + o).toNat = pc') (hr : OGo p e below K T (mkF m pc' Ls (St))) : OGo p e below K T (mkF m pc Ls (.int y :: .int x :: St)) := by
  obtain ⟨-, -, locs, Y, -⟩ := X
  exact OGo.st (fun t k => XS.icmpYes Y.here C.1 rfl (pc0 := pc) rfl (hb C.2.2.2.1 hd) rfl hc ho hp k) hr
theorem OGo.icmpNo (C : Cx p s m c Z own by0 ml) (X : Sd p l e R s m args below meth c n0 T h cells slots) {cd : ClassFile.Cond} {x y : Int32} {o : Int} (hd : decode by0 pc = .ok (.if_icmp cd o, 3)) (hp : pc + 3 = pc') (hc : if_icmp.holds cd x y = false) (hr : OGo p e below K T (mkF m pc' Ls (St))) : OGo p e below K T (mkF m pc Ls (.int y :: .int x :: St)) := by
  subst hp
  obtain ⟨-, -, locs, Y, -⟩ := X
  exact OGo.st (fun t k => XS.icmpNo Y.here C.1 rfl (hb C.2.2.2.1 hd) rfl hc k) hr
theorem OGo.ifnullYes (C : Cx p s m c Z own by0 ml) (X : Sd p l e R s m args below meth c n0 T h cells slots)  {o : Int} (hd : decode by0 pc = .ok (.ifnull o, 3))  (ho : 0 ≤ (pc : Int) + o) (hp : ((pc : Int) + o).toNat = pc') (hr : OGo p e below K T (mkF m pc' Ls (St))) : OGo p e below K T (mkF m pc Ls (.null :: St)) := by
  obtain ⟨-, -, locs, Y, -⟩ := X
  exact OGo.st (fun t k => XS.ifnullYes Y.here C.1 rfl (pc0 := pc) rfl (hb C.2.2.2.1 hd) rfl ho hp k) hr
theorem OGo.ifnullNo (C : Cx p s m c Z own by0 ml) (X : Sd p l e R s m args below meth c n0 T h cells slots) {b : Addr} {o : Int} (hd : decode by0 pc = .ok (.ifnull o, 3)) (hp : pc + 3 = pc')  (hr : OGo p e below K T (mkF m pc' Ls (St))) : OGo p e below K T (mkF m pc Ls (.ref b :: St)) := by
  subst hp
  obtain ⟨-, -, locs, Y, -⟩ := X
  exact OGo.st (fun t k => XS.ifnullNo Y.here C.1 rfl (hb C.2.2.2.1 hd) rfl k) hr
theorem OGo.ifnonnullYes (C : Cx p s m c Z own by0 ml) (X : Sd p l e R s m args below meth c n0 T h cells slots) {b : Addr} {o : Int} (hd : decode by0 pc = .ok (.ifnonnull o, 3))  (ho : 0 ≤ (pc : Int) + o) (hp : ((pc : Int) + o).toNat = pc') (hr : OGo p e below K T (mkF m pc' Ls (St))) : OGo p e below K T (mkF m pc Ls (.ref b :: St)) := by
  obtain ⟨-, -, locs, Y, -⟩ := X
  exact OGo.st (fun t k => XS.ifnonnullYes Y.here C.1 rfl (pc0 := pc) rfl (hb C.2.2.2.1 hd) rfl ho hp k) hr
theorem OGo.ifnonnullNo (C : Cx p s m c Z own by0 ml) (X : Sd p l e R s m args below meth c n0 T h cells slots)  {o : Int} (hd : decode by0 pc = .ok (.ifnonnull o, 3)) (hp : pc + 3 = pc')  (hr : OGo p e below K T (mkF m pc' Ls (St))) : OGo p e below K T (mkF m pc Ls (.null :: St)) := by
  subst hp
  obtain ⟨-, -, locs, Y, -⟩ := X
  exact OGo.st (fun t k => XS.ifnonnullNo Y.here C.1 rfl (hb C.2.2.2.1 hd) rfl k) hr
theorem OGo.acmp (C : Cx p s m c Z own by0 ml) (X : Sd p l e R s m args below meth c n0 T h cells slots) {cd : ACond} {x y : Value} (h1 : x.isRef = true) (h2 : y.isRef = true) {o : Int} {same : Bool} (hd : decode by0 pc = .ok (.if_acmp cd o, 3)) (hq : decide (x = y) = same) (ho : 0 ≤ (pc : Int) + o) (hp : pc' = if acV cd same = true then ((pc : Int) + o).toNat else pc + 3) (hr : OGo p e below K T (mkF m pc' Ls (St))) : OGo p e below K T (mkF m pc Ls (y :: x :: St)) := by
  obtain ⟨-, -, locs, Y, -⟩ := X
  exact OGo.st (fun t k => RoadKit.acmp Y C.1 rfl h1 h2 (pc0 := pc) rfl (hb C.2.2.2.1 hd) rfl hq ho hp k) hr
theorem OGo.ldcInt (C : Cx p s m c Z own by0 ml) (X : Sd p l e R s m args below meth c n0 T h cells slots) {idx : Nat} {v : Int32} (w : (Jvm.Cond.constant own idx v).before a0 Z = true) (hd : decode by0 pc = .ok (.ldc idx, 2)) (hp : pc + 2 = pc') (hr : OGo p e below K T (mkF m pc' Ls (.int v :: St))) : OGo p e below K T (mkF m pc Ls (St)) := by
  subst hp
  obtain ⟨-, -, locs, Y, -⟩ := X
  exact OGo.st (fun t k => Y.ldcInt C.1 C.2.2.1 (mvT C.2.1 w) (g := mkF m pc Ls St) rfl (hb C.2.2.2.1 hd) t k) hr
theorem OGo.ldc2Long (C : Cx p s m c Z own by0 ml) (X : Sd p l e R s m args below meth c n0 T h cells slots) {idx : Nat} {v : Int64} (w : (Jvm.Cond.constantLong own idx v).before a0 Z = true) (hd : decode by0 pc = .ok (.ldc2_w idx, 3)) (hp : pc + 3 = pc') (hr : OGo p e below K T (mkF m pc' Ls (.long v :: St))) : OGo p e below K T (mkF m pc Ls (St)) := by
  subst hp
  obtain ⟨-, -, locs, Y, -⟩ := X
  exact OGo.st (fun t k => Y.ldc2Long C.1 C.2.2.1 (mvT C.2.1 w) (g := mkF m pc Ls St) rfl (hb C.2.2.2.1 hd) t k) hr
theorem OGo.ldc2Double (C : Cx p s m c Z own by0 ml) (X : Sd p l e R s m args below meth c n0 T h cells slots) {idx : Nat} {v : UInt64} (w : (Jvm.Cond.constantDouble own idx v).before a0 Z = true) (hd : decode by0 pc = .ok (.ldc2_w idx, 3)) (hp : pc + 3 = pc') (hr : OGo p e below K T (mkF m pc' Ls (.double v :: St))) : OGo p e below K T (mkF m pc Ls (St)) := by
  subst hp
  obtain ⟨-, -, locs, Y, -⟩ := X
  exact OGo.st (fun t k => Y.ldc2DoubleC C.1 C.2.2.1 (mvT C.2.1 w) (g := mkF m pc Ls St) rfl (hb C.2.2.2.1 hd) t k) hr
theorem OGo.ldcStr (C : Cx p s m c Z own by0 ml) (X : Sd p l e R s m args below meth c n0 T h cells slots) {idx : Nat} {text : String} {a : Addr} (w : (Jvm.Cond.stringRef own idx text).before a0 Z = true) (L : RoadKit.Lit Z own idx a) (hd : decode by0 pc = .ok (.ldc idx, 2)) (hp : pc + 2 = pc') (hr : OGo p e below K T (mkF m pc' Ls (.ref a :: St))) : OGo p e below K T (mkF m pc Ls (St)) := by
  subst hp
  obtain ⟨-, -, locs, Y, -⟩ := X
  exact OGo.st (fun t k => ldcR Y C.1 C.2.1 C.2.2.1 w L (g := mkF m pc Ls St) rfl (hb C.2.2.2.1 hd) t k) hr
theorem OGo.arraylength (C : Cx p s m c Z own by0 ml) (X : Sd p l e R s m args below meth c n0 T h cells slots) {a : Addr} {k : ClassId} {ty : FieldType} {z : Int32} {vs : List Value} {dv : Value} (V : Arv Z h a k ty z vs dv) (hd : decode by0 pc = .ok (.arraylength, 1)) (hp : pc + 1 = pc') (hr : OGo p e below K T (mkF m pc' Ls (.int z :: St))) : OGo p e below K T (mkF m pc Ls (.ref a :: St)) := by
  subst hp
  obtain ⟨eT, -, locs, Y, -⟩ := X
  obtain ⟨cl, A, -, S, q, -⟩ := V
  refine OGo.st (fun t k => Y.arraylength C.1 (by rw [eT]; exact A.1) (State.isArrayOf_alike C.2.1.alike A.2.1) (g := mkF m pc Ls (.ref a :: St)) rfl rfl (hb C.2.2.2.1 hd) t ?_) hr
  rw [len_of S q]; exact k
theorem OGo.iaload (C : Cx p s m c Z own by0 ml) (X : Sd p l e R s m args below meth c n0 T h cells slots) {a : Addr} {k : ClassId} {z : Int32} {vs : List Value} {dv : Value} (V : Arv Z h a k .int z vs dv) {j : Int32} {v : Int32} (hd : decode by0 pc = .ok (.iaload, 1)) (hp : pc + 1 = pc') (hj : ¬ j < 0 ∧ j < z) (hv : vs.getD j.toNatClampNeg dv = .int v) (hr : OGo p e below K T (mkF m pc' Ls (.int v :: St))) : OGo p e below K T (mkF m pc Ls (.int j :: .ref a :: St)) := by
  subst hp
  obtain ⟨eT, -, locs, Y, -⟩ := X
  obtain ⟨cl, A, -, S, q, H, -⟩ := V
  exact OGo.st (fun t k => Y.iaload C.1 (by rw [eT]; exact A.1) (State.isArrayOf_alike C.2.1.alike A.2.1) A.2.2 (inb_of S hj) (Has.at H (inb_of S hj) hv) (g := mkF m pc Ls (.int j :: .ref a :: St)) rfl rfl (hb C.2.2.2.1 hd) t k) hr
theorem OGo.laload (C : Cx p s m c Z own by0 ml) (X : Sd p l e R s m args below meth c n0 T h cells slots) {a : Addr} {k : ClassId} {z : Int32} {vs : List Value} {dv : Value} (V : Arv Z h a k .long z vs dv) {j : Int32} {v : Int64} (hd : decode by0 pc = .ok (.laload, 1)) (hp : pc + 1 = pc') (hj : ¬ j < 0 ∧ j < z) (hv : vs.getD j.toNatClampNeg dv = .long v) (hr : OGo p e below K T (mkF m pc' Ls (.long v :: St))) : OGo p e below K T (mkF m pc Ls (.int j :: .ref a :: St)) := by
  subst hp
  obtain ⟨eT, -, locs, Y, -⟩ := X
  obtain ⟨cl, A, -, S, q, H, -⟩ := V
  exact OGo.st (fun t k => Y.laload C.1 (by rw [eT]; exact A.1) (State.isArrayOf_alike C.2.1.alike A.2.1) A.2.2 (inb_of S hj) (Has.at H (inb_of S hj) hv) (g := mkF m pc Ls (.int j :: .ref a :: St)) rfl rfl (hb C.2.2.2.1 hd) t k) hr
theorem OGo.daload (C : Cx p s m c Z own by0 ml) (X : Sd p l e R s m args below meth c n0 T h cells slots) {a : Addr} {k : ClassId} {z : Int32} {vs : List Value} {dv : Value} (V : Arv Z h a k .double z vs dv) {j : Int32} {v : UInt64} (hd : decode by0 pc = .ok (.daload, 1)) (hp : pc + 1 = pc') (hj : ¬ j < 0 ∧ j < z) (hv : vs.getD j.toNatClampNeg dv = .double v) (hr : OGo p e below K T (mkF m pc' Ls (.double v :: St))) : OGo p e below K T (mkF m pc Ls (.int j :: .ref a :: St)) := by
  subst hp
  obtain ⟨eT, -, locs, Y, -⟩ := X
  obtain ⟨cl, A, -, S, q, H, -⟩ := V
  exact OGo.st (fun t k => Y.daload C.1 (by rw [eT]; exact A.1) (State.isArrayOf_alike C.2.1.alike A.2.1) A.2.2 (inb_of S hj) (Has.at H (inb_of S hj) hv) (g := mkF m pc Ls (.int j :: .ref a :: St)) rfl rfl (hb C.2.2.2.1 hd) t k) hr
theorem OGo.caload (C : Cx p s m c Z own by0 ml) (X : Sd p l e R s m args below meth c n0 T h cells slots) {a : Addr} {k : ClassId} {z : Int32} {vs : List Value} {dv : Value} (V : Arv Z h a k .char z vs dv) {j : Int32} {v : Int32} (hd : decode by0 pc = .ok (.caload, 1)) (hp : pc + 1 = pc') (hj : ¬ j < 0 ∧ j < z) (hv : vs.getD j.toNatClampNeg dv = .int v) (hr : OGo p e below K T (mkF m pc' Ls (.int v :: St))) : OGo p e below K T (mkF m pc Ls (.int j :: .ref a :: St)) := by
  subst hp
  obtain ⟨eT, -, locs, Y, -⟩ := X
  obtain ⟨cl, A, -, S, q, H, -⟩ := V
  exact OGo.st (fun t k => Y.caload C.1 (by rw [eT]; exact A.1) (State.isArrayOf_alike C.2.1.alike A.2.1) A.2.2 (inb_of S hj) (Has.at H (inb_of S hj) hv) (g := mkF m pc Ls (.int j :: .ref a :: St)) rfl rfl (hb C.2.2.2.1 hd) t k) hr
theorem OGo.baloadB (C : Cx p s m c Z own by0 ml) (X : Sd p l e R s m args below meth c n0 T h cells slots) {a : Addr} {k : ClassId} {z : Int32} {vs : List Value} {dv : Value} (V : Arv Z h a k .byte z vs dv) {j : Int32} {v : Int32} (hd : decode by0 pc = .ok (.baload, 1)) (hp : pc + 1 = pc') (hj : ¬ j < 0 ∧ j < z) (hv : vs.getD j.toNatClampNeg dv = .int v) (hr : OGo p e below K T (mkF m pc' Ls (.int v :: St))) : OGo p e below K T (mkF m pc Ls (.int j :: .ref a :: St)) := by
  subst hp
  obtain ⟨eT, -, locs, Y, -⟩ := X
  obtain ⟨cl, A, -, S, q, H, -⟩ := V
  exact OGo.st (fun t k => Y.baloadBytes C.1 (by rw [eT]; exact A.1) (State.isArrayOf_alike C.2.1.alike A.2.1) A.2.2 (inb_of S hj) (Has.at H (inb_of S hj) hv) (g := mkF m pc Ls (.int j :: .ref a :: St)) rfl rfl (hb C.2.2.2.1 hd) t k) hr
theorem OGo.baloadZ (C : Cx p s m c Z own by0 ml) (X : Sd p l e R s m args below meth c n0 T h cells slots) {a : Addr} {k : ClassId} {z : Int32} {vs : List Value} {dv : Value} (V : Arv Z h a k .boolean z vs dv) {j : Int32} {v : Int32} (hd : decode by0 pc = .ok (.baload, 1)) (hp : pc + 1 = pc') (hj : ¬ j < 0 ∧ j < z) (hv : vs.getD j.toNatClampNeg dv = .int v) (hr : OGo p e below K T (mkF m pc' Ls (.int v :: St))) : OGo p e below K T (mkF m pc Ls (.int j :: .ref a :: St)) := by
  subst hp
  obtain ⟨eT, -, locs, Y, -⟩ := X
  obtain ⟨cl, A, -, S, q, H, -⟩ := V
  exact OGo.st (fun t k => Y.baloadBooleans C.1 (by rw [eT]; exact A.1) (State.isArrayOf_alike C.2.1.alike A.2.1) A.2.2 (inb_of S hj) (Has.at H (inb_of S hj) hv) (g := mkF m pc Ls (.int j :: .ref a :: St)) rfl rfl (hb C.2.2.2.1 hd) t k) hr
theorem OGo.iastore (C : Cx p s m c Z own by0 ml) (X : Sd p l e R s m args below meth c n0 T h cells slots) {a : Addr} {k : ClassId} {z : Int32} {vs : List Value} {dv : Value} (V : Arv Z h a k .int z vs dv) (ga : n0 ≤ a) {j : Int32} {x : Int32} {i : Nat} (hd : decode by0 pc = .ok (.iastore, 1)) (hp : pc + 1 = pc') (hj : ¬ j < 0 ∧ j < z) (hi : j.toNatClampNeg = i) (hl : i < vs.length)
    (hr : ∀ T' h', Sd p l e R s m args below meth c n0 T' h' cells slots → Wr h h' a i (.int x) → Arv Z h' a k .int z (vs.set i (.int x)) dv → OGo p e below K T' (mkF m pc' Ls St)) : OGo p e below K T (mkF m pc Ls (.int x :: .int j :: .ref a :: St)) := by
  subst hp hi
  obtain ⟨eT, hn, locs, Y, N⟩ := X
  obtain ⟨cl, A, q1, S, q, H, Gt⟩ := V
  obtain ⟨T', h', Y', e', W, st⟩ := stI Y C.1 C.2.1 eT A (inb_of S hj) (g := mkF m pc Ls (.int x :: .int j :: .ref a :: St)) rfl rfl (hb C.2.2.2.1 hd)
  exact OGo.st st (hr T' h' ⟨e', by rw [W.size]; exact hn, _, Y', Fr.snoc Y' N ga⟩ W (Arv.set A q1 S q H Gt rfl W _ rfl hl))
theorem OGo.lastore (C : Cx p s m c Z own by0 ml) (X : Sd p l e R s m args below meth c n0 T h cells slots) {a : Addr} {k : ClassId} {z : Int32} {vs : List Value} {dv : Value} (V : Arv Z h a k .long z vs dv) (ga : n0 ≤ a) {j : Int32} {x : Int64} {i : Nat} (hd : decode by0 pc = .ok (.lastore, 1)) (hp : pc + 1 = pc') (hj : ¬ j < 0 ∧ j < z) (hi : j.toNatClampNeg = i) (hl : i < vs.length)
    (hr : ∀ T' h', Sd p l e R s m args below meth c n0 T' h' cells slots → Wr h h' a i (.long x) → Arv Z h' a k .long z (vs.set i (.long x)) dv → OGo p e below K T' (mkF m pc' Ls St)) : OGo p e below K T (mkF m pc Ls (.long x :: .int j :: .ref a :: St)) := by
  subst hp hi
  obtain ⟨eT, hn, locs, Y, N⟩ := X
  obtain ⟨cl, A, q1, S, q, H, Gt⟩ := V
  obtain ⟨T', h', Y', e', W, st⟩ := stJ Y C.1 C.2.1 eT A (inb_of S hj) (g := mkF m pc Ls (.long x :: .int j :: .ref a :: St)) rfl rfl (hb C.2.2.2.1 hd)
  exact OGo.st st (hr T' h' ⟨e', by rw [W.size]; exact hn, _, Y', Fr.snoc Y' N ga⟩ W (Arv.set A q1 S q H Gt rfl W _ rfl hl))
theorem OGo.dastore (C : Cx p s m c Z own by0 ml) (X : Sd p l e R s m args below meth c n0 T h cells slots) {a : Addr} {k : ClassId} {z : Int32} {vs : List Value} {dv : Value} (V : Arv Z h a k .double z vs dv) (ga : n0 ≤ a) {j : Int32} {x : UInt64} {i : Nat} (hd : decode by0 pc = .ok (.dastore, 1)) (hp : pc + 1 = pc') (hj : ¬ j < 0 ∧ j < z) (hi : j.toNatClampNeg = i) (hl : i < vs.length)
    (hr : ∀ T' h', Sd p l e R s m args below meth c n0 T' h' cells slots → Wr h h' a i (.double x) → Arv Z h' a k .double z (vs.set i (.double x)) dv → OGo p e below K T' (mkF m pc' Ls St)) : OGo p e below K T (mkF m pc Ls (.double x :: .int j :: .ref a :: St)) := by
  subst hp hi
  obtain ⟨eT, hn, locs, Y, N⟩ := X
  obtain ⟨cl, A, q1, S, q, H, Gt⟩ := V
  obtain ⟨T', h', Y', e', W, st⟩ := stD Y C.1 C.2.1 eT A (inb_of S hj) (g := mkF m pc Ls (.double x :: .int j :: .ref a :: St)) rfl rfl (hb C.2.2.2.1 hd)
  exact OGo.st st (hr T' h' ⟨e', by rw [W.size]; exact hn, _, Y', Fr.snoc Y' N ga⟩ W (Arv.set A q1 S q H Gt rfl W _ rfl hl))
theorem OGo.castore (C : Cx p s m c Z own by0 ml) (X : Sd p l e R s m args below meth c n0 T h cells slots) {a : Addr} {k : ClassId} {z : Int32} {vs : List Value} {dv : Value} (V : Arv Z h a k .char z vs dv) (ga : n0 ≤ a) {j : Int32} {x : Int32} {i : Nat} (hd : decode by0 pc = .ok (.castore, 1)) (hp : pc + 1 = pc') (hj : ¬ j < 0 ∧ j < z) (hi : j.toNatClampNeg = i) (hl : i < vs.length)
    (hr : ∀ T' h', Sd p l e R s m args below meth c n0 T' h' cells slots → Wr h h' a i (.int (nar .char x)) → Arv Z h' a k .char z (vs.set i (.int (nar .char x))) dv → OGo p e below K T' (mkF m pc' Ls St)) : OGo p e below K T (mkF m pc Ls (.int x :: .int j :: .ref a :: St)) := by
  subst hp hi
  obtain ⟨eT, hn, locs, Y, N⟩ := X
  obtain ⟨cl, A, q1, S, q, H, Gt⟩ := V
  obtain ⟨T', h', Y', e', W, st⟩ := stC Y C.1 C.2.1 eT A (inb_of S hj) (g := mkF m pc Ls (.int x :: .int j :: .ref a :: St)) rfl rfl (hb C.2.2.2.1 hd)
  exact OGo.st st (hr T' h' ⟨e', by rw [W.size]; exact hn, _, Y', Fr.snoc Y' N ga⟩ W (Arv.set A q1 S q H Gt (fits_nar_char x) W _ rfl hl))
theorem OGo.bastoreB (C : Cx p s m c Z own by0 ml) (X : Sd p l e R s m args below meth c n0 T h cells slots) {a : Addr} {k : ClassId} {z : Int32} {vs : List Value} {dv : Value} (V : Arv Z h a k .byte z vs dv) (ga : n0 ≤ a) {j : Int32} {x : Int32} {i : Nat} (hd : decode by0 pc = .ok (.bastore, 1)) (hp : pc + 1 = pc') (hj : ¬ j < 0 ∧ j < z) (hi : j.toNatClampNeg = i) (hl : i < vs.length)
    (hr : ∀ T' h', Sd p l e R s m args below meth c n0 T' h' cells slots → Wr h h' a i (.int (nar .byte x)) → Arv Z h' a k .byte z (vs.set i (.int (nar .byte x))) dv → OGo p e below K T' (mkF m pc' Ls St)) : OGo p e below K T (mkF m pc Ls (.int x :: .int j :: .ref a :: St)) := by
  subst hp hi
  obtain ⟨eT, hn, locs, Y, N⟩ := X
  obtain ⟨cl, A, q1, S, q, H, Gt⟩ := V
  obtain ⟨T', h', Y', e', W, st⟩ := stB Y C.1 C.2.1 eT A (inb_of S hj) (g := mkF m pc Ls (.int x :: .int j :: .ref a :: St)) rfl rfl (hb C.2.2.2.1 hd)
  exact OGo.st st (hr T' h' ⟨e', by rw [W.size]; exact hn, _, Y', Fr.snoc Y' N ga⟩ W (Arv.set A q1 S q H Gt (fits_nar_byte x) W _ rfl hl))
theorem OGo.bastoreZ (C : Cx p s m c Z own by0 ml) (X : Sd p l e R s m args below meth c n0 T h cells slots) {a : Addr} {k : ClassId} {z : Int32} {vs : List Value} {dv : Value} (V : Arv Z h a k .boolean z vs dv) (ga : n0 ≤ a) {j : Int32} {x : Int32} {i : Nat} (hd : decode by0 pc = .ok (.bastore, 1)) (hp : pc + 1 = pc') (hj : ¬ j < 0 ∧ j < z) (hi : j.toNatClampNeg = i) (hl : i < vs.length)
    (hr : ∀ T' h', Sd p l e R s m args below meth c n0 T' h' cells slots → Wr h h' a i (.int (nar .boolean x)) → Arv Z h' a k .boolean z (vs.set i (.int (nar .boolean x))) dv → OGo p e below K T' (mkF m pc' Ls St)) : OGo p e below K T (mkF m pc Ls (.int x :: .int j :: .ref a :: St)) := by
  subst hp hi
  obtain ⟨eT, hn, locs, Y, N⟩ := X
  obtain ⟨cl, A, q1, S, q, H, Gt⟩ := V
  obtain ⟨T', h', Y', e', W, st⟩ := stZ Y C.1 C.2.1 eT A (inb_of S hj) (g := mkF m pc Ls (.int x :: .int j :: .ref a :: St)) rfl rfl (hb C.2.2.2.1 hd)
  exact OGo.st st (hr T' h' ⟨e', by rw [W.size]; exact hn, _, Y', Fr.snoc Y' N ga⟩ W (Arv.set A q1 S q H Gt (fits_nar_bool x) W _ rfl hl))
theorem OGo.newarray (C : Cx p s m c Z own by0 ml) (X : Sd p l e R s m args below meth c n0 T h cells slots) {aty : ArrayType} {ty : FieldType} {n : Int32} {cap : Nat} {d0 : Value} (w : (Jvm.Cond.arrayClass ty).before a0 Z = true) (hty : newarray.typeOf aty = ty) (hd : decode by0 pc = .ok (.newarray aty, 2)) (hp : pc + 2 = pc') (hn : ¬ n < 0) (hcap : n.toNatClampNeg ≤ cap) (hb8 : cap * 8 ≤ 536870912) (hdv : defaultValue ty = d0) (hc' : cells + 1 = cells') (hs' : slots + cap = slots') (hc : cells' ≤ R.cells) (hl : slots' ≤ R.slots)
    (hr : ∀ T' h' a k, Sd p l e R s m args below meth c n0 T' h' cells' slots' → a = h.size → n0 ≤ a → Ext h h' → Arv Z h' a k ty n [] d0 → OGo p e below K T' (mkF m pc' Ls (.ref a :: St))) : OGo p e below K T (mkF m pc Ls (.int n :: St)) := by
  subst hp hc' hs' hty hdv
  obtain ⟨eT, hn0, locs, Y, N⟩ := X
  obtain ⟨T', h', cA, Y', e', E, A, st⟩ := newP Y C.1 C.2.1 w eT (g := mkF m pc Ls (.int n :: St)) rfl (hb C.2.2.2.1 hd) rfl hn hcap hb8 hc hl
  exact OGo.st st (hr T' h' _ cA ⟨e', Nat.le_trans hn0 E.1, _, Y', N⟩ rfl hn0 E (Arv.new A hn))
theorem OGo.newarrayE (C : Cx p s m c Z own by0 ml) (X : Sd p l e R s m args below meth c n0 T h cells slots) {aty : ArrayType} {ty : FieldType} {n : Int32} {cap : Nat} {d0 : Value} {ad : String} (w : (Jvm.Cond.arrayClass ty).before a0 Z = true) (hty : newarray.typeOf aty = ty) (had : "[" ++ ty.toString = ad) (hd : decode by0 pc = .ok (.newarray aty, 2)) (hp : pc + 2 = pc') (hn : ¬ n < 0) (hcap : n.toNatClampNeg ≤ cap) (hb8 : cap * 8 ≤ 536870912) (hdv : defaultValue ty = d0) (hc' : cells + 1 = cells') (hs' : slots + cap = slots') (hc : cells' ≤ R.cells) (hl : slots' ≤ R.slots)
    (hr : ∀ T' h' a k, Sd p l e R s m args below meth c n0 T' h' cells' slots' → a = h.size → n0 ≤ a → Ext h h' → Arv Z h' a k ty n [] d0 → Exa Z h' a ad → OGo p e below K T' (mkF m pc' Ls (.ref a :: St))) : OGo p e below K T (mkF m pc Ls (.int n :: St)) := by
  subst hp hc' hs' hty hdv
  obtain ⟨eT, hn0, locs, Y, N⟩ := X
  obtain ⟨T', h', cA, Y', e', E, A, EE, st⟩ := newPE Y C.1 C.2.1 w eT (g := mkF m pc Ls (.int n :: St)) rfl (hb C.2.2.2.1 hd) rfl hn hcap hb8 hc hl had
  exact OGo.st st (hr T' h' _ cA ⟨e', Nat.le_trans hn0 E.1, _, Y', N⟩ rfl hn0 E (Arv.new A hn) EE)
theorem OGo.new (C : Cx p s m c Z own by0 ml) (X : Sd p l e R s m args below meth c n0 T h cells slots) {Cn : String} {idx n : Nat} (w : (Jvm.Cond.classLink own idx Cn).before a0 Z = true) (wi : (Jvm.Cond.instantiable Cn n).before a0 Z = true) (wz : (Jvm.Cond.initialized Cn).before a0 Z = true) (hd : decode by0 pc = .ok (.new idx, 3)) (hp : pc + 3 = pc') (hc' : cells + 1 = cells') (hs' : slots + n = slots') (hc : cells' ≤ R.cells) (hl : slots' ≤ R.slots)
    (hr : ∀ T' h' a, Sd p l e R s m args below meth c n0 T' h' cells' slots' → a = h.size → n0 ≤ a → Ext h h' → Exa Z h' a Cn → (∀ {O nm d : String} {ty : FieldType}, Laid Z a0 Cn O nm d → parseFieldDescriptor d = some ty → Fld Z h' a O nm d (defaultValue ty)) → Unt h' a → OGo p e below K T' (mkF m pc' Ls (.ref a :: St))) : OGo p e below K T (mkF m pc Ls (St)) := by
  subst hp hc' hs'
  obtain ⟨eT, hn0, locs, Y, N⟩ := X
  obtain ⟨T', h', Y', e', E, A, D, U, st⟩ := newO Y C.1 C.2.1 C.2.2.1 w wi wz eT (g := mkF m pc Ls St) rfl (hb C.2.2.2.1 hd) hc hl
  exact OGo.st st (hr T' h' _ ⟨e', Nat.le_trans hn0 E.1, _, Y', N⟩ rfl hn0 E A D U)
theorem OGo.getfield (C : Cx p s m c Z own by0 ml) (X : Sd p l e R s m args below meth c n0 T h cells slots) {R0 O n d host : String} {idx : Nat} {a : Addr} {v : Value} (w : (Jvm.Cond.fieldLink own idx R0 n d).before a0 Z = true ∨ (Jvm.Cond.fieldLinkNest own idx R0 n d host).before a0 Z = true) (via : Via Z R0 O n d) (F : Fld Z h a O n d v) (hd : decode by0 pc = .ok (.getfield idx, 3)) (hp : pc + 3 = pc')
    (hr : ∀ T', Sd p l e R s m args below meth c n0 T' h cells slots → OGo p e below K T' (mkF m pc' Ls (v :: St))) : OGo p e below K T (mkF m pc Ls (.ref a :: St)) := by
  subst hp
  obtain ⟨eT, hn0, locs, Y, N⟩ := X
  obtain ⟨T', Y', e', st⟩ := getF Y C.1 C.2.1 C.2.2.1 w via eT F (g := mkF m pc Ls (.ref a :: St)) rfl rfl (hb C.2.2.2.1 hd)
  exact OGo.st st (hr T' ⟨e', hn0, _, Y', N⟩)
theorem OGo.putfield (C : Cx p s m c Z own by0 ml) (X : Sd p l e R s m args below meth c n0 T h cells slots) {R0 O n d host Cn : String} {idx kk : Nat} {ty : FieldType} {a : Addr} {v old : Value} (w : (Jvm.Cond.fieldLink own idx R0 n d).before a0 Z = true ∨ (Jvm.Cond.fieldLinkNest own idx R0 n d host).before a0 Z = true) (via : Via Z R0 O n d) (F : Fld Z h a O n d old) (E : Exa Z h a Cn) (ga : n0 ≤ a)
    (L : (Jvm.Cond.lays Cn O n d).before a0 Z = true ∨ ((Jvm.Cond.laysFinal Cn O n d).before a0 Z = true ∧ own = O ∧ meth.name = "<init>")) (wi : (Jvm.Cond.instantiable Cn kk).before a0 Z = true) (hty : parseFieldDescriptor d = some ty) (hnn : narrow ty v = v) (hf : fits ty v = true) (hd : decode by0 pc = .ok (.putfield idx, 3)) (hp : pc + 3 = pc')
    (hr : ∀ T' h', Sd p l e R s m args below meth c n0 T' h' cells slots → Wr h h' a (RoadKit.slotOf Z O n d) v → Fld Z h' a O n d v → OGo p e below K T' (mkF m pc' Ls St)) : OGo p e below K T (mkF m pc Ls (v :: .ref a :: St)) := by
  subst hp
  obtain ⟨eT, hn0, locs, Y, N⟩ := X
  obtain ⟨T', h', Y', e', W, st⟩ := putF Y C.1 C.2.1 C.2.2.1 w via eT F E L wi hty hnn hf (g := mkF m pc Ls (v :: .ref a :: St)) rfl rfl (hb C.2.2.2.1 hd)
  exact OGo.st st (hr T' h' ⟨e', by rw [W.size]; exact hn0, _, Y', Fr.snoc Y' N ga⟩ W (F.same W))
theorem OGo.putfieldN (C : Cx p s m c Z own by0 ml) (X : Sd p l e R s m args below meth c n0 T h cells slots) {R0 O n d Cn : String} {idx kk : Nat} {ty : FieldType} {a : Addr} {v v' old : Value} (w : (Jvm.Cond.fieldLink own idx R0 n d).before a0 Z = true) (via : Via Z R0 O n d) (F : Fld Z h a O n d old) (E : Exa Z h a Cn) (ga : n0 ≤ a)
    (L : (Jvm.Cond.lays Cn O n d).before a0 Z = true ∨ ((Jvm.Cond.laysFinal Cn O n d).before a0 Z = true ∧ own = O ∧ meth.name = "<init>")) (wi : (Jvm.Cond.instantiable Cn kk).before a0 Z = true) (hty : parseFieldDescriptor d = some ty) (hnn : narrow ty v = v') (hf : fits ty v' = true) (hd : decode by0 pc = .ok (.putfield idx, 3)) (hp : pc + 3 = pc')
    (hr : ∀ T' h', Sd p l e R s m args below meth c n0 T' h' cells slots → Wr h h' a (RoadKit.slotOf Z O n d) v' → Fld Z h' a O n d v' → OGo p e below K T' (mkF m pc' Ls St)) : OGo p e below K T (mkF m pc Ls (v :: .ref a :: St)) := by
  subst hp
  obtain ⟨eT, hn0, locs, Y, N⟩ := X
  obtain ⟨T', h', Y', e', W, st⟩ := putFN Y C.1 C.2.1 C.2.2.1 w via eT F E L wi hty hnn hf (g := mkF m pc Ls (v :: .ref a :: St)) rfl rfl (hb C.2.2.2.1 hd)
  exact OGo.st st (hr T' h' ⟨e', by rw [W.size]; exact hn0, _, Y', Fr.snoc Y' N ga⟩ W (F.same W))
theorem OGo.getstatic (C : Cx p s m c Z own by0 ml) (X : Sd p l e R s m args below meth c n0 T h cells slots) {R0 O n d host : String} {idx : Nat} {v : Value} (w : (Jvm.Cond.fieldLink own idx R0 n d).before a0 Z = true ∨ (Jvm.Cond.fieldLinkNest own idx R0 n d host).before a0 Z = true) (via : Via Z R0 O n d) (F : Sta Z h O n d v) (hd : decode by0 pc = .ok (.getstatic idx, 3)) (hp : pc + 3 = pc')
    (hr : ∀ T', Sd p l e R s m args below meth c n0 T' h cells slots → OGo p e below K T' (mkF m pc' Ls (v :: St))) : OGo p e below K T (mkF m pc Ls (St)) := by
  subst hp
  obtain ⟨eT, hn0, locs, Y, N⟩ := X
  obtain ⟨T', Y', e', st⟩ := getS2 Y C.1 C.2.1 C.2.2.1 w via eT F (g := mkF m pc Ls St) rfl (hb C.2.2.2.1 hd)
  exact OGo.st st (hr T' ⟨e', hn0, _, Y', N⟩)
theorem OGo.checkcast (C : Cx p s m c Z own by0 ml) (X : Sd p l e R s m args below meth c n0 T h cells slots) {Kn : String} {idx : Nat} {a : Addr} (w : (Jvm.Cond.classLink own idx Kn).before a0 Z = true) (F : Ins Z h a Kn true) (hd : decode by0 pc = .ok (.checkcast idx, 3)) (hp : pc + 3 = pc')
    (hr : ∀ T', Sd p l e R s m args below meth c n0 T' h cells slots → OGo p e below K T' (mkF m pc' Ls (.ref a :: St))) : OGo p e below K T (mkF m pc Ls (.ref a :: St)) := by
  subst hp
  obtain ⟨eT, hn0, locs, Y, N⟩ := X
  obtain ⟨T', Y', e', st⟩ := castY Y C.1 C.2.1 C.2.2.1 w eT F (g := mkF m pc Ls (.ref a :: St)) rfl rfl (hb C.2.2.2.1 hd)
  exact OGo.st st (hr T' ⟨e', hn0, _, Y', N⟩)
theorem OGo.instYes (C : Cx p s m c Z own by0 ml) (X : Sd p l e R s m args below meth c n0 T h cells slots) {Kn : String} {idx : Nat} {a : Addr} (w : (Jvm.Cond.classLink own idx Kn).before a0 Z = true) (F : Ins Z h a Kn true) (hd : decode by0 pc = .ok (.instanceof idx, 3)) (hp : pc + 3 = pc')
    (hr : ∀ T', Sd p l e R s m args below meth c n0 T' h cells slots → OGo p e below K T' (mkF m pc' Ls (.int 1 :: St))) : OGo p e below K T (mkF m pc Ls (.ref a :: St)) := by
  subst hp
  obtain ⟨eT, hn0, locs, Y, N⟩ := X
  obtain ⟨T', Y', e', st⟩ := instY Y C.1 C.2.1 C.2.2.1 w eT F (g := mkF m pc Ls (.ref a :: St)) rfl rfl (hb C.2.2.2.1 hd)
  exact OGo.st st (hr T' ⟨e', hn0, _, Y', N⟩)
theorem OGo.instNo (C : Cx p s m c Z own by0 ml) (X : Sd p l e R s m args below meth c n0 T h cells slots) {Kn Cn : String} {idx : Nat} {a : Addr} (w : (Jvm.Cond.classLink own idx Kn).before a0 Z = true) (E : Exa Z h a Cn) (F : ∃ c t, Z.vm.findClass Cn = some c ∧ Z.vm.findClass Kn = some t ∧ Z.vm.assignable c t = false) (hd : decode by0 pc = .ok (.instanceof idx, 3)) (hp : pc + 3 = pc')
    (hr : ∀ T', Sd p l e R s m args below meth c n0 T' h cells slots → OGo p e below K T' (mkF m pc' Ls (.int 0 :: St))) : OGo p e below K T (mkF m pc Ls (.ref a :: St)) := by
  subst hp
  obtain ⟨eT, hn0, locs, Y, N⟩ := X
  obtain ⟨T', Y', e', st⟩ := RoadKit.instNo Y C.1 C.2.1 C.2.2.1 w eT E F (g := mkF m pc Ls (.ref a :: St)) rfl rfl (hb C.2.2.2.1 hd)
  exact OGo.st st (hr T' ⟨e', hn0, _, Y', N⟩)
theorem OGo.initObj (C : Cx p s m c Z own by0 ml) (X : Sd p l e R s m args below meth c n0 T h cells slots) {idx : Nat} {a : Addr} (w1 : (Jvm.Cond.methodLink own idx Lib.objectInit).before a0 Z = true) (w2 : (Jvm.Cond.instanceMethod Lib.objectInit).before a0 Z = true) (w3 : (Jvm.Cond.code Lib.objectInit ⟨#[0xb1]⟩ 1 none).before a0 Z = true) (hd : decode by0 pc = .ok (.invokespecial idx, 3)) (hp : pc + 3 = pc') (hsz : Ls.size = ml) (hf : 1 ≤ R.frames) (hl : (St.map fun v => v.category).sum + 12 ≤ R.locals)
    (hr : ∀ T', Sd p l e R s m args below meth c n0 T' h cells slots → OGo p e below K T' (mkF m pc' Ls St)) : OGo p e below K T (mkF m pc Ls (.ref a :: St)) := by
  subst hp
  obtain ⟨eT, hn0, locs, Y, N⟩ := X
  obtain ⟨T', Y', e', st⟩ := initO Y C.1 C.2.1 C.2.2.1 w1 w2 w3 eT (g := mkF m pc Ls (.ref a :: St)) rfl (by rw [C.2.2.2.2]; exact hsz) rfl (hb C.2.2.2.1 hd) hf (W := (St.map fun v => v.category).sum) (by show 2 * 0 + _ ≤ _; omega) hl
  exact OGo.st st (hr T' ⟨e', hn0, _, Y', N⟩)
theorem OGo.ret (C : Cx p s m c Z own by0 ml) (X : Sd p l e R s m args below meth c n0 T h cells slots)  {Q : Option Value → Heap → Prop} {nc ns : Nat} (hd : decode by0 pc = .ok (.return_, 1)) (hret : meth.sig.returnType = none) (hlk : meth.locks = false) (hQ : Q (none) h) (hc : cells ≤ nc) (hs : slots ≤ ns) : OGo p e below (Kk s below n0 Q nc ns) T (mkF m pc Ls ([])) := by
  obtain ⟨eT, hn0, locs, Y, N⟩ := X
  obtain ⟨fs, hr, hrun, hended, hW, hsame⟩ := Y.leave (v := none) (fun hh => by rfl) hlk
  exact ⟨_, _, Y.returnOut C.1 hret (hb C.2.2.2.1 hd) hr, hrun, hended, _, locs, rfl, ⟨by show Q _ T.heap; rw [eT]; exact hQ, N⟩, ⟨_, rfl⟩, hW, hsame.mono hc hs⟩
theorem OGo.retInt (C : Cx p s m c Z own by0 ml) (X : Sd p l e R s m args below meth c n0 T h cells slots) {z : Int32} {rest : List Value} {Q : Option Value → Heap → Prop} {nc ns : Nat} (hd : decode by0 pc = .ok (.ireturn, 1)) (hret : meth.sig.returnType = some .int) (hlk : meth.locks = false) (hQ : Q (some (.int z)) h) (hc : cells ≤ nc) (hs : slots ≤ ns) : OGo p e below (Kk s below n0 Q nc ns) T (mkF m pc Ls (.int z :: rest)) := by
  obtain ⟨eT, hn0, locs, Y, N⟩ := X
  obtain ⟨fs, hr, hrun, hended, hW, hsame⟩ := Y.leave (v := some (.int z)) (fun hh => by rw [hret] at hh; cases hh) hlk
  exact ⟨_, _, retOut Y C.1 (i := .ireturn) hret rfl (Or.inl ⟨rfl, Or.inl rfl, _, rfl⟩) (hb C.2.2.2.1 hd) hr, hrun, hended, _, locs, rfl, ⟨by show Q _ T.heap; rw [eT]; exact hQ, N⟩, ⟨_, rfl⟩, hW, hsame.mono hc hs⟩
theorem OGo.retN (C : Cx p s m c Z own by0 ml) (X : Sd p l e R s m args below meth c n0 T h cells slots) {z z' : Int32} {rest : List Value} {t : FieldType} {Q : Option Value → Heap → Prop} {nc ns : Nat} (hd : decode by0 pc = .ok (.ireturn, 1)) (hret : meth.sig.returnType = some t) (ht : t = .boolean ∨ t = .byte ∨ t = .char ∨ t = .short) (hz : nar t z = z') (hlk : meth.locks = false) (hQ : Q (some (.int z')) h) (hc : cells ≤ nc) (hs : slots ≤ ns) : OGo p e below (Kk s below n0 Q nc ns) T (mkF m pc Ls (.int z :: rest)) := by
  subst hz
  obtain ⟨eT, hn0, locs, Y, N⟩ := X
  obtain ⟨fs, hr, hrun, hended, hW, hsame⟩ := Y.leave (v := some (.int (nar t z))) (fun hh => by rw [hret] at hh; cases hh) hlk
  exact ⟨_, _, RoadKit.retN Y C.1 hret ht (hb C.2.2.2.1 hd) hr, hrun, hended, _, locs, rfl, ⟨by show Q _ T.heap; rw [eT]; exact hQ, N⟩, ⟨_, rfl⟩, hW, hsame.mono hc hs⟩
theorem OGo.retD (C : Cx p s m c Z own by0 ml) (X : Sd p l e R s m args below meth c n0 T h cells slots) {z : UInt64} {rest : List Value} {Q : Option Value → Heap → Prop} {nc ns : Nat} (hd : decode by0 pc = .ok (.dreturn, 1)) (hret : meth.sig.returnType = some .double) (hlk : meth.locks = false) (hQ : Q (some (.double z)) h) (hc : cells ≤ nc) (hs : slots ≤ ns) : OGo p e below (Kk s below n0 Q nc ns) T (mkF m pc Ls (.double z :: rest)) := by
  obtain ⟨eT, hn0, locs, Y, N⟩ := X
  obtain ⟨fs, hr, hrun, hended, hW, hsame⟩ := Y.leave (v := some (.double z)) (fun hh => by rw [hret] at hh; cases hh) hlk
  exact ⟨_, _, retOut Y C.1 (i := .dreturn) hret rfl (Or.inr (Or.inr (Or.inl ⟨rfl, rfl, _, rfl⟩))) (hb C.2.2.2.1 hd) hr, hrun, hended, _, locs, rfl, ⟨by show Q _ T.heap; rw [eT]; exact hQ, N⟩, ⟨_, rfl⟩, hW, hsame.mono hc hs⟩
theorem OGo.retL (C : Cx p s m c Z own by0 ml) (X : Sd p l e R s m args below meth c n0 T h cells slots) {z : Int64} {rest : List Value} {Q : Option Value → Heap → Prop} {nc ns : Nat} (hd : decode by0 pc = .ok (.lreturn, 1)) (hret : meth.sig.returnType = some .long) (hlk : meth.locks = false) (hQ : Q (some (.long z)) h) (hc : cells ≤ nc) (hs : slots ≤ ns) : OGo p e below (Kk s below n0 Q nc ns) T (mkF m pc Ls (.long z :: rest)) := by
  obtain ⟨eT, hn0, locs, Y, N⟩ := X
  obtain ⟨fs, hr, hrun, hended, hW, hsame⟩ := Y.leave (v := some (.long z)) (fun hh => by rw [hret] at hh; cases hh) hlk
  exact ⟨_, _, retOut Y C.1 (i := .lreturn) hret rfl (Or.inr (Or.inl ⟨rfl, rfl, _, rfl⟩)) (hb C.2.2.2.1 hd) hr, hrun, hended, _, locs, rfl, ⟨by show Q _ T.heap; rw [eT]; exact hQ, N⟩, ⟨_, rfl⟩, hW, hsame.mono hc hs⟩
theorem OGo.retA (C : Cx p s m c Z own by0 ml) (X : Sd p l e R s m args below meth c n0 T h cells slots) {z : Value} {rest : List Value} {t : FieldType} {Q : Option Value → Heap → Prop} {nc ns : Nat} (hd : decode by0 pc = .ok (.areturn, 1)) (hret : meth.sig.returnType = some t) (ht : t.isReference = true) (hz : z.isRef = true) (hlk : meth.locks = false) (hQ : Q (some z) h) (hc : cells ≤ nc) (hs : slots ≤ ns) : OGo p e below (Kk s below n0 Q nc ns) T (mkF m pc Ls (z :: rest)) := by
  obtain ⟨eT, hn0, locs, Y, N⟩ := X
  obtain ⟨fs, hr, hrun, hended, hW, hsame⟩ := Y.leave (v := some z) (fun hh => by rw [hret] at hh; cases hh) hlk
  exact ⟨_, _, retOut Y C.1 (i := .areturn) hret (by rcases ref_cases hz with rfl | ⟨b, rfl⟩ <;> cases t <;> first | rfl | cases ht) (Or.inr (Or.inr (Or.inr (Or.inr ⟨rfl, ht, hz⟩)))) (hb C.2.2.2.1 hd) hr, hrun, hended, _, locs, rfl, ⟨by show Q _ T.heap; rw [eT]; exact hQ, N⟩, ⟨_, rfl⟩, hW, hsame.mono hc hs⟩
theorem backC {y : MethodName} {cb : ByteArray} {cml : Nat} {ret : Option FieldType} {rm : Room} {as' : Array Value} {Q : Option Value → Heap → Prop} {len W : Nat} (hM : Ctr l Z y cb cml ret rm n0 as' h Q) (hZ : Z.Warmed39 s.vm) (wc : (Jvm.Cond.code y cb cml ret).before a0 Z = true) (wz : (Jvm.Cond.initialized y.cls).before a0 Z = true) (hf : rm.frames + 1 ≤ R.frames) (hl : W + (cml + 11) + rm.locals ≤ R.locals) :
    Back l R p e below s args y len W (fun A a => a = as' ∧ A.U.heap = h ∧ A.cells + rm.cells ≤ R.cells ∧ A.slots + rm.slots ≤ R.slots) (fun A _ v B => ∃ L, ((Q v B.U.heap ∧ h.size ≤ B.U.heap.size) ∧ Fr n0 L) ∧ B.locs = A.locs ++ L ∧ B.cells = A.cells + rm.cells ∧ B.slots = A.slots + rm.slots) :=
  backOf (Q := fun v h' L => (Q v h' ∧ h.size ≤ h'.size) ∧ Fr n0 L) (hM []) hZ wc wz hf hl
theorem OGo.callS (C : Cx p s m c Z own by0 ml) (X : Sd p l e R s m args below meth c n0 T h cells slots) {y : MethodName} {cb : ByteArray} {cml : Nat} {ret : Option FieldType} {rm : Room} {as' : Array Value} {Q : Option Value → Heap → Prop} {idx : Nat}  (w1 : (Jvm.Cond.methodLink own idx y).before a0 Z = true) (w2 : (Jvm.Cond.static y).before a0 Z = true) (hy : y.cls ≠ "java/lang/invoke/MethodHandle" ∧ y.cls ≠ "java/lang/invoke/VarHandle") (w4 : (Jvm.Cond.code y cb cml ret).before a0 Z = true) (w5 : (Jvm.Cond.initialized y.cls).before a0 Z = true) (hM : Ctr l Z y cb cml ret rm n0 as' h Q) {argsL : List Value} (hlen : ∀ sig, parseMethodDescriptor y.desc = some sig → argsL.length = sig.parameters.length) (has : argsL.toArray = as') (hd : decode by0 pc = .ok (.invokestatic idx, 3)) (hp : pc + 3 = pc') (hsz : Ls.size = ml) (hf : rm.frames + 1 ≤ R.frames) (hl : (St.map fun v => v.category).sum + (cml + 11) + rm.locals ≤ R.locals) (hc' : cells + rm.cells = cells') (hs' : slots + rm.slots = slots') (hc : cells' ≤ R.cells) (hs : slots' ≤ R.slots)
    (hr : ∀ v T' h', Q v h' → Sd p l e R s m args below meth c n0 T' h' cells' slots' → h.size ≤ h'.size → OGo p e below K T' (mkF m pc' Ls (v.toList ++ St))) : OGo p e below K T (mkF m pc Ls (argsL.reverse ++ St)) := by
  subst hp hc' hs' has
  obtain ⟨eT, hn0, locs, Y, N⟩ := X
  have hK := backC (args := args) (p := p) (e := e) (below := below) (R := R) (len := 3) (W := (St.map fun v => v.category).sum) hM C.2.1 w4 w5 hf hl
  obtain ⟨v, _, ⟨B, L2, k2, n2⟩, -, Y', ⟨L, hQ, l1, y1, z1⟩, st⟩ := Jvm.LawKit.callS Y C.1 (y := y) C.2.2.1 (mvT C.2.1 w1) (mvT C.2.1 w2) (mvT C.2.1 w5) (mvT C.2.1 w4) hy hK (g := mkF m pc Ls (argsL.reverse ++ St)) rfl (by rw [C.2.2.2.2]; exact hsz) (argsL := argsL) (rest := St) hlen rfl (by show 2 * 0 + _ ≤ _; omega) (hb C.2.2.2.1 hd) (fun _ _ => ⟨rfl, eT, hc, hs⟩)
  dsimp only [Pt.U, Pt.locs, Pt.cells, Pt.slots] at Y' l1 y1 z1 st hQ
  subst l1 y1 z1
  obtain ⟨⟨hQ, hge⟩, hF⟩ := hQ
  exact OGo.st st (hr v B B.heap hQ ⟨rfl, Nat.le_trans hn0 hge, _, Y', N.app hF⟩ hge)
theorem OGo.callInit (C : Cx p s m c Z own by0 ml) (X : Sd p l e R s m args below meth c n0 T h cells slots) {y : MethodName} {cb : ByteArray} {cml : Nat} {ret : Option FieldType} {rm : Room} {as' : Array Value} {Q : Option Value → Heap → Prop} {idx : Nat} {a : Addr} (hy1 : y.name = "<init>") (hrn : ret = none) (w1 : (Jvm.Cond.methodLink own idx y).before a0 Z = true) (w2 : (Jvm.Cond.instanceMethod y).before a0 Z = true) (hy : y.cls ≠ "java/lang/invoke/MethodHandle" ∧ y.cls ≠ "java/lang/invoke/VarHandle") (w4 : (Jvm.Cond.code y cb cml ret).before a0 Z = true) (w5 : (Jvm.Cond.initialized y.cls).before a0 Z = true) (hM : Ctr l Z y cb cml ret rm n0 as' h Q) {argsL : List Value} (hlen : ∀ sig, parseMethodDescriptor y.desc = some sig → argsL.length = sig.parameters.length) (has : (Value.ref a :: argsL).toArray = as') (hd : decode by0 pc = .ok (.invokespecial idx, 3)) (hp : pc + 3 = pc') (hsz : Ls.size = ml) (hf : rm.frames + 1 ≤ R.frames) (hl : (St.map fun v => v.category).sum + (cml + 11) + rm.locals ≤ R.locals) (hc' : cells + rm.cells = cells') (hs' : slots + rm.slots = slots') (hc : cells' ≤ R.cells) (hs : slots' ≤ R.slots)
    (hr : ∀ v T' h', Q v h' → Sd p l e R s m args below meth c n0 T' h' cells' slots' → h.size ≤ h'.size → OGo p e below K T' (mkF m pc' Ls (v.toList ++ St))) : OGo p e below K T (mkF m pc Ls (argsL.reverse ++ Value.ref a :: St)) := by
  subst hp hc' hs' has
  obtain ⟨eT, hn0, locs, Y, N⟩ := X
  have hK := backC (args := args) (p := p) (e := e) (below := below) (R := R) (len := 3) (W := (St.map fun v => v.category).sum) hM C.2.1 w4 w5 hf hl
  obtain ⟨v, _, ⟨B, L2, k2, n2⟩, -, Y', ⟨L, hQ, l1, y1, z1⟩, st⟩ := Y.specialBack C.1 (y := y) hy1 C.2.2.1 (mvT C.2.1 w1) (mvT C.2.1 w2) (mvT C.2.1 (hrn ▸ w4)) hy hK (g := mkF m pc Ls (argsL.reverse ++ Value.ref a :: St)) rfl (by rw [C.2.2.2.2]; exact hsz) (Steps.refl _) (a := a) (argsL := argsL) (rest := St) hlen rfl (by show 2 * 0 + _ ≤ _; omega) (hb C.2.2.2.1 hd) (fun _ _ => ⟨rfl, eT, hc, hs⟩)
  dsimp only [Pt.U, Pt.locs, Pt.cells, Pt.slots] at Y' l1 y1 z1 st hQ
  subst l1 y1 z1
  obtain ⟨⟨hQ, hge⟩, hF⟩ := hQ
  exact OGo.tr st (hr v B B.heap hQ ⟨rfl, Nat.le_trans hn0 hge, _, Y', N.app hF⟩ hge)
theorem OGo.callV (C : Cx p s m c Z own by0 ml) (X : Sd p l e R s m args below meth c n0 T h cells slots) {y : MethodName} {cb : ByteArray} {cml : Nat} {ret : Option FieldType} {rm : Room} {as' : Array Value} {Q : Option Value → Heap → Prop} {idx : Nat} {a : Addr} {Cn : String} (w1 : (Jvm.Cond.methodLink own idx y).before a0 Z = true) (w2 : (Jvm.Cond.declares y).before a0 Z = true) (w3 : (Jvm.Cond.selects Cn y y).before a0 Z = true) (w6 : (Jvm.Cond.instanceMethod y).before a0 Z = true) (hy : y.cls ≠ "java/lang/invoke/MethodHandle" ∧ y.cls ≠ "java/lang/invoke/VarHandle") (E : Exa Z h a Cn) (w4 : (Jvm.Cond.code y cb cml ret).before a0 Z = true) (w5 : (Jvm.Cond.initialized y.cls).before a0 Z = true) (hM : Ctr l Z y cb cml ret rm n0 as' h Q) {argsL : List Value} (hlen : ∀ sig, parseMethodDescriptor y.desc = some sig → argsL.length = sig.parameters.length) (has : (Value.ref a :: argsL).toArray = as') (hd : decode by0 pc = .ok (.invokevirtual idx, 3)) (hp : pc + 3 = pc') (hsz : Ls.size = ml) (hf : rm.frames + 1 ≤ R.frames) (hl : (St.map fun v => v.category).sum + (cml + 11) + rm.locals ≤ R.locals) (hc' : cells + rm.cells = cells') (hs' : slots + rm.slots = slots') (hc : cells' ≤ R.cells) (hs : slots' ≤ R.slots)
    (hr : ∀ v T' h', Q v h' → Sd p l e R s m args below meth c n0 T' h' cells' slots' → h.size ≤ h'.size → OGo p e below K T' (mkF m pc' Ls (v.toList ++ St))) : OGo p e below K T (mkF m pc Ls (argsL.reverse ++ Value.ref a :: St)) := by
  subst hp hc' hs' has
  obtain ⟨eT, hn0, locs, Y, N⟩ := X
  have hK := backC (args := args) (p := p) (e := e) (below := below) (R := R) (len := 3) (W := (St.map fun v => v.category).sum) hM C.2.1 w4 w5 hf hl
  obtain ⟨v, _, ⟨B, L2, k2, n2⟩, -, Y', ⟨L, hQ, l1, y1, z1⟩, st⟩ := (let ⟨_, _, q1, _, q3⟩ := isOf C.2.1 eT E; Y.virtualBack C.1 (y := y) (z := y) C.2.2.1 (mvT C.2.1 w1) (mvT C.2.1 w2) (notFace_of_selects (args := #[]) (mvT C.2.1 w3)) (mvT C.2.1 w3) (mvT C.2.1 w6) hy hK q1 q3 (g := mkF m pc Ls (argsL.reverse ++ Value.ref a :: St)) rfl (by rw [C.2.2.2.2]; exact hsz) (Steps.refl _) (argsL := argsL) (rest := St) hlen rfl (by show 2 * 0 + _ ≤ _; omega) (hb C.2.2.2.1 hd) (fun _ _ => ⟨rfl, eT, hc, hs⟩))
  dsimp only [Pt.U, Pt.locs, Pt.cells, Pt.slots] at Y' l1 y1 z1 st hQ
  subst l1 y1 z1
  obtain ⟨⟨hQ, hge⟩, hF⟩ := hQ
  exact OGo.tr st (hr v B B.heap hQ ⟨rfl, Nat.le_trans hn0 hge, _, Y', N.app hF⟩ hge)
theorem OGo.callV2 (C : Cx p s m c Z own by0 ml) (X : Sd p l e R s m args below meth c n0 T h cells slots) {y : MethodName} {cb : ByteArray} {cml : Nat} {ret : Option FieldType} {rm : Room} {as' : Array Value} {Q : Option Value → Heap → Prop} {idx : Nat} {yr : MethodName} {a : Addr} {Cn : String} (w1 : (Jvm.Cond.methodLink own idx yr).before a0 Z = true) (w2 : (Jvm.Cond.declares yr).before a0 Z = true) (hnf : NotFace s yr) (w3 : (Jvm.Cond.selects Cn yr y).before a0 Z = true) (w6 : (Jvm.Cond.instanceMethod y).before a0 Z = true) (hy : yr.cls ≠ "java/lang/invoke/MethodHandle" ∧ yr.cls ≠ "java/lang/invoke/VarHandle") (hds : yr.desc = y.desc) (E : Exa Z h a Cn) (w4 : (Jvm.Cond.code y cb cml ret).before a0 Z = true) (w5 : (Jvm.Cond.initialized y.cls).before a0 Z = true) (hM : Ctr l Z y cb cml ret rm n0 as' h Q) {argsL : List Value} (hlen : ∀ sig, parseMethodDescriptor y.desc = some sig → argsL.length = sig.parameters.length) (has : (Value.ref a :: argsL).toArray = as') (hd : decode by0 pc = .ok (.invokevirtual idx, 3)) (hp : pc + 3 = pc') (hsz : Ls.size = ml) (hf : rm.frames + 1 ≤ R.frames) (hl : (St.map fun v => v.category).sum + (cml + 11) + rm.locals ≤ R.locals) (hc' : cells + rm.cells = cells') (hs' : slots + rm.slots = slots') (hc : cells' ≤ R.cells) (hs : slots' ≤ R.slots)
    (hr : ∀ v T' h', Q v h' → Sd p l e R s m args below meth c n0 T' h' cells' slots' → h.size ≤ h'.size → OGo p e below K T' (mkF m pc' Ls (v.toList ++ St))) : OGo p e below K T (mkF m pc Ls (argsL.reverse ++ Value.ref a :: St)) := by
  subst hp hc' hs' has
  obtain ⟨eT, hn0, locs, Y, N⟩ := X
  have hK := backC (args := args) (p := p) (e := e) (below := below) (R := R) (len := 3) (W := (St.map fun v => v.category).sum) hM C.2.1 w4 w5 hf hl
  obtain ⟨v, _, ⟨B, L2, k2, n2⟩, -, Y', ⟨L, hQ, l1, y1, z1⟩, st⟩ := (let ⟨_, _, q1, _, q3⟩ := isOf C.2.1 eT E; Y.virtualBack C.1 (y := yr) (z := y) C.2.2.1 (mvT C.2.1 w1) (mvT C.2.1 w2) hnf (mvT C.2.1 w3) (mvT C.2.1 w6) hy hK q1 q3 (g := mkF m pc Ls (argsL.reverse ++ Value.ref a :: St)) rfl (by rw [C.2.2.2.2]; exact hsz) (Steps.refl _) (argsL := argsL) (rest := St) (hds ▸ hlen) rfl (by show 2 * 0 + _ ≤ _; omega) (hb C.2.2.2.1 hd) (fun _ _ => ⟨rfl, eT, hc, hs⟩))
  dsimp only [Pt.U, Pt.locs, Pt.cells, Pt.slots] at Y' l1 y1 z1 st hQ
  subst l1 y1 z1
  obtain ⟨⟨hQ, hge⟩, hF⟩ := hQ
  exact OGo.tr st (hr v B B.heap hQ ⟨rfl, Nat.le_trans hn0 hge, _, Y', N.app hF⟩ hge)
theorem OGo.clone (C : Cx p s m c Z own by0 ml) (X : Sd p l e R s m args below meth c n0 T h cells slots) {ad : String} {idx : Nat} {a : Addr} {k : ClassId} {ty : FieldType} {z : Int32} {vs : List Value} {dv : Value} {cap : Nat} (w1 : (Jvm.Cond.methodLink own idx ⟨ad, "clone", "()Ljava/lang/Object;"⟩).before a0 Z = true) (w2 : (Jvm.Cond.sameMethod ad "java/lang/Object" "clone" "()Ljava/lang/Object;").before a0 Z = true) (w3 : (Jvm.Cond.native ⟨"java/lang/Object", "clone", "()Ljava/lang/Object;"⟩).before a0 Z = true)
    (w4 : (Jvm.Cond.instanceMethod ⟨"java/lang/Object", "clone", "()Ljava/lang/Object;"⟩).before a0 Z = true) (w5 : (Jvm.Cond.selects ad ⟨ad, "clone", "()Ljava/lang/Object;"⟩ ⟨"java/lang/Object", "clone", "()Ljava/lang/Object;"⟩).before a0 Z = true) (w6 : (Jvm.Cond.castable ad "java/lang/Cloneable").before a0 Z = true) (V : Arv Z h a k ty z vs dv) (E : Exa Z h a ad)
    (hd : decode by0 pc = .ok (.invokevirtual idx, 3)) (hp : pc + 3 = pc') (hsz : Ls.size = ml) (hf : 1 ≤ R.frames) (hl : (St.map fun v => v.category).sum + 14 ≤ R.locals) (hcap : z.toNatClampNeg ≤ cap) (hc' : cells + 1 = cells') (hs' : slots + cap = slots') (hc : cells' ≤ R.cells) (hs : slots' ≤ R.slots)
    (hr : ∀ T' h' b, Sd p l e R s m args below meth c n0 T' h' cells' slots' → b = h.size → n0 ≤ b → Ext h h' → Arv Z h' b k ty z vs dv → Exa Z h' b ad → OGo p e below K T' (mkF m pc' Ls (.ref b :: St))) : OGo p e below K T (mkF m pc Ls (.ref a :: St)) := by
  subst hp hc' hs'
  obtain ⟨eT, hn0, locs, Y, N⟩ := X
  obtain ⟨T', h', Y', e', Ex, A, EE, st⟩ := cloneH Y C.1 C.2.1 C.2.2.1 w1 w2 w3 w4 w5 w6 eT (Arv.arh V) E (g := mkF m pc Ls (.ref a :: St)) rfl (by rw [C.2.2.2.2]; exact hsz) rfl (hb C.2.2.2.1 hd) hf (W := (St.map fun v => v.category).sum) (by show 2 * 0 + _ ≤ _; omega) hl hcap hc hs
  exact OGo.st st (hr T' h' _ ⟨e', Nat.le_trans hn0 Ex.1, _, Y', N⟩ rfl hn0 Ex A EE)
theorem priv_selects {y : MethodName} {k : Nat} (hZ : Z.Warmed39 s.vm) (w2 : (Jvm.Cond.instanceMethod y).before a0 Z = true) (w3 : (Jvm.Cond.privateMethod y).before a0 Z = true) (wi : (Jvm.Cond.instantiable y.cls k).before a0 Z = true) (hy : y.cls ≠ "java/lang/invoke/MethodHandle" ∧ y.cls ≠ "java/lang/invoke/VarHandle") : (Jvm.Cond.selects y.cls y y).before args s = true := by
  obtain ⟨c, k, h1, h2, -, h4, -⟩ := Cond.instantiable_spec (show (Jvm.Cond.instantiable y.cls k).before args s = true from mvT hZ wi)
  have h5 : k.isInterface = false := by
    cases hq : k.isInterface
    · rfl
    · rw [hq] at h4; cases h4
  exact selects_self_of_private h1 h2 h5 (Cond.privateMethod_at (mvP hZ w3 (args := #[]))) (mvT hZ w2) hy
theorem OGo.callPriv (C : Cx p s m c Z own by0 ml) (X : Sd p l e R s m args below meth c n0 T h cells slots) {y : MethodName} {cb : ByteArray} {cml : Nat} {ret : Option FieldType} {rm : Room} {as' : Array Value} {Q : Option Value → Heap → Prop} {idx : Nat} {a : Addr} {Cn : String} {kk : Nat} (w1 : (Jvm.Cond.methodLink own idx y).before a0 Z = true) (w2 : (Jvm.Cond.instanceMethod y).before a0 Z = true) (w3 : (Jvm.Cond.privateMethod y).before a0 Z = true) (wi : (Jvm.Cond.instantiable y.cls kk).before a0 Z = true) (hy : y.cls ≠ "java/lang/invoke/MethodHandle" ∧ y.cls ≠ "java/lang/invoke/VarHandle") (E : Exa Z h a Cn) (w4 : (Jvm.Cond.code y cb cml ret).before a0 Z = true) (w5 : (Jvm.Cond.initialized y.cls).before a0 Z = true) (hM : Ctr l Z y cb cml ret rm n0 as' h Q) {argsL : List Value} (hlen : ∀ sig, parseMethodDescriptor y.desc = some sig → argsL.length = sig.parameters.length) (has : (Value.ref a :: argsL).toArray = as') (hd : decode by0 pc = .ok (.invokevirtual idx, 3)) (hp : pc + 3 = pc') (hsz : Ls.size = ml) (hf : rm.frames + 1 ≤ R.frames) (hl : (St.map fun v => v.category).sum + (cml + 11) + rm.locals ≤ R.locals) (hc' : cells + rm.cells = cells') (hs' : slots + rm.slots = slots') (hc : cells' ≤ R.cells) (hs : slots' ≤ R.slots)
    (hr : ∀ v T' h', Q v h' → Sd p l e R s m args below meth c n0 T' h' cells' slots' → h.size ≤ h'.size → OGo p e below K T' (mkF m pc' Ls (v.toList ++ St))) : OGo p e below K T (mkF m pc Ls (argsL.reverse ++ Value.ref a :: St)) := by
  subst hp hc' hs' has
  obtain ⟨eT, hn0, locs, Y, N⟩ := X
  have hK := backC (args := args) (p := p) (e := e) (below := below) (R := R) (len := 3) (W := (St.map fun v => v.category).sum) hM C.2.1 w4 w5 hf hl
  obtain ⟨v, _, ⟨B, L2, k2, n2⟩, -, Y', ⟨L, hQ, l1, y1, z1⟩, st⟩ := (let ⟨_, q1, q2⟩ := E.cell; Y.privateBack C.1 (y := y) C.2.2.1 (mvT C.2.1 w1) (mvT C.2.1 w2) (priv_selects C.2.1 w2 w3 wi hy) (Cond.privateMethod_at (mvP C.2.1 w3 (args := #[]))) (mvT C.2.1 w4) hy hK (g := mkF m pc Ls (argsL.reverse ++ Value.ref a :: St)) rfl (by rw [C.2.2.2.2]; exact hsz) (Steps.refl _) (a := a) (by rw [eT]; exact q1) q2 (argsL := argsL) (rest := St) hlen rfl (by show 2 * 0 + _ ≤ _; omega) (hb C.2.2.2.1 hd) (fun _ _ => ⟨rfl, eT, hc, hs⟩))
  dsimp only [Pt.U, Pt.locs, Pt.cells, Pt.slots] at Y' l1 y1 z1 st hQ
  subst l1 y1 z1
  obtain ⟨⟨hQ, hge⟩, hF⟩ := hQ
  exact OGo.tr st (hr v B B.heap hQ ⟨rfl, Nat.le_trans hn0 hge, _, Y', N.app hF⟩ hge)
theorem OGo.natS (C : Cx p s m c Z own by0 ml) (X : Sd p l e R s m args below meth c n0 T h cells slots) {y : MethodName} {cb : ByteArray} {cml : Nat} {rt : Option FieldType} {idx : Nat} {val : Value} {F : Array Value → Prop} (w1 : (Jvm.Cond.methodLink own idx y).before a0 Z = true) (w2 : (Jvm.Cond.static y).before a0 Z = true) (w3 : (Jvm.Cond.initialized y.cls).before a0 Z = true) (w4 : (Jvm.Cond.code y cb cml rt).before a0 Z = true) (hy : y.cls ≠ "java/lang/invoke/MethodHandle" ∧ y.cls ≠ "java/lang/invoke/VarHandle")
    {argsL : List Value} (hlen : ∀ sig, parseMethodDescriptor y.desc = some sig → argsL.length = sig.parameters.length) (hd : decode by0 pc = .ok (.invokestatic idx, 3)) (hp : pc + 3 = pc') (hsz : Ls.size = ml) (hc : cells ≤ R.cells) (hs : slots ≤ R.slots)
    (hK : (Jvm.Cond.code y cb cml rt).before args s = true → Back l R p e below s args y 3 ((St.map fun v => v.category).sum) (fun A a' => A.cells ≤ R.cells ∧ A.slots ≤ R.slots ∧ F a') (fun A _ v B => v = some val ∧ B = A)) (hF : F argsL.toArray)
    (hr : ∀ T', Sd p l e R s m args below meth c n0 T' h cells slots → OGo p e below K T' (mkF m pc' Ls (val :: St))) : OGo p e below K T (mkF m pc Ls (argsL.reverse ++ St)) := by
  subst hp
  obtain ⟨eT, hn0, locs, Y, N⟩ := X
  obtain ⟨T', Y', e', st⟩ := RoadKit.natS Y C.1 C.2.1 C.2.2.1 w1 w2 w3 w4 hy eT hK (g := mkF m pc Ls (argsL.reverse ++ St)) rfl (by rw [C.2.2.2.2]; exact hsz) hlen rfl (by show 2 * 0 + _ ≤ _; omega) (hb C.2.2.2.1 hd) hc hs hF rfl
  exact OGo.st st (hr T' ⟨e', hn0, _, Y', N⟩)
end OwnGo
end Jvm.Pilot.@@N@@
namespace Jvm.Pilot.@@N@@
open Jvm Jvm.ClassFile Sem Op Lib Jvm.Free Jvm.Stand Jvm.LawKit Jvm.RoadKit Jvm.Free.Fl Jvm.FP Bundle Jvm.Pilot.@@N@@.Jvm.D
abbrev HW (a0 : Array Value) (Z : State) : Prop := ∀ d ∈ tables_1, d.before a0 Z = true
theorem wd0 {a0 : Array Value} {Z : State} (hw : HW a0 Z) : ((Jvm.Cond.arrayClass Jvm.ClassFile.FieldType.double)).before a0 Z = true := hw _ (List.mem_of_getElem? (i := 0) rfl)
theorem wd1 {a0 : Array Value} {Z : State} (hw : HW a0 Z) : ((Jvm.Cond.methodLink "com/example/interim/interim/ShiftSquaresPinLaw" (13 : Nat) ({ cls := "com/example/interim/interim/ShiftSquaresPinLaw", name := "part", desc := "(ZJ)J" } : Jvm.MethodName))).before a0 Z = true := hw _ (List.mem_of_getElem? (i := 1) rfl)
theorem wd2 {a0 : Array Value} {Z : State} (hw : HW a0 Z) : ((Jvm.Cond.static ({ cls := "com/example/interim/interim/ShiftSquaresPinLaw", name := "part", desc := "(ZJ)J" } : Jvm.MethodName))).before a0 Z = true := hw _ (List.mem_of_getElem? (i := 2) rfl)
theorem wd3 {a0 : Array Value} {Z : State} (hw : HW a0 Z) : ((Jvm.Cond.initialized "com/example/interim/interim/ShiftSquaresPinLaw")).before a0 Z = true := hw _ (List.mem_of_getElem? (i := 3) rfl)
theorem wd4 {a0 : Array Value} {Z : State} (hw : HW a0 Z) : ((Jvm.Cond.code ({ cls := "com/example/interim/interim/ShiftSquaresPinLaw", name := "part", desc := "(ZJ)J" } : Jvm.MethodName) method_2_code (3 : Nat) (Option.some Jvm.ClassFile.FieldType.long))).before a0 Z = true := hw _ (List.mem_of_getElem? (i := 4) rfl)
theorem wd5 {a0 : Array Value} {Z : State} (hw : HW a0 Z) : ((Jvm.Cond.classLink "com/example/interim/interim/ShiftSquaresPinLaw" (17 : Nat) "com/example/interim/interim/Frame$Shift")).before a0 Z = true := hw _ (List.mem_of_getElem? (i := 5) rfl)
theorem wd6 {a0 : Array Value} {Z : State} (hw : HW a0 Z) : ((Jvm.Cond.instantiable "com/example/interim/interim/Frame$Shift" (3 : Nat))).before a0 Z = true := hw _ (List.mem_of_getElem? (i := 6) rfl)
theorem wd7 {a0 : Array Value} {Z : State} (hw : HW a0 Z) : ((Jvm.Cond.initialized "com/example/interim/interim/Frame$Shift")).before a0 Z = true := hw _ (List.mem_of_getElem? (i := 7) rfl)
theorem wd8 {a0 : Array Value} {Z : State} (hw : HW a0 Z) : ((Jvm.Cond.arrayClass Jvm.ClassFile.FieldType.int)).before a0 Z = true := hw _ (List.mem_of_getElem? (i := 8) rfl)
theorem wd9 {a0 : Array Value} {Z : State} (hw : HW a0 Z) : ((Jvm.Cond.methodLink "com/example/interim/interim/ShiftSquaresPinLaw" (19 : Nat) ({ cls := "com/example/interim/interim/Frame$Shift", name := "<init>", desc := "([I[D[D)V" } : Jvm.MethodName))).before a0 Z = true := hw _ (List.mem_of_getElem? (i := 9) rfl)
theorem wd10 {a0 : Array Value} {Z : State} (hw : HW a0 Z) : ((Jvm.Cond.instanceMethod ({ cls := "com/example/interim/interim/Frame$Shift", name := "<init>", desc := "([I[D[D)V" } : Jvm.MethodName))).before a0 Z = true := hw _ (List.mem_of_getElem? (i := 10) rfl)
theorem wd11 {a0 : Array Value} {Z : State} (hw : HW a0 Z) : ((Jvm.Cond.code ({ cls := "com/example/interim/interim/Frame$Shift", name := "<init>", desc := "([I[D[D)V" } : Jvm.MethodName) prog_31_method_1_code (4 : Nat) (Option.none : Option Jvm.ClassFile.FieldType))).before a0 Z = true := hw _ (List.mem_of_getElem? (i := 11) rfl)
theorem wd12 {a0 : Array Value} {Z : State} (hw : HW a0 Z) : ((Jvm.Cond.methodLink "com/example/interim/interim/Frame$Shift" (1 : Nat) ({ cls := "java/lang/Record", name := "<init>", desc := "()V" } : Jvm.MethodName))).before a0 Z = true := hw _ (List.mem_of_getElem? (i := 12) rfl)
theorem wd13 {a0 : Array Value} {Z : State} (hw : HW a0 Z) : ((Jvm.Cond.instanceMethod ({ cls := "java/lang/Record", name := "<init>", desc := "()V" } : Jvm.MethodName))).before a0 Z = true := hw _ (List.mem_of_getElem? (i := 13) rfl)
theorem wd15 {a0 : Array Value} {Z : State} (hw : HW a0 Z) : ((Jvm.Cond.initialized "java/lang/Record")).before a0 Z = true := hw _ (List.mem_of_getElem? (i := 15) rfl)
theorem wd16 {a0 : Array Value} {Z : State} (hw : HW a0 Z) : ((Jvm.Cond.code ({ cls := "java/lang/Record", name := "<init>", desc := "()V" } : Jvm.MethodName) jdk_30_method_1_code (1 : Nat) (Option.none : Option Jvm.ClassFile.FieldType))).before a0 Z = true := hw _ (List.mem_of_getElem? (i := 16) rfl)
theorem wd17 {a0 : Array Value} {Z : State} (hw : HW a0 Z) : ((Jvm.Cond.methodLink "java/lang/Record" (1 : Nat) ({ cls := "java/lang/Object", name := "<init>", desc := "()V" } : Jvm.MethodName))).before a0 Z = true := hw _ (List.mem_of_getElem? (i := 17) rfl)
theorem wd18 {a0 : Array Value} {Z : State} (hw : HW a0 Z) : ((Jvm.Cond.instanceMethod ({ cls := "java/lang/Object", name := "<init>", desc := "()V" } : Jvm.MethodName))).before a0 Z = true := hw _ (List.mem_of_getElem? (i := 18) rfl)
theorem wd19 {a0 : Array Value} {Z : State} (hw : HW a0 Z) : ((Jvm.Cond.code ({ cls := "java/lang/Object", name := "<init>", desc := "()V" } : Jvm.MethodName) object_method_1_code (1 : Nat) (Option.none : Option Jvm.ClassFile.FieldType))).before a0 Z = true := hw _ (List.mem_of_getElem? (i := 19) rfl)
theorem wd20 {a0 : Array Value} {Z : State} (hw : HW a0 Z) : ((Jvm.Cond.fieldLink "com/example/interim/interim/Frame$Shift" (7 : Nat) "com/example/interim/interim/Frame$Shift" "sources" "[I")).before a0 Z = true := hw _ (List.mem_of_getElem? (i := 20) rfl)
theorem wd21 {a0 : Array Value} {Z : State} (hw : HW a0 Z) : ((Jvm.Cond.laysFinal "com/example/interim/interim/Frame$Shift" "com/example/interim/interim/Frame$Shift" "sources" "[I")).before a0 Z = true := hw _ (List.mem_of_getElem? (i := 21) rfl)
theorem wd22 {a0 : Array Value} {Z : State} (hw : HW a0 Z) : ((Jvm.Cond.fieldLink "com/example/interim/interim/Frame$Shift" (13 : Nat) "com/example/interim/interim/Frame$Shift" "scales" "[D")).before a0 Z = true := hw _ (List.mem_of_getElem? (i := 22) rfl)
theorem wd23 {a0 : Array Value} {Z : State} (hw : HW a0 Z) : ((Jvm.Cond.laysFinal "com/example/interim/interim/Frame$Shift" "com/example/interim/interim/Frame$Shift" "scales" "[D")).before a0 Z = true := hw _ (List.mem_of_getElem? (i := 23) rfl)
theorem wd24 {a0 : Array Value} {Z : State} (hw : HW a0 Z) : ((Jvm.Cond.fieldLink "com/example/interim/interim/Frame$Shift" (17 : Nat) "com/example/interim/interim/Frame$Shift" "offsets" "[D")).before a0 Z = true := hw _ (List.mem_of_getElem? (i := 24) rfl)
theorem wd25 {a0 : Array Value} {Z : State} (hw : HW a0 Z) : ((Jvm.Cond.laysFinal "com/example/interim/interim/Frame$Shift" "com/example/interim/interim/Frame$Shift" "offsets" "[D")).before a0 Z = true := hw _ (List.mem_of_getElem? (i := 25) rfl)
theorem wd26 {a0 : Array Value} {Z : State} (hw : HW a0 Z) : ((Jvm.Cond.methodLink "com/example/interim/interim/ShiftSquaresPinLaw" (22 : Nat) ({ cls := "com/example/interim/interim/Frame$Shift", name := "squares", desc := "(I[D[D)[D" } : Jvm.MethodName))).before a0 Z = true := hw _ (List.mem_of_getElem? (i := 26) rfl)
theorem wd27 {a0 : Array Value} {Z : State} (hw : HW a0 Z) : ((Jvm.Cond.declares ({ cls := "com/example/interim/interim/Frame$Shift", name := "squares", desc := "(I[D[D)[D" } : Jvm.MethodName))).before a0 Z = true := hw _ (List.mem_of_getElem? (i := 27) rfl)
theorem wd28 {a0 : Array Value} {Z : State} (hw : HW a0 Z) : ((Jvm.Cond.instanceMethod ({ cls := "com/example/interim/interim/Frame$Shift", name := "squares", desc := "(I[D[D)[D" } : Jvm.MethodName))).before a0 Z = true := hw _ (List.mem_of_getElem? (i := 28) rfl)
theorem wd29 {a0 : Array Value} {Z : State} (hw : HW a0 Z) : ((Jvm.Cond.selects "com/example/interim/interim/Frame$Shift" ({ cls := "com/example/interim/interim/Frame$Shift", name := "squares", desc := "(I[D[D)[D" } : Jvm.MethodName) ({ cls := "com/example/interim/interim/Frame$Shift", name := "squares", desc := "(I[D[D)[D" } : Jvm.MethodName))).before a0 Z = true := hw _ (List.mem_of_getElem? (i := 29) rfl)
theorem wd30 {a0 : Array Value} {Z : State} (hw : HW a0 Z) : ((Jvm.Cond.code ({ cls := "com/example/interim/interim/Frame$Shift", name := "squares", desc := "(I[D[D)[D" } : Jvm.MethodName) prog_31_method_4_code (12 : Nat) (Option.some (Jvm.ClassFile.FieldType.array Jvm.ClassFile.FieldType.double)))).before a0 Z = true := hw _ (List.mem_of_getElem? (i := 30) rfl)
theorem wd31 {a0 : Array Value} {Z : State} (hw : HW a0 Z) : ((Jvm.Cond.methodLink "com/example/interim/interim/Frame$Shift" (20 : Nat) ({ cls := "com/example/interim/interim/Frame$Shift", name := "source", desc := "([DI)D" } : Jvm.MethodName))).before a0 Z = true := hw _ (List.mem_of_getElem? (i := 31) rfl)
theorem wd32 {a0 : Array Value} {Z : State} (hw : HW a0 Z) : ((Jvm.Cond.instanceMethod ({ cls := "com/example/interim/interim/Frame$Shift", name := "source", desc := "([DI)D" } : Jvm.MethodName))).before a0 Z = true := hw _ (List.mem_of_getElem? (i := 32) rfl)
theorem wd33 {a0 : Array Value} {Z : State} (hw : HW a0 Z) : ((Jvm.Cond.privateMethod ({ cls := "com/example/interim/interim/Frame$Shift", name := "source", desc := "([DI)D" } : Jvm.MethodName))).before a0 Z = true := hw _ (List.mem_of_getElem? (i := 33) rfl)
theorem wd34 {a0 : Array Value} {Z : State} (hw : HW a0 Z) : ((Jvm.Cond.code ({ cls := "com/example/interim/interim/Frame$Shift", name := "source", desc := "([DI)D" } : Jvm.MethodName) prog_31_method_5_code (3 : Nat) (Option.some Jvm.ClassFile.FieldType.double))).before a0 Z = true := hw _ (List.mem_of_getElem? (i := 34) rfl)
theorem wd35 {a0 : Array Value} {Z : State} (hw : HW a0 Z) : ((Jvm.Cond.constantDouble "com/example/interim/interim/Frame$Shift" (24 : Nat) (4611686018427387904 : UInt64))).before a0 Z = true := hw _ (List.mem_of_getElem? (i := 35) rfl)
theorem wd36 {a0 : Array Value} {Z : State} (hw : HW a0 Z) : ((Jvm.Cond.methodLink "com/example/interim/interim/ShiftSquaresPinLaw" (26 : Nat) ({ cls := "com/example/interim/interim/ShiftSquaresPinLaw", name := "expected", desc := "(IIJJJJJJJJ)J" } : Jvm.MethodName))).before a0 Z = true := hw _ (List.mem_of_getElem? (i := 36) rfl)
theorem wd37 {a0 : Array Value} {Z : State} (hw : HW a0 Z) : ((Jvm.Cond.static ({ cls := "com/example/interim/interim/ShiftSquaresPinLaw", name := "expected", desc := "(IIJJJJJJJJ)J" } : Jvm.MethodName))).before a0 Z = true := hw _ (List.mem_of_getElem? (i := 37) rfl)
theorem wd38 {a0 : Array Value} {Z : State} (hw : HW a0 Z) : ((Jvm.Cond.code ({ cls := "com/example/interim/interim/ShiftSquaresPinLaw", name := "expected", desc := "(IIJJJJJJJJ)J" } : Jvm.MethodName) method_4_code (24 : Nat) (Option.some Jvm.ClassFile.FieldType.long))).before a0 Z = true := hw _ (List.mem_of_getElem? (i := 38) rfl)
theorem wd39 {a0 : Array Value} {Z : State} (hw : HW a0 Z) : ((Jvm.Cond.methodLink "com/example/interim/interim/ShiftSquaresPinLaw" (7 : Nat) ({ cls := "com/example/interim/interim/ShiftSquaresPinLaw", name := "item", desc := "(ZJJJ)J" } : Jvm.MethodName))).before a0 Z = true := hw _ (List.mem_of_getElem? (i := 39) rfl)
theorem wd40 {a0 : Array Value} {Z : State} (hw : HW a0 Z) : ((Jvm.Cond.static ({ cls := "com/example/interim/interim/ShiftSquaresPinLaw", name := "item", desc := "(ZJJJ)J" } : Jvm.MethodName))).before a0 Z = true := hw _ (List.mem_of_getElem? (i := 40) rfl)
theorem wd41 {a0 : Array Value} {Z : State} (hw : HW a0 Z) : ((Jvm.Cond.code ({ cls := "com/example/interim/interim/ShiftSquaresPinLaw", name := "item", desc := "(ZJJJ)J" } : Jvm.MethodName) method_3_code (9 : Nat) (Option.some Jvm.ClassFile.FieldType.long))).before a0 Z = true := hw _ (List.mem_of_getElem? (i := 41) rfl)
theorem d1_0 : decode method_2_code 0 = .ok (.iload_n 0, 1) := by decide +kernel
theorem d1_1 : decode method_2_code 1 = .ok (.ifCond .eq 7, 3) := by decide +kernel
theorem d1_4 : decode method_2_code 4 = .ok (.lload_n 1, 1) := by decide +kernel
theorem d1_5 : decode method_2_code 5 = .ok (.goto 4, 3) := by decide +kernel
theorem d1_8 : decode method_2_code 8 = .ok (.lconst 0, 1) := by decide +kernel
theorem d1_9 : decode method_2_code 9 = .ok (.lreturn, 1) := by decide +kernel
theorem d2_0 : decode prog_31_method_1_code 0 = .ok (.aload_n 0, 1) := by decide +kernel
theorem d2_1 : decode prog_31_method_1_code 1 = .ok (.invokespecial 1, 3) := by decide +kernel
theorem d2_4 : decode prog_31_method_1_code 4 = .ok (.aload_n 0, 1) := by decide +kernel
theorem d2_5 : decode prog_31_method_1_code 5 = .ok (.aload_n 1, 1) := by decide +kernel
theorem d2_6 : decode prog_31_method_1_code 6 = .ok (.putfield 7, 3) := by decide +kernel
theorem d2_9 : decode prog_31_method_1_code 9 = .ok (.aload_n 0, 1) := by decide +kernel
theorem d2_10 : decode prog_31_method_1_code 10 = .ok (.aload_n 2, 1) := by decide +kernel
theorem d2_11 : decode prog_31_method_1_code 11 = .ok (.putfield 13, 3) := by decide +kernel
theorem d2_14 : decode prog_31_method_1_code 14 = .ok (.aload_n 0, 1) := by decide +kernel
theorem d2_15 : decode prog_31_method_1_code 15 = .ok (.aload_n 3, 1) := by decide +kernel
theorem d2_16 : decode prog_31_method_1_code 16 = .ok (.putfield 17, 3) := by decide +kernel
theorem d2_19 : decode prog_31_method_1_code 19 = .ok (.return_, 1) := by decide +kernel
theorem d3_0 : decode jdk_30_method_1_code 0 = .ok (.aload_n 0, 1) := by decide +kernel
theorem d3_1 : decode jdk_30_method_1_code 1 = .ok (.invokespecial 1, 3) := by decide +kernel
theorem d3_4 : decode jdk_30_method_1_code 4 = .ok (.return_, 1) := by decide +kernel
theorem d5_0 : decode prog_31_method_4_code 0 = .ok (.aload_n 0, 1) := by decide +kernel
theorem d5_1 : decode prog_31_method_4_code 1 = .ok (.getfield 7, 3) := by decide +kernel
theorem d5_4 : decode prog_31_method_4_code 4 = .ok (.arraylength, 1) := by decide +kernel
theorem d5_5 : decode prog_31_method_4_code 5 = .ok (.newarray .double, 2) := by decide +kernel
theorem d5_7 : decode prog_31_method_4_code 7 = .ok (.astore 4, 2) := by decide +kernel
theorem d5_9 : decode prog_31_method_4_code 9 = .ok (.iconst 0, 1) := by decide +kernel
theorem d5_10 : decode prog_31_method_4_code 10 = .ok (.istore 5, 2) := by decide +kernel
theorem d5_12 : decode prog_31_method_4_code 12 = .ok (.iload 5, 2) := by decide +kernel
theorem d5_14 : decode prog_31_method_4_code 14 = .ok (.aload 4, 2) := by decide +kernel
theorem d5_16 : decode prog_31_method_4_code 16 = .ok (.arraylength, 1) := by decide +kernel
theorem d5_17 : decode prog_31_method_4_code 17 = .ok (.if_icmp .ge 73, 3) := by decide +kernel
theorem d5_20 : decode prog_31_method_4_code 20 = .ok (.aload_n 0, 1) := by decide +kernel
theorem d5_21 : decode prog_31_method_4_code 21 = .ok (.getfield 13, 3) := by decide +kernel
theorem d5_24 : decode prog_31_method_4_code 24 = .ok (.iload 5, 2) := by decide +kernel
theorem d5_26 : decode prog_31_method_4_code 26 = .ok (.daload, 1) := by decide +kernel
theorem d5_27 : decode prog_31_method_4_code 27 = .ok (.dstore 6, 2) := by decide +kernel
theorem d5_29 : decode prog_31_method_4_code 29 = .ok (.aload_n 0, 1) := by decide +kernel
theorem d5_30 : decode prog_31_method_4_code 30 = .ok (.getfield 17, 3) := by decide +kernel
theorem d5_33 : decode prog_31_method_4_code 33 = .ok (.iload 5, 2) := by decide +kernel
theorem d5_35 : decode prog_31_method_4_code 35 = .ok (.daload, 1) := by decide +kernel
theorem d5_36 : decode prog_31_method_4_code 36 = .ok (.dstore 8, 2) := by decide +kernel
theorem d5_38 : decode prog_31_method_4_code 38 = .ok (.aload_n 0, 1) := by decide +kernel
theorem d5_39 : decode prog_31_method_4_code 39 = .ok (.aload_n 2, 1) := by decide +kernel
theorem d5_40 : decode prog_31_method_4_code 40 = .ok (.iload 5, 2) := by decide +kernel
theorem d5_42 : decode prog_31_method_4_code 42 = .ok (.invokevirtual 20, 3) := by decide +kernel
theorem d5_45 : decode prog_31_method_4_code 45 = .ok (.dstore 10, 2) := by decide +kernel
theorem d5_47 : decode prog_31_method_4_code 47 = .ok (.aload 4, 2) := by decide +kernel
theorem d5_49 : decode prog_31_method_4_code 49 = .ok (.iload 5, 2) := by decide +kernel
theorem d5_51 : decode prog_31_method_4_code 51 = .ok (.dload 6, 2) := by decide +kernel
theorem d5_53 : decode prog_31_method_4_code 53 = .ok (.dload 6, 2) := by decide +kernel
theorem d5_55 : decode prog_31_method_4_code 55 = .ok (.dmul, 1) := by decide +kernel
theorem d5_56 : decode prog_31_method_4_code 56 = .ok (.aload_n 0, 1) := by decide +kernel
theorem d5_57 : decode prog_31_method_4_code 57 = .ok (.aload_n 3, 1) := by decide +kernel
theorem d5_58 : decode prog_31_method_4_code 58 = .ok (.iload 5, 2) := by decide +kernel
theorem d5_60 : decode prog_31_method_4_code 60 = .ok (.invokevirtual 20, 3) := by decide +kernel
theorem d5_63 : decode prog_31_method_4_code 63 = .ok (.dmul, 1) := by decide +kernel
theorem d5_64 : decode prog_31_method_4_code 64 = .ok (.dload 8, 2) := by decide +kernel
theorem d5_66 : decode prog_31_method_4_code 66 = .ok (.ldc2_w 24, 3) := by decide +kernel
theorem d5_69 : decode prog_31_method_4_code 69 = .ok (.dload 6, 2) := by decide +kernel
theorem d5_71 : decode prog_31_method_4_code 71 = .ok (.dmul, 1) := by decide +kernel
theorem d5_72 : decode prog_31_method_4_code 72 = .ok (.dload 10, 2) := by decide +kernel
theorem d5_74 : decode prog_31_method_4_code 74 = .ok (.dmul, 1) := by decide +kernel
theorem d5_75 : decode prog_31_method_4_code 75 = .ok (.iload_n 1, 1) := by decide +kernel
theorem d5_76 : decode prog_31_method_4_code 76 = .ok (.i2d, 1) := by decide +kernel
theorem d5_77 : decode prog_31_method_4_code 77 = .ok (.dload 8, 2) := by decide +kernel
theorem d5_79 : decode prog_31_method_4_code 79 = .ok (.dmul, 1) := by decide +kernel
theorem d5_80 : decode prog_31_method_4_code 80 = .ok (.dadd, 1) := by decide +kernel
theorem d5_81 : decode prog_31_method_4_code 81 = .ok (.dmul, 1) := by decide +kernel
theorem d5_82 : decode prog_31_method_4_code 82 = .ok (.dadd, 1) := by decide +kernel
theorem d5_83 : decode prog_31_method_4_code 83 = .ok (.dastore, 1) := by decide +kernel
theorem d5_84 : decode prog_31_method_4_code 84 = .ok (.iinc 5 1, 3) := by decide +kernel
theorem d5_87 : decode prog_31_method_4_code 87 = .ok (.goto (-75), 3) := by decide +kernel
theorem d5_90 : decode prog_31_method_4_code 90 = .ok (.aload 4, 2) := by decide +kernel
theorem d5_92 : decode prog_31_method_4_code 92 = .ok (.areturn, 1) := by decide +kernel
theorem d6_0 : decode prog_31_method_5_code 0 = .ok (.aload_n 0, 1) := by decide +kernel
theorem d6_1 : decode prog_31_method_5_code 1 = .ok (.getfield 7, 3) := by decide +kernel
theorem d6_4 : decode prog_31_method_5_code 4 = .ok (.iload_n 2, 1) := by decide +kernel
theorem d6_5 : decode prog_31_method_5_code 5 = .ok (.iaload, 1) := by decide +kernel
theorem d6_6 : decode prog_31_method_5_code 6 = .ok (.ifCond .ge 7, 3) := by decide +kernel
theorem d6_9 : decode prog_31_method_5_code 9 = .ok (.dconst 0, 1) := by decide +kernel
theorem d6_10 : decode prog_31_method_5_code 10 = .ok (.goto 11, 3) := by decide +kernel
theorem d6_13 : decode prog_31_method_5_code 13 = .ok (.aload_n 1, 1) := by decide +kernel
theorem d6_14 : decode prog_31_method_5_code 14 = .ok (.aload_n 0, 1) := by decide +kernel
theorem d6_15 : decode prog_31_method_5_code 15 = .ok (.getfield 7, 3) := by decide +kernel
theorem d6_18 : decode prog_31_method_5_code 18 = .ok (.iload_n 2, 1) := by decide +kernel
theorem d6_19 : decode prog_31_method_5_code 19 = .ok (.iaload, 1) := by decide +kernel
theorem d6_20 : decode prog_31_method_5_code 20 = .ok (.daload, 1) := by decide +kernel
theorem d6_21 : decode prog_31_method_5_code 21 = .ok (.dreturn, 1) := by decide +kernel
theorem d7_0 : decode method_4_code 0 = .ok (.iload_n 0, 1) := by decide +kernel
theorem d7_1 : decode method_4_code 1 = .ok (.ifCond .ge 56, 3) := by decide +kernel
theorem d7_4 : decode method_4_code 4 = .ok (.iload_n 1, 1) := by decide +kernel
theorem d7_5 : decode method_4_code 5 = .ok (.ifCond .le 7, 3) := by decide +kernel
theorem d7_8 : decode method_4_code 8 = .ok (.iconst 1, 1) := by decide +kernel
theorem d7_9 : decode method_4_code 9 = .ok (.goto 4, 3) := by decide +kernel
theorem d7_12 : decode method_4_code 12 = .ok (.iconst 0, 1) := by decide +kernel
theorem d7_13 : decode method_4_code 13 = .ok (.lconst 0, 1) := by decide +kernel
theorem d7_14 : decode method_4_code 14 = .ok (.lconst 0, 1) := by decide +kernel
theorem d7_15 : decode method_4_code 15 = .ok (.lload 4, 2) := by decide +kernel
theorem d7_17 : decode method_4_code 17 = .ok (.invokestatic 7, 3) := by decide +kernel
theorem d7_20 : decode method_4_code 20 = .ok (.iload_n 1, 1) := by decide +kernel
theorem d7_21 : decode method_4_code 21 = .ok (.iconst 1, 1) := by decide +kernel
theorem d7_22 : decode method_4_code 22 = .ok (.if_icmp .le 7, 3) := by decide +kernel
theorem d7_25 : decode method_4_code 25 = .ok (.iconst 1, 1) := by decide +kernel
theorem d7_26 : decode method_4_code 26 = .ok (.goto 4, 3) := by decide +kernel
theorem d7_29 : decode method_4_code 29 = .ok (.iconst 0, 1) := by decide +kernel
theorem d7_30 : decode method_4_code 30 = .ok (.lconst 0, 1) := by decide +kernel
theorem d7_31 : decode method_4_code 31 = .ok (.lconst 0, 1) := by decide +kernel
theorem d7_32 : decode method_4_code 32 = .ok (.lload 4, 2) := by decide +kernel
theorem d7_34 : decode method_4_code 34 = .ok (.invokestatic 7, 3) := by decide +kernel
theorem d7_37 : decode method_4_code 37 = .ok (.ladd, 1) := by decide +kernel
theorem d7_38 : decode method_4_code 38 = .ok (.iload_n 1, 1) := by decide +kernel
theorem d7_39 : decode method_4_code 39 = .ok (.iconst 2, 1) := by decide +kernel
theorem d7_40 : decode method_4_code 40 = .ok (.if_icmp .le 7, 3) := by decide +kernel
theorem d7_43 : decode method_4_code 43 = .ok (.iconst 1, 1) := by decide +kernel
theorem d7_44 : decode method_4_code 44 = .ok (.goto 4, 3) := by decide +kernel
theorem d7_47 : decode method_4_code 47 = .ok (.iconst 0, 1) := by decide +kernel
theorem d7_48 : decode method_4_code 48 = .ok (.lconst 0, 1) := by decide +kernel
theorem d7_49 : decode method_4_code 49 = .ok (.lconst 0, 1) := by decide +kernel
theorem d7_50 : decode method_4_code 50 = .ok (.lload 4, 2) := by decide +kernel
theorem d7_52 : decode method_4_code 52 = .ok (.invokestatic 7, 3) := by decide +kernel
theorem d7_55 : decode method_4_code 55 = .ok (.ladd, 1) := by decide +kernel
theorem d7_56 : decode method_4_code 56 = .ok (.lreturn, 1) := by decide +kernel
theorem d7_57 : decode method_4_code 57 = .ok (.iload_n 0, 1) := by decide +kernel
theorem d7_58 : decode method_4_code 58 = .ok (.ifCond .ne 8, 3) := by decide +kernel
theorem d7_61 : decode method_4_code 61 = .ok (.lload 6, 2) := by decide +kernel
theorem d7_63 : decode method_4_code 63 = .ok (.goto 5, 3) := by decide +kernel
theorem d7_66 : decode method_4_code 66 = .ok (.lload 12, 2) := by decide +kernel
theorem d7_68 : decode method_4_code 68 = .ok (.lstore 18, 2) := by decide +kernel
theorem d7_70 : decode method_4_code 70 = .ok (.iload_n 0, 1) := by decide +kernel
theorem d7_71 : decode method_4_code 71 = .ok (.ifCond .ne 8, 3) := by decide +kernel
theorem d7_74 : decode method_4_code 74 = .ok (.lload 8, 2) := by decide +kernel
theorem d7_76 : decode method_4_code 76 = .ok (.goto 5, 3) := by decide +kernel
theorem d7_79 : decode method_4_code 79 = .ok (.lload 14, 2) := by decide +kernel
theorem d7_81 : decode method_4_code 81 = .ok (.lstore 20, 2) := by decide +kernel
theorem d7_83 : decode method_4_code 83 = .ok (.iload_n 0, 1) := by decide +kernel
theorem d7_84 : decode method_4_code 84 = .ok (.ifCond .ne 8, 3) := by decide +kernel
theorem d7_87 : decode method_4_code 87 = .ok (.lload 10, 2) := by decide +kernel
theorem d7_89 : decode method_4_code 89 = .ok (.goto 5, 3) := by decide +kernel
theorem d7_92 : decode method_4_code 92 = .ok (.lload 16, 2) := by decide +kernel
theorem d7_94 : decode method_4_code 94 = .ok (.lstore 22, 2) := by decide +kernel
theorem d7_96 : decode method_4_code 96 = .ok (.iload_n 1, 1) := by decide +kernel
theorem d7_97 : decode method_4_code 97 = .ok (.ifCond .le 7, 3) := by decide +kernel
theorem d7_100 : decode method_4_code 100 = .ok (.iconst 1, 1) := by decide +kernel
theorem d7_101 : decode method_4_code 101 = .ok (.goto 4, 3) := by decide +kernel
theorem d7_104 : decode method_4_code 104 = .ok (.iconst 0, 1) := by decide +kernel
theorem d7_105 : decode method_4_code 105 = .ok (.lload_n 2, 1) := by decide +kernel
theorem d7_106 : decode method_4_code 106 = .ok (.lload 18, 2) := by decide +kernel
theorem d7_108 : decode method_4_code 108 = .ok (.lload 4, 2) := by decide +kernel
theorem d7_110 : decode method_4_code 110 = .ok (.invokestatic 7, 3) := by decide +kernel
theorem d7_113 : decode method_4_code 113 = .ok (.iload_n 1, 1) := by decide +kernel
theorem d7_114 : decode method_4_code 114 = .ok (.iconst 1, 1) := by decide +kernel
theorem d7_115 : decode method_4_code 115 = .ok (.if_icmp .le 7, 3) := by decide +kernel
theorem d7_118 : decode method_4_code 118 = .ok (.iconst 1, 1) := by decide +kernel
theorem d7_119 : decode method_4_code 119 = .ok (.goto 4, 3) := by decide +kernel
theorem d7_122 : decode method_4_code 122 = .ok (.iconst 0, 1) := by decide +kernel
theorem d7_123 : decode method_4_code 123 = .ok (.lload_n 2, 1) := by decide +kernel
theorem d7_124 : decode method_4_code 124 = .ok (.lload 20, 2) := by decide +kernel
theorem d7_126 : decode method_4_code 126 = .ok (.lload 4, 2) := by decide +kernel
theorem d7_128 : decode method_4_code 128 = .ok (.invokestatic 7, 3) := by decide +kernel
theorem d7_131 : decode method_4_code 131 = .ok (.ladd, 1) := by decide +kernel
theorem d7_132 : decode method_4_code 132 = .ok (.iload_n 1, 1) := by decide +kernel
theorem d7_133 : decode method_4_code 133 = .ok (.iconst 2, 1) := by decide +kernel
theorem d7_134 : decode method_4_code 134 = .ok (.if_icmp .le 7, 3) := by decide +kernel
theorem d7_137 : decode method_4_code 137 = .ok (.iconst 1, 1) := by decide +kernel
theorem d7_138 : decode method_4_code 138 = .ok (.goto 4, 3) := by decide +kernel
theorem d7_141 : decode method_4_code 141 = .ok (.iconst 0, 1) := by decide +kernel
theorem d7_142 : decode method_4_code 142 = .ok (.lload_n 2, 1) := by decide +kernel
theorem d7_143 : decode method_4_code 143 = .ok (.lload 22, 2) := by decide +kernel
theorem d7_145 : decode method_4_code 145 = .ok (.lload 4, 2) := by decide +kernel
theorem d7_147 : decode method_4_code 147 = .ok (.invokestatic 7, 3) := by decide +kernel
theorem d7_150 : decode method_4_code 150 = .ok (.ladd, 1) := by decide +kernel
theorem d7_151 : decode method_4_code 151 = .ok (.lreturn, 1) := by decide +kernel
theorem d8_0 : decode method_3_code 0 = .ok (.lload_n 1, 1) := by decide +kernel
theorem d8_1 : decode method_3_code 1 = .ok (.lload_n 3, 1) := by decide +kernel
theorem d8_2 : decode method_3_code 2 = .ok (.lmul, 1) := by decide +kernel
theorem d8_3 : decode method_3_code 3 = .ok (.lload 5, 2) := by decide +kernel
theorem d8_5 : decode method_3_code 5 = .ok (.ladd, 1) := by decide +kernel
theorem d8_6 : decode method_3_code 6 = .ok (.lstore 7, 2) := by decide +kernel
theorem d8_8 : decode method_3_code 8 = .ok (.iload_n 0, 1) := by decide +kernel
theorem d8_9 : decode method_3_code 9 = .ok (.ifCond .eq 11, 3) := by decide +kernel
theorem d8_12 : decode method_3_code 12 = .ok (.lload 7, 2) := by decide +kernel
theorem d8_14 : decode method_3_code 14 = .ok (.lload 7, 2) := by decide +kernel
theorem d8_16 : decode method_3_code 16 = .ok (.lmul, 1) := by decide +kernel
theorem d8_17 : decode method_3_code 17 = .ok (.goto 4, 3) := by decide +kernel
theorem d8_20 : decode method_3_code 20 = .ok (.lconst 0, 1) := by decide +kernel
theorem d8_21 : decode method_3_code 21 = .ok (.lreturn, 1) := by decide +kernel
theorem pd0 : parseMethodDescriptor "(ZJJJ)J" = some ⟨[.boolean, .long, .long, .long], some .long⟩ := by decide +kernel
theorem pd1 : parseMethodDescriptor "()V" = some ⟨[], none⟩ := by decide +kernel
theorem pd2 : parseMethodDescriptor "([DI)D" = some ⟨[(.array .double), .int], some .double⟩ := by decide +kernel
theorem pd3 : parseMethodDescriptor "(ZJ)J" = some ⟨[.boolean, .long], some .long⟩ := by decide +kernel
theorem pd4 : parseMethodDescriptor "([I[D[D)V" = some ⟨[(.array .int), (.array .double), (.array .double)], none⟩ := by decide +kernel
theorem pd5 : parseMethodDescriptor "(I[D[D)[D" = some ⟨[.int, (.array .double), (.array .double)], some (.array .double)⟩ := by decide +kernel
theorem pd6 : parseMethodDescriptor "(IIJJJJJJJJ)J" = some ⟨[.int, .int, .long, .long, .long, .long, .long, .long, .long, .long], some .long⟩ := by decide +kernel
theorem pn0 : plainName "com/example/interim/interim/ShiftSquaresPinLaw" = true := by first | (simp [plainName, overriddenIn]; done) | decide +kernel
theorem pn1 : plainName "java/lang/Record" = true := by first | (simp [plainName, overriddenIn]; done) | decide +kernel
theorem pn2 : plainName "com/example/interim/interim/Frame$Shift" = true := by first | (simp [plainName, overriddenIn]; done) | decide +kernel
section OwnFl
open Jvm.FP Jvm.FP.Core Jvm.Free.Fl
/-- a double's value in units of 2 ^ (-1074) -/
abbrev zv (a : UInt64) : Int := zval b64 (val64 a)
theorem own_nn {a : UInt64} (h : NoNaN64 a) : val64 a ≠ .nan := val64_no.mp h
theorem own_l2d_zv {a : Int64} (h : B53 a) : zv (FP.l2d a) = a.toInt * (one64 : Int) := DInt_zval (l2d_whole (sm h))
theorem own_l2d_fin (a : Int64) : DFin (FP.l2d a) := fin64_core.mp (l2d_fin a)
theorem own_l2d_sgn (a : Int64) : sgn (val64 (FP.l2d a)) = decide (a.toInt < 0) := by
  obtain ⟨c, q, h⟩ := l2d_shape a
  rw [show val64 (FP.l2d a) = _ from h]; rfl
theorem own_zv_mag {a : UInt64} (h : sgn (val64 a) = false) : zv a = (zmag b64 (val64 a) : Int) := by
  show signed (sgn (val64 a)) _ = _
  rw [h]; rfl
theorem own_zv_magN {a : UInt64} (h : sgn (val64 a) = true) : zv a = -(zmag b64 (val64 a) : Int) := by
  show signed (sgn (val64 a)) _ = _
  rw [h]; rfl
theorem own_div_shape {a b : UInt64} (ha : DFin a) (hb : DFin b) (pb : 0 < zmag b64 (val64 b)) :
    ∃ s t c d q r, val64 a = .fin s c q ∧ val64 b = .fin t d r ∧ d ≠ 0 ∧ val64 (FP.ddiv a b) = roundRatio b64 (s != t) c d (q - r) := by
  obtain ⟨s, c, q, ha⟩ := ha
  obtain ⟨t, d, r, hb⟩ := hb
  have hd : d ≠ 0 := by
    rintro rfl
    rw [hb] at pb
    simp [zmag, inUnits] at pb
  refine ⟨s, t, c, d, q, r, ha, hb, hd, ?_⟩
  rw [show val64 (FP.ddiv a b) = quotient b64 (val64 a) (val64 b) from val64_ddiv a b, ha, hb]
  simp only [quotient, if_neg hd]
theorem own_div_e1 {s : Bool} {c : Nat} {q r : Int} (hq : b64.qmin ≤ q) : inUnits c (q - r) (2 * b64.qmin - r) = zmag b64 (.fin s c q) * one64 := by
  have h0 := qmin_neg good_b64
  rw [← pow_qmin64]
  show c * _ = c * _ * _
  rw [Nat.mul_assoc, ← Nat.pow_add]; congr 2; omega
theorem own_div_e2 {t : Bool} {d : Nat} {r : Int} (hr : b64.qmin ≤ r) : 2 ^ (b64.qmin - (2 * b64.qmin - r)).toNat * d = zmag b64 (.fin t d r) := by
  show _ = d * _
  rw [Nat.mul_comm]; congr 2; omega
theorem own_zmag_div_le {a b : UInt64} {V : Datum} (ha : DFin a) (hb : DFin b) (pb : 0 < zmag b64 (val64 b)) (fV : Core.fits b64 V) (nV : V ≠ .nan)
    (h : zmag b64 (val64 a) * one64 ≤ zmag b64 V * zmag b64 (val64 b)) : zmag b64 (val64 (FP.ddiv a b)) ≤ zmag b64 V := by
  obtain ⟨s, t, c, d, q, r, e1, e2, hd, e3⟩ := own_div_shape ha hb pb
  have f1 := val64_fits a; have f2 := val64_fits b
  rw [e1] at f1 h; rw [e2] at f2 h
  rw [e3]
  refine zmag_roundRatio_le good_b64 (Nat.pos_of_ne_zero hd) fV nV (e0 := 2 * b64.qmin - r) (by have := f2.2.1; omega) (by have := f1.2.1; have := qmin_neg good_b64; omega) ?_
  rw [own_div_e1 (s := s) f1.2.1, Nat.mul_assoc, own_div_e2 (t := t) f2.2.1]; exact h
theorem own_zmag_div_ge {a b : UInt64} {V : Datum} (ha : DFin a) (hb : DFin b) (pb : 0 < zmag b64 (val64 b)) (fV : Core.fits b64 V)
    (h : zmag b64 V * zmag b64 (val64 b) ≤ zmag b64 (val64 a) * one64) : zmag b64 V ≤ zmag b64 (val64 (FP.ddiv a b)) := by
  obtain ⟨s, t, c, d, q, r, e1, e2, hd, e3⟩ := own_div_shape ha hb pb
  have f1 := val64_fits a; have f2 := val64_fits b
  rw [e1] at f1 h; rw [e2] at f2 h
  rw [e3]
  refine zmag_roundRatio_ge good_b64 (Nat.pos_of_ne_zero hd) fV (e0 := 2 * b64.qmin - r) (by have := f2.2.1; omega) (by have := f1.2.1; have := qmin_neg good_b64; omega) ?_
  rw [own_div_e1 (s := s) f1.2.1, Nat.mul_assoc, own_div_e2 (t := t) f2.2.1]; exact h
theorem own_sgn_div {a b : UInt64} (ha : DFin a) (hb : DFin b) (pb : 0 < zmag b64 (val64 b)) : sgn (val64 (FP.ddiv a b)) = (sgn (val64 a) != sgn (val64 b)) := by
  obtain ⟨s, t, c, d, q, r, e1, e2, hd, e3⟩ := own_div_shape ha hb pb
  rw [e1, e2, e3, sgn_roundRatio]; rfl
theorem own_zmag_nat {f : Fmt} {V : Datum} : (0 : Int) ≤ (zmag f V : Int) := Int.natCast_nonneg _
theorem own_zval_cases (V : Datum) : zval b64 V = (zmag b64 V : Int) ∧ sgn V = false ∨ zval b64 V = -(zmag b64 V : Int) ∧ sgn V = true := by
  cases hs : sgn V
  · left; exact ⟨by show signed (sgn V) _ = _; rw [hs]; rfl, rfl⟩
  · right; exact ⟨by show signed (sgn V) _ = _; rw [hs]; rfl, rfl⟩
/-- the quotient of two doubles, the second above 0, against any double V -/
theorem own_div_le {a b : UInt64} {V : Datum} (ha : DFin a) (hb : DFin b) (sb : sgn (val64 b) = false) (pb : 0 < zv b) (fV : Core.fits b64 V) (nV : V ≠ .nan)
    (h : zv a * (one64 : Int) ≤ zval b64 V * zv b) : zv (FP.ddiv a b) ≤ zval b64 V := by
  have q := own_zv_mag sb
  have pb' : 0 < zmag b64 (val64 b) := by omega
  have s1 : sgn (val64 (FP.ddiv a b)) = sgn (val64 a) := by rw [own_sgn_div ha hb pb', sb]; simp
  have o1 : (0 : Int) < (one64 : Int) := by exact_mod_cast one64_pos
  have z2 : (0 : Int) < (zmag b64 (val64 b) : Int) := by omega
  cases sa : sgn (val64 a)
  · rw [sa] at s1
    rw [own_zv_mag s1]
    rcases own_zval_cases V with ⟨e, -⟩ | ⟨e, -⟩
    · rw [e] at h ⊢
      rw [own_zv_mag sa, q] at h
      exact Int.ofNat_le.mpr (own_zmag_div_le ha hb pb' fV nV (by exact_mod_cast h))
    · rw [e] at h ⊢
      rw [own_zv_mag sa, q, Int.neg_mul] at h
      have h1 : (0 : Int) ≤ (zmag b64 (val64 a) : Int) * (one64 : Int) := by exact_mod_cast Nat.zero_le _
      have h3 : (0 : Int) ≤ (zmag b64 V : Int) * (zmag b64 (val64 b) : Int) := by exact_mod_cast Nat.zero_le _
      have h4 : (zmag b64 V : Int) * (zmag b64 (val64 b) : Int) = 0 := by omega
      have h5 : (zmag b64 V : Int) = 0 := by
        rcases Int.mul_eq_zero.mp h4 with z | z
        · exact z
        · omega
      have h6 : (zmag b64 (val64 a) : Int) * (one64 : Int) = 0 := by omega
      have h7 : zmag b64 (val64 a) = 0 := by
        rcases Int.mul_eq_zero.mp h6 with z | z
        · exact_mod_cast z
        · omega
      have h8 : zmag b64 V = 0 := by exact_mod_cast h5
      have := own_zmag_div_le ha hb pb' fV nV (by rw [h7, h8]; simp)
      rw [h8] at this ⊢
      omega
  · rw [sa] at s1
    rw [own_zv_magN s1]
    rcases own_zval_cases V with ⟨e, -⟩ | ⟨e, -⟩
    · rw [e]
      have h1 : (0 : Int) ≤ (zmag b64 (val64 (FP.ddiv a b)) : Int) := own_zmag_nat
      have h2 : (0 : Int) ≤ (zmag b64 V : Int) := own_zmag_nat
      omega
    · rw [e] at h ⊢
      rw [own_zv_magN sa, q, Int.neg_mul, Int.neg_mul] at h
      have := own_zmag_div_ge ha hb pb' fV (by have h9 := Int.neg_le_neg_iff.mp h; exact_mod_cast h9)
      omega
theorem own_div_ge {a b : UInt64} {V : Datum} (ha : DFin a) (hb : DFin b) (sb : sgn (val64 b) = false) (pb : 0 < zv b) (fV : Core.fits b64 V) (nV : V ≠ .nan)
    (h : zval b64 V * zv b ≤ zv a * (one64 : Int)) : zval b64 V ≤ zv (FP.ddiv a b) := by
  have q := own_zv_mag sb
  have pb' : 0 < zmag b64 (val64 b) := by omega
  have s1 : sgn (val64 (FP.ddiv a b)) = sgn (val64 a) := by rw [own_sgn_div ha hb pb', sb]; simp
  have o1 : (0 : Int) < (one64 : Int) := by exact_mod_cast one64_pos
  have z2 : (0 : Int) < (zmag b64 (val64 b) : Int) := by omega
  cases sa : sgn (val64 a)
  · rw [sa] at s1
    rw [own_zv_mag s1]
    rcases own_zval_cases V with ⟨e, -⟩ | ⟨e, -⟩
    · rw [e] at h ⊢
      rw [own_zv_mag sa, q] at h
      exact Int.ofNat_le.mpr (own_zmag_div_ge ha hb pb' fV (by exact_mod_cast h))
    · rw [e]
      have h1 : (0 : Int) ≤ (zmag b64 (val64 (FP.ddiv a b)) : Int) := own_zmag_nat
      have h2 : (0 : Int) ≤ (zmag b64 V : Int) := own_zmag_nat
      omega
  · rw [sa] at s1
    rw [own_zv_magN s1]
    rcases own_zval_cases V with ⟨e, -⟩ | ⟨e, -⟩
    · rw [e] at h ⊢
      rw [own_zv_magN sa, q, Int.neg_mul] at h
      have h1 : (0 : Int) ≤ (zmag b64 (val64 a) : Int) * (one64 : Int) := by exact_mod_cast Nat.zero_le _
      have h3 : (0 : Int) ≤ (zmag b64 V : Int) * (zmag b64 (val64 b) : Int) := by exact_mod_cast Nat.zero_le _
      have h4 : (zmag b64 V : Int) * (zmag b64 (val64 b) : Int) = 0 := by omega
      have h5 : (zmag b64 V : Int) = 0 := by
        rcases Int.mul_eq_zero.mp h4 with z | z
        · exact z
        · omega
      have h6 : (zmag b64 (val64 a) : Int) * (one64 : Int) = 0 := by omega
      have h7 : zmag b64 (val64 a) = 0 := by
        rcases Int.mul_eq_zero.mp h6 with z | z
        · exact_mod_cast z
        · omega
      have h8 : zmag b64 V = 0 := by exact_mod_cast h5
      have := own_zmag_div_le ha hb pb' fV nV (by rw [h7, h8]; simp)
      rw [h8] at this ⊢
      omega
    · rw [e] at h ⊢
      rw [own_zv_magN sa, q, Int.neg_mul, Int.neg_mul] at h
      have := own_zmag_div_le ha hb pb' fV nV (by have h9 := Int.neg_le_neg_iff.mp h; exact_mod_cast h9)
      omega
/-- the quotient of two whole numbers -/
theorem own_lq_le {n m : Int64} (bn : B53 n) (bm : B53 m) (pm : 0 < m.toInt) {V : Datum} (fV : Core.fits b64 V) (nV : V ≠ .nan) (h : n.toInt * (one64 : Int) ≤ zval b64 V * m.toInt) : zv (FP.ddiv (FP.l2d n) (FP.l2d m)) ≤ zval b64 V := by
  have o1 : (0 : Int) < (one64 : Int) := by exact_mod_cast one64_pos
  refine own_div_le (own_l2d_fin n) (own_l2d_fin m) (by rw [own_l2d_sgn]; simp; omega) (by rw [own_l2d_zv bm]; exact Int.mul_pos pm o1) fV nV ?_
  rw [own_l2d_zv bn, own_l2d_zv bm, ← Int.mul_assoc]
  exact Int.mul_le_mul_of_nonneg_right h (Int.le_of_lt o1)
theorem own_lq_ge {n m : Int64} (bn : B53 n) (bm : B53 m) (pm : 0 < m.toInt) {V : Datum} (fV : Core.fits b64 V) (nV : V ≠ .nan) (h : zval b64 V * m.toInt ≤ n.toInt * (one64 : Int)) : zval b64 V ≤ zv (FP.ddiv (FP.l2d n) (FP.l2d m)) := by
  have o1 : (0 : Int) < (one64 : Int) := by exact_mod_cast one64_pos
  refine own_div_ge (own_l2d_fin n) (own_l2d_fin m) (by rw [own_l2d_sgn]; simp; omega) (by rw [own_l2d_zv bm]; exact Int.mul_pos pm o1) fV nV ?_
  rw [own_l2d_zv bn, own_l2d_zv bm, ← Int.mul_assoc]
  exact Int.mul_le_mul_of_nonneg_right h (Int.le_of_lt o1)
theorem own_lq_nn {n m : Int64} (pm : m.toInt ≠ 0) : NoNaN64 (FP.ddiv (FP.l2d n) (FP.l2d m)) :=
  Fl.ddiv_out (Fl.l2d_fin _).noNaN (Fl.l2d_fin _) (Fl.l2d_nz fun z => pm (by rw [z]; decide))
/-- a dyadic number of at most 53 digits is a datum -/
theorem own_dyad (s : Bool) {c : Nat} {q : Int} (hc : c < 2 ^ 53) (h1 : b64.qmin ≤ q) (h2 : q ≤ b64.qmax) : ∃ V : Datum, Core.fits b64 V ∧ V ≠ .nan ∧ zval b64 V = signed s (inUnits c q b64.qmin) := by
  obtain ⟨c', q', e1, e2⟩ := round_exact good_b64 s (c := c) (q := q) (by show c < 2 ^ 53; exact hc) h1 h2
  refine ⟨round b64 (.fin s c q), round_fits good_b64 _, ?_, ?_⟩
  · rw [e1]; simp
  · rw [e1]; show signed s (inUnits c' q' _) = _; rw [e2]
theorem own_sum_eq {a b : UInt64} {V : Datum} (ha : DFin a) (hb : DFin b) (fV : Core.fits b64 V) (nV : V ≠ .nan) (h : zv a + zv b = zval b64 V) : zv (FP.dadd a b) = zval b64 V := by
  have e : val64 (FP.dadd a b) = round b64 (exactSum (val64 a) (val64 b)) := val64_dadd a b
  show zval b64 (val64 (FP.dadd a b)) = _
  rw [e]
  exact Int.le_antisymm (sum_le good_b64 ha hb (val64_fits a) (val64_fits b) fV nV (Int.le_of_eq h)) (sum_ge good_b64 ha hb (val64_fits a) (val64_fits b) fV nV (Int.le_of_eq h.symm))
theorem own_sum_le {a b : UInt64} {V : Datum} (ha : DFin a) (hb : DFin b) (fV : Core.fits b64 V) (nV : V ≠ .nan) (h : zv a + zv b ≤ zval b64 V) : zv (FP.dadd a b) ≤ zval b64 V := by
  have e : val64 (FP.dadd a b) = round b64 (exactSum (val64 a) (val64 b)) := val64_dadd a b
  show zval b64 (val64 (FP.dadd a b)) ≤ _
  rw [e]; exact sum_le good_b64 ha hb (val64_fits a) (val64_fits b) fV nV h
theorem own_sum_ge {a b : UInt64} {V : Datum} (ha : DFin a) (hb : DFin b) (fV : Core.fits b64 V) (nV : V ≠ .nan) (h : zval b64 V ≤ zv a + zv b) : zval b64 V ≤ zv (FP.dadd a b) := by
  have e : val64 (FP.dadd a b) = round b64 (exactSum (val64 a) (val64 b)) := val64_dadd a b
  show _ ≤ zval b64 (val64 (FP.dadd a b))
  rw [e]; exact sum_ge good_b64 ha hb (val64_fits a) (val64_fits b) fV nV h
theorem own_diff_eq {a b : UInt64} {V : Datum} (ha : DFin a) (hb : DFin b) (fV : Core.fits b64 V) (nV : V ≠ .nan) (h : zv a - zv b = zval b64 V) : zv (FP.dsub a b) = zval b64 V := by
  have e : val64 (FP.dsub a b) = round b64 (exactSum (val64 a) (negate (val64 b))) := val64_dsub a b
  have hb' : ∃ s c q, negate (val64 b) = .fin s c q := by obtain ⟨s, c, q, z⟩ := hb; exact ⟨!s, c, q, by rw [z]; rfl⟩
  have h' : zval b64 (val64 a) - zval b64 (val64 b) = zval b64 V := h
  have hz : zval b64 (val64 a) + zval b64 (negate (val64 b)) = zval b64 V := by rw [zval_negate]; omega
  show zval b64 (val64 (FP.dsub a b)) = _
  rw [e]
  exact Int.le_antisymm (sum_le good_b64 ha hb' (val64_fits a) (negate_fits (val64_fits b)) fV nV (Int.le_of_eq hz)) (sum_ge good_b64 ha hb' (val64_fits a) (negate_fits (val64_fits b)) fV nV (Int.le_of_eq hz.symm))
/-- comparisons of doubles by their values -/
theorem own_cmp {a b : UInt64} (ha : val64 a ≠ .nan) (hb : val64 b ≠ .nan) (o : CmpOp) :
    (zv a < zv b → cmpValue (FP.dcmp a b) o = -1) ∧ (zv a = zv b → cmpValue (FP.dcmp a b) o = 0) ∧ (zv b < zv a → cmpValue (FP.dcmp a b) o = 1) := by
  refine ⟨fun h => ?_, fun h => ?_, fun h => ?_⟩
  · rw [show FP.dcmp a b = some .lt from dcmp_lt.mpr ⟨ha, hb, h⟩]; cases o <;> rfl
  · rw [show FP.dcmp a b = some .eq from dcmp_eq.mpr ⟨ha, hb, h⟩]; cases o <;> rfl
  · rw [show FP.dcmp a b = some .gt from dcmp_gt.mpr ⟨ha, hb, h⟩]; cases o <;> rfl
theorem own_cmp_le {a b : UInt64} (ha : val64 a ≠ .nan) (hb : val64 b ≠ .nan) (o : CmpOp) (h : zv a ≤ zv b) : ¬ (0 : Int32) < cmpValue (FP.dcmp a b) o := by
  rcases Int.lt_or_eq_of_le h with q | q
  · rw [(own_cmp ha hb o).1 q]; decide
  · rw [(own_cmp ha hb o).2.1 q]; decide
theorem own_cmp_ge {a b : UInt64} (ha : val64 a ≠ .nan) (hb : val64 b ≠ .nan) (o : CmpOp) (h : zv b ≤ zv a) : ¬ cmpValue (FP.dcmp a b) o < (0 : Int32) := by
  rcases Int.lt_or_eq_of_le h with q | q
  · rw [(own_cmp ha hb o).2.2 q]; decide
  · rw [(own_cmp ha hb o).2.1 q.symm]; decide
theorem own_one64_pos : (0 : Int) < (one64 : Int) := by exact_mod_cast one64_pos
theorem own_b53_0 : B53 0 := ⟨by decide, by decide⟩
theorem own_b53_1 : B53 1 := ⟨by decide, by decide⟩
theorem own_d0 : FP.dconst0 = FP.l2d 0 := by decide +kernel
theorem own_d1 : FP.dconst1 = FP.l2d 1 := by decide +kernel
theorem own_ddiv_nn {a b : UInt64} (ha : DFin a) (hb : DFin b) (pb : 0 < zv b) : NoNaN64 (FP.ddiv a b) :=
  Fl.ddiv_out (fin64_core.mpr ha).noNaN (fin64_core.mpr hb) (nz64_core.mpr fun z => by have q : zv b = 0 := DZero.zval z; omega)
end OwnFl
section OwnShift
open Jvm.FP Jvm.FP.Core Jvm.Free.Fl
def own_part (z : Int32) (x : Int64) : Int64 := if z = 0 then 0 else x
def own_item (z : Int32) (s u o : Int64) : Int64 := if z = 0 then 0 else (s * u + o) * (s * u + o)
def own_bit (i k : Int32) : Int32 := if i < k then 1 else 0
def own_exp (src k : Int32) (s o a0 a1 a2 b0 b1 b2 : Int64) : Int64 :=
  if src < 0 then own_item (own_bit 0 k) 0 0 o + own_item (own_bit 1 k) 0 0 o + own_item (own_bit 2 k) 0 0 o
  else own_item (own_bit 0 k) s (if src = 0 then a0 else b0) o + own_item (own_bit 1 k) s (if src = 0 then a1 else b1) o + own_item (own_bit 2 k) s (if src = 0 then a2 else b2) o
def own_src (src : Int32) (u0 u1 : UInt64) : UInt64 := if src < 0 then FP.dconst0 else if src = 0 then u0 else u1
/-- one place of the squares -/
def own_r (s o : UInt64) (k : Int32) (S Q : UInt64) : UInt64 := FP.dadd (FP.dmul (FP.dmul s s) Q) (FP.dmul o (FP.dadd (FP.dmul (FP.dmul 4611686018427387904 s) S) (FP.dmul (FP.i2d k) o)))
theorem own_get2 {src : Int32} {u0 u1 : UInt64} (h0 : ¬ src < 0) (h2 : src < 2) : [Value.double u0, .double u1].getD src.toNatClampNeg (.double (0 : UInt64)) = .double (own_src src u0 u1) := by
  have e0 : (0 : Int32).toInt = 0 := by decide
  have e1 : (1 : Int32).toInt = 1 := by decide
  have e2 : (2 : Int32).toInt = 2 := by decide
  have h0' := h0
  rw [Int32.lt_iff_toInt_lt, e0] at h0'
  rw [Int32.lt_iff_toInt_lt, e2] at h2
  have h : src = 0 ∨ src = 1 := by
    have : src.toInt = 0 ∨ src.toInt = 1 := by omega
    rcases this with h | h
    · exact Or.inl (Int32.toInt_inj.mp (h.trans e0.symm))
    · exact Or.inr (Int32.toInt_inj.mp (h.trans e1.symm))
  rcases h with rfl | rfl
  · rfl
  · rfl
/-! finite all along -/
theorem own_src_mag {src : Int32} {u0 u1 : UInt64} (h0 : Mag64 1088 u0) (h1 : Mag64 1088 u1) : Mag64 1088 (own_src src u0 u1) := by
  unfold own_src
  split
  · unfold Mag64; decide +kernel
  · split <;> assumption
theorem own_two_mag : Mag64 1088 4611686018427387904 := by unfold Mag64; decide +kernel
theorem own_mfin {K : Nat} {x : UInt64} (h : Mag64 K x) (hK : K ≤ 2047) : NoNaN64 x := (h.fin hK).noNaN
section
variable {s o S Q : UInt64} {k : Int32} (hs : Mag64 1088 s) (ho : Mag64 1088 o) (hS : Mag64 1088 S) (hQ : Mag64 1088 Q)
theorem own_g1 (hs : Mag64 1088 s) : Mag64 1154 (FP.dmul s s) := (Fl.dmul_mag hs hs (by decide) (by decide)).mono (by decide)
theorem own_g2 (hs : Mag64 1088 s) (hQ : Mag64 1088 Q) : Mag64 1220 (FP.dmul (FP.dmul s s) Q) := (Fl.dmul_mag (own_g1 hs) hQ (by decide) (by decide)).mono (by decide)
theorem own_g3 (hs : Mag64 1088 s) : Mag64 1154 (FP.dmul 4611686018427387904 s) := (Fl.dmul_mag own_two_mag hs (by decide) (by decide)).mono (by decide)
theorem own_g4 (hs : Mag64 1088 s) (hS : Mag64 1088 S) : Mag64 1220 (FP.dmul (FP.dmul 4611686018427387904 s) S) := (Fl.dmul_mag (own_g3 hs) hS (by decide) (by decide)).mono (by decide)
theorem own_g5 (k : Int32) (ho : Mag64 1088 o) : Mag64 1220 (FP.dmul (FP.i2d k) o) := (Fl.dmul_mag (Fl.i2d_mag k) ho (by decide) (by decide)).mono (by decide)
theorem own_g6 (k : Int32) (hs : Mag64 1088 s) (ho : Mag64 1088 o) (hS : Mag64 1088 S) : Mag64 1222 (FP.dadd (FP.dmul (FP.dmul 4611686018427387904 s) S) (FP.dmul (FP.i2d k) o)) := Fl.dadd_mag (own_g4 hs hS) (own_g5 k ho) (by decide)
theorem own_g7 (k : Int32) (hs : Mag64 1088 s) (ho : Mag64 1088 o) (hS : Mag64 1088 S) : Mag64 1288 (FP.dmul o (FP.dadd (FP.dmul (FP.dmul 4611686018427387904 s) S) (FP.dmul (FP.i2d k) o))) := (Fl.dmul_mag ho (own_g6 k hs ho hS) (by decide) (by decide)).mono (by decide)
theorem own_g8 (k : Int32) (hs : Mag64 1088 s) (ho : Mag64 1088 o) (hS : Mag64 1088 S) (hQ : Mag64 1088 Q) : Mag64 1290 (own_r s o k S Q) := Fl.dadd_mag ((own_g2 hs hQ).mono (by decide)) (own_g7 k hs ho hS) (by decide)
end
/-! what they are worth -/
theorem own_mulb {i j : Int} {A B : Nat} (hi : i.natAbs ≤ A) (hj : j.natAbs ≤ B) : (i * j).natAbs ≤ A * B := by rw [Int.natAbs_mul]; exact Nat.mul_le_mul hi hj
theorem own_addb {i j : Int} {A B : Nat} (hi : i.natAbs ≤ A) (hj : j.natAbs ≤ B) : (i + j).natAbs ≤ A + B := Nat.le_trans (Int.natAbs_add_le i j) (Nat.add_le_add hi hj)
theorem own_two_int : DInt 2 4611686018427387904 := by
  have h : val64 (4611686018427387904 : UInt64) = .fin false (2 ^ 52) (-51) := by decide +kernel
  show Whole 2 (val64 _)
  rw [h]
  show signed false (2 ^ 52 * 2 ^ (-51 : Int).toNat) = 2 * ((2 ^ (51 : Int).toNat : Nat) : Int)
  decide
theorem own_zero_int : DInt 0 FP.dconst0 := by
  have h := l2d_int (a := 0) (by decide)
  rw [own_d0]; exact h
theorem own_r_int {s o S Q : UInt64} {k : Int32} {si oi Si Qi : Int} (hs : DInt si s) (ho : DInt oi o) (hS : DInt Si S) (hQ : DInt Qi Q) (bs : si.natAbs ≤ 32768) (bo : oi.natAbs ≤ 32768) (bS : Si.natAbs ≤ 384) (bQ : Qi.natAbs ≤ 49152) (bk : k.toInt.natAbs ≤ 3) :
    DInt (si * si * Qi + oi * (2 * si * Si + k.toInt * oi)) (own_r s o k S Q) := by
  have c1 := own_mulb bs bs
  have c2 := own_mulb c1 bQ
  have c3 := own_mulb (i := 2) (A := 2) (by decide) bs
  have c4 := own_mulb c3 bS
  have c5 := own_mulb bk bo
  have c6 := own_addb c4 c5
  have c7 := own_mulb bo c6
  have c8 := own_addb c2 c7
  refine dadd_int (dmul_int (dmul_int hs hs (Nat.le_trans c1 (by decide))) hQ (Nat.le_trans c2 (by decide))) (dmul_int ho (dadd_int (dmul_int (dmul_int own_two_int hs (Nat.le_trans c3 (by decide))) hS (Nat.le_trans c4 (by decide))) (dmul_int (i2d_int k) ho (Nat.le_trans c5 (by decide))) (Nat.le_trans c6 (by decide))) (Nat.le_trans c7 (by decide))) (Nat.le_trans c8 (by decide))
theorem own_src_int {src : Int32} {u0 u1 : UInt64} {U0 U1 : Int} (h0 : DInt U0 u0) (h1 : DInt U1 u1) : DInt (if src < 0 then 0 else if src = 0 then U0 else U1) (own_src src u0 u1) := by
  unfold own_src
  split
  · exact own_zero_int
  · split <;> assumption
/-! the longs -/
def own_pI (z : Int32) (x : Int) : Int := if z = 0 then 0 else x
theorem own_item_i (z : Int32) {s u o : Int64} (bs : s.toInt.natAbs ≤ 32768) (bu : u.toInt.natAbs ≤ 128) (bo : o.toInt.natAbs ≤ 32768) : (own_item z s u o).toInt = own_pI z ((s.toInt * u.toInt + o.toInt) * (s.toInt * u.toInt + o.toInt)) ∧ (own_item z s u o).toInt.natAbs ≤ 4227072 * 4227072 := by
  unfold own_item own_pI
  split
  · exact ⟨by decide, by decide⟩
  · have c1 := own_mulb bs bu
    have e1 : (s * u).toInt = s.toInt * u.toInt := int64_mul (by omega) (by omega)
    have c2 := own_addb c1 bo
    have e2 : (s * u + o).toInt = s.toInt * u.toInt + o.toInt := by rw [int64_add (by rw [e1]; omega) (by rw [e1]; omega), e1]
    have c3 := own_mulb c2 c2
    have e3 : ((s * u + o) * (s * u + o)).toInt = (s.toInt * u.toInt + o.toInt) * (s.toInt * u.toInt + o.toInt) := by rw [int64_mul (by rw [e2]; omega) (by rw [e2]; omega), e2]
    refine ⟨e3, ?_⟩
    rw [e3]; exact Nat.le_trans c3 (by decide)
theorem own_sum3 {x y z : Int64} {X Y W : Int} (hx : x.toInt = X) (hy : y.toInt = Y) (hz : z.toInt = W) (bx : X.natAbs ≤ 4227072 * 4227072) (by_ : Y.natAbs ≤ 4227072 * 4227072) (bz : W.natAbs ≤ 4227072 * 4227072) : (x + y + z).toInt = X + Y + W ∧ (X + Y + W).natAbs ≤ 3 * (4227072 * 4227072) := by
  have e1 : (x + y).toInt = X + Y := by rw [int64_add (by rw [hx, hy]; omega) (by rw [hx, hy]; omega), hx, hy]
  refine ⟨by rw [int64_add (by rw [e1, hz]; omega) (by rw [e1, hz]; omega), e1, hz], by omega⟩
theorem own_part_i (z : Int32) (x : Int64) : (own_part z x).toInt = own_pI z x.toInt := by
  unfold own_part own_pI; split
  · decide
  · rfl
theorem own_pI_b (z : Int32) {x : Int} {B : Nat} (h : x.natAbs ≤ B) : (own_pI z x).natAbs ≤ B := by
  unfold own_pI; split
  · simp
  · exact h
/-- the identity, for k terms -/
theorem own_ident (k : Int32) (hk : k = 0 ∨ k = 1 ∨ k = 2 ∨ k = 3) (s o u0 u1 u2 : Int) :
    own_pI (own_bit 0 k) ((s * u0 + o) * (s * u0 + o)) + own_pI (own_bit 1 k) ((s * u1 + o) * (s * u1 + o)) + own_pI (own_bit 2 k) ((s * u2 + o) * (s * u2 + o)) =
      s * s * (own_pI (own_bit 0 k) (u0 * u0) + own_pI (own_bit 1 k) (u1 * u1) + own_pI (own_bit 2 k) (u2 * u2)) + o * (2 * s * (own_pI (own_bit 0 k) u0 + own_pI (own_bit 1 k) u1 + own_pI (own_bit 2 k) u2) + k.toInt * o) := by
  have e0 : (0 : Int32).toInt = 0 := by decide
  have e1 : (1 : Int32).toInt = 1 := by decide
  have e2 : (2 : Int32).toInt = 2 := by decide
  have e3 : (3 : Int32).toInt = 3 := by decide
  rcases hk with rfl | rfl | rfl | rfl <;> simp +decide only [own_bit, own_pI, if_true, if_false, e0, e1, e2, e3] <;> grind
end OwnShift
theorem own_byte (x : Int32) : x.toInt8.toInt32.toInt64.toInt.natAbs ≤ 128 := by
  have h := c_i2b x
  rw [c_i2l]; omega
theorem own_short (x : Int32) : x.toInt16.toInt32.toInt64.toInt.natAbs ≤ 32768 := by
  have h := c_i2s x
  rw [c_i2l]; omega
theorem own_k4 {k x : Int32} (h : x &&& 3 = k) : k = 0 ∨ k = 1 ∨ k = 2 ∨ k = 3 := by
  have q := c_mask x 3 2 (by decide) (by decide)
  rw [h] at q
  have e0 : (0 : Int32).toInt = 0 := by decide
  have e1 : (1 : Int32).toInt = 1 := by decide
  have e2 : (2 : Int32).toInt = 2 := by decide
  have e3 : (3 : Int32).toInt = 3 := by decide
  have h5 : k.toInt = 0 ∨ k.toInt = 1 ∨ k.toInt = 2 ∨ k.toInt = 3 := by omega
  rcases h5 with h | h | h | h
  · exact Or.inl (Int32.toInt_inj.mp (h.trans e0.symm))
  · exact Or.inr (Or.inl (Int32.toInt_inj.mp (h.trans e1.symm)))
  · exact Or.inr (Or.inr (Or.inl (Int32.toInt_inj.mp (h.trans e2.symm))))
  · exact Or.inr (Or.inr (Or.inr (Int32.toInt_inj.mp (h.trans e3.symm))))
theorem own_s2 {x y : Int32} (h : x % 3 - 1 = y) (h0 : 0 ≤ x.toInt) : y < 2 := by
  have e3 : (3 : Int32).toInt = 3 := by decide
  have e1 : (1 : Int32).toInt = 1 := by decide
  have e2 : (2 : Int32).toInt = 2 := by decide
  have q := (c_iremV x 3).1 h0 (by decide)
  rw [e3] at q
  have q2 := c_isub (x % 3) 1
  rw [h, e1] at q2
  have := rng32 y
  rw [Int32.lt_iff_toInt_lt, e2]; omega
section OwnShift2
open Jvm.FP Jvm.FP.Core
theorem own_sum_part {z0 z1 z2 : Int32} {x0 x1 x2 : Int64} {B : Nat} (h0 : x0.toInt.natAbs ≤ B) (h1 : x1.toInt.natAbs ≤ B) (h2 : x2.toInt.natAbs ≤ B) (hB : B ≤ 1000000000) :
    DInt (own_pI z0 x0.toInt + own_pI z1 x1.toInt + own_pI z2 x2.toInt) (FP.l2d (own_part z0 x0 + own_part z1 x1 + own_part z2 x2)) ∧ (own_pI z0 x0.toInt + own_pI z1 x1.toInt + own_pI z2 x2.toInt).natAbs ≤ 3 * B := by
  have c0 := own_pI_b z0 h0; have c1 := own_pI_b z1 h1; have c2 := own_pI_b z2 h2
  have e := own_sum3 (own_part_i z0 x0) (own_part_i z1 x1) (own_part_i z2 x2) (by omega) (by omega) (by omega)
  have hb : (own_pI z0 x0.toInt + own_pI z1 x1.toInt + own_pI z2 x2.toInt).natAbs ≤ 3 * B := by omega
  refine ⟨?_, hb⟩
  have q := l2d_int (a := own_part z0 x0 + own_part z1 x1 + own_part z2 x2) (by rw [e.1]; omega)
  rw [e.1] at q; exact q
theorem own_sqb {x : Int64} (h : x.toInt.natAbs ≤ 128) : (x * x).toInt = x.toInt * x.toInt ∧ (x * x).toInt.natAbs ≤ 16384 := by
  have c := own_mulb h h
  have e : (x * x).toInt = x.toInt * x.toInt := int64_mul (by omega) (by omega)
  exact ⟨e, by rw [e]; exact c⟩
theorem own_ite_b {src : Int32} {X Y : Int} {B : Nat} (hx : X.natAbs ≤ B) (hy : Y.natAbs ≤ B) : (if src < 0 then 0 else if src = 0 then X else Y : Int).natAbs ≤ B := by
  split
  · exact Nat.zero_le _
  · split <;> assumption
/-- one place against what is expected -/
theorem own_place (src k : Int32) (hk : k = 0 ∨ k = 1 ∨ k = 2 ∨ k = 3) {s o a0 a1 a2 b0 b1 b2 : Int64} (bs : s.toInt.natAbs ≤ 32768) (bo : o.toInt.natAbs ≤ 32768) (ba0 : a0.toInt.natAbs ≤ 128) (ba1 : a1.toInt.natAbs ≤ 128) (ba2 : a2.toInt.natAbs ≤ 128) (bb0 : b0.toInt.natAbs ≤ 128) (bb1 : b1.toInt.natAbs ≤ 128) (bb2 : b2.toInt.natAbs ≤ 128) (op : CmpOp) :
    cmpValue (FP.dcmp (own_r (FP.l2d s) (FP.l2d o) k
      (own_src src (FP.l2d (own_part (own_bit 0 k) a0 + own_part (own_bit 1 k) a1 + own_part (own_bit 2 k) a2)) (FP.l2d (own_part (own_bit 0 k) b0 + own_part (own_bit 1 k) b1 + own_part (own_bit 2 k) b2)))
      (own_src src (FP.l2d (own_part (own_bit 0 k) (a0 * a0) + own_part (own_bit 1 k) (a1 * a1) + own_part (own_bit 2 k) (a2 * a2))) (FP.l2d (own_part (own_bit 0 k) (b0 * b0) + own_part (own_bit 1 k) (b1 * b1) + own_part (own_bit 2 k) (b2 * b2)))))
      (FP.l2d (own_exp src k s o a0 a1 a2 b0 b1 b2))) op = 0 := by
  have ds := l2d_int (a := s) (Nat.le_trans bs (by decide))
  have do_ := l2d_int (a := o) (Nat.le_trans bo (by decide))
  have pa := own_sum_part (z0 := own_bit 0 k) (z1 := own_bit 1 k) (z2 := own_bit 2 k) ba0 ba1 ba2 (by decide)
  have pb := own_sum_part (z0 := own_bit 0 k) (z1 := own_bit 1 k) (z2 := own_bit 2 k) bb0 bb1 bb2 (by decide)
  have qa := own_sum_part (z0 := own_bit 0 k) (z1 := own_bit 1 k) (z2 := own_bit 2 k) (own_sqb ba0).2 (own_sqb ba1).2 (own_sqb ba2).2 (by decide)
  have qb := own_sum_part (z0 := own_bit 0 k) (z1 := own_bit 1 k) (z2 := own_bit 2 k) (own_sqb bb0).2 (own_sqb bb1).2 (own_sqb bb2).2 (by decide)
  rw [(own_sqb ba0).1, (own_sqb ba1).1, (own_sqb ba2).1] at qa
  rw [(own_sqb bb0).1, (own_sqb bb1).1, (own_sqb bb2).1] at qb
  have dS := own_src_int (src := src) pa.1 pb.1
  have dQ := own_src_int (src := src) qa.1 qb.1
  have bk : k.toInt.natAbs ≤ 3 := by rcases hk with rfl | rfl | rfl | rfl <;> decide
  have R := own_r_int ds do_ dS dQ bs bo (own_ite_b pa.2 pb.2) (own_ite_b qa.2 qb.2) bk
  have E : ∃ W : Int, (own_exp src k s o a0 a1 a2 b0 b1 b2).toInt = W ∧ W.natAbs ≤ 3 * (4227072 * 4227072) ∧ W = s.toInt * s.toInt * (if src < 0 then 0 else if src = 0 then own_pI (own_bit 0 k) (a0.toInt * a0.toInt) + own_pI (own_bit 1 k) (a1.toInt * a1.toInt) + own_pI (own_bit 2 k) (a2.toInt * a2.toInt) else own_pI (own_bit 0 k) (b0.toInt * b0.toInt) + own_pI (own_bit 1 k) (b1.toInt * b1.toInt) + own_pI (own_bit 2 k) (b2.toInt * b2.toInt)) + o.toInt * (2 * s.toInt * (if src < 0 then 0 else if src = 0 then own_pI (own_bit 0 k) a0.toInt + own_pI (own_bit 1 k) a1.toInt + own_pI (own_bit 2 k) a2.toInt else own_pI (own_bit 0 k) b0.toInt + own_pI (own_bit 1 k) b1.toInt + own_pI (own_bit 2 k) b2.toInt) + k.toInt * o.toInt) := by
    unfold own_exp
    by_cases h0 : src < 0
    · simp only [h0, if_true]
      have i0 := own_item_i (own_bit 0 k) (s := 0) (u := 0) (o := o) (by decide) (by decide) bo
      have i1 := own_item_i (own_bit 1 k) (s := 0) (u := 0) (o := o) (by decide) (by decide) bo
      have i2 := own_item_i (own_bit 2 k) (s := 0) (u := 0) (o := o) (by decide) (by decide) bo
      have S := own_sum3 i0.1 i1.1 i2.1 (i0.1 ▸ i0.2) (i1.1 ▸ i1.2) (i2.1 ▸ i2.2)
      refine ⟨_, S.1, S.2, ?_⟩
      have z : (0 : Int64).toInt = 0 := by decide
      have id := own_ident k hk 0 o.toInt 0 0 0
      rw [z, id]
      have hz : own_pI (own_bit 0 k) 0 = 0 ∧ own_pI (own_bit 1 k) 0 = 0 ∧ own_pI (own_bit 2 k) 0 = 0 := by unfold own_pI; simp
      simp [hz.1, hz.2.1, hz.2.2]
    · by_cases h1 : src = 0
      · simp only [h0, h1, if_true, if_false]
        have hn : ¬ (0 : Int32) < 0 := by decide
        simp only [hn, if_false]
        have i0 := own_item_i (own_bit 0 k) bs ba0 bo
        have i1 := own_item_i (own_bit 1 k) bs ba1 bo
        have i2 := own_item_i (own_bit 2 k) bs ba2 bo
        have S := own_sum3 i0.1 i1.1 i2.1 (i0.1 ▸ i0.2) (i1.1 ▸ i1.2) (i2.1 ▸ i2.2)
        exact ⟨_, S.1, S.2, own_ident k hk s.toInt o.toInt a0.toInt a1.toInt a2.toInt⟩
      · simp only [h0, h1, if_false]
        have i0 := own_item_i (own_bit 0 k) bs bb0 bo
        have i1 := own_item_i (own_bit 1 k) bs bb1 bo
        have i2 := own_item_i (own_bit 2 k) bs bb2 bo
        have S := own_sum3 i0.1 i1.1 i2.1 (i0.1 ▸ i0.2) (i1.1 ▸ i1.2) (i2.1 ▸ i2.2)
        exact ⟨_, S.1, S.2, own_ident k hk s.toInt o.toInt b0.toInt b1.toInt b2.toInt⟩
  obtain ⟨W, w1, w2, w3⟩ := E
  have dE := l2d_int (a := own_exp src k s o a0 a1 a2 b0 b1 b2) (by rw [w1]; omega)
  rw [w1, w3] at dE
  rw [show FP.dcmp _ _ = some (compare _ _) from dcmp_int R dE, show compare _ _ = Ordering.eq from (compare_eq_iff _ _).mpr rfl]
  cases op <;> rfl
end OwnShift2

theorem ef1 (m : MethodId) (x0 : Int32) (x1 : Int64) : entryFrame m #[(.int x0), (.long x1)] 3 = mkF m 0 #[.val (.int x0), .val (.long x1), .second] [] := by first | (simp [entryFrame, mkF, argsToLocals, Value.category]; done) | rfl
set_option maxRecDepth 65536 in
set_option maxHeartbeats 40000000 in
theorem ct1 {l : Launch} {Z : State} {a0 : Array Value} (hw : HW a0 Z) {n0 : Nat} {h0 : Heap} (hn0 : n0 ≤ h0.size) (z : Int32) (u : Int64)  :
    Ctr l Z (⟨"com/example/interim/interim/ShiftSquaresPinLaw", "part", "(ZJ)J"⟩ : MethodName) method_2_code 3 (some .long) ({ frames := 0, cells := 0, slots := 0, locals := 0 } : Room) n0 #[(.int z), (.long u)] h0 (fun v h => v = some (.long (own_part z u)) ∧ h = h0) := by
  refine Ctr.of (plainFor_of_name pn0) hn0 ?_
  intro p e s m below meth c T0 C hnm hret hlk X0
  rw [ef1 m z u]
  refine OGo.iloadN (pc' := 1) C X0 d1_0 rfl rfl ?_
  by_cases hz : z = (0 : Int32)
  · refine OGo.ifYes (pc' := 8) C X0 d1_1 (teq hz).1 (by decide) (by decide) ?_
    refine OGo.lconst (pc' := 9) (z := (0 : Int64)) C X0 d1_8 rfl (by decide) ?_
    exact OGo.retL C X0 d1_9 hret hlk (⟨by simp [own_part, hz], rfl⟩) (by decide) (by decide)
  · refine OGo.ifNo (pc' := 4) C X0 d1_1 rfl (feq hz).1 ?_
    refine OGo.lloadN (pc' := 5) C X0 d1_4 rfl rfl ?_
    refine OGo.goto (pc' := 9) C X0 d1_5 (by decide) (by decide) ?_
    exact OGo.retL C X0 d1_9 hret hlk (⟨by simp [own_part, hz], rfl⟩) (by decide) (by decide)
theorem ef8 (m : MethodId) (x0 : Int32) (x1 : Int64) (x2 : Int64) (x3 : Int64) : entryFrame m #[(.int x0), (.long x1), (.long x2), (.long x3)] 9 = mkF m 0 #[.val (.int x0), .val (.long x1), .second, .val (.long x2), .second, .val (.long x3), .second, .unset, .unset] [] := by first | (simp [entryFrame, mkF, argsToLocals, Value.category]; done) | rfl
set_option maxRecDepth 65536 in
set_option maxHeartbeats 40000000 in
theorem ct8 {l : Launch} {Z : State} {a0 : Array Value} (hw : HW a0 Z) {n0 : Nat} {h0 : Heap} (hn0 : n0 ≤ h0.size) (z : Int32) (s0 u o0 : Int64)  :
    Ctr l Z (⟨"com/example/interim/interim/ShiftSquaresPinLaw", "item", "(ZJJJ)J"⟩ : MethodName) method_3_code 9 (some .long) ({ frames := 0, cells := 0, slots := 0, locals := 0 } : Room) n0 #[(.int z), (.long s0), (.long u), (.long o0)] h0 (fun v h => v = some (.long (own_item z s0 u o0)) ∧ h = h0) := by
  refine Ctr.of (plainFor_of_name pn0) hn0 ?_
  intro p e s m below meth c T0 C hnm hret hlk X0
  rw [ef8 m z s0 u o0]
  refine OGo.lloadN (pc' := 1) C X0 d8_0 rfl rfl ?_
  refine OGo.lloadN (pc' := 2) C X0 d8_1 rfl rfl ?_
  refine OGo.lmul (pc' := 3) (z := (s0 * u)) C X0 d8_2 rfl rfl ?_
  refine OGo.lload (pc' := 5) C X0 d8_3 rfl rfl ?_
  refine OGo.ladd (pc' := 6) (z := ((s0 * u) + o0)) C X0 d8_5 rfl rfl ?_
  refine OGo.lstore (pc' := 8) C X0 d8_6 rfl (l' := #[.val (.int z), .val (.long s0), .second, .val (.long u), .second, .val (.long o0), .second, .val (.long ((s0 * u) + o0)), .second]) rfl ?_
  refine OGo.iloadN (pc' := 9) C X0 d8_8 rfl rfl ?_
  by_cases hz : z = (0 : Int32)
  · refine OGo.ifYes (pc' := 20) C X0 d8_9 (teq hz).1 (by decide) (by decide) ?_
    refine OGo.lconst (pc' := 21) (z := (0 : Int64)) C X0 d8_20 rfl (by decide) ?_
    exact OGo.retL C X0 d8_21 hret hlk (⟨by simp [own_item, hz], rfl⟩) (by decide) (by decide)
  · refine OGo.ifNo (pc' := 12) C X0 d8_9 rfl (feq hz).1 ?_
    refine OGo.lload (pc' := 14) C X0 d8_12 rfl rfl ?_
    refine OGo.lload (pc' := 16) C X0 d8_14 rfl rfl ?_
    refine OGo.lmul (pc' := 17) (z := (((s0 * u) + o0) * ((s0 * u) + o0))) C X0 d8_16 rfl rfl ?_
    refine OGo.goto (pc' := 21) C X0 d8_17 (by decide) (by decide) ?_
    exact OGo.retL C X0 d8_21 hret hlk (⟨by simp [own_item, hz], rfl⟩) (by decide) (by decide)
theorem ef7 (m : MethodId) (x0 : Int32) (x1 : Int32) (x2 : Int64) (x3 : Int64) (x4 : Int64) (x5 : Int64) (x6 : Int64) (x7 : Int64) (x8 : Int64) (x9 : Int64) : entryFrame m #[(.int x0), (.int x1), (.long x2), (.long x3), (.long x4), (.long x5), (.long x6), (.long x7), (.long x8), (.long x9)] 24 = mkF m 0 #[.val (.int x0), .val (.int x1), .val (.long x2), .second, .val (.long x3), .second, .val (.long x4), .second, .val (.long x5), .second, .val (.long x6), .second, .val (.long x7), .second, .val (.long x8), .second, .val (.long x9), .second, .unset, .unset, .unset, .unset, .unset, .unset] [] := by first | (simp [entryFrame, mkF, argsToLocals, Value.category]; done) | rfl
set_option maxRecDepth 65536 in
set_option maxHeartbeats 40000000 in
theorem ct7 {l : Launch} {Z : State} {a0 : Array Value} (hw : HW a0 Z) {n0 : Nat} {h0 : Heap} (hn0 : n0 ≤ h0.size) (src k : Int32) (s0 o0 : Int64) (x0 x1 x2 y0 y1 y2 : Int64) (hk : k = 0 ∨ k = 1 ∨ k = 2 ∨ k = 3) :
    Ctr l Z (⟨"com/example/interim/interim/ShiftSquaresPinLaw", "expected", "(IIJJJJJJJJ)J"⟩ : MethodName) method_4_code 24 (some .long) ({ frames := 1, cells := 0, slots := 0, locals := 32 } : Room) n0 #[(.int src), (.int k), (.long s0), (.long o0), (.long x0), (.long x1), (.long x2), (.long y0), (.long y1), (.long y2)] h0 (fun v h => v = some (.long (own_exp src k s0 o0 x0 x1 x2 y0 y1 y2)) ∧ h = h0) := by
  refine Ctr.of (plainFor_of_name pn0) hn0 ?_
  intro p e s m below meth c T0 C hnm hret hlk X0
  rw [ef7 m src k s0 o0 x0 x1 x2 y0 y1 y2]
  rcases hk with rfl | rfl | rfl | rfl
  · refine OGo.iloadN (pc' := 1) C X0 d7_0 rfl rfl ?_
    by_cases h_lt : src < (0 : Int32)
    · refine OGo.ifNo (pc' := 4) C X0 d7_1 rfl (tlt h_lt).2.1 ?_
      refine OGo.iloadN (pc' := 5) C X0 d7_4 rfl rfl ?_
      refine OGo.ifYes (pc' := 12) C X0 d7_5 (flt (by decide : ¬ (0 : Int32) < (0 : Int32))).2.2.2 (by decide) (by decide) ?_
      refine OGo.iconst (pc' := 13) (z := (0 : Int32)) C X0 d7_12 rfl (by decide) ?_
      refine OGo.lconst (pc' := 14) (z := (0 : Int64)) C X0 d7_13 rfl (by decide) ?_
      refine OGo.lconst (pc' := 15) (z := (0 : Int64)) C X0 d7_14 rfl (by decide) ?_
      refine OGo.lload (pc' := 17) C X0 d7_15 rfl rfl ?_
      refine OGo.callS (pc' := 20) (cells' := 0) (slots' := 0) (argsL := [(.int (0 : Int32)), (.long (0 : Int64)), (.long (0 : Int64)), (.long o0)]) (St := []) C X0 (wd39 hw) (wd40 hw) (by decide) (wd41 hw) (wd3 hw) (ct8 hw X0.2.1 (0 : Int32) (0 : Int64) (0 : Int64) o0) (lenOf pd0 rfl) rfl d7_17 rfl rfl (by decide) (Nat.le_of_ble_eq_true rfl) rfl rfl (by decide) (by decide) (fun v2 T2 h2 Q2 X2 z2 => ?_)
      obtain ⟨hv2, hh2⟩ := Q2
      subst hv2; rw [hh2] at X2
      show OGo p e below _ T2 (mkF m 20 #[.val (.int src), .val (.int (0 : Int32)), .val (.long s0), .second, .val (.long o0), .second, .val (.long x0), .second, .val (.long x1), .second, .val (.long x2), .second, .val (.long y0), .second, .val (.long y1), .second, .val (.long y2), .second, .unset, .unset, .unset, .unset, .unset, .unset] [(.long (own_item (0 : Int32) (0 : Int64) (0 : Int64) o0))])
      refine OGo.iloadN (pc' := 21) C X2 d7_20 rfl rfl ?_
      refine OGo.iconst (pc' := 22) (z := (1 : Int32)) C X2 d7_21 rfl (by decide) ?_
      refine OGo.icmpYes (pc' := 29) C X2 d7_22 (flt (by decide : ¬ (1 : Int32) < (0 : Int32))).2.2.2 (by decide) (by decide) ?_
      refine OGo.iconst (pc' := 30) (z := (0 : Int32)) C X2 d7_29 rfl (by decide) ?_
      refine OGo.lconst (pc' := 31) (z := (0 : Int64)) C X2 d7_30 rfl (by decide) ?_
      refine OGo.lconst (pc' := 32) (z := (0 : Int64)) C X2 d7_31 rfl (by decide) ?_
      refine OGo.lload (pc' := 34) C X2 d7_32 rfl rfl ?_
      refine OGo.callS (pc' := 37) (cells' := 0) (slots' := 0) (argsL := [(.int (0 : Int32)), (.long (0 : Int64)), (.long (0 : Int64)), (.long o0)]) (St := [(.long (own_item (0 : Int32) (0 : Int64) (0 : Int64) o0))]) C X2 (wd39 hw) (wd40 hw) (by decide) (wd41 hw) (wd3 hw) (ct8 hw X2.2.1 (0 : Int32) (0 : Int64) (0 : Int64) o0) (lenOf pd0 rfl) rfl d7_34 rfl rfl (by decide) (Nat.le_of_ble_eq_true rfl) rfl rfl (by decide) (by decide) (fun v3 T3 h3 Q3 X3 z3 => ?_)
      obtain ⟨hv3, hh3⟩ := Q3
      subst hv3; rw [hh3] at X3
      show OGo p e below _ T3 (mkF m 37 #[.val (.int src), .val (.int (0 : Int32)), .val (.long s0), .second, .val (.long o0), .second, .val (.long x0), .second, .val (.long x1), .second, .val (.long x2), .second, .val (.long y0), .second, .val (.long y1), .second, .val (.long y2), .second, .unset, .unset, .unset, .unset, .unset, .unset] [(.long (own_item (0 : Int32) (0 : Int64) (0 : Int64) o0)), (.long (own_item (0 : Int32) (0 : Int64) (0 : Int64) o0))])
      refine OGo.ladd (pc' := 38) (z := ((own_item (0 : Int32) (0 : Int64) (0 : Int64) o0) + (own_item (0 : Int32) (0 : Int64) (0 : Int64) o0))) C X3 d7_37 rfl rfl ?_
      refine OGo.iloadN (pc' := 39) C X3 d7_38 rfl rfl ?_
      refine OGo.iconst (pc' := 40) (z := (2 : Int32)) C X3 d7_39 rfl (by decide) ?_
      refine OGo.icmpYes (pc' := 47) C X3 d7_40 (flt (by decide : ¬ (2 : Int32) < (0 : Int32))).2.2.2 (by decide) (by decide) ?_
      refine OGo.iconst (pc' := 48) (z := (0 : Int32)) C X3 d7_47 rfl (by decide) ?_
      refine OGo.lconst (pc' := 49) (z := (0 : Int64)) C X3 d7_48 rfl (by decide) ?_
      refine OGo.lconst (pc' := 50) (z := (0 : Int64)) C X3 d7_49 rfl (by decide) ?_
      refine OGo.lload (pc' := 52) C X3 d7_50 rfl rfl ?_
      refine OGo.callS (pc' := 55) (cells' := 0) (slots' := 0) (argsL := [(.int (0 : Int32)), (.long (0 : Int64)), (.long (0 : Int64)), (.long o0)]) (St := [(.long ((own_item (0 : Int32) (0 : Int64) (0 : Int64) o0) + (own_item (0 : Int32) (0 : Int64) (0 : Int64) o0)))]) C X3 (wd39 hw) (wd40 hw) (by decide) (wd41 hw) (wd3 hw) (ct8 hw X3.2.1 (0 : Int32) (0 : Int64) (0 : Int64) o0) (lenOf pd0 rfl) rfl d7_52 rfl rfl (by decide) (Nat.le_of_ble_eq_true rfl) rfl rfl (by decide) (by decide) (fun v4 T4 h4 Q4 X4 z4 => ?_)
      obtain ⟨hv4, hh4⟩ := Q4
      subst hv4; rw [hh4] at X4
      show OGo p e below _ T4 (mkF m 55 #[.val (.int src), .val (.int (0 : Int32)), .val (.long s0), .second, .val (.long o0), .second, .val (.long x0), .second, .val (.long x1), .second, .val (.long x2), .second, .val (.long y0), .second, .val (.long y1), .second, .val (.long y2), .second, .unset, .unset, .unset, .unset, .unset, .unset] [(.long (own_item (0 : Int32) (0 : Int64) (0 : Int64) o0)), (.long ((own_item (0 : Int32) (0 : Int64) (0 : Int64) o0) + (own_item (0 : Int32) (0 : Int64) (0 : Int64) o0)))])
      refine OGo.ladd (pc' := 56) (z := (((own_item (0 : Int32) (0 : Int64) (0 : Int64) o0) + (own_item (0 : Int32) (0 : Int64) (0 : Int64) o0)) + (own_item (0 : Int32) (0 : Int64) (0 : Int64) o0))) C X4 d7_55 rfl rfl ?_
      exact OGo.retL C X4 d7_56 hret hlk (⟨by simp +decide [own_exp, own_bit, h_lt], rfl⟩) (by decide) (by decide)
    · refine OGo.ifYes (pc' := 57) C X0 d7_1 (flt h_lt).2.1 (by decide) (by decide) ?_
      refine OGo.iloadN (pc' := 58) C X0 d7_57 rfl rfl ?_
      by_cases h_eq : src = (0 : Int32)
      · refine OGo.ifNo (pc' := 61) C X0 d7_58 rfl (teq h_eq).2 ?_
        refine OGo.lload (pc' := 63) C X0 d7_61 rfl rfl ?_
        refine OGo.goto (pc' := 68) C X0 d7_63 (by decide) (by decide) ?_
        refine OGo.lstore (pc' := 70) C X0 d7_68 rfl (l' := #[.val (.int src), .val (.int (0 : Int32)), .val (.long s0), .second, .val (.long o0), .second, .val (.long x0), .second, .val (.long x1), .second, .val (.long x2), .second, .val (.long y0), .second, .val (.long y1), .second, .val (.long y2), .second, .val (.long x0), .second, .unset, .unset, .unset, .unset]) rfl ?_
        refine OGo.iloadN (pc' := 71) C X0 d7_70 rfl rfl ?_
        refine OGo.ifNo (pc' := 74) C X0 d7_71 rfl (teq h_eq).2 ?_
        refine OGo.lload (pc' := 76) C X0 d7_74 rfl rfl ?_
        refine OGo.goto (pc' := 81) C X0 d7_76 (by decide) (by decide) ?_
        refine OGo.lstore (pc' := 83) C X0 d7_81 rfl (l' := #[.val (.int src), .val (.int (0 : Int32)), .val (.long s0), .second, .val (.long o0), .second, .val (.long x0), .second, .val (.long x1), .second, .val (.long x2), .second, .val (.long y0), .second, .val (.long y1), .second, .val (.long y2), .second, .val (.long x0), .second, .val (.long x1), .second, .unset, .unset]) rfl ?_
        refine OGo.iloadN (pc' := 84) C X0 d7_83 rfl rfl ?_
        refine OGo.ifNo (pc' := 87) C X0 d7_84 rfl (teq h_eq).2 ?_
        refine OGo.lload (pc' := 89) C X0 d7_87 rfl rfl ?_
        refine OGo.goto (pc' := 94) C X0 d7_89 (by decide) (by decide) ?_
        refine OGo.lstore (pc' := 96) C X0 d7_94 rfl (l' := #[.val (.int src), .val (.int (0 : Int32)), .val (.long s0), .second, .val (.long o0), .second, .val (.long x0), .second, .val (.long x1), .second, .val (.long x2), .second, .val (.long y0), .second, .val (.long y1), .second, .val (.long y2), .second, .val (.long x0), .second, .val (.long x1), .second, .val (.long x2), .second]) rfl ?_
        refine OGo.iloadN (pc' := 97) C X0 d7_96 rfl rfl ?_
        refine OGo.ifYes (pc' := 104) C X0 d7_97 (flt (by decide : ¬ (0 : Int32) < (0 : Int32))).2.2.2 (by decide) (by decide) ?_
        refine OGo.iconst (pc' := 105) (z := (0 : Int32)) C X0 d7_104 rfl (by decide) ?_
        refine OGo.lloadN (pc' := 106) C X0 d7_105 rfl rfl ?_
        refine OGo.lload (pc' := 108) C X0 d7_106 rfl rfl ?_
        refine OGo.lload (pc' := 110) C X0 d7_108 rfl rfl ?_
        refine OGo.callS (pc' := 113) (cells' := 0) (slots' := 0) (argsL := [(.int (0 : Int32)), (.long s0), (.long x0), (.long o0)]) (St := []) C X0 (wd39 hw) (wd40 hw) (by decide) (wd41 hw) (wd3 hw) (ct8 hw X0.2.1 (0 : Int32) s0 x0 o0) (lenOf pd0 rfl) rfl d7_110 rfl rfl (by decide) (Nat.le_of_ble_eq_true rfl) rfl rfl (by decide) (by decide) (fun v6 T6 h6 Q6 X6 z6 => ?_)
        obtain ⟨hv6, hh6⟩ := Q6
        subst hv6; rw [hh6] at X6
        show OGo p e below _ T6 (mkF m 113 #[.val (.int src), .val (.int (0 : Int32)), .val (.long s0), .second, .val (.long o0), .second, .val (.long x0), .second, .val (.long x1), .second, .val (.long x2), .second, .val (.long y0), .second, .val (.long y1), .second, .val (.long y2), .second, .val (.long x0), .second, .val (.long x1), .second, .val (.long x2), .second] [(.long (own_item (0 : Int32) s0 x0 o0))])
        refine OGo.iloadN (pc' := 114) C X6 d7_113 rfl rfl ?_
        refine OGo.iconst (pc' := 115) (z := (1 : Int32)) C X6 d7_114 rfl (by decide) ?_
        refine OGo.icmpYes (pc' := 122) C X6 d7_115 (flt (by decide : ¬ (1 : Int32) < (0 : Int32))).2.2.2 (by decide) (by decide) ?_
        refine OGo.iconst (pc' := 123) (z := (0 : Int32)) C X6 d7_122 rfl (by decide) ?_
        refine OGo.lloadN (pc' := 124) C X6 d7_123 rfl rfl ?_
        refine OGo.lload (pc' := 126) C X6 d7_124 rfl rfl ?_
        refine OGo.lload (pc' := 128) C X6 d7_126 rfl rfl ?_
        refine OGo.callS (pc' := 131) (cells' := 0) (slots' := 0) (argsL := [(.int (0 : Int32)), (.long s0), (.long x1), (.long o0)]) (St := [(.long (own_item (0 : Int32) s0 x0 o0))]) C X6 (wd39 hw) (wd40 hw) (by decide) (wd41 hw) (wd3 hw) (ct8 hw X6.2.1 (0 : Int32) s0 x1 o0) (lenOf pd0 rfl) rfl d7_128 rfl rfl (by decide) (Nat.le_of_ble_eq_true rfl) rfl rfl (by decide) (by decide) (fun v7 T7 h7 Q7 X7 z7 => ?_)
        obtain ⟨hv7, hh7⟩ := Q7
        subst hv7; rw [hh7] at X7
        show OGo p e below _ T7 (mkF m 131 #[.val (.int src), .val (.int (0 : Int32)), .val (.long s0), .second, .val (.long o0), .second, .val (.long x0), .second, .val (.long x1), .second, .val (.long x2), .second, .val (.long y0), .second, .val (.long y1), .second, .val (.long y2), .second, .val (.long x0), .second, .val (.long x1), .second, .val (.long x2), .second] [(.long (own_item (0 : Int32) s0 x1 o0)), (.long (own_item (0 : Int32) s0 x0 o0))])
        refine OGo.ladd (pc' := 132) (z := ((own_item (0 : Int32) s0 x0 o0) + (own_item (0 : Int32) s0 x1 o0))) C X7 d7_131 rfl rfl ?_
        refine OGo.iloadN (pc' := 133) C X7 d7_132 rfl rfl ?_
        refine OGo.iconst (pc' := 134) (z := (2 : Int32)) C X7 d7_133 rfl (by decide) ?_
        refine OGo.icmpYes (pc' := 141) C X7 d7_134 (flt (by decide : ¬ (2 : Int32) < (0 : Int32))).2.2.2 (by decide) (by decide) ?_
        refine OGo.iconst (pc' := 142) (z := (0 : Int32)) C X7 d7_141 rfl (by decide) ?_
        refine OGo.lloadN (pc' := 143) C X7 d7_142 rfl rfl ?_
        refine OGo.lload (pc' := 145) C X7 d7_143 rfl rfl ?_
        refine OGo.lload (pc' := 147) C X7 d7_145 rfl rfl ?_
        refine OGo.callS (pc' := 150) (cells' := 0) (slots' := 0) (argsL := [(.int (0 : Int32)), (.long s0), (.long x2), (.long o0)]) (St := [(.long ((own_item (0 : Int32) s0 x0 o0) + (own_item (0 : Int32) s0 x1 o0)))]) C X7 (wd39 hw) (wd40 hw) (by decide) (wd41 hw) (wd3 hw) (ct8 hw X7.2.1 (0 : Int32) s0 x2 o0) (lenOf pd0 rfl) rfl d7_147 rfl rfl (by decide) (Nat.le_of_ble_eq_true rfl) rfl rfl (by decide) (by decide) (fun v8 T8 h8 Q8 X8 z8 => ?_)
        obtain ⟨hv8, hh8⟩ := Q8
        subst hv8; rw [hh8] at X8
        show OGo p e below _ T8 (mkF m 150 #[.val (.int src), .val (.int (0 : Int32)), .val (.long s0), .second, .val (.long o0), .second, .val (.long x0), .second, .val (.long x1), .second, .val (.long x2), .second, .val (.long y0), .second, .val (.long y1), .second, .val (.long y2), .second, .val (.long x0), .second, .val (.long x1), .second, .val (.long x2), .second] [(.long (own_item (0 : Int32) s0 x2 o0)), (.long ((own_item (0 : Int32) s0 x0 o0) + (own_item (0 : Int32) s0 x1 o0)))])
        refine OGo.ladd (pc' := 151) (z := (((own_item (0 : Int32) s0 x0 o0) + (own_item (0 : Int32) s0 x1 o0)) + (own_item (0 : Int32) s0 x2 o0))) C X8 d7_150 rfl rfl ?_
        exact OGo.retL C X8 d7_151 hret hlk (⟨by simp +decide [own_exp, own_bit, h_lt, h_eq], rfl⟩) (by decide) (by decide)
      · refine OGo.ifYes (pc' := 66) C X0 d7_58 (feq h_eq).2 (by decide) (by decide) ?_
        refine OGo.lload (pc' := 68) C X0 d7_66 rfl rfl ?_
        refine OGo.lstore (pc' := 70) C X0 d7_68 rfl (l' := #[.val (.int src), .val (.int (0 : Int32)), .val (.long s0), .second, .val (.long o0), .second, .val (.long x0), .second, .val (.long x1), .second, .val (.long x2), .second, .val (.long y0), .second, .val (.long y1), .second, .val (.long y2), .second, .val (.long y0), .second, .unset, .unset, .unset, .unset]) rfl ?_
        refine OGo.iloadN (pc' := 71) C X0 d7_70 rfl rfl ?_
        refine OGo.ifYes (pc' := 79) C X0 d7_71 (feq h_eq).2 (by decide) (by decide) ?_
        refine OGo.lload (pc' := 81) C X0 d7_79 rfl rfl ?_
        refine OGo.lstore (pc' := 83) C X0 d7_81 rfl (l' := #[.val (.int src), .val (.int (0 : Int32)), .val (.long s0), .second, .val (.long o0), .second, .val (.long x0), .second, .val (.long x1), .second, .val (.long x2), .second, .val (.long y0), .second, .val (.long y1), .second, .val (.long y2), .second, .val (.long y0), .second, .val (.long y1), .second, .unset, .unset]) rfl ?_
        refine OGo.iloadN (pc' := 84) C X0 d7_83 rfl rfl ?_
        refine OGo.ifYes (pc' := 92) C X0 d7_84 (feq h_eq).2 (by decide) (by decide) ?_
        refine OGo.lload (pc' := 94) C X0 d7_92 rfl rfl ?_
        refine OGo.lstore (pc' := 96) C X0 d7_94 rfl (l' := #[.val (.int src), .val (.int (0 : Int32)), .val (.long s0), .second, .val (.long o0), .second, .val (.long x0), .second, .val (.long x1), .second, .val (.long x2), .second, .val (.long y0), .second, .val (.long y1), .second, .val (.long y2), .second, .val (.long y0), .second, .val (.long y1), .second, .val (.long y2), .second]) rfl ?_
        refine OGo.iloadN (pc' := 97) C X0 d7_96 rfl rfl ?_
        refine OGo.ifYes (pc' := 104) C X0 d7_97 (flt (by decide : ¬ (0 : Int32) < (0 : Int32))).2.2.2 (by decide) (by decide) ?_
        refine OGo.iconst (pc' := 105) (z := (0 : Int32)) C X0 d7_104 rfl (by decide) ?_
        refine OGo.lloadN (pc' := 106) C X0 d7_105 rfl rfl ?_
        refine OGo.lload (pc' := 108) C X0 d7_106 rfl rfl ?_
        refine OGo.lload (pc' := 110) C X0 d7_108 rfl rfl ?_
        refine OGo.callS (pc' := 113) (cells' := 0) (slots' := 0) (argsL := [(.int (0 : Int32)), (.long s0), (.long y0), (.long o0)]) (St := []) C X0 (wd39 hw) (wd40 hw) (by decide) (wd41 hw) (wd3 hw) (ct8 hw X0.2.1 (0 : Int32) s0 y0 o0) (lenOf pd0 rfl) rfl d7_110 rfl rfl (by decide) (Nat.le_of_ble_eq_true rfl) rfl rfl (by decide) (by decide) (fun v9 T9 h9 Q9 X9 z9 => ?_)
        obtain ⟨hv9, hh9⟩ := Q9
        subst hv9; rw [hh9] at X9
        show OGo p e below _ T9 (mkF m 113 #[.val (.int src), .val (.int (0 : Int32)), .val (.long s0), .second, .val (.long o0), .second, .val (.long x0), .second, .val (.long x1), .second, .val (.long x2), .second, .val (.long y0), .second, .val (.long y1), .second, .val (.long y2), .second, .val (.long y0), .second, .val (.long y1), .second, .val (.long y2), .second] [(.long (own_item (0 : Int32) s0 y0 o0))])
        refine OGo.iloadN (pc' := 114) C X9 d7_113 rfl rfl ?_
        refine OGo.iconst (pc' := 115) (z := (1 : Int32)) C X9 d7_114 rfl (by decide) ?_
        refine OGo.icmpYes (pc' := 122) C X9 d7_115 (flt (by decide : ¬ (1 : Int32) < (0 : Int32))).2.2.2 (by decide) (by decide) ?_
        refine OGo.iconst (pc' := 123) (z := (0 : Int32)) C X9 d7_122 rfl (by decide) ?_
        refine OGo.lloadN (pc' := 124) C X9 d7_123 rfl rfl ?_
        refine OGo.lload (pc' := 126) C X9 d7_124 rfl rfl ?_
        refine OGo.lload (pc' := 128) C X9 d7_126 rfl rfl ?_
        refine OGo.callS (pc' := 131) (cells' := 0) (slots' := 0) (argsL := [(.int (0 : Int32)), (.long s0), (.long y1), (.long o0)]) (St := [(.long (own_item (0 : Int32) s0 y0 o0))]) C X9 (wd39 hw) (wd40 hw) (by decide) (wd41 hw) (wd3 hw) (ct8 hw X9.2.1 (0 : Int32) s0 y1 o0) (lenOf pd0 rfl) rfl d7_128 rfl rfl (by decide) (Nat.le_of_ble_eq_true rfl) rfl rfl (by decide) (by decide) (fun v10 T10 h10 Q10 X10 z10 => ?_)
        obtain ⟨hv10, hh10⟩ := Q10
        subst hv10; rw [hh10] at X10
        show OGo p e below _ T10 (mkF m 131 #[.val (.int src), .val (.int (0 : Int32)), .val (.long s0), .second, .val (.long o0), .second, .val (.long x0), .second, .val (.long x1), .second, .val (.long x2), .second, .val (.long y0), .second, .val (.long y1), .second, .val (.long y2), .second, .val (.long y0), .second, .val (.long y1), .second, .val (.long y2), .second] [(.long (own_item (0 : Int32) s0 y1 o0)), (.long (own_item (0 : Int32) s0 y0 o0))])
        refine OGo.ladd (pc' := 132) (z := ((own_item (0 : Int32) s0 y0 o0) + (own_item (0 : Int32) s0 y1 o0))) C X10 d7_131 rfl rfl ?_
        refine OGo.iloadN (pc' := 133) C X10 d7_132 rfl rfl ?_
        refine OGo.iconst (pc' := 134) (z := (2 : Int32)) C X10 d7_133 rfl (by decide) ?_
        refine OGo.icmpYes (pc' := 141) C X10 d7_134 (flt (by decide : ¬ (2 : Int32) < (0 : Int32))).2.2.2 (by decide) (by decide) ?_
        refine OGo.iconst (pc' := 142) (z := (0 : Int32)) C X10 d7_141 rfl (by decide) ?_
        refine OGo.lloadN (pc' := 143) C X10 d7_142 rfl rfl ?_
        refine OGo.lload (pc' := 145) C X10 d7_143 rfl rfl ?_
        refine OGo.lload (pc' := 147) C X10 d7_145 rfl rfl ?_
        refine OGo.callS (pc' := 150) (cells' := 0) (slots' := 0) (argsL := [(.int (0 : Int32)), (.long s0), (.long y2), (.long o0)]) (St := [(.long ((own_item (0 : Int32) s0 y0 o0) + (own_item (0 : Int32) s0 y1 o0)))]) C X10 (wd39 hw) (wd40 hw) (by decide) (wd41 hw) (wd3 hw) (ct8 hw X10.2.1 (0 : Int32) s0 y2 o0) (lenOf pd0 rfl) rfl d7_147 rfl rfl (by decide) (Nat.le_of_ble_eq_true rfl) rfl rfl (by decide) (by decide) (fun v11 T11 h11 Q11 X11 z11 => ?_)
        obtain ⟨hv11, hh11⟩ := Q11
        subst hv11; rw [hh11] at X11
        show OGo p e below _ T11 (mkF m 150 #[.val (.int src), .val (.int (0 : Int32)), .val (.long s0), .second, .val (.long o0), .second, .val (.long x0), .second, .val (.long x1), .second, .val (.long x2), .second, .val (.long y0), .second, .val (.long y1), .second, .val (.long y2), .second, .val (.long y0), .second, .val (.long y1), .second, .val (.long y2), .second] [(.long (own_item (0 : Int32) s0 y2 o0)), (.long ((own_item (0 : Int32) s0 y0 o0) + (own_item (0 : Int32) s0 y1 o0)))])
        refine OGo.ladd (pc' := 151) (z := (((own_item (0 : Int32) s0 y0 o0) + (own_item (0 : Int32) s0 y1 o0)) + (own_item (0 : Int32) s0 y2 o0))) C X11 d7_150 rfl rfl ?_
        exact OGo.retL C X11 d7_151 hret hlk (⟨by simp +decide [own_exp, own_bit, h_lt, h_eq], rfl⟩) (by decide) (by decide)
  · refine OGo.iloadN (pc' := 1) C X0 d7_0 rfl rfl ?_
    by_cases h_lt : src < (0 : Int32)
    · refine OGo.ifNo (pc' := 4) C X0 d7_1 rfl (tlt h_lt).2.1 ?_
      refine OGo.iloadN (pc' := 5) C X0 d7_4 rfl rfl ?_
      refine OGo.ifNo (pc' := 8) C X0 d7_5 rfl (tlt (by decide : (0 : Int32) < (1 : Int32))).2.2.2 ?_
      refine OGo.iconst (pc' := 9) (z := (1 : Int32)) C X0 d7_8 rfl (by decide) ?_
      refine OGo.goto (pc' := 13) C X0 d7_9 (by decide) (by decide) ?_
      refine OGo.lconst (pc' := 14) (z := (0 : Int64)) C X0 d7_13 rfl (by decide) ?_
      refine OGo.lconst (pc' := 15) (z := (0 : Int64)) C X0 d7_14 rfl (by decide) ?_
      refine OGo.lload (pc' := 17) C X0 d7_15 rfl rfl ?_
      refine OGo.callS (pc' := 20) (cells' := 0) (slots' := 0) (argsL := [(.int (1 : Int32)), (.long (0 : Int64)), (.long (0 : Int64)), (.long o0)]) (St := []) C X0 (wd39 hw) (wd40 hw) (by decide) (wd41 hw) (wd3 hw) (ct8 hw X0.2.1 (1 : Int32) (0 : Int64) (0 : Int64) o0) (lenOf pd0 rfl) rfl d7_17 rfl rfl (by decide) (Nat.le_of_ble_eq_true rfl) rfl rfl (by decide) (by decide) (fun v13 T13 h13 Q13 X13 z13 => ?_)
      obtain ⟨hv13, hh13⟩ := Q13
      subst hv13; rw [hh13] at X13
      show OGo p e below _ T13 (mkF m 20 #[.val (.int src), .val (.int (1 : Int32)), .val (.long s0), .second, .val (.long o0), .second, .val (.long x0), .second, .val (.long x1), .second, .val (.long x2), .second, .val (.long y0), .second, .val (.long y1), .second, .val (.long y2), .second, .unset, .unset, .unset, .unset, .unset, .unset] [(.long (own_item (1 : Int32) (0 : Int64) (0 : Int64) o0))])
      refine OGo.iloadN (pc' := 21) C X13 d7_20 rfl rfl ?_
      refine OGo.iconst (pc' := 22) (z := (1 : Int32)) C X13 d7_21 rfl (by decide) ?_
      refine OGo.icmpYes (pc' := 29) C X13 d7_22 (flt (by decide : ¬ (1 : Int32) < (1 : Int32))).2.2.2 (by decide) (by decide) ?_
      refine OGo.iconst (pc' := 30) (z := (0 : Int32)) C X13 d7_29 rfl (by decide) ?_
      refine OGo.lconst (pc' := 31) (z := (0 : Int64)) C X13 d7_30 rfl (by decide) ?_
      refine OGo.lconst (pc' := 32) (z := (0 : Int64)) C X13 d7_31 rfl (by decide) ?_
      refine OGo.lload (pc' := 34) C X13 d7_32 rfl rfl ?_
      refine OGo.callS (pc' := 37) (cells' := 0) (slots' := 0) (argsL := [(.int (0 : Int32)), (.long (0 : Int64)), (.long (0 : Int64)), (.long o0)]) (St := [(.long (own_item (1 : Int32) (0 : Int64) (0 : Int64) o0))]) C X13 (wd39 hw) (wd40 hw) (by decide) (wd41 hw) (wd3 hw) (ct8 hw X13.2.1 (0 : Int32) (0 : Int64) (0 : Int64) o0) (lenOf pd0 rfl) rfl d7_34 rfl rfl (by decide) (Nat.le_of_ble_eq_true rfl) rfl rfl (by decide) (by decide) (fun v14 T14 h14 Q14 X14 z14 => ?_)
      obtain ⟨hv14, hh14⟩ := Q14
      subst hv14; rw [hh14] at X14
      show OGo p e below _ T14 (mkF m 37 #[.val (.int src), .val (.int (1 : Int32)), .val (.long s0), .second, .val (.long o0), .second, .val (.long x0), .second, .val (.long x1), .second, .val (.long x2), .second, .val (.long y0), .second, .val (.long y1), .second, .val (.long y2), .second, .unset, .unset, .unset, .unset, .unset, .unset] [(.long (own_item (0 : Int32) (0 : Int64) (0 : Int64) o0)), (.long (own_item (1 : Int32) (0 : Int64) (0 : Int64) o0))])
      refine OGo.ladd (pc' := 38) (z := ((own_item (1 : Int32) (0 : Int64) (0 : Int64) o0) + (own_item (0 : Int32) (0 : Int64) (0 : Int64) o0))) C X14 d7_37 rfl rfl ?_
      refine OGo.iloadN (pc' := 39) C X14 d7_38 rfl rfl ?_
      refine OGo.iconst (pc' := 40) (z := (2 : Int32)) C X14 d7_39 rfl (by decide) ?_
      refine OGo.icmpYes (pc' := 47) C X14 d7_40 (flt (by decide : ¬ (2 : Int32) < (1 : Int32))).2.2.2 (by decide) (by decide) ?_
      refine OGo.iconst (pc' := 48) (z := (0 : Int32)) C X14 d7_47 rfl (by decide) ?_
      refine OGo.lconst (pc' := 49) (z := (0 : Int64)) C X14 d7_48 rfl (by decide) ?_
      refine OGo.lconst (pc' := 50) (z := (0 : Int64)) C X14 d7_49 rfl (by decide) ?_
      refine OGo.lload (pc' := 52) C X14 d7_50 rfl rfl ?_
      refine OGo.callS (pc' := 55) (cells' := 0) (slots' := 0) (argsL := [(.int (0 : Int32)), (.long (0 : Int64)), (.long (0 : Int64)), (.long o0)]) (St := [(.long ((own_item (1 : Int32) (0 : Int64) (0 : Int64) o0) + (own_item (0 : Int32) (0 : Int64) (0 : Int64) o0)))]) C X14 (wd39 hw) (wd40 hw) (by decide) (wd41 hw) (wd3 hw) (ct8 hw X14.2.1 (0 : Int32) (0 : Int64) (0 : Int64) o0) (lenOf pd0 rfl) rfl d7_52 rfl rfl (by decide) (Nat.le_of_ble_eq_true rfl) rfl rfl (by decide) (by decide) (fun v15 T15 h15 Q15 X15 z15 => ?_)
      obtain ⟨hv15, hh15⟩ := Q15
      subst hv15; rw [hh15] at X15
      show OGo p e below _ T15 (mkF m 55 #[.val (.int src), .val (.int (1 : Int32)), .val (.long s0), .second, .val (.long o0), .second, .val (.long x0), .second, .val (.long x1), .second, .val (.long x2), .second, .val (.long y0), .second, .val (.long y1), .second, .val (.long y2), .second, .unset, .unset, .unset, .unset, .unset, .unset] [(.long (own_item (0 : Int32) (0 : Int64) (0 : Int64) o0)), (.long ((own_item (1 : Int32) (0 : Int64) (0 : Int64) o0) + (own_item (0 : Int32) (0 : Int64) (0 : Int64) o0)))])
      refine OGo.ladd (pc' := 56) (z := (((own_item (1 : Int32) (0 : Int64) (0 : Int64) o0) + (own_item (0 : Int32) (0 : Int64) (0 : Int64) o0)) + (own_item (0 : Int32) (0 : Int64) (0 : Int64) o0))) C X15 d7_55 rfl rfl ?_
      exact OGo.retL C X15 d7_56 hret hlk (⟨by simp +decide [own_exp, own_bit, h_lt], rfl⟩) (by decide) (by decide)
    · refine OGo.ifYes (pc' := 57) C X0 d7_1 (flt h_lt).2.1 (by decide) (by decide) ?_
      refine OGo.iloadN (pc' := 58) C X0 d7_57 rfl rfl ?_
      by_cases h_eq : src = (0 : Int32)
      · refine OGo.ifNo (pc' := 61) C X0 d7_58 rfl (teq h_eq).2 ?_
        refine OGo.lload (pc' := 63) C X0 d7_61 rfl rfl ?_
        refine OGo.goto (pc' := 68) C X0 d7_63 (by decide) (by decide) ?_
        refine OGo.lstore (pc' := 70) C X0 d7_68 rfl (l' := #[.val (.int src), .val (.int (1 : Int32)), .val (.long s0), .second, .val (.long o0), .second, .val (.long x0), .second, .val (.long x1), .second, .val (.long x2), .second, .val (.long y0), .second, .val (.long y1), .second, .val (.long y2), .second, .val (.long x0), .second, .unset, .unset, .unset, .unset]) rfl ?_
        refine OGo.iloadN (pc' := 71) C X0 d7_70 rfl rfl ?_
        refine OGo.ifNo (pc' := 74) C X0 d7_71 rfl (teq h_eq).2 ?_
        refine OGo.lload (pc' := 76) C X0 d7_74 rfl rfl ?_
        refine OGo.goto (pc' := 81) C X0 d7_76 (by decide) (by decide) ?_
        refine OGo.lstore (pc' := 83) C X0 d7_81 rfl (l' := #[.val (.int src), .val (.int (1 : Int32)), .val (.long s0), .second, .val (.long o0), .second, .val (.long x0), .second, .val (.long x1), .second, .val (.long x2), .second, .val (.long y0), .second, .val (.long y1), .second, .val (.long y2), .second, .val (.long x0), .second, .val (.long x1), .second, .unset, .unset]) rfl ?_
        refine OGo.iloadN (pc' := 84) C X0 d7_83 rfl rfl ?_
        refine OGo.ifNo (pc' := 87) C X0 d7_84 rfl (teq h_eq).2 ?_
        refine OGo.lload (pc' := 89) C X0 d7_87 rfl rfl ?_
        refine OGo.goto (pc' := 94) C X0 d7_89 (by decide) (by decide) ?_
        refine OGo.lstore (pc' := 96) C X0 d7_94 rfl (l' := #[.val (.int src), .val (.int (1 : Int32)), .val (.long s0), .second, .val (.long o0), .second, .val (.long x0), .second, .val (.long x1), .second, .val (.long x2), .second, .val (.long y0), .second, .val (.long y1), .second, .val (.long y2), .second, .val (.long x0), .second, .val (.long x1), .second, .val (.long x2), .second]) rfl ?_
        refine OGo.iloadN (pc' := 97) C X0 d7_96 rfl rfl ?_
        refine OGo.ifNo (pc' := 100) C X0 d7_97 rfl (tlt (by decide : (0 : Int32) < (1 : Int32))).2.2.2 ?_
        refine OGo.iconst (pc' := 101) (z := (1 : Int32)) C X0 d7_100 rfl (by decide) ?_
        refine OGo.goto (pc' := 105) C X0 d7_101 (by decide) (by decide) ?_
        refine OGo.lloadN (pc' := 106) C X0 d7_105 rfl rfl ?_
        refine OGo.lload (pc' := 108) C X0 d7_106 rfl rfl ?_
        refine OGo.lload (pc' := 110) C X0 d7_108 rfl rfl ?_
        refine OGo.callS (pc' := 113) (cells' := 0) (slots' := 0) (argsL := [(.int (1 : Int32)), (.long s0), (.long x0), (.long o0)]) (St := []) C X0 (wd39 hw) (wd40 hw) (by decide) (wd41 hw) (wd3 hw) (ct8 hw X0.2.1 (1 : Int32) s0 x0 o0) (lenOf pd0 rfl) rfl d7_110 rfl rfl (by decide) (Nat.le_of_ble_eq_true rfl) rfl rfl (by decide) (by decide) (fun v17 T17 h17 Q17 X17 z17 => ?_)
        obtain ⟨hv17, hh17⟩ := Q17
        subst hv17; rw [hh17] at X17
        show OGo p e below _ T17 (mkF m 113 #[.val (.int src), .val (.int (1 : Int32)), .val (.long s0), .second, .val (.long o0), .second, .val (.long x0), .second, .val (.long x1), .second, .val (.long x2), .second, .val (.long y0), .second, .val (.long y1), .second, .val (.long y2), .second, .val (.long x0), .second, .val (.long x1), .second, .val (.long x2), .second] [(.long (own_item (1 : Int32) s0 x0 o0))])
        refine OGo.iloadN (pc' := 114) C X17 d7_113 rfl rfl ?_
        refine OGo.iconst (pc' := 115) (z := (1 : Int32)) C X17 d7_114 rfl (by decide) ?_
        refine OGo.icmpYes (pc' := 122) C X17 d7_115 (flt (by decide : ¬ (1 : Int32) < (1 : Int32))).2.2.2 (by decide) (by decide) ?_
        refine OGo.iconst (pc' := 123) (z := (0 : Int32)) C X17 d7_122 rfl (by decide) ?_
        refine OGo.lloadN (pc' := 124) C X17 d7_123 rfl rfl ?_
        refine OGo.lload (pc' := 126) C X17 d7_124 rfl rfl ?_
        refine OGo.lload (pc' := 128) C X17 d7_126 rfl rfl ?_
        refine OGo.callS (pc' := 131) (cells' := 0) (slots' := 0) (argsL := [(.int (0 : Int32)), (.long s0), (.long x1), (.long o0)]) (St := [(.long (own_item (1 : Int32) s0 x0 o0))]) C X17 (wd39 hw) (wd40 hw) (by decide) (wd41 hw) (wd3 hw) (ct8 hw X17.2.1 (0 : Int32) s0 x1 o0) (lenOf pd0 rfl) rfl d7_128 rfl rfl (by decide) (Nat.le_of_ble_eq_true rfl) rfl rfl (by decide) (by decide) (fun v18 T18 h18 Q18 X18 z18 => ?_)
        obtain ⟨hv18, hh18⟩ := Q18
        subst hv18; rw [hh18] at X18
        show OGo p e below _ T18 (mkF m 131 #[.val (.int src), .val (.int (1 : Int32)), .val (.long s0), .second, .val (.long o0), .second, .val (.long x0), .second, .val (.long x1), .second, .val (.long x2), .second, .val (.long y0), .second, .val (.long y1), .second, .val (.long y2), .second, .val (.long x0), .second, .val (.long x1), .second, .val (.long x2), .second] [(.long (own_item (0 : Int32) s0 x1 o0)), (.long (own_item (1 : Int32) s0 x0 o0))])
        refine OGo.ladd (pc' := 132) (z := ((own_item (1 : Int32) s0 x0 o0) + (own_item (0 : Int32) s0 x1 o0))) C X18 d7_131 rfl rfl ?_
        refine OGo.iloadN (pc' := 133) C X18 d7_132 rfl rfl ?_
        refine OGo.iconst (pc' := 134) (z := (2 : Int32)) C X18 d7_133 rfl (by decide) ?_
        refine OGo.icmpYes (pc' := 141) C X18 d7_134 (flt (by decide : ¬ (2 : Int32) < (1 : Int32))).2.2.2 (by decide) (by decide) ?_
        refine OGo.iconst (pc' := 142) (z := (0 : Int32)) C X18 d7_141 rfl (by decide) ?_
        refine OGo.lloadN (pc' := 143) C X18 d7_142 rfl rfl ?_
        refine OGo.lload (pc' := 145) C X18 d7_143 rfl rfl ?_
        refine OGo.lload (pc' := 147) C X18 d7_145 rfl rfl ?_
        refine OGo.callS (pc' := 150) (cells' := 0) (slots' := 0) (argsL := [(.int (0 : Int32)), (.long s0), (.long x2), (.long o0)]) (St := [(.long ((own_item (1 : Int32) s0 x0 o0) + (own_item (0 : Int32) s0 x1 o0)))]) C X18 (wd39 hw) (wd40 hw) (by decide) (wd41 hw) (wd3 hw) (ct8 hw X18.2.1 (0 : Int32) s0 x2 o0) (lenOf pd0 rfl) rfl d7_147 rfl rfl (by decide) (Nat.le_of_ble_eq_true rfl) rfl rfl (by decide) (by decide) (fun v19 T19 h19 Q19 X19 z19 => ?_)
        obtain ⟨hv19, hh19⟩ := Q19
        subst hv19; rw [hh19] at X19
        show OGo p e below _ T19 (mkF m 150 #[.val (.int src), .val (.int (1 : Int32)), .val (.long s0), .second, .val (.long o0), .second, .val (.long x0), .second, .val (.long x1), .second, .val (.long x2), .second, .val (.long y0), .second, .val (.long y1), .second, .val (.long y2), .second, .val (.long x0), .second, .val (.long x1), .second, .val (.long x2), .second] [(.long (own_item (0 : Int32) s0 x2 o0)), (.long ((own_item (1 : Int32) s0 x0 o0) + (own_item (0 : Int32) s0 x1 o0)))])
        refine OGo.ladd (pc' := 151) (z := (((own_item (1 : Int32) s0 x0 o0) + (own_item (0 : Int32) s0 x1 o0)) + (own_item (0 : Int32) s0 x2 o0))) C X19 d7_150 rfl rfl ?_
        exact OGo.retL C X19 d7_151 hret hlk (⟨by simp +decide [own_exp, own_bit, h_lt, h_eq], rfl⟩) (by decide) (by decide)
      · refine OGo.ifYes (pc' := 66) C X0 d7_58 (feq h_eq).2 (by decide) (by decide) ?_
        refine OGo.lload (pc' := 68) C X0 d7_66 rfl rfl ?_
        refine OGo.lstore (pc' := 70) C X0 d7_68 rfl (l' := #[.val (.int src), .val (.int (1 : Int32)), .val (.long s0), .second, .val (.long o0), .second, .val (.long x0), .second, .val (.long x1), .second, .val (.long x2), .second, .val (.long y0), .second, .val (.long y1), .second, .val (.long y2), .second, .val (.long y0), .second, .unset, .unset, .unset, .unset]) rfl ?_
        refine OGo.iloadN (pc' := 71) C X0 d7_70 rfl rfl ?_
        refine OGo.ifYes (pc' := 79) C X0 d7_71 (feq h_eq).2 (by decide) (by decide) ?_
        refine OGo.lload (pc' := 81) C X0 d7_79 rfl rfl ?_
        refine OGo.lstore (pc' := 83) C X0 d7_81 rfl (l' := #[.val (.int src), .val (.int (1 : Int32)), .val (.long s0), .second, .val (.long o0), .second, .val (.long x0), .second, .val (.long x1), .second, .val (.long x2), .second, .val (.long y0), .second, .val (.long y1), .second, .val (.long y2), .second, .val (.long y0), .second, .val (.long y1), .second, .unset, .unset]) rfl ?_
        refine OGo.iloadN (pc' := 84) C X0 d7_83 rfl rfl ?_
        refine OGo.ifYes (pc' := 92) C X0 d7_84 (feq h_eq).2 (by decide) (by decide) ?_
        refine OGo.lload (pc' := 94) C X0 d7_92 rfl rfl ?_
        refine OGo.lstore (pc' := 96) C X0 d7_94 rfl (l' := #[.val (.int src), .val (.int (1 : Int32)), .val (.long s0), .second, .val (.long o0), .second, .val (.long x0), .second, .val (.long x1), .second, .val (.long x2), .second, .val (.long y0), .second, .val (.long y1), .second, .val (.long y2), .second, .val (.long y0), .second, .val (.long y1), .second, .val (.long y2), .second]) rfl ?_
        refine OGo.iloadN (pc' := 97) C X0 d7_96 rfl rfl ?_
        refine OGo.ifNo (pc' := 100) C X0 d7_97 rfl (tlt (by decide : (0 : Int32) < (1 : Int32))).2.2.2 ?_
        refine OGo.iconst (pc' := 101) (z := (1 : Int32)) C X0 d7_100 rfl (by decide) ?_
        refine OGo.goto (pc' := 105) C X0 d7_101 (by decide) (by decide) ?_
        refine OGo.lloadN (pc' := 106) C X0 d7_105 rfl rfl ?_
        refine OGo.lload (pc' := 108) C X0 d7_106 rfl rfl ?_
        refine OGo.lload (pc' := 110) C X0 d7_108 rfl rfl ?_
        refine OGo.callS (pc' := 113) (cells' := 0) (slots' := 0) (argsL := [(.int (1 : Int32)), (.long s0), (.long y0), (.long o0)]) (St := []) C X0 (wd39 hw) (wd40 hw) (by decide) (wd41 hw) (wd3 hw) (ct8 hw X0.2.1 (1 : Int32) s0 y0 o0) (lenOf pd0 rfl) rfl d7_110 rfl rfl (by decide) (Nat.le_of_ble_eq_true rfl) rfl rfl (by decide) (by decide) (fun v20 T20 h20 Q20 X20 z20 => ?_)
        obtain ⟨hv20, hh20⟩ := Q20
        subst hv20; rw [hh20] at X20
        show OGo p e below _ T20 (mkF m 113 #[.val (.int src), .val (.int (1 : Int32)), .val (.long s0), .second, .val (.long o0), .second, .val (.long x0), .second, .val (.long x1), .second, .val (.long x2), .second, .val (.long y0), .second, .val (.long y1), .second, .val (.long y2), .second, .val (.long y0), .second, .val (.long y1), .second, .val (.long y2), .second] [(.long (own_item (1 : Int32) s0 y0 o0))])
        refine OGo.iloadN (pc' := 114) C X20 d7_113 rfl rfl ?_
        refine OGo.iconst (pc' := 115) (z := (1 : Int32)) C X20 d7_114 rfl (by decide) ?_
        refine OGo.icmpYes (pc' := 122) C X20 d7_115 (flt (by decide : ¬ (1 : Int32) < (1 : Int32))).2.2.2 (by decide) (by decide) ?_
        refine OGo.iconst (pc' := 123) (z := (0 : Int32)) C X20 d7_122 rfl (by decide) ?_
        refine OGo.lloadN (pc' := 124) C X20 d7_123 rfl rfl ?_
        refine OGo.lload (pc' := 126) C X20 d7_124 rfl rfl ?_
        refine OGo.lload (pc' := 128) C X20 d7_126 rfl rfl ?_
        refine OGo.callS (pc' := 131) (cells' := 0) (slots' := 0) (argsL := [(.int (0 : Int32)), (.long s0), (.long y1), (.long o0)]) (St := [(.long (own_item (1 : Int32) s0 y0 o0))]) C X20 (wd39 hw) (wd40 hw) (by decide) (wd41 hw) (wd3 hw) (ct8 hw X20.2.1 (0 : Int32) s0 y1 o0) (lenOf pd0 rfl) rfl d7_128 rfl rfl (by decide) (Nat.le_of_ble_eq_true rfl) rfl rfl (by decide) (by decide) (fun v21 T21 h21 Q21 X21 z21 => ?_)
        obtain ⟨hv21, hh21⟩ := Q21
        subst hv21; rw [hh21] at X21
        show OGo p e below _ T21 (mkF m 131 #[.val (.int src), .val (.int (1 : Int32)), .val (.long s0), .second, .val (.long o0), .second, .val (.long x0), .second, .val (.long x1), .second, .val (.long x2), .second, .val (.long y0), .second, .val (.long y1), .second, .val (.long y2), .second, .val (.long y0), .second, .val (.long y1), .second, .val (.long y2), .second] [(.long (own_item (0 : Int32) s0 y1 o0)), (.long (own_item (1 : Int32) s0 y0 o0))])
        refine OGo.ladd (pc' := 132) (z := ((own_item (1 : Int32) s0 y0 o0) + (own_item (0 : Int32) s0 y1 o0))) C X21 d7_131 rfl rfl ?_
        refine OGo.iloadN (pc' := 133) C X21 d7_132 rfl rfl ?_
        refine OGo.iconst (pc' := 134) (z := (2 : Int32)) C X21 d7_133 rfl (by decide) ?_
        refine OGo.icmpYes (pc' := 141) C X21 d7_134 (flt (by decide : ¬ (2 : Int32) < (1 : Int32))).2.2.2 (by decide) (by decide) ?_
        refine OGo.iconst (pc' := 142) (z := (0 : Int32)) C X21 d7_141 rfl (by decide) ?_
        refine OGo.lloadN (pc' := 143) C X21 d7_142 rfl rfl ?_
        refine OGo.lload (pc' := 145) C X21 d7_143 rfl rfl ?_
        refine OGo.lload (pc' := 147) C X21 d7_145 rfl rfl ?_
        refine OGo.callS (pc' := 150) (cells' := 0) (slots' := 0) (argsL := [(.int (0 : Int32)), (.long s0), (.long y2), (.long o0)]) (St := [(.long ((own_item (1 : Int32) s0 y0 o0) + (own_item (0 : Int32) s0 y1 o0)))]) C X21 (wd39 hw) (wd40 hw) (by decide) (wd41 hw) (wd3 hw) (ct8 hw X21.2.1 (0 : Int32) s0 y2 o0) (lenOf pd0 rfl) rfl d7_147 rfl rfl (by decide) (Nat.le_of_ble_eq_true rfl) rfl rfl (by decide) (by decide) (fun v22 T22 h22 Q22 X22 z22 => ?_)
        obtain ⟨hv22, hh22⟩ := Q22
        subst hv22; rw [hh22] at X22
        show OGo p e below _ T22 (mkF m 150 #[.val (.int src), .val (.int (1 : Int32)), .val (.long s0), .second, .val (.long o0), .second, .val (.long x0), .second, .val (.long x1), .second, .val (.long x2), .second, .val (.long y0), .second, .val (.long y1), .second, .val (.long y2), .second, .val (.long y0), .second, .val (.long y1), .second, .val (.long y2), .second] [(.long (own_item (0 : Int32) s0 y2 o0)), (.long ((own_item (1 : Int32) s0 y0 o0) + (own_item (0 : Int32) s0 y1 o0)))])
        refine OGo.ladd (pc' := 151) (z := (((own_item (1 : Int32) s0 y0 o0) + (own_item (0 : Int32) s0 y1 o0)) + (own_item (0 : Int32) s0 y2 o0))) C X22 d7_150 rfl rfl ?_
        exact OGo.retL C X22 d7_151 hret hlk (⟨by simp +decide [own_exp, own_bit, h_lt, h_eq], rfl⟩) (by decide) (by decide)
  · refine OGo.iloadN (pc' := 1) C X0 d7_0 rfl rfl ?_
    by_cases h_lt : src < (0 : Int32)
    · refine OGo.ifNo (pc' := 4) C X0 d7_1 rfl (tlt h_lt).2.1 ?_
      refine OGo.iloadN (pc' := 5) C X0 d7_4 rfl rfl ?_
      refine OGo.ifNo (pc' := 8) C X0 d7_5 rfl (tlt (by decide : (0 : Int32) < (2 : Int32))).2.2.2 ?_
      refine OGo.iconst (pc' := 9) (z := (1 : Int32)) C X0 d7_8 rfl (by decide) ?_
      refine OGo.goto (pc' := 13) C X0 d7_9 (by decide) (by decide) ?_
      refine OGo.lconst (pc' := 14) (z := (0 : Int64)) C X0 d7_13 rfl (by decide) ?_
      refine OGo.lconst (pc' := 15) (z := (0 : Int64)) C X0 d7_14 rfl (by decide) ?_
      refine OGo.lload (pc' := 17) C X0 d7_15 rfl rfl ?_
      refine OGo.callS (pc' := 20) (cells' := 0) (slots' := 0) (argsL := [(.int (1 : Int32)), (.long (0 : Int64)), (.long (0 : Int64)), (.long o0)]) (St := []) C X0 (wd39 hw) (wd40 hw) (by decide) (wd41 hw) (wd3 hw) (ct8 hw X0.2.1 (1 : Int32) (0 : Int64) (0 : Int64) o0) (lenOf pd0 rfl) rfl d7_17 rfl rfl (by decide) (Nat.le_of_ble_eq_true rfl) rfl rfl (by decide) (by decide) (fun v24 T24 h24 Q24 X24 z24 => ?_)
      obtain ⟨hv24, hh24⟩ := Q24
      subst hv24; rw [hh24] at X24
      show OGo p e below _ T24 (mkF m 20 #[.val (.int src), .val (.int (2 : Int32)), .val (.long s0), .second, .val (.long o0), .second, .val (.long x0), .second, .val (.long x1), .second, .val (.long x2), .second, .val (.long y0), .second, .val (.long y1), .second, .val (.long y2), .second, .unset, .unset, .unset, .unset, .unset, .unset] [(.long (own_item (1 : Int32) (0 : Int64) (0 : Int64) o0))])
      refine OGo.iloadN (pc' := 21) C X24 d7_20 rfl rfl ?_
      refine OGo.iconst (pc' := 22) (z := (1 : Int32)) C X24 d7_21 rfl (by decide) ?_
      refine OGo.icmpNo (pc' := 25) C X24 d7_22 rfl (tlt (by decide : (1 : Int32) < (2 : Int32))).2.2.2 ?_
      refine OGo.iconst (pc' := 26) (z := (1 : Int32)) C X24 d7_25 rfl (by decide) ?_
      refine OGo.goto (pc' := 30) C X24 d7_26 (by decide) (by decide) ?_
      refine OGo.lconst (pc' := 31) (z := (0 : Int64)) C X24 d7_30 rfl (by decide) ?_
      refine OGo.lconst (pc' := 32) (z := (0 : Int64)) C X24 d7_31 rfl (by decide) ?_
      refine OGo.lload (pc' := 34) C X24 d7_32 rfl rfl ?_
      refine OGo.callS (pc' := 37) (cells' := 0) (slots' := 0) (argsL := [(.int (1 : Int32)), (.long (0 : Int64)), (.long (0 : Int64)), (.long o0)]) (St := [(.long (own_item (1 : Int32) (0 : Int64) (0 : Int64) o0))]) C X24 (wd39 hw) (wd40 hw) (by decide) (wd41 hw) (wd3 hw) (ct8 hw X24.2.1 (1 : Int32) (0 : Int64) (0 : Int64) o0) (lenOf pd0 rfl) rfl d7_34 rfl rfl (by decide) (Nat.le_of_ble_eq_true rfl) rfl rfl (by decide) (by decide) (fun v25 T25 h25 Q25 X25 z25 => ?_)
      obtain ⟨hv25, hh25⟩ := Q25
      subst hv25; rw [hh25] at X25
      show OGo p e below _ T25 (mkF m 37 #[.val (.int src), .val (.int (2 : Int32)), .val (.long s0), .second, .val (.long o0), .second, .val (.long x0), .second, .val (.long x1), .second, .val (.long x2), .second, .val (.long y0), .second, .val (.long y1), .second, .val (.long y2), .second, .unset, .unset, .unset, .unset, .unset, .unset] [(.long (own_item (1 : Int32) (0 : Int64) (0 : Int64) o0)), (.long (own_item (1 : Int32) (0 : Int64) (0 : Int64) o0))])
      refine OGo.ladd (pc' := 38) (z := ((own_item (1 : Int32) (0 : Int64) (0 : Int64) o0) + (own_item (1 : Int32) (0 : Int64) (0 : Int64) o0))) C X25 d7_37 rfl rfl ?_
      refine OGo.iloadN (pc' := 39) C X25 d7_38 rfl rfl ?_
      refine OGo.iconst (pc' := 40) (z := (2 : Int32)) C X25 d7_39 rfl (by decide) ?_
      refine OGo.icmpYes (pc' := 47) C X25 d7_40 (flt (by decide : ¬ (2 : Int32) < (2 : Int32))).2.2.2 (by decide) (by decide) ?_
      refine OGo.iconst (pc' := 48) (z := (0 : Int32)) C X25 d7_47 rfl (by decide) ?_
      refine OGo.lconst (pc' := 49) (z := (0 : Int64)) C X25 d7_48 rfl (by decide) ?_
      refine OGo.lconst (pc' := 50) (z := (0 : Int64)) C X25 d7_49 rfl (by decide) ?_
      refine OGo.lload (pc' := 52) C X25 d7_50 rfl rfl ?_
      refine OGo.callS (pc' := 55) (cells' := 0) (slots' := 0) (argsL := [(.int (0 : Int32)), (.long (0 : Int64)), (.long (0 : Int64)), (.long o0)]) (St := [(.long ((own_item (1 : Int32) (0 : Int64) (0 : Int64) o0) + (own_item (1 : Int32) (0 : Int64) (0 : Int64) o0)))]) C X25 (wd39 hw) (wd40 hw) (by decide) (wd41 hw) (wd3 hw) (ct8 hw X25.2.1 (0 : Int32) (0 : Int64) (0 : Int64) o0) (lenOf pd0 rfl) rfl d7_52 rfl rfl (by decide) (Nat.le_of_ble_eq_true rfl) rfl rfl (by decide) (by decide) (fun v26 T26 h26 Q26 X26 z26 => ?_)
      obtain ⟨hv26, hh26⟩ := Q26
      subst hv26; rw [hh26] at X26
      show OGo p e below _ T26 (mkF m 55 #[.val (.int src), .val (.int (2 : Int32)), .val (.long s0), .second, .val (.long o0), .second, .val (.long x0), .second, .val (.long x1), .second, .val (.long x2), .second, .val (.long y0), .second, .val (.long y1), .second, .val (.long y2), .second, .unset, .unset, .unset, .unset, .unset, .unset] [(.long (own_item (0 : Int32) (0 : Int64) (0 : Int64) o0)), (.long ((own_item (1 : Int32) (0 : Int64) (0 : Int64) o0) + (own_item (1 : Int32) (0 : Int64) (0 : Int64) o0)))])
      refine OGo.ladd (pc' := 56) (z := (((own_item (1 : Int32) (0 : Int64) (0 : Int64) o0) + (own_item (1 : Int32) (0 : Int64) (0 : Int64) o0)) + (own_item (0 : Int32) (0 : Int64) (0 : Int64) o0))) C X26 d7_55 rfl rfl ?_
      exact OGo.retL C X26 d7_56 hret hlk (⟨by simp +decide [own_exp, own_bit, h_lt], rfl⟩) (by decide) (by decide)
    · refine OGo.ifYes (pc' := 57) C X0 d7_1 (flt h_lt).2.1 (by decide) (by decide) ?_
      refine OGo.iloadN (pc' := 58) C X0 d7_57 rfl rfl ?_
      by_cases h_eq : src = (0 : Int32)
      · refine OGo.ifNo (pc' := 61) C X0 d7_58 rfl (teq h_eq).2 ?_
        refine OGo.lload (pc' := 63) C X0 d7_61 rfl rfl ?_
        refine OGo.goto (pc' := 68) C X0 d7_63 (by decide) (by decide) ?_
        refine OGo.lstore (pc' := 70) C X0 d7_68 rfl (l' := #[.val (.int src), .val (.int (2 : Int32)), .val (.long s0), .second, .val (.long o0), .second, .val (.long x0), .second, .val (.long x1), .second, .val (.long x2), .second, .val (.long y0), .second, .val (.long y1), .second, .val (.long y2), .second, .val (.long x0), .second, .unset, .unset, .unset, .unset]) rfl ?_
        refine OGo.iloadN (pc' := 71) C X0 d7_70 rfl rfl ?_
        refine OGo.ifNo (pc' := 74) C X0 d7_71 rfl (teq h_eq).2 ?_
        refine OGo.lload (pc' := 76) C X0 d7_74 rfl rfl ?_
        refine OGo.goto (pc' := 81) C X0 d7_76 (by decide) (by decide) ?_
        refine OGo.lstore (pc' := 83) C X0 d7_81 rfl (l' := #[.val (.int src), .val (.int (2 : Int32)), .val (.long s0), .second, .val (.long o0), .second, .val (.long x0), .second, .val (.long x1), .second, .val (.long x2), .second, .val (.long y0), .second, .val (.long y1), .second, .val (.long y2), .second, .val (.long x0), .second, .val (.long x1), .second, .unset, .unset]) rfl ?_
        refine OGo.iloadN (pc' := 84) C X0 d7_83 rfl rfl ?_
        refine OGo.ifNo (pc' := 87) C X0 d7_84 rfl (teq h_eq).2 ?_
        refine OGo.lload (pc' := 89) C X0 d7_87 rfl rfl ?_
        refine OGo.goto (pc' := 94) C X0 d7_89 (by decide) (by decide) ?_
        refine OGo.lstore (pc' := 96) C X0 d7_94 rfl (l' := #[.val (.int src), .val (.int (2 : Int32)), .val (.long s0), .second, .val (.long o0), .second, .val (.long x0), .second, .val (.long x1), .second, .val (.long x2), .second, .val (.long y0), .second, .val (.long y1), .second, .val (.long y2), .second, .val (.long x0), .second, .val (.long x1), .second, .val (.long x2), .second]) rfl ?_
        refine OGo.iloadN (pc' := 97) C X0 d7_96 rfl rfl ?_
        refine OGo.ifNo (pc' := 100) C X0 d7_97 rfl (tlt (by decide : (0 : Int32) < (2 : Int32))).2.2.2 ?_
        refine OGo.iconst (pc' := 101) (z := (1 : Int32)) C X0 d7_100 rfl (by decide) ?_
        refine OGo.goto (pc' := 105) C X0 d7_101 (by decide) (by decide) ?_
        refine OGo.lloadN (pc' := 106) C X0 d7_105 rfl rfl ?_
        refine OGo.lload (pc' := 108) C X0 d7_106 rfl rfl ?_
        refine OGo.lload (pc' := 110) C X0 d7_108 rfl rfl ?_
        refine OGo.callS (pc' := 113) (cells' := 0) (slots' := 0) (argsL := [(.int (1 : Int32)), (.long s0), (.long x0), (.long o0)]) (St := []) C X0 (wd39 hw) (wd40 hw) (by decide) (wd41 hw) (wd3 hw) (ct8 hw X0.2.1 (1 : Int32) s0 x0 o0) (lenOf pd0 rfl) rfl d7_110 rfl rfl (by decide) (Nat.le_of_ble_eq_true rfl) rfl rfl (by decide) (by decide) (fun v28 T28 h28 Q28 X28 z28 => ?_)
        obtain ⟨hv28, hh28⟩ := Q28
        subst hv28; rw [hh28] at X28
        show OGo p e below _ T28 (mkF m 113 #[.val (.int src), .val (.int (2 : Int32)), .val (.long s0), .second, .val (.long o0), .second, .val (.long x0), .second, .val (.long x1), .second, .val (.long x2), .second, .val (.long y0), .second, .val (.long y1), .second, .val (.long y2), .second, .val (.long x0), .second, .val (.long x1), .second, .val (.long x2), .second] [(.long (own_item (1 : Int32) s0 x0 o0))])
        refine OGo.iloadN (pc' := 114) C X28 d7_113 rfl rfl ?_
        refine OGo.iconst (pc' := 115) (z := (1 : Int32)) C X28 d7_114 rfl (by decide) ?_
        refine OGo.icmpNo (pc' := 118) C X28 d7_115 rfl (tlt (by decide : (1 : Int32) < (2 : Int32))).2.2.2 ?_
        refine OGo.iconst (pc' := 119) (z := (1 : Int32)) C X28 d7_118 rfl (by decide) ?_
        refine OGo.goto (pc' := 123) C X28 d7_119 (by decide) (by decide) ?_
        refine OGo.lloadN (pc' := 124) C X28 d7_123 rfl rfl ?_
        refine OGo.lload (pc' := 126) C X28 d7_124 rfl rfl ?_
        refine OGo.lload (pc' := 128) C X28 d7_126 rfl rfl ?_
        refine OGo.callS (pc' := 131) (cells' := 0) (slots' := 0) (argsL := [(.int (1 : Int32)), (.long s0), (.long x1), (.long o0)]) (St := [(.long (own_item (1 : Int32) s0 x0 o0))]) C X28 (wd39 hw) (wd40 hw) (by decide) (wd41 hw) (wd3 hw) (ct8 hw X28.2.1 (1 : Int32) s0 x1 o0) (lenOf pd0 rfl) rfl d7_128 rfl rfl (by decide) (Nat.le_of_ble_eq_true rfl) rfl rfl (by decide) (by decide) (fun v29 T29 h29 Q29 X29 z29 => ?_)
        obtain ⟨hv29, hh29⟩ := Q29
        subst hv29; rw [hh29] at X29
        show OGo p e below _ T29 (mkF m 131 #[.val (.int src), .val (.int (2 : Int32)), .val (.long s0), .second, .val (.long o0), .second, .val (.long x0), .second, .val (.long x1), .second, .val (.long x2), .second, .val (.long y0), .second, .val (.long y1), .second, .val (.long y2), .second, .val (.long x0), .second, .val (.long x1), .second, .val (.long x2), .second] [(.long (own_item (1 : Int32) s0 x1 o0)), (.long (own_item (1 : Int32) s0 x0 o0))])
        refine OGo.ladd (pc' := 132) (z := ((own_item (1 : Int32) s0 x0 o0) + (own_item (1 : Int32) s0 x1 o0))) C X29 d7_131 rfl rfl ?_
        refine OGo.iloadN (pc' := 133) C X29 d7_132 rfl rfl ?_
        refine OGo.iconst (pc' := 134) (z := (2 : Int32)) C X29 d7_133 rfl (by decide) ?_
        refine OGo.icmpYes (pc' := 141) C X29 d7_134 (flt (by decide : ¬ (2 : Int32) < (2 : Int32))).2.2.2 (by decide) (by decide) ?_
        refine OGo.iconst (pc' := 142) (z := (0 : Int32)) C X29 d7_141 rfl (by decide) ?_
        refine OGo.lloadN (pc' := 143) C X29 d7_142 rfl rfl ?_
        refine OGo.lload (pc' := 145) C X29 d7_143 rfl rfl ?_
        refine OGo.lload (pc' := 147) C X29 d7_145 rfl rfl ?_
        refine OGo.callS (pc' := 150) (cells' := 0) (slots' := 0) (argsL := [(.int (0 : Int32)), (.long s0), (.long x2), (.long o0)]) (St := [(.long ((own_item (1 : Int32) s0 x0 o0) + (own_item (1 : Int32) s0 x1 o0)))]) C X29 (wd39 hw) (wd40 hw) (by decide) (wd41 hw) (wd3 hw) (ct8 hw X29.2.1 (0 : Int32) s0 x2 o0) (lenOf pd0 rfl) rfl d7_147 rfl rfl (by decide) (Nat.le_of_ble_eq_true rfl) rfl rfl (by decide) (by decide) (fun v30 T30 h30 Q30 X30 z30 => ?_)
        obtain ⟨hv30, hh30⟩ := Q30
        subst hv30; rw [hh30] at X30
        show OGo p e below _ T30 (mkF m 150 #[.val (.int src), .val (.int (2 : Int32)), .val (.long s0), .second, .val (.long o0), .second, .val (.long x0), .second, .val (.long x1), .second, .val (.long x2), .second, .val (.long y0), .second, .val (.long y1), .second, .val (.long y2), .second, .val (.long x0), .second, .val (.long x1), .second, .val (.long x2), .second] [(.long (own_item (0 : Int32) s0 x2 o0)), (.long ((own_item (1 : Int32) s0 x0 o0) + (own_item (1 : Int32) s0 x1 o0)))])
        refine OGo.ladd (pc' := 151) (z := (((own_item (1 : Int32) s0 x0 o0) + (own_item (1 : Int32) s0 x1 o0)) + (own_item (0 : Int32) s0 x2 o0))) C X30 d7_150 rfl rfl ?_
        exact OGo.retL C X30 d7_151 hret hlk (⟨by simp +decide [own_exp, own_bit, h_lt, h_eq], rfl⟩) (by decide) (by decide)
      · refine OGo.ifYes (pc' := 66) C X0 d7_58 (feq h_eq).2 (by decide) (by decide) ?_
        refine OGo.lload (pc' := 68) C X0 d7_66 rfl rfl ?_
        refine OGo.lstore (pc' := 70) C X0 d7_68 rfl (l' := #[.val (.int src), .val (.int (2 : Int32)), .val (.long s0), .second, .val (.long o0), .second, .val (.long x0), .second, .val (.long x1), .second, .val (.long x2), .second, .val (.long y0), .second, .val (.long y1), .second, .val (.long y2), .second, .val (.long y0), .second, .unset, .unset, .unset, .unset]) rfl ?_
        refine OGo.iloadN (pc' := 71) C X0 d7_70 rfl rfl ?_
        refine OGo.ifYes (pc' := 79) C X0 d7_71 (feq h_eq).2 (by decide) (by decide) ?_
        refine OGo.lload (pc' := 81) C X0 d7_79 rfl rfl ?_
        refine OGo.lstore (pc' := 83) C X0 d7_81 rfl (l' := #[.val (.int src), .val (.int (2 : Int32)), .val (.long s0), .second, .val (.long o0), .second, .val (.long x0), .second, .val (.long x1), .second, .val (.long x2), .second, .val (.long y0), .second, .val (.long y1), .second, .val (.long y2), .second, .val (.long y0), .second, .val (.long y1), .second, .unset, .unset]) rfl ?_
        refine OGo.iloadN (pc' := 84) C X0 d7_83 rfl rfl ?_
        refine OGo.ifYes (pc' := 92) C X0 d7_84 (feq h_eq).2 (by decide) (by decide) ?_
        refine OGo.lload (pc' := 94) C X0 d7_92 rfl rfl ?_
        refine OGo.lstore (pc' := 96) C X0 d7_94 rfl (l' := #[.val (.int src), .val (.int (2 : Int32)), .val (.long s0), .second, .val (.long o0), .second, .val (.long x0), .second, .val (.long x1), .second, .val (.long x2), .second, .val (.long y0), .second, .val (.long y1), .second, .val (.long y2), .second, .val (.long y0), .second, .val (.long y1), .second, .val (.long y2), .second]) rfl ?_
        refine OGo.iloadN (pc' := 97) C X0 d7_96 rfl rfl ?_
        refine OGo.ifNo (pc' := 100) C X0 d7_97 rfl (tlt (by decide : (0 : Int32) < (2 : Int32))).2.2.2 ?_
        refine OGo.iconst (pc' := 101) (z := (1 : Int32)) C X0 d7_100 rfl (by decide) ?_
        refine OGo.goto (pc' := 105) C X0 d7_101 (by decide) (by decide) ?_
        refine OGo.lloadN (pc' := 106) C X0 d7_105 rfl rfl ?_
        refine OGo.lload (pc' := 108) C X0 d7_106 rfl rfl ?_
        refine OGo.lload (pc' := 110) C X0 d7_108 rfl rfl ?_
        refine OGo.callS (pc' := 113) (cells' := 0) (slots' := 0) (argsL := [(.int (1 : Int32)), (.long s0), (.long y0), (.long o0)]) (St := []) C X0 (wd39 hw) (wd40 hw) (by decide) (wd41 hw) (wd3 hw) (ct8 hw X0.2.1 (1 : Int32) s0 y0 o0) (lenOf pd0 rfl) rfl d7_110 rfl rfl (by decide) (Nat.le_of_ble_eq_true rfl) rfl rfl (by decide) (by decide) (fun v31 T31 h31 Q31 X31 z31 => ?_)
        obtain ⟨hv31, hh31⟩ := Q31
        subst hv31; rw [hh31] at X31
        show OGo p e below _ T31 (mkF m 113 #[.val (.int src), .val (.int (2 : Int32)), .val (.long s0), .second, .val (.long o0), .second, .val (.long x0), .second, .val (.long x1), .second, .val (.long x2), .second, .val (.long y0), .second, .val (.long y1), .second, .val (.long y2), .second, .val (.long y0), .second, .val (.long y1), .second, .val (.long y2), .second] [(.long (own_item (1 : Int32) s0 y0 o0))])
        refine OGo.iloadN (pc' := 114) C X31 d7_113 rfl rfl ?_
        refine OGo.iconst (pc' := 115) (z := (1 : Int32)) C X31 d7_114 rfl (by decide) ?_
        refine OGo.icmpNo (pc' := 118) C X31 d7_115 rfl (tlt (by decide : (1 : Int32) < (2 : Int32))).2.2.2 ?_
        refine OGo.iconst (pc' := 119) (z := (1 : Int32)) C X31 d7_118 rfl (by decide) ?_
        refine OGo.goto (pc' := 123) C X31 d7_119 (by decide) (by decide) ?_
        refine OGo.lloadN (pc' := 124) C X31 d7_123 rfl rfl ?_
        refine OGo.lload (pc' := 126) C X31 d7_124 rfl rfl ?_
        refine OGo.lload (pc' := 128) C X31 d7_126 rfl rfl ?_
        refine OGo.callS (pc' := 131) (cells' := 0) (slots' := 0) (argsL := [(.int (1 : Int32)), (.long s0), (.long y1), (.long o0)]) (St := [(.long (own_item (1 : Int32) s0 y0 o0))]) C X31 (wd39 hw) (wd40 hw) (by decide) (wd41 hw) (wd3 hw) (ct8 hw X31.2.1 (1 : Int32) s0 y1 o0) (lenOf pd0 rfl) rfl d7_128 rfl rfl (by decide) (Nat.le_of_ble_eq_true rfl) rfl rfl (by decide) (by decide) (fun v32 T32 h32 Q32 X32 z32 => ?_)
        obtain ⟨hv32, hh32⟩ := Q32
        subst hv32; rw [hh32] at X32
        show OGo p e below _ T32 (mkF m 131 #[.val (.int src), .val (.int (2 : Int32)), .val (.long s0), .second, .val (.long o0), .second, .val (.long x0), .second, .val (.long x1), .second, .val (.long x2), .second, .val (.long y0), .second, .val (.long y1), .second, .val (.long y2), .second, .val (.long y0), .second, .val (.long y1), .second, .val (.long y2), .second] [(.long (own_item (1 : Int32) s0 y1 o0)), (.long (own_item (1 : Int32) s0 y0 o0))])
        refine OGo.ladd (pc' := 132) (z := ((own_item (1 : Int32) s0 y0 o0) + (own_item (1 : Int32) s0 y1 o0))) C X32 d7_131 rfl rfl ?_
        refine OGo.iloadN (pc' := 133) C X32 d7_132 rfl rfl ?_
        refine OGo.iconst (pc' := 134) (z := (2 : Int32)) C X32 d7_133 rfl (by decide) ?_
        refine OGo.icmpYes (pc' := 141) C X32 d7_134 (flt (by decide : ¬ (2 : Int32) < (2 : Int32))).2.2.2 (by decide) (by decide) ?_
        refine OGo.iconst (pc' := 142) (z := (0 : Int32)) C X32 d7_141 rfl (by decide) ?_
        refine OGo.lloadN (pc' := 143) C X32 d7_142 rfl rfl ?_
        refine OGo.lload (pc' := 145) C X32 d7_143 rfl rfl ?_
        refine OGo.lload (pc' := 147) C X32 d7_145 rfl rfl ?_
        refine OGo.callS (pc' := 150) (cells' := 0) (slots' := 0) (argsL := [(.int (0 : Int32)), (.long s0), (.long y2), (.long o0)]) (St := [(.long ((own_item (1 : Int32) s0 y0 o0) + (own_item (1 : Int32) s0 y1 o0)))]) C X32 (wd39 hw) (wd40 hw) (by decide) (wd41 hw) (wd3 hw) (ct8 hw X32.2.1 (0 : Int32) s0 y2 o0) (lenOf pd0 rfl) rfl d7_147 rfl rfl (by decide) (Nat.le_of_ble_eq_true rfl) rfl rfl (by decide) (by decide) (fun v33 T33 h33 Q33 X33 z33 => ?_)
        obtain ⟨hv33, hh33⟩ := Q33
        subst hv33; rw [hh33] at X33
        show OGo p e below _ T33 (mkF m 150 #[.val (.int src), .val (.int (2 : Int32)), .val (.long s0), .second, .val (.long o0), .second, .val (.long x0), .second, .val (.long x1), .second, .val (.long x2), .second, .val (.long y0), .second, .val (.long y1), .second, .val (.long y2), .second, .val (.long y0), .second, .val (.long y1), .second, .val (.long y2), .second] [(.long (own_item (0 : Int32) s0 y2 o0)), (.long ((own_item (1 : Int32) s0 y0 o0) + (own_item (1 : Int32) s0 y1 o0)))])
        refine OGo.ladd (pc' := 151) (z := (((own_item (1 : Int32) s0 y0 o0) + (own_item (1 : Int32) s0 y1 o0)) + (own_item (0 : Int32) s0 y2 o0))) C X33 d7_150 rfl rfl ?_
        exact OGo.retL C X33 d7_151 hret hlk (⟨by simp +decide [own_exp, own_bit, h_lt, h_eq], rfl⟩) (by decide) (by decide)
  · refine OGo.iloadN (pc' := 1) C X0 d7_0 rfl rfl ?_
    by_cases h_lt : src < (0 : Int32)
    · refine OGo.ifNo (pc' := 4) C X0 d7_1 rfl (tlt h_lt).2.1 ?_
      refine OGo.iloadN (pc' := 5) C X0 d7_4 rfl rfl ?_
      refine OGo.ifNo (pc' := 8) C X0 d7_5 rfl (tlt (by decide : (0 : Int32) < (3 : Int32))).2.2.2 ?_
      refine OGo.iconst (pc' := 9) (z := (1 : Int32)) C X0 d7_8 rfl (by decide) ?_
      refine OGo.goto (pc' := 13) C X0 d7_9 (by decide) (by decide) ?_
      refine OGo.lconst (pc' := 14) (z := (0 : Int64)) C X0 d7_13 rfl (by decide) ?_
      refine OGo.lconst (pc' := 15) (z := (0 : Int64)) C X0 d7_14 rfl (by decide) ?_
      refine OGo.lload (pc' := 17) C X0 d7_15 rfl rfl ?_
      refine OGo.callS (pc' := 20) (cells' := 0) (slots' := 0) (argsL := [(.int (1 : Int32)), (.long (0 : Int64)), (.long (0 : Int64)), (.long o0)]) (St := []) C X0 (wd39 hw) (wd40 hw) (by decide) (wd41 hw) (wd3 hw) (ct8 hw X0.2.1 (1 : Int32) (0 : Int64) (0 : Int64) o0) (lenOf pd0 rfl) rfl d7_17 rfl rfl (by decide) (Nat.le_of_ble_eq_true rfl) rfl rfl (by decide) (by decide) (fun v35 T35 h35 Q35 X35 z35 => ?_)
      obtain ⟨hv35, hh35⟩ := Q35
      subst hv35; rw [hh35] at X35
      show OGo p e below _ T35 (mkF m 20 #[.val (.int src), .val (.int (3 : Int32)), .val (.long s0), .second, .val (.long o0), .second, .val (.long x0), .second, .val (.long x1), .second, .val (.long x2), .second, .val (.long y0), .second, .val (.long y1), .second, .val (.long y2), .second, .unset, .unset, .unset, .unset, .unset, .unset] [(.long (own_item (1 : Int32) (0 : Int64) (0 : Int64) o0))])
      refine OGo.iloadN (pc' := 21) C X35 d7_20 rfl rfl ?_
      refine OGo.iconst (pc' := 22) (z := (1 : Int32)) C X35 d7_21 rfl (by decide) ?_
      refine OGo.icmpNo (pc' := 25) C X35 d7_22 rfl (tlt (by decide : (1 : Int32) < (3 : Int32))).2.2.2 ?_
      refine OGo.iconst (pc' := 26) (z := (1 : Int32)) C X35 d7_25 rfl (by decide) ?_
      refine OGo.goto (pc' := 30) C X35 d7_26 (by decide) (by decide) ?_
      refine OGo.lconst (pc' := 31) (z := (0 : Int64)) C X35 d7_30 rfl (by decide) ?_
      refine OGo.lconst (pc' := 32) (z := (0 : Int64)) C X35 d7_31 rfl (by decide) ?_
      refine OGo.lload (pc' := 34) C X35 d7_32 rfl rfl ?_
      refine OGo.callS (pc' := 37) (cells' := 0) (slots' := 0) (argsL := [(.int (1 : Int32)), (.long (0 : Int64)), (.long (0 : Int64)), (.long o0)]) (St := [(.long (own_item (1 : Int32) (0 : Int64) (0 : Int64) o0))]) C X35 (wd39 hw) (wd40 hw) (by decide) (wd41 hw) (wd3 hw) (ct8 hw X35.2.1 (1 : Int32) (0 : Int64) (0 : Int64) o0) (lenOf pd0 rfl) rfl d7_34 rfl rfl (by decide) (Nat.le_of_ble_eq_true rfl) rfl rfl (by decide) (by decide) (fun v36 T36 h36 Q36 X36 z36 => ?_)
      obtain ⟨hv36, hh36⟩ := Q36
      subst hv36; rw [hh36] at X36
      show OGo p e below _ T36 (mkF m 37 #[.val (.int src), .val (.int (3 : Int32)), .val (.long s0), .second, .val (.long o0), .second, .val (.long x0), .second, .val (.long x1), .second, .val (.long x2), .second, .val (.long y0), .second, .val (.long y1), .second, .val (.long y2), .second, .unset, .unset, .unset, .unset, .unset, .unset] [(.long (own_item (1 : Int32) (0 : Int64) (0 : Int64) o0)), (.long (own_item (1 : Int32) (0 : Int64) (0 : Int64) o0))])
      refine OGo.ladd (pc' := 38) (z := ((own_item (1 : Int32) (0 : Int64) (0 : Int64) o0) + (own_item (1 : Int32) (0 : Int64) (0 : Int64) o0))) C X36 d7_37 rfl rfl ?_
      refine OGo.iloadN (pc' := 39) C X36 d7_38 rfl rfl ?_
      refine OGo.iconst (pc' := 40) (z := (2 : Int32)) C X36 d7_39 rfl (by decide) ?_
      refine OGo.icmpNo (pc' := 43) C X36 d7_40 rfl (tlt (by decide : (2 : Int32) < (3 : Int32))).2.2.2 ?_
      refine OGo.iconst (pc' := 44) (z := (1 : Int32)) C X36 d7_43 rfl (by decide) ?_
      refine OGo.goto (pc' := 48) C X36 d7_44 (by decide) (by decide) ?_
      refine OGo.lconst (pc' := 49) (z := (0 : Int64)) C X36 d7_48 rfl (by decide) ?_
      refine OGo.lconst (pc' := 50) (z := (0 : Int64)) C X36 d7_49 rfl (by decide) ?_
      refine OGo.lload (pc' := 52) C X36 d7_50 rfl rfl ?_
      refine OGo.callS (pc' := 55) (cells' := 0) (slots' := 0) (argsL := [(.int (1 : Int32)), (.long (0 : Int64)), (.long (0 : Int64)), (.long o0)]) (St := [(.long ((own_item (1 : Int32) (0 : Int64) (0 : Int64) o0) + (own_item (1 : Int32) (0 : Int64) (0 : Int64) o0)))]) C X36 (wd39 hw) (wd40 hw) (by decide) (wd41 hw) (wd3 hw) (ct8 hw X36.2.1 (1 : Int32) (0 : Int64) (0 : Int64) o0) (lenOf pd0 rfl) rfl d7_52 rfl rfl (by decide) (Nat.le_of_ble_eq_true rfl) rfl rfl (by decide) (by decide) (fun v37 T37 h37 Q37 X37 z37 => ?_)
      obtain ⟨hv37, hh37⟩ := Q37
      subst hv37; rw [hh37] at X37
      show OGo p e below _ T37 (mkF m 55 #[.val (.int src), .val (.int (3 : Int32)), .val (.long s0), .second, .val (.long o0), .second, .val (.long x0), .second, .val (.long x1), .second, .val (.long x2), .second, .val (.long y0), .second, .val (.long y1), .second, .val (.long y2), .second, .unset, .unset, .unset, .unset, .unset, .unset] [(.long (own_item (1 : Int32) (0 : Int64) (0 : Int64) o0)), (.long ((own_item (1 : Int32) (0 : Int64) (0 : Int64) o0) + (own_item (1 : Int32) (0 : Int64) (0 : Int64) o0)))])
      refine OGo.ladd (pc' := 56) (z := (((own_item (1 : Int32) (0 : Int64) (0 : Int64) o0) + (own_item (1 : Int32) (0 : Int64) (0 : Int64) o0)) + (own_item (1 : Int32) (0 : Int64) (0 : Int64) o0))) C X37 d7_55 rfl rfl ?_
      exact OGo.retL C X37 d7_56 hret hlk (⟨by simp +decide [own_exp, own_bit, h_lt], rfl⟩) (by decide) (by decide)
    · refine OGo.ifYes (pc' := 57) C X0 d7_1 (flt h_lt).2.1 (by decide) (by decide) ?_
      refine OGo.iloadN (pc' := 58) C X0 d7_57 rfl rfl ?_
      by_cases h_eq : src = (0 : Int32)
      · refine OGo.ifNo (pc' := 61) C X0 d7_58 rfl (teq h_eq).2 ?_
        refine OGo.lload (pc' := 63) C X0 d7_61 rfl rfl ?_
        refine OGo.goto (pc' := 68) C X0 d7_63 (by decide) (by decide) ?_
        refine OGo.lstore (pc' := 70) C X0 d7_68 rfl (l' := #[.val (.int src), .val (.int (3 : Int32)), .val (.long s0), .second, .val (.long o0), .second, .val (.long x0), .second, .val (.long x1), .second, .val (.long x2), .second, .val (.long y0), .second, .val (.long y1), .second, .val (.long y2), .second, .val (.long x0), .second, .unset, .unset, .unset, .unset]) rfl ?_
        refine OGo.iloadN (pc' := 71) C X0 d7_70 rfl rfl ?_
        refine OGo.ifNo (pc' := 74) C X0 d7_71 rfl (teq h_eq).2 ?_
        refine OGo.lload (pc' := 76) C X0 d7_74 rfl rfl ?_
        refine OGo.goto (pc' := 81) C X0 d7_76 (by decide) (by decide) ?_
        refine OGo.lstore (pc' := 83) C X0 d7_81 rfl (l' := #[.val (.int src), .val (.int (3 : Int32)), .val (.long s0), .second, .val (.long o0), .second, .val (.long x0), .second, .val (.long x1), .second, .val (.long x2), .second, .val (.long y0), .second, .val (.long y1), .second, .val (.long y2), .second, .val (.long x0), .second, .val (.long x1), .second, .unset, .unset]) rfl ?_
        refine OGo.iloadN (pc' := 84) C X0 d7_83 rfl rfl ?_
        refine OGo.ifNo (pc' := 87) C X0 d7_84 rfl (teq h_eq).2 ?_
        refine OGo.lload (pc' := 89) C X0 d7_87 rfl rfl ?_
        refine OGo.goto (pc' := 94) C X0 d7_89 (by decide) (by decide) ?_
        refine OGo.lstore (pc' := 96) C X0 d7_94 rfl (l' := #[.val (.int src), .val (.int (3 : Int32)), .val (.long s0), .second, .val (.long o0), .second, .val (.long x0), .second, .val (.long x1), .second, .val (.long x2), .second, .val (.long y0), .second, .val (.long y1), .second, .val (.long y2), .second, .val (.long x0), .second, .val (.long x1), .second, .val (.long x2), .second]) rfl ?_
        refine OGo.iloadN (pc' := 97) C X0 d7_96 rfl rfl ?_
        refine OGo.ifNo (pc' := 100) C X0 d7_97 rfl (tlt (by decide : (0 : Int32) < (3 : Int32))).2.2.2 ?_
        refine OGo.iconst (pc' := 101) (z := (1 : Int32)) C X0 d7_100 rfl (by decide) ?_
        refine OGo.goto (pc' := 105) C X0 d7_101 (by decide) (by decide) ?_
        refine OGo.lloadN (pc' := 106) C X0 d7_105 rfl rfl ?_
        refine OGo.lload (pc' := 108) C X0 d7_106 rfl rfl ?_
        refine OGo.lload (pc' := 110) C X0 d7_108 rfl rfl ?_
        refine OGo.callS (pc' := 113) (cells' := 0) (slots' := 0) (argsL := [(.int (1 : Int32)), (.long s0), (.long x0), (.long o0)]) (St := []) C X0 (wd39 hw) (wd40 hw) (by decide) (wd41 hw) (wd3 hw) (ct8 hw X0.2.1 (1 : Int32) s0 x0 o0) (lenOf pd0 rfl) rfl d7_110 rfl rfl (by decide) (Nat.le_of_ble_eq_true rfl) rfl rfl (by decide) (by decide) (fun v39 T39 h39 Q39 X39 z39 => ?_)
        obtain ⟨hv39, hh39⟩ := Q39
        subst hv39; rw [hh39] at X39
        show OGo p e below _ T39 (mkF m 113 #[.val (.int src), .val (.int (3 : Int32)), .val (.long s0), .second, .val (.long o0), .second, .val (.long x0), .second, .val (.long x1), .second, .val (.long x2), .second, .val (.long y0), .second, .val (.long y1), .second, .val (.long y2), .second, .val (.long x0), .second, .val (.long x1), .second, .val (.long x2), .second] [(.long (own_item (1 : Int32) s0 x0 o0))])
        refine OGo.iloadN (pc' := 114) C X39 d7_113 rfl rfl ?_
        refine OGo.iconst (pc' := 115) (z := (1 : Int32)) C X39 d7_114 rfl (by decide) ?_
        refine OGo.icmpNo (pc' := 118) C X39 d7_115 rfl (tlt (by decide : (1 : Int32) < (3 : Int32))).2.2.2 ?_
        refine OGo.iconst (pc' := 119) (z := (1 : Int32)) C X39 d7_118 rfl (by decide) ?_
        refine OGo.goto (pc' := 123) C X39 d7_119 (by decide) (by decide) ?_
        refine OGo.lloadN (pc' := 124) C X39 d7_123 rfl rfl ?_
        refine OGo.lload (pc' := 126) C X39 d7_124 rfl rfl ?_
        refine OGo.lload (pc' := 128) C X39 d7_126 rfl rfl ?_
        refine OGo.callS (pc' := 131) (cells' := 0) (slots' := 0) (argsL := [(.int (1 : Int32)), (.long s0), (.long x1), (.long o0)]) (St := [(.long (own_item (1 : Int32) s0 x0 o0))]) C X39 (wd39 hw) (wd40 hw) (by decide) (wd41 hw) (wd3 hw) (ct8 hw X39.2.1 (1 : Int32) s0 x1 o0) (lenOf pd0 rfl) rfl d7_128 rfl rfl (by decide) (Nat.le_of_ble_eq_true rfl) rfl rfl (by decide) (by decide) (fun v40 T40 h40 Q40 X40 z40 => ?_)
        obtain ⟨hv40, hh40⟩ := Q40
        subst hv40; rw [hh40] at X40
        show OGo p e below _ T40 (mkF m 131 #[.val (.int src), .val (.int (3 : Int32)), .val (.long s0), .second, .val (.long o0), .second, .val (.long x0), .second, .val (.long x1), .second, .val (.long x2), .second, .val (.long y0), .second, .val (.long y1), .second, .val (.long y2), .second, .val (.long x0), .second, .val (.long x1), .second, .val (.long x2), .second] [(.long (own_item (1 : Int32) s0 x1 o0)), (.long (own_item (1 : Int32) s0 x0 o0))])
        refine OGo.ladd (pc' := 132) (z := ((own_item (1 : Int32) s0 x0 o0) + (own_item (1 : Int32) s0 x1 o0))) C X40 d7_131 rfl rfl ?_
        refine OGo.iloadN (pc' := 133) C X40 d7_132 rfl rfl ?_
        refine OGo.iconst (pc' := 134) (z := (2 : Int32)) C X40 d7_133 rfl (by decide) ?_
        refine OGo.icmpNo (pc' := 137) C X40 d7_134 rfl (tlt (by decide : (2 : Int32) < (3 : Int32))).2.2.2 ?_
        refine OGo.iconst (pc' := 138) (z := (1 : Int32)) C X40 d7_137 rfl (by decide) ?_
        refine OGo.goto (pc' := 142) C X40 d7_138 (by decide) (by decide) ?_
        refine OGo.lloadN (pc' := 143) C X40 d7_142 rfl rfl ?_
        refine OGo.lload (pc' := 145) C X40 d7_143 rfl rfl ?_
        refine OGo.lload (pc' := 147) C X40 d7_145 rfl rfl ?_
        refine OGo.callS (pc' := 150) (cells' := 0) (slots' := 0) (argsL := [(.int (1 : Int32)), (.long s0), (.long x2), (.long o0)]) (St := [(.long ((own_item (1 : Int32) s0 x0 o0) + (own_item (1 : Int32) s0 x1 o0)))]) C X40 (wd39 hw) (wd40 hw) (by decide) (wd41 hw) (wd3 hw) (ct8 hw X40.2.1 (1 : Int32) s0 x2 o0) (lenOf pd0 rfl) rfl d7_147 rfl rfl (by decide) (Nat.le_of_ble_eq_true rfl) rfl rfl (by decide) (by decide) (fun v41 T41 h41 Q41 X41 z41 => ?_)
        obtain ⟨hv41, hh41⟩ := Q41
        subst hv41; rw [hh41] at X41
        show OGo p e below _ T41 (mkF m 150 #[.val (.int src), .val (.int (3 : Int32)), .val (.long s0), .second, .val (.long o0), .second, .val (.long x0), .second, .val (.long x1), .second, .val (.long x2), .second, .val (.long y0), .second, .val (.long y1), .second, .val (.long y2), .second, .val (.long x0), .second, .val (.long x1), .second, .val (.long x2), .second] [(.long (own_item (1 : Int32) s0 x2 o0)), (.long ((own_item (1 : Int32) s0 x0 o0) + (own_item (1 : Int32) s0 x1 o0)))])
        refine OGo.ladd (pc' := 151) (z := (((own_item (1 : Int32) s0 x0 o0) + (own_item (1 : Int32) s0 x1 o0)) + (own_item (1 : Int32) s0 x2 o0))) C X41 d7_150 rfl rfl ?_
        exact OGo.retL C X41 d7_151 hret hlk (⟨by simp +decide [own_exp, own_bit, h_lt, h_eq], rfl⟩) (by decide) (by decide)
      · refine OGo.ifYes (pc' := 66) C X0 d7_58 (feq h_eq).2 (by decide) (by decide) ?_
        refine OGo.lload (pc' := 68) C X0 d7_66 rfl rfl ?_
        refine OGo.lstore (pc' := 70) C X0 d7_68 rfl (l' := #[.val (.int src), .val (.int (3 : Int32)), .val (.long s0), .second, .val (.long o0), .second, .val (.long x0), .second, .val (.long x1), .second, .val (.long x2), .second, .val (.long y0), .second, .val (.long y1), .second, .val (.long y2), .second, .val (.long y0), .second, .unset, .unset, .unset, .unset]) rfl ?_
        refine OGo.iloadN (pc' := 71) C X0 d7_70 rfl rfl ?_
        refine OGo.ifYes (pc' := 79) C X0 d7_71 (feq h_eq).2 (by decide) (by decide) ?_
        refine OGo.lload (pc' := 81) C X0 d7_79 rfl rfl ?_
        refine OGo.lstore (pc' := 83) C X0 d7_81 rfl (l' := #[.val (.int src), .val (.int (3 : Int32)), .val (.long s0), .second, .val (.long o0), .second, .val (.long x0), .second, .val (.long x1), .second, .val (.long x2), .second, .val (.long y0), .second, .val (.long y1), .second, .val (.long y2), .second, .val (.long y0), .second, .val (.long y1), .second, .unset, .unset]) rfl ?_
        refine OGo.iloadN (pc' := 84) C X0 d7_83 rfl rfl ?_
        refine OGo.ifYes (pc' := 92) C X0 d7_84 (feq h_eq).2 (by decide) (by decide) ?_
        refine OGo.lload (pc' := 94) C X0 d7_92 rfl rfl ?_
        refine OGo.lstore (pc' := 96) C X0 d7_94 rfl (l' := #[.val (.int src), .val (.int (3 : Int32)), .val (.long s0), .second, .val (.long o0), .second, .val (.long x0), .second, .val (.long x1), .second, .val (.long x2), .second, .val (.long y0), .second, .val (.long y1), .second, .val (.long y2), .second, .val (.long y0), .second, .val (.long y1), .second, .val (.long y2), .second]) rfl ?_
        refine OGo.iloadN (pc' := 97) C X0 d7_96 rfl rfl ?_
        refine OGo.ifNo (pc' := 100) C X0 d7_97 rfl (tlt (by decide : (0 : Int32) < (3 : Int32))).2.2.2 ?_
        refine OGo.iconst (pc' := 101) (z := (1 : Int32)) C X0 d7_100 rfl (by decide) ?_
        refine OGo.goto (pc' := 105) C X0 d7_101 (by decide) (by decide) ?_
        refine OGo.lloadN (pc' := 106) C X0 d7_105 rfl rfl ?_
        refine OGo.lload (pc' := 108) C X0 d7_106 rfl rfl ?_
        refine OGo.lload (pc' := 110) C X0 d7_108 rfl rfl ?_
        refine OGo.callS (pc' := 113) (cells' := 0) (slots' := 0) (argsL := [(.int (1 : Int32)), (.long s0), (.long y0), (.long o0)]) (St := []) C X0 (wd39 hw) (wd40 hw) (by decide) (wd41 hw) (wd3 hw) (ct8 hw X0.2.1 (1 : Int32) s0 y0 o0) (lenOf pd0 rfl) rfl d7_110 rfl rfl (by decide) (Nat.le_of_ble_eq_true rfl) rfl rfl (by decide) (by decide) (fun v42 T42 h42 Q42 X42 z42 => ?_)
        obtain ⟨hv42, hh42⟩ := Q42
        subst hv42; rw [hh42] at X42
        show OGo p e below _ T42 (mkF m 113 #[.val (.int src), .val (.int (3 : Int32)), .val (.long s0), .second, .val (.long o0), .second, .val (.long x0), .second, .val (.long x1), .second, .val (.long x2), .second, .val (.long y0), .second, .val (.long y1), .second, .val (.long y2), .second, .val (.long y0), .second, .val (.long y1), .second, .val (.long y2), .second] [(.long (own_item (1 : Int32) s0 y0 o0))])
        refine OGo.iloadN (pc' := 114) C X42 d7_113 rfl rfl ?_
        refine OGo.iconst (pc' := 115) (z := (1 : Int32)) C X42 d7_114 rfl (by decide) ?_
        refine OGo.icmpNo (pc' := 118) C X42 d7_115 rfl (tlt (by decide : (1 : Int32) < (3 : Int32))).2.2.2 ?_
        refine OGo.iconst (pc' := 119) (z := (1 : Int32)) C X42 d7_118 rfl (by decide) ?_
        refine OGo.goto (pc' := 123) C X42 d7_119 (by decide) (by decide) ?_
        refine OGo.lloadN (pc' := 124) C X42 d7_123 rfl rfl ?_
        refine OGo.lload (pc' := 126) C X42 d7_124 rfl rfl ?_
        refine OGo.lload (pc' := 128) C X42 d7_126 rfl rfl ?_
        refine OGo.callS (pc' := 131) (cells' := 0) (slots' := 0) (argsL := [(.int (1 : Int32)), (.long s0), (.long y1), (.long o0)]) (St := [(.long (own_item (1 : Int32) s0 y0 o0))]) C X42 (wd39 hw) (wd40 hw) (by decide) (wd41 hw) (wd3 hw) (ct8 hw X42.2.1 (1 : Int32) s0 y1 o0) (lenOf pd0 rfl) rfl d7_128 rfl rfl (by decide) (Nat.le_of_ble_eq_true rfl) rfl rfl (by decide) (by decide) (fun v43 T43 h43 Q43 X43 z43 => ?_)
        obtain ⟨hv43, hh43⟩ := Q43
        subst hv43; rw [hh43] at X43
        show OGo p e below _ T43 (mkF m 131 #[.val (.int src), .val (.int (3 : Int32)), .val (.long s0), .second, .val (.long o0), .second, .val (.long x0), .second, .val (.long x1), .second, .val (.long x2), .second, .val (.long y0), .second, .val (.long y1), .second, .val (.long y2), .second, .val (.long y0), .second, .val (.long y1), .second, .val (.long y2), .second] [(.long (own_item (1 : Int32) s0 y1 o0)), (.long (own_item (1 : Int32) s0 y0 o0))])
        refine OGo.ladd (pc' := 132) (z := ((own_item (1 : Int32) s0 y0 o0) + (own_item (1 : Int32) s0 y1 o0))) C X43 d7_131 rfl rfl ?_
        refine OGo.iloadN (pc' := 133) C X43 d7_132 rfl rfl ?_
        refine OGo.iconst (pc' := 134) (z := (2 : Int32)) C X43 d7_133 rfl (by decide) ?_
        refine OGo.icmpNo (pc' := 137) C X43 d7_134 rfl (tlt (by decide : (2 : Int32) < (3 : Int32))).2.2.2 ?_
        refine OGo.iconst (pc' := 138) (z := (1 : Int32)) C X43 d7_137 rfl (by decide) ?_
        refine OGo.goto (pc' := 142) C X43 d7_138 (by decide) (by decide) ?_
        refine OGo.lloadN (pc' := 143) C X43 d7_142 rfl rfl ?_
        refine OGo.lload (pc' := 145) C X43 d7_143 rfl rfl ?_
        refine OGo.lload (pc' := 147) C X43 d7_145 rfl rfl ?_
        refine OGo.callS (pc' := 150) (cells' := 0) (slots' := 0) (argsL := [(.int (1 : Int32)), (.long s0), (.long y2), (.long o0)]) (St := [(.long ((own_item (1 : Int32) s0 y0 o0) + (own_item (1 : Int32) s0 y1 o0)))]) C X43 (wd39 hw) (wd40 hw) (by decide) (wd41 hw) (wd3 hw) (ct8 hw X43.2.1 (1 : Int32) s0 y2 o0) (lenOf pd0 rfl) rfl d7_147 rfl rfl (by decide) (Nat.le_of_ble_eq_true rfl) rfl rfl (by decide) (by decide) (fun v44 T44 h44 Q44 X44 z44 => ?_)
        obtain ⟨hv44, hh44⟩ := Q44
        subst hv44; rw [hh44] at X44
        show OGo p e below _ T44 (mkF m 150 #[.val (.int src), .val (.int (3 : Int32)), .val (.long s0), .second, .val (.long o0), .second, .val (.long x0), .second, .val (.long x1), .second, .val (.long x2), .second, .val (.long y0), .second, .val (.long y1), .second, .val (.long y2), .second, .val (.long y0), .second, .val (.long y1), .second, .val (.long y2), .second] [(.long (own_item (1 : Int32) s0 y2 o0)), (.long ((own_item (1 : Int32) s0 y0 o0) + (own_item (1 : Int32) s0 y1 o0)))])
        refine OGo.ladd (pc' := 151) (z := (((own_item (1 : Int32) s0 y0 o0) + (own_item (1 : Int32) s0 y1 o0)) + (own_item (1 : Int32) s0 y2 o0))) C X44 d7_150 rfl rfl ?_
        exact OGo.retL C X44 d7_151 hret hlk (⟨by simp +decide [own_exp, own_bit, h_lt, h_eq], rfl⟩) (by decide) (by decide)
theorem ef3 (m : MethodId) (x0 : Addr) : entryFrame m #[(.ref x0)] 1 = mkF m 0 #[.val (.ref x0)] [] := by first | (simp [entryFrame, mkF, argsToLocals, Value.category]; done) | rfl
set_option maxRecDepth 65536 in
set_option maxHeartbeats 40000000 in
theorem ct3 {l : Launch} {Z : State} {a0 : Array Value} (hw : HW a0 Z) {n0 : Nat} {h0 : Heap} (hn0 : n0 ≤ h0.size) (a1 : Addr)  :
    Ctr l Z (⟨"java/lang/Record", "<init>", "()V"⟩ : MethodName) jdk_30_method_1_code 1 none ({ frames := 1, cells := 0, slots := 0, locals := 12 } : Room) n0 #[(.ref a1)] h0 (fun v h => v = none ∧ h = h0) := by
  refine Ctr.of (plainFor_of_name pn1) hn0 ?_
  intro p e s m below meth c T0 C hnm hret hlk X0
  rw [ef3 m a1]
  refine OGo.aloadN (pc' := 1) C X0 d3_0 rfl rfl rfl ?_
  refine OGo.initObj (pc' := 4) C X0 (wd17 hw) (wd18 hw) (wd19 hw) d3_1 rfl rfl (by decide) (Nat.le_of_ble_eq_true rfl) (fun T1 X1 => ?_)
  exact OGo.ret C X1 d3_4 hret hlk (⟨rfl, rfl⟩) (by decide) (by decide)
theorem ef2 (m : MethodId) (x0 : Addr) (x1 : Addr) (x2 : Addr) (x3 : Addr) : entryFrame m #[(.ref x0), (.ref x1), (.ref x2), (.ref x3)] 4 = mkF m 0 #[.val (.ref x0), .val (.ref x1), .val (.ref x2), .val (.ref x3)] [] := by first | (simp [entryFrame, mkF, argsToLocals, Value.category]; done) | rfl
set_option maxRecDepth 65536 in
set_option maxHeartbeats 40000000 in
theorem ct2 {l : Launch} {Z : State} {a0 : Array Value} (hw : HW a0 Z) {n0 : Nat} {h0 : Heap} (hn0 : n0 ≤ h0.size) (a1 r1 r2 r3 : Addr) (E1 : Exa Z h0 a1 "com/example/interim/interim/Frame$Shift") (F_sources : Fld Z h0 a1 "com/example/interim/interim/Frame$Shift" "sources" "[I" .null) (F_scales : Fld Z h0 a1 "com/example/interim/interim/Frame$Shift" "scales" "[D" .null) (F_offsets : Fld Z h0 a1 "com/example/interim/interim/Frame$Shift" "offsets" "[D" .null) (ga : n0 ≤ a1) :
    Ctr l Z (⟨"com/example/interim/interim/Frame$Shift", "<init>", "([I[D[D)V"⟩ : MethodName) prog_31_method_1_code 4 none ({ frames := 2, cells := 0, slots := 0, locals := 24 } : Room) n0 #[(.ref a1), (.ref r1), (.ref r2), (.ref r3)] h0 (fun v h => v = none ∧ Keep h0 h [a1] ∧ Exa Z h a1 "com/example/interim/interim/Frame$Shift" ∧ Fld Z h a1 "com/example/interim/interim/Frame$Shift" "sources" "[I" (.ref r1) ∧ Fld Z h a1 "com/example/interim/interim/Frame$Shift" "scales" "[D" (.ref r2) ∧ Fld Z h a1 "com/example/interim/interim/Frame$Shift" "offsets" "[D" (.ref r3)) := by
  refine Ctr.of (plainFor_of_name pn2) hn0 ?_
  intro p e s m below meth c T0 C hnm hret hlk X0
  rw [ef2 m a1 r1 r2 r3]
  refine OGo.aloadN (pc' := 1) C X0 d2_0 rfl rfl rfl ?_
  refine OGo.callInit (pc' := 4) (cells' := 0) (slots' := 0) (argsL := []) (St := []) C X0 rfl rfl (wd12 hw) (wd13 hw) (by decide) (wd16 hw) (wd15 hw) (ct3 hw X0.2.1 a1) (lenOf pd1 rfl) rfl d2_1 rfl rfl (by decide) (Nat.le_of_ble_eq_true rfl) rfl rfl (by decide) (by decide) (fun v1 T1 h1 Q1 X1 z1 => ?_)
  obtain ⟨hv1, hh1⟩ := Q1
  subst hv1; rw [hh1] at X1
  show OGo p e below _ T1 (mkF m 4 #[.val (.ref a1), .val (.ref r1), .val (.ref r2), .val (.ref r3)] [])
  refine OGo.aloadN (pc' := 5) C X1 d2_4 rfl rfl rfl ?_
  refine OGo.aloadN (pc' := 6) C X1 d2_5 rfl rfl rfl ?_
  refine OGo.putfield (pc' := 9) C X1 (host := "") (Or.inl (wd20 hw)) Via.refl F_sources E1 ga (Or.inr ⟨(wd21 hw), rfl, hnm⟩) (wd6 hw) (ty := (.array .int)) (by decide) rfl rfl d2_6 rfl (fun T2 h2 X2 W2 F2 => ?_)
  have K3 : Keep h0 h2 [a1] := (Keep.refl h0 [a1]).wr W2 (Or.inl (List.mem_of_getElem? (i := 0) rfl))
  refine OGo.aloadN (pc' := 10) C X2 d2_9 rfl rfl rfl ?_
  refine OGo.aloadN (pc' := 11) C X2 d2_10 rfl rfl rfl ?_
  have f4 := (F_scales.other W2 (Or.inr (slot_ne (Or.inr (wd23 hw)) (Or.inr (wd21 hw)) (by decide) (t := (.array .double)) (t' := (.array .int)) (by decide) (by decide))))
  have f5 := (E1.wr W2)
  refine OGo.putfield (pc' := 14) C X2 (host := "") (Or.inl (wd22 hw)) Via.refl f4 f5 ga (Or.inr ⟨(wd23 hw), rfl, hnm⟩) (wd6 hw) (ty := (.array .double)) (by decide) rfl rfl d2_11 rfl (fun T6 h6 X6 W6 F6 => ?_)
  have K7 : Keep h0 h6 [a1] := K3.wr W6 (Or.inl (List.mem_of_getElem? (i := 0) rfl))
  refine OGo.aloadN (pc' := 15) C X6 d2_14 rfl rfl rfl ?_
  refine OGo.aloadN (pc' := 16) C X6 d2_15 rfl rfl rfl ?_
  have f8 := ((F_offsets.other W2 (Or.inr (slot_ne (Or.inr (wd25 hw)) (Or.inr (wd21 hw)) (by decide) (t := (.array .double)) (t' := (.array .int)) (by decide) (by decide)))).other W6 (Or.inr (slot_ne (Or.inr (wd25 hw)) (Or.inr (wd23 hw)) (by decide) (t := (.array .double)) (t' := (.array .double)) (by decide) (by decide))))
  have f9 := (f5.wr W6)
  refine OGo.putfield (pc' := 19) C X6 (host := "") (Or.inl (wd24 hw)) Via.refl f8 f9 ga (Or.inr ⟨(wd25 hw), rfl, hnm⟩) (wd6 hw) (ty := (.array .double)) (by decide) rfl rfl d2_16 rfl (fun T10 h10 X10 W10 F10 => ?_)
  have K11 : Keep h0 h10 [a1] := K7.wr W10 (Or.inl (List.mem_of_getElem? (i := 0) rfl))
  have f12 := (f9.wr W10)
  have f13 := ((F2.other W6 (Or.inr (slot_ne (Or.inr (wd21 hw)) (Or.inr (wd23 hw)) (by decide) (t := (.array .int)) (t' := (.array .double)) (by decide) (by decide)))).other W10 (Or.inr (slot_ne (Or.inr (wd21 hw)) (Or.inr (wd25 hw)) (by decide) (t := (.array .int)) (t' := (.array .double)) (by decide) (by decide))))
  have f14 := (F6.other W10 (Or.inr (slot_ne (Or.inr (wd23 hw)) (Or.inr (wd25 hw)) (by decide) (t := (.array .double)) (t' := (.array .double)) (by decide) (by decide))))
  exact OGo.ret C X10 d2_19 hret hlk (⟨rfl, K11, f12, f13, f14, F10⟩) (by decide) (by decide)
theorem efS0 (m : MethodId) (x0 x1 : Addr) : entryFrame m #[(.ref x0), (.ref x1), (.int (0 : Int32))] 3 = mkF m 0 #[.val (.ref x0), .val (.ref x1), .val (.int (0 : Int32))] [] := by first | (simp [entryFrame, mkF, argsToLocals, Value.category]; done) | rfl
set_option maxRecDepth 65536 in
set_option maxHeartbeats 40000000 in
theorem ctS0 {l : Launch} {Z : State} {a0 : Array Value} (hw : HW a0 Z) {n0 : Nat} {h0 : Heap} (hn0 : n0 ≤ h0.size) (a1 r1 b : Addr) (k1 kb : ClassId) (c0 c1 : Int32) (u0 u1 : UInt64) (F1 : Fld Z h0 a1 "com/example/interim/interim/Frame$Shift" "sources" "[I" (.ref r1)) (V1 : Arv Z h0 r1 k1 .int (2 : Int32) [(.int c0), (.int c1)] (.int (0 : Int32))) (Vb : Arv Z h0 b kb .double (2 : Int32) [(.double u0), (.double u1)] (.double (0 : UInt64))) (h2 : c0 < 2) :
    Ctr l Z (⟨"com/example/interim/interim/Frame$Shift", "source", "([DI)D"⟩ : MethodName) prog_31_method_5_code 3 (some .double) ({ frames := 0, cells := 0, slots := 0, locals := 0 } : Room) n0 #[(.ref a1), (.ref b), (.int (0 : Int32))] h0 (fun v h => v = some (.double (own_src c0 u0 u1)) ∧ h = h0) := by
  refine Ctr.of (plainFor_of_name pn2) hn0 ?_
  intro p e s m below meth c T0 C hnm hret hlk X0
  rw [efS0 m a1 b]
  refine OGo.aloadN (pc' := 1) C X0 d6_0 rfl rfl rfl ?_
  refine OGo.getfield (pc' := 4) C X0 (host := "") (Or.inl (wd20 hw)) Via.refl F1 d6_1 rfl (fun T1 X1 => ?_)
  refine OGo.iloadN (pc' := 5) C X1 d6_4 rfl rfl ?_
  refine OGo.iaload (pc' := 6) C X1 V1 d6_5 rfl ⟨by decide, by decide⟩ (v := c0) rfl ?_
  by_cases hs : c0 < (0 : Int32)
  · refine OGo.ifNo (pc' := 9) C X1 d6_6 rfl (tlt hs).2.1 ?_
    refine OGo.dconst0 (pc' := 10) (v := (FP.dconst0)) C X1 d6_9 rfl rfl ?_
    refine OGo.goto (pc' := 21) C X1 d6_10 (by decide) (by decide) ?_
    exact OGo.retD C X1 d6_21 hret hlk (⟨by simp [own_src, hs], rfl⟩) (by decide) (by decide)
  · refine OGo.ifYes (pc' := 13) C X1 d6_6 (flt hs).2.1 (by decide) (by decide) ?_
    refine OGo.aloadN (pc' := 14) C X1 d6_13 rfl rfl rfl ?_
    refine OGo.aloadN (pc' := 15) C X1 d6_14 rfl rfl rfl ?_
    refine OGo.getfield (pc' := 18) C X1 (host := "") (Or.inl (wd20 hw)) Via.refl F1 d6_15 rfl (fun T3 X3 => ?_)
    refine OGo.iloadN (pc' := 19) C X3 d6_18 rfl rfl ?_
    refine OGo.iaload (pc' := 20) C X3 V1 d6_19 rfl ⟨by decide, by decide⟩ (v := c0) rfl ?_
    refine OGo.daload (pc' := 21) C X3 Vb d6_20 rfl ⟨hs, h2⟩ (v := (own_src c0 u0 u1)) (own_get2 hs h2) ?_
    exact OGo.retD C X3 d6_21 hret hlk (⟨rfl, rfl⟩) (by decide) (by decide)
theorem efS1 (m : MethodId) (x0 x1 : Addr) : entryFrame m #[(.ref x0), (.ref x1), (.int (1 : Int32))] 3 = mkF m 0 #[.val (.ref x0), .val (.ref x1), .val (.int (1 : Int32))] [] := by first | (simp [entryFrame, mkF, argsToLocals, Value.category]; done) | rfl
set_option maxRecDepth 65536 in
set_option maxHeartbeats 40000000 in
theorem ctS1 {l : Launch} {Z : State} {a0 : Array Value} (hw : HW a0 Z) {n0 : Nat} {h0 : Heap} (hn0 : n0 ≤ h0.size) (a1 r1 b : Addr) (k1 kb : ClassId) (c0 c1 : Int32) (u0 u1 : UInt64) (F1 : Fld Z h0 a1 "com/example/interim/interim/Frame$Shift" "sources" "[I" (.ref r1)) (V1 : Arv Z h0 r1 k1 .int (2 : Int32) [(.int c0), (.int c1)] (.int (0 : Int32))) (Vb : Arv Z h0 b kb .double (2 : Int32) [(.double u0), (.double u1)] (.double (0 : UInt64))) (h2 : c1 < 2) :
    Ctr l Z (⟨"com/example/interim/interim/Frame$Shift", "source", "([DI)D"⟩ : MethodName) prog_31_method_5_code 3 (some .double) ({ frames := 0, cells := 0, slots := 0, locals := 0 } : Room) n0 #[(.ref a1), (.ref b), (.int (1 : Int32))] h0 (fun v h => v = some (.double (own_src c1 u0 u1)) ∧ h = h0) := by
  refine Ctr.of (plainFor_of_name pn2) hn0 ?_
  intro p e s m below meth c T0 C hnm hret hlk X0
  rw [efS1 m a1 b]
  refine OGo.aloadN (pc' := 1) C X0 d6_0 rfl rfl rfl ?_
  refine OGo.getfield (pc' := 4) C X0 (host := "") (Or.inl (wd20 hw)) Via.refl F1 d6_1 rfl (fun T1 X1 => ?_)
  refine OGo.iloadN (pc' := 5) C X1 d6_4 rfl rfl ?_
  refine OGo.iaload (pc' := 6) C X1 V1 d6_5 rfl ⟨by decide, by decide⟩ (v := c1) rfl ?_
  by_cases hs : c1 < (0 : Int32)
  · refine OGo.ifNo (pc' := 9) C X1 d6_6 rfl (tlt hs).2.1 ?_
    refine OGo.dconst0 (pc' := 10) (v := (FP.dconst0)) C X1 d6_9 rfl rfl ?_
    refine OGo.goto (pc' := 21) C X1 d6_10 (by decide) (by decide) ?_
    exact OGo.retD C X1 d6_21 hret hlk (⟨by simp [own_src, hs], rfl⟩) (by decide) (by decide)
  · refine OGo.ifYes (pc' := 13) C X1 d6_6 (flt hs).2.1 (by decide) (by decide) ?_
    refine OGo.aloadN (pc' := 14) C X1 d6_13 rfl rfl rfl ?_
    refine OGo.aloadN (pc' := 15) C X1 d6_14 rfl rfl rfl ?_
    refine OGo.getfield (pc' := 18) C X1 (host := "") (Or.inl (wd20 hw)) Via.refl F1 d6_15 rfl (fun T3 X3 => ?_)
    refine OGo.iloadN (pc' := 19) C X3 d6_18 rfl rfl ?_
    refine OGo.iaload (pc' := 20) C X3 V1 d6_19 rfl ⟨by decide, by decide⟩ (v := c1) rfl ?_
    refine OGo.daload (pc' := 21) C X3 Vb d6_20 rfl ⟨hs, h2⟩ (v := (own_src c1 u0 u1)) (own_get2 hs h2) ?_
    exact OGo.retD C X3 d6_21 hret hlk (⟨rfl, rfl⟩) (by decide) (by decide)
theorem ef5 (m : MethodId) (x0 : Addr) (x1 : Int32) (x2 : Addr) (x3 : Addr) : entryFrame m #[(.ref x0), (.int x1), (.ref x2), (.ref x3)] 12 = mkF m 0 #[.val (.ref x0), .val (.int x1), .val (.ref x2), .val (.ref x3), .unset, .unset, .unset, .unset, .unset, .unset, .unset, .unset] [] := by first | (simp [entryFrame, mkF, argsToLocals, Value.category]; done) | rfl
set_option maxRecDepth 65536 in
set_option maxHeartbeats 40000000 in
theorem ct5 {l : Launch} {Z : State} {a0 : Array Value} (hw : HW a0 Z) {n0 : Nat} {h0 : Heap} (hn0 : n0 ≤ h0.size) (a1 r1 r2 r3 b q : Addr) (ja jb jc kb kq : ClassId) (k c0 c1 : Int32) (s0 s1 o0 o1 u0 u1 w0 w1 : UInt64) (E1 : Exa Z h0 a1 "com/example/interim/interim/Frame$Shift") (G1 : Fld Z h0 a1 "com/example/interim/interim/Frame$Shift" "sources" "[I" (.ref r1)) (G2 : Fld Z h0 a1 "com/example/interim/interim/Frame$Shift" "scales" "[D" (.ref r2)) (G3 : Fld Z h0 a1 "com/example/interim/interim/Frame$Shift" "offsets" "[D" (.ref r3)) (W1 : Arv Z h0 r1 ja .int (2 : Int32) [(.int c0), (.int c1)] (.int (0 : Int32))) (W2 : Arv Z h0 r2 jb .double (2 : Int32) [(.double s0), (.double s1)] (.double (0 : UInt64))) (W3 : Arv Z h0 r3 jc .double (2 : Int32) [(.double o0), (.double o1)] (.double (0 : UInt64))) (Vb : Arv Z h0 b kb .double (2 : Int32) [(.double u0), (.double u1)] (.double (0 : UInt64))) (Vq : Arv Z h0 q kq .double (2 : Int32) [(.double w0), (.double w1)] (.double (0 : UInt64))) (hc0 : c0 < 2) (hc1 : c1 < 2) (m_s0 : Mag64 1088 s0) (m_s1 : Mag64 1088 s1) (m_o0 : Mag64 1088 o0) (m_o1 : Mag64 1088 o1) (m_u0 : Mag64 1088 u0) (m_u1 : Mag64 1088 u1) (m_w0 : Mag64 1088 w0) (m_w1 : Mag64 1088 w1) :
    Ctr l Z (⟨"com/example/interim/interim/Frame$Shift", "squares", "(I[D[D)[D"⟩ : MethodName) prog_31_method_4_code 12 (some (.array .double)) ({ frames := 1, cells := 1, slots := 2, locals := 48 } : Room) n0 #[(.ref a1), (.int k), (.ref b), (.ref q)] h0 (fun v h => ∃ (b' : Addr) (kr : ClassId), v = some (.ref b') ∧ Keep h0 h [] ∧ Arv Z h b' kr .double (2 : Int32) [(.double (own_r s0 o0 k (own_src c0 u0 u1) (own_src c0 w0 w1))), (.double (own_r s1 o1 k (own_src c1 u0 u1) (own_src c1 w0 w1)))] (.double (0 : UInt64))) := by
  refine Ctr.of (plainFor_of_name pn2) hn0 ?_
  intro p e s m below meth c T0 C hnm hret hlk X0
  rw [ef5 m a1 k b q]
  refine OGo.aloadN (pc' := 1) C X0 d5_0 rfl rfl rfl ?_
  refine OGo.getfield (pc' := 4) C X0 (host := "") (Or.inl (wd20 hw)) Via.refl G1 d5_1 rfl (fun T1 X1 => ?_)
  refine OGo.arraylength (pc' := 5) C X1 W1 d5_4 rfl ?_
  refine OGo.newarray (pc' := 7) (cap := 2) (d0 := (.double (0 : UInt64))) (cells' := 1) (slots' := 2) C X1 (wd0 hw) rfl d5_5 rfl (by decide) (by decide) (by decide) rfl rfl rfl (by decide) (by decide) (fun T2 h2 a2 k2 X2 g2 q2 E2 V2 => ?_)
  have ne3 : a1 ≠ a2 := Nat.ne_of_lt (Nat.lt_of_lt_of_eq E1.lt g2.symm)
  have ne4 : r1 ≠ a2 := Nat.ne_of_lt (Nat.lt_of_lt_of_eq W1.lt g2.symm)
  have ne5 : r2 ≠ a2 := Nat.ne_of_lt (Nat.lt_of_lt_of_eq W2.lt g2.symm)
  have ne6 : r3 ≠ a2 := Nat.ne_of_lt (Nat.lt_of_lt_of_eq W3.lt g2.symm)
  have ne7 : b ≠ a2 := Nat.ne_of_lt (Nat.lt_of_lt_of_eq Vb.lt g2.symm)
  have ne8 : q ≠ a2 := Nat.ne_of_lt (Nat.lt_of_lt_of_eq Vq.lt g2.symm)
  have sz9 : h0.size ≤ a2 := Nat.le_trans (Keep.refl h0 []).1 (Nat.le_of_eq g2.symm)
  have K10 : Keep h0 h2 [] := (Keep.refl h0 []).ext E2
  replace V2 : Arv Z h2 a2 k2 .double (2 : Int32) [(.double (0 : UInt64)), (.double (0 : UInt64))] (.double (0 : UInt64)) := V2.pad (pad_rep [] (.double (0 : UInt64)) 2)
  refine OGo.astore (pc' := 9) C X2 d5_7 rfl rfl (l' := #[.val (.ref a1), .val (.int k), .val (.ref b), .val (.ref q), .val (.ref a2), .unset, .unset, .unset, .unset, .unset, .unset, .unset]) rfl ?_
  refine OGo.iconst (pc' := 10) (z := (0 : Int32)) C X2 d5_9 rfl (by decide) ?_
  refine OGo.istore (pc' := 12) C X2 d5_10 rfl (l' := #[.val (.ref a1), .val (.int k), .val (.ref b), .val (.ref q), .val (.ref a2), .val (.int (0 : Int32)), .unset, .unset, .unset, .unset, .unset, .unset]) rfl ?_
  refine OGo.iload (pc' := 14) C X2 d5_12 rfl rfl ?_
  refine OGo.aload (pc' := 16) C X2 d5_14 rfl rfl rfl ?_
  refine OGo.arraylength (pc' := 17) C X2 V2 d5_16 rfl ?_
  refine OGo.icmpNo (pc' := 20) C X2 d5_17 rfl (tlt (by decide : (0 : Int32) < (2 : Int32))).2.1 ?_
  refine OGo.aloadN (pc' := 21) C X2 d5_20 rfl rfl rfl ?_
  have f11 := (G2.ext E2)
  refine OGo.getfield (pc' := 24) C X2 (host := "") (Or.inl (wd22 hw)) Via.refl f11 d5_21 rfl (fun T12 X12 => ?_)
  refine OGo.iload (pc' := 26) C X12 d5_24 rfl rfl ?_
  have f13 := (W2.ext E2)
  refine OGo.daload (pc' := 27) C X12 f13 d5_26 rfl ⟨by decide, by decide⟩ (v := s0) rfl ?_
  refine OGo.dstore (pc' := 29) C X12 d5_27 rfl (l' := #[.val (.ref a1), .val (.int k), .val (.ref b), .val (.ref q), .val (.ref a2), .val (.int (0 : Int32)), .val (.double s0), .second, .unset, .unset, .unset, .unset]) rfl ?_
  refine OGo.aloadN (pc' := 30) C X12 d5_29 rfl rfl rfl ?_
  have f14 := (G3.ext E2)
  refine OGo.getfield (pc' := 33) C X12 (host := "") (Or.inl (wd24 hw)) Via.refl f14 d5_30 rfl (fun T15 X15 => ?_)
  refine OGo.iload (pc' := 35) C X15 d5_33 rfl rfl ?_
  have f16 := (W3.ext E2)
  refine OGo.daload (pc' := 36) C X15 f16 d5_35 rfl ⟨by decide, by decide⟩ (v := o0) rfl ?_
  refine OGo.dstore (pc' := 38) C X15 d5_36 rfl (l' := #[.val (.ref a1), .val (.int k), .val (.ref b), .val (.ref q), .val (.ref a2), .val (.int (0 : Int32)), .val (.double s0), .second, .val (.double o0), .second, .unset, .unset]) rfl ?_
  refine OGo.aloadN (pc' := 39) C X15 d5_38 rfl rfl rfl ?_
  refine OGo.aloadN (pc' := 40) C X15 d5_39 rfl rfl rfl ?_
  refine OGo.iload (pc' := 42) C X15 d5_40 rfl rfl ?_
  have f17 := (G1.ext E2)
  have f18 := (W1.ext E2)
  have f19 := (Vb.ext E2)
  have f21 := (E1.ext E2)
  refine OGo.callPriv (pc' := 45) (cells' := 1) (slots' := 2) (argsL := [(.ref b), (.int (0 : Int32))]) (St := []) C X15 (wd31 hw) (wd32 hw) (wd33 hw) (wd6 hw) (by decide) f21 (wd34 hw) (wd7 hw) (ctS0 hw X15.2.1 a1 r1 b ja kb c0 c1 u0 u1 f17 f18 f19 hc0) (lenOf pd2 rfl) rfl d5_42 rfl rfl (by decide) (Nat.le_of_ble_eq_true rfl) rfl rfl (by decide) (by decide) (fun v20 T20 h20 Q20 X20 z20 => ?_)
  obtain ⟨hv20, hh20⟩ := Q20
  subst hv20; rw [hh20] at X20
  show OGo p e below _ T20 (mkF m 45 #[.val (.ref a1), .val (.int k), .val (.ref b), .val (.ref q), .val (.ref a2), .val (.int (0 : Int32)), .val (.double s0), .second, .val (.double o0), .second, .unset, .unset] [(.double (own_src c0 u0 u1))])
  refine OGo.dstore (pc' := 47) C X20 d5_45 rfl (l' := #[.val (.ref a1), .val (.int k), .val (.ref b), .val (.ref q), .val (.ref a2), .val (.int (0 : Int32)), .val (.double s0), .second, .val (.double o0), .second, .val (.double (own_src c0 u0 u1)), .second]) rfl ?_
  refine OGo.aload (pc' := 49) C X20 d5_47 rfl rfl rfl ?_
  refine OGo.iload (pc' := 51) C X20 d5_49 rfl rfl ?_
  refine OGo.dload (pc' := 53) C X20 d5_51 rfl rfl ?_
  refine OGo.dload (pc' := 55) C X20 d5_53 rfl rfl ?_
  refine OGo.dmul (pc' := 56) (v := (FP.dmul s0 s0)) C X20 d5_55 rfl (own_mfin (own_g1 m_s0) (by decide)) rfl ?_
  refine OGo.aloadN (pc' := 57) C X20 d5_56 rfl rfl rfl ?_
  refine OGo.aloadN (pc' := 58) C X20 d5_57 rfl rfl rfl ?_
  refine OGo.iload (pc' := 60) C X20 d5_58 rfl rfl ?_
  have f22 := (Vq.ext E2)
  refine OGo.callPriv (pc' := 63) (cells' := 1) (slots' := 2) (argsL := [(.ref q), (.int (0 : Int32))]) (St := [(.double (FP.dmul s0 s0)), (.int (0 : Int32)), (.ref a2)]) C X20 (wd31 hw) (wd32 hw) (wd33 hw) (wd6 hw) (by decide) f21 (wd34 hw) (wd7 hw) (ctS0 hw X20.2.1 a1 r1 q ja kq c0 c1 w0 w1 f17 f18 f22 hc0) (lenOf pd2 rfl) rfl d5_60 rfl rfl (by decide) (Nat.le_of_ble_eq_true rfl) rfl rfl (by decide) (by decide) (fun v23 T23 h23 Q23 X23 z23 => ?_)
  obtain ⟨hv23, hh23⟩ := Q23
  subst hv23; rw [hh23] at X23
  show OGo p e below _ T23 (mkF m 63 #[.val (.ref a1), .val (.int k), .val (.ref b), .val (.ref q), .val (.ref a2), .val (.int (0 : Int32)), .val (.double s0), .second, .val (.double o0), .second, .val (.double (own_src c0 u0 u1)), .second] [(.double (own_src c0 w0 w1)), (.double (FP.dmul s0 s0)), (.int (0 : Int32)), (.ref a2)])
  refine OGo.dmul (pc' := 64) (v := (FP.dmul (FP.dmul s0 s0) (own_src c0 w0 w1))) C X23 d5_63 rfl (own_mfin (own_g2 m_s0 (own_src_mag m_w0 m_w1)) (by decide)) rfl ?_
  refine OGo.dload (pc' := 66) C X23 d5_64 rfl rfl ?_
  refine OGo.ldc2Double (pc' := 69) C X23 (wd35 hw) d5_66 rfl ?_
  refine OGo.dload (pc' := 71) C X23 d5_69 rfl rfl ?_
  refine OGo.dmul (pc' := 72) (v := (FP.dmul (4611686018427387904 : UInt64) s0)) C X23 d5_71 rfl (own_mfin (own_g3 m_s0) (by decide)) rfl ?_
  refine OGo.dload (pc' := 74) C X23 d5_72 rfl rfl ?_
  refine OGo.dmul (pc' := 75) (v := (FP.dmul (FP.dmul (4611686018427387904 : UInt64) s0) (own_src c0 u0 u1))) C X23 d5_74 rfl (own_mfin (own_g4 m_s0 (own_src_mag m_u0 m_u1)) (by decide)) rfl ?_
  refine OGo.iloadN (pc' := 76) C X23 d5_75 rfl rfl ?_
  refine OGo.i2d (pc' := 77) (v := (FP.i2d k)) C X23 d5_76 rfl rfl ?_
  refine OGo.dload (pc' := 79) C X23 d5_77 rfl rfl ?_
  refine OGo.dmul (pc' := 80) (v := (FP.dmul (FP.i2d k) o0)) C X23 d5_79 rfl (own_mfin (own_g5 k m_o0) (by decide)) rfl ?_
  refine OGo.dadd (pc' := 81) (v := (FP.dadd (FP.dmul (FP.dmul (4611686018427387904 : UInt64) s0) (own_src c0 u0 u1)) (FP.dmul (FP.i2d k) o0))) C X23 d5_80 rfl (own_mfin (own_g6 k m_s0 m_o0 (own_src_mag m_u0 m_u1)) (by decide)) rfl ?_
  refine OGo.dmul (pc' := 82) (v := (FP.dmul o0 (FP.dadd (FP.dmul (FP.dmul (4611686018427387904 : UInt64) s0) (own_src c0 u0 u1)) (FP.dmul (FP.i2d k) o0)))) C X23 d5_81 rfl (own_mfin (own_g7 k m_s0 m_o0 (own_src_mag m_u0 m_u1)) (by decide)) rfl ?_
  refine OGo.dadd (pc' := 83) (v := (FP.dadd (FP.dmul (FP.dmul s0 s0) (own_src c0 w0 w1)) (FP.dmul o0 (FP.dadd (FP.dmul (FP.dmul (4611686018427387904 : UInt64) s0) (own_src c0 u0 u1)) (FP.dmul (FP.i2d k) o0))))) C X23 d5_82 rfl (own_mfin (own_g8 k m_s0 m_o0 (own_src_mag m_u0 m_u1) (own_src_mag m_w0 m_w1)) (by decide)) rfl ?_
  refine OGo.dastore (pc' := 84) C X23 V2 q2 (i := 0) d5_83 rfl ⟨by decide, by decide⟩ (by decide) (Nat.le_of_ble_eq_true rfl) (fun T24 h24 X24 W24 V24 => ?_)
  replace V24 : Arv Z h24 a2 k2 .double (2 : Int32) [(.double (FP.dadd (FP.dmul (FP.dmul s0 s0) (own_src c0 w0 w1)) (FP.dmul o0 (FP.dadd (FP.dmul (FP.dmul (4611686018427387904 : UInt64) s0) (own_src c0 u0 u1)) (FP.dmul (FP.i2d k) o0))))), (.double (0 : UInt64))] (.double (0 : UInt64)) := V24
  have K25 : Keep h0 h24 [] := K10.wr W24 (Or.inr sz9)
  refine OGo.iinc (pc' := 87) C X24 d5_84 rfl rfl (z := (1 : Int32)) (by decide) (l' := #[.val (.ref a1), .val (.int k), .val (.ref b), .val (.ref q), .val (.ref a2), .val (.int (1 : Int32)), .val (.double s0), .second, .val (.double o0), .second, .val (.double (own_src c0 u0 u1)), .second]) rfl ?_
  refine OGo.goto (pc' := 12) C X24 d5_87 (by decide) (by decide) ?_
  refine OGo.iload (pc' := 14) C X24 d5_12 rfl rfl ?_
  refine OGo.aload (pc' := 16) C X24 d5_14 rfl rfl rfl ?_
  refine OGo.arraylength (pc' := 17) C X24 V24 d5_16 rfl ?_
  refine OGo.icmpNo (pc' := 20) C X24 d5_17 rfl (tlt (by decide : (1 : Int32) < (2 : Int32))).2.1 ?_
  refine OGo.aloadN (pc' := 21) C X24 d5_20 rfl rfl rfl ?_
  have f26 := (f11.other W24 (Or.inl ne3))
  refine OGo.getfield (pc' := 24) C X24 (host := "") (Or.inl (wd22 hw)) Via.refl f26 d5_21 rfl (fun T27 X27 => ?_)
  refine OGo.iload (pc' := 26) C X27 d5_24 rfl rfl ?_
  have f28 := (f13.other W24 ne5)
  refine OGo.daload (pc' := 27) C X27 f28 d5_26 rfl ⟨by decide, by decide⟩ (v := s1) rfl ?_
  refine OGo.dstore (pc' := 29) C X27 d5_27 rfl (l' := #[.val (.ref a1), .val (.int k), .val (.ref b), .val (.ref q), .val (.ref a2), .val (.int (1 : Int32)), .val (.double s1), .second, .val (.double o0), .second, .val (.double (own_src c0 u0 u1)), .second]) rfl ?_
  refine OGo.aloadN (pc' := 30) C X27 d5_29 rfl rfl rfl ?_
  have f29 := (f14.other W24 (Or.inl ne3))
  refine OGo.getfield (pc' := 33) C X27 (host := "") (Or.inl (wd24 hw)) Via.refl f29 d5_30 rfl (fun T30 X30 => ?_)
  refine OGo.iload (pc' := 35) C X30 d5_33 rfl rfl ?_
  have f31 := (f16.other W24 ne6)
  refine OGo.daload (pc' := 36) C X30 f31 d5_35 rfl ⟨by decide, by decide⟩ (v := o1) rfl ?_
  refine OGo.dstore (pc' := 38) C X30 d5_36 rfl (l' := #[.val (.ref a1), .val (.int k), .val (.ref b), .val (.ref q), .val (.ref a2), .val (.int (1 : Int32)), .val (.double s1), .second, .val (.double o1), .second, .val (.double (own_src c0 u0 u1)), .second]) rfl ?_
  refine OGo.aloadN (pc' := 39) C X30 d5_38 rfl rfl rfl ?_
  refine OGo.aloadN (pc' := 40) C X30 d5_39 rfl rfl rfl ?_
  refine OGo.iload (pc' := 42) C X30 d5_40 rfl rfl ?_
  have f32 := (f17.other W24 (Or.inl ne3))
  have f33 := (f18.other W24 ne4)
  have f34 := (f19.other W24 ne7)
  have f36 := (f21.wr W24)
  refine OGo.callPriv (pc' := 45) (cells' := 1) (slots' := 2) (argsL := [(.ref b), (.int (1 : Int32))]) (St := []) C X30 (wd31 hw) (wd32 hw) (wd33 hw) (wd6 hw) (by decide) f36 (wd34 hw) (wd7 hw) (ctS1 hw X30.2.1 a1 r1 b ja kb c0 c1 u0 u1 f32 f33 f34 hc1) (lenOf pd2 rfl) rfl d5_42 rfl rfl (by decide) (Nat.le_of_ble_eq_true rfl) rfl rfl (by decide) (by decide) (fun v35 T35 h35 Q35 X35 z35 => ?_)
  obtain ⟨hv35, hh35⟩ := Q35
  subst hv35; rw [hh35] at X35
  show OGo p e below _ T35 (mkF m 45 #[.val (.ref a1), .val (.int k), .val (.ref b), .val (.ref q), .val (.ref a2), .val (.int (1 : Int32)), .val (.double s1), .second, .val (.double o1), .second, .val (.double (own_src c0 u0 u1)), .second] [(.double (own_src c1 u0 u1))])
  refine OGo.dstore (pc' := 47) C X35 d5_45 rfl (l' := #[.val (.ref a1), .val (.int k), .val (.ref b), .val (.ref q), .val (.ref a2), .val (.int (1 : Int32)), .val (.double s1), .second, .val (.double o1), .second, .val (.double (own_src c1 u0 u1)), .second]) rfl ?_
  refine OGo.aload (pc' := 49) C X35 d5_47 rfl rfl rfl ?_
  refine OGo.iload (pc' := 51) C X35 d5_49 rfl rfl ?_
  refine OGo.dload (pc' := 53) C X35 d5_51 rfl rfl ?_
  refine OGo.dload (pc' := 55) C X35 d5_53 rfl rfl ?_
  refine OGo.dmul (pc' := 56) (v := (FP.dmul s1 s1)) C X35 d5_55 rfl (own_mfin (own_g1 m_s1) (by decide)) rfl ?_
  refine OGo.aloadN (pc' := 57) C X35 d5_56 rfl rfl rfl ?_
  refine OGo.aloadN (pc' := 58) C X35 d5_57 rfl rfl rfl ?_
  refine OGo.iload (pc' := 60) C X35 d5_58 rfl rfl ?_
  have f37 := (f22.other W24 ne8)
  refine OGo.callPriv (pc' := 63) (cells' := 1) (slots' := 2) (argsL := [(.ref q), (.int (1 : Int32))]) (St := [(.double (FP.dmul s1 s1)), (.int (1 : Int32)), (.ref a2)]) C X35 (wd31 hw) (wd32 hw) (wd33 hw) (wd6 hw) (by decide) f36 (wd34 hw) (wd7 hw) (ctS1 hw X35.2.1 a1 r1 q ja kq c0 c1 w0 w1 f32 f33 f37 hc1) (lenOf pd2 rfl) rfl d5_60 rfl rfl (by decide) (Nat.le_of_ble_eq_true rfl) rfl rfl (by decide) (by decide) (fun v38 T38 h38 Q38 X38 z38 => ?_)
  obtain ⟨hv38, hh38⟩ := Q38
  subst hv38; rw [hh38] at X38
  show OGo p e below _ T38 (mkF m 63 #[.val (.ref a1), .val (.int k), .val (.ref b), .val (.ref q), .val (.ref a2), .val (.int (1 : Int32)), .val (.double s1), .second, .val (.double o1), .second, .val (.double (own_src c1 u0 u1)), .second] [(.double (own_src c1 w0 w1)), (.double (FP.dmul s1 s1)), (.int (1 : Int32)), (.ref a2)])
  refine OGo.dmul (pc' := 64) (v := (FP.dmul (FP.dmul s1 s1) (own_src c1 w0 w1))) C X38 d5_63 rfl (own_mfin (own_g2 m_s1 (own_src_mag m_w0 m_w1)) (by decide)) rfl ?_
  refine OGo.dload (pc' := 66) C X38 d5_64 rfl rfl ?_
  refine OGo.ldc2Double (pc' := 69) C X38 (wd35 hw) d5_66 rfl ?_
  refine OGo.dload (pc' := 71) C X38 d5_69 rfl rfl ?_
  refine OGo.dmul (pc' := 72) (v := (FP.dmul (4611686018427387904 : UInt64) s1)) C X38 d5_71 rfl (own_mfin (own_g3 m_s1) (by decide)) rfl ?_
  refine OGo.dload (pc' := 74) C X38 d5_72 rfl rfl ?_
  refine OGo.dmul (pc' := 75) (v := (FP.dmul (FP.dmul (4611686018427387904 : UInt64) s1) (own_src c1 u0 u1))) C X38 d5_74 rfl (own_mfin (own_g4 m_s1 (own_src_mag m_u0 m_u1)) (by decide)) rfl ?_
  refine OGo.iloadN (pc' := 76) C X38 d5_75 rfl rfl ?_
  refine OGo.i2d (pc' := 77) (v := (FP.i2d k)) C X38 d5_76 rfl rfl ?_
  refine OGo.dload (pc' := 79) C X38 d5_77 rfl rfl ?_
  refine OGo.dmul (pc' := 80) (v := (FP.dmul (FP.i2d k) o1)) C X38 d5_79 rfl (own_mfin (own_g5 k m_o1) (by decide)) rfl ?_
  refine OGo.dadd (pc' := 81) (v := (FP.dadd (FP.dmul (FP.dmul (4611686018427387904 : UInt64) s1) (own_src c1 u0 u1)) (FP.dmul (FP.i2d k) o1))) C X38 d5_80 rfl (own_mfin (own_g6 k m_s1 m_o1 (own_src_mag m_u0 m_u1)) (by decide)) rfl ?_
  refine OGo.dmul (pc' := 82) (v := (FP.dmul o1 (FP.dadd (FP.dmul (FP.dmul (4611686018427387904 : UInt64) s1) (own_src c1 u0 u1)) (FP.dmul (FP.i2d k) o1)))) C X38 d5_81 rfl (own_mfin (own_g7 k m_s1 m_o1 (own_src_mag m_u0 m_u1)) (by decide)) rfl ?_
  refine OGo.dadd (pc' := 83) (v := (FP.dadd (FP.dmul (FP.dmul s1 s1) (own_src c1 w0 w1)) (FP.dmul o1 (FP.dadd (FP.dmul (FP.dmul (4611686018427387904 : UInt64) s1) (own_src c1 u0 u1)) (FP.dmul (FP.i2d k) o1))))) C X38 d5_82 rfl (own_mfin (own_g8 k m_s1 m_o1 (own_src_mag m_u0 m_u1) (own_src_mag m_w0 m_w1)) (by decide)) rfl ?_
  refine OGo.dastore (pc' := 84) C X38 V24 q2 (i := 1) d5_83 rfl ⟨by decide, by decide⟩ (by decide) (Nat.le_of_ble_eq_true rfl) (fun T39 h39 X39 W39 V39 => ?_)
  replace V39 : Arv Z h39 a2 k2 .double (2 : Int32) [(.double (FP.dadd (FP.dmul (FP.dmul s0 s0) (own_src c0 w0 w1)) (FP.dmul o0 (FP.dadd (FP.dmul (FP.dmul (4611686018427387904 : UInt64) s0) (own_src c0 u0 u1)) (FP.dmul (FP.i2d k) o0))))), (.double (FP.dadd (FP.dmul (FP.dmul s1 s1) (own_src c1 w0 w1)) (FP.dmul o1 (FP.dadd (FP.dmul (FP.dmul (4611686018427387904 : UInt64) s1) (own_src c1 u0 u1)) (FP.dmul (FP.i2d k) o1)))))] (.double (0 : UInt64)) := V39
  have K40 : Keep h0 h39 [] := K25.wr W39 (Or.inr sz9)
  refine OGo.iinc (pc' := 87) C X39 d5_84 rfl rfl (z := (2 : Int32)) (by decide) (l' := #[.val (.ref a1), .val (.int k), .val (.ref b), .val (.ref q), .val (.ref a2), .val (.int (2 : Int32)), .val (.double s1), .second, .val (.double o1), .second, .val (.double (own_src c1 u0 u1)), .second]) rfl ?_
  refine OGo.goto (pc' := 12) C X39 d5_87 (by decide) (by decide) ?_
  refine OGo.iload (pc' := 14) C X39 d5_12 rfl rfl ?_
  refine OGo.aload (pc' := 16) C X39 d5_14 rfl rfl rfl ?_
  refine OGo.arraylength (pc' := 17) C X39 V39 d5_16 rfl ?_
  refine OGo.icmpYes (pc' := 90) C X39 d5_17 (flt (by decide : ¬ (2 : Int32) < (2 : Int32))).2.1 (by decide) (by decide) ?_
  refine OGo.aload (pc' := 92) C X39 d5_90 rfl rfl rfl ?_
  exact OGo.retA C X39 d5_92 hret rfl rfl hlk (⟨a2, k2, rfl, K40, V39⟩) (by decide) (by decide)
theorem ef0 (m : MethodId) (x0 : Int32) (x1 : Int32) (x2 : Int32) (x3 : Int32) (x4 : Int32) : entryFrame m #[(.int x0), (.int x1), (.int x2), (.int x3), (.int x4)] maxLocals = mkF m 0 #[.val (.int x0), .val (.int x1), .val (.int x2), .val (.int x3), .val (.int x4), .unset, .unset, .unset, .unset, .unset, .unset, .unset, .unset, .unset, .unset, .unset, .unset, .unset, .unset, .unset, .unset, .unset, .unset, .unset, .unset, .unset, .unset, .unset, .unset, .unset, .unset, .unset, .unset, .unset, .unset] [] := by first | (simp [entryFrame, mkF, argsToLocals, Value.category, maxLocals]; done) | rfl
set_option maxRecDepth 65536 in
set_option maxHeartbeats 40000000 in
theorem ct0 {l : Launch} {Z : State} {a0 : Array Value} (hw : HW a0 Z) {n0 : Nat} {h0 : Heap} (hn0 : n0 ≤ h0.size) (i0 : Int32) (i1 : Int32) (i2 : Int32) (i3 : Int32) (i4 : Int32)  :
    Ctr l Z x code maxLocals ret room_1 n0 #[(.int i0), (.int i1), (.int i2), (.int i3), (.int i4)] h0 (fun v h => v = some (.int 1)) := by
  refine Ctr.of (plainFor_of_name pn0) hn0 ?_
  intro p e s m below meth c T0 C hnm hret hlk X0
  rw [ef0 m i0 i1 i2 i3 i4]
  refine OGo.iload (pc' := 2) C X0 at_0 rfl rfl ?_
  refine OGo.iconst (pc' := 3) (z := (3 : Int32)) C X0 at_2 rfl (by decide) ?_
  obtain ⟨k, h_k⟩ : ∃ z : Int32, i4 &&& (3 : Int32) = z := ⟨_, rfl⟩
  refine OGo.iand (pc' := 4) (z := k) C X0 at_3 rfl h_k ?_
  refine OGo.istore (pc' := 6) C X0 at_4 rfl (l' := #[.val (.int i0), .val (.int i1), .val (.int i2), .val (.int i3), .val (.int i4), .val (.int k), .unset, .unset, .unset, .unset, .unset, .unset, .unset, .unset, .unset, .unset, .unset, .unset, .unset, .unset, .unset, .unset, .unset, .unset, .unset, .unset, .unset, .unset, .unset, .unset, .unset, .unset, .unset, .unset, .unset]) rfl ?_
  refine OGo.iload (pc' := 8) C X0 at_6 rfl rfl ?_
  refine OGo.iconst (pc' := 9) (z := (2 : Int32)) C X0 at_8 rfl (by decide) ?_
  refine OGo.iushr (pc' := 10) (z := ((i4.toUInt32 >>> ((2 : Int32) &&& 31).toUInt32).toInt32)) C X0 at_9 rfl rfl ?_
  refine OGo.iconst (pc' := 11) (z := (3 : Int32)) C X0 at_10 rfl (by decide) ?_
  obtain ⟨ca, h_ca⟩ : ∃ z : Int32, ((i4.toUInt32 >>> ((2 : Int32) &&& 31).toUInt32).toInt32) &&& (3 : Int32) = z := ⟨_, rfl⟩
  refine OGo.iand (pc' := 12) (z := ca) C X0 at_11 rfl h_ca ?_
  refine OGo.iconst (pc' := 13) (z := (3 : Int32)) C X0 at_12 rfl (by decide) ?_
  refine OGo.irem (pc' := 14) (z := (ca % (3 : Int32))) C X0 at_13 rfl (by decide) rfl ?_
  refine OGo.iconst (pc' := 15) (z := (1 : Int32)) C X0 at_14 rfl (by decide) ?_
  obtain ⟨c0, h_c0⟩ : ∃ z : Int32, (ca % (3 : Int32)) - (1 : Int32) = z := ⟨_, rfl⟩
  refine OGo.isub (pc' := 16) (z := c0) C X0 at_15 rfl h_c0 ?_
  refine OGo.istore (pc' := 18) C X0 at_16 rfl (l' := #[.val (.int i0), .val (.int i1), .val (.int i2), .val (.int i3), .val (.int i4), .val (.int k), .val (.int c0), .unset, .unset, .unset, .unset, .unset, .unset, .unset, .unset, .unset, .unset, .unset, .unset, .unset, .unset, .unset, .unset, .unset, .unset, .unset, .unset, .unset, .unset, .unset, .unset, .unset, .unset, .unset, .unset]) rfl ?_
  refine OGo.iload (pc' := 20) C X0 at_18 rfl rfl ?_
  refine OGo.iconst (pc' := 21) (z := (4 : Int32)) C X0 at_20 rfl (by decide) ?_
  refine OGo.iushr (pc' := 22) (z := ((i4.toUInt32 >>> ((4 : Int32) &&& 31).toUInt32).toInt32)) C X0 at_21 rfl rfl ?_
  refine OGo.iconst (pc' := 23) (z := (3 : Int32)) C X0 at_22 rfl (by decide) ?_
  obtain ⟨cb, h_cb⟩ : ∃ z : Int32, ((i4.toUInt32 >>> ((4 : Int32) &&& 31).toUInt32).toInt32) &&& (3 : Int32) = z := ⟨_, rfl⟩
  refine OGo.iand (pc' := 24) (z := cb) C X0 at_23 rfl h_cb ?_
  refine OGo.iconst (pc' := 25) (z := (3 : Int32)) C X0 at_24 rfl (by decide) ?_
  refine OGo.irem (pc' := 26) (z := (cb % (3 : Int32))) C X0 at_25 rfl (by decide) rfl ?_
  refine OGo.iconst (pc' := 27) (z := (1 : Int32)) C X0 at_26 rfl (by decide) ?_
  obtain ⟨c1, h_c1⟩ : ∃ z : Int32, (cb % (3 : Int32)) - (1 : Int32) = z := ⟨_, rfl⟩
  refine OGo.isub (pc' := 28) (z := c1) C X0 at_27 rfl h_c1 ?_
  refine OGo.istore (pc' := 30) C X0 at_28 rfl (l' := #[.val (.int i0), .val (.int i1), .val (.int i2), .val (.int i3), .val (.int i4), .val (.int k), .val (.int c0), .val (.int c1), .unset, .unset, .unset, .unset, .unset, .unset, .unset, .unset, .unset, .unset, .unset, .unset, .unset, .unset, .unset, .unset, .unset, .unset, .unset, .unset, .unset, .unset, .unset, .unset, .unset, .unset, .unset]) rfl ?_
  refine OGo.iloadN (pc' := 31) C X0 at_30 rfl rfl ?_
  refine OGo.i2b (pc' := 32) (z := (i0.toInt8.toInt32)) C X0 at_31 rfl rfl ?_
  obtain ⟨x0, h_x0⟩ : ∃ z : Int64, (i0.toInt8.toInt32).toInt64 = z := ⟨_, rfl⟩
  refine OGo.i2l (pc' := 33) (z := x0) C X0 at_32 rfl h_x0 ?_
  refine OGo.lstore (pc' := 35) C X0 at_33 rfl (l' := #[.val (.int i0), .val (.int i1), .val (.int i2), .val (.int i3), .val (.int i4), .val (.int k), .val (.int c0), .val (.int c1), .val (.long x0), .second, .unset, .unset, .unset, .unset, .unset, .unset, .unset, .unset, .unset, .unset, .unset, .unset, .unset, .unset, .unset, .unset, .unset, .unset, .unset, .unset, .unset, .unset, .unset, .unset, .unset]) rfl ?_
  refine OGo.iloadN (pc' := 36) C X0 at_35 rfl rfl ?_
  refine OGo.bipush (pc' := 38) (z := (8 : Int32)) C X0 at_36 rfl (by decide) ?_
  refine OGo.ishr (pc' := 39) (z := (i0 >>> ((8 : Int32) &&& 31))) C X0 at_38 rfl rfl ?_
  refine OGo.i2b (pc' := 40) (z := ((i0 >>> ((8 : Int32) &&& 31)).toInt8.toInt32)) C X0 at_39 rfl rfl ?_
  obtain ⟨x1, h_x1⟩ : ∃ z : Int64, ((i0 >>> ((8 : Int32) &&& 31)).toInt8.toInt32).toInt64 = z := ⟨_, rfl⟩
  refine OGo.i2l (pc' := 41) (z := x1) C X0 at_40 rfl h_x1 ?_
  refine OGo.lstore (pc' := 43) C X0 at_41 rfl (l' := #[.val (.int i0), .val (.int i1), .val (.int i2), .val (.int i3), .val (.int i4), .val (.int k), .val (.int c0), .val (.int c1), .val (.long x0), .second, .val (.long x1), .second, .unset, .unset, .unset, .unset, .unset, .unset, .unset, .unset, .unset, .unset, .unset, .unset, .unset, .unset, .unset, .unset, .unset, .unset, .unset, .unset, .unset, .unset, .unset]) rfl ?_
  refine OGo.iloadN (pc' := 44) C X0 at_43 rfl rfl ?_
  refine OGo.bipush (pc' := 46) (z := (16 : Int32)) C X0 at_44 rfl (by decide) ?_
  refine OGo.ishr (pc' := 47) (z := (i0 >>> ((16 : Int32) &&& 31))) C X0 at_46 rfl rfl ?_
  refine OGo.i2b (pc' := 48) (z := ((i0 >>> ((16 : Int32) &&& 31)).toInt8.toInt32)) C X0 at_47 rfl rfl ?_
  obtain ⟨x2, h_x2⟩ : ∃ z : Int64, ((i0 >>> ((16 : Int32) &&& 31)).toInt8.toInt32).toInt64 = z := ⟨_, rfl⟩
  refine OGo.i2l (pc' := 49) (z := x2) C X0 at_48 rfl h_x2 ?_
  refine OGo.lstore (pc' := 51) C X0 at_49 rfl (l' := #[.val (.int i0), .val (.int i1), .val (.int i2), .val (.int i3), .val (.int i4), .val (.int k), .val (.int c0), .val (.int c1), .val (.long x0), .second, .val (.long x1), .second, .val (.long x2), .second, .unset, .unset, .unset, .unset, .unset, .unset, .unset, .unset, .unset, .unset, .unset, .unset, .unset, .unset, .unset, .unset, .unset, .unset, .unset, .unset, .unset]) rfl ?_
  refine OGo.iloadN (pc' := 52) C X0 at_51 rfl rfl ?_
  refine OGo.i2b (pc' := 53) (z := (i1.toInt8.toInt32)) C X0 at_52 rfl rfl ?_
  obtain ⟨y0, h_y0⟩ : ∃ z : Int64, (i1.toInt8.toInt32).toInt64 = z := ⟨_, rfl⟩
  refine OGo.i2l (pc' := 54) (z := y0) C X0 at_53 rfl h_y0 ?_
  refine OGo.lstore (pc' := 56) C X0 at_54 rfl (l' := #[.val (.int i0), .val (.int i1), .val (.int i2), .val (.int i3), .val (.int i4), .val (.int k), .val (.int c0), .val (.int c1), .val (.long x0), .second, .val (.long x1), .second, .val (.long x2), .second, .val (.long y0), .second, .unset, .unset, .unset, .unset, .unset, .unset, .unset, .unset, .unset, .unset, .unset, .unset, .unset, .unset, .unset, .unset, .unset, .unset, .unset]) rfl ?_
  refine OGo.iloadN (pc' := 57) C X0 at_56 rfl rfl ?_
  refine OGo.bipush (pc' := 59) (z := (8 : Int32)) C X0 at_57 rfl (by decide) ?_
  refine OGo.ishr (pc' := 60) (z := (i1 >>> ((8 : Int32) &&& 31))) C X0 at_59 rfl rfl ?_
  refine OGo.i2b (pc' := 61) (z := ((i1 >>> ((8 : Int32) &&& 31)).toInt8.toInt32)) C X0 at_60 rfl rfl ?_
  obtain ⟨y1, h_y1⟩ : ∃ z : Int64, ((i1 >>> ((8 : Int32) &&& 31)).toInt8.toInt32).toInt64 = z := ⟨_, rfl⟩
  refine OGo.i2l (pc' := 62) (z := y1) C X0 at_61 rfl h_y1 ?_
  refine OGo.lstore (pc' := 64) C X0 at_62 rfl (l' := #[.val (.int i0), .val (.int i1), .val (.int i2), .val (.int i3), .val (.int i4), .val (.int k), .val (.int c0), .val (.int c1), .val (.long x0), .second, .val (.long x1), .second, .val (.long x2), .second, .val (.long y0), .second, .val (.long y1), .second, .unset, .unset, .unset, .unset, .unset, .unset, .unset, .unset, .unset, .unset, .unset, .unset, .unset, .unset, .unset, .unset, .unset]) rfl ?_
  refine OGo.iloadN (pc' := 65) C X0 at_64 rfl rfl ?_
  refine OGo.bipush (pc' := 67) (z := (16 : Int32)) C X0 at_65 rfl (by decide) ?_
  refine OGo.ishr (pc' := 68) (z := (i1 >>> ((16 : Int32) &&& 31))) C X0 at_67 rfl rfl ?_
  refine OGo.i2b (pc' := 69) (z := ((i1 >>> ((16 : Int32) &&& 31)).toInt8.toInt32)) C X0 at_68 rfl rfl ?_
  obtain ⟨y2, h_y2⟩ : ∃ z : Int64, ((i1 >>> ((16 : Int32) &&& 31)).toInt8.toInt32).toInt64 = z := ⟨_, rfl⟩
  refine OGo.i2l (pc' := 70) (z := y2) C X0 at_69 rfl h_y2 ?_
  refine OGo.lstore (pc' := 72) C X0 at_70 rfl (l' := #[.val (.int i0), .val (.int i1), .val (.int i2), .val (.int i3), .val (.int i4), .val (.int k), .val (.int c0), .val (.int c1), .val (.long x0), .second, .val (.long x1), .second, .val (.long x2), .second, .val (.long y0), .second, .val (.long y1), .second, .val (.long y2), .second, .unset, .unset, .unset, .unset, .unset, .unset, .unset, .unset, .unset, .unset, .unset, .unset, .unset, .unset, .unset]) rfl ?_
  refine OGo.iloadN (pc' := 73) C X0 at_72 rfl rfl ?_
  refine OGo.i2s (pc' := 74) (z := (i2.toInt16.toInt32)) C X0 at_73 rfl rfl ?_
  obtain ⟨s0, h_s0⟩ : ∃ z : Int64, (i2.toInt16.toInt32).toInt64 = z := ⟨_, rfl⟩
  refine OGo.i2l (pc' := 75) (z := s0) C X0 at_74 rfl h_s0 ?_
  refine OGo.lstore (pc' := 77) C X0 at_75 rfl (l' := #[.val (.int i0), .val (.int i1), .val (.int i2), .val (.int i3), .val (.int i4), .val (.int k), .val (.int c0), .val (.int c1), .val (.long x0), .second, .val (.long x1), .second, .val (.long x2), .second, .val (.long y0), .second, .val (.long y1), .second, .val (.long y2), .second, .val (.long s0), .second, .unset, .unset, .unset, .unset, .unset, .unset, .unset, .unset, .unset, .unset, .unset, .unset, .unset]) rfl ?_
  refine OGo.iloadN (pc' := 78) C X0 at_77 rfl rfl ?_
  refine OGo.bipush (pc' := 80) (z := (16 : Int32)) C X0 at_78 rfl (by decide) ?_
  refine OGo.ishr (pc' := 81) (z := (i2 >>> ((16 : Int32) &&& 31))) C X0 at_80 rfl rfl ?_
  refine OGo.i2s (pc' := 82) (z := ((i2 >>> ((16 : Int32) &&& 31)).toInt16.toInt32)) C X0 at_81 rfl rfl ?_
  obtain ⟨s1, h_s1⟩ : ∃ z : Int64, ((i2 >>> ((16 : Int32) &&& 31)).toInt16.toInt32).toInt64 = z := ⟨_, rfl⟩
  refine OGo.i2l (pc' := 83) (z := s1) C X0 at_82 rfl h_s1 ?_
  refine OGo.lstore (pc' := 85) C X0 at_83 rfl (l' := #[.val (.int i0), .val (.int i1), .val (.int i2), .val (.int i3), .val (.int i4), .val (.int k), .val (.int c0), .val (.int c1), .val (.long x0), .second, .val (.long x1), .second, .val (.long x2), .second, .val (.long y0), .second, .val (.long y1), .second, .val (.long y2), .second, .val (.long s0), .second, .val (.long s1), .second, .unset, .unset, .unset, .unset, .unset, .unset, .unset, .unset, .unset, .unset, .unset]) rfl ?_
  refine OGo.iloadN (pc' := 86) C X0 at_85 rfl rfl ?_
  refine OGo.i2s (pc' := 87) (z := (i3.toInt16.toInt32)) C X0 at_86 rfl rfl ?_
  obtain ⟨o0, h_o0⟩ : ∃ z : Int64, (i3.toInt16.toInt32).toInt64 = z := ⟨_, rfl⟩
  refine OGo.i2l (pc' := 88) (z := o0) C X0 at_87 rfl h_o0 ?_
  refine OGo.lstore (pc' := 90) C X0 at_88 rfl (l' := #[.val (.int i0), .val (.int i1), .val (.int i2), .val (.int i3), .val (.int i4), .val (.int k), .val (.int c0), .val (.int c1), .val (.long x0), .second, .val (.long x1), .second, .val (.long x2), .second, .val (.long y0), .second, .val (.long y1), .second, .val (.long y2), .second, .val (.long s0), .second, .val (.long s1), .second, .val (.long o0), .second, .unset, .unset, .unset, .unset, .unset, .unset, .unset, .unset, .unset]) rfl ?_
  refine OGo.iloadN (pc' := 91) C X0 at_90 rfl rfl ?_
  refine OGo.bipush (pc' := 93) (z := (16 : Int32)) C X0 at_91 rfl (by decide) ?_
  refine OGo.ishr (pc' := 94) (z := (i3 >>> ((16 : Int32) &&& 31))) C X0 at_93 rfl rfl ?_
  refine OGo.i2s (pc' := 95) (z := ((i3 >>> ((16 : Int32) &&& 31)).toInt16.toInt32)) C X0 at_94 rfl rfl ?_
  obtain ⟨o1, h_o1⟩ : ∃ z : Int64, ((i3 >>> ((16 : Int32) &&& 31)).toInt16.toInt32).toInt64 = z := ⟨_, rfl⟩
  refine OGo.i2l (pc' := 96) (z := o1) C X0 at_95 rfl h_o1 ?_
  refine OGo.lstore (pc' := 98) C X0 at_96 rfl (l' := #[.val (.int i0), .val (.int i1), .val (.int i2), .val (.int i3), .val (.int i4), .val (.int k), .val (.int c0), .val (.int c1), .val (.long x0), .second, .val (.long x1), .second, .val (.long x2), .second, .val (.long y0), .second, .val (.long y1), .second, .val (.long y2), .second, .val (.long s0), .second, .val (.long s1), .second, .val (.long o0), .second, .val (.long o1), .second, .unset, .unset, .unset, .unset, .unset, .unset, .unset]) rfl ?_
  have hk4 := own_k4 h_k
  have hs2a := own_s2 h_c0 (by rw [← h_ca]; exact (c_and _ 3 (by decide)).1)
  have hs2b := own_s2 h_c1 (by rw [← h_cb]; exact (c_and _ 3 (by decide)).1)
  have ba0 : x0.toInt.natAbs ≤ 128 := by rw [← h_x0]; exact own_byte _
  have ba1 : x1.toInt.natAbs ≤ 128 := by rw [← h_x1]; exact own_byte _
  have ba2 : x2.toInt.natAbs ≤ 128 := by rw [← h_x2]; exact own_byte _
  have bb0 : y0.toInt.natAbs ≤ 128 := by rw [← h_y0]; exact own_byte _
  have bb1 : y1.toInt.natAbs ≤ 128 := by rw [← h_y1]; exact own_byte _
  have bb2 : y2.toInt.natAbs ≤ 128 := by rw [← h_y2]; exact own_byte _
  have bs0 : s0.toInt.natAbs ≤ 32768 := by rw [← h_s0]; exact own_short _
  have bs1 : s1.toInt.natAbs ≤ 32768 := by rw [← h_s1]; exact own_short _
  have bo0 : o0.toInt.natAbs ≤ 32768 := by rw [← h_o0]; exact own_short _
  have bo1 : o1.toInt.natAbs ≤ 32768 := by rw [← h_o1]; exact own_short _
  have join : OGo p e below (Kk s below n0 (fun v h => v = some (.int 1)) room_1.cells room_1.slots) T0 (mkF m 136 #[.val (.int i0), .val (.int i1), .val (.int i2), .val (.int i3), .val (.int i4), .val (.int k), .val (.int c0), .val (.int c1), .val (.long x0), .second, .val (.long x1), .second, .val (.long x2), .second, .val (.long y0), .second, .val (.long y1), .second, .val (.long y2), .second, .val (.long s0), .second, .val (.long s1), .second, .val (.long o0), .second, .val (.long o1), .second, .val (.int (own_bit 0 k)), .val (.int (own_bit 1 k)), .val (.int (own_bit 2 k)), .unset, .unset, .unset, .unset] []) := by
    refine OGo.iconst (pc' := 137) (z := (2 : Int32)) C X0 at_136 rfl (by decide) ?_
    refine OGo.newarray (pc' := 139) (cap := 2) (d0 := (.double (0 : UInt64))) (cells' := 1) (slots' := 2) C X0 (wd0 hw) rfl at_137 rfl (by decide) (by decide) (by decide) rfl rfl rfl (by decide) (by decide) (fun T1 h1 a1 k1 X1 g1 q1 E1 V1 => ?_)
    replace V1 : Arv Z h1 a1 k1 .double (2 : Int32) [(.double (0 : UInt64)), (.double (0 : UInt64))] (.double (0 : UInt64)) := V1.pad (pad_rep [] (.double (0 : UInt64)) 2)
    refine OGo.dup (pc' := 140) C X1 at_139 rfl rfl ?_
    refine OGo.iconst (pc' := 141) (z := (0 : Int32)) C X1 at_140 rfl (by decide) ?_
    refine OGo.iload (pc' := 143) C X1 at_141 rfl rfl ?_
    refine OGo.lload (pc' := 145) C X1 at_143 rfl rfl ?_
    refine OGo.callS (pc' := 148) (cells' := 1) (slots' := 2) (argsL := [(.int (own_bit 0 k)), (.long x0)]) (St := [(.int (0 : Int32)), (.ref a1), (.ref a1)]) C X1 (wd1 hw) (wd2 hw) (by decide) (wd4 hw) (wd3 hw) (ct1 hw X1.2.1 (own_bit 0 k) x0) (lenOf pd3 rfl) rfl at_145 rfl rfl (by decide) (Nat.le_of_ble_eq_true rfl) rfl rfl (by decide) (by decide) (fun v2 T2 h2 Q2 X2 z2 => ?_)
    obtain ⟨hv2, hh2⟩ := Q2
    subst hv2; rw [hh2] at X2
    show OGo p e below _ T2 (mkF m 148 #[.val (.int i0), .val (.int i1), .val (.int i2), .val (.int i3), .val (.int i4), .val (.int k), .val (.int c0), .val (.int c1), .val (.long x0), .second, .val (.long x1), .second, .val (.long x2), .second, .val (.long y0), .second, .val (.long y1), .second, .val (.long y2), .second, .val (.long s0), .second, .val (.long s1), .second, .val (.long o0), .second, .val (.long o1), .second, .val (.int (own_bit 0 k)), .val (.int (own_bit 1 k)), .val (.int (own_bit 2 k)), .unset, .unset, .unset, .unset] [(.long (own_part (own_bit 0 k) x0)), (.int (0 : Int32)), (.ref a1), (.ref a1)])
    refine OGo.iload (pc' := 150) C X2 at_148 rfl rfl ?_
    refine OGo.lload (pc' := 152) C X2 at_150 rfl rfl ?_
    refine OGo.callS (pc' := 155) (cells' := 1) (slots' := 2) (argsL := [(.int (own_bit 1 k)), (.long x1)]) (St := [(.long (own_part (own_bit 0 k) x0)), (.int (0 : Int32)), (.ref a1), (.ref a1)]) C X2 (wd1 hw) (wd2 hw) (by decide) (wd4 hw) (wd3 hw) (ct1 hw X2.2.1 (own_bit 1 k) x1) (lenOf pd3 rfl) rfl at_152 rfl rfl (by decide) (Nat.le_of_ble_eq_true rfl) rfl rfl (by decide) (by decide) (fun v3 T3 h3 Q3 X3 z3 => ?_)
    obtain ⟨hv3, hh3⟩ := Q3
    subst hv3; rw [hh3] at X3
    show OGo p e below _ T3 (mkF m 155 #[.val (.int i0), .val (.int i1), .val (.int i2), .val (.int i3), .val (.int i4), .val (.int k), .val (.int c0), .val (.int c1), .val (.long x0), .second, .val (.long x1), .second, .val (.long x2), .second, .val (.long y0), .second, .val (.long y1), .second, .val (.long y2), .second, .val (.long s0), .second, .val (.long s1), .second, .val (.long o0), .second, .val (.long o1), .second, .val (.int (own_bit 0 k)), .val (.int (own_bit 1 k)), .val (.int (own_bit 2 k)), .unset, .unset, .unset, .unset] [(.long (own_part (own_bit 1 k) x1)), (.long (own_part (own_bit 0 k) x0)), (.int (0 : Int32)), (.ref a1), (.ref a1)])
    refine OGo.ladd (pc' := 156) (z := ((own_part (own_bit 0 k) x0) + (own_part (own_bit 1 k) x1))) C X3 at_155 rfl rfl ?_
    refine OGo.iload (pc' := 158) C X3 at_156 rfl rfl ?_
    refine OGo.lload (pc' := 160) C X3 at_158 rfl rfl ?_
    refine OGo.callS (pc' := 163) (cells' := 1) (slots' := 2) (argsL := [(.int (own_bit 2 k)), (.long x2)]) (St := [(.long ((own_part (own_bit 0 k) x0) + (own_part (own_bit 1 k) x1))), (.int (0 : Int32)), (.ref a1), (.ref a1)]) C X3 (wd1 hw) (wd2 hw) (by decide) (wd4 hw) (wd3 hw) (ct1 hw X3.2.1 (own_bit 2 k) x2) (lenOf pd3 rfl) rfl at_160 rfl rfl (by decide) (Nat.le_of_ble_eq_true rfl) rfl rfl (by decide) (by decide) (fun v4 T4 h4 Q4 X4 z4 => ?_)
    obtain ⟨hv4, hh4⟩ := Q4
    subst hv4; rw [hh4] at X4
    show OGo p e below _ T4 (mkF m 163 #[.val (.int i0), .val (.int i1), .val (.int i2), .val (.int i3), .val (.int i4), .val (.int k), .val (.int c0), .val (.int c1), .val (.long x0), .second, .val (.long x1), .second, .val (.long x2), .second, .val (.long y0), .second, .val (.long y1), .second, .val (.long y2), .second, .val (.long s0), .second, .val (.long s1), .second, .val (.long o0), .second, .val (.long o1), .second, .val (.int (own_bit 0 k)), .val (.int (own_bit 1 k)), .val (.int (own_bit 2 k)), .unset, .unset, .unset, .unset] [(.long (own_part (own_bit 2 k) x2)), (.long ((own_part (own_bit 0 k) x0) + (own_part (own_bit 1 k) x1))), (.int (0 : Int32)), (.ref a1), (.ref a1)])
    refine OGo.ladd (pc' := 164) (z := (((own_part (own_bit 0 k) x0) + (own_part (own_bit 1 k) x1)) + (own_part (own_bit 2 k) x2))) C X4 at_163 rfl rfl ?_
    refine OGo.l2d (pc' := 165) (v := (FP.l2d (((own_part (own_bit 0 k) x0) + (own_part (own_bit 1 k) x1)) + (own_part (own_bit 2 k) x2)))) C X4 at_164 rfl rfl ?_
    refine OGo.dastore (pc' := 166) C X4 V1 q1 (i := 0) at_165 rfl ⟨by decide, by decide⟩ (by decide) (Nat.le_of_ble_eq_true rfl) (fun T5 h5 X5 W5 V5 => ?_)
    replace V5 : Arv Z h5 a1 k1 .double (2 : Int32) [(.double (FP.l2d (((own_part (own_bit 0 k) x0) + (own_part (own_bit 1 k) x1)) + (own_part (own_bit 2 k) x2)))), (.double (0 : UInt64))] (.double (0 : UInt64)) := V5
    refine OGo.dup (pc' := 167) C X5 at_166 rfl rfl ?_
    refine OGo.iconst (pc' := 168) (z := (1 : Int32)) C X5 at_167 rfl (by decide) ?_
    refine OGo.iload (pc' := 170) C X5 at_168 rfl rfl ?_
    refine OGo.lload (pc' := 172) C X5 at_170 rfl rfl ?_
    refine OGo.callS (pc' := 175) (cells' := 1) (slots' := 2) (argsL := [(.int (own_bit 0 k)), (.long y0)]) (St := [(.int (1 : Int32)), (.ref a1), (.ref a1)]) C X5 (wd1 hw) (wd2 hw) (by decide) (wd4 hw) (wd3 hw) (ct1 hw X5.2.1 (own_bit 0 k) y0) (lenOf pd3 rfl) rfl at_172 rfl rfl (by decide) (Nat.le_of_ble_eq_true rfl) rfl rfl (by decide) (by decide) (fun v6 T6 h6 Q6 X6 z6 => ?_)
    obtain ⟨hv6, hh6⟩ := Q6
    subst hv6; rw [hh6] at X6
    show OGo p e below _ T6 (mkF m 175 #[.val (.int i0), .val (.int i1), .val (.int i2), .val (.int i3), .val (.int i4), .val (.int k), .val (.int c0), .val (.int c1), .val (.long x0), .second, .val (.long x1), .second, .val (.long x2), .second, .val (.long y0), .second, .val (.long y1), .second, .val (.long y2), .second, .val (.long s0), .second, .val (.long s1), .second, .val (.long o0), .second, .val (.long o1), .second, .val (.int (own_bit 0 k)), .val (.int (own_bit 1 k)), .val (.int (own_bit 2 k)), .unset, .unset, .unset, .unset] [(.long (own_part (own_bit 0 k) y0)), (.int (1 : Int32)), (.ref a1), (.ref a1)])
    refine OGo.iload (pc' := 177) C X6 at_175 rfl rfl ?_
    refine OGo.lload (pc' := 179) C X6 at_177 rfl rfl ?_
    refine OGo.callS (pc' := 182) (cells' := 1) (slots' := 2) (argsL := [(.int (own_bit 1 k)), (.long y1)]) (St := [(.long (own_part (own_bit 0 k) y0)), (.int (1 : Int32)), (.ref a1), (.ref a1)]) C X6 (wd1 hw) (wd2 hw) (by decide) (wd4 hw) (wd3 hw) (ct1 hw X6.2.1 (own_bit 1 k) y1) (lenOf pd3 rfl) rfl at_179 rfl rfl (by decide) (Nat.le_of_ble_eq_true rfl) rfl rfl (by decide) (by decide) (fun v7 T7 h7 Q7 X7 z7 => ?_)
    obtain ⟨hv7, hh7⟩ := Q7
    subst hv7; rw [hh7] at X7
    show OGo p e below _ T7 (mkF m 182 #[.val (.int i0), .val (.int i1), .val (.int i2), .val (.int i3), .val (.int i4), .val (.int k), .val (.int c0), .val (.int c1), .val (.long x0), .second, .val (.long x1), .second, .val (.long x2), .second, .val (.long y0), .second, .val (.long y1), .second, .val (.long y2), .second, .val (.long s0), .second, .val (.long s1), .second, .val (.long o0), .second, .val (.long o1), .second, .val (.int (own_bit 0 k)), .val (.int (own_bit 1 k)), .val (.int (own_bit 2 k)), .unset, .unset, .unset, .unset] [(.long (own_part (own_bit 1 k) y1)), (.long (own_part (own_bit 0 k) y0)), (.int (1 : Int32)), (.ref a1), (.ref a1)])
    refine OGo.ladd (pc' := 183) (z := ((own_part (own_bit 0 k) y0) + (own_part (own_bit 1 k) y1))) C X7 at_182 rfl rfl ?_
    refine OGo.iload (pc' := 185) C X7 at_183 rfl rfl ?_
    refine OGo.lload (pc' := 187) C X7 at_185 rfl rfl ?_
    refine OGo.callS (pc' := 190) (cells' := 1) (slots' := 2) (argsL := [(.int (own_bit 2 k)), (.long y2)]) (St := [(.long ((own_part (own_bit 0 k) y0) + (own_part (own_bit 1 k) y1))), (.int (1 : Int32)), (.ref a1), (.ref a1)]) C X7 (wd1 hw) (wd2 hw) (by decide) (wd4 hw) (wd3 hw) (ct1 hw X7.2.1 (own_bit 2 k) y2) (lenOf pd3 rfl) rfl at_187 rfl rfl (by decide) (Nat.le_of_ble_eq_true rfl) rfl rfl (by decide) (by decide) (fun v8 T8 h8 Q8 X8 z8 => ?_)
    obtain ⟨hv8, hh8⟩ := Q8
    subst hv8; rw [hh8] at X8
    show OGo p e below _ T8 (mkF m 190 #[.val (.int i0), .val (.int i1), .val (.int i2), .val (.int i3), .val (.int i4), .val (.int k), .val (.int c0), .val (.int c1), .val (.long x0), .second, .val (.long x1), .second, .val (.long x2), .second, .val (.long y0), .second, .val (.long y1), .second, .val (.long y2), .second, .val (.long s0), .second, .val (.long s1), .second, .val (.long o0), .second, .val (.long o1), .second, .val (.int (own_bit 0 k)), .val (.int (own_bit 1 k)), .val (.int (own_bit 2 k)), .unset, .unset, .unset, .unset] [(.long (own_part (own_bit 2 k) y2)), (.long ((own_part (own_bit 0 k) y0) + (own_part (own_bit 1 k) y1))), (.int (1 : Int32)), (.ref a1), (.ref a1)])
    refine OGo.ladd (pc' := 191) (z := (((own_part (own_bit 0 k) y0) + (own_part (own_bit 1 k) y1)) + (own_part (own_bit 2 k) y2))) C X8 at_190 rfl rfl ?_
    refine OGo.l2d (pc' := 192) (v := (FP.l2d (((own_part (own_bit 0 k) y0) + (own_part (own_bit 1 k) y1)) + (own_part (own_bit 2 k) y2)))) C X8 at_191 rfl rfl ?_
    refine OGo.dastore (pc' := 193) C X8 V5 q1 (i := 1) at_192 rfl ⟨by decide, by decide⟩ (by decide) (Nat.le_of_ble_eq_true rfl) (fun T9 h9 X9 W9 V9 => ?_)
    replace V9 : Arv Z h9 a1 k1 .double (2 : Int32) [(.double (FP.l2d (((own_part (own_bit 0 k) x0) + (own_part (own_bit 1 k) x1)) + (own_part (own_bit 2 k) x2)))), (.double (FP.l2d (((own_part (own_bit 0 k) y0) + (own_part (own_bit 1 k) y1)) + (own_part (own_bit 2 k) y2))))] (.double (0 : UInt64)) := V9
    refine OGo.astore (pc' := 195) C X9 at_193 rfl rfl (l' := #[.val (.int i0), .val (.int i1), .val (.int i2), .val (.int i3), .val (.int i4), .val (.int k), .val (.int c0), .val (.int c1), .val (.long x0), .second, .val (.long x1), .second, .val (.long x2), .second, .val (.long y0), .second, .val (.long y1), .second, .val (.long y2), .second, .val (.long s0), .second, .val (.long s1), .second, .val (.long o0), .second, .val (.long o1), .second, .val (.int (own_bit 0 k)), .val (.int (own_bit 1 k)), .val (.int (own_bit 2 k)), .val (.ref a1), .unset, .unset, .unset]) rfl ?_
    refine OGo.iconst (pc' := 196) (z := (2 : Int32)) C X9 at_195 rfl (by decide) ?_
    refine OGo.newarray (pc' := 198) (cap := 2) (d0 := (.double (0 : UInt64))) (cells' := 2) (slots' := 4) C X9 (wd0 hw) rfl at_196 rfl (by decide) (by decide) (by decide) rfl rfl rfl (by decide) (by decide) (fun T10 h10 a10 k10 X10 g10 q10 E10 V10 => ?_)
    have ne11 : a1 ≠ a10 := Nat.ne_of_lt (Nat.lt_of_lt_of_eq V9.lt g10.symm)
    replace V10 : Arv Z h10 a10 k10 .double (2 : Int32) [(.double (0 : UInt64)), (.double (0 : UInt64))] (.double (0 : UInt64)) := V10.pad (pad_rep [] (.double (0 : UInt64)) 2)
    refine OGo.dup (pc' := 199) C X10 at_198 rfl rfl ?_
    refine OGo.iconst (pc' := 200) (z := (0 : Int32)) C X10 at_199 rfl (by decide) ?_
    refine OGo.iload (pc' := 202) C X10 at_200 rfl rfl ?_
    refine OGo.lload (pc' := 204) C X10 at_202 rfl rfl ?_
    refine OGo.lload (pc' := 206) C X10 at_204 rfl rfl ?_
    refine OGo.lmul (pc' := 207) (z := (x0 * x0)) C X10 at_206 rfl rfl ?_
    refine OGo.callS (pc' := 210) (cells' := 2) (slots' := 4) (argsL := [(.int (own_bit 0 k)), (.long (x0 * x0))]) (St := [(.int (0 : Int32)), (.ref a10), (.ref a10)]) C X10 (wd1 hw) (wd2 hw) (by decide) (wd4 hw) (wd3 hw) (ct1 hw X10.2.1 (own_bit 0 k) (x0 * x0)) (lenOf pd3 rfl) rfl at_207 rfl rfl (by decide) (Nat.le_of_ble_eq_true rfl) rfl rfl (by decide) (by decide) (fun v12 T12 h12 Q12 X12 z12 => ?_)
    obtain ⟨hv12, hh12⟩ := Q12
    subst hv12; rw [hh12] at X12
    show OGo p e below _ T12 (mkF m 210 #[.val (.int i0), .val (.int i1), .val (.int i2), .val (.int i3), .val (.int i4), .val (.int k), .val (.int c0), .val (.int c1), .val (.long x0), .second, .val (.long x1), .second, .val (.long x2), .second, .val (.long y0), .second, .val (.long y1), .second, .val (.long y2), .second, .val (.long s0), .second, .val (.long s1), .second, .val (.long o0), .second, .val (.long o1), .second, .val (.int (own_bit 0 k)), .val (.int (own_bit 1 k)), .val (.int (own_bit 2 k)), .val (.ref a1), .unset, .unset, .unset] [(.long (own_part (own_bit 0 k) (x0 * x0))), (.int (0 : Int32)), (.ref a10), (.ref a10)])
    refine OGo.iload (pc' := 212) C X12 at_210 rfl rfl ?_
    refine OGo.lload (pc' := 214) C X12 at_212 rfl rfl ?_
    refine OGo.lload (pc' := 216) C X12 at_214 rfl rfl ?_
    refine OGo.lmul (pc' := 217) (z := (x1 * x1)) C X12 at_216 rfl rfl ?_
    refine OGo.callS (pc' := 220) (cells' := 2) (slots' := 4) (argsL := [(.int (own_bit 1 k)), (.long (x1 * x1))]) (St := [(.long (own_part (own_bit 0 k) (x0 * x0))), (.int (0 : Int32)), (.ref a10), (.ref a10)]) C X12 (wd1 hw) (wd2 hw) (by decide) (wd4 hw) (wd3 hw) (ct1 hw X12.2.1 (own_bit 1 k) (x1 * x1)) (lenOf pd3 rfl) rfl at_217 rfl rfl (by decide) (Nat.le_of_ble_eq_true rfl) rfl rfl (by decide) (by decide) (fun v13 T13 h13 Q13 X13 z13 => ?_)
    obtain ⟨hv13, hh13⟩ := Q13
    subst hv13; rw [hh13] at X13
    show OGo p e below _ T13 (mkF m 220 #[.val (.int i0), .val (.int i1), .val (.int i2), .val (.int i3), .val (.int i4), .val (.int k), .val (.int c0), .val (.int c1), .val (.long x0), .second, .val (.long x1), .second, .val (.long x2), .second, .val (.long y0), .second, .val (.long y1), .second, .val (.long y2), .second, .val (.long s0), .second, .val (.long s1), .second, .val (.long o0), .second, .val (.long o1), .second, .val (.int (own_bit 0 k)), .val (.int (own_bit 1 k)), .val (.int (own_bit 2 k)), .val (.ref a1), .unset, .unset, .unset] [(.long (own_part (own_bit 1 k) (x1 * x1))), (.long (own_part (own_bit 0 k) (x0 * x0))), (.int (0 : Int32)), (.ref a10), (.ref a10)])
    refine OGo.ladd (pc' := 221) (z := ((own_part (own_bit 0 k) (x0 * x0)) + (own_part (own_bit 1 k) (x1 * x1)))) C X13 at_220 rfl rfl ?_
    refine OGo.iload (pc' := 223) C X13 at_221 rfl rfl ?_
    refine OGo.lload (pc' := 225) C X13 at_223 rfl rfl ?_
    refine OGo.lload (pc' := 227) C X13 at_225 rfl rfl ?_
    refine OGo.lmul (pc' := 228) (z := (x2 * x2)) C X13 at_227 rfl rfl ?_
    refine OGo.callS (pc' := 231) (cells' := 2) (slots' := 4) (argsL := [(.int (own_bit 2 k)), (.long (x2 * x2))]) (St := [(.long ((own_part (own_bit 0 k) (x0 * x0)) + (own_part (own_bit 1 k) (x1 * x1)))), (.int (0 : Int32)), (.ref a10), (.ref a10)]) C X13 (wd1 hw) (wd2 hw) (by decide) (wd4 hw) (wd3 hw) (ct1 hw X13.2.1 (own_bit 2 k) (x2 * x2)) (lenOf pd3 rfl) rfl at_228 rfl rfl (by decide) (Nat.le_of_ble_eq_true rfl) rfl rfl (by decide) (by decide) (fun v14 T14 h14 Q14 X14 z14 => ?_)
    obtain ⟨hv14, hh14⟩ := Q14
    subst hv14; rw [hh14] at X14
    show OGo p e below _ T14 (mkF m 231 #[.val (.int i0), .val (.int i1), .val (.int i2), .val (.int i3), .val (.int i4), .val (.int k), .val (.int c0), .val (.int c1), .val (.long x0), .second, .val (.long x1), .second, .val (.long x2), .second, .val (.long y0), .second, .val (.long y1), .second, .val (.long y2), .second, .val (.long s0), .second, .val (.long s1), .second, .val (.long o0), .second, .val (.long o1), .second, .val (.int (own_bit 0 k)), .val (.int (own_bit 1 k)), .val (.int (own_bit 2 k)), .val (.ref a1), .unset, .unset, .unset] [(.long (own_part (own_bit 2 k) (x2 * x2))), (.long ((own_part (own_bit 0 k) (x0 * x0)) + (own_part (own_bit 1 k) (x1 * x1)))), (.int (0 : Int32)), (.ref a10), (.ref a10)])
    refine OGo.ladd (pc' := 232) (z := (((own_part (own_bit 0 k) (x0 * x0)) + (own_part (own_bit 1 k) (x1 * x1))) + (own_part (own_bit 2 k) (x2 * x2)))) C X14 at_231 rfl rfl ?_
    refine OGo.l2d (pc' := 233) (v := (FP.l2d (((own_part (own_bit 0 k) (x0 * x0)) + (own_part (own_bit 1 k) (x1 * x1))) + (own_part (own_bit 2 k) (x2 * x2))))) C X14 at_232 rfl rfl ?_
    refine OGo.dastore (pc' := 234) C X14 V10 q10 (i := 0) at_233 rfl ⟨by decide, by decide⟩ (by decide) (Nat.le_of_ble_eq_true rfl) (fun T15 h15 X15 W15 V15 => ?_)
    replace V15 : Arv Z h15 a10 k10 .double (2 : Int32) [(.double (FP.l2d (((own_part (own_bit 0 k) (x0 * x0)) + (own_part (own_bit 1 k) (x1 * x1))) + (own_part (own_bit 2 k) (x2 * x2))))), (.double (0 : UInt64))] (.double (0 : UInt64)) := V15
    refine OGo.dup (pc' := 235) C X15 at_234 rfl rfl ?_
    refine OGo.iconst (pc' := 236) (z := (1 : Int32)) C X15 at_235 rfl (by decide) ?_
    refine OGo.iload (pc' := 238) C X15 at_236 rfl rfl ?_
    refine OGo.lload (pc' := 240) C X15 at_238 rfl rfl ?_
    refine OGo.lload (pc' := 242) C X15 at_240 rfl rfl ?_
    refine OGo.lmul (pc' := 243) (z := (y0 * y0)) C X15 at_242 rfl rfl ?_
    refine OGo.callS (pc' := 246) (cells' := 2) (slots' := 4) (argsL := [(.int (own_bit 0 k)), (.long (y0 * y0))]) (St := [(.int (1 : Int32)), (.ref a10), (.ref a10)]) C X15 (wd1 hw) (wd2 hw) (by decide) (wd4 hw) (wd3 hw) (ct1 hw X15.2.1 (own_bit 0 k) (y0 * y0)) (lenOf pd3 rfl) rfl at_243 rfl rfl (by decide) (Nat.le_of_ble_eq_true rfl) rfl rfl (by decide) (by decide) (fun v16 T16 h16 Q16 X16 z16 => ?_)
    obtain ⟨hv16, hh16⟩ := Q16
    subst hv16; rw [hh16] at X16
    show OGo p e below _ T16 (mkF m 246 #[.val (.int i0), .val (.int i1), .val (.int i2), .val (.int i3), .val (.int i4), .val (.int k), .val (.int c0), .val (.int c1), .val (.long x0), .second, .val (.long x1), .second, .val (.long x2), .second, .val (.long y0), .second, .val (.long y1), .second, .val (.long y2), .second, .val (.long s0), .second, .val (.long s1), .second, .val (.long o0), .second, .val (.long o1), .second, .val (.int (own_bit 0 k)), .val (.int (own_bit 1 k)), .val (.int (own_bit 2 k)), .val (.ref a1), .unset, .unset, .unset] [(.long (own_part (own_bit 0 k) (y0 * y0))), (.int (1 : Int32)), (.ref a10), (.ref a10)])
    refine OGo.iload (pc' := 248) C X16 at_246 rfl rfl ?_
    refine OGo.lload (pc' := 250) C X16 at_248 rfl rfl ?_
    refine OGo.lload (pc' := 252) C X16 at_250 rfl rfl ?_
    refine OGo.lmul (pc' := 253) (z := (y1 * y1)) C X16 at_252 rfl rfl ?_
    refine OGo.callS (pc' := 256) (cells' := 2) (slots' := 4) (argsL := [(.int (own_bit 1 k)), (.long (y1 * y1))]) (St := [(.long (own_part (own_bit 0 k) (y0 * y0))), (.int (1 : Int32)), (.ref a10), (.ref a10)]) C X16 (wd1 hw) (wd2 hw) (by decide) (wd4 hw) (wd3 hw) (ct1 hw X16.2.1 (own_bit 1 k) (y1 * y1)) (lenOf pd3 rfl) rfl at_253 rfl rfl (by decide) (Nat.le_of_ble_eq_true rfl) rfl rfl (by decide) (by decide) (fun v17 T17 h17 Q17 X17 z17 => ?_)
    obtain ⟨hv17, hh17⟩ := Q17
    subst hv17; rw [hh17] at X17
    show OGo p e below _ T17 (mkF m 256 #[.val (.int i0), .val (.int i1), .val (.int i2), .val (.int i3), .val (.int i4), .val (.int k), .val (.int c0), .val (.int c1), .val (.long x0), .second, .val (.long x1), .second, .val (.long x2), .second, .val (.long y0), .second, .val (.long y1), .second, .val (.long y2), .second, .val (.long s0), .second, .val (.long s1), .second, .val (.long o0), .second, .val (.long o1), .second, .val (.int (own_bit 0 k)), .val (.int (own_bit 1 k)), .val (.int (own_bit 2 k)), .val (.ref a1), .unset, .unset, .unset] [(.long (own_part (own_bit 1 k) (y1 * y1))), (.long (own_part (own_bit 0 k) (y0 * y0))), (.int (1 : Int32)), (.ref a10), (.ref a10)])
    refine OGo.ladd (pc' := 257) (z := ((own_part (own_bit 0 k) (y0 * y0)) + (own_part (own_bit 1 k) (y1 * y1)))) C X17 at_256 rfl rfl ?_
    refine OGo.iload (pc' := 259) C X17 at_257 rfl rfl ?_
    refine OGo.lload (pc' := 261) C X17 at_259 rfl rfl ?_
    refine OGo.lload (pc' := 263) C X17 at_261 rfl rfl ?_
    refine OGo.lmul (pc' := 264) (z := (y2 * y2)) C X17 at_263 rfl rfl ?_
    refine OGo.callS (pc' := 267) (cells' := 2) (slots' := 4) (argsL := [(.int (own_bit 2 k)), (.long (y2 * y2))]) (St := [(.long ((own_part (own_bit 0 k) (y0 * y0)) + (own_part (own_bit 1 k) (y1 * y1)))), (.int (1 : Int32)), (.ref a10), (.ref a10)]) C X17 (wd1 hw) (wd2 hw) (by decide) (wd4 hw) (wd3 hw) (ct1 hw X17.2.1 (own_bit 2 k) (y2 * y2)) (lenOf pd3 rfl) rfl at_264 rfl rfl (by decide) (Nat.le_of_ble_eq_true rfl) rfl rfl (by decide) (by decide) (fun v18 T18 h18 Q18 X18 z18 => ?_)
    obtain ⟨hv18, hh18⟩ := Q18
    subst hv18; rw [hh18] at X18
    show OGo p e below _ T18 (mkF m 267 #[.val (.int i0), .val (.int i1), .val (.int i2), .val (.int i3), .val (.int i4), .val (.int k), .val (.int c0), .val (.int c1), .val (.long x0), .second, .val (.long x1), .second, .val (.long x2), .second, .val (.long y0), .second, .val (.long y1), .second, .val (.long y2), .second, .val (.long s0), .second, .val (.long s1), .second, .val (.long o0), .second, .val (.long o1), .second, .val (.int (own_bit 0 k)), .val (.int (own_bit 1 k)), .val (.int (own_bit 2 k)), .val (.ref a1), .unset, .unset, .unset] [(.long (own_part (own_bit 2 k) (y2 * y2))), (.long ((own_part (own_bit 0 k) (y0 * y0)) + (own_part (own_bit 1 k) (y1 * y1)))), (.int (1 : Int32)), (.ref a10), (.ref a10)])
    refine OGo.ladd (pc' := 268) (z := (((own_part (own_bit 0 k) (y0 * y0)) + (own_part (own_bit 1 k) (y1 * y1))) + (own_part (own_bit 2 k) (y2 * y2)))) C X18 at_267 rfl rfl ?_
    refine OGo.l2d (pc' := 269) (v := (FP.l2d (((own_part (own_bit 0 k) (y0 * y0)) + (own_part (own_bit 1 k) (y1 * y1))) + (own_part (own_bit 2 k) (y2 * y2))))) C X18 at_268 rfl rfl ?_
    refine OGo.dastore (pc' := 270) C X18 V15 q10 (i := 1) at_269 rfl ⟨by decide, by decide⟩ (by decide) (Nat.le_of_ble_eq_true rfl) (fun T19 h19 X19 W19 V19 => ?_)
    replace V19 : Arv Z h19 a10 k10 .double (2 : Int32) [(.double (FP.l2d (((own_part (own_bit 0 k) (x0 * x0)) + (own_part (own_bit 1 k) (x1 * x1))) + (own_part (own_bit 2 k) (x2 * x2))))), (.double (FP.l2d (((own_part (own_bit 0 k) (y0 * y0)) + (own_part (own_bit 1 k) (y1 * y1))) + (own_part (own_bit 2 k) (y2 * y2)))))] (.double (0 : UInt64)) := V19
    refine OGo.astore (pc' := 272) C X19 at_270 rfl rfl (l' := #[.val (.int i0), .val (.int i1), .val (.int i2), .val (.int i3), .val (.int i4), .val (.int k), .val (.int c0), .val (.int c1), .val (.long x0), .second, .val (.long x1), .second, .val (.long x2), .second, .val (.long y0), .second, .val (.long y1), .second, .val (.long y2), .second, .val (.long s0), .second, .val (.long s1), .second, .val (.long o0), .second, .val (.long o1), .second, .val (.int (own_bit 0 k)), .val (.int (own_bit 1 k)), .val (.int (own_bit 2 k)), .val (.ref a1), .val (.ref a10), .unset, .unset]) rfl ?_
    refine OGo.new (pc' := 275) (cells' := 3) (slots' := 7) C X19 (wd5 hw) (wd6 hw) (wd7 hw) at_272 rfl rfl rfl (by decide) (by decide) (fun T20 h20 a20 X20 g20 q20 E20 A20 D20 U20 => ?_)
    have f22 := (((V9.ext E10).other W15 ne11).other W19 ne11)
    have ne21 : a1 ≠ a20 := Nat.ne_of_lt (Nat.lt_of_lt_of_eq f22.lt g20.symm)
    have ne23 : a10 ≠ a20 := Nat.ne_of_lt (Nat.lt_of_lt_of_eq V19.lt g20.symm)
    have F20_sources : Fld Z h20 a20 "com/example/interim/interim/Frame$Shift" "sources" "[I" .null := D20 (Or.inr (wd21 hw)) (ty := (.array .int)) (by decide)
    have F20_scales : Fld Z h20 a20 "com/example/interim/interim/Frame$Shift" "scales" "[D" .null := D20 (Or.inr (wd23 hw)) (ty := (.array .double)) (by decide)
    have F20_offsets : Fld Z h20 a20 "com/example/interim/interim/Frame$Shift" "offsets" "[D" .null := D20 (Or.inr (wd25 hw)) (ty := (.array .double)) (by decide)
    refine OGo.dup (pc' := 276) C X20 at_275 rfl rfl ?_
    refine OGo.iconst (pc' := 277) (z := (2 : Int32)) C X20 at_276 rfl (by decide) ?_
    refine OGo.newarray (pc' := 279) (cap := 2) (d0 := (.int (0 : Int32))) (cells' := 4) (slots' := 9) C X20 (wd8 hw) rfl at_277 rfl (by decide) (by decide) (by decide) rfl rfl rfl (by decide) (by decide) (fun T24 h24 a24 k24 X24 g24 q24 E24 V24 => ?_)
    have f26 := (f22.ext E20)
    have ne25 : a1 ≠ a24 := Nat.ne_of_lt (Nat.lt_of_lt_of_eq f26.lt g24.symm)
    have f28 := (V19.ext E20)
    have ne27 : a10 ≠ a24 := Nat.ne_of_lt (Nat.lt_of_lt_of_eq f28.lt g24.symm)
    have ne29 : a20 ≠ a24 := Nat.ne_of_lt (Nat.lt_of_lt_of_eq A20.lt g24.symm)
    replace V24 : Arv Z h24 a24 k24 .int (2 : Int32) [(.int (0 : Int32)), (.int (0 : Int32))] (.int (0 : Int32)) := V24.pad (pad_rep [] (.int (0 : Int32)) 2)
    refine OGo.dup (pc' := 280) C X24 at_279 rfl rfl ?_
    refine OGo.iconst (pc' := 281) (z := (0 : Int32)) C X24 at_280 rfl (by decide) ?_
    refine OGo.iload (pc' := 283) C X24 at_281 rfl rfl ?_
    refine OGo.iastore (pc' := 284) C X24 V24 q24 (i := 0) at_283 rfl ⟨by decide, by decide⟩ (by decide) (Nat.le_of_ble_eq_true rfl) (fun T30 h30 X30 W30 V30 => ?_)
    replace V30 : Arv Z h30 a24 k24 .int (2 : Int32) [(.int c0), (.int (0 : Int32))] (.int (0 : Int32)) := V30
    refine OGo.dup (pc' := 285) C X30 at_284 rfl rfl ?_
    refine OGo.iconst (pc' := 286) (z := (1 : Int32)) C X30 at_285 rfl (by decide) ?_
    refine OGo.iload (pc' := 288) C X30 at_286 rfl rfl ?_
    refine OGo.iastore (pc' := 289) C X30 V30 q24 (i := 1) at_288 rfl ⟨by decide, by decide⟩ (by decide) (Nat.le_of_ble_eq_true rfl) (fun T31 h31 X31 W31 V31 => ?_)
    replace V31 : Arv Z h31 a24 k24 .int (2 : Int32) [(.int c0), (.int c1)] (.int (0 : Int32)) := V31
    refine OGo.iconst (pc' := 290) (z := (2 : Int32)) C X31 at_289 rfl (by decide) ?_
    refine OGo.newarray (pc' := 292) (cap := 2) (d0 := (.double (0 : UInt64))) (cells' := 5) (slots' := 11) C X31 (wd0 hw) rfl at_290 rfl (by decide) (by decide) (by decide) rfl rfl rfl (by decide) (by decide) (fun T32 h32 a32 k32 X32 g32 q32 E32 V32 => ?_)
    have f34 := (((f26.ext E24).other W30 ne25).other W31 ne25)
    have ne33 : a1 ≠ a32 := Nat.ne_of_lt (Nat.lt_of_lt_of_eq f34.lt g32.symm)
    have f36 := (((f28.ext E24).other W30 ne27).other W31 ne27)
    have ne35 : a10 ≠ a32 := Nat.ne_of_lt (Nat.lt_of_lt_of_eq f36.lt g32.symm)
    have f38 := (((A20.ext E24).wr W30).wr W31)
    have ne37 : a20 ≠ a32 := Nat.ne_of_lt (Nat.lt_of_lt_of_eq f38.lt g32.symm)
    have ne39 : a24 ≠ a32 := Nat.ne_of_lt (Nat.lt_of_lt_of_eq V31.lt g32.symm)
    replace V32 : Arv Z h32 a32 k32 .double (2 : Int32) [(.double (0 : UInt64)), (.double (0 : UInt64))] (.double (0 : UInt64)) := V32.pad (pad_rep [] (.double (0 : UInt64)) 2)
    refine OGo.dup (pc' := 293) C X32 at_292 rfl rfl ?_
    refine OGo.iconst (pc' := 294) (z := (0 : Int32)) C X32 at_293 rfl (by decide) ?_
    refine OGo.lload (pc' := 296) C X32 at_294 rfl rfl ?_
    refine OGo.l2d (pc' := 297) (v := (FP.l2d s0)) C X32 at_296 rfl rfl ?_
    refine OGo.dastore (pc' := 298) C X32 V32 q32 (i := 0) at_297 rfl ⟨by decide, by decide⟩ (by decide) (Nat.le_of_ble_eq_true rfl) (fun T40 h40 X40 W40 V40 => ?_)
    replace V40 : Arv Z h40 a32 k32 .double (2 : Int32) [(.double (FP.l2d s0)), (.double (0 : UInt64))] (.double (0 : UInt64)) := V40
    refine OGo.dup (pc' := 299) C X40 at_298 rfl rfl ?_
    refine OGo.iconst (pc' := 300) (z := (1 : Int32)) C X40 at_299 rfl (by decide) ?_
    refine OGo.lload (pc' := 302) C X40 at_300 rfl rfl ?_
    refine OGo.l2d (pc' := 303) (v := (FP.l2d s1)) C X40 at_302 rfl rfl ?_
    refine OGo.dastore (pc' := 304) C X40 V40 q32 (i := 1) at_303 rfl ⟨by decide, by decide⟩ (by decide) (Nat.le_of_ble_eq_true rfl) (fun T41 h41 X41 W41 V41 => ?_)
    replace V41 : Arv Z h41 a32 k32 .double (2 : Int32) [(.double (FP.l2d s0)), (.double (FP.l2d s1))] (.double (0 : UInt64)) := V41
    refine OGo.iconst (pc' := 305) (z := (2 : Int32)) C X41 at_304 rfl (by decide) ?_
    refine OGo.newarray (pc' := 307) (cap := 2) (d0 := (.double (0 : UInt64))) (cells' := 6) (slots' := 13) C X41 (wd0 hw) rfl at_305 rfl (by decide) (by decide) (by decide) rfl rfl rfl (by decide) (by decide) (fun T42 h42 a42 k42 X42 g42 q42 E42 V42 => ?_)
    have f44 := (((f34.ext E32).other W40 ne33).other W41 ne33)
    have ne43 : a1 ≠ a42 := Nat.ne_of_lt (Nat.lt_of_lt_of_eq f44.lt g42.symm)
    have f46 := (((f36.ext E32).other W40 ne35).other W41 ne35)
    have ne45 : a10 ≠ a42 := Nat.ne_of_lt (Nat.lt_of_lt_of_eq f46.lt g42.symm)
    have f48 := (((f38.ext E32).wr W40).wr W41)
    have ne47 : a20 ≠ a42 := Nat.ne_of_lt (Nat.lt_of_lt_of_eq f48.lt g42.symm)
    have f50 := (((V31.ext E32).other W40 ne39).other W41 ne39)
    have ne49 : a24 ≠ a42 := Nat.ne_of_lt (Nat.lt_of_lt_of_eq f50.lt g42.symm)
    have ne51 : a32 ≠ a42 := Nat.ne_of_lt (Nat.lt_of_lt_of_eq V41.lt g42.symm)
    replace V42 : Arv Z h42 a42 k42 .double (2 : Int32) [(.double (0 : UInt64)), (.double (0 : UInt64))] (.double (0 : UInt64)) := V42.pad (pad_rep [] (.double (0 : UInt64)) 2)
    refine OGo.dup (pc' := 308) C X42 at_307 rfl rfl ?_
    refine OGo.iconst (pc' := 309) (z := (0 : Int32)) C X42 at_308 rfl (by decide) ?_
    refine OGo.lload (pc' := 311) C X42 at_309 rfl rfl ?_
    refine OGo.l2d (pc' := 312) (v := (FP.l2d o0)) C X42 at_311 rfl rfl ?_
    refine OGo.dastore (pc' := 313) C X42 V42 q42 (i := 0) at_312 rfl ⟨by decide, by decide⟩ (by decide) (Nat.le_of_ble_eq_true rfl) (fun T52 h52 X52 W52 V52 => ?_)
    replace V52 : Arv Z h52 a42 k42 .double (2 : Int32) [(.double (FP.l2d o0)), (.double (0 : UInt64))] (.double (0 : UInt64)) := V52
    refine OGo.dup (pc' := 314) C X52 at_313 rfl rfl ?_
    refine OGo.iconst (pc' := 315) (z := (1 : Int32)) C X52 at_314 rfl (by decide) ?_
    refine OGo.lload (pc' := 317) C X52 at_315 rfl rfl ?_
    refine OGo.l2d (pc' := 318) (v := (FP.l2d o1)) C X52 at_317 rfl rfl ?_
    refine OGo.dastore (pc' := 319) C X52 V52 q42 (i := 1) at_318 rfl ⟨by decide, by decide⟩ (by decide) (Nat.le_of_ble_eq_true rfl) (fun T53 h53 X53 W53 V53 => ?_)
    replace V53 : Arv Z h53 a42 k42 .double (2 : Int32) [(.double (FP.l2d o0)), (.double (FP.l2d o1))] (.double (0 : UInt64)) := V53
    have f54 := (((f48.ext E42).wr W52).wr W53)
    have f55 := (((((((((F20_sources.ext E24).other W30 (Or.inl ne29)).other W31 (Or.inl ne29)).ext E32).other W40 (Or.inl ne37)).other W41 (Or.inl ne37)).ext E42).other W52 (Or.inl ne47)).other W53 (Or.inl ne47))
    have f56 := (((((((((F20_scales.ext E24).other W30 (Or.inl ne29)).other W31 (Or.inl ne29)).ext E32).other W40 (Or.inl ne37)).other W41 (Or.inl ne37)).ext E42).other W52 (Or.inl ne47)).other W53 (Or.inl ne47))
    have f57 := (((((((((F20_offsets.ext E24).other W30 (Or.inl ne29)).other W31 (Or.inl ne29)).ext E32).other W40 (Or.inl ne37)).other W41 (Or.inl ne37)).ext E42).other W52 (Or.inl ne47)).other W53 (Or.inl ne47))
    refine OGo.callInit (pc' := 322) (cells' := 6) (slots' := 13) (argsL := [(.ref a24), (.ref a32), (.ref a42)]) (St := [(.ref a20)]) C X53 rfl rfl (wd9 hw) (wd10 hw) (by decide) (wd11 hw) (wd7 hw) (ct2 hw X53.2.1 a20 a24 a32 a42 f54 f55 f56 f57 q20) (lenOf pd4 rfl) rfl at_319 rfl rfl (by decide) (Nat.le_of_ble_eq_true rfl) rfl rfl (by decide) (by decide) (fun v58 T58 h58 Q58 X58 z58 => ?_)
    obtain ⟨hv58, K58, E58a, F58_0, F58_1, F58_2⟩ := Q58
    subst hv58
    show OGo p e below _ T58 (mkF m 322 #[.val (.int i0), .val (.int i1), .val (.int i2), .val (.int i3), .val (.int i4), .val (.int k), .val (.int c0), .val (.int c1), .val (.long x0), .second, .val (.long x1), .second, .val (.long x2), .second, .val (.long y0), .second, .val (.long y1), .second, .val (.long y2), .second, .val (.long s0), .second, .val (.long s1), .second, .val (.long o0), .second, .val (.long o1), .second, .val (.int (own_bit 0 k)), .val (.int (own_bit 1 k)), .val (.int (own_bit 2 k)), .val (.ref a1), .val (.ref a10), .unset, .unset] [(.ref a20)])
    refine OGo.astore (pc' := 324) C X58 at_322 rfl rfl (l' := #[.val (.int i0), .val (.int i1), .val (.int i2), .val (.int i3), .val (.int i4), .val (.int k), .val (.int c0), .val (.int c1), .val (.long x0), .second, .val (.long x1), .second, .val (.long x2), .second, .val (.long y0), .second, .val (.long y1), .second, .val (.long y2), .second, .val (.long s0), .second, .val (.long s1), .second, .val (.long o0), .second, .val (.long o1), .second, .val (.int (own_bit 0 k)), .val (.int (own_bit 1 k)), .val (.int (own_bit 2 k)), .val (.ref a1), .val (.ref a10), .val (.ref a20), .unset]) rfl ?_
    refine OGo.aload (pc' := 326) C X58 at_324 rfl rfl rfl ?_
    refine OGo.iload (pc' := 328) C X58 at_326 rfl rfl ?_
    refine OGo.aload (pc' := 330) C X58 at_328 rfl rfl rfl ?_
    refine OGo.aload (pc' := 332) C X58 at_330 rfl rfl rfl ?_
    have f59 := ((((f50.ext E42).other W52 ne49).other W53 ne49).keep K58 (ninS (Ne.symm ne29) nin0))
    have f60 := ((((V41.ext E42).other W52 ne51).other W53 ne51).keep K58 (ninS (Ne.symm ne37) nin0))
    have f61 := (V53.keep K58 (ninS (Ne.symm ne47) nin0))
    have f62 := ((((f44.ext E42).other W52 ne43).other W53 ne43).keep K58 (ninS ne21 nin0))
    have f63 := ((((f46.ext E42).other W52 ne45).other W53 ne45).keep K58 (ninS ne23 nin0))
    refine OGo.callV (pc' := 335) (cells' := 7) (slots' := 15) (argsL := [(.int k), (.ref a1), (.ref a10)]) (St := []) C X58 (wd26 hw) (wd27 hw) (wd29 hw) (wd28 hw) (by decide) E58a (wd30 hw) (wd7 hw) (ct5 hw X58.2.1 a20 a24 a32 a42 a1 a10 k24 k32 k42 k1 k10 k c0 c1 (FP.l2d s0) (FP.l2d s1) (FP.l2d o0) (FP.l2d o1) (FP.l2d (((own_part (own_bit 0 k) x0) + (own_part (own_bit 1 k) x1)) + (own_part (own_bit 2 k) x2))) (FP.l2d (((own_part (own_bit 0 k) y0) + (own_part (own_bit 1 k) y1)) + (own_part (own_bit 2 k) y2))) (FP.l2d (((own_part (own_bit 0 k) (x0 * x0)) + (own_part (own_bit 1 k) (x1 * x1))) + (own_part (own_bit 2 k) (x2 * x2)))) (FP.l2d (((own_part (own_bit 0 k) (y0 * y0)) + (own_part (own_bit 1 k) (y1 * y1))) + (own_part (own_bit 2 k) (y2 * y2)))) E58a F58_0 F58_1 F58_2 f59 f60 f61 f62 f63 hs2a hs2b (l2d_mag _) (l2d_mag _) (l2d_mag _) (l2d_mag _) (l2d_mag _) (l2d_mag _) (l2d_mag _) (l2d_mag _)) (lenOf pd5 rfl) rfl at_332 rfl rfl (by decide) (Nat.le_of_ble_eq_true rfl) rfl rfl (by decide) (by decide) (fun v64 T64 h64 Q64 X64 z64 => ?_)
    obtain ⟨b64, k64, hv64, K64, V64⟩ := Q64
    subst hv64
    show OGo p e below _ T64 (mkF m 335 #[.val (.int i0), .val (.int i1), .val (.int i2), .val (.int i3), .val (.int i4), .val (.int k), .val (.int c0), .val (.int c1), .val (.long x0), .second, .val (.long x1), .second, .val (.long x2), .second, .val (.long y0), .second, .val (.long y1), .second, .val (.long y2), .second, .val (.long s0), .second, .val (.long s1), .second, .val (.long o0), .second, .val (.long o1), .second, .val (.int (own_bit 0 k)), .val (.int (own_bit 1 k)), .val (.int (own_bit 2 k)), .val (.ref a1), .val (.ref a10), .val (.ref a20), .unset] [(.ref b64)])
    refine OGo.astore (pc' := 337) C X64 at_335 rfl rfl (l' := #[.val (.int i0), .val (.int i1), .val (.int i2), .val (.int i3), .val (.int i4), .val (.int k), .val (.int c0), .val (.int c1), .val (.long x0), .second, .val (.long x1), .second, .val (.long x2), .second, .val (.long y0), .second, .val (.long y1), .second, .val (.long y2), .second, .val (.long s0), .second, .val (.long s1), .second, .val (.long o0), .second, .val (.long o1), .second, .val (.int (own_bit 0 k)), .val (.int (own_bit 1 k)), .val (.int (own_bit 2 k)), .val (.ref a1), .val (.ref a10), .val (.ref a20), .val (.ref b64)]) rfl ?_
    refine OGo.aload (pc' := 339) C X64 at_337 rfl rfl rfl ?_
    refine OGo.arraylength (pc' := 340) C X64 V64 at_339 rfl ?_
    refine OGo.iconst (pc' := 341) (z := (2 : Int32)) C X64 at_340 rfl (by decide) ?_
    refine OGo.icmpYes (pc' := 346) C X64 at_341 (teq (by decide : (2 : Int32) = (2 : Int32))).1 (by decide) (by decide) ?_
    refine OGo.aload (pc' := 348) C X64 at_346 rfl rfl rfl ?_
    refine OGo.iconst (pc' := 349) (z := (0 : Int32)) C X64 at_348 rfl (by decide) ?_
    refine OGo.daload (pc' := 350) C X64 V64 at_349 rfl ⟨by decide, by decide⟩ (v := (own_r (FP.l2d s0) (FP.l2d o0) k (own_src c0 (FP.l2d (((own_part (own_bit 0 k) x0) + (own_part (own_bit 1 k) x1)) + (own_part (own_bit 2 k) x2))) (FP.l2d (((own_part (own_bit 0 k) y0) + (own_part (own_bit 1 k) y1)) + (own_part (own_bit 2 k) y2)))) (own_src c0 (FP.l2d (((own_part (own_bit 0 k) (x0 * x0)) + (own_part (own_bit 1 k) (x1 * x1))) + (own_part (own_bit 2 k) (x2 * x2)))) (FP.l2d (((own_part (own_bit 0 k) (y0 * y0)) + (own_part (own_bit 1 k) (y1 * y1))) + (own_part (own_bit 2 k) (y2 * y2))))))) rfl ?_
    refine OGo.iload (pc' := 352) C X64 at_350 rfl rfl ?_
    refine OGo.iload (pc' := 354) C X64 at_352 rfl rfl ?_
    refine OGo.lload (pc' := 356) C X64 at_354 rfl rfl ?_
    refine OGo.lload (pc' := 358) C X64 at_356 rfl rfl ?_
    refine OGo.lload (pc' := 360) C X64 at_358 rfl rfl ?_
    refine OGo.lload (pc' := 362) C X64 at_360 rfl rfl ?_
    refine OGo.lload (pc' := 364) C X64 at_362 rfl rfl ?_
    refine OGo.lload (pc' := 366) C X64 at_364 rfl rfl ?_
    refine OGo.lload (pc' := 368) C X64 at_366 rfl rfl ?_
    refine OGo.lload (pc' := 370) C X64 at_368 rfl rfl ?_
    refine OGo.callS (pc' := 373) (cells' := 7) (slots' := 15) (argsL := [(.int c0), (.int k), (.long s0), (.long o0), (.long x0), (.long x1), (.long x2), (.long y0), (.long y1), (.long y2)]) (St := [(.double (own_r (FP.l2d s0) (FP.l2d o0) k (own_src c0 (FP.l2d (((own_part (own_bit 0 k) x0) + (own_part (own_bit 1 k) x1)) + (own_part (own_bit 2 k) x2))) (FP.l2d (((own_part (own_bit 0 k) y0) + (own_part (own_bit 1 k) y1)) + (own_part (own_bit 2 k) y2)))) (own_src c0 (FP.l2d (((own_part (own_bit 0 k) (x0 * x0)) + (own_part (own_bit 1 k) (x1 * x1))) + (own_part (own_bit 2 k) (x2 * x2)))) (FP.l2d (((own_part (own_bit 0 k) (y0 * y0)) + (own_part (own_bit 1 k) (y1 * y1))) + (own_part (own_bit 2 k) (y2 * y2)))))))]) C X64 (wd36 hw) (wd37 hw) (by decide) (wd38 hw) (wd3 hw) (ct7 hw X64.2.1 c0 k s0 o0 x0 x1 x2 y0 y1 y2 hk4) (lenOf pd6 rfl) rfl at_370 rfl rfl (by decide) (Nat.le_of_ble_eq_true rfl) rfl rfl (by decide) (by decide) (fun v65 T65 h65 Q65 X65 z65 => ?_)
    obtain ⟨hv65, hh65⟩ := Q65
    subst hv65; rw [hh65] at X65
    show OGo p e below _ T65 (mkF m 373 #[.val (.int i0), .val (.int i1), .val (.int i2), .val (.int i3), .val (.int i4), .val (.int k), .val (.int c0), .val (.int c1), .val (.long x0), .second, .val (.long x1), .second, .val (.long x2), .second, .val (.long y0), .second, .val (.long y1), .second, .val (.long y2), .second, .val (.long s0), .second, .val (.long s1), .second, .val (.long o0), .second, .val (.long o1), .second, .val (.int (own_bit 0 k)), .val (.int (own_bit 1 k)), .val (.int (own_bit 2 k)), .val (.ref a1), .val (.ref a10), .val (.ref a20), .val (.ref b64)] [(.long (own_exp c0 k s0 o0 x0 x1 x2 y0 y1 y2)), (.double (own_r (FP.l2d s0) (FP.l2d o0) k (own_src c0 (FP.l2d (((own_part (own_bit 0 k) x0) + (own_part (own_bit 1 k) x1)) + (own_part (own_bit 2 k) x2))) (FP.l2d (((own_part (own_bit 0 k) y0) + (own_part (own_bit 1 k) y1)) + (own_part (own_bit 2 k) y2)))) (own_src c0 (FP.l2d (((own_part (own_bit 0 k) (x0 * x0)) + (own_part (own_bit 1 k) (x1 * x1))) + (own_part (own_bit 2 k) (x2 * x2)))) (FP.l2d (((own_part (own_bit 0 k) (y0 * y0)) + (own_part (own_bit 1 k) (y1 * y1))) + (own_part (own_bit 2 k) (y2 * y2)))))))])
    refine OGo.l2d (pc' := 374) (v := (FP.l2d (own_exp c0 k s0 o0 x0 x1 x2 y0 y1 y2))) C X65 at_373 rfl rfl ?_
    refine OGo.dcmp (pc' := 375) (v := (0 : Int32)) C X65 at_374 rfl (own_place c0 k hk4 bs0 bo0 ba0 ba1 ba2 bb0 bb1 bb2 .l) ?_
    refine OGo.ifNo (pc' := 378) C X65 at_375 rfl (teq (by decide : (0 : Int32) = (0 : Int32))).2 ?_
    refine OGo.aload (pc' := 380) C X65 at_378 rfl rfl rfl ?_
    refine OGo.iconst (pc' := 381) (z := (1 : Int32)) C X65 at_380 rfl (by decide) ?_
    refine OGo.daload (pc' := 382) C X65 V64 at_381 rfl ⟨by decide, by decide⟩ (v := (own_r (FP.l2d s1) (FP.l2d o1) k (own_src c1 (FP.l2d (((own_part (own_bit 0 k) x0) + (own_part (own_bit 1 k) x1)) + (own_part (own_bit 2 k) x2))) (FP.l2d (((own_part (own_bit 0 k) y0) + (own_part (own_bit 1 k) y1)) + (own_part (own_bit 2 k) y2)))) (own_src c1 (FP.l2d (((own_part (own_bit 0 k) (x0 * x0)) + (own_part (own_bit 1 k) (x1 * x1))) + (own_part (own_bit 2 k) (x2 * x2)))) (FP.l2d (((own_part (own_bit 0 k) (y0 * y0)) + (own_part (own_bit 1 k) (y1 * y1))) + (own_part (own_bit 2 k) (y2 * y2))))))) rfl ?_
    refine OGo.iload (pc' := 384) C X65 at_382 rfl rfl ?_
    refine OGo.iload (pc' := 386) C X65 at_384 rfl rfl ?_
    refine OGo.lload (pc' := 388) C X65 at_386 rfl rfl ?_
    refine OGo.lload (pc' := 390) C X65 at_388 rfl rfl ?_
    refine OGo.lload (pc' := 392) C X65 at_390 rfl rfl ?_
    refine OGo.lload (pc' := 394) C X65 at_392 rfl rfl ?_
    refine OGo.lload (pc' := 396) C X65 at_394 rfl rfl ?_
    refine OGo.lload (pc' := 398) C X65 at_396 rfl rfl ?_
    refine OGo.lload (pc' := 400) C X65 at_398 rfl rfl ?_
    refine OGo.lload (pc' := 402) C X65 at_400 rfl rfl ?_
    refine OGo.callS (pc' := 405) (cells' := 7) (slots' := 15) (argsL := [(.int c1), (.int k), (.long s1), (.long o1), (.long x0), (.long x1), (.long x2), (.long y0), (.long y1), (.long y2)]) (St := [(.double (own_r (FP.l2d s1) (FP.l2d o1) k (own_src c1 (FP.l2d (((own_part (own_bit 0 k) x0) + (own_part (own_bit 1 k) x1)) + (own_part (own_bit 2 k) x2))) (FP.l2d (((own_part (own_bit 0 k) y0) + (own_part (own_bit 1 k) y1)) + (own_part (own_bit 2 k) y2)))) (own_src c1 (FP.l2d (((own_part (own_bit 0 k) (x0 * x0)) + (own_part (own_bit 1 k) (x1 * x1))) + (own_part (own_bit 2 k) (x2 * x2)))) (FP.l2d (((own_part (own_bit 0 k) (y0 * y0)) + (own_part (own_bit 1 k) (y1 * y1))) + (own_part (own_bit 2 k) (y2 * y2)))))))]) C X65 (wd36 hw) (wd37 hw) (by decide) (wd38 hw) (wd3 hw) (ct7 hw X65.2.1 c1 k s1 o1 x0 x1 x2 y0 y1 y2 hk4) (lenOf pd6 rfl) rfl at_402 rfl rfl (by decide) (Nat.le_of_ble_eq_true rfl) rfl rfl (by decide) (by decide) (fun v66 T66 h66 Q66 X66 z66 => ?_)
    obtain ⟨hv66, hh66⟩ := Q66
    subst hv66; rw [hh66] at X66
    show OGo p e below _ T66 (mkF m 405 #[.val (.int i0), .val (.int i1), .val (.int i2), .val (.int i3), .val (.int i4), .val (.int k), .val (.int c0), .val (.int c1), .val (.long x0), .second, .val (.long x1), .second, .val (.long x2), .second, .val (.long y0), .second, .val (.long y1), .second, .val (.long y2), .second, .val (.long s0), .second, .val (.long s1), .second, .val (.long o0), .second, .val (.long o1), .second, .val (.int (own_bit 0 k)), .val (.int (own_bit 1 k)), .val (.int (own_bit 2 k)), .val (.ref a1), .val (.ref a10), .val (.ref a20), .val (.ref b64)] [(.long (own_exp c1 k s1 o1 x0 x1 x2 y0 y1 y2)), (.double (own_r (FP.l2d s1) (FP.l2d o1) k (own_src c1 (FP.l2d (((own_part (own_bit 0 k) x0) + (own_part (own_bit 1 k) x1)) + (own_part (own_bit 2 k) x2))) (FP.l2d (((own_part (own_bit 0 k) y0) + (own_part (own_bit 1 k) y1)) + (own_part (own_bit 2 k) y2)))) (own_src c1 (FP.l2d (((own_part (own_bit 0 k) (x0 * x0)) + (own_part (own_bit 1 k) (x1 * x1))) + (own_part (own_bit 2 k) (x2 * x2)))) (FP.l2d (((own_part (own_bit 0 k) (y0 * y0)) + (own_part (own_bit 1 k) (y1 * y1))) + (own_part (own_bit 2 k) (y2 * y2)))))))])
    refine OGo.l2d (pc' := 406) (v := (FP.l2d (own_exp c1 k s1 o1 x0 x1 x2 y0 y1 y2))) C X66 at_405 rfl rfl ?_
    refine OGo.dcmp (pc' := 407) (v := (0 : Int32)) C X66 at_406 rfl (own_place c1 k hk4 bs1 bo1 ba0 ba1 ba2 bb0 bb1 bb2 .l) ?_
    refine OGo.ifNo (pc' := 410) C X66 at_407 rfl (teq (by decide : (0 : Int32) = (0 : Int32))).2 ?_
    refine OGo.iconst (pc' := 411) (z := (1 : Int32)) C X66 at_410 rfl (by decide) ?_
    refine OGo.goto (pc' := 415) C X66 at_411 (by decide) (by decide) ?_
    exact OGo.retN C X66 at_415 hret (by simp) (z' := (1 : Int32)) (by decide) hlk (rfl) (by decide) (by decide)
  refine OGo.iload (pc' := 100) C X0 at_98 rfl rfl ?_
  by_cases hc67 : (0 : Int32) < k
  · refine OGo.ifNo (pc' := 103) C X0 at_100 rfl (tlt hc67).2.2.2 ?_
    refine OGo.iconst (pc' := 104) (z := (1 : Int32)) C X0 at_103 rfl (by decide) ?_
    refine OGo.goto (pc' := 108) C X0 at_104 (by decide) (by decide) ?_
    refine OGo.istore (pc' := 110) C X0 at_108 rfl (l' := #[.val (.int i0), .val (.int i1), .val (.int i2), .val (.int i3), .val (.int i4), .val (.int k), .val (.int c0), .val (.int c1), .val (.long x0), .second, .val (.long x1), .second, .val (.long x2), .second, .val (.long y0), .second, .val (.long y1), .second, .val (.long y2), .second, .val (.long s0), .second, .val (.long s1), .second, .val (.long o0), .second, .val (.long o1), .second, .val (.int (1 : Int32)), .unset, .unset, .unset, .unset, .unset, .unset]) rfl ?_
    refine OGo.iload (pc' := 112) C X0 at_110 rfl rfl ?_
    refine OGo.iconst (pc' := 113) (z := (1 : Int32)) C X0 at_112 rfl (by decide) ?_
    by_cases hc68 : (1 : Int32) < k
    · refine OGo.icmpNo (pc' := 116) C X0 at_113 rfl (tlt hc68).2.2.2 ?_
      refine OGo.iconst (pc' := 117) (z := (1 : Int32)) C X0 at_116 rfl (by decide) ?_
      refine OGo.goto (pc' := 121) C X0 at_117 (by decide) (by decide) ?_
      refine OGo.istore (pc' := 123) C X0 at_121 rfl (l' := #[.val (.int i0), .val (.int i1), .val (.int i2), .val (.int i3), .val (.int i4), .val (.int k), .val (.int c0), .val (.int c1), .val (.long x0), .second, .val (.long x1), .second, .val (.long x2), .second, .val (.long y0), .second, .val (.long y1), .second, .val (.long y2), .second, .val (.long s0), .second, .val (.long s1), .second, .val (.long o0), .second, .val (.long o1), .second, .val (.int (1 : Int32)), .val (.int (1 : Int32)), .unset, .unset, .unset, .unset, .unset]) rfl ?_
      refine OGo.iload (pc' := 125) C X0 at_123 rfl rfl ?_
      refine OGo.iconst (pc' := 126) (z := (2 : Int32)) C X0 at_125 rfl (by decide) ?_
      by_cases hc69 : (2 : Int32) < k
      · refine OGo.icmpNo (pc' := 129) C X0 at_126 rfl (tlt hc69).2.2.2 ?_
        refine OGo.iconst (pc' := 130) (z := (1 : Int32)) C X0 at_129 rfl (by decide) ?_
        refine OGo.goto (pc' := 134) C X0 at_130 (by decide) (by decide) ?_
        refine OGo.istore (pc' := 136) C X0 at_134 rfl (l' := #[.val (.int i0), .val (.int i1), .val (.int i2), .val (.int i3), .val (.int i4), .val (.int k), .val (.int c0), .val (.int c1), .val (.long x0), .second, .val (.long x1), .second, .val (.long x2), .second, .val (.long y0), .second, .val (.long y1), .second, .val (.long y2), .second, .val (.long s0), .second, .val (.long s1), .second, .val (.long o0), .second, .val (.long o1), .second, .val (.int (1 : Int32)), .val (.int (1 : Int32)), .val (.int (1 : Int32)), .unset, .unset, .unset, .unset]) rfl ?_
        have z0 : (1 : Int32) = own_bit 0 k := by simp [own_bit, hc67, hc68, hc69]
        have z1 : (1 : Int32) = own_bit 1 k := by simp [own_bit, hc67, hc68, hc69]
        have z2 : (1 : Int32) = own_bit 2 k := by simp [own_bit, hc67, hc68, hc69]
        rw [← z0, ← z1, ← z2] at join; exact join
      · refine OGo.icmpYes (pc' := 133) C X0 at_126 (flt hc69).2.2.2 (by decide) (by decide) ?_
        refine OGo.iconst (pc' := 134) (z := (0 : Int32)) C X0 at_133 rfl (by decide) ?_
        refine OGo.istore (pc' := 136) C X0 at_134 rfl (l' := #[.val (.int i0), .val (.int i1), .val (.int i2), .val (.int i3), .val (.int i4), .val (.int k), .val (.int c0), .val (.int c1), .val (.long x0), .second, .val (.long x1), .second, .val (.long x2), .second, .val (.long y0), .second, .val (.long y1), .second, .val (.long y2), .second, .val (.long s0), .second, .val (.long s1), .second, .val (.long o0), .second, .val (.long o1), .second, .val (.int (1 : Int32)), .val (.int (1 : Int32)), .val (.int (0 : Int32)), .unset, .unset, .unset, .unset]) rfl ?_
        have z0 : (1 : Int32) = own_bit 0 k := by simp [own_bit, hc67, hc68, hc69]
        have z1 : (1 : Int32) = own_bit 1 k := by simp [own_bit, hc67, hc68, hc69]
        have z2 : (0 : Int32) = own_bit 2 k := by simp [own_bit, hc67, hc68, hc69]
        rw [← z0, ← z1, ← z2] at join; exact join
    · refine OGo.icmpYes (pc' := 120) C X0 at_113 (flt hc68).2.2.2 (by decide) (by decide) ?_
      refine OGo.iconst (pc' := 121) (z := (0 : Int32)) C X0 at_120 rfl (by decide) ?_
      refine OGo.istore (pc' := 123) C X0 at_121 rfl (l' := #[.val (.int i0), .val (.int i1), .val (.int i2), .val (.int i3), .val (.int i4), .val (.int k), .val (.int c0), .val (.int c1), .val (.long x0), .second, .val (.long x1), .second, .val (.long x2), .second, .val (.long y0), .second, .val (.long y1), .second, .val (.long y2), .second, .val (.long s0), .second, .val (.long s1), .second, .val (.long o0), .second, .val (.long o1), .second, .val (.int (1 : Int32)), .val (.int (0 : Int32)), .unset, .unset, .unset, .unset, .unset]) rfl ?_
      refine OGo.iload (pc' := 125) C X0 at_123 rfl rfl ?_
      refine OGo.iconst (pc' := 126) (z := (2 : Int32)) C X0 at_125 rfl (by decide) ?_
      by_cases hc70 : (2 : Int32) < k
      · refine OGo.icmpNo (pc' := 129) C X0 at_126 rfl (tlt hc70).2.2.2 ?_
        refine OGo.iconst (pc' := 130) (z := (1 : Int32)) C X0 at_129 rfl (by decide) ?_
        refine OGo.goto (pc' := 134) C X0 at_130 (by decide) (by decide) ?_
        refine OGo.istore (pc' := 136) C X0 at_134 rfl (l' := #[.val (.int i0), .val (.int i1), .val (.int i2), .val (.int i3), .val (.int i4), .val (.int k), .val (.int c0), .val (.int c1), .val (.long x0), .second, .val (.long x1), .second, .val (.long x2), .second, .val (.long y0), .second, .val (.long y1), .second, .val (.long y2), .second, .val (.long s0), .second, .val (.long s1), .second, .val (.long o0), .second, .val (.long o1), .second, .val (.int (1 : Int32)), .val (.int (0 : Int32)), .val (.int (1 : Int32)), .unset, .unset, .unset, .unset]) rfl ?_
        have z0 : (1 : Int32) = own_bit 0 k := by simp [own_bit, hc67, hc68, hc70]
        have z1 : (0 : Int32) = own_bit 1 k := by simp [own_bit, hc67, hc68, hc70]
        have z2 : (1 : Int32) = own_bit 2 k := by simp [own_bit, hc67, hc68, hc70]
        rw [← z0, ← z1, ← z2] at join; exact join
      · refine OGo.icmpYes (pc' := 133) C X0 at_126 (flt hc70).2.2.2 (by decide) (by decide) ?_
        refine OGo.iconst (pc' := 134) (z := (0 : Int32)) C X0 at_133 rfl (by decide) ?_
        refine OGo.istore (pc' := 136) C X0 at_134 rfl (l' := #[.val (.int i0), .val (.int i1), .val (.int i2), .val (.int i3), .val (.int i4), .val (.int k), .val (.int c0), .val (.int c1), .val (.long x0), .second, .val (.long x1), .second, .val (.long x2), .second, .val (.long y0), .second, .val (.long y1), .second, .val (.long y2), .second, .val (.long s0), .second, .val (.long s1), .second, .val (.long o0), .second, .val (.long o1), .second, .val (.int (1 : Int32)), .val (.int (0 : Int32)), .val (.int (0 : Int32)), .unset, .unset, .unset, .unset]) rfl ?_
        have z0 : (1 : Int32) = own_bit 0 k := by simp [own_bit, hc67, hc68, hc70]
        have z1 : (0 : Int32) = own_bit 1 k := by simp [own_bit, hc67, hc68, hc70]
        have z2 : (0 : Int32) = own_bit 2 k := by simp [own_bit, hc67, hc68, hc70]
        rw [← z0, ← z1, ← z2] at join; exact join
  · refine OGo.ifYes (pc' := 107) C X0 at_100 (flt hc67).2.2.2 (by decide) (by decide) ?_
    refine OGo.iconst (pc' := 108) (z := (0 : Int32)) C X0 at_107 rfl (by decide) ?_
    refine OGo.istore (pc' := 110) C X0 at_108 rfl (l' := #[.val (.int i0), .val (.int i1), .val (.int i2), .val (.int i3), .val (.int i4), .val (.int k), .val (.int c0), .val (.int c1), .val (.long x0), .second, .val (.long x1), .second, .val (.long x2), .second, .val (.long y0), .second, .val (.long y1), .second, .val (.long y2), .second, .val (.long s0), .second, .val (.long s1), .second, .val (.long o0), .second, .val (.long o1), .second, .val (.int (0 : Int32)), .unset, .unset, .unset, .unset, .unset, .unset]) rfl ?_
    refine OGo.iload (pc' := 112) C X0 at_110 rfl rfl ?_
    refine OGo.iconst (pc' := 113) (z := (1 : Int32)) C X0 at_112 rfl (by decide) ?_
    by_cases hc71 : (1 : Int32) < k
    · refine OGo.icmpNo (pc' := 116) C X0 at_113 rfl (tlt hc71).2.2.2 ?_
      refine OGo.iconst (pc' := 117) (z := (1 : Int32)) C X0 at_116 rfl (by decide) ?_
      refine OGo.goto (pc' := 121) C X0 at_117 (by decide) (by decide) ?_
      refine OGo.istore (pc' := 123) C X0 at_121 rfl (l' := #[.val (.int i0), .val (.int i1), .val (.int i2), .val (.int i3), .val (.int i4), .val (.int k), .val (.int c0), .val (.int c1), .val (.long x0), .second, .val (.long x1), .second, .val (.long x2), .second, .val (.long y0), .second, .val (.long y1), .second, .val (.long y2), .second, .val (.long s0), .second, .val (.long s1), .second, .val (.long o0), .second, .val (.long o1), .second, .val (.int (0 : Int32)), .val (.int (1 : Int32)), .unset, .unset, .unset, .unset, .unset]) rfl ?_
      refine OGo.iload (pc' := 125) C X0 at_123 rfl rfl ?_
      refine OGo.iconst (pc' := 126) (z := (2 : Int32)) C X0 at_125 rfl (by decide) ?_
      by_cases hc72 : (2 : Int32) < k
      · refine OGo.icmpNo (pc' := 129) C X0 at_126 rfl (tlt hc72).2.2.2 ?_
        refine OGo.iconst (pc' := 130) (z := (1 : Int32)) C X0 at_129 rfl (by decide) ?_
        refine OGo.goto (pc' := 134) C X0 at_130 (by decide) (by decide) ?_
        refine OGo.istore (pc' := 136) C X0 at_134 rfl (l' := #[.val (.int i0), .val (.int i1), .val (.int i2), .val (.int i3), .val (.int i4), .val (.int k), .val (.int c0), .val (.int c1), .val (.long x0), .second, .val (.long x1), .second, .val (.long x2), .second, .val (.long y0), .second, .val (.long y1), .second, .val (.long y2), .second, .val (.long s0), .second, .val (.long s1), .second, .val (.long o0), .second, .val (.long o1), .second, .val (.int (0 : Int32)), .val (.int (1 : Int32)), .val (.int (1 : Int32)), .unset, .unset, .unset, .unset]) rfl ?_
        have z0 : (0 : Int32) = own_bit 0 k := by simp [own_bit, hc67, hc71, hc72]
        have z1 : (1 : Int32) = own_bit 1 k := by simp [own_bit, hc67, hc71, hc72]
        have z2 : (1 : Int32) = own_bit 2 k := by simp [own_bit, hc67, hc71, hc72]
        rw [← z0, ← z1, ← z2] at join; exact join
      · refine OGo.icmpYes (pc' := 133) C X0 at_126 (flt hc72).2.2.2 (by decide) (by decide) ?_
        refine OGo.iconst (pc' := 134) (z := (0 : Int32)) C X0 at_133 rfl (by decide) ?_
        refine OGo.istore (pc' := 136) C X0 at_134 rfl (l' := #[.val (.int i0), .val (.int i1), .val (.int i2), .val (.int i3), .val (.int i4), .val (.int k), .val (.int c0), .val (.int c1), .val (.long x0), .second, .val (.long x1), .second, .val (.long x2), .second, .val (.long y0), .second, .val (.long y1), .second, .val (.long y2), .second, .val (.long s0), .second, .val (.long s1), .second, .val (.long o0), .second, .val (.long o1), .second, .val (.int (0 : Int32)), .val (.int (1 : Int32)), .val (.int (0 : Int32)), .unset, .unset, .unset, .unset]) rfl ?_
        have z0 : (0 : Int32) = own_bit 0 k := by simp [own_bit, hc67, hc71, hc72]
        have z1 : (1 : Int32) = own_bit 1 k := by simp [own_bit, hc67, hc71, hc72]
        have z2 : (0 : Int32) = own_bit 2 k := by simp [own_bit, hc67, hc71, hc72]
        rw [← z0, ← z1, ← z2] at join; exact join
    · refine OGo.icmpYes (pc' := 120) C X0 at_113 (flt hc71).2.2.2 (by decide) (by decide) ?_
      refine OGo.iconst (pc' := 121) (z := (0 : Int32)) C X0 at_120 rfl (by decide) ?_
      refine OGo.istore (pc' := 123) C X0 at_121 rfl (l' := #[.val (.int i0), .val (.int i1), .val (.int i2), .val (.int i3), .val (.int i4), .val (.int k), .val (.int c0), .val (.int c1), .val (.long x0), .second, .val (.long x1), .second, .val (.long x2), .second, .val (.long y0), .second, .val (.long y1), .second, .val (.long y2), .second, .val (.long s0), .second, .val (.long s1), .second, .val (.long o0), .second, .val (.long o1), .second, .val (.int (0 : Int32)), .val (.int (0 : Int32)), .unset, .unset, .unset, .unset, .unset]) rfl ?_
      refine OGo.iload (pc' := 125) C X0 at_123 rfl rfl ?_
      refine OGo.iconst (pc' := 126) (z := (2 : Int32)) C X0 at_125 rfl (by decide) ?_
      by_cases hc73 : (2 : Int32) < k
      · refine OGo.icmpNo (pc' := 129) C X0 at_126 rfl (tlt hc73).2.2.2 ?_
        refine OGo.iconst (pc' := 130) (z := (1 : Int32)) C X0 at_129 rfl (by decide) ?_
        refine OGo.goto (pc' := 134) C X0 at_130 (by decide) (by decide) ?_
        refine OGo.istore (pc' := 136) C X0 at_134 rfl (l' := #[.val (.int i0), .val (.int i1), .val (.int i2), .val (.int i3), .val (.int i4), .val (.int k), .val (.int c0), .val (.int c1), .val (.long x0), .second, .val (.long x1), .second, .val (.long x2), .second, .val (.long y0), .second, .val (.long y1), .second, .val (.long y2), .second, .val (.long s0), .second, .val (.long s1), .second, .val (.long o0), .second, .val (.long o1), .second, .val (.int (0 : Int32)), .val (.int (0 : Int32)), .val (.int (1 : Int32)), .unset, .unset, .unset, .unset]) rfl ?_
        have z0 : (0 : Int32) = own_bit 0 k := by simp [own_bit, hc67, hc71, hc73]
        have z1 : (0 : Int32) = own_bit 1 k := by simp [own_bit, hc67, hc71, hc73]
        have z2 : (1 : Int32) = own_bit 2 k := by simp [own_bit, hc67, hc71, hc73]
        rw [← z0, ← z1, ← z2] at join; exact join
      · refine OGo.icmpYes (pc' := 133) C X0 at_126 (flt hc73).2.2.2 (by decide) (by decide) ?_
        refine OGo.iconst (pc' := 134) (z := (0 : Int32)) C X0 at_133 rfl (by decide) ?_
        refine OGo.istore (pc' := 136) C X0 at_134 rfl (l' := #[.val (.int i0), .val (.int i1), .val (.int i2), .val (.int i3), .val (.int i4), .val (.int k), .val (.int c0), .val (.int c1), .val (.long x0), .second, .val (.long x1), .second, .val (.long x2), .second, .val (.long y0), .second, .val (.long y1), .second, .val (.long y2), .second, .val (.long s0), .second, .val (.long s1), .second, .val (.long o0), .second, .val (.long o1), .second, .val (.int (0 : Int32)), .val (.int (0 : Int32)), .val (.int (0 : Int32)), .unset, .unset, .unset, .unset]) rfl ?_
        have z0 : (0 : Int32) = own_bit 0 k := by simp [own_bit, hc67, hc71, hc73]
        have z1 : (0 : Int32) = own_bit 1 k := by simp [own_bit, hc67, hc71, hc73]
        have z2 : (0 : Int32) = own_bit 2 k := by simp [own_bit, hc67, hc71, hc73]
        rw [← z0, ← z1, ← z2] at join; exact join
set_option maxRecDepth 65536 in
set_option maxHeartbeats 40000000 in
theorem comes_1 {Post : Tables → Env → Array Value → State → Outcome → State → Prop} (hpost : ∀ tb e args s v u, (limb_1_1.after args s (.returned v) u = true ∧ limb_1_2.after args s (.returned v) u = true ∧ True) → FrameEnd s (.returned v) u (Jvm.fieldLocs frame_1_writes args s ++ Jvm.arrayLocs frame_1_arrays args s ++ Jvm.staticLocs frame_1_statics s) 24 128 → Post tb e args s (.returned v) u) :
    ArmFor flags0 classFile x code maxLocals ret World_1 tables_1 room_1 Calls_1 rest_1 Pre_1 Post := by
  intro l hfl _ _ p e ha hc hk s m args below hf hA hF happ hP
  obtain ⟨hcalls, hrest, hpre⟩ := hP
  obtain ⟨-, -, -, hnamed, -, -, -, hat⟩ := (Spec.applies_iff hf).mp happ
  obtain ⟨hg, hn⟩ := and_e (Cond.before_iff.mp (show (Jvm.Cond.and given_1 narrow_1).before args s = true from hpre))
  obtain ⟨g1, g2⟩ := and_e hg
  obtain ⟨g3, g4⟩ := and_e g2
  obtain ⟨g5, g6⟩ := and_e g4
  obtain ⟨g7, g8⟩ := and_e g6
  obtain ⟨g9, g10⟩ := and_e g8
  obtain ⟨w0, w1, w2, w3, w4, rfl⟩ : ∃ w0 w1 w2 w3 w4 : Value, args = #[w0, w1, w2, w3, w4] := by
    have hs : args.size = 5 := by simpa [Cond.value, given_1] using g1
    obtain ⟨L⟩ := args
    match L, hs with
    | [w0, w1, w2, w3, w4], _ => exact ⟨w0, w1, w2, w3, w4, rfl⟩
  have hw := fun d (hd : d ∈ tables_1) => atoms_spec (ws := Jvm.Cond.code x code maxLocals ret :: tables_1) hat d (List.mem_cons_of_mem _ hd)
  have hfit : Fit s := fun {y c} hc i hi => by
    obtain ⟨ha, rfl⟩ := Array.getElem?_eq_some_iff.mp hc
    have q := List.all_eq_true.mp ((Array.all_eq_true_iff_forall_mem.mp hF) _ (Array.getElem_mem ha)) i (List.mem_range.mpr hi)
    simpa [Array.getElem?_eq_getElem hi] using q
  obtain ⟨i0, ei0⟩ := is_v g3
  obtain rfl : w0 = (.int i0) := Option.some.inj ei0
  obtain ⟨i1, ei1⟩ := is_v g5
  obtain rfl : w1 = (.int i1) := Option.some.inj ei1
  obtain ⟨i2, ei2⟩ := is_v g7
  obtain rfl : w2 = (.int i2) := Option.some.inj ei2
  obtain ⟨i3, ei3⟩ := is_v g9
  obtain rfl : w3 = (.int i3) := Option.some.inj ei3
  obtain ⟨i4, ei4⟩ := is_v g10
  obtain rfl : w4 = (.int i4) := Option.some.inj ei4
  obtain ⟨n, o, h1, h2, h3, _, L, rfl, ⟨⟨rfl, -⟩, N⟩, hq⟩ := ct0 (l := l) (Z := s) hw (n0 := s.heap.size) (h0 := s.heap) (Nat.le_refl _) i0 i1 i2 i3 i4  tables_1 p e ha hc hk s m _ below hf ((Spec.applies_iff_loose hf).mp happ).1 ⟨rfl, State.Warmed39.refl s, rfl⟩ trivial
  refine ⟨n, _, h1, h2, h3, hpost _ _ _ _ _ _ ⟨Cond.after_iff.mpr rfl, Cond.after_iff.mpr (eq_i res_at (Term.int_eval (1)) rfl), trivial⟩ ⟨hq.1, hq.2.1, (hq.2.2.sift fun y hy => Or.inr (N y hy)).mono (by decide) (by decide)⟩⟩
theorem main_1_1 : Claimed_1_1 := comes_1 fun _ _ _ _ _ _ h hF => ⟨h.1, hF⟩
theorem main_1_2 : Claimed_1_2 := comes_1 fun _ _ _ _ _ _ h hF => ⟨h.2.1, hF⟩
end Jvm.Pilot.@@N@@
namespace Jvm.Pilot.@@N@@
open Jvm Jvm.ClassFile Sem Op Lib Jvm.Free Jvm.Stand Jvm.Pilot.@@N@@.Jvm.D
/-! MADE BY PROGRAM (witnessworld.py) out of the Statement's table words and the real class files: 12 classes; the members and pool entries that the words name. The judged class is class 1, her method 4. -/
namespace start1
open Jvm.ClassFile
def u (s : String) : CpInfo := .utf8 (stringToUtf16 s)
/-- a pool by its gaps: so many unusable entries, then the entry; so many at the end -/
def gap : Nat → List CpInfo → List CpInfo
  | 0, r => r
  | n + 1, r => .unusable :: gap n r
def poolList (es : List (Nat × CpInfo)) (last : Nat) : List CpInfo := es.foldr (fun e r => gap e.1 (e.2 :: r)) (gap last [])
def pool (es : List (Nat × CpInfo)) (last : Nat) : Array CpInfo := ⟨poolList es last⟩
def fileOf (pool : Array CpInfo) (this : Nat) (attrs : Array Attribute := #[]) (ms : Array MethodInfo := #[]) (fl : Nat := 33) (sup : Nat := 0) (ifs : Array Nat := #[]) (fds : Array FieldInfo := #[]) : ClassFile where
  minorVersion := 0
  majorVersion := 65
  constantPool := pool
  accessFlags := fl
  thisClass := this
  superClass := sup
  interfaces := ifs
  fields := fds
  methods := ms
  attributes := attrs
def plain (name : String) (sup : Option ClassId) : Class where
  name := name
  kind := .ordinary
  loader := none
  accessFlags := 33
  super := sup
  interfaces := #[]
  cf := none
  fields := #[]
  methods := #[]
  instanceTypes := #[]
  staticTypes := #[]
  resolved := #[]
  callSites := []
  init := .initialized
  statics := none
  mirror := none

def pool0 : Array CpInfo := pool [(5, u "<init>"), (0, u "()V"), (1, .class_ 10), (1, u "java/lang/Object")] 113

def k0c0 : Code := { maxStack := 0, maxLocals := 1, code := object_method_1_code, exceptionTable := #[], attributes := #[] }
def k0m0 : Method := { name := "<init>", desc := "()V", sig := { parameters := [], returnType := none }, accessFlags := 1, code := some k0c0 }
/-- java/lang/Object -/
def k0 : Class := { plain "java/lang/Object" none with
  accessFlags := 33
  interfaces := #[]
  cf := some (fileOf pool0 8 #[] #[{ accessFlags := 1, nameIndex := 5, descriptorIndex := 6, attributes := #[] }] 33 0 #[] #[])
  fields := #[]
  methods := #[k0m0]
  instanceTypes := #[]
  staticTypes := #[]
  resolved := Array.replicate 124 none
  statics := none }

def pool1 : Array CpInfo := pool [(2, .class_ 4), (1, u "java/lang/Object"), (0, u "<init>"), (0, u "()V"), (0, .methodref 8 9), (0, .class_ 10), (0, .nameAndType 11 12), (0, u "com/example/interim/interim/ShiftSquaresPinLaw"), (0, u "item"), (0, u "(ZJJJ)J"), (0, .methodref 8 14), (0, .nameAndType 15 16), (0, u "part"), (0, u "(ZJ)J"), (0, .class_ 18), (0, u "com/example/interim/interim/Frame$Shift"), (0, .methodref 17 20), (0, .nameAndType 5 21), (0, u "([I[D[D)V"), (0, .methodref 17 23), (0, .nameAndType 24 25), (0, u "squares"), (0, u "(I[D[D)[D"), (0, .methodref 8 27), (0, .nameAndType 28 29), (0, u "expected"), (0, u "(IIJJJJJJJJ)J"), (3, u "law"), (0, u "(IIIII)Z")] 8

def k1m0 : Method := { name := "<init>", desc := "()V", sig := { parameters := [], returnType := none }, accessFlags := 1, code := none }
def k1c1 : Code := { maxStack := 2, maxLocals := 3, code := method_2_code, exceptionTable := #[], attributes := #[] }
def k1m1 : Method := { name := "part", desc := "(ZJ)J", sig := { parameters := [.boolean, .long], returnType := some .long }, accessFlags := 10, code := some k1c1 }
def k1c2 : Code := { maxStack := 4, maxLocals := 9, code := method_3_code, exceptionTable := #[], attributes := #[] }
def k1m2 : Method := { name := "item", desc := "(ZJJJ)J", sig := { parameters := [.boolean, .long, .long, .long], returnType := some .long }, accessFlags := 10, code := some k1c2 }
def k1c3 : Code := { maxStack := 9, maxLocals := 24, code := method_4_code, exceptionTable := #[], attributes := #[] }
def k1m3 : Method := { name := "expected", desc := "(IIJJJJJJJJ)J", sig := { parameters := [.int, .int, .long, .long, .long, .long, .long, .long, .long, .long], returnType := some .long }, accessFlags := 10, code := some k1c3 }
def k1c4 : Code := { maxStack := 20, maxLocals := 35, code := code, exceptionTable := #[], attributes := #[] }
def k1m4 : Method := { name := "law", desc := "(IIIII)Z", sig := { parameters := [.int, .int, .int, .int, .int], returnType := some .boolean }, accessFlags := 9, code := some k1c4 }
/-- com/example/interim/interim/ShiftSquaresPinLaw -/
def k1 : Class := { plain "com/example/interim/interim/ShiftSquaresPinLaw" (some 0) with
  accessFlags := 49
  interfaces := #[]
  cf := some (fileOf pool1 8 #[] #[{ accessFlags := 1, nameIndex := 5, descriptorIndex := 6, attributes := #[] }, { accessFlags := 10, nameIndex := 15, descriptorIndex := 16, attributes := #[] }, { accessFlags := 10, nameIndex := 11, descriptorIndex := 12, attributes := #[] }, { accessFlags := 10, nameIndex := 28, descriptorIndex := 29, attributes := #[] }, { accessFlags := 9, nameIndex := 33, descriptorIndex := 34, attributes := #[] }] 49 2 #[] #[])
  fields := #[]
  methods := #[k1m0, k1m1, k1m2, k1m3, k1m4]
  instanceTypes := #[]
  staticTypes := #[]
  resolved := Array.replicate 43 none
  statics := none }

def pool2 : Array CpInfo := pool [(1, .methodref 2 3), (0, .class_ 4), (0, .nameAndType 5 6), (0, u "java/lang/Object"), (0, u "<init>"), (0, u "()V"), (0, .class_ 8), (0, u "java/lang/Record")] 13

def k2c0 : Code := { maxStack := 1, maxLocals := 1, code := jdk_30_method_1_code, exceptionTable := #[], attributes := #[] }
def k2m0 : Method := { name := "<init>", desc := "()V", sig := { parameters := [], returnType := none }, accessFlags := 4, code := some k2c0 }
/-- java/lang/Record -/
def k2 : Class := { plain "java/lang/Record" (some 0) with
  accessFlags := 1057
  interfaces := #[]
  cf := some (fileOf pool2 7 #[] #[{ accessFlags := 4, nameIndex := 5, descriptorIndex := 6, attributes := #[] }] 1057 2 #[] #[])
  fields := #[]
  methods := #[k2m0]
  instanceTypes := #[]
  staticTypes := #[]
  resolved := Array.replicate 22 none
  statics := none }

def pool3 : Array CpInfo := pool [(1, .methodref 2 3), (0, .class_ 4), (0, .nameAndType 5 6), (0, u "java/lang/Record"), (0, u "<init>"), (0, u "()V"), (0, .fieldref 8 9), (0, .class_ 10), (0, .nameAndType 11 12), (0, u "com/example/interim/interim/Frame$Shift"), (0, u "sources"), (0, u "[I"), (0, .fieldref 8 14), (0, .nameAndType 15 16), (0, u "scales"), (0, u "[D"), (0, .fieldref 8 18), (0, .nameAndType 19 16), (0, u "offsets"), (0, .methodref 8 21), (0, .nameAndType 22 23), (0, u "source"), (0, u "([DI)D"), (0, .double 4611686018427387904), (13, u "([I[D[D)V"), (9, u "squares"), (0, u "(I[D[D)[D"), (8, .class_ 59), (0, u "com/example/interim/interim/Frame")] 21

def k3c0 : Code := { maxStack := 2, maxLocals := 4, code := prog_31_method_1_code, exceptionTable := #[], attributes := #[] }
def k3m0 : Method := { name := "<init>", desc := "([I[D[D)V", sig := { parameters := [(.array .int), (.array .double), (.array .double)], returnType := none }, accessFlags := 0, code := some k3c0 }
def k3c1 : Code := { maxStack := 12, maxLocals := 12, code := prog_31_method_4_code, exceptionTable := #[], attributes := #[] }
def k3m1 : Method := { name := "squares", desc := "(I[D[D)[D", sig := { parameters := [.int, (.array .double), (.array .double)], returnType := some (.array .double) }, accessFlags := 0, code := some k3c1 }
def k3c2 : Code := { maxStack := 3, maxLocals := 3, code := prog_31_method_5_code, exceptionTable := #[], attributes := #[] }
def k3m2 : Method := { name := "source", desc := "([DI)D", sig := { parameters := [(.array .double), .int], returnType := some .double }, accessFlags := 2, code := some k3c2 }
/-- com/example/interim/interim/Frame$Shift -/
def k3 : Class := { plain "com/example/interim/interim/Frame$Shift" (some 2) with
  accessFlags := 48
  interfaces := #[]
  cf := some (fileOf pool3 8 #[.nestHost 58] #[{ accessFlags := 0, nameIndex := 5, descriptorIndex := 38, attributes := #[] }, { accessFlags := 0, nameIndex := 48, descriptorIndex := 49, attributes := #[] }, { accessFlags := 2, nameIndex := 22, descriptorIndex := 23, attributes := #[] }] 48 2 #[] #[{ accessFlags := 18, nameIndex := 11, descriptorIndex := 12, attributes := #[] }, { accessFlags := 18, nameIndex := 15, descriptorIndex := 16, attributes := #[] }, { accessFlags := 18, nameIndex := 19, descriptorIndex := 16, attributes := #[] }])
  fields := #[{ name := "sources", type := (.array .int), accessFlags := 18, slot := 0, constantValue := 0 }, { name := "scales", type := (.array .double), accessFlags := 18, slot := 1, constantValue := 0 }, { name := "offsets", type := (.array .double), accessFlags := 18, slot := 2, constantValue := 0 }]
  methods := #[k3m0, k3m1, k3m2]
  instanceTypes := #[(.array .int), (.array .double), (.array .double)]
  staticTypes := #[]
  resolved := Array.replicate 81 none
  statics := none }

def pool4 : Array CpInfo := pool [(1, u "java/lang/Cloneable"), (0, .class_ 1), (0, u "java/lang/Object"), (0, .class_ 3)] 3

/-- java/lang/Cloneable -/
def k4 : Class := { plain "java/lang/Cloneable" (some 0) with
  accessFlags := 1537
  interfaces := #[]
  cf := some (fileOf pool4 2 #[] #[] 1537 4 #[] #[])
  fields := #[]
  methods := #[]
  instanceTypes := #[]
  staticTypes := #[]
  resolved := Array.replicate 8 none
  statics := none }

def pool5 : Array CpInfo := pool [(1, u "java/io/Serializable"), (0, .class_ 1), (0, u "java/lang/Object"), (0, .class_ 3)] 3

/-- java/io/Serializable -/
def k5 : Class := { plain "java/io/Serializable" (some 0) with
  accessFlags := 1537
  interfaces := #[]
  cf := some (fileOf pool5 2 #[] #[] 1537 4 #[] #[])
  fields := #[]
  methods := #[]
  instanceTypes := #[]
  staticTypes := #[]
  resolved := Array.replicate 8 none
  statics := none }

/-- the primitive byte -/
def k6 : Class := { plain "byte" none with kind := .primitive 'B', accessFlags := 0x411 }
/-- [B -/
def k7 : Class := { plain "[B" (some 0) with kind := .array 6 .byte, interfaces := #[4, 5], accessFlags := 1041 }

/-- the primitive double -/
def k8 : Class := { plain "double" none with kind := .primitive 'D', accessFlags := 0x411 }
/-- [D -/
def k9 : Class := { plain "[D" (some 0) with kind := .array 8 .double, interfaces := #[4, 5], accessFlags := 1041 }

/-- the primitive int -/
def k10 : Class := { plain "int" none with kind := .primitive 'I', accessFlags := 0x411 }
/-- [I -/
def k11 : Class := { plain "[I" (some 0) with kind := .array 10 .int, interfaces := #[4, 5], accessFlags := 1041 }

def heap : Heap := #[]
def classes : Array Class := #[k0, k1, k2, k3, k4, k5, k6, k7, k8, k9, k10, k11]
def interned : List (Array UInt16 × Addr) := []
def slotsUsed : Nat := 0
def theMethod : MethodId := ⟨1, 4⟩
def args0 : Array Value := #[.int 1, .int 2, .int 3, .int 4, .int 5]
def aboutOver (below : List Frame) : State where
  vm := { classes := classes, interned := interned.toArray }
  heap := heap
  slotsUsed := slotsUsed
  threads := #[{ frames := .invoking theMethod args0 :: below }]
def below0 : List Frame := [.native { method := ⟨0, 0⟩, args := #[] }]
def about1 : State := aboutOver below0
def p0 : Program := .bare "" "" ""
def e0 : Env := launch0.env 0 0 0
theorem w_frames : about1.frames = Frame.invoking theMethod args0 :: below0 := rfl
set_option maxRecDepth 65536 in
theorem w_args : argsFit about1.vm theMethod args0 = true := by decide +kernel
set_option maxRecDepth 65536 in
theorem w_heap : heapFits about1 = true := by decide +kernel
set_option maxRecDepth 65536 in
theorem w_runnable : about1.curStatus? = some .runnable := by decide +kernel
set_option maxRecDepth 65536 in
theorem w_alone : about1.alone = true := by decide +kernel
set_option maxRecDepth 65536 in
theorem w_named : about1.methodNamed? x = some theMethod := by decide +kernel
set_option maxRecDepth 65536 in
theorem w_hears : about1.hears theMethod below0 = true := by decide +kernel
set_option maxRecDepth 65536 in
theorem w_ripe : about1.ripe theMethod args0 below0 = true := by decide +kernel
theorem w_running : about1.status = .running := rfl
set_option maxRecDepth 65536 in
theorem w_room : about1.hasRoom e0.platform room_1 = true :=
  launch0.hasRoom_least _ room_1 (by decide +kernel) (by decide +kernel) (by decide +kernel) (by decide +kernel) (by decide +kernel) (by decide +kernel)
theorem allAtoms_all (ts : List Jvm.Cond) (a : Array Jvm.Value) (st : Jvm.State) : (allAtoms ts).before a st = ts.all (fun c => c.before a st) := by
  induction ts with
  | nil => rfl
  | cons c t ih =>
    show (Jvm.Cond.and c (allAtoms t)).before a st = _
    rw [Jvm.Cond.before_and, ih, List.all_cons]
def words1 : List Jvm.Cond := Jvm.Cond.code x code maxLocals ret :: tables_1
/-- a 'code' word, met by the world's own term for the bytes: nothing is compared byte by byte -/
theorem code_word {y : MethodName} {bytes : ByteArray} {mx : Nat} {rt : Option FieldType} {a : Array Value} {s : State} {m : MethodId} {meth : Method} {c : Code} (h1 : s.methodNamed? y = some m) (h2 : s.vm.method? m = some meth) (h3 : meth.code = some c) (h4 : c.code = bytes)
    (h5 : (c.maxLocals == mx && c.exceptionTable.isEmpty && decide (c.maxStack ≤ mostOperands) && decide (meth.sig.returnType = rt) && !meth.locks && decide (parseMethodDescriptor y.desc = some meth.sig)) = true) : (Jvm.Cond.code y bytes mx rt).before a s = true := by
  simp only [Bool.and_eq_true, beq_iff_eq, Bool.not_eq_true', decide_eq_true_eq] at h5
  obtain ⟨⟨⟨⟨⟨g1, g2⟩, g3⟩, g4⟩, g5⟩, g6⟩ := h5
  simp [Cond.before, Cond.holds, Cond.value, h1, h2, h3, h4, g1, g2, g3, g4, g5, g6]
def isCode : Jvm.Cond → Bool
  | .code _ _ _ _ => true
  | _ => false
theorem all_split {L : List Jvm.Cond} {P : Jvm.Cond → Bool} (h1 : L.all (fun c => isCode c || P c) = true) (h2 : ∀ c ∈ L.filter isCode, P c = true) : L.all P = true := by
  refine List.all_eq_true.mpr fun c hc => ?_
  have h := List.all_eq_true.mp h1 c hc
  rcases Bool.eq_false_or_eq_true (isCode c) with hi | hi
  · exact h2 c (List.mem_filter.mpr ⟨hc, hi⟩)
  · simpa [hi] using h
set_option maxRecDepth 65536 in
theorem w_c0 : (Jvm.Cond.code x code maxLocals ret).before args0 about1 = true := code_word (m := ⟨1, 4⟩) (meth := k1m4) (c := k1c4) (by decide +kernel) rfl rfl rfl (by decide +kernel)
set_option maxRecDepth 65536 in
theorem w_c1 : (Jvm.Cond.code ({ cls := "com/example/interim/interim/ShiftSquaresPinLaw", name := "part", desc := "(ZJ)J" } : Jvm.MethodName) method_2_code (3 : Nat) (Option.some Jvm.ClassFile.FieldType.long)).before args0 about1 = true := code_word (m := ⟨1, 1⟩) (meth := k1m1) (c := k1c1) (by decide +kernel) rfl rfl rfl (by decide +kernel)
set_option maxRecDepth 65536 in
theorem w_c2 : (Jvm.Cond.code ({ cls := "com/example/interim/interim/Frame$Shift", name := "<init>", desc := "([I[D[D)V" } : Jvm.MethodName) prog_31_method_1_code (4 : Nat) (Option.none : Option Jvm.ClassFile.FieldType)).before args0 about1 = true := code_word (m := ⟨3, 0⟩) (meth := k3m0) (c := k3c0) (by decide +kernel) rfl rfl rfl (by decide +kernel)
set_option maxRecDepth 65536 in
theorem w_c3 : (Jvm.Cond.code ({ cls := "java/lang/Record", name := "<init>", desc := "()V" } : Jvm.MethodName) jdk_30_method_1_code (1 : Nat) (Option.none : Option Jvm.ClassFile.FieldType)).before args0 about1 = true := code_word (m := ⟨2, 0⟩) (meth := k2m0) (c := k2c0) (by decide +kernel) rfl rfl rfl (by decide +kernel)
set_option maxRecDepth 65536 in
theorem w_c4 : (Jvm.Cond.code ({ cls := "java/lang/Object", name := "<init>", desc := "()V" } : Jvm.MethodName) object_method_1_code (1 : Nat) (Option.none : Option Jvm.ClassFile.FieldType)).before args0 about1 = true := code_word (m := ⟨0, 0⟩) (meth := k0m0) (c := k0c0) (by decide +kernel) rfl rfl rfl (by decide +kernel)
set_option maxRecDepth 65536 in
theorem w_c5 : (Jvm.Cond.code ({ cls := "com/example/interim/interim/Frame$Shift", name := "squares", desc := "(I[D[D)[D" } : Jvm.MethodName) prog_31_method_4_code (12 : Nat) (Option.some (Jvm.ClassFile.FieldType.array Jvm.ClassFile.FieldType.double))).before args0 about1 = true := code_word (m := ⟨3, 1⟩) (meth := k3m1) (c := k3c1) (by decide +kernel) rfl rfl rfl (by decide +kernel)
set_option maxRecDepth 65536 in
theorem w_c6 : (Jvm.Cond.code ({ cls := "com/example/interim/interim/Frame$Shift", name := "source", desc := "([DI)D" } : Jvm.MethodName) prog_31_method_5_code (3 : Nat) (Option.some Jvm.ClassFile.FieldType.double)).before args0 about1 = true := code_word (m := ⟨3, 2⟩) (meth := k3m2) (c := k3c2) (by decide +kernel) rfl rfl rfl (by decide +kernel)
set_option maxRecDepth 65536 in
theorem w_c7 : (Jvm.Cond.code ({ cls := "com/example/interim/interim/ShiftSquaresPinLaw", name := "expected", desc := "(IIJJJJJJJJ)J" } : Jvm.MethodName) method_4_code (24 : Nat) (Option.some Jvm.ClassFile.FieldType.long)).before args0 about1 = true := code_word (m := ⟨1, 3⟩) (meth := k1m3) (c := k1c3) (by decide +kernel) rfl rfl rfl (by decide +kernel)
set_option maxRecDepth 65536 in
theorem w_c8 : (Jvm.Cond.code ({ cls := "com/example/interim/interim/ShiftSquaresPinLaw", name := "item", desc := "(ZJJJ)J" } : Jvm.MethodName) method_3_code (9 : Nat) (Option.some Jvm.ClassFile.FieldType.long)).before args0 about1 = true := code_word (m := ⟨1, 2⟩) (meth := k1m2) (c := k1c2) (by decide +kernel) rfl rfl rfl (by decide +kernel)
def codes1 : List Jvm.Cond := [Jvm.Cond.code x code maxLocals ret, Jvm.Cond.code ({ cls := "com/example/interim/interim/ShiftSquaresPinLaw", name := "part", desc := "(ZJ)J" } : Jvm.MethodName) method_2_code (3 : Nat) (Option.some Jvm.ClassFile.FieldType.long), Jvm.Cond.code ({ cls := "com/example/interim/interim/Frame$Shift", name := "<init>", desc := "([I[D[D)V" } : Jvm.MethodName) prog_31_method_1_code (4 : Nat) (Option.none : Option Jvm.ClassFile.FieldType), Jvm.Cond.code ({ cls := "java/lang/Record", name := "<init>", desc := "()V" } : Jvm.MethodName) jdk_30_method_1_code (1 : Nat) (Option.none : Option Jvm.ClassFile.FieldType), Jvm.Cond.code ({ cls := "java/lang/Object", name := "<init>", desc := "()V" } : Jvm.MethodName) object_method_1_code (1 : Nat) (Option.none : Option Jvm.ClassFile.FieldType), Jvm.Cond.code ({ cls := "com/example/interim/interim/Frame$Shift", name := "squares", desc := "(I[D[D)[D" } : Jvm.MethodName) prog_31_method_4_code (12 : Nat) (Option.some (Jvm.ClassFile.FieldType.array Jvm.ClassFile.FieldType.double)), Jvm.Cond.code ({ cls := "com/example/interim/interim/Frame$Shift", name := "source", desc := "([DI)D" } : Jvm.MethodName) prog_31_method_5_code (3 : Nat) (Option.some Jvm.ClassFile.FieldType.double), Jvm.Cond.code ({ cls := "com/example/interim/interim/ShiftSquaresPinLaw", name := "expected", desc := "(IIJJJJJJJJ)J" } : Jvm.MethodName) method_4_code (24 : Nat) (Option.some Jvm.ClassFile.FieldType.long), Jvm.Cond.code ({ cls := "com/example/interim/interim/ShiftSquaresPinLaw", name := "item", desc := "(ZJJJ)J" } : Jvm.MethodName) method_3_code (9 : Nat) (Option.some Jvm.ClassFile.FieldType.long)]
set_option maxRecDepth 65536 in
theorem codes_eq : words1.filter isCode = codes1 := rfl
theorem w_codes : ∀ c ∈ words1.filter isCode, c.before args0 about1 = true := by
  rw [codes_eq]
  intro c hc
  simp only [codes1, List.mem_cons, List.not_mem_nil, or_false] at hc
  rcases hc with rfl | rfl | rfl | rfl | rfl | rfl | rfl | rfl | rfl
  · exact w_c0
  · exact w_c1
  · exact w_c2
  · exact w_c3
  · exact w_c4
  · exact w_c5
  · exact w_c6
  · exact w_c7
  · exact w_c8
set_option maxRecDepth 65536 in
theorem w_t1 : (words1.take 24).all (fun c => isCode c || c.before args0 about1) = true := by decide +kernel
set_option maxRecDepth 65536 in
theorem w_t2 : (words1.drop 24).all (fun c => isCode c || c.before args0 about1) = true := by decide +kernel
theorem w_tables : (allAtoms (Jvm.Cond.code x code maxLocals ret :: tables_1)).before args0 about1 = true := by
  rw [allAtoms_all]
  show words1.all (fun c => c.before args0 about1) = true
  refine all_split ?_ w_codes
  rw [← List.take_append_drop 24 words1, List.all_append, w_t1, w_t2]
  rfl
set_option maxRecDepth 65536 in
theorem w_case : (Jvm.Cond.and given_1 narrow_1).before args0 about1 = true := by decide +kernel
theorem w_applies : (headSpec (Jvm.Cond.code x code maxLocals ret :: tables_1) room_1).applies x e0.platform about1 = true :=
  (Spec.applies_iff w_frames).mpr ⟨w_running, w_runnable, w_alone, w_named, w_hears, w_ripe, w_room, w_tables⟩
theorem atStart : AtStart classFile x code maxLocals ret World_1 tables_1 room_1 Calls_1 rest_1 Pre_1 launch0 p0 e0 about1 theMethod args0 below0 :=
  ⟨lists_1, trivial, launch0.admits_env _ _ _, launch0.least_env, fairChoices_fair.cas, fairChoices_fair.clock, w_frames, w_args, w_heap, w_applies, trivial, trivial, w_case⟩
end start1
theorem witness_1 : WitnessClaimed_1 := ⟨start1.p0, start1.e0, start1.about1, start1.theMethod, start1.args0, start1.below0, start1.atStart⟩
end Jvm.Pilot.@@N@@
