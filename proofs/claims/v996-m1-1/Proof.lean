import JvmDerived
import JvmDerived.Pilot.@@N@@Statement
import JvmDerived.Pilot.@@N@@Code
set_option linter.unusedVariables false
set_option linter.unusedSimpArgs false
namespace Jvm.Pilot.@@N@@
open Jvm Jvm.ClassFile Sem Op Lib Jvm.Free Jvm.Stand Jvm.LawKit Jvm.RoadKit Bundle Jvm.Pilot.@@N@@.Jvm.D
section OwnGo
variable {p : Program} {l : Launch} {e : Env} {R : Room} {s : State} {m : MethodId} {args : Array Value} {below : List Frame} {meth : Method} {c : Code} {T : State} {n0 cells slots cells' slots' : Nat} {Z : State} {a0 : Array Value} {h : Heap} {K : State → Outcome → Prop} {pc pc' : Nat} {Ls : Array Slot} {St : List Value} {own : String} {by0 : ByteArray} {ml : Nat}
/-- from state T with the frame g on top the run comes to an end of which K holds -/
def OGo (p : Program) (e : Env) (below : List Frame) (K : State → Outcome → Prop) (T : State) (g : JFrame) : Prop := ∃ t o, Steps p.tables e below (T.setTop g) t ∧ K t o
/-- what does not change during one body's walk -/
def Cx (p : Program) (s : State) (m : MethodId) (c : Code) (Z : State) (own : String) (by0 : ByteArray) (ml : Nat) : Prop := p.tables.exec = Jvm.exec ∧ Z.Warmed39 s.vm ∧ s.vm.findClass own = some m.cls ∧ c.code = by0 ∧ c.maxLocals = ml
/-- where the walk stands: heap h, only cells from n0 on written -/
def Sd (p : Program) (l : Launch) (e : Env) (R : Room) (s : State) (m : MethodId) (args : Array Value) (below : List Frame) (meth : Method) (c : Code) (n0 : Nat) (T : State) (h : Heap) (cells slots : Nat) : Prop := T.heap = h ∧ n0 ≤ h.size ∧ ∃ locs, Stand p l e R s m args below meth c T locs cells slots ∧ Fr n0 locs
/-- what a body owes at its end -/
def Kk (s : State) (below : List Frame) (n0 : Nat) (Q : Option Value → Heap → Prop) (nc ns : Nat) : State → Outcome → Prop := fun t o => t.status = .running ∧ Ended t below o ∧ ∃ v L, o = .returned v ∧ (Q v t.heap ∧ Fr n0 L) ∧ FrameEnd s o t L nc ns
/-- a body's contract -/
def Ctr (l : Launch) (Z : State) (y : MethodName) (by0 : ByteArray) (ml : Nat) (ret : Option FieldType) (rm : Room) (n0 : Nat) (as' : Array Value) (h : Heap) (Q : Option Value → Heap → Prop) : Prop :=
  ∀ ws, MetFree l y (head1 (Jvm.Cond.code y by0 ml ret :: ws) rm) (fun a U => a = as' ∧ Z.Warmed39 U.vm ∧ U.heap = h) (fun _ _ _ _ _ => True) (fun _ U o U' => ∃ v L, o = .returned v ∧ ((Q v U'.heap ∧ h.size ≤ U'.heap.size) ∧ Fr n0 L) ∧ FrameEnd U o U' L rm.cells rm.slots)
theorem OGo.st {T T' : State} {g g' : JFrame} (st : ∀ target, Steps p.tables e below (T'.setTop g') target → Steps p.tables e below (T.setTop g) target) (hr : OGo p e below K T' g') : OGo p e below K T g := by
  obtain ⟨t, o, h1, h2⟩ := hr
  exact ⟨t, o, st t h1, h2⟩
theorem OGo.tr {T T' : State} {g g' : JFrame} (st : Steps p.tables e below (T.setTop g) (T'.setTop g')) (hr : OGo p e below K T' g') : OGo p e below K T g := by
  obtain ⟨t, o, h1, h2⟩ := hr
  exact ⟨t, o, st.trans h1, h2⟩
theorem Ctr.of {y : MethodName} {ret : Option FieldType} {rm : Room} {as' : Array Value} {Q : Option Value → Heap → Prop} (hpl : plainFor y = true) (hn : n0 ≤ h.size)
    (body : ∀ p e s m below meth c T, Cx p s m c Z y.cls by0 ml → meth.name = y.name → meth.sig.returnType = ret → meth.locks = false → Sd p l e rm s m as' below meth c n0 T h 0 0 → OGo p e below (Kk s below n0 Q rm.cells rm.slots) T (entryFrame m as' ml)) :
    Ctr l Z y by0 ml ret rm n0 as' h Q := by
  intro ws
  refine MetFree.of_bodySF hpl hisR ?_
  intro p e s m args below meth c s₁ Bd hml0 hP hK
  obtain ⟨rfl, hZ, hh⟩ := hP
  have hown : s.vm.findClass y.cls = some m.cls := findClass_of_methodNamed Bd.named
  have hnm := (name_of_methodNamed Bd.named Bd.method).1
  have X0 := Stand.of_body Bd
  have e0 : s₁.heap = h := by rw [← hh, Bd.state]; rfl
  obtain ⟨t, o, h1, h2, h3, v, L, h4, ⟨h5, h6⟩, h7⟩ := body p e s m below meth c s₁ ⟨Bd.exec, hZ, hown, Bd.bytes, hml0⟩ hnm Bd.returns (BodyLoose.notSynchronized Bd) ⟨e0, hn, [], X0, Fr.nil n0⟩
  exact ⟨t, o, h1, h2, h3, v, L, h4, ⟨⟨h5, by rw [← hh]; exact h7.2.2.2.1⟩, h6⟩, h7⟩
theorem Ctr.mono {y : MethodName} {ret : Option FieldType} {rm : Room} {as' : Array Value} {Q Q' : Option Value → Heap → Prop} (hM : Ctr l Z y by0 ml ret rm n0 as' h Q) (hq : ∀ v h', Q v h' → Q' v h') : Ctr l Z y by0 ml ret rm n0 as' h Q' := by
  intro ws p e ha hc hk s m args below hf happ hP hK
  obtain ⟨n, o, h1, h2, h3, v, L, h4, ⟨⟨h5, h8⟩, h6⟩, h7⟩ := hM ws p e ha hc hk s m args below hf happ hP hK
  exact ⟨n, o, h1, h2, h3, v, L, h4, ⟨⟨hq _ _ h5, h8⟩, h6⟩, h7⟩
theorem Sd.up (X : Sd p l e R s m args below meth c n0 T h cells slots) (hc : cells ≤ cells') (hs : slots ≤ slots') : Sd p l e R s m args below meth c n0 T h cells' slots' := by
  obtain ⟨h1, h2, locs, Y, N⟩ := X
  exact ⟨h1, h2, locs, { Y with same := Y.same.mono hc hs }, N⟩
theorem OGo.iload (C : Cx p s m c Z own by0 ml) (X : Sd p l e R s m args below meth c n0 T h cells slots) {k : Nat} {v : Int32} (hd : decode by0 pc = .ok (.iload k, 2)) (hp : pc + 2 = pc') (hl : Ls[k]? = some (.val (.int v))) (hr : OGo p e below K T (mkF m pc' Ls (.int v :: St))) : OGo p e below K T (mkF m pc Ls (St)) := by
  subst hp
  obtain ⟨-, -, locs, Y, -⟩ := X
  exact OGo.st (fun t k => XS.iload Y.here C.1 rfl (hb C.2.2.2.1 hd) hl k) hr
theorem OGo.iloadN (C : Cx p s m c Z own by0 ml) (X : Sd p l e R s m args below meth c n0 T h cells slots) {k : Fin 4} {v : Int32} (hd : decode by0 pc = .ok (.iload_n k, 1)) (hp : pc + 1 = pc') (hl : Ls[k.val]? = some (.val (.int v))) (hr : OGo p e below K T (mkF m pc' Ls (.int v :: St))) : OGo p e below K T (mkF m pc Ls (St)) := by
  subst hp
  obtain ⟨-, -, locs, Y, -⟩ := X
  exact OGo.st (fun t k => XS.iloadN Y.here C.1 rfl (hb C.2.2.2.1 hd) hl k) hr
theorem OGo.lload (C : Cx p s m c Z own by0 ml) (X : Sd p l e R s m args below meth c n0 T h cells slots) {k : Nat} {v : Int64} (hd : decode by0 pc = .ok (.lload k, 2)) (hp : pc + 2 = pc') (hl : Ls[k]? = some (.val (.long v))) (hr : OGo p e below K T (mkF m pc' Ls (.long v :: St))) : OGo p e below K T (mkF m pc Ls (St)) := by
  subst hp
  obtain ⟨-, -, locs, Y, -⟩ := X
  exact OGo.st (fun t k => XS.lload Y.here C.1 rfl (hb C.2.2.2.1 hd) hl k) hr
theorem OGo.lloadN (C : Cx p s m c Z own by0 ml) (X : Sd p l e R s m args below meth c n0 T h cells slots) {k : Fin 4} {v : Int64} (hd : decode by0 pc = .ok (.lload_n k, 1)) (hp : pc + 1 = pc') (hl : Ls[k.val]? = some (.val (.long v))) (hr : OGo p e below K T (mkF m pc' Ls (.long v :: St))) : OGo p e below K T (mkF m pc Ls (St)) := by
  subst hp
  obtain ⟨-, -, locs, Y, -⟩ := X
  exact OGo.st (fun t k => XS.lloadN Y.here C.1 rfl (hb C.2.2.2.1 hd) hl k) hr
theorem OGo.dload (C : Cx p s m c Z own by0 ml) (X : Sd p l e R s m args below meth c n0 T h cells slots) {k : Nat} {v : UInt64} (hd : decode by0 pc = .ok (.dload k, 2)) (hp : pc + 2 = pc') (hl : Ls[k]? = some (.val (.double v))) (hr : OGo p e below K T (mkF m pc' Ls (.double v :: St))) : OGo p e below K T (mkF m pc Ls (St)) := by
  subst hp
  obtain ⟨-, -, locs, Y, -⟩ := X
  exact OGo.st (fun t k => XS.dload Y.here C.1 rfl (hb C.2.2.2.1 hd) hl k) hr
theorem OGo.dloadN (C : Cx p s m c Z own by0 ml) (X : Sd p l e R s m args below meth c n0 T h cells slots) {k : Fin 4} {v : UInt64} (hd : decode by0 pc = .ok (.dload_n k, 1)) (hp : pc + 1 = pc') (hl : Ls[k.val]? = some (.val (.double v))) (hr : OGo p e below K T (mkF m pc' Ls (.double v :: St))) : OGo p e below K T (mkF m pc Ls (St)) := by
  subst hp
  obtain ⟨-, -, locs, Y, -⟩ := X
  exact OGo.st (fun t k => XS.dloadN Y.here C.1 rfl (hb C.2.2.2.1 hd) hl k) hr
theorem OGo.aload (C : Cx p s m c Z own by0 ml) (X : Sd p l e R s m args below meth c n0 T h cells slots) {k : Nat} {v : Value} (hd : decode by0 pc = .ok (.aload k, 2)) (hp : pc + 2 = pc') (hl : Ls[k]? = some (.val v)) (hv : v.isRef = true) (hr : OGo p e below K T (mkF m pc' Ls (v :: St))) : OGo p e below K T (mkF m pc Ls (St)) := by
  subst hp
  obtain ⟨-, -, locs, Y, -⟩ := X
  exact OGo.st (fun t k => XS.aload Y.here C.1 rfl (hb C.2.2.2.1 hd) hl hv k) hr
theorem OGo.aloadN (C : Cx p s m c Z own by0 ml) (X : Sd p l e R s m args below meth c n0 T h cells slots) {k : Fin 4} {v : Value} (hd : decode by0 pc = .ok (.aload_n k, 1)) (hp : pc + 1 = pc') (hl : Ls[k.val]? = some (.val v)) (hv : v.isRef = true) (hr : OGo p e below K T (mkF m pc' Ls (v :: St))) : OGo p e below K T (mkF m pc Ls (St)) := by
  subst hp
  obtain ⟨-, -, locs, Y, -⟩ := X
  exact OGo.st (fun t k => XS.aloadN Y.here C.1 rfl (hb C.2.2.2.1 hd) hl hv k) hr
theorem OGo.istore (C : Cx p s m c Z own by0 ml) (X : Sd p l e R s m args below meth c n0 T h cells slots) {k : Nat} {x : Int32} {l' : Array Slot} (hd : decode by0 pc = .ok (.istore k, 2)) (hp : pc + 2 = pc') (hl : storeLocals Ls k (.int x) = some l') (hr : OGo p e below K T (mkF m pc' l' (St))) : OGo p e below K T (mkF m pc Ls (.int x :: St)) := by
  subst hp
  obtain ⟨-, -, locs, Y, -⟩ := X
  exact OGo.st (fun t k => XS.istore Y.here C.1 rfl (hb C.2.2.2.1 hd) rfl hl k) hr
theorem OGo.istoreN (C : Cx p s m c Z own by0 ml) (X : Sd p l e R s m args below meth c n0 T h cells slots) {k : Fin 4} {x : Int32} {l' : Array Slot} (hd : decode by0 pc = .ok (.istore_n k, 1)) (hp : pc + 1 = pc') (hl : storeLocals Ls k.val (.int x) = some l') (hr : OGo p e below K T (mkF m pc' l' (St))) : OGo p e below K T (mkF m pc Ls (.int x :: St)) := by
  subst hp
  obtain ⟨-, -, locs, Y, -⟩ := X
  exact OGo.st (fun t k => XS.istoreN Y.here C.1 rfl (hb C.2.2.2.1 hd) rfl hl k) hr
theorem OGo.lstore (C : Cx p s m c Z own by0 ml) (X : Sd p l e R s m args below meth c n0 T h cells slots) {k : Nat} {x : Int64} {l' : Array Slot} (hd : decode by0 pc = .ok (.lstore k, 2)) (hp : pc + 2 = pc') (hl : storeLocals Ls k (.long x) = some l') (hr : OGo p e below K T (mkF m pc' l' (St))) : OGo p e below K T (mkF m pc Ls (.long x :: St)) := by
  subst hp
  obtain ⟨-, -, locs, Y, -⟩ := X
  exact OGo.st (fun t k => XS.lstore Y.here C.1 rfl (hb C.2.2.2.1 hd) rfl hl k) hr
theorem OGo.lstoreN (C : Cx p s m c Z own by0 ml) (X : Sd p l e R s m args below meth c n0 T h cells slots) {k : Fin 4} {x : Int64} {l' : Array Slot} (hd : decode by0 pc = .ok (.lstore_n k, 1)) (hp : pc + 1 = pc') (hl : storeLocals Ls k.val (.long x) = some l') (hr : OGo p e below K T (mkF m pc' l' (St))) : OGo p e below K T (mkF m pc Ls (.long x :: St)) := by
  subst hp
  obtain ⟨-, -, locs, Y, -⟩ := X
  exact OGo.st (fun t k => XS.lstoreN Y.here C.1 rfl (hb C.2.2.2.1 hd) rfl hl k) hr
theorem OGo.dstore (C : Cx p s m c Z own by0 ml) (X : Sd p l e R s m args below meth c n0 T h cells slots) {k : Nat} {x : UInt64} {l' : Array Slot} (hd : decode by0 pc = .ok (.dstore k, 2)) (hp : pc + 2 = pc') (hl : storeLocals Ls k (.double x) = some l') (hr : OGo p e below K T (mkF m pc' l' (St))) : OGo p e below K T (mkF m pc Ls (.double x :: St)) := by
  subst hp
  obtain ⟨-, -, locs, Y, -⟩ := X
  exact OGo.st (fun t k => XS.dstore Y.here C.1 rfl (hb C.2.2.2.1 hd) rfl hl k) hr
theorem OGo.dstoreN (C : Cx p s m c Z own by0 ml) (X : Sd p l e R s m args below meth c n0 T h cells slots) {k : Fin 4} {x : UInt64} {l' : Array Slot} (hd : decode by0 pc = .ok (.dstore_n k, 1)) (hp : pc + 1 = pc') (hl : storeLocals Ls k.val (.double x) = some l') (hr : OGo p e below K T (mkF m pc' l' (St))) : OGo p e below K T (mkF m pc Ls (.double x :: St)) := by
  subst hp
  obtain ⟨-, -, locs, Y, -⟩ := X
  exact OGo.st (fun t k => XS.dstoreN Y.here C.1 rfl (hb C.2.2.2.1 hd) rfl hl k) hr
theorem OGo.astore (C : Cx p s m c Z own by0 ml) (X : Sd p l e R s m args below meth c n0 T h cells slots) {k : Nat} {x : Value} {l' : Array Slot} (hd : decode by0 pc = .ok (.astore k, 2)) (hp : pc + 2 = pc') (hv : x.isRef = true) (hl : storeLocals Ls k x = some l') (hr : OGo p e below K T (mkF m pc' l' (St))) : OGo p e below K T (mkF m pc Ls (x :: St)) := by
  subst hp
  obtain ⟨-, -, locs, Y, -⟩ := X
  exact OGo.st (fun t k => XS.astore Y.here C.1 rfl (hb C.2.2.2.1 hd) rfl hv hl k) hr
theorem OGo.astoreN (C : Cx p s m c Z own by0 ml) (X : Sd p l e R s m args below meth c n0 T h cells slots) {k : Fin 4} {x : Value} {l' : Array Slot} (hd : decode by0 pc = .ok (.astore_n k, 1)) (hp : pc + 1 = pc') (hv : x.isRef = true) (hl : storeLocals Ls k.val x = some l') (hr : OGo p e below K T (mkF m pc' l' (St))) : OGo p e below K T (mkF m pc Ls (x :: St)) := by
  subst hp
  obtain ⟨-, -, locs, Y, -⟩ := X
  exact OGo.st (fun t k => XS.astoreN Y.here C.1 rfl (hb C.2.2.2.1 hd) rfl hv hl k) hr
theorem OGo.iconst (C : Cx p s m c Z own by0 ml) (X : Sd p l e R s m args below meth c n0 T h cells slots) {i : Int} {z : Int32} (hd : decode by0 pc = .ok (.iconst i, 1)) (hp : pc + 1 = pc') (hz : Int32.ofInt i = z) (hr : OGo p e below K T (mkF m pc' Ls (.int z :: St))) : OGo p e below K T (mkF m pc Ls (St)) := by
  subst hp
  subst hz
  obtain ⟨-, -, locs, Y, -⟩ := X
  exact OGo.st (fun t k => XS.iconst Y.here C.1 rfl (hb C.2.2.2.1 hd)  k) hr
theorem OGo.bipush (C : Cx p s m c Z own by0 ml) (X : Sd p l e R s m args below meth c n0 T h cells slots) {i : Int} {z : Int32} (hd : decode by0 pc = .ok (.bipush i, 2)) (hp : pc + 2 = pc') (hz : (Int8.ofInt i).toInt32 = z) (hr : OGo p e below K T (mkF m pc' Ls (.int z :: St))) : OGo p e below K T (mkF m pc Ls (St)) := by
  subst hp
  subst hz
  obtain ⟨-, -, locs, Y, -⟩ := X
  exact OGo.st (fun t k => XS.bipush Y.here C.1 rfl (hb C.2.2.2.1 hd)  k) hr
theorem OGo.sipush (C : Cx p s m c Z own by0 ml) (X : Sd p l e R s m args below meth c n0 T h cells slots) {i : Int} {z : Int32} (hd : decode by0 pc = .ok (.sipush i, 3)) (hp : pc + 3 = pc') (hz : (Int16.ofInt i).toInt32 = z) (hr : OGo p e below K T (mkF m pc' Ls (.int z :: St))) : OGo p e below K T (mkF m pc Ls (St)) := by
  subst hp
  subst hz
  obtain ⟨-, -, locs, Y, -⟩ := X
  exact OGo.st (fun t k => XS.sipush Y.here C.1 rfl (hb C.2.2.2.1 hd)  k) hr
theorem OGo.lconst (C : Cx p s m c Z own by0 ml) (X : Sd p l e R s m args below meth c n0 T h cells slots) {k : Fin 2} {z : Int64} (hd : decode by0 pc = .ok (.lconst k, 1)) (hp : pc + 1 = pc') (hz : Int64.ofNat k = z) (hr : OGo p e below K T (mkF m pc' Ls (.long z :: St))) : OGo p e below K T (mkF m pc Ls (St)) := by
  subst hp
  subst hz
  obtain ⟨-, -, locs, Y, -⟩ := X
  exact OGo.st (fun t k => XS.lconst Y.here C.1 rfl (hb C.2.2.2.1 hd)  k) hr
theorem OGo.dconst0 (C : Cx p s m c Z own by0 ml) (X : Sd p l e R s m args below meth c n0 T h cells slots) {v : UInt64} (hd : decode by0 pc = .ok (.dconst 0, 1)) (hp : pc + 1 = pc') (hz : FP.dconst0 = v) (hr : OGo p e below K T (mkF m pc' Ls (.double v :: St))) : OGo p e below K T (mkF m pc Ls (St)) := by
  subst hp
  obtain ⟨-, -, locs, Y, -⟩ := X
  exact OGo.st (fun t k => XS.dconst0 Y.here C.1 rfl (hb C.2.2.2.1 hd) hz k) hr
theorem OGo.dconst1 (C : Cx p s m c Z own by0 ml) (X : Sd p l e R s m args below meth c n0 T h cells slots) {v : UInt64} (hd : decode by0 pc = .ok (.dconst 1, 1)) (hp : pc + 1 = pc') (hz : FP.dconst1 = v) (hr : OGo p e below K T (mkF m pc' Ls (.double v :: St))) : OGo p e below K T (mkF m pc Ls (St)) := by
  subst hp
  obtain ⟨-, -, locs, Y, -⟩ := X
  exact OGo.st (fun t k => XS.dconst1 Y.here C.1 rfl (hb C.2.2.2.1 hd) hz k) hr
theorem OGo.aconst_null (C : Cx p s m c Z own by0 ml) (X : Sd p l e R s m args below meth c n0 T h cells slots)  (hd : decode by0 pc = .ok (.aconst_null, 1)) (hp : pc + 1 = pc')  (hr : OGo p e below K T (mkF m pc' Ls (.null :: St))) : OGo p e below K T (mkF m pc Ls (St)) := by
  subst hp
  obtain ⟨-, -, locs, Y, -⟩ := X
  exact OGo.st (fun t k => XS.aconstNull Y.here C.1 rfl (hb C.2.2.2.1 hd)  k) hr
theorem OGo.iadd (C : Cx p s m c Z own by0 ml) (X : Sd p l e R s m args below meth c n0 T h cells slots) {x y z : Int32} (hd : decode by0 pc = .ok (.iadd, 1)) (hp : pc + 1 = pc') (hz : x + y = z) (hr : OGo p e below K T (mkF m pc' Ls (.int z :: St))) : OGo p e below K T (mkF m pc Ls (.int y :: .int x :: St)) := by
  subst hp
  subst hz
  obtain ⟨-, -, locs, Y, -⟩ := X
  exact OGo.st (fun t k => XS.iadd Y.here C.1 rfl (hb C.2.2.2.1 hd) rfl k) hr
theorem OGo.isub (C : Cx p s m c Z own by0 ml) (X : Sd p l e R s m args below meth c n0 T h cells slots) {x y z : Int32} (hd : decode by0 pc = .ok (.isub, 1)) (hp : pc + 1 = pc') (hz : x - y = z) (hr : OGo p e below K T (mkF m pc' Ls (.int z :: St))) : OGo p e below K T (mkF m pc Ls (.int y :: .int x :: St)) := by
  subst hp
  subst hz
  obtain ⟨-, -, locs, Y, -⟩ := X
  exact OGo.st (fun t k => XS.isub Y.here C.1 rfl (hb C.2.2.2.1 hd) rfl k) hr
theorem OGo.imul (C : Cx p s m c Z own by0 ml) (X : Sd p l e R s m args below meth c n0 T h cells slots) {x y z : Int32} (hd : decode by0 pc = .ok (.imul, 1)) (hp : pc + 1 = pc') (hz : x * y = z) (hr : OGo p e below K T (mkF m pc' Ls (.int z :: St))) : OGo p e below K T (mkF m pc Ls (.int y :: .int x :: St)) := by
  subst hp
  subst hz
  obtain ⟨-, -, locs, Y, -⟩ := X
  exact OGo.st (fun t k => XS.imul Y.here C.1 rfl (hb C.2.2.2.1 hd) rfl k) hr
theorem OGo.iand (C : Cx p s m c Z own by0 ml) (X : Sd p l e R s m args below meth c n0 T h cells slots) {x y z : Int32} (hd : decode by0 pc = .ok (.iand, 1)) (hp : pc + 1 = pc') (hz : x &&& y = z) (hr : OGo p e below K T (mkF m pc' Ls (.int z :: St))) : OGo p e below K T (mkF m pc Ls (.int y :: .int x :: St)) := by
  subst hp
  subst hz
  obtain ⟨-, -, locs, Y, -⟩ := X
  exact OGo.st (fun t k => XS.iand Y.here C.1 rfl (hb C.2.2.2.1 hd) rfl k) hr
theorem OGo.ior (C : Cx p s m c Z own by0 ml) (X : Sd p l e R s m args below meth c n0 T h cells slots) {x y z : Int32} (hd : decode by0 pc = .ok (.ior, 1)) (hp : pc + 1 = pc') (hz : x ||| y = z) (hr : OGo p e below K T (mkF m pc' Ls (.int z :: St))) : OGo p e below K T (mkF m pc Ls (.int y :: .int x :: St)) := by
  subst hp
  subst hz
  obtain ⟨-, -, locs, Y, -⟩ := X
  exact OGo.st (fun t k => XS.ior Y.here C.1 rfl (hb C.2.2.2.1 hd) rfl k) hr
theorem OGo.ixor (C : Cx p s m c Z own by0 ml) (X : Sd p l e R s m args below meth c n0 T h cells slots) {x y z : Int32} (hd : decode by0 pc = .ok (.ixor, 1)) (hp : pc + 1 = pc') (hz : x ^^^ y = z) (hr : OGo p e below K T (mkF m pc' Ls (.int z :: St))) : OGo p e below K T (mkF m pc Ls (.int y :: .int x :: St)) := by
  subst hp
  subst hz
  obtain ⟨-, -, locs, Y, -⟩ := X
  exact OGo.st (fun t k => XS.ixor Y.here C.1 rfl (hb C.2.2.2.1 hd) rfl k) hr
theorem OGo.ishl (C : Cx p s m c Z own by0 ml) (X : Sd p l e R s m args below meth c n0 T h cells slots) {x y z : Int32} (hd : decode by0 pc = .ok (.ishl, 1)) (hp : pc + 1 = pc') (hz : x <<< (y &&& 31) = z) (hr : OGo p e below K T (mkF m pc' Ls (.int z :: St))) : OGo p e below K T (mkF m pc Ls (.int y :: .int x :: St)) := by
  subst hp
  subst hz
  obtain ⟨-, -, locs, Y, -⟩ := X
  exact OGo.st (fun t k => XS.ishl Y.here C.1 rfl (hb C.2.2.2.1 hd) rfl k) hr
theorem OGo.ishr (C : Cx p s m c Z own by0 ml) (X : Sd p l e R s m args below meth c n0 T h cells slots) {x y z : Int32} (hd : decode by0 pc = .ok (.ishr, 1)) (hp : pc + 1 = pc') (hz : x >>> (y &&& 31) = z) (hr : OGo p e below K T (mkF m pc' Ls (.int z :: St))) : OGo p e below K T (mkF m pc Ls (.int y :: .int x :: St)) := by
  subst hp
  subst hz
  obtain ⟨-, -, locs, Y, -⟩ := X
  exact OGo.st (fun t k => XS.ishr Y.here C.1 rfl (hb C.2.2.2.1 hd) rfl k) hr
theorem OGo.iushr (C : Cx p s m c Z own by0 ml) (X : Sd p l e R s m args below meth c n0 T h cells slots) {x y z : Int32} (hd : decode by0 pc = .ok (.iushr, 1)) (hp : pc + 1 = pc') (hz : (x.toUInt32 >>> (y &&& 31).toUInt32).toInt32 = z) (hr : OGo p e below K T (mkF m pc' Ls (.int z :: St))) : OGo p e below K T (mkF m pc Ls (.int y :: .int x :: St)) := by
  subst hp
  subst hz
  obtain ⟨-, -, locs, Y, -⟩ := X
  exact OGo.st (fun t k => XS.iushr Y.here C.1 rfl (hb C.2.2.2.1 hd) rfl k) hr
theorem OGo.idiv (C : Cx p s m c Z own by0 ml) (X : Sd p l e R s m args below meth c n0 T h cells slots) {x y z : Int32} (hd : decode by0 pc = .ok (.idiv, 1)) (hp : pc + 1 = pc') (hy : y ≠ 0) (hz : x / y = z) (hr : OGo p e below K T (mkF m pc' Ls (.int z :: St))) : OGo p e below K T (mkF m pc Ls (.int y :: .int x :: St)) := by
  subst hp
  subst hz
  obtain ⟨-, -, locs, Y, -⟩ := X
  exact OGo.st (fun t k => XS.idiv Y.here C.1 rfl (hb C.2.2.2.1 hd) rfl hy k) hr
theorem OGo.irem (C : Cx p s m c Z own by0 ml) (X : Sd p l e R s m args below meth c n0 T h cells slots) {x y z : Int32} (hd : decode by0 pc = .ok (.irem, 1)) (hp : pc + 1 = pc') (hy : y ≠ 0) (hz : x % y = z) (hr : OGo p e below K T (mkF m pc' Ls (.int z :: St))) : OGo p e below K T (mkF m pc Ls (.int y :: .int x :: St)) := by
  subst hp
  subst hz
  obtain ⟨-, -, locs, Y, -⟩ := X
  exact OGo.st (fun t k => iremM Y C.1 rfl (hb C.2.2.2.1 hd) rfl hy k) hr
theorem OGo.ineg (C : Cx p s m c Z own by0 ml) (X : Sd p l e R s m args below meth c n0 T h cells slots) {x z : Int32} (hd : decode by0 pc = .ok (.ineg, 1)) (hp : pc + 1 = pc') (hz : -x = z) (hr : OGo p e below K T (mkF m pc' Ls (.int z :: St))) : OGo p e below K T (mkF m pc Ls (.int x :: St)) := by
  subst hp
  subst hz
  obtain ⟨-, -, locs, Y, -⟩ := X
  exact OGo.st (fun t k => XS.ineg Y.here C.1 rfl (hb C.2.2.2.1 hd) rfl k) hr
theorem OGo.iinc (C : Cx p s m c Z own by0 ml) (X : Sd p l e R s m args below meth c n0 T h cells slots) {k : Nat} {cst : Int} {x z : Int32} {l' : Array Slot} (hd : decode by0 pc = .ok (.iinc k cst, 3)) (hp : pc + 3 = pc') (hl : Ls[k]? = some (.val (.int x))) (hz : x + Int32.ofInt cst = z) (hl' : storeLocals Ls k (.int z) = some l') (hr : OGo p e below K T (mkF m pc' l' (St))) : OGo p e below K T (mkF m pc Ls (St)) := by
  subst hp
  subst hz
  obtain ⟨-, -, locs, Y, -⟩ := X
  exact OGo.st (fun t k => XS.iinc Y.here C.1 rfl (hb C.2.2.2.1 hd) hl hl' k) hr
theorem OGo.ladd (C : Cx p s m c Z own by0 ml) (X : Sd p l e R s m args below meth c n0 T h cells slots) {x y z : Int64} (hd : decode by0 pc = .ok (.ladd, 1)) (hp : pc + 1 = pc') (hz : x + y = z) (hr : OGo p e below K T (mkF m pc' Ls (.long z :: St))) : OGo p e below K T (mkF m pc Ls (.long y :: .long x :: St)) := by
  subst hp
  subst hz
  obtain ⟨-, -, locs, Y, -⟩ := X
  exact OGo.st (fun t k => XS.ladd Y.here C.1 rfl (hb C.2.2.2.1 hd) rfl k) hr
theorem OGo.lsub (C : Cx p s m c Z own by0 ml) (X : Sd p l e R s m args below meth c n0 T h cells slots) {x y z : Int64} (hd : decode by0 pc = .ok (.lsub, 1)) (hp : pc + 1 = pc') (hz : x - y = z) (hr : OGo p e below K T (mkF m pc' Ls (.long z :: St))) : OGo p e below K T (mkF m pc Ls (.long y :: .long x :: St)) := by
  subst hp
  subst hz
  obtain ⟨-, -, locs, Y, -⟩ := X
  exact OGo.st (fun t k => XS.lsub Y.here C.1 rfl (hb C.2.2.2.1 hd) rfl k) hr
theorem OGo.lmul (C : Cx p s m c Z own by0 ml) (X : Sd p l e R s m args below meth c n0 T h cells slots) {x y z : Int64} (hd : decode by0 pc = .ok (.lmul, 1)) (hp : pc + 1 = pc') (hz : x * y = z) (hr : OGo p e below K T (mkF m pc' Ls (.long z :: St))) : OGo p e below K T (mkF m pc Ls (.long y :: .long x :: St)) := by
  subst hp
  subst hz
  obtain ⟨-, -, locs, Y, -⟩ := X
  exact OGo.st (fun t k => XS.lmul Y.here C.1 rfl (hb C.2.2.2.1 hd) rfl k) hr
theorem OGo.land (C : Cx p s m c Z own by0 ml) (X : Sd p l e R s m args below meth c n0 T h cells slots) {x y z : Int64} (hd : decode by0 pc = .ok (.land, 1)) (hp : pc + 1 = pc') (hz : x &&& y = z) (hr : OGo p e below K T (mkF m pc' Ls (.long z :: St))) : OGo p e below K T (mkF m pc Ls (.long y :: .long x :: St)) := by
  subst hp
  subst hz
  obtain ⟨-, -, locs, Y, -⟩ := X
  exact OGo.st (fun t k => XS.land Y.here C.1 rfl (hb C.2.2.2.1 hd) rfl k) hr
theorem OGo.lor (C : Cx p s m c Z own by0 ml) (X : Sd p l e R s m args below meth c n0 T h cells slots) {x y z : Int64} (hd : decode by0 pc = .ok (.lor, 1)) (hp : pc + 1 = pc') (hz : x ||| y = z) (hr : OGo p e below K T (mkF m pc' Ls (.long z :: St))) : OGo p e below K T (mkF m pc Ls (.long y :: .long x :: St)) := by
  subst hp
  subst hz
  obtain ⟨-, -, locs, Y, -⟩ := X
  exact OGo.st (fun t k => XS.lor Y.here C.1 rfl (hb C.2.2.2.1 hd) rfl k) hr
theorem OGo.lxor (C : Cx p s m c Z own by0 ml) (X : Sd p l e R s m args below meth c n0 T h cells slots) {x y z : Int64} (hd : decode by0 pc = .ok (.lxor, 1)) (hp : pc + 1 = pc') (hz : x ^^^ y = z) (hr : OGo p e below K T (mkF m pc' Ls (.long z :: St))) : OGo p e below K T (mkF m pc Ls (.long y :: .long x :: St)) := by
  subst hp
  subst hz
  obtain ⟨-, -, locs, Y, -⟩ := X
  exact OGo.st (fun t k => XS.lxor Y.here C.1 rfl (hb C.2.2.2.1 hd) rfl k) hr
theorem OGo.lshl (C : Cx p s m c Z own by0 ml) (X : Sd p l e R s m args below meth c n0 T h cells slots) {x z : Int64} {y : Int32} (hd : decode by0 pc = .ok (.lshl, 1)) (hp : pc + 1 = pc') (hz : x <<< (y &&& 0x3f).toInt64 = z) (hr : OGo p e below K T (mkF m pc' Ls (.long z :: St))) : OGo p e below K T (mkF m pc Ls (.int y :: .long x :: St)) := by
  subst hp
  subst hz
  obtain ⟨-, -, locs, Y, -⟩ := X
  exact OGo.st (fun t k => XS.lshl Y.here C.1 rfl (hb C.2.2.2.1 hd) rfl k) hr
theorem OGo.lshr (C : Cx p s m c Z own by0 ml) (X : Sd p l e R s m args below meth c n0 T h cells slots) {x z : Int64} {y : Int32} (hd : decode by0 pc = .ok (.lshr, 1)) (hp : pc + 1 = pc') (hz : x >>> (y &&& 0x3f).toInt64 = z) (hr : OGo p e below K T (mkF m pc' Ls (.long z :: St))) : OGo p e below K T (mkF m pc Ls (.int y :: .long x :: St)) := by
  subst hp
  subst hz
  obtain ⟨-, -, locs, Y, -⟩ := X
  exact OGo.st (fun t k => XS.lshr Y.here C.1 rfl (hb C.2.2.2.1 hd) rfl k) hr
theorem OGo.lushr (C : Cx p s m c Z own by0 ml) (X : Sd p l e R s m args below meth c n0 T h cells slots) {x z : Int64} {y : Int32} (hd : decode by0 pc = .ok (.lushr, 1)) (hp : pc + 1 = pc') (hz : (x.toUInt64 >>> (y &&& 0x3f).toInt64.toUInt64).toInt64 = z) (hr : OGo p e below K T (mkF m pc' Ls (.long z :: St))) : OGo p e below K T (mkF m pc Ls (.int y :: .long x :: St)) := by
  subst hp
  subst hz
  obtain ⟨-, -, locs, Y, -⟩ := X
  exact OGo.st (fun t k => XS.lushr Y.here C.1 rfl (hb C.2.2.2.1 hd) rfl k) hr
theorem OGo.ldiv (C : Cx p s m c Z own by0 ml) (X : Sd p l e R s m args below meth c n0 T h cells slots) {x y z : Int64} (hd : decode by0 pc = .ok (.ldiv, 1)) (hp : pc + 1 = pc') (hy : y ≠ 0) (hz : x / y = z) (hr : OGo p e below K T (mkF m pc' Ls (.long z :: St))) : OGo p e below K T (mkF m pc Ls (.long y :: .long x :: St)) := by
  subst hp
  subst hz
  obtain ⟨-, -, locs, Y, -⟩ := X
  exact OGo.st (fun t k => XS.ldiv Y.here C.1 rfl (hb C.2.2.2.1 hd) rfl hy k) hr
theorem OGo.lrem (C : Cx p s m c Z own by0 ml) (X : Sd p l e R s m args below meth c n0 T h cells slots) {x y z : Int64} (hd : decode by0 pc = .ok (.lrem, 1)) (hp : pc + 1 = pc') (hy : y ≠ 0) (hz : x - (x / y) * y = z) (hr : OGo p e below K T (mkF m pc' Ls (.long z :: St))) : OGo p e below K T (mkF m pc Ls (.long y :: .long x :: St)) := by
  subst hp
  subst hz
  obtain ⟨-, -, locs, Y, -⟩ := X
  exact OGo.st (fun t k => XS.lrem Y.here C.1 rfl (hb C.2.2.2.1 hd) rfl hy k) hr
theorem OGo.lneg (C : Cx p s m c Z own by0 ml) (X : Sd p l e R s m args below meth c n0 T h cells slots) {x z : Int64} (hd : decode by0 pc = .ok (.lneg, 1)) (hp : pc + 1 = pc') (hz : -x = z) (hr : OGo p e below K T (mkF m pc' Ls (.long z :: St))) : OGo p e below K T (mkF m pc Ls (.long x :: St)) := by
  subst hp
  subst hz
  obtain ⟨-, -, locs, Y, -⟩ := X
  exact OGo.st (fun t k => XS.lneg Y.here C.1 rfl (hb C.2.2.2.1 hd) rfl k) hr
theorem OGo.i2l (C : Cx p s m c Z own by0 ml) (X : Sd p l e R s m args below meth c n0 T h cells slots) {x : Int32} {z : Int64} (hd : decode by0 pc = .ok (.i2l, 1)) (hp : pc + 1 = pc') (hz : x.toInt64 = z) (hr : OGo p e below K T (mkF m pc' Ls (.long z :: St))) : OGo p e below K T (mkF m pc Ls (.int x :: St)) := by
  subst hp
  subst hz
  obtain ⟨-, -, locs, Y, -⟩ := X
  exact OGo.st (fun t k => XS.i2l Y.here C.1 rfl (hb C.2.2.2.1 hd) rfl k) hr
theorem OGo.l2i (C : Cx p s m c Z own by0 ml) (X : Sd p l e R s m args below meth c n0 T h cells slots) {x : Int64} {z : Int32} (hd : decode by0 pc = .ok (.l2i, 1)) (hp : pc + 1 = pc') (hz : x.toInt32 = z) (hr : OGo p e below K T (mkF m pc' Ls (.int z :: St))) : OGo p e below K T (mkF m pc Ls (.long x :: St)) := by
  subst hp
  subst hz
  obtain ⟨-, -, locs, Y, -⟩ := X
  exact OGo.st (fun t k => XS.l2i Y.here C.1 rfl (hb C.2.2.2.1 hd) rfl k) hr
theorem OGo.i2b (C : Cx p s m c Z own by0 ml) (X : Sd p l e R s m args below meth c n0 T h cells slots) {x : Int32} {z : Int32} (hd : decode by0 pc = .ok (.i2b, 1)) (hp : pc + 1 = pc') (hz : x.toInt8.toInt32 = z) (hr : OGo p e below K T (mkF m pc' Ls (.int z :: St))) : OGo p e below K T (mkF m pc Ls (.int x :: St)) := by
  subst hp
  subst hz
  obtain ⟨-, -, locs, Y, -⟩ := X
  exact OGo.st (fun t k => XS.i2b Y.here C.1 rfl (hb C.2.2.2.1 hd) rfl k) hr
theorem OGo.i2c (C : Cx p s m c Z own by0 ml) (X : Sd p l e R s m args below meth c n0 T h cells slots) {x : Int32} {z : Int32} (hd : decode by0 pc = .ok (.i2c, 1)) (hp : pc + 1 = pc') (hz : x.toUInt32.toUInt16.toUInt32.toInt32 = z) (hr : OGo p e below K T (mkF m pc' Ls (.int z :: St))) : OGo p e below K T (mkF m pc Ls (.int x :: St)) := by
  subst hp
  subst hz
  obtain ⟨-, -, locs, Y, -⟩ := X
  exact OGo.st (fun t k => XS.i2c Y.here C.1 rfl (hb C.2.2.2.1 hd) rfl k) hr
theorem OGo.i2s (C : Cx p s m c Z own by0 ml) (X : Sd p l e R s m args below meth c n0 T h cells slots) {x : Int32} {z : Int32} (hd : decode by0 pc = .ok (.i2s, 1)) (hp : pc + 1 = pc') (hz : x.toInt16.toInt32 = z) (hr : OGo p e below K T (mkF m pc' Ls (.int z :: St))) : OGo p e below K T (mkF m pc Ls (.int x :: St)) := by
  subst hp
  subst hz
  obtain ⟨-, -, locs, Y, -⟩ := X
  exact OGo.st (fun t k => XS.i2s Y.here C.1 rfl (hb C.2.2.2.1 hd) rfl k) hr
theorem OGo.lcmp (C : Cx p s m c Z own by0 ml) (X : Sd p l e R s m args below meth c n0 T h cells slots) {x y : Int64} {z : Int32} (hd : decode by0 pc = .ok (.lcmp, 1)) (hp : pc + 1 = pc') (hz : lcmpW x y = z) (hr : OGo p e below K T (mkF m pc' Ls (.int z :: St))) : OGo p e below K T (mkF m pc Ls (.long y :: .long x :: St)) := by
  subst hp
  subst hz
  obtain ⟨-, -, locs, Y, -⟩ := X
  exact OGo.st (fun t k => XS.lcmp Y.here C.1 rfl (hb C.2.2.2.1 hd) rfl k) hr
theorem OGo.i2d (C : Cx p s m c Z own by0 ml) (X : Sd p l e R s m args below meth c n0 T h cells slots) {x : Int32} {v : UInt64} (hd : decode by0 pc = .ok (.i2d, 1)) (hp : pc + 1 = pc') (hz : FP.i2d x = v) (hr : OGo p e below K T (mkF m pc' Ls (.double v :: St))) : OGo p e below K T (mkF m pc Ls (.int x :: St)) := by
  subst hp
  obtain ⟨-, -, locs, Y, -⟩ := X
  exact OGo.st (fun t k => XS.i2dS Y.here C.1 rfl (hb C.2.2.2.1 hd) rfl hz k) hr
theorem OGo.l2d (C : Cx p s m c Z own by0 ml) (X : Sd p l e R s m args below meth c n0 T h cells slots) {x : Int64} {v : UInt64} (hd : decode by0 pc = .ok (.l2d, 1)) (hp : pc + 1 = pc') (hz : FP.l2d x = v) (hr : OGo p e below K T (mkF m pc' Ls (.double v :: St))) : OGo p e below K T (mkF m pc Ls (.long x :: St)) := by
  subst hp
  obtain ⟨-, -, locs, Y, -⟩ := X
  exact OGo.st (fun t k => XS.l2dS Y.here C.1 rfl (hb C.2.2.2.1 hd) rfl hz k) hr
theorem OGo.d2i (C : Cx p s m c Z own by0 ml) (X : Sd p l e R s m args below meth c n0 T h cells slots) {x : UInt64} {v : Int32} (hd : decode by0 pc = .ok (.d2i, 1)) (hp : pc + 1 = pc') (hz : FP.d2i x = v) (hr : OGo p e below K T (mkF m pc' Ls (.int v :: St))) : OGo p e below K T (mkF m pc Ls (.double x :: St)) := by
  subst hp
  obtain ⟨-, -, locs, Y, -⟩ := X
  exact OGo.st (fun t k => XS.d2iS Y.here C.1 rfl (hb C.2.2.2.1 hd) rfl hz k) hr
theorem OGo.d2l (C : Cx p s m c Z own by0 ml) (X : Sd p l e R s m args below meth c n0 T h cells slots) {x : UInt64} {v : Int64} (hd : decode by0 pc = .ok (.d2l, 1)) (hp : pc + 1 = pc') (hz : FP.d2l x = v) (hr : OGo p e below K T (mkF m pc' Ls (.long v :: St))) : OGo p e below K T (mkF m pc Ls (.double x :: St)) := by
  subst hp
  obtain ⟨-, -, locs, Y, -⟩ := X
  exact OGo.st (fun t k => XS.d2lS Y.here C.1 rfl (hb C.2.2.2.1 hd) rfl hz k) hr
theorem OGo.dneg (C : Cx p s m c Z own by0 ml) (X : Sd p l e R s m args below meth c n0 T h cells slots) {x : UInt64} {v : UInt64} (hd : decode by0 pc = .ok (.dneg, 1)) (hp : pc + 1 = pc') (hz : FP.dneg x = v) (hr : OGo p e below K T (mkF m pc' Ls (.double v :: St))) : OGo p e below K T (mkF m pc Ls (.double x :: St)) := by
  subst hp
  obtain ⟨-, -, locs, Y, -⟩ := X
  exact OGo.st (fun t k => XS.dnegS Y.here C.1 rfl (hb C.2.2.2.1 hd) rfl hz k) hr
theorem OGo.dcmp (C : Cx p s m c Z own by0 ml) (X : Sd p l e R s m args below meth c n0 T h cells slots) {o : CmpOp} {x y : UInt64} {v : Int32} (hd : decode by0 pc = .ok (.dcmp o, 1)) (hp : pc + 1 = pc') (hz : cmpValue (FP.dcmp x y) o = v) (hr : OGo p e below K T (mkF m pc' Ls (.int v :: St))) : OGo p e below K T (mkF m pc Ls (.double y :: .double x :: St)) := by
  subst hp
  obtain ⟨-, -, locs, Y, -⟩ := X
  exact OGo.st (fun t k => XS.dcmpS Y.here C.1 rfl (hb C.2.2.2.1 hd) rfl hz k) hr
theorem OGo.dadd (C : Cx p s m c Z own by0 ml) (X : Sd p l e R s m args below meth c n0 T h cells slots) {x y v : UInt64} (hd : decode by0 pc = .ok (.dadd, 1)) (hp : pc + 1 = pc') (hn : Jvm.Free.Fl.NoNaN64 (FP.dadd x y)) (hz : FP.dadd x y = v) (hr : OGo p e below K T (mkF m pc' Ls (.double v :: St))) : OGo p e below K T (mkF m pc Ls (.double y :: .double x :: St)) := by
  subst hp
  obtain ⟨-, -, locs, Y, -⟩ := X
  exact OGo.st (fun t k => XS.daddS Y.here C.1 rfl (hb C.2.2.2.1 hd) rfl hn hz k) hr
theorem OGo.dsub (C : Cx p s m c Z own by0 ml) (X : Sd p l e R s m args below meth c n0 T h cells slots) {x y v : UInt64} (hd : decode by0 pc = .ok (.dsub, 1)) (hp : pc + 1 = pc') (hn : Jvm.Free.Fl.NoNaN64 (FP.dsub x y)) (hz : FP.dsub x y = v) (hr : OGo p e below K T (mkF m pc' Ls (.double v :: St))) : OGo p e below K T (mkF m pc Ls (.double y :: .double x :: St)) := by
  subst hp
  obtain ⟨-, -, locs, Y, -⟩ := X
  exact OGo.st (fun t k => XS.dsubS Y.here C.1 rfl (hb C.2.2.2.1 hd) rfl hn hz k) hr
theorem OGo.dmul (C : Cx p s m c Z own by0 ml) (X : Sd p l e R s m args below meth c n0 T h cells slots) {x y v : UInt64} (hd : decode by0 pc = .ok (.dmul, 1)) (hp : pc + 1 = pc') (hn : Jvm.Free.Fl.NoNaN64 (FP.dmul x y)) (hz : FP.dmul x y = v) (hr : OGo p e below K T (mkF m pc' Ls (.double v :: St))) : OGo p e below K T (mkF m pc Ls (.double y :: .double x :: St)) := by
  subst hp
  obtain ⟨-, -, locs, Y, -⟩ := X
  exact OGo.st (fun t k => XS.dmulS Y.here C.1 rfl (hb C.2.2.2.1 hd) rfl hn hz k) hr
theorem OGo.ddiv (C : Cx p s m c Z own by0 ml) (X : Sd p l e R s m args below meth c n0 T h cells slots) {x y v : UInt64} (hd : decode by0 pc = .ok (.ddiv, 1)) (hp : pc + 1 = pc') (hn : Jvm.Free.Fl.NoNaN64 (FP.ddiv x y)) (hz : FP.ddiv x y = v) (hr : OGo p e below K T (mkF m pc' Ls (.double v :: St))) : OGo p e below K T (mkF m pc Ls (.double y :: .double x :: St)) := by
  subst hp
  obtain ⟨-, -, locs, Y, -⟩ := X
  exact OGo.st (fun t k => XS.ddivS Y.here C.1 rfl (hb C.2.2.2.1 hd) rfl hn hz k) hr
theorem OGo.dup (C : Cx p s m c Z own by0 ml) (X : Sd p l e R s m args below meth c n0 T h cells slots) {x : Value} (hd : decode by0 pc = .ok (.dup, 1)) (hp : pc + 1 = pc') (hc : x.category = 1) (hr : OGo p e below K T (mkF m pc' Ls (x :: x :: St))) : OGo p e below K T (mkF m pc Ls (x :: St)) := by
  subst hp
  obtain ⟨-, -, locs, Y, -⟩ := X
  exact OGo.st (fun t k => XS.dup Y.here C.1 rfl (hb C.2.2.2.1 hd) rfl hc k) hr
theorem OGo.pop (C : Cx p s m c Z own by0 ml) (X : Sd p l e R s m args below meth c n0 T h cells slots) {x : Value} (hd : decode by0 pc = .ok (.pop, 1)) (hp : pc + 1 = pc') (hc : x.category = 1) (hr : OGo p e below K T (mkF m pc' Ls (St))) : OGo p e below K T (mkF m pc Ls (x :: St)) := by
  subst hp
  obtain ⟨-, -, locs, Y, -⟩ := X
  exact OGo.st (fun t k => XS.pop Y.here C.1 rfl (hb C.2.2.2.1 hd) rfl hc k) hr
theorem OGo.dup_x1 (C : Cx p s m c Z own by0 ml) (X : Sd p l e R s m args below meth c n0 T h cells slots) {x y : Value} (hd : decode by0 pc = .ok (.dup_x1, 1)) (hp : pc + 1 = pc') (hc : x.category = 1) (hc' : y.category = 1) (hr : OGo p e below K T (mkF m pc' Ls (x :: y :: x :: St))) : OGo p e below K T (mkF m pc Ls (x :: y :: St)) := by
  subst hp
  obtain ⟨-, -, locs, Y, -⟩ := X
  exact OGo.st (fun t k => XS.dupX1 Y.here C.1 rfl (hb C.2.2.2.1 hd) rfl hc hc' k) hr
theorem OGo.dup2 (C : Cx p s m c Z own by0 ml) (X : Sd p l e R s m args below meth c n0 T h cells slots) {x y : Value} (hd : decode by0 pc = .ok (.dup2, 1)) (hp : pc + 1 = pc') (hc : x.category = 1) (hc' : y.category = 1) (hr : OGo p e below K T (mkF m pc' Ls (x :: y :: x :: y :: St))) : OGo p e below K T (mkF m pc Ls (x :: y :: St)) := by
  subst hp
  obtain ⟨-, -, locs, Y, -⟩ := X
  exact OGo.st (fun t k => XT.dup2 Y.here C.1 rfl (hb C.2.2.2.1 hd) rfl hc hc' k) hr
theorem OGo.goto (C : Cx p s m c Z own by0 ml) (X : Sd p l e R s m args below meth c n0 T h cells slots)  {o : Int} (hd : decode by0 pc = .ok (.goto o, 3))  (ho : 0 ≤ (pc : Int) + o) (hp : ((pc : Int) + o).toNat = pc') (hr : OGo p e below K T (mkF m pc' Ls (St))) : OGo p e below K T (mkF m pc Ls (St)) := by
  obtain ⟨-, -, locs, Y, -⟩ := X
  exact OGo.st (fun t k => XS.goto Y.here C.1 rfl (pc0 := pc) rfl (hb C.2.2.2.1 hd)  ho hp k) hr
theorem OGo.ifYes (C : Cx p s m c Z own by0 ml) (X : Sd p l e R s m args below meth c n0 T h cells slots) {cd : ClassFile.Cond} {x : Int32} {o : Int} (hd : decode by0 pc = .ok (.ifCond cd o, 3)) (hc : if_icmp.holds cd x 0 = true) (ho : 0 ≤ (pc : Int) + o) (hp : ((pc : Int) + o).toNat = pc') (hr : OGo p e below K T (mkF m pc' Ls (St))) : OGo p e below K T (mkF m pc Ls (.int x :: St)) := by
  obtain ⟨-, -, locs, Y, -⟩ := X
  exact OGo.st (fun t k => XS.ifYes Y.here C.1 rfl (pc0 := pc) rfl (hb C.2.2.2.1 hd) rfl ((if0 _ _).trans hc) ho hp k) hr
theorem OGo.ifNo (C : Cx p s m c Z own by0 ml) (X : Sd p l e R s m args below meth c n0 T h cells slots) {cd : ClassFile.Cond} {x : Int32} {o : Int} (hd : decode by0 pc = .ok (.ifCond cd o, 3)) (hp : pc + 3 = pc') (hc : if_icmp.holds cd x 0 = false) (hr : OGo p e below K T (mkF m pc' Ls (St))) : OGo p e below K T (mkF m pc Ls (.int x :: St)) := by
  subst hp
  obtain ⟨-, -, locs, Y, -⟩ := X
  exact OGo.st (fun t k => XS.ifNo Y.here C.1 rfl (hb C.2.2.2.1 hd) rfl ((if0 _ _).trans hc) k) hr
theorem OGo.icmpYes (C : Cx p s m c Z own by0 ml) (X : Sd p l e R s m args below meth c n0 T h cells slots) {cd : ClassFile.Cond} {x y : Int32} {o : Int} (hd : decode by0 pc = .ok (.if_icmp cd o, 3)) (hc : if_icmp.holds cd x y = true) (ho : 0 ≤ (pc : Int) + o) (hp : ((pc : Int) + o).toNat = pc') (hr : OGo p e below K T (mkF m pc' Ls (St))) : OGo p e below K T (mkF m pc Ls (.int y :: .int x :: St)) := by
  obtain ⟨-, -, locs, Y, -⟩ := X
  exact OGo.st (fun t k => XS.icmpYes Y.here C.1 rfl (pc0 := pc) rfl (hb C.2.2.2.1 hd) rfl hc ho hp k) hr
theorem OGo.icmpNo (C : Cx p s m c Z own by0 ml) (X : Sd p l e R s m args below meth c n0 T h cells slots) {cd : ClassFile.Cond} {x y : Int32} {o : Int} (hd : decode by0 pc = .ok (.if_icmp cd o, 3)) (hp : pc + 3 = pc') (hc : if_icmp.holds cd x y = false) (hr : OGo p e below K T (mkF m pc' Ls (St))) : OGo p e below K T (mkF m pc Ls (.int y :: .int x :: St)) := by
  subst hp
  obtain ⟨-, -, locs, Y, -⟩ := X
  exact OGo.st (fun t k => XS.icmpNo Y.here C.1 rfl (hb C.2.2.2.1 hd) rfl hc k) hr
theorem OGo.ifnullYes (C : Cx p s m c Z own by0 ml) (X : Sd p l e R s m args below meth c n0 T h cells slots)  {o : Int} (hd : decode by0 pc = .ok (.ifnull o, 3))  (ho : 0 ≤ (pc : Int) + o) (hp : ((pc : Int) + o).toNat = pc') (hr : OGo p e below K T (mkF m pc' Ls (St))) : OGo p e below K T (mkF m pc Ls (.null :: St)) := by
  obtain ⟨-, -, locs, Y, -⟩ := X
  exact OGo.st (fun t k => XS.ifnullYes Y.here C.1 rfl (pc0 := pc) rfl (hb C.2.2.2.1 hd) rfl ho hp k) hr
theorem OGo.ifnullNo (C : Cx p s m c Z own by0 ml) (X : Sd p l e R s m args below meth c n0 T h cells slots) {b : Addr} {o : Int} (hd : decode by0 pc = .ok (.ifnull o, 3)) (hp : pc + 3 = pc')  (hr : OGo p e below K T (mkF m pc' Ls (St))) : OGo p e below K T (mkF m pc Ls (.ref b :: St)) := by
  subst hp
  obtain ⟨-, -, locs, Y, -⟩ := X
  exact OGo.st (fun t k => XS.ifnullNo Y.here C.1 rfl (hb C.2.2.2.1 hd) rfl k) hr
theorem OGo.ifnonnullYes (C : Cx p s m c Z own by0 ml) (X : Sd p l e R s m args below meth c n0 T h cells slots) {b : Addr} {o : Int} (hd : decode by0 pc = .ok (.ifnonnull o, 3))  (ho : 0 ≤ (pc : Int) + o) (hp : ((pc : Int) + o).toNat = pc') (hr : OGo p e below K T (mkF m pc' Ls (St))) : OGo p e below K T (mkF m pc Ls (.ref b :: St)) := by
  obtain ⟨-, -, locs, Y, -⟩ := X
  exact OGo.st (fun t k => XS.ifnonnullYes Y.here C.1 rfl (pc0 := pc) rfl (hb C.2.2.2.1 hd) rfl ho hp k) hr
theorem OGo.ifnonnullNo (C : Cx p s m c Z own by0 ml) (X : Sd p l e R s m args below meth c n0 T h cells slots)  {o : Int} (hd : decode by0 pc = .ok (.ifnonnull o, 3)) (hp : pc + 3 = pc')  (hr : OGo p e below K T (mkF m pc' Ls (St))) : OGo p e below K T (mkF m pc Ls (.null :: St)) := by
  subst hp
  obtain ⟨-, -, locs, Y, -⟩ := X
  exact OGo.st (fun t k => XS.ifnonnullNo Y.here C.1 rfl (hb C.2.2.2.1 hd) rfl k) hr
theorem OGo.acmp (C : Cx p s m c Z own by0 ml) (X : Sd p l e R s m args below meth c n0 T h cells slots) {cd : ACond} {x y : Value} (h1 : x.isRef = true) (h2 : y.isRef = true) {o : Int} {same : Bool} (hd : decode by0 pc = .ok (.if_acmp cd o, 3)) (hq : decide (x = y) = same) (ho : 0 ≤ (pc : Int) + o) (hp : pc' = if acV cd same = true then ((pc : Int) + o).toNat else pc + 3) (hr : OGo p e below K T (mkF m pc' Ls (St))) : OGo p e below K T (mkF m pc Ls (y :: x :: St)) := by
  obtain ⟨-, -, locs, Y, -⟩ := X
  exact OGo.st (fun t k => RoadKit.acmp Y C.1 rfl h1 h2 (pc0 := pc) rfl (hb C.2.2.2.1 hd) rfl hq ho hp k) hr
theorem OGo.ldcInt (C : Cx p s m c Z own by0 ml) (X : Sd p l e R s m args below meth c n0 T h cells slots) {idx : Nat} {v : Int32} (w : (Jvm.Cond.constant own idx v).before a0 Z = true) (hd : decode by0 pc = .ok (.ldc idx, 2)) (hp : pc + 2 = pc') (hr : OGo p e below K T (mkF m pc' Ls (.int v :: St))) : OGo p e below K T (mkF m pc Ls (St)) := by
  subst hp
  obtain ⟨-, -, locs, Y, -⟩ := X
  exact OGo.st (fun t k => Y.ldcInt C.1 C.2.2.1 (mvT C.2.1 w) (g := mkF m pc Ls St) rfl (hb C.2.2.2.1 hd) t k) hr
theorem OGo.ldc2Long (C : Cx p s m c Z own by0 ml) (X : Sd p l e R s m args below meth c n0 T h cells slots) {idx : Nat} {v : Int64} (w : (Jvm.Cond.constantLong own idx v).before a0 Z = true) (hd : decode by0 pc = .ok (.ldc2_w idx, 3)) (hp : pc + 3 = pc') (hr : OGo p e below K T (mkF m pc' Ls (.long v :: St))) : OGo p e below K T (mkF m pc Ls (St)) := by
  subst hp
  obtain ⟨-, -, locs, Y, -⟩ := X
  exact OGo.st (fun t k => Y.ldc2Long C.1 C.2.2.1 (mvT C.2.1 w) (g := mkF m pc Ls St) rfl (hb C.2.2.2.1 hd) t k) hr
theorem OGo.ldc2Double (C : Cx p s m c Z own by0 ml) (X : Sd p l e R s m args below meth c n0 T h cells slots) {idx : Nat} {v : UInt64} (w : (Jvm.Cond.constantDouble own idx v).before a0 Z = true) (hd : decode by0 pc = .ok (.ldc2_w idx, 3)) (hp : pc + 3 = pc') (hr : OGo p e below K T (mkF m pc' Ls (.double v :: St))) : OGo p e below K T (mkF m pc Ls (St)) := by
  subst hp
  obtain ⟨-, -, locs, Y, -⟩ := X
  exact OGo.st (fun t k => Y.ldc2DoubleC C.1 C.2.2.1 (mvT C.2.1 w) (g := mkF m pc Ls St) rfl (hb C.2.2.2.1 hd) t k) hr
theorem OGo.ldcStr (C : Cx p s m c Z own by0 ml) (X : Sd p l e R s m args below meth c n0 T h cells slots) {idx : Nat} {text : String} {a : Addr} (w : (Jvm.Cond.stringRef own idx text).before a0 Z = true) (L : RoadKit.Lit Z own idx a) (hd : decode by0 pc = .ok (.ldc idx, 2)) (hp : pc + 2 = pc') (hr : OGo p e below K T (mkF m pc' Ls (.ref a :: St))) : OGo p e below K T (mkF m pc Ls (St)) := by
  subst hp
  obtain ⟨-, -, locs, Y, -⟩ := X
  exact OGo.st (fun t k => ldcR Y C.1 C.2.1 C.2.2.1 w L (g := mkF m pc Ls St) rfl (hb C.2.2.2.1 hd) t k) hr
theorem OGo.arraylength (C : Cx p s m c Z own by0 ml) (X : Sd p l e R s m args below meth c n0 T h cells slots) {a : Addr} {k : ClassId} {ty : FieldType} {z : Int32} {vs : List Value} {dv : Value} (V : Arv Z h a k ty z vs dv) (hd : decode by0 pc = .ok (.arraylength, 1)) (hp : pc + 1 = pc') (hr : OGo p e below K T (mkF m pc' Ls (.int z :: St))) : OGo p e below K T (mkF m pc Ls (.ref a :: St)) := by
  subst hp
  obtain ⟨eT, -, locs, Y, -⟩ := X
  obtain ⟨cl, A, -, S, q, -⟩ := V
  refine OGo.st (fun t k => Y.arraylength C.1 (by rw [eT]; exact A.1) (State.isArrayOf_alike C.2.1.alike A.2.1) (g := mkF m pc Ls (.ref a :: St)) rfl rfl (hb C.2.2.2.1 hd) t ?_) hr
  rw [len_of S q]; exact k
theorem OGo.iaload (C : Cx p s m c Z own by0 ml) (X : Sd p l e R s m args below meth c n0 T h cells slots) {a : Addr} {k : ClassId} {z : Int32} {vs : List Value} {dv : Value} (V : Arv Z h a k .int z vs dv) {j : Int32} {v : Int32} (hd : decode by0 pc = .ok (.iaload, 1)) (hp : pc + 1 = pc') (hj : ¬ j < 0 ∧ j < z) (hv : vs.getD j.toNatClampNeg dv = .int v) (hr : OGo p e below K T (mkF m pc' Ls (.int v :: St))) : OGo p e below K T (mkF m pc Ls (.int j :: .ref a :: St)) := by
  subst hp
  obtain ⟨eT, -, locs, Y, -⟩ := X
  obtain ⟨cl, A, -, S, q, H, -⟩ := V
  exact OGo.st (fun t k => Y.iaload C.1 (by rw [eT]; exact A.1) (State.isArrayOf_alike C.2.1.alike A.2.1) A.2.2 (inb_of S hj) (Has.at H (inb_of S hj) hv) (g := mkF m pc Ls (.int j :: .ref a :: St)) rfl rfl (hb C.2.2.2.1 hd) t k) hr
theorem OGo.laload (C : Cx p s m c Z own by0 ml) (X : Sd p l e R s m args below meth c n0 T h cells slots) {a : Addr} {k : ClassId} {z : Int32} {vs : List Value} {dv : Value} (V : Arv Z h a k .long z vs dv) {j : Int32} {v : Int64} (hd : decode by0 pc = .ok (.laload, 1)) (hp : pc + 1 = pc') (hj : ¬ j < 0 ∧ j < z) (hv : vs.getD j.toNatClampNeg dv = .long v) (hr : OGo p e below K T (mkF m pc' Ls (.long v :: St))) : OGo p e below K T (mkF m pc Ls (.int j :: .ref a :: St)) := by
  subst hp
  obtain ⟨eT, -, locs, Y, -⟩ := X
  obtain ⟨cl, A, -, S, q, H, -⟩ := V
  exact OGo.st (fun t k => Y.laload C.1 (by rw [eT]; exact A.1) (State.isArrayOf_alike C.2.1.alike A.2.1) A.2.2 (inb_of S hj) (Has.at H (inb_of S hj) hv) (g := mkF m pc Ls (.int j :: .ref a :: St)) rfl rfl (hb C.2.2.2.1 hd) t k) hr
theorem OGo.daload (C : Cx p s m c Z own by0 ml) (X : Sd p l e R s m args below meth c n0 T h cells slots) {a : Addr} {k : ClassId} {z : Int32} {vs : List Value} {dv : Value} (V : Arv Z h a k .double z vs dv) {j : Int32} {v : UInt64} (hd : decode by0 pc = .ok (.daload, 1)) (hp : pc + 1 = pc') (hj : ¬ j < 0 ∧ j < z) (hv : vs.getD j.toNatClampNeg dv = .double v) (hr : OGo p e below K T (mkF m pc' Ls (.double v :: St))) : OGo p e below K T (mkF m pc Ls (.int j :: .ref a :: St)) := by
  subst hp
  obtain ⟨eT, -, locs, Y, -⟩ := X
  obtain ⟨cl, A, -, S, q, H, -⟩ := V
  exact OGo.st (fun t k => Y.daload C.1 (by rw [eT]; exact A.1) (State.isArrayOf_alike C.2.1.alike A.2.1) A.2.2 (inb_of S hj) (Has.at H (inb_of S hj) hv) (g := mkF m pc Ls (.int j :: .ref a :: St)) rfl rfl (hb C.2.2.2.1 hd) t k) hr
theorem OGo.caload (C : Cx p s m c Z own by0 ml) (X : Sd p l e R s m args below meth c n0 T h cells slots) {a : Addr} {k : ClassId} {z : Int32} {vs : List Value} {dv : Value} (V : Arv Z h a k .char z vs dv) {j : Int32} {v : Int32} (hd : decode by0 pc = .ok (.caload, 1)) (hp : pc + 1 = pc') (hj : ¬ j < 0 ∧ j < z) (hv : vs.getD j.toNatClampNeg dv = .int v) (hr : OGo p e below K T (mkF m pc' Ls (.int v :: St))) : OGo p e below K T (mkF m pc Ls (.int j :: .ref a :: St)) := by
  subst hp
  obtain ⟨eT, -, locs, Y, -⟩ := X
  obtain ⟨cl, A, -, S, q, H, -⟩ := V
  exact OGo.st (fun t k => Y.caload C.1 (by rw [eT]; exact A.1) (State.isArrayOf_alike C.2.1.alike A.2.1) A.2.2 (inb_of S hj) (Has.at H (inb_of S hj) hv) (g := mkF m pc Ls (.int j :: .ref a :: St)) rfl rfl (hb C.2.2.2.1 hd) t k) hr
theorem OGo.baloadB (C : Cx p s m c Z own by0 ml) (X : Sd p l e R s m args below meth c n0 T h cells slots) {a : Addr} {k : ClassId} {z : Int32} {vs : List Value} {dv : Value} (V : Arv Z h a k .byte z vs dv) {j : Int32} {v : Int32} (hd : decode by0 pc = .ok (.baload, 1)) (hp : pc + 1 = pc') (hj : ¬ j < 0 ∧ j < z) (hv : vs.getD j.toNatClampNeg dv = .int v) (hr : OGo p e below K T (mkF m pc' Ls (.int v :: St))) : OGo p e below K T (mkF m pc Ls (.int j :: .ref a :: St)) := by
  subst hp
  obtain ⟨eT, -, locs, Y, -⟩ := X
  obtain ⟨cl, A, -, S, q, H, -⟩ := V
  exact OGo.st (fun t k => Y.baloadBytes C.1 (by rw [eT]; exact A.1) (State.isArrayOf_alike C.2.1.alike A.2.1) A.2.2 (inb_of S hj) (Has.at H (inb_of S hj) hv) (g := mkF m pc Ls (.int j :: .ref a :: St)) rfl rfl (hb C.2.2.2.1 hd) t k) hr
theorem OGo.baloadZ (C : Cx p s m c Z own by0 ml) (X : Sd p l e R s m args below meth c n0 T h cells slots) {a : Addr} {k : ClassId} {z : Int32} {vs : List Value} {dv : Value} (V : Arv Z h a k .boolean z vs dv) {j : Int32} {v : Int32} (hd : decode by0 pc = .ok (.baload, 1)) (hp : pc + 1 = pc') (hj : ¬ j < 0 ∧ j < z) (hv : vs.getD j.toNatClampNeg dv = .int v) (hr : OGo p e below K T (mkF m pc' Ls (.int v :: St))) : OGo p e below K T (mkF m pc Ls (.int j :: .ref a :: St)) := by
  subst hp
  obtain ⟨eT, -, locs, Y, -⟩ := X
  obtain ⟨cl, A, -, S, q, H, -⟩ := V
  exact OGo.st (fun t k => Y.baloadBooleans C.1 (by rw [eT]; exact A.1) (State.isArrayOf_alike C.2.1.alike A.2.1) A.2.2 (inb_of S hj) (Has.at H (inb_of S hj) hv) (g := mkF m pc Ls (.int j :: .ref a :: St)) rfl rfl (hb C.2.2.2.1 hd) t k) hr
theorem OGo.iastore (C : Cx p s m c Z own by0 ml) (X : Sd p l e R s m args below meth c n0 T h cells slots) {a : Addr} {k : ClassId} {z : Int32} {vs : List Value} {dv : Value} (V : Arv Z h a k .int z vs dv) (ga : n0 ≤ a) {j : Int32} {x : Int32} {i : Nat} (hd : decode by0 pc = .ok (.iastore, 1)) (hp : pc + 1 = pc') (hj : ¬ j < 0 ∧ j < z) (hi : j.toNatClampNeg = i) (hl : i < vs.length)
    (hr : ∀ T' h', Sd p l e R s m args below meth c n0 T' h' cells slots → Wr h h' a i (.int x) → Arv Z h' a k .int z (vs.set i (.int x)) dv → OGo p e below K T' (mkF m pc' Ls St)) : OGo p e below K T (mkF m pc Ls (.int x :: .int j :: .ref a :: St)) := by
  subst hp hi
  obtain ⟨eT, hn, locs, Y, N⟩ := X
  obtain ⟨cl, A, q1, S, q, H, Gt⟩ := V
  obtain ⟨T', h', Y', e', W, st⟩ := stI Y C.1 C.2.1 eT A (inb_of S hj) (g := mkF m pc Ls (.int x :: .int j :: .ref a :: St)) rfl rfl (hb C.2.2.2.1 hd)
  exact OGo.st st (hr T' h' ⟨e', by rw [W.size]; exact hn, _, Y', Fr.snoc Y' N ga⟩ W (Arv.set A q1 S q H Gt rfl W _ rfl hl))
theorem OGo.lastore (C : Cx p s m c Z own by0 ml) (X : Sd p l e R s m args below meth c n0 T h cells slots) {a : Addr} {k : ClassId} {z : Int32} {vs : List Value} {dv : Value} (V : Arv Z h a k .long z vs dv) (ga : n0 ≤ a) {j : Int32} {x : Int64} {i : Nat} (hd : decode by0 pc = .ok (.lastore, 1)) (hp : pc + 1 = pc') (hj : ¬ j < 0 ∧ j < z) (hi : j.toNatClampNeg = i) (hl : i < vs.length)
    (hr : ∀ T' h', Sd p l e R s m args below meth c n0 T' h' cells slots → Wr h h' a i (.long x) → Arv Z h' a k .long z (vs.set i (.long x)) dv → OGo p e below K T' (mkF m pc' Ls St)) : OGo p e below K T (mkF m pc Ls (.long x :: .int j :: .ref a :: St)) := by
  subst hp hi
  obtain ⟨eT, hn, locs, Y, N⟩ := X
  obtain ⟨cl, A, q1, S, q, H, Gt⟩ := V
  obtain ⟨T', h', Y', e', W, st⟩ := stJ Y C.1 C.2.1 eT A (inb_of S hj) (g := mkF m pc Ls (.long x :: .int j :: .ref a :: St)) rfl rfl (hb C.2.2.2.1 hd)
  exact OGo.st st (hr T' h' ⟨e', by rw [W.size]; exact hn, _, Y', Fr.snoc Y' N ga⟩ W (Arv.set A q1 S q H Gt rfl W _ rfl hl))
theorem OGo.dastore (C : Cx p s m c Z own by0 ml) (X : Sd p l e R s m args below meth c n0 T h cells slots) {a : Addr} {k : ClassId} {z : Int32} {vs : List Value} {dv : Value} (V : Arv Z h a k .double z vs dv) (ga : n0 ≤ a) {j : Int32} {x : UInt64} {i : Nat} (hd : decode by0 pc = .ok (.dastore, 1)) (hp : pc + 1 = pc') (hj : ¬ j < 0 ∧ j < z) (hi : j.toNatClampNeg = i) (hl : i < vs.length)
    (hr : ∀ T' h', Sd p l e R s m args below meth c n0 T' h' cells slots → Wr h h' a i (.double x) → Arv Z h' a k .double z (vs.set i (.double x)) dv → OGo p e below K T' (mkF m pc' Ls St)) : OGo p e below K T (mkF m pc Ls (.double x :: .int j :: .ref a :: St)) := by
  subst hp hi
  obtain ⟨eT, hn, locs, Y, N⟩ := X
  obtain ⟨cl, A, q1, S, q, H, Gt⟩ := V
  obtain ⟨T', h', Y', e', W, st⟩ := stD Y C.1 C.2.1 eT A (inb_of S hj) (g := mkF m pc Ls (.double x :: .int j :: .ref a :: St)) rfl rfl (hb C.2.2.2.1 hd)
  exact OGo.st st (hr T' h' ⟨e', by rw [W.size]; exact hn, _, Y', Fr.snoc Y' N ga⟩ W (Arv.set A q1 S q H Gt rfl W _ rfl hl))
theorem OGo.castore (C : Cx p s m c Z own by0 ml) (X : Sd p l e R s m args below meth c n0 T h cells slots) {a : Addr} {k : ClassId} {z : Int32} {vs : List Value} {dv : Value} (V : Arv Z h a k .char z vs dv) (ga : n0 ≤ a) {j : Int32} {x : Int32} {i : Nat} (hd : decode by0 pc = .ok (.castore, 1)) (hp : pc + 1 = pc') (hj : ¬ j < 0 ∧ j < z) (hi : j.toNatClampNeg = i) (hl : i < vs.length)
    (hr : ∀ T' h', Sd p l e R s m args below meth c n0 T' h' cells slots → Wr h h' a i (.int (nar .char x)) → Arv Z h' a k .char z (vs.set i (.int (nar .char x))) dv → OGo p e below K T' (mkF m pc' Ls St)) : OGo p e below K T (mkF m pc Ls (.int x :: .int j :: .ref a :: St)) := by
  subst hp hi
  obtain ⟨eT, hn, locs, Y, N⟩ := X
  obtain ⟨cl, A, q1, S, q, H, Gt⟩ := V
  obtain ⟨T', h', Y', e', W, st⟩ := stC Y C.1 C.2.1 eT A (inb_of S hj) (g := mkF m pc Ls (.int x :: .int j :: .ref a :: St)) rfl rfl (hb C.2.2.2.1 hd)
  exact OGo.st st (hr T' h' ⟨e', by rw [W.size]; exact hn, _, Y', Fr.snoc Y' N ga⟩ W (Arv.set A q1 S q H Gt (fits_nar_char x) W _ rfl hl))
theorem OGo.bastoreB (C : Cx p s m c Z own by0 ml) (X : Sd p l e R s m args below meth c n0 T h cells slots) {a : Addr} {k : ClassId} {z : Int32} {vs : List Value} {dv : Value} (V : Arv Z h a k .byte z vs dv) (ga : n0 ≤ a) {j : Int32} {x : Int32} {i : Nat} (hd : decode by0 pc = .ok (.bastore, 1)) (hp : pc + 1 = pc') (hj : ¬ j < 0 ∧ j < z) (hi : j.toNatClampNeg = i) (hl : i < vs.length)
    (hr : ∀ T' h', Sd p l e R s m args below meth c n0 T' h' cells slots → Wr h h' a i (.int (nar .byte x)) → Arv Z h' a k .byte z (vs.set i (.int (nar .byte x))) dv → OGo p e below K T' (mkF m pc' Ls St)) : OGo p e below K T (mkF m pc Ls (.int x :: .int j :: .ref a :: St)) := by
  subst hp hi
  obtain ⟨eT, hn, locs, Y, N⟩ := X
  obtain ⟨cl, A, q1, S, q, H, Gt⟩ := V
  obtain ⟨T', h', Y', e', W, st⟩ := stB Y C.1 C.2.1 eT A (inb_of S hj) (g := mkF m pc Ls (.int x :: .int j :: .ref a :: St)) rfl rfl (hb C.2.2.2.1 hd)
  exact OGo.st st (hr T' h' ⟨e', by rw [W.size]; exact hn, _, Y', Fr.snoc Y' N ga⟩ W (Arv.set A q1 S q H Gt (fits_nar_byte x) W _ rfl hl))
theorem OGo.bastoreZ (C : Cx p s m c Z own by0 ml) (X : Sd p l e R s m args below meth c n0 T h cells slots) {a : Addr} {k : ClassId} {z : Int32} {vs : List Value} {dv : Value} (V : Arv Z h a k .boolean z vs dv) (ga : n0 ≤ a) {j : Int32} {x : Int32} {i : Nat} (hd : decode by0 pc = .ok (.bastore, 1)) (hp : pc + 1 = pc') (hj : ¬ j < 0 ∧ j < z) (hi : j.toNatClampNeg = i) (hl : i < vs.length)
    (hr : ∀ T' h', Sd p l e R s m args below meth c n0 T' h' cells slots → Wr h h' a i (.int (nar .boolean x)) → Arv Z h' a k .boolean z (vs.set i (.int (nar .boolean x))) dv → OGo p e below K T' (mkF m pc' Ls St)) : OGo p e below K T (mkF m pc Ls (.int x :: .int j :: .ref a :: St)) := by
  subst hp hi
  obtain ⟨eT, hn, locs, Y, N⟩ := X
  obtain ⟨cl, A, q1, S, q, H, Gt⟩ := V
  obtain ⟨T', h', Y', e', W, st⟩ := stZ Y C.1 C.2.1 eT A (inb_of S hj) (g := mkF m pc Ls (.int x :: .int j :: .ref a :: St)) rfl rfl (hb C.2.2.2.1 hd)
  exact OGo.st st (hr T' h' ⟨e', by rw [W.size]; exact hn, _, Y', Fr.snoc Y' N ga⟩ W (Arv.set A q1 S q H Gt (fits_nar_bool x) W _ rfl hl))
theorem OGo.newarray (C : Cx p s m c Z own by0 ml) (X : Sd p l e R s m args below meth c n0 T h cells slots) {aty : ArrayType} {ty : FieldType} {n : Int32} {cap : Nat} {d0 : Value} (w : (Jvm.Cond.arrayClass ty).before a0 Z = true) (hty : newarray.typeOf aty = ty) (hd : decode by0 pc = .ok (.newarray aty, 2)) (hp : pc + 2 = pc') (hn : ¬ n < 0) (hcap : n.toNatClampNeg ≤ cap) (hb8 : cap * 8 ≤ 536870912) (hdv : defaultValue ty = d0) (hc' : cells + 1 = cells') (hs' : slots + cap = slots') (hc : cells' ≤ R.cells) (hl : slots' ≤ R.slots)
    (hr : ∀ T' h' a k, Sd p l e R s m args below meth c n0 T' h' cells' slots' → a = h.size → n0 ≤ a → Ext h h' → Arv Z h' a k ty n [] d0 → OGo p e below K T' (mkF m pc' Ls (.ref a :: St))) : OGo p e below K T (mkF m pc Ls (.int n :: St)) := by
  subst hp hc' hs' hty hdv
  obtain ⟨eT, hn0, locs, Y, N⟩ := X
  obtain ⟨T', h', cA, Y', e', E, A, st⟩ := newP Y C.1 C.2.1 w eT (g := mkF m pc Ls (.int n :: St)) rfl (hb C.2.2.2.1 hd) rfl hn hcap hb8 hc hl
  exact OGo.st st (hr T' h' _ cA ⟨e', Nat.le_trans hn0 E.1, _, Y', N⟩ rfl hn0 E (Arv.new A hn))
theorem OGo.newarrayE (C : Cx p s m c Z own by0 ml) (X : Sd p l e R s m args below meth c n0 T h cells slots) {aty : ArrayType} {ty : FieldType} {n : Int32} {cap : Nat} {d0 : Value} {ad : String} (w : (Jvm.Cond.arrayClass ty).before a0 Z = true) (hty : newarray.typeOf aty = ty) (had : "[" ++ ty.toString = ad) (hd : decode by0 pc = .ok (.newarray aty, 2)) (hp : pc + 2 = pc') (hn : ¬ n < 0) (hcap : n.toNatClampNeg ≤ cap) (hb8 : cap * 8 ≤ 536870912) (hdv : defaultValue ty = d0) (hc' : cells + 1 = cells') (hs' : slots + cap = slots') (hc : cells' ≤ R.cells) (hl : slots' ≤ R.slots)
    (hr : ∀ T' h' a k, Sd p l e R s m args below meth c n0 T' h' cells' slots' → a = h.size → n0 ≤ a → Ext h h' → Arv Z h' a k ty n [] d0 → Exa Z h' a ad → OGo p e below K T' (mkF m pc' Ls (.ref a :: St))) : OGo p e below K T (mkF m pc Ls (.int n :: St)) := by
  subst hp hc' hs' hty hdv
  obtain ⟨eT, hn0, locs, Y, N⟩ := X
  obtain ⟨T', h', cA, Y', e', E, A, EE, st⟩ := newPE Y C.1 C.2.1 w eT (g := mkF m pc Ls (.int n :: St)) rfl (hb C.2.2.2.1 hd) rfl hn hcap hb8 hc hl had
  exact OGo.st st (hr T' h' _ cA ⟨e', Nat.le_trans hn0 E.1, _, Y', N⟩ rfl hn0 E (Arv.new A hn) EE)
theorem OGo.new (C : Cx p s m c Z own by0 ml) (X : Sd p l e R s m args below meth c n0 T h cells slots) {Cn : String} {idx n : Nat} (w : (Jvm.Cond.classLink own idx Cn).before a0 Z = true) (wi : (Jvm.Cond.instantiable Cn n).before a0 Z = true) (wz : (Jvm.Cond.initialized Cn).before a0 Z = true) (hd : decode by0 pc = .ok (.new idx, 3)) (hp : pc + 3 = pc') (hc' : cells + 1 = cells') (hs' : slots + n = slots') (hc : cells' ≤ R.cells) (hl : slots' ≤ R.slots)
    (hr : ∀ T' h' a, Sd p l e R s m args below meth c n0 T' h' cells' slots' → a = h.size → n0 ≤ a → Ext h h' → Exa Z h' a Cn → (∀ {O nm d : String} {ty : FieldType}, Laid Z a0 Cn O nm d → parseFieldDescriptor d = some ty → Fld Z h' a O nm d (defaultValue ty)) → Unt h' a → OGo p e below K T' (mkF m pc' Ls (.ref a :: St))) : OGo p e below K T (mkF m pc Ls (St)) := by
  subst hp hc' hs'
  obtain ⟨eT, hn0, locs, Y, N⟩ := X
  obtain ⟨T', h', Y', e', E, A, D, U, st⟩ := newO Y C.1 C.2.1 C.2.2.1 w wi wz eT (g := mkF m pc Ls St) rfl (hb C.2.2.2.1 hd) hc hl
  exact OGo.st st (hr T' h' _ ⟨e', Nat.le_trans hn0 E.1, _, Y', N⟩ rfl hn0 E A D U)
theorem OGo.getfield (C : Cx p s m c Z own by0 ml) (X : Sd p l e R s m args below meth c n0 T h cells slots) {R0 O n d host : String} {idx : Nat} {a : Addr} {v : Value} (w : (Jvm.Cond.fieldLink own idx R0 n d).before a0 Z = true ∨ (Jvm.Cond.fieldLinkNest own idx R0 n d host).before a0 Z = true) (via : Via Z R0 O n d) (F : Fld Z h a O n d v) (hd : decode by0 pc = .ok (.getfield idx, 3)) (hp : pc + 3 = pc')
    (hr : ∀ T', Sd p l e R s m args below meth c n0 T' h cells slots → OGo p e below K T' (mkF m pc' Ls (v :: St))) : OGo p e below K T (mkF m pc Ls (.ref a :: St)) := by
  subst hp
  obtain ⟨eT, hn0, locs, Y, N⟩ := X
  obtain ⟨T', Y', e', st⟩ := getF Y C.1 C.2.1 C.2.2.1 w via eT F (g := mkF m pc Ls (.ref a :: St)) rfl rfl (hb C.2.2.2.1 hd)
  exact OGo.st st (hr T' ⟨e', hn0, _, Y', N⟩)
theorem OGo.putfield (C : Cx p s m c Z own by0 ml) (X : Sd p l e R s m args below meth c n0 T h cells slots) {R0 O n d host Cn : String} {idx kk : Nat} {ty : FieldType} {a : Addr} {v old : Value} (w : (Jvm.Cond.fieldLink own idx R0 n d).before a0 Z = true ∨ (Jvm.Cond.fieldLinkNest own idx R0 n d host).before a0 Z = true) (via : Via Z R0 O n d) (F : Fld Z h a O n d old) (E : Exa Z h a Cn) (ga : n0 ≤ a)
    (L : (Jvm.Cond.lays Cn O n d).before a0 Z = true ∨ ((Jvm.Cond.laysFinal Cn O n d).before a0 Z = true ∧ own = O ∧ meth.name = "<init>")) (wi : (Jvm.Cond.instantiable Cn kk).before a0 Z = true) (hty : parseFieldDescriptor d = some ty) (hnn : narrow ty v = v) (hf : fits ty v = true) (hd : decode by0 pc = .ok (.putfield idx, 3)) (hp : pc + 3 = pc')
    (hr : ∀ T' h', Sd p l e R s m args below meth c n0 T' h' cells slots → Wr h h' a (RoadKit.slotOf Z O n d) v → Fld Z h' a O n d v → OGo p e below K T' (mkF m pc' Ls St)) : OGo p e below K T (mkF m pc Ls (v :: .ref a :: St)) := by
  subst hp
  obtain ⟨eT, hn0, locs, Y, N⟩ := X
  obtain ⟨T', h', Y', e', W, st⟩ := putF Y C.1 C.2.1 C.2.2.1 w via eT F E L wi hty hnn hf (g := mkF m pc Ls (v :: .ref a :: St)) rfl rfl (hb C.2.2.2.1 hd)
  exact OGo.st st (hr T' h' ⟨e', by rw [W.size]; exact hn0, _, Y', Fr.snoc Y' N ga⟩ W (F.same W))
theorem OGo.putfieldN (C : Cx p s m c Z own by0 ml) (X : Sd p l e R s m args below meth c n0 T h cells slots) {R0 O n d Cn : String} {idx kk : Nat} {ty : FieldType} {a : Addr} {v v' old : Value} (w : (Jvm.Cond.fieldLink own idx R0 n d).before a0 Z = true) (via : Via Z R0 O n d) (F : Fld Z h a O n d old) (E : Exa Z h a Cn) (ga : n0 ≤ a)
    (L : (Jvm.Cond.lays Cn O n d).before a0 Z = true ∨ ((Jvm.Cond.laysFinal Cn O n d).before a0 Z = true ∧ own = O ∧ meth.name = "<init>")) (wi : (Jvm.Cond.instantiable Cn kk).before a0 Z = true) (hty : parseFieldDescriptor d = some ty) (hnn : narrow ty v = v') (hf : fits ty v' = true) (hd : decode by0 pc = .ok (.putfield idx, 3)) (hp : pc + 3 = pc')
    (hr : ∀ T' h', Sd p l e R s m args below meth c n0 T' h' cells slots → Wr h h' a (RoadKit.slotOf Z O n d) v' → Fld Z h' a O n d v' → OGo p e below K T' (mkF m pc' Ls St)) : OGo p e below K T (mkF m pc Ls (v :: .ref a :: St)) := by
  subst hp
  obtain ⟨eT, hn0, locs, Y, N⟩ := X
  obtain ⟨T', h', Y', e', W, st⟩ := putFN Y C.1 C.2.1 C.2.2.1 w via eT F E L wi hty hnn hf (g := mkF m pc Ls (v :: .ref a :: St)) rfl rfl (hb C.2.2.2.1 hd)
  exact OGo.st st (hr T' h' ⟨e', by rw [W.size]; exact hn0, _, Y', Fr.snoc Y' N ga⟩ W (F.same W))
theorem OGo.getstatic (C : Cx p s m c Z own by0 ml) (X : Sd p l e R s m args below meth c n0 T h cells slots) {R0 O n d host : String} {idx : Nat} {v : Value} (w : (Jvm.Cond.fieldLink own idx R0 n d).before a0 Z = true ∨ (Jvm.Cond.fieldLinkNest own idx R0 n d host).before a0 Z = true) (via : Via Z R0 O n d) (F : Sta Z h O n d v) (hd : decode by0 pc = .ok (.getstatic idx, 3)) (hp : pc + 3 = pc')
    (hr : ∀ T', Sd p l e R s m args below meth c n0 T' h cells slots → OGo p e below K T' (mkF m pc' Ls (v :: St))) : OGo p e below K T (mkF m pc Ls (St)) := by
  subst hp
  obtain ⟨eT, hn0, locs, Y, N⟩ := X
  obtain ⟨T', Y', e', st⟩ := getS2 Y C.1 C.2.1 C.2.2.1 w via eT F (g := mkF m pc Ls St) rfl (hb C.2.2.2.1 hd)
  exact OGo.st st (hr T' ⟨e', hn0, _, Y', N⟩)
theorem OGo.checkcast (C : Cx p s m c Z own by0 ml) (X : Sd p l e R s m args below meth c n0 T h cells slots) {Kn : String} {idx : Nat} {a : Addr} (w : (Jvm.Cond.classLink own idx Kn).before a0 Z = true) (F : Ins Z h a Kn true) (hd : decode by0 pc = .ok (.checkcast idx, 3)) (hp : pc + 3 = pc')
    (hr : ∀ T', Sd p l e R s m args below meth c n0 T' h cells slots → OGo p e below K T' (mkF m pc' Ls (.ref a :: St))) : OGo p e below K T (mkF m pc Ls (.ref a :: St)) := by
  subst hp
  obtain ⟨eT, hn0, locs, Y, N⟩ := X
  obtain ⟨T', Y', e', st⟩ := castY Y C.1 C.2.1 C.2.2.1 w eT F (g := mkF m pc Ls (.ref a :: St)) rfl rfl (hb C.2.2.2.1 hd)
  exact OGo.st st (hr T' ⟨e', hn0, _, Y', N⟩)
theorem OGo.instYes (C : Cx p s m c Z own by0 ml) (X : Sd p l e R s m args below meth c n0 T h cells slots) {Kn : String} {idx : Nat} {a : Addr} (w : (Jvm.Cond.classLink own idx Kn).before a0 Z = true) (F : Ins Z h a Kn true) (hd : decode by0 pc = .ok (.instanceof idx, 3)) (hp : pc + 3 = pc')
    (hr : ∀ T', Sd p l e R s m args below meth c n0 T' h cells slots → OGo p e below K T' (mkF m pc' Ls (.int 1 :: St))) : OGo p e below K T (mkF m pc Ls (.ref a :: St)) := by
  subst hp
  obtain ⟨eT, hn0, locs, Y, N⟩ := X
  obtain ⟨T', Y', e', st⟩ := instY Y C.1 C.2.1 C.2.2.1 w eT F (g := mkF m pc Ls (.ref a :: St)) rfl rfl (hb C.2.2.2.1 hd)
  exact OGo.st st (hr T' ⟨e', hn0, _, Y', N⟩)
theorem OGo.instNo (C : Cx p s m c Z own by0 ml) (X : Sd p l e R s m args below meth c n0 T h cells slots) {Kn Cn : String} {idx : Nat} {a : Addr} (w : (Jvm.Cond.classLink own idx Kn).before a0 Z = true) (E : Exa Z h a Cn) (F : ∃ c t, Z.vm.findClass Cn = some c ∧ Z.vm.findClass Kn = some t ∧ Z.vm.assignable c t = false) (hd : decode by0 pc = .ok (.instanceof idx, 3)) (hp : pc + 3 = pc')
    (hr : ∀ T', Sd p l e R s m args below meth c n0 T' h cells slots → OGo p e below K T' (mkF m pc' Ls (.int 0 :: St))) : OGo p e below K T (mkF m pc Ls (.ref a :: St)) := by
  subst hp
  obtain ⟨eT, hn0, locs, Y, N⟩ := X
  obtain ⟨T', Y', e', st⟩ := RoadKit.instNo Y C.1 C.2.1 C.2.2.1 w eT E F (g := mkF m pc Ls (.ref a :: St)) rfl rfl (hb C.2.2.2.1 hd)
  exact OGo.st st (hr T' ⟨e', hn0, _, Y', N⟩)
theorem OGo.initObj (C : Cx p s m c Z own by0 ml) (X : Sd p l e R s m args below meth c n0 T h cells slots) {idx : Nat} {a : Addr} (w1 : (Jvm.Cond.methodLink own idx Lib.objectInit).before a0 Z = true) (w2 : (Jvm.Cond.instanceMethod Lib.objectInit).before a0 Z = true) (w3 : (Jvm.Cond.code Lib.objectInit ⟨#[0xb1]⟩ 1 none).before a0 Z = true) (hd : decode by0 pc = .ok (.invokespecial idx, 3)) (hp : pc + 3 = pc') (hsz : Ls.size = ml) (hf : 1 ≤ R.frames) (hl : (St.map fun v => v.category).sum + 12 ≤ R.locals)
    (hr : ∀ T', Sd p l e R s m args below meth c n0 T' h cells slots → OGo p e below K T' (mkF m pc' Ls St)) : OGo p e below K T (mkF m pc Ls (.ref a :: St)) := by
  subst hp
  obtain ⟨eT, hn0, locs, Y, N⟩ := X
  obtain ⟨T', Y', e', st⟩ := initO Y C.1 C.2.1 C.2.2.1 w1 w2 w3 eT (g := mkF m pc Ls (.ref a :: St)) rfl (by rw [C.2.2.2.2]; exact hsz) rfl (hb C.2.2.2.1 hd) hf (W := (St.map fun v => v.category).sum) (by show 2 * 0 + _ ≤ _; omega) hl
  exact OGo.st st (hr T' ⟨e', hn0, _, Y', N⟩)
theorem OGo.ret (C : Cx p s m c Z own by0 ml) (X : Sd p l e R s m args below meth c n0 T h cells slots)  {Q : Option Value → Heap → Prop} {nc ns : Nat} (hd : decode by0 pc = .ok (.return_, 1)) (hret : meth.sig.returnType = none) (hlk : meth.locks = false) (hQ : Q (none) h) (hc : cells ≤ nc) (hs : slots ≤ ns) : OGo p e below (Kk s below n0 Q nc ns) T (mkF m pc Ls ([])) := by
  obtain ⟨eT, hn0, locs, Y, N⟩ := X
  obtain ⟨fs, hr, hrun, hended, hW, hsame⟩ := Y.leave (v := none) (fun hh => by rfl) hlk
  exact ⟨_, _, Y.returnOut C.1 hret (hb C.2.2.2.1 hd) hr, hrun, hended, _, locs, rfl, ⟨by show Q _ T.heap; rw [eT]; exact hQ, N⟩, ⟨_, rfl⟩, hW, hsame.mono hc hs⟩
theorem OGo.retInt (C : Cx p s m c Z own by0 ml) (X : Sd p l e R s m args below meth c n0 T h cells slots) {z : Int32} {rest : List Value} {Q : Option Value → Heap → Prop} {nc ns : Nat} (hd : decode by0 pc = .ok (.ireturn, 1)) (hret : meth.sig.returnType = some .int) (hlk : meth.locks = false) (hQ : Q (some (.int z)) h) (hc : cells ≤ nc) (hs : slots ≤ ns) : OGo p e below (Kk s below n0 Q nc ns) T (mkF m pc Ls (.int z :: rest)) := by
  obtain ⟨eT, hn0, locs, Y, N⟩ := X
  obtain ⟨fs, hr, hrun, hended, hW, hsame⟩ := Y.leave (v := some (.int z)) (fun hh => by rw [hret] at hh; cases hh) hlk
  exact ⟨_, _, retOut Y C.1 (i := .ireturn) hret rfl (Or.inl ⟨rfl, Or.inl rfl, _, rfl⟩) (hb C.2.2.2.1 hd) hr, hrun, hended, _, locs, rfl, ⟨by show Q _ T.heap; rw [eT]; exact hQ, N⟩, ⟨_, rfl⟩, hW, hsame.mono hc hs⟩
theorem OGo.retN (C : Cx p s m c Z own by0 ml) (X : Sd p l e R s m args below meth c n0 T h cells slots) {z z' : Int32} {rest : List Value} {t : FieldType} {Q : Option Value → Heap → Prop} {nc ns : Nat} (hd : decode by0 pc = .ok (.ireturn, 1)) (hret : meth.sig.returnType = some t) (ht : t = .boolean ∨ t = .byte ∨ t = .char ∨ t = .short) (hz : nar t z = z') (hlk : meth.locks = false) (hQ : Q (some (.int z')) h) (hc : cells ≤ nc) (hs : slots ≤ ns) : OGo p e below (Kk s below n0 Q nc ns) T (mkF m pc Ls (.int z :: rest)) := by
  subst hz
  obtain ⟨eT, hn0, locs, Y, N⟩ := X
  obtain ⟨fs, hr, hrun, hended, hW, hsame⟩ := Y.leave (v := some (.int (nar t z))) (fun hh => by rw [hret] at hh; cases hh) hlk
  exact ⟨_, _, RoadKit.retN Y C.1 hret ht (hb C.2.2.2.1 hd) hr, hrun, hended, _, locs, rfl, ⟨by show Q _ T.heap; rw [eT]; exact hQ, N⟩, ⟨_, rfl⟩, hW, hsame.mono hc hs⟩
theorem OGo.retD (C : Cx p s m c Z own by0 ml) (X : Sd p l e R s m args below meth c n0 T h cells slots) {z : UInt64} {rest : List Value} {Q : Option Value → Heap → Prop} {nc ns : Nat} (hd : decode by0 pc = .ok (.dreturn, 1)) (hret : meth.sig.returnType = some .double) (hlk : meth.locks = false) (hQ : Q (some (.double z)) h) (hc : cells ≤ nc) (hs : slots ≤ ns) : OGo p e below (Kk s below n0 Q nc ns) T (mkF m pc Ls (.double z :: rest)) := by
  obtain ⟨eT, hn0, locs, Y, N⟩ := X
  obtain ⟨fs, hr, hrun, hended, hW, hsame⟩ := Y.leave (v := some (.double z)) (fun hh => by rw [hret] at hh; cases hh) hlk
  exact ⟨_, _, retOut Y C.1 (i := .dreturn) hret rfl (Or.inr (Or.inr (Or.inl ⟨rfl, rfl, _, rfl⟩))) (hb C.2.2.2.1 hd) hr, hrun, hended, _, locs, rfl, ⟨by show Q _ T.heap; rw [eT]; exact hQ, N⟩, ⟨_, rfl⟩, hW, hsame.mono hc hs⟩
theorem OGo.retL (C : Cx p s m c Z own by0 ml) (X : Sd p l e R s m args below meth c n0 T h cells slots) {z : Int64} {rest : List Value} {Q : Option Value → Heap → Prop} {nc ns : Nat} (hd : decode by0 pc = .ok (.lreturn, 1)) (hret : meth.sig.returnType = some .long) (hlk : meth.locks = false) (hQ : Q (some (.long z)) h) (hc : cells ≤ nc) (hs : slots ≤ ns) : OGo p e below (Kk s below n0 Q nc ns) T (mkF m pc Ls (.long z :: rest)) := by
  obtain ⟨eT, hn0, locs, Y, N⟩ := X
  obtain ⟨fs, hr, hrun, hended, hW, hsame⟩ := Y.leave (v := some (.long z)) (fun hh => by rw [hret] at hh; cases hh) hlk
  exact ⟨_, _, retOut Y C.1 (i := .lreturn) hret rfl (Or.inr (Or.inl ⟨rfl, rfl, _, rfl⟩)) (hb C.2.2.2.1 hd) hr, hrun, hended, _, locs, rfl, ⟨by show Q _ T.heap; rw [eT]; exact hQ, N⟩, ⟨_, rfl⟩, hW, hsame.mono hc hs⟩
theorem OGo.retA (C : Cx p s m c Z own by0 ml) (X : Sd p l e R s m args below meth c n0 T h cells slots) {z : Value} {rest : List Value} {t : FieldType} {Q : Option Value → Heap → Prop} {nc ns : Nat} (hd : decode by0 pc = .ok (.areturn, 1)) (hret : meth.sig.returnType = some t) (ht : t.isReference = true) (hz : z.isRef = true) (hlk : meth.locks = false) (hQ : Q (some z) h) (hc : cells ≤ nc) (hs : slots ≤ ns) : OGo p e below (Kk s below n0 Q nc ns) T (mkF m pc Ls (z :: rest)) := by
  obtain ⟨eT, hn0, locs, Y, N⟩ := X
  obtain ⟨fs, hr, hrun, hended, hW, hsame⟩ := Y.leave (v := some z) (fun hh => by rw [hret] at hh; cases hh) hlk
  exact ⟨_, _, retOut Y C.1 (i := .areturn) hret (by rcases ref_cases hz with rfl | ⟨b, rfl⟩ <;> cases t <;> first | rfl | cases ht) (Or.inr (Or.inr (Or.inr (Or.inr ⟨rfl, ht, hz⟩)))) (hb C.2.2.2.1 hd) hr, hrun, hended, _, locs, rfl, ⟨by show Q _ T.heap; rw [eT]; exact hQ, N⟩, ⟨_, rfl⟩, hW, hsame.mono hc hs⟩
theorem backC {y : MethodName} {cb : ByteArray} {cml : Nat} {ret : Option FieldType} {rm : Room} {as' : Array Value} {Q : Option Value → Heap → Prop} {len W : Nat} (hM : Ctr l Z y cb cml ret rm n0 as' h Q) (hZ : Z.Warmed39 s.vm) (wc : (Jvm.Cond.code y cb cml ret).before a0 Z = true) (wz : (Jvm.Cond.initialized y.cls).before a0 Z = true) (hf : rm.frames + 1 ≤ R.frames) (hl : W + (cml + 11) + rm.locals ≤ R.locals) :
    Back l R p e below s args y len W (fun A a => a = as' ∧ A.U.heap = h ∧ A.cells + rm.cells ≤ R.cells ∧ A.slots + rm.slots ≤ R.slots) (fun A _ v B => ∃ L, ((Q v B.U.heap ∧ h.size ≤ B.U.heap.size) ∧ Fr n0 L) ∧ B.locs = A.locs ++ L ∧ B.cells = A.cells + rm.cells ∧ B.slots = A.slots + rm.slots) :=
  backOf (Q := fun v h' L => (Q v h' ∧ h.size ≤ h'.size) ∧ Fr n0 L) (hM []) hZ wc wz hf hl
theorem OGo.callS (C : Cx p s m c Z own by0 ml) (X : Sd p l e R s m args below meth c n0 T h cells slots) {y : MethodName} {cb : ByteArray} {cml : Nat} {ret : Option FieldType} {rm : Room} {as' : Array Value} {Q : Option Value → Heap → Prop} {idx : Nat}  (w1 : (Jvm.Cond.methodLink own idx y).before a0 Z = true) (w2 : (Jvm.Cond.static y).before a0 Z = true) (hy : y.cls ≠ "java/lang/invoke/MethodHandle" ∧ y.cls ≠ "java/lang/invoke/VarHandle") (w4 : (Jvm.Cond.code y cb cml ret).before a0 Z = true) (w5 : (Jvm.Cond.initialized y.cls).before a0 Z = true) (hM : Ctr l Z y cb cml ret rm n0 as' h Q) {argsL : List Value} (hlen : ∀ sig, parseMethodDescriptor y.desc = some sig → argsL.length = sig.parameters.length) (has : argsL.toArray = as') (hd : decode by0 pc = .ok (.invokestatic idx, 3)) (hp : pc + 3 = pc') (hsz : Ls.size = ml) (hf : rm.frames + 1 ≤ R.frames) (hl : (St.map fun v => v.category).sum + (cml + 11) + rm.locals ≤ R.locals) (hc' : cells + rm.cells = cells') (hs' : slots + rm.slots = slots') (hc : cells' ≤ R.cells) (hs : slots' ≤ R.slots)
    (hr : ∀ v T' h', Q v h' → Sd p l e R s m args below meth c n0 T' h' cells' slots' → h.size ≤ h'.size → OGo p e below K T' (mkF m pc' Ls (v.toList ++ St))) : OGo p e below K T (mkF m pc Ls (argsL.reverse ++ St)) := by
  subst hp hc' hs' has
  obtain ⟨eT, hn0, locs, Y, N⟩ := X
  have hK := backC (args := args) (p := p) (e := e) (below := below) (R := R) (len := 3) (W := (St.map fun v => v.category).sum) hM C.2.1 w4 w5 hf hl
  obtain ⟨v, _, ⟨B, L2, k2, n2⟩, -, Y', ⟨L, hQ, l1, y1, z1⟩, st⟩ := Jvm.LawKit.callS Y C.1 (y := y) C.2.2.1 (mvT C.2.1 w1) (mvT C.2.1 w2) (mvT C.2.1 w5) (mvT C.2.1 w4) hy hK (g := mkF m pc Ls (argsL.reverse ++ St)) rfl (by rw [C.2.2.2.2]; exact hsz) (argsL := argsL) (rest := St) hlen rfl (by show 2 * 0 + _ ≤ _; omega) (hb C.2.2.2.1 hd) (fun _ _ => ⟨rfl, eT, hc, hs⟩)
  dsimp only [Pt.U, Pt.locs, Pt.cells, Pt.slots] at Y' l1 y1 z1 st hQ
  subst l1 y1 z1
  obtain ⟨⟨hQ, hge⟩, hF⟩ := hQ
  exact OGo.st st (hr v B B.heap hQ ⟨rfl, Nat.le_trans hn0 hge, _, Y', N.app hF⟩ hge)
theorem OGo.callInit (C : Cx p s m c Z own by0 ml) (X : Sd p l e R s m args below meth c n0 T h cells slots) {y : MethodName} {cb : ByteArray} {cml : Nat} {ret : Option FieldType} {rm : Room} {as' : Array Value} {Q : Option Value → Heap → Prop} {idx : Nat} {a : Addr} (hy1 : y.name = "<init>") (hrn : ret = none) (w1 : (Jvm.Cond.methodLink own idx y).before a0 Z = true) (w2 : (Jvm.Cond.instanceMethod y).before a0 Z = true) (hy : y.cls ≠ "java/lang/invoke/MethodHandle" ∧ y.cls ≠ "java/lang/invoke/VarHandle") (w4 : (Jvm.Cond.code y cb cml ret).before a0 Z = true) (w5 : (Jvm.Cond.initialized y.cls).before a0 Z = true) (hM : Ctr l Z y cb cml ret rm n0 as' h Q) {argsL : List Value} (hlen : ∀ sig, parseMethodDescriptor y.desc = some sig → argsL.length = sig.parameters.length) (has : (Value.ref a :: argsL).toArray = as') (hd : decode by0 pc = .ok (.invokespecial idx, 3)) (hp : pc + 3 = pc') (hsz : Ls.size = ml) (hf : rm.frames + 1 ≤ R.frames) (hl : (St.map fun v => v.category).sum + (cml + 11) + rm.locals ≤ R.locals) (hc' : cells + rm.cells = cells') (hs' : slots + rm.slots = slots') (hc : cells' ≤ R.cells) (hs : slots' ≤ R.slots)
    (hr : ∀ v T' h', Q v h' → Sd p l e R s m args below meth c n0 T' h' cells' slots' → h.size ≤ h'.size → OGo p e below K T' (mkF m pc' Ls (v.toList ++ St))) : OGo p e below K T (mkF m pc Ls (argsL.reverse ++ Value.ref a :: St)) := by
  subst hp hc' hs' has
  obtain ⟨eT, hn0, locs, Y, N⟩ := X
  have hK := backC (args := args) (p := p) (e := e) (below := below) (R := R) (len := 3) (W := (St.map fun v => v.category).sum) hM C.2.1 w4 w5 hf hl
  obtain ⟨v, _, ⟨B, L2, k2, n2⟩, -, Y', ⟨L, hQ, l1, y1, z1⟩, st⟩ := Y.specialBack C.1 (y := y) hy1 C.2.2.1 (mvT C.2.1 w1) (mvT C.2.1 w2) (mvT C.2.1 (hrn ▸ w4)) hy hK (g := mkF m pc Ls (argsL.reverse ++ Value.ref a :: St)) rfl (by rw [C.2.2.2.2]; exact hsz) (Steps.refl _) (a := a) (argsL := argsL) (rest := St) hlen rfl (by show 2 * 0 + _ ≤ _; omega) (hb C.2.2.2.1 hd) (fun _ _ => ⟨rfl, eT, hc, hs⟩)
  dsimp only [Pt.U, Pt.locs, Pt.cells, Pt.slots] at Y' l1 y1 z1 st hQ
  subst l1 y1 z1
  obtain ⟨⟨hQ, hge⟩, hF⟩ := hQ
  exact OGo.tr st (hr v B B.heap hQ ⟨rfl, Nat.le_trans hn0 hge, _, Y', N.app hF⟩ hge)
theorem OGo.callV (C : Cx p s m c Z own by0 ml) (X : Sd p l e R s m args below meth c n0 T h cells slots) {y : MethodName} {cb : ByteArray} {cml : Nat} {ret : Option FieldType} {rm : Room} {as' : Array Value} {Q : Option Value → Heap → Prop} {idx : Nat} {a : Addr} {Cn : String} (w1 : (Jvm.Cond.methodLink own idx y).before a0 Z = true) (w2 : (Jvm.Cond.declares y).before a0 Z = true) (w3 : (Jvm.Cond.selects Cn y y).before a0 Z = true) (w6 : (Jvm.Cond.instanceMethod y).before a0 Z = true) (hy : y.cls ≠ "java/lang/invoke/MethodHandle" ∧ y.cls ≠ "java/lang/invoke/VarHandle") (E : Exa Z h a Cn) (w4 : (Jvm.Cond.code y cb cml ret).before a0 Z = true) (w5 : (Jvm.Cond.initialized y.cls).before a0 Z = true) (hM : Ctr l Z y cb cml ret rm n0 as' h Q) {argsL : List Value} (hlen : ∀ sig, parseMethodDescriptor y.desc = some sig → argsL.length = sig.parameters.length) (has : (Value.ref a :: argsL).toArray = as') (hd : decode by0 pc = .ok (.invokevirtual idx, 3)) (hp : pc + 3 = pc') (hsz : Ls.size = ml) (hf : rm.frames + 1 ≤ R.frames) (hl : (St.map fun v => v.category).sum + (cml + 11) + rm.locals ≤ R.locals) (hc' : cells + rm.cells = cells') (hs' : slots + rm.slots = slots') (hc : cells' ≤ R.cells) (hs : slots' ≤ R.slots)
    (hr : ∀ v T' h', Q v h' → Sd p l e R s m args below meth c n0 T' h' cells' slots' → h.size ≤ h'.size → OGo p e below K T' (mkF m pc' Ls (v.toList ++ St))) : OGo p e below K T (mkF m pc Ls (argsL.reverse ++ Value.ref a :: St)) := by
  subst hp hc' hs' has
  obtain ⟨eT, hn0, locs, Y, N⟩ := X
  have hK := backC (args := args) (p := p) (e := e) (below := below) (R := R) (len := 3) (W := (St.map fun v => v.category).sum) hM C.2.1 w4 w5 hf hl
  obtain ⟨v, _, ⟨B, L2, k2, n2⟩, -, Y', ⟨L, hQ, l1, y1, z1⟩, st⟩ := (let ⟨_, _, q1, _, q3⟩ := isOf C.2.1 eT E; Y.virtualBack C.1 (y := y) (z := y) C.2.2.1 (mvT C.2.1 w1) (mvT C.2.1 w2) (notFace_of_selects (args := #[]) (mvT C.2.1 w3)) (mvT C.2.1 w3) (mvT C.2.1 w6) hy hK q1 q3 (g := mkF m pc Ls (argsL.reverse ++ Value.ref a :: St)) rfl (by rw [C.2.2.2.2]; exact hsz) (Steps.refl _) (argsL := argsL) (rest := St) hlen rfl (by show 2 * 0 + _ ≤ _; omega) (hb C.2.2.2.1 hd) (fun _ _ => ⟨rfl, eT, hc, hs⟩))
  dsimp only [Pt.U, Pt.locs, Pt.cells, Pt.slots] at Y' l1 y1 z1 st hQ
  subst l1 y1 z1
  obtain ⟨⟨hQ, hge⟩, hF⟩ := hQ
  exact OGo.tr st (hr v B B.heap hQ ⟨rfl, Nat.le_trans hn0 hge, _, Y', N.app hF⟩ hge)
theorem OGo.callV2 (C : Cx p s m c Z own by0 ml) (X : Sd p l e R s m args below meth c n0 T h cells slots) {y : MethodName} {cb : ByteArray} {cml : Nat} {ret : Option FieldType} {rm : Room} {as' : Array Value} {Q : Option Value → Heap → Prop} {idx : Nat} {yr : MethodName} {a : Addr} {Cn : String} (w1 : (Jvm.Cond.methodLink own idx yr).before a0 Z = true) (w2 : (Jvm.Cond.declares yr).before a0 Z = true) (hnf : NotFace s yr) (w3 : (Jvm.Cond.selects Cn yr y).before a0 Z = true) (w6 : (Jvm.Cond.instanceMethod y).before a0 Z = true) (hy : yr.cls ≠ "java/lang/invoke/MethodHandle" ∧ yr.cls ≠ "java/lang/invoke/VarHandle") (hds : yr.desc = y.desc) (E : Exa Z h a Cn) (w4 : (Jvm.Cond.code y cb cml ret).before a0 Z = true) (w5 : (Jvm.Cond.initialized y.cls).before a0 Z = true) (hM : Ctr l Z y cb cml ret rm n0 as' h Q) {argsL : List Value} (hlen : ∀ sig, parseMethodDescriptor y.desc = some sig → argsL.length = sig.parameters.length) (has : (Value.ref a :: argsL).toArray = as') (hd : decode by0 pc = .ok (.invokevirtual idx, 3)) (hp : pc + 3 = pc') (hsz : Ls.size = ml) (hf : rm.frames + 1 ≤ R.frames) (hl : (St.map fun v => v.category).sum + (cml + 11) + rm.locals ≤ R.locals) (hc' : cells + rm.cells = cells') (hs' : slots + rm.slots = slots') (hc : cells' ≤ R.cells) (hs : slots' ≤ R.slots)
    (hr : ∀ v T' h', Q v h' → Sd p l e R s m args below meth c n0 T' h' cells' slots' → h.size ≤ h'.size → OGo p e below K T' (mkF m pc' Ls (v.toList ++ St))) : OGo p e below K T (mkF m pc Ls (argsL.reverse ++ Value.ref a :: St)) := by
  subst hp hc' hs' has
  obtain ⟨eT, hn0, locs, Y, N⟩ := X
  have hK := backC (args := args) (p := p) (e := e) (below := below) (R := R) (len := 3) (W := (St.map fun v => v.category).sum) hM C.2.1 w4 w5 hf hl
  obtain ⟨v, _, ⟨B, L2, k2, n2⟩, -, Y', ⟨L, hQ, l1, y1, z1⟩, st⟩ := (let ⟨_, _, q1, _, q3⟩ := isOf C.2.1 eT E; Y.virtualBack C.1 (y := yr) (z := y) C.2.2.1 (mvT C.2.1 w1) (mvT C.2.1 w2) hnf (mvT C.2.1 w3) (mvT C.2.1 w6) hy hK q1 q3 (g := mkF m pc Ls (argsL.reverse ++ Value.ref a :: St)) rfl (by rw [C.2.2.2.2]; exact hsz) (Steps.refl _) (argsL := argsL) (rest := St) (hds ▸ hlen) rfl (by show 2 * 0 + _ ≤ _; omega) (hb C.2.2.2.1 hd) (fun _ _ => ⟨rfl, eT, hc, hs⟩))
  dsimp only [Pt.U, Pt.locs, Pt.cells, Pt.slots] at Y' l1 y1 z1 st hQ
  subst l1 y1 z1
  obtain ⟨⟨hQ, hge⟩, hF⟩ := hQ
  exact OGo.tr st (hr v B B.heap hQ ⟨rfl, Nat.le_trans hn0 hge, _, Y', N.app hF⟩ hge)
theorem OGo.clone (C : Cx p s m c Z own by0 ml) (X : Sd p l e R s m args below meth c n0 T h cells slots) {ad : String} {idx : Nat} {a : Addr} {k : ClassId} {ty : FieldType} {z : Int32} {vs : List Value} {dv : Value} {cap : Nat} (w1 : (Jvm.Cond.methodLink own idx ⟨ad, "clone", "()Ljava/lang/Object;"⟩).before a0 Z = true) (w2 : (Jvm.Cond.sameMethod ad "java/lang/Object" "clone" "()Ljava/lang/Object;").before a0 Z = true) (w3 : (Jvm.Cond.native ⟨"java/lang/Object", "clone", "()Ljava/lang/Object;"⟩).before a0 Z = true)
    (w4 : (Jvm.Cond.instanceMethod ⟨"java/lang/Object", "clone", "()Ljava/lang/Object;"⟩).before a0 Z = true) (w5 : (Jvm.Cond.selects ad ⟨ad, "clone", "()Ljava/lang/Object;"⟩ ⟨"java/lang/Object", "clone", "()Ljava/lang/Object;"⟩).before a0 Z = true) (w6 : (Jvm.Cond.castable ad "java/lang/Cloneable").before a0 Z = true) (V : Arv Z h a k ty z vs dv) (E : Exa Z h a ad)
    (hd : decode by0 pc = .ok (.invokevirtual idx, 3)) (hp : pc + 3 = pc') (hsz : Ls.size = ml) (hf : 1 ≤ R.frames) (hl : (St.map fun v => v.category).sum + 14 ≤ R.locals) (hcap : z.toNatClampNeg ≤ cap) (hc' : cells + 1 = cells') (hs' : slots + cap = slots') (hc : cells' ≤ R.cells) (hs : slots' ≤ R.slots)
    (hr : ∀ T' h' b, Sd p l e R s m args below meth c n0 T' h' cells' slots' → b = h.size → n0 ≤ b → Ext h h' → Arv Z h' b k ty z vs dv → Exa Z h' b ad → OGo p e below K T' (mkF m pc' Ls (.ref b :: St))) : OGo p e below K T (mkF m pc Ls (.ref a :: St)) := by
  subst hp hc' hs'
  obtain ⟨eT, hn0, locs, Y, N⟩ := X
  obtain ⟨T', h', Y', e', Ex, A, EE, st⟩ := cloneH Y C.1 C.2.1 C.2.2.1 w1 w2 w3 w4 w5 w6 eT (Arv.arh V) E (g := mkF m pc Ls (.ref a :: St)) rfl (by rw [C.2.2.2.2]; exact hsz) rfl (hb C.2.2.2.1 hd) hf (W := (St.map fun v => v.category).sum) (by show 2 * 0 + _ ≤ _; omega) hl hcap hc hs
  exact OGo.st st (hr T' h' _ ⟨e', Nat.le_trans hn0 Ex.1, _, Y', N⟩ rfl hn0 Ex A EE)
theorem priv_selects {y : MethodName} {k : Nat} (hZ : Z.Warmed39 s.vm) (w2 : (Jvm.Cond.instanceMethod y).before a0 Z = true) (w3 : (Jvm.Cond.privateMethod y).before a0 Z = true) (wi : (Jvm.Cond.instantiable y.cls k).before a0 Z = true) (hy : y.cls ≠ "java/lang/invoke/MethodHandle" ∧ y.cls ≠ "java/lang/invoke/VarHandle") : (Jvm.Cond.selects y.cls y y).before args s = true := by
  obtain ⟨c, k, h1, h2, -, h4, -⟩ := Cond.instantiable_spec (show (Jvm.Cond.instantiable y.cls k).before args s = true from mvT hZ wi)
  have h5 : k.isInterface = false := by
    cases hq : k.isInterface
    · rfl
    · rw [hq] at h4; cases h4
  exact selects_self_of_private h1 h2 h5 (Cond.privateMethod_at (mvP hZ w3 (args := #[]))) (mvT hZ w2) hy
theorem OGo.callPriv (C : Cx p s m c Z own by0 ml) (X : Sd p l e R s m args below meth c n0 T h cells slots) {y : MethodName} {cb : ByteArray} {cml : Nat} {ret : Option FieldType} {rm : Room} {as' : Array Value} {Q : Option Value → Heap → Prop} {idx : Nat} {a : Addr} {Cn : String} {kk : Nat} (w1 : (Jvm.Cond.methodLink own idx y).before a0 Z = true) (w2 : (Jvm.Cond.instanceMethod y).before a0 Z = true) (w3 : (Jvm.Cond.privateMethod y).before a0 Z = true) (wi : (Jvm.Cond.instantiable y.cls kk).before a0 Z = true) (hy : y.cls ≠ "java/lang/invoke/MethodHandle" ∧ y.cls ≠ "java/lang/invoke/VarHandle") (E : Exa Z h a Cn) (w4 : (Jvm.Cond.code y cb cml ret).before a0 Z = true) (w5 : (Jvm.Cond.initialized y.cls).before a0 Z = true) (hM : Ctr l Z y cb cml ret rm n0 as' h Q) {argsL : List Value} (hlen : ∀ sig, parseMethodDescriptor y.desc = some sig → argsL.length = sig.parameters.length) (has : (Value.ref a :: argsL).toArray = as') (hd : decode by0 pc = .ok (.invokevirtual idx, 3)) (hp : pc + 3 = pc') (hsz : Ls.size = ml) (hf : rm.frames + 1 ≤ R.frames) (hl : (St.map fun v => v.category).sum + (cml + 11) + rm.locals ≤ R.locals) (hc' : cells + rm.cells = cells') (hs' : slots + rm.slots = slots') (hc : cells' ≤ R.cells) (hs : slots' ≤ R.slots)
    (hr : ∀ v T' h', Q v h' → Sd p l e R s m args below meth c n0 T' h' cells' slots' → h.size ≤ h'.size → OGo p e below K T' (mkF m pc' Ls (v.toList ++ St))) : OGo p e below K T (mkF m pc Ls (argsL.reverse ++ Value.ref a :: St)) := by
  subst hp hc' hs' has
  obtain ⟨eT, hn0, locs, Y, N⟩ := X
  have hK := backC (args := args) (p := p) (e := e) (below := below) (R := R) (len := 3) (W := (St.map fun v => v.category).sum) hM C.2.1 w4 w5 hf hl
  obtain ⟨v, _, ⟨B, L2, k2, n2⟩, -, Y', ⟨L, hQ, l1, y1, z1⟩, st⟩ := (let ⟨_, q1, q2⟩ := E.cell; Y.privateBack C.1 (y := y) C.2.2.1 (mvT C.2.1 w1) (mvT C.2.1 w2) (priv_selects C.2.1 w2 w3 wi hy) (Cond.privateMethod_at (mvP C.2.1 w3 (args := #[]))) (mvT C.2.1 w4) hy hK (g := mkF m pc Ls (argsL.reverse ++ Value.ref a :: St)) rfl (by rw [C.2.2.2.2]; exact hsz) (Steps.refl _) (a := a) (by rw [eT]; exact q1) q2 (argsL := argsL) (rest := St) hlen rfl (by show 2 * 0 + _ ≤ _; omega) (hb C.2.2.2.1 hd) (fun _ _ => ⟨rfl, eT, hc, hs⟩))
  dsimp only [Pt.U, Pt.locs, Pt.cells, Pt.slots] at Y' l1 y1 z1 st hQ
  subst l1 y1 z1
  obtain ⟨⟨hQ, hge⟩, hF⟩ := hQ
  exact OGo.tr st (hr v B B.heap hQ ⟨rfl, Nat.le_trans hn0 hge, _, Y', N.app hF⟩ hge)
theorem OGo.callI (C : Cx p s m c Z own by0 ml) (X : Sd p l e R s m args below meth c n0 T h cells slots) {y : MethodName} {cb : ByteArray} {cml : Nat} {ret : Option FieldType} {rm : Room} {as' : Array Value} {Q : Option Value → Heap → Prop} {idx : Nat} {xi : MethodName} {a : Addr} {Cn : String} {cnt : Nat} (w1 : (Jvm.Cond.methodLink own idx xi).before a0 Z = true) (w2 : (Jvm.Cond.declares xi).before a0 Z = true) (w3 : (Jvm.Cond.interfaceMethod xi.cls xi.cls xi.name xi.desc).before a0 Z = true) (w6 : (Jvm.Cond.selects Cn xi y).before a0 Z = true) (w7 : (Jvm.Cond.instanceMethod y).before a0 Z = true) (w8 : (Jvm.Cond.publicMethod y).before a0 Z = true) (w9 : (Jvm.Cond.unhidden Cn xi.name xi.desc).before a0 Z = true) (w10 : (Jvm.Cond.castable Cn xi.cls).before a0 Z = true) (hy : xi.cls ≠ "java/lang/invoke/MethodHandle" ∧ xi.cls ≠ "java/lang/invoke/VarHandle") (hds : xi.desc = y.desc) (E : Exa Z h a Cn) (w4 : (Jvm.Cond.code y cb cml ret).before a0 Z = true) (w5 : (Jvm.Cond.initialized y.cls).before a0 Z = true) (hM : Ctr l Z y cb cml ret rm n0 as' h Q) {argsL : List Value} (hlen : ∀ sig, parseMethodDescriptor y.desc = some sig → argsL.length = sig.parameters.length) (has : (Value.ref a :: argsL).toArray = as') (hd : decode by0 pc = .ok (.invokeinterface idx cnt, 5)) (hp : pc + 5 = pc') (hsz : Ls.size = ml) (hf : rm.frames + 1 ≤ R.frames) (hl : (St.map fun v => v.category).sum + (cml + 11) + rm.locals ≤ R.locals) (hc' : cells + rm.cells = cells') (hs' : slots + rm.slots = slots') (hc : cells' ≤ R.cells) (hs : slots' ≤ R.slots)
    (hr : ∀ v T' h', Q v h' → Sd p l e R s m args below meth c n0 T' h' cells' slots' → h.size ≤ h'.size → OGo p e below K T' (mkF m pc' Ls (v.toList ++ St))) : OGo p e below K T (mkF m pc Ls (argsL.reverse ++ Value.ref a :: St)) := by
  subst hp hc' hs' has
  obtain ⟨eT, hn0, locs, Y, N⟩ := X
  have hK := backC (args := args) (p := p) (e := e) (below := below) (R := R) (len := 5) (W := (St.map fun v => v.category).sum) hM C.2.1 w4 w5 hf hl
  obtain ⟨v, _, ⟨B, L2, k2, n2⟩, -, Y', ⟨L, hQ, l1, y1, z1⟩, st⟩ := (let ⟨_, _, q1, q2, q3⟩ := isOf C.2.1 eT E; Y.interfaceBack C.1 (xi := xi) (y := y) C.2.2.1 (mvT C.2.1 w1) (mvT C.2.1 w2) (mvT C.2.1 w3 (by simp [Cond.onTables, Cond.keepsFace, Cond.faceAtom, Cond.keeps, Cond.steady, hy.1, hy.2])) (mvT C.2.1 w6) (mvT C.2.1 w7) (mvT C.2.1 w8) (mvT C.2.1 w9) (mvT C.2.1 w10) hy hK q1 q2 q3 (g := mkF m pc Ls (argsL.reverse ++ Value.ref a :: St)) rfl (by rw [C.2.2.2.2]; exact hsz) (Steps.refl _) (argsL := argsL) (rest := St) (hds ▸ hlen) rfl (by show 2 * 0 + _ ≤ _; omega) (hb C.2.2.2.1 hd) (fun _ _ => ⟨rfl, eT, hc, hs⟩))
  dsimp only [Pt.U, Pt.locs, Pt.cells, Pt.slots] at Y' l1 y1 z1 st hQ
  subst l1 y1 z1
  obtain ⟨⟨hQ, hge⟩, hF⟩ := hQ
  exact OGo.tr st (hr v B B.heap hQ ⟨rfl, Nat.le_trans hn0 hge, _, Y', N.app hF⟩ hge)
theorem OGo.natS (C : Cx p s m c Z own by0 ml) (X : Sd p l e R s m args below meth c n0 T h cells slots) {y : MethodName} {cb : ByteArray} {cml : Nat} {rt : Option FieldType} {idx : Nat} {val : Value} {F : Array Value → Prop} (w1 : (Jvm.Cond.methodLink own idx y).before a0 Z = true) (w2 : (Jvm.Cond.static y).before a0 Z = true) (w3 : (Jvm.Cond.initialized y.cls).before a0 Z = true) (w4 : (Jvm.Cond.code y cb cml rt).before a0 Z = true) (hy : y.cls ≠ "java/lang/invoke/MethodHandle" ∧ y.cls ≠ "java/lang/invoke/VarHandle")
    {argsL : List Value} (hlen : ∀ sig, parseMethodDescriptor y.desc = some sig → argsL.length = sig.parameters.length) (hd : decode by0 pc = .ok (.invokestatic idx, 3)) (hp : pc + 3 = pc') (hsz : Ls.size = ml) (hc : cells ≤ R.cells) (hs : slots ≤ R.slots)
    (hK : (Jvm.Cond.code y cb cml rt).before args s = true → Back l R p e below s args y 3 ((St.map fun v => v.category).sum) (fun A a' => A.cells ≤ R.cells ∧ A.slots ≤ R.slots ∧ F a') (fun A _ v B => v = some val ∧ B = A)) (hF : F argsL.toArray)
    (hr : ∀ T', Sd p l e R s m args below meth c n0 T' h cells slots → OGo p e below K T' (mkF m pc' Ls (val :: St))) : OGo p e below K T (mkF m pc Ls (argsL.reverse ++ St)) := by
  subst hp
  obtain ⟨eT, hn0, locs, Y, N⟩ := X
  obtain ⟨T', Y', e', st⟩ := RoadKit.natS Y C.1 C.2.1 C.2.2.1 w1 w2 w3 w4 hy eT hK (g := mkF m pc Ls (argsL.reverse ++ St)) rfl (by rw [C.2.2.2.2]; exact hsz) hlen rfl (by show 2 * 0 + _ ≤ _; omega) (hb C.2.2.2.1 hd) hc hs hF rfl
  exact OGo.st st (hr T' ⟨e', hn0, _, Y', N⟩)
theorem OGo.instNull (C : Cx p s m c Z own by0 ml) (X : Sd p l e R s m args below meth c n0 T h cells slots) {idx : Nat} (hd : decode by0 pc = .ok (.instanceof idx, 3)) (hp : pc + 3 = pc') (hr : OGo p e below K T (mkF m pc' Ls (.int 0 :: St))) : OGo p e below K T (mkF m pc Ls (.null :: St)) := by
  subst hp
  obtain ⟨eT, hn0, locs, Y, N⟩ := X
  exact OGo.st (Y.instanceofNull C.1 (g := mkF m pc Ls (.null :: St)) rfl rfl (hb C.2.2.2.1 hd)) hr
theorem OGo.checkNull (C : Cx p s m c Z own by0 ml) (X : Sd p l e R s m args below meth c n0 T h cells slots) {idx : Nat} (hd : decode by0 pc = .ok (.checkcast idx, 3)) (hp : pc + 3 = pc') (hr : OGo p e below K T (mkF m pc' Ls (.null :: St))) : OGo p e below K T (mkF m pc Ls (.null :: St)) := by
  subst hp
  obtain ⟨eT, hn0, locs, Y, N⟩ := X
  exact OGo.st (Y.checkcastNull C.1 (g := mkF m pc Ls (.null :: St)) rfl rfl (hb C.2.2.2.1 hd)) hr
theorem OGo.aaload (C : Cx p s m c Z own by0 ml) (X : Sd p l e R s m args below meth c n0 T h cells slots) {a : Addr} {cl : Cell} {ty : FieldType} (A : Arr Z h a cl ty) (hty : ty.isReference = true) {j : Int32} {v : Value} (hin : ¬ (j < 0 ∨ cl.slots.size ≤ j.toNatClampNeg)) (hv : cl.slots[j.toNatClampNeg]? = some v) (hd : decode by0 pc = .ok (.aaload, 1)) (hp : pc + 1 = pc') (hr : OGo p e below K T (mkF m pc' Ls (v :: St))) : OGo p e below K T (mkF m pc Ls (.int j :: .ref a :: St)) := by
  subst hp
  obtain ⟨eT, hn0, locs, Y, N⟩ := X
  exact OGo.st (fun t k => Y.aaload C.1 (by rw [eT]; exact A.1) (State.isArrayOf_alike C.2.1.alike A.2.1) hty A.2.2 hin hv (g := mkF m pc Ls (.int j :: .ref a :: St)) rfl rfl (hb C.2.2.2.1 hd) t k) hr
theorem OGo.rawBits (C : Cx p s m c Z own by0 ml) (X : Sd p l e R s m args below meth c n0 T h cells slots) {idx : Nat} {b : UInt64} (w1 : (Jvm.Cond.methodLink own idx doubleToRawLongBitsName).before a0 Z = true) (w2 : (Jvm.Cond.native doubleToRawLongBitsName).before a0 Z = true) (w3 : (Jvm.Cond.static doubleToRawLongBitsName).before a0 Z = true) (w4 : (Jvm.Cond.initialized "java/lang/Double").before a0 Z = true) (hd : decode by0 pc = .ok (.invokestatic idx, 3)) (hp : pc + 3 = pc') (hsz : Ls.size = ml) (hf : 1 ≤ R.frames) (hl : (St.map fun v => v.category).sum + 15 ≤ R.locals)
    (hr : ∀ T', Sd p l e R s m args below meth c n0 T' h cells slots → OGo p e below K T' (mkF m pc' Ls (.long b.toInt64 :: St))) : OGo p e below K T (mkF m pc Ls (.double b :: St)) := by
  subst hp
  obtain ⟨eT, hn0, locs, Y, N⟩ := X
  obtain ⟨vm', Y', st⟩ := Y.doubleToRawLongBits C.1 C.2.2.1 (mvT C.2.1 w1) (mvT C.2.1 w2) (mvT C.2.1 w3) (mvT C.2.1 w4) (g := mkF m pc Ls (.double b :: St)) rfl (by rw [C.2.2.2.2]; exact hsz) rfl (hb C.2.2.2.1 hd) hf (by show 2 * 0 + _ + (4 + 11) ≤ _; omega)
  exact OGo.st st (hr _ ⟨eT, hn0, _, Y', N⟩)
end OwnGo
end Jvm.Pilot.@@N@@
namespace Jvm.Pilot.@@N@@
open Jvm Jvm.ClassFile Sem Op Lib Jvm.Free Jvm.Stand Jvm.LawKit Jvm.RoadKit Bundle Jvm.Pilot.@@N@@.Jvm.D
section OwnCold
variable {p : Program} {l : Launch} {e : Env} {R : Room} {s : State} {m : MethodId} {args : Array Value} {below : List Frame} {meth : Method} {c : Code} {T : State} {n0 cells slots cells' slots' : Nat} {Z : State} {a0 : Array Value} {h h' h0 : Heap} {K : State → Outcome → Prop} {pc pc' : Nat} {Ls : Array Slot} {St : List Value} {own : String} {by0 : ByteArray} {ml : Nat} {EL : List (String × Nat)} {vm : Vm}
/-- from the body's start (tables s.vm, heap h0) to the tables vm and the heap h at hand -/
def Hd (Z : State) (EL : List (String × Nat)) (s : State) (vm : Vm) (h0 h : Heap) : Prop := ∃ k0, s.Since vm k0 ∧ k0 ≤ h.size ∧ CHr Z EL s.vm h0 vm h
theorem Hd.cv (H : Hd Z EL s vm h0 h) : CHv Z EL vm h := by obtain ⟨_, -, -, A⟩ := H; exact A.1
theorem Hd.to (H : Hd Z EL s vm h0 h) (A : CHr Z EL vm h vm h') : Hd Z EL s vm h0 h' := by obtain ⟨k0, h1, h2, B⟩ := H; exact ⟨k0, h1, Nat.le_trans h2 A.2.1, B.trans A⟩
theorem Hd.ext (H : Hd Z EL s vm h0 h) (E : Ext h h') : Hd Z EL s vm h0 h' := H.to (CHr.ext E H.cv)
theorem Hd.wr (H : Hd Z EL s vm h0 h) {a : Addr} {sl : Nat} {v : Value} (W : Wr h h' a sl v) (S : Safe Z EL vm h a) : Hd Z EL s vm h0 h' := H.to (CHr.wr W S H.cv)
theorem Hd.keep (H : Hd Z EL s vm h0 h) {ws : List Addr} (K : Keep h h' ws) (hs : ∀ x ∈ ws, Safe Z EL vm h x) : Hd Z EL s vm h0 h' := H.to (CHr.keep K hs H.cv)
theorem Hd.start (H : CHv Z EL s.vm h) : Hd Z EL s s.vm h h := ⟨0, (State.WarmedH.refl s).since 0, Nat.zero_le _, CHr.refl H⟩
theorem safe_arv {a : Addr} {k : ClassId} {ty : FieldType} {z : Int32} {vs : List Value} {d : Value} (hal : Z.vm.Alike vm) (V : Arv Z h a k ty z vs d) (ht : ty ≠ .byte) : Safe Z EL vm h a := by obtain ⟨c, A, -⟩ := V; exact Safe.arr hal A ht
theorem sfS {P : Addr → Prop} {a : Addr} {l : List Addr} (h : P a) (g : ∀ x ∈ l, P x) : ∀ x ∈ a :: l, P x := fun x hx => (List.mem_cons.mp hx).elim (fun e => e ▸ h) (g x)
/-- what a body that may load constants owes at its end -/
def Kw (Z : State) (EL : List (String × Nat)) (s : State) (below : List Frame) (n0 : Nat) (h0 : Heap) (Q : Option Value → Heap → Prop) (nc ns : Nat) : State → Outcome → Prop := fun t o => t.status = .running ∧ Ended t below o ∧ ∃ v L, o = .returned v ∧ (Q v t.heap ∧ Fr n0 L) ∧ CHr Z EL s.vm h0 t.vm t.heap ∧ ReturnedEndW s o t L nc ns
def CtrW (l : Launch) (Z : State) (EL : List (String × Nat)) (sf : List Addr) (y : MethodName) (by0 : ByteArray) (ml : Nat) (ret : Option FieldType) (rm : Room) (n0 : Nat) (as' : Array Value) (h : Heap) (Q : Option Value → Heap → Prop) : Prop :=
  ∀ ws, MetFree l y (head1 (Jvm.Cond.code y by0 ml ret :: ws) rm) (fun a U => a = as' ∧ Z.Warmed39 U.vm ∧ U.heap = h ∧ CHv Z EL U.vm h ∧ ∀ x ∈ sf, Safe Z EL U.vm h x) (fun _ _ _ _ _ => True) (fun _ U o U' => ∃ v L, o = .returned v ∧ ((Q v U'.heap ∧ h.size ≤ U'.heap.size) ∧ Fr n0 L) ∧ CHr Z EL U.vm U.heap U'.vm U'.heap ∧ ReturnedEndW U o U' L rm.cells rm.slots)
theorem CtrW.of {sf : List Addr} {y : MethodName} {ret : Option FieldType} {rm : Room} {as' : Array Value} {Q : Option Value → Heap → Prop} (hpl : plainFor y = true) (hn : n0 ≤ h.size)
    (body : ∀ p e s m below meth c T, Cx p (s.setVm s.vm) m c Z y.cls by0 ml → meth.name = y.name → meth.sig.returnType = ret → meth.locks = false → Sd p l e rm (s.setVm s.vm) m as' below meth c n0 T h 0 0 → Hd Z EL s s.vm h h → (∀ x ∈ sf, Safe Z EL s.vm h x) → OGo p e below (Kw Z EL s below n0 h Q rm.cells rm.slots) T (entryFrame m as' ml)) :
    CtrW l Z EL sf y by0 ml ret rm n0 as' h Q := by
  intro ws
  refine MetFree.of_bodySF hpl hisR ?_
  intro p e s m args below meth c s₁ Bd hml0 hP hK
  obtain ⟨rfl, hZ, hh, hC, hSf⟩ := hP
  have hown : s.vm.findClass y.cls = some m.cls := findClass_of_methodNamed Bd.named
  have hnm := (name_of_methodNamed Bd.named Bd.method).1
  have X0 := Stand.of_body Bd
  have e0 : s₁.heap = h := by rw [← hh, Bd.state]; rfl
  obtain ⟨t, o, h1, h2, h3, v, L, h4, ⟨h5, h6⟩, h8, h7⟩ := body p e s m below meth c s₁ ⟨Bd.exec, hZ, hown, Bd.bytes, hml0⟩ hnm Bd.returns (BodyLoose.notSynchronized Bd) ⟨e0, hn, [], X0, Fr.nil n0⟩ (Hd.start hC) hSf
  exact ⟨t, o, h1, h2, h3, v, L, h4, ⟨⟨h5, h8.2.1⟩, h6⟩, by rw [hh]; exact h8, h7⟩
/-- RoadKit.backOfSH, for a callee that is also told of cells that it may write -/
theorem backOfSP {sf : List Addr} {y : MethodName} {bytes : ByteArray} {maxL : Nat} {ret : Option FieldType} {rm : Room} {len W : Nat} {as' : Array Value} {Q : Option Value → Heap → List Loc → Prop} {vm0 : Vm}
    (hM : MetFree l y (head1 [Jvm.Cond.code y bytes maxL ret] rm) (fun a U => a = as' ∧ Z.Warmed39 U.vm ∧ U.heap = h ∧ CHv Z EL U.vm h ∧ ∀ x ∈ sf, Safe Z EL U.vm h x) (fun _ _ _ _ _ => True) (fun _ U o U' => ∃ v L, o = .returned v ∧ Q v U'.heap L ∧ CHr Z EL U.vm U.heap U'.vm U'.heap ∧ ReturnedEndW U o U' L rm.cells rm.slots))
    (hZ : Z.Warmed39 vm0) (wc : (Jvm.Cond.code y bytes maxL ret).before a0 Z = true) (wz : (Jvm.Cond.initialized y.cls).before a0 Z = true) (hf : rm.frames + 1 ≤ R.frames) (hl : W + (maxL + 11) + rm.locals ≤ R.locals) (hEL : EW Z a0 EL) (H : CHv Z EL vm0 h) (hS : ∀ x ∈ sf, x < h.size ∧ Safe Z EL vm0 h x) :
    BackS l R p e below (s.setVm vm0) args y len W (fun A a => a = as' ∧ A.U.heap = h ∧ A.cells + rm.cells ≤ R.cells ∧ A.slots + rm.slots ≤ R.slots)
      (fun A _ v B => ∃ L, Q v B.U.heap L ∧ B.locs = A.locs ++ L ∧ B.cells = A.cells + rm.cells ∧ B.slots = A.slots + rm.slots ∧ CHr Z EL vm0 h B.U.vm B.U.heap) :=
  BackS.of_freeW (bytes := bytes) (maxL := maxL) (ret := ret) (E := fun _ first o t L k n => k = rm.cells ∧ n = rm.slots ∧ (∃ v, o = .returned v ∧ Q v t.heap L) ∧ CHr Z EL first.vm first.heap t.vm t.heap) hM hf hl
    (fun m meth c A a Y hp => have hU : Z.Warmed39 A.U.vm := wtrans (s := s.setVm vm0) hZ Y.warmed
      ⟨by show (Jvm.Cond.and _ .tt).before a A.U = true; rw [Cond.before_and, mv hU wc]; rfl, mv hU wc, mv hU wz, hp.2.2.1, hp.2.2.2⟩)
    (fun m meth c A a g mk Y hp => ⟨hp.1, wtrans (s := s.setVm vm0) hZ Y.warmed, hp.2.1, (CHv.at Y hZ hEL H).1, fun x hx => (CHv.at Y hZ hEL H).safe (hS x hx).1 (hS x hx).2⟩) (fun _ _ _ _ _ _ _ _ _ => trivial)
    (fun _ _ _ _ ⟨v, L, h1, h2, h3, h4⟩ => ⟨L, _, _, h4, rfl, rfl, ⟨v, h1, h2⟩, h3⟩)
    (fun m meth c A a g mk v t L k n Y hp _ _ ⟨e1, e2, ⟨v', e3, e4⟩, e5⟩ => by
      cases e3; subst e1 e2
      refine ⟨L, e4, rfl, rfl, rfl, (CHv.at Y hZ hEL H).trans ?_⟩
      rw [← hp.2.1]; exact e5)
/-- a String constant, read -/
theorem OGo.ldcC (C : Cx p (s.setVm vm) m c Z own by0 ml) (X : Sd p l e R (s.setVm vm) m args below meth c n0 T h cells slots) (hEL : EW Z a0 EL) (H : Hd Z EL s vm h0 h) {idx : Nat} {text : String} (w : (Jvm.Cond.stringLink own idx text).before a0 Z = true) (wS : ∀ a ∈ Bundle.stringAtoms, a.before a0 Z = true) (hmem : (own, idx) ∈ EL)
    {vs : List Value} {z : Int32} (ht : (∀ c ∈ text.toList, c.toNat < 256) ∧ text.toList.map (fun c => Value.int (Jvm.Lit.byteI c.toNat.toUInt16)) = vs) (hz : ¬ z < 0) (hl : z.toNatClampNeg = vs.length) (hd : decode by0 pc = .ok (.ldc idx, 2)) (hp : pc + 2 = pc') {n : Nat} (hn : 4 * text.toList.length ≤ n) (hbig : n ≤ 536870912) (hc' : cells + 2 = cells') (hs' : slots + (n + 4) = slots') (hc : cells' ≤ R.cells) (hs : slots' ≤ R.slots)
    (hr : ∀ (vm' : Vm) T' h' a b k, Cx p (s.setVm vm') m c Z own by0 ml → Sd p l e R (s.setVm vm') m args below meth c n0 T' h' cells' slots' → Hd Z EL s vm' h0 h' → Ext h h' → CHr Z EL vm h vm' h' → Exa Z h' a "java/lang/String" → Fld Z h' a "java/lang/String" "coder" "B" (.int (0 : Int32)) → Fld Z h' a "java/lang/String" "value" "[B" (.ref b) → Arv Z h' b k .byte z vs (.int (0 : Int32)) → (∀ x, Safe Z EL vm' h' x → x ≠ a ∧ x ≠ b) → OGo p e below K T' (mkF m pc' Ls (.ref a :: St))) : OGo p e below K T (mkF m pc Ls St) := by
  subst hp hc' hs'
  obtain ⟨eT, hn0, locs, Y, N⟩ := X
  obtain ⟨k0, hS, hk, A⟩ := H
  obtain ⟨a, T', h', k1, b, k, Y', e', E, hS', hk', hZ', hf', x1, x2, x3, x4, -, -, B, -, sf, st⟩ := ldcCH Y C.1 C.2.1 C.2.2.1 w wS eT hS hk hEL hmem A.1 ht hz hl (g := mkF m pc Ls St) rfl (hb C.2.2.2.1 hd) hn hbig hc hs
  exact OGo.st st (hr T'.vm T' h' a b k ⟨C.1, hZ', hf', C.2.2.2⟩ ⟨e', Nat.le_trans hn0 E.1, _, Y', N⟩ ⟨k1, hS', hk', A.trans B⟩ E B x1 x2 x3 x4 sf)
theorem OGo.retW (C : Cx p (s.setVm vm) m c Z own by0 ml) (X : Sd p l e R (s.setVm vm) m args below meth c n0 T h cells slots) (hEL : EW Z a0 EL) (H : Hd Z EL s vm h0 h)  {Q : Option Value → Heap → Prop} {nc ns : Nat} (hd : decode by0 pc = .ok (.return_, 1)) (hret : meth.sig.returnType = none) (hlk : meth.locks = false) (hQ : Q (none) h) (hc : cells ≤ nc) (hs : slots ≤ ns) : OGo p e below (Kw Z EL s below n0 h0 Q nc ns) T (mkF m pc Ls ([])) := by
  obtain ⟨eT, hn0, locs, Y, N⟩ := X
  obtain ⟨k0, hS, hk, A⟩ := H
  obtain ⟨fs, hr, hrun, hended, hEnd⟩ := Y.leaveW hS (by rw [eT]; exact hk) (v := none) (fun hh => by rfl) hlk
  have B := CHv.at Y C.2.1 hEL A.1
  exact ⟨_, _, Y.returnOut C.1 hret (hb C.2.2.2.1 hd) hr, hrun, hended, _, locs, rfl, ⟨by show Q _ T.heap; rw [eT]; exact hQ, N⟩, by show CHr Z EL s.vm h0 T.vm T.heap; rw [eT]; exact A.trans B, hEnd.1, hEnd.2.1, hEnd.2.2.1, hEnd.2.2.2.mono hc hs⟩
theorem OGo.retWInt (C : Cx p (s.setVm vm) m c Z own by0 ml) (X : Sd p l e R (s.setVm vm) m args below meth c n0 T h cells slots) (hEL : EW Z a0 EL) (H : Hd Z EL s vm h0 h) {z : Int32} {rest : List Value} {Q : Option Value → Heap → Prop} {nc ns : Nat} (hd : decode by0 pc = .ok (.ireturn, 1)) (hret : meth.sig.returnType = some .int) (hlk : meth.locks = false) (hQ : Q (some (.int z)) h) (hc : cells ≤ nc) (hs : slots ≤ ns) : OGo p e below (Kw Z EL s below n0 h0 Q nc ns) T (mkF m pc Ls (.int z :: rest)) := by
  obtain ⟨eT, hn0, locs, Y, N⟩ := X
  obtain ⟨k0, hS, hk, A⟩ := H
  obtain ⟨fs, hr, hrun, hended, hEnd⟩ := Y.leaveW hS (by rw [eT]; exact hk) (v := some (.int z)) (fun hh => by rw [hret] at hh; cases hh) hlk
  have B := CHv.at Y C.2.1 hEL A.1
  exact ⟨_, _, retOut Y C.1 (i := .ireturn) hret rfl (Or.inl ⟨rfl, Or.inl rfl, _, rfl⟩) (hb C.2.2.2.1 hd) hr, hrun, hended, _, locs, rfl, ⟨by show Q _ T.heap; rw [eT]; exact hQ, N⟩, by show CHr Z EL s.vm h0 T.vm T.heap; rw [eT]; exact A.trans B, hEnd.1, hEnd.2.1, hEnd.2.2.1, hEnd.2.2.2.mono hc hs⟩
theorem OGo.retWN (C : Cx p (s.setVm vm) m c Z own by0 ml) (X : Sd p l e R (s.setVm vm) m args below meth c n0 T h cells slots) (hEL : EW Z a0 EL) (H : Hd Z EL s vm h0 h) {z z' : Int32} {rest : List Value} {t : FieldType} {Q : Option Value → Heap → Prop} {nc ns : Nat} (hd : decode by0 pc = .ok (.ireturn, 1)) (hret : meth.sig.returnType = some t) (ht : t = .boolean ∨ t = .byte ∨ t = .char ∨ t = .short) (hz : nar t z = z') (hlk : meth.locks = false) (hQ : Q (some (.int z')) h) (hc : cells ≤ nc) (hs : slots ≤ ns) : OGo p e below (Kw Z EL s below n0 h0 Q nc ns) T (mkF m pc Ls (.int z :: rest)) := by
  subst hz; obtain ⟨eT, hn0, locs, Y, N⟩ := X
  obtain ⟨k0, hS, hk, A⟩ := H
  obtain ⟨fs, hr, hrun, hended, hEnd⟩ := Y.leaveW hS (by rw [eT]; exact hk) (v := some (.int (nar t z))) (fun hh => by rw [hret] at hh; cases hh) hlk
  have B := CHv.at Y C.2.1 hEL A.1
  exact ⟨_, _, RoadKit.retN Y C.1 hret ht (hb C.2.2.2.1 hd) hr, hrun, hended, _, locs, rfl, ⟨by show Q _ T.heap; rw [eT]; exact hQ, N⟩, by show CHr Z EL s.vm h0 T.vm T.heap; rw [eT]; exact A.trans B, hEnd.1, hEnd.2.1, hEnd.2.2.1, hEnd.2.2.2.mono hc hs⟩
theorem OGo.retWA (C : Cx p (s.setVm vm) m c Z own by0 ml) (X : Sd p l e R (s.setVm vm) m args below meth c n0 T h cells slots) (hEL : EW Z a0 EL) (H : Hd Z EL s vm h0 h) {z : Value} {rest : List Value} {t : FieldType} {Q : Option Value → Heap → Prop} {nc ns : Nat} (hd : decode by0 pc = .ok (.areturn, 1)) (hret : meth.sig.returnType = some t) (ht : t.isReference = true) (hz : z.isRef = true) (hlk : meth.locks = false) (hQ : Q (some z) h) (hc : cells ≤ nc) (hs : slots ≤ ns) : OGo p e below (Kw Z EL s below n0 h0 Q nc ns) T (mkF m pc Ls (z :: rest)) := by
  obtain ⟨eT, hn0, locs, Y, N⟩ := X
  obtain ⟨k0, hS, hk, A⟩ := H
  obtain ⟨fs, hr, hrun, hended, hEnd⟩ := Y.leaveW hS (by rw [eT]; exact hk) (v := some z) (fun hh => by rw [hret] at hh; cases hh) hlk
  have B := CHv.at Y C.2.1 hEL A.1
  exact ⟨_, _, retOut Y C.1 (i := .areturn) hret (by rcases ref_cases hz with rfl | ⟨b, rfl⟩ <;> cases t <;> first | rfl | cases ht) (Or.inr (Or.inr (Or.inr (Or.inr ⟨rfl, ht, hz⟩)))) (hb C.2.2.2.1 hd) hr, hrun, hended, _, locs, rfl, ⟨by show Q _ T.heap; rw [eT]; exact hQ, N⟩, by show CHr Z EL s.vm h0 T.vm T.heap; rw [eT]; exact A.trans B, hEnd.1, hEnd.2.1, hEnd.2.2.1, hEnd.2.2.2.mono hc hs⟩
theorem OGo.callWS (C : Cx p (s.setVm vm) m c Z own by0 ml) (X : Sd p l e R (s.setVm vm) m args below meth c n0 T h cells slots) (hEL : EW Z a0 EL) (H : Hd Z EL s vm h0 h) {sf : List Addr} {y : MethodName} {cb : ByteArray} {cml : Nat} {ret : Option FieldType} {rm : Room} {as' : Array Value} {Q : Option Value → Heap → Prop} {idx : Nat}  (w1 : (Jvm.Cond.methodLink own idx y).before a0 Z = true) (w2 : (Jvm.Cond.static y).before a0 Z = true) (hy : y.cls ≠ "java/lang/invoke/MethodHandle" ∧ y.cls ≠ "java/lang/invoke/VarHandle") (w4 : (Jvm.Cond.code y cb cml ret).before a0 Z = true) (w5 : (Jvm.Cond.initialized y.cls).before a0 Z = true) (hM : CtrW l Z EL sf y cb cml ret rm n0 as' h Q) (hSf : ∀ x ∈ sf, x < h.size ∧ Safe Z EL vm h x) {argsL : List Value} (hlen : ∀ sig, parseMethodDescriptor y.desc = some sig → argsL.length = sig.parameters.length) (has : argsL.toArray = as') (hd : decode by0 pc = .ok (.invokestatic idx, 3)) (hp : pc + 3 = pc') (hsz : Ls.size = ml) (hf : rm.frames + 1 ≤ R.frames) (hl : (St.map fun v => v.category).sum + (cml + 11) + rm.locals ≤ R.locals) (hc' : cells + rm.cells = cells') (hs' : slots + rm.slots = slots') (hc : cells' ≤ R.cells) (hs : slots' ≤ R.slots)
    (hr : ∀ v (vm' : Vm) T' h', Q v h' → Cx p (s.setVm vm') m c Z own by0 ml → Sd p l e R (s.setVm vm') m args below meth c n0 T' h' cells' slots' → Hd Z EL s vm' h0 h' → CHr Z EL vm h vm' h' → OGo p e below K T' (mkF m pc' Ls (v.toList ++ St))) : OGo p e below K T (mkF m pc Ls (argsL.reverse ++ St)) := by
  subst hp hc' hs' has
  obtain ⟨eT, hn0, locs, Y, N⟩ := X
  obtain ⟨k0, hS, hk, A⟩ := H
  have hK := backOfSP (Q := fun v h' L => (Q v h' ∧ h.size ≤ h'.size) ∧ Fr n0 L) (args := args) (p := p) (e := e) (below := below) (R := R) (s := s) (len := 3) (W := (St.map fun v => v.category).sum) (hM []) C.2.1 w4 w5 hf hl hEL A.1 hSf
  obtain ⟨v, _, ⟨B, L2, k2, n2⟩, -, Y', hS2, hg2, ⟨L, hQ, l1, y1, z1, A2⟩, st⟩ := callSS Y C.1 (y := y) C.2.2.1 (mvT C.2.1 w1) (mvT C.2.1 w2) (mvT C.2.1 w5) (mvT C.2.1 w4) hy hK (g := mkF m pc Ls (argsL.reverse ++ St)) rfl (by rw [C.2.2.2.2]; exact hsz) (argsL := argsL) (rest := St) hlen rfl (by show 2 * 0 + _ ≤ _; omega) (hb C.2.2.2.1 hd) (fun _ _ => ⟨rfl, eT, hc, hs⟩)
  dsimp only [Pt.U, Pt.locs, Pt.cells, Pt.slots] at Y' hS2 hg2 l1 y1 z1 st hQ A2
  subst l1 y1 z1
  obtain ⟨⟨hQ, hge⟩, hF⟩ := hQ
  obtain ⟨Y2, hS3, hZ3, hf3⟩ := rebS (own := own) hS (Nat.le_trans hk (by rw [← eT]; exact Nat.le_refl _)) Y' hS2 hg2 C.2.1 C.2.2.1
  exact OGo.tr st (hr v B.vm B B.heap hQ ⟨C.1, hZ3, hf3, C.2.2.2⟩ ⟨rfl, Nat.le_trans hn0 hge, _, Y2, N.app hF⟩ ⟨_, hS3, Nat.le_refl _, A.trans A2⟩ A2)
theorem OGo.callWInit (C : Cx p (s.setVm vm) m c Z own by0 ml) (X : Sd p l e R (s.setVm vm) m args below meth c n0 T h cells slots) (hEL : EW Z a0 EL) (H : Hd Z EL s vm h0 h) {sf : List Addr} {y : MethodName} {cb : ByteArray} {cml : Nat} {ret : Option FieldType} {rm : Room} {as' : Array Value} {Q : Option Value → Heap → Prop} {idx : Nat} {a : Addr} (hy1 : y.name = "<init>") (hrn : ret = none) (w1 : (Jvm.Cond.methodLink own idx y).before a0 Z = true) (w2 : (Jvm.Cond.instanceMethod y).before a0 Z = true) (hy : y.cls ≠ "java/lang/invoke/MethodHandle" ∧ y.cls ≠ "java/lang/invoke/VarHandle") (w4 : (Jvm.Cond.code y cb cml ret).before a0 Z = true) (w5 : (Jvm.Cond.initialized y.cls).before a0 Z = true) (hM : CtrW l Z EL sf y cb cml ret rm n0 as' h Q) (hSf : ∀ x ∈ sf, x < h.size ∧ Safe Z EL vm h x) {argsL : List Value} (hlen : ∀ sig, parseMethodDescriptor y.desc = some sig → argsL.length = sig.parameters.length) (has : (Value.ref a :: argsL).toArray = as') (hd : decode by0 pc = .ok (.invokespecial idx, 3)) (hp : pc + 3 = pc') (hsz : Ls.size = ml) (hf : rm.frames + 1 ≤ R.frames) (hl : (St.map fun v => v.category).sum + (cml + 11) + rm.locals ≤ R.locals) (hc' : cells + rm.cells = cells') (hs' : slots + rm.slots = slots') (hc : cells' ≤ R.cells) (hs : slots' ≤ R.slots)
    (hr : ∀ v (vm' : Vm) T' h', Q v h' → Cx p (s.setVm vm') m c Z own by0 ml → Sd p l e R (s.setVm vm') m args below meth c n0 T' h' cells' slots' → Hd Z EL s vm' h0 h' → CHr Z EL vm h vm' h' → OGo p e below K T' (mkF m pc' Ls (v.toList ++ St))) : OGo p e below K T (mkF m pc Ls (argsL.reverse ++ Value.ref a :: St)) := by
  subst hp hc' hs' has
  obtain ⟨eT, hn0, locs, Y, N⟩ := X
  obtain ⟨k0, hS, hk, A⟩ := H
  have hK := backOfSP (Q := fun v h' L => (Q v h' ∧ h.size ≤ h'.size) ∧ Fr n0 L) (args := args) (p := p) (e := e) (below := below) (R := R) (s := s) (len := 3) (W := (St.map fun v => v.category).sum) (hM []) C.2.1 w4 w5 hf hl hEL A.1 hSf
  obtain ⟨v, _, ⟨B, L2, k2, n2⟩, -, Y', hS2, hg2, ⟨L, hQ, l1, y1, z1, A2⟩, st⟩ := Y.specialBackS C.1 (y := y) hy1 C.2.2.1 (mvT C.2.1 w1) (mvT C.2.1 w2) (mvT C.2.1 (hrn ▸ w4)) hy hK (g := mkF m pc Ls (argsL.reverse ++ Value.ref a :: St)) rfl (by rw [C.2.2.2.2]; exact hsz) (Steps.refl _) (a := a) (argsL := argsL) (rest := St) hlen rfl (by show 2 * 0 + _ ≤ _; omega) (hb C.2.2.2.1 hd) (fun _ _ => ⟨rfl, eT, hc, hs⟩)
  dsimp only [Pt.U, Pt.locs, Pt.cells, Pt.slots] at Y' hS2 hg2 l1 y1 z1 st hQ A2
  subst l1 y1 z1
  obtain ⟨⟨hQ, hge⟩, hF⟩ := hQ
  obtain ⟨Y2, hS3, hZ3, hf3⟩ := rebS (own := own) hS (Nat.le_trans hk (by rw [← eT]; exact Nat.le_refl _)) Y' hS2 hg2 C.2.1 C.2.2.1
  exact OGo.tr st (hr v B.vm B B.heap hQ ⟨C.1, hZ3, hf3, C.2.2.2⟩ ⟨rfl, Nat.le_trans hn0 hge, _, Y2, N.app hF⟩ ⟨_, hS3, Nat.le_refl _, A.trans A2⟩ A2)
theorem OGo.callWV (C : Cx p (s.setVm vm) m c Z own by0 ml) (X : Sd p l e R (s.setVm vm) m args below meth c n0 T h cells slots) (hEL : EW Z a0 EL) (H : Hd Z EL s vm h0 h) {sf : List Addr} {y : MethodName} {cb : ByteArray} {cml : Nat} {ret : Option FieldType} {rm : Room} {as' : Array Value} {Q : Option Value → Heap → Prop} {idx : Nat} {a : Addr} {Cn : String} (w1 : (Jvm.Cond.methodLink own idx y).before a0 Z = true) (w2 : (Jvm.Cond.declares y).before a0 Z = true) (w3 : (Jvm.Cond.selects Cn y y).before a0 Z = true) (w6 : (Jvm.Cond.instanceMethod y).before a0 Z = true) (hy : y.cls ≠ "java/lang/invoke/MethodHandle" ∧ y.cls ≠ "java/lang/invoke/VarHandle") (E : Exa Z h a Cn) (w4 : (Jvm.Cond.code y cb cml ret).before a0 Z = true) (w5 : (Jvm.Cond.initialized y.cls).before a0 Z = true) (hM : CtrW l Z EL sf y cb cml ret rm n0 as' h Q) (hSf : ∀ x ∈ sf, x < h.size ∧ Safe Z EL vm h x) {argsL : List Value} (hlen : ∀ sig, parseMethodDescriptor y.desc = some sig → argsL.length = sig.parameters.length) (has : (Value.ref a :: argsL).toArray = as') (hd : decode by0 pc = .ok (.invokevirtual idx, 3)) (hp : pc + 3 = pc') (hsz : Ls.size = ml) (hf : rm.frames + 1 ≤ R.frames) (hl : (St.map fun v => v.category).sum + (cml + 11) + rm.locals ≤ R.locals) (hc' : cells + rm.cells = cells') (hs' : slots + rm.slots = slots') (hc : cells' ≤ R.cells) (hs : slots' ≤ R.slots)
    (hr : ∀ v (vm' : Vm) T' h', Q v h' → Cx p (s.setVm vm') m c Z own by0 ml → Sd p l e R (s.setVm vm') m args below meth c n0 T' h' cells' slots' → Hd Z EL s vm' h0 h' → CHr Z EL vm h vm' h' → OGo p e below K T' (mkF m pc' Ls (v.toList ++ St))) : OGo p e below K T (mkF m pc Ls (argsL.reverse ++ Value.ref a :: St)) := by
  subst hp hc' hs' has
  obtain ⟨eT, hn0, locs, Y, N⟩ := X
  obtain ⟨k0, hS, hk, A⟩ := H
  have hK := backOfSP (Q := fun v h' L => (Q v h' ∧ h.size ≤ h'.size) ∧ Fr n0 L) (args := args) (p := p) (e := e) (below := below) (R := R) (s := s) (len := 3) (W := (St.map fun v => v.category).sum) (hM []) C.2.1 w4 w5 hf hl hEL A.1 hSf
  obtain ⟨v, _, ⟨B, L2, k2, n2⟩, -, Y', hS2, hg2, ⟨L, hQ, l1, y1, z1, A2⟩, st⟩ := (let ⟨_, _, q1, _, q3⟩ := isOf C.2.1 eT E; Y.virtualBackS C.1 (y := y) (z := y) C.2.2.1 (mvT C.2.1 w1) (mvT C.2.1 w2) (notFace_of_selects (args := #[]) (mvT C.2.1 w3)) (mvT C.2.1 w3) (mvT C.2.1 w6) hy hK q1 q3 (g := mkF m pc Ls (argsL.reverse ++ Value.ref a :: St)) rfl (by rw [C.2.2.2.2]; exact hsz) (Steps.refl _) (argsL := argsL) (rest := St) hlen rfl (by show 2 * 0 + _ ≤ _; omega) (hb C.2.2.2.1 hd) (fun _ _ => ⟨rfl, eT, hc, hs⟩))
  dsimp only [Pt.U, Pt.locs, Pt.cells, Pt.slots] at Y' hS2 hg2 l1 y1 z1 st hQ A2
  subst l1 y1 z1
  obtain ⟨⟨hQ, hge⟩, hF⟩ := hQ
  obtain ⟨Y2, hS3, hZ3, hf3⟩ := rebS (own := own) hS (Nat.le_trans hk (by rw [← eT]; exact Nat.le_refl _)) Y' hS2 hg2 C.2.1 C.2.2.1
  exact OGo.tr st (hr v B.vm B B.heap hQ ⟨C.1, hZ3, hf3, C.2.2.2⟩ ⟨rfl, Nat.le_trans hn0 hge, _, Y2, N.app hF⟩ ⟨_, hS3, Nat.le_refl _, A.trans A2⟩ A2)
end OwnCold
end Jvm.Pilot.@@N@@
namespace Jvm.Pilot.@@N@@
open Jvm Jvm.ClassFile Sem Op Lib Jvm.Free Jvm.Stand Jvm.LawKit Jvm.RoadKit Jvm.Free.Fl Jvm.FP Bundle Jvm.Pilot.@@N@@.Jvm.D
abbrev HW (a0 : Array Value) (Z : State) : Prop := ∀ d ∈ tables_1, d.before a0 Z = true
theorem wd0 {a0 : Array Value} {Z : State} (hw : HW a0 Z) : ((Jvm.Cond.methodLink "com/example/chainmail/chainmail/NavigationContextOfPinLaw" (12 : Nat) ({ cls := "com/example/chainmail/chainmail/NavigationContextOfPinLaw", name := "str", desc := "(IIII)Ljava/lang/String;" } : Jvm.MethodName))).before a0 Z = true := hw _ (List.mem_of_getElem? (i := 0) rfl)
theorem wd1 {a0 : Array Value} {Z : State} (hw : HW a0 Z) : ((Jvm.Cond.static ({ cls := "com/example/chainmail/chainmail/NavigationContextOfPinLaw", name := "str", desc := "(IIII)Ljava/lang/String;" } : Jvm.MethodName))).before a0 Z = true := hw _ (List.mem_of_getElem? (i := 1) rfl)
theorem wd2 {a0 : Array Value} {Z : State} (hw : HW a0 Z) : ((Jvm.Cond.initialized "com/example/chainmail/chainmail/NavigationContextOfPinLaw")).before a0 Z = true := hw _ (List.mem_of_getElem? (i := 2) rfl)
theorem wd3 {a0 : Array Value} {Z : State} (hw : HW a0 Z) : ((Jvm.Cond.code ({ cls := "com/example/chainmail/chainmail/NavigationContextOfPinLaw", name := "str", desc := "(IIII)Ljava/lang/String;" } : Jvm.MethodName) method_2_code (8 : Nat) (Option.some (Jvm.ClassFile.FieldType.object "java/lang/String")))).before a0 Z = true := hw _ (List.mem_of_getElem? (i := 3) rfl)
theorem wd4 {a0 : Array Value} {Z : State} (hw : HW a0 Z) : ((Jvm.Cond.classLink "com/example/chainmail/chainmail/NavigationContextOfPinLaw" (7 : Nat) "java/lang/String")).before a0 Z = true := hw _ (List.mem_of_getElem? (i := 4) rfl)
theorem wd5 {a0 : Array Value} {Z : State} (hw : HW a0 Z) : ((Jvm.Cond.instantiable "java/lang/String" (4 : Nat))).before a0 Z = true := hw _ (List.mem_of_getElem? (i := 5) rfl)
theorem wd6 {a0 : Array Value} {Z : State} (hw : HW a0 Z) : ((Jvm.Cond.initialized "java/lang/String")).before a0 Z = true := hw _ (List.mem_of_getElem? (i := 6) rfl)
theorem wd7 {a0 : Array Value} {Z : State} (hw : HW a0 Z) : ((Jvm.Cond.arrayClass Jvm.ClassFile.FieldType.char)).before a0 Z = true := hw _ (List.mem_of_getElem? (i := 7) rfl)
theorem wd8 {a0 : Array Value} {Z : State} (hw : HW a0 Z) : ((Jvm.Cond.methodLink "com/example/chainmail/chainmail/NavigationContextOfPinLaw" (9 : Nat) ({ cls := "java/lang/String", name := "<init>", desc := "([C)V" } : Jvm.MethodName))).before a0 Z = true := hw _ (List.mem_of_getElem? (i := 8) rfl)
theorem wd9 {a0 : Array Value} {Z : State} (hw : HW a0 Z) : ((Jvm.Cond.instanceMethod ({ cls := "java/lang/String", name := "<init>", desc := "([C)V" } : Jvm.MethodName))).before a0 Z = true := hw _ (List.mem_of_getElem? (i := 9) rfl)
theorem wd10 {a0 : Array Value} {Z : State} (hw : HW a0 Z) : ((Jvm.Cond.code ({ cls := "java/lang/String", name := "<init>", desc := "([C)V" } : Jvm.MethodName) jdk_42_method_3_code (2 : Nat) (Option.none : Option Jvm.ClassFile.FieldType))).before a0 Z = true := hw _ (List.mem_of_getElem? (i := 10) rfl)
theorem wd11 {a0 : Array Value} {Z : State} (hw : HW a0 Z) : ((Jvm.Cond.methodLink "java/lang/String" (27 : Nat) ({ cls := "java/lang/String", name := "<init>", desc := "([CIILjava/lang/Void;)V" } : Jvm.MethodName))).before a0 Z = true := hw _ (List.mem_of_getElem? (i := 11) rfl)
theorem wd12 {a0 : Array Value} {Z : State} (hw : HW a0 Z) : ((Jvm.Cond.instanceMethod ({ cls := "java/lang/String", name := "<init>", desc := "([CIILjava/lang/Void;)V" } : Jvm.MethodName))).before a0 Z = true := hw _ (List.mem_of_getElem? (i := 12) rfl)
theorem wd14 {a0 : Array Value} {Z : State} (hw : HW a0 Z) : ((Jvm.Cond.code ({ cls := "java/lang/String", name := "<init>", desc := "([CIILjava/lang/Void;)V" } : Jvm.MethodName) jdk_42_method_149_code (6 : Nat) (Option.none : Option Jvm.ClassFile.FieldType))).before a0 Z = true := hw _ (List.mem_of_getElem? (i := 14) rfl)
theorem wd15 {a0 : Array Value} {Z : State} (hw : HW a0 Z) : ((Jvm.Cond.methodLink "java/lang/String" (1 : Nat) ({ cls := "java/lang/Object", name := "<init>", desc := "()V" } : Jvm.MethodName))).before a0 Z = true := hw _ (List.mem_of_getElem? (i := 15) rfl)
theorem wd16 {a0 : Array Value} {Z : State} (hw : HW a0 Z) : ((Jvm.Cond.instanceMethod ({ cls := "java/lang/Object", name := "<init>", desc := "()V" } : Jvm.MethodName))).before a0 Z = true := hw _ (List.mem_of_getElem? (i := 16) rfl)
theorem wd17 {a0 : Array Value} {Z : State} (hw : HW a0 Z) : ((Jvm.Cond.code ({ cls := "java/lang/Object", name := "<init>", desc := "()V" } : Jvm.MethodName) object_method_1_code (1 : Nat) (Option.none : Option Jvm.ClassFile.FieldType))).before a0 Z = true := hw _ (List.mem_of_getElem? (i := 17) rfl)
theorem wd18 {a0 : Array Value} {Z : State} (hw : HW a0 Z) : ((Jvm.Cond.stringLink "java/lang/String" (7 : Nat) "")).before a0 Z = true := hw _ (List.mem_of_getElem? (i := 18) rfl)
theorem wd19 {a0 : Array Value} {Z : State} (hw : HW a0 Z) : ((Jvm.Cond.arrayClass Jvm.ClassFile.FieldType.byte)).before a0 Z = true := hw _ (List.mem_of_getElem? (i := 19) rfl)
theorem wd20 {a0 : Array Value} {Z : State} (hw : HW a0 Z) : ((Jvm.Cond.laysFinal "java/lang/String" "java/lang/String" "value" "[B")).before a0 Z = true := hw _ (List.mem_of_getElem? (i := 20) rfl)
theorem wd21 {a0 : Array Value} {Z : State} (hw : HW a0 Z) : ((Jvm.Cond.laysFinal "java/lang/String" "java/lang/String" "coder" "B")).before a0 Z = true := hw _ (List.mem_of_getElem? (i := 21) rfl)
theorem wd22 {a0 : Array Value} {Z : State} (hw : HW a0 Z) : ((Jvm.Cond.soleField "java/lang/String" "value")).before a0 Z = true := hw _ (List.mem_of_getElem? (i := 22) rfl)
theorem wd23 {a0 : Array Value} {Z : State} (hw : HW a0 Z) : ((Jvm.Cond.soleField "java/lang/String" "coder")).before a0 Z = true := hw _ (List.mem_of_getElem? (i := 23) rfl)
theorem wd24 {a0 : Array Value} {Z : State} (hw : HW a0 Z) : ((Jvm.Cond.fieldLink "java/lang/String" (9 : Nat) "java/lang/String" "value" "[B")).before a0 Z = true := hw _ (List.mem_of_getElem? (i := 24) rfl)
theorem wd25 {a0 : Array Value} {Z : State} (hw : HW a0 Z) : ((Jvm.Cond.fieldLink "java/lang/String" (15 : Nat) "java/lang/String" "coder" "B")).before a0 Z = true := hw _ (List.mem_of_getElem? (i := 25) rfl)
theorem wd26 {a0 : Array Value} {Z : State} (hw : HW a0 Z) : ((Jvm.Cond.methodLink "com/example/chainmail/chainmail/NavigationContextOfPinLaw" (18 : Nat) ({ cls := "com/example/chainmail/chainmail/NavigationContext", name := "of", desc := "(Ljava/lang/String;)Lcom/example/chainmail/chainmail/NavigationContext;" } : Jvm.MethodName))).before a0 Z = true := hw _ (List.mem_of_getElem? (i := 26) rfl)
theorem wd27 {a0 : Array Value} {Z : State} (hw : HW a0 Z) : ((Jvm.Cond.static ({ cls := "com/example/chainmail/chainmail/NavigationContext", name := "of", desc := "(Ljava/lang/String;)Lcom/example/chainmail/chainmail/NavigationContext;" } : Jvm.MethodName))).before a0 Z = true := hw _ (List.mem_of_getElem? (i := 27) rfl)
theorem wd28 {a0 : Array Value} {Z : State} (hw : HW a0 Z) : ((Jvm.Cond.initialized "com/example/chainmail/chainmail/NavigationContext")).before a0 Z = true := hw _ (List.mem_of_getElem? (i := 28) rfl)
theorem wd29 {a0 : Array Value} {Z : State} (hw : HW a0 Z) : ((Jvm.Cond.code ({ cls := "com/example/chainmail/chainmail/NavigationContext", name := "of", desc := "(Ljava/lang/String;)Lcom/example/chainmail/chainmail/NavigationContext;" } : Jvm.MethodName) prog_5_method_2_code (1 : Nat) (Option.some (Jvm.ClassFile.FieldType.object "com/example/chainmail/chainmail/NavigationContext")))).before a0 Z = true := hw _ (List.mem_of_getElem? (i := 29) rfl)
theorem wd30 {a0 : Array Value} {Z : State} (hw : HW a0 Z) : ((Jvm.Cond.classLink "com/example/chainmail/chainmail/NavigationContext" (8 : Nat) "com/example/chainmail/chainmail/NavigationContext")).before a0 Z = true := hw _ (List.mem_of_getElem? (i := 30) rfl)
theorem wd31 {a0 : Array Value} {Z : State} (hw : HW a0 Z) : ((Jvm.Cond.instantiable "com/example/chainmail/chainmail/NavigationContext" (4 : Nat))).before a0 Z = true := hw _ (List.mem_of_getElem? (i := 31) rfl)
theorem wd32 {a0 : Array Value} {Z : State} (hw : HW a0 Z) : ((Jvm.Cond.stringLink "com/example/chainmail/chainmail/NavigationContext" (20 : Nat) "Null path")).before a0 Z = true := hw _ (List.mem_of_getElem? (i := 32) rfl)
theorem wd33 {a0 : Array Value} {Z : State} (hw : HW a0 Z) : ((Jvm.Cond.methodLink "com/example/chainmail/chainmail/NavigationContext" (22 : Nat) ({ cls := "java/util/Objects", name := "requireNonNull", desc := "(Ljava/lang/Object;Ljava/lang/String;)Ljava/lang/Object;" } : Jvm.MethodName))).before a0 Z = true := hw _ (List.mem_of_getElem? (i := 33) rfl)
theorem wd34 {a0 : Array Value} {Z : State} (hw : HW a0 Z) : ((Jvm.Cond.static ({ cls := "java/util/Objects", name := "requireNonNull", desc := "(Ljava/lang/Object;Ljava/lang/String;)Ljava/lang/Object;" } : Jvm.MethodName))).before a0 Z = true := hw _ (List.mem_of_getElem? (i := 34) rfl)
theorem wd35 {a0 : Array Value} {Z : State} (hw : HW a0 Z) : ((Jvm.Cond.initialized "java/util/Objects")).before a0 Z = true := hw _ (List.mem_of_getElem? (i := 35) rfl)
theorem wd36 {a0 : Array Value} {Z : State} (hw : HW a0 Z) : ((Jvm.Cond.code ({ cls := "java/util/Objects", name := "requireNonNull", desc := "(Ljava/lang/Object;Ljava/lang/String;)Ljava/lang/Object;" } : Jvm.MethodName) jdk_31_method_11_code (2 : Nat) (Option.some (Jvm.ClassFile.FieldType.object "java/lang/Object")))).before a0 Z = true := hw _ (List.mem_of_getElem? (i := 36) rfl)
theorem wd37 {a0 : Array Value} {Z : State} (hw : HW a0 Z) : ((Jvm.Cond.classLink "com/example/chainmail/chainmail/NavigationContext" (28 : Nat) "java/lang/String")).before a0 Z = true := hw _ (List.mem_of_getElem? (i := 37) rfl)
theorem wd38 {a0 : Array Value} {Z : State} (hw : HW a0 Z) : ((Jvm.Cond.methodLink "com/example/chainmail/chainmail/NavigationContext" (30 : Nat) ({ cls := "java/util/Map", name := "of", desc := "()Ljava/util/Map;" } : Jvm.MethodName))).before a0 Z = true := hw _ (List.mem_of_getElem? (i := 38) rfl)
theorem wd39 {a0 : Array Value} {Z : State} (hw : HW a0 Z) : ((Jvm.Cond.static ({ cls := "java/util/Map", name := "of", desc := "()Ljava/util/Map;" } : Jvm.MethodName))).before a0 Z = true := hw _ (List.mem_of_getElem? (i := 39) rfl)
theorem wd40 {a0 : Array Value} {Z : State} (hw : HW a0 Z) : ((Jvm.Cond.initialized "java/util/Map")).before a0 Z = true := hw _ (List.mem_of_getElem? (i := 40) rfl)
theorem wd41 {a0 : Array Value} {Z : State} (hw : HW a0 Z) : ((Jvm.Cond.code ({ cls := "java/util/Map", name := "of", desc := "()Ljava/util/Map;" } : Jvm.MethodName) jdk_72_method_26_code (0 : Nat) (Option.some (Jvm.ClassFile.FieldType.object "java/util/Map")))).before a0 Z = true := hw _ (List.mem_of_getElem? (i := 41) rfl)
theorem wd42 {a0 : Array Value} {Z : State} (hw : HW a0 Z) : ((Jvm.Cond.fieldLink "java/util/Map" (81 : Nat) "java/util/ImmutableCollections" "EMPTY_MAP" "Ljava/util/ImmutableCollections$MapN;")).before a0 Z = true := hw _ (List.mem_of_getElem? (i := 42) rfl)
theorem wd43 {a0 : Array Value} {Z : State} (hw : HW a0 Z) : ((Jvm.Cond.initialized "java/util/ImmutableCollections")).before a0 Z = true := hw _ (List.mem_of_getElem? (i := 43) rfl)
theorem wd44 {a0 : Array Value} {Z : State} (hw : HW a0 Z) : ((Jvm.Cond.methodLink "com/example/chainmail/chainmail/NavigationContext" (36 : Nat) ({ cls := "com/example/chainmail/chainmail/NavigationContext", name := "<init>", desc := "(Ljava/lang/String;Ljava/lang/String;Ljava/util/Map;)V" } : Jvm.MethodName))).before a0 Z = true := hw _ (List.mem_of_getElem? (i := 44) rfl)
theorem wd45 {a0 : Array Value} {Z : State} (hw : HW a0 Z) : ((Jvm.Cond.instanceMethod ({ cls := "com/example/chainmail/chainmail/NavigationContext", name := "<init>", desc := "(Ljava/lang/String;Ljava/lang/String;Ljava/util/Map;)V" } : Jvm.MethodName))).before a0 Z = true := hw _ (List.mem_of_getElem? (i := 45) rfl)
theorem wd46 {a0 : Array Value} {Z : State} (hw : HW a0 Z) : ((Jvm.Cond.code ({ cls := "com/example/chainmail/chainmail/NavigationContext", name := "<init>", desc := "(Ljava/lang/String;Ljava/lang/String;Ljava/util/Map;)V" } : Jvm.MethodName) prog_5_method_1_code (4 : Nat) (Option.none : Option Jvm.ClassFile.FieldType))).before a0 Z = true := hw _ (List.mem_of_getElem? (i := 46) rfl)
theorem wd47 {a0 : Array Value} {Z : State} (hw : HW a0 Z) : ((Jvm.Cond.methodLink "com/example/chainmail/chainmail/NavigationContext" (1 : Nat) ({ cls := "java/lang/Object", name := "<init>", desc := "()V" } : Jvm.MethodName))).before a0 Z = true := hw _ (List.mem_of_getElem? (i := 47) rfl)
theorem wd48 {a0 : Array Value} {Z : State} (hw : HW a0 Z) : ((Jvm.Cond.fieldLink "com/example/chainmail/chainmail/NavigationContext" (7 : Nat) "com/example/chainmail/chainmail/NavigationContext" "path" "Ljava/lang/String;")).before a0 Z = true := hw _ (List.mem_of_getElem? (i := 48) rfl)
theorem wd49 {a0 : Array Value} {Z : State} (hw : HW a0 Z) : ((Jvm.Cond.laysFinal "com/example/chainmail/chainmail/NavigationContext" "com/example/chainmail/chainmail/NavigationContext" "path" "Ljava/lang/String;")).before a0 Z = true := hw _ (List.mem_of_getElem? (i := 49) rfl)
theorem wd50 {a0 : Array Value} {Z : State} (hw : HW a0 Z) : ((Jvm.Cond.fieldLink "com/example/chainmail/chainmail/NavigationContext" (13 : Nat) "com/example/chainmail/chainmail/NavigationContext" "query" "Ljava/lang/String;")).before a0 Z = true := hw _ (List.mem_of_getElem? (i := 50) rfl)
theorem wd51 {a0 : Array Value} {Z : State} (hw : HW a0 Z) : ((Jvm.Cond.laysFinal "com/example/chainmail/chainmail/NavigationContext" "com/example/chainmail/chainmail/NavigationContext" "query" "Ljava/lang/String;")).before a0 Z = true := hw _ (List.mem_of_getElem? (i := 51) rfl)
theorem wd52 {a0 : Array Value} {Z : State} (hw : HW a0 Z) : ((Jvm.Cond.fieldLink "com/example/chainmail/chainmail/NavigationContext" (16 : Nat) "com/example/chainmail/chainmail/NavigationContext" "given" "Ljava/util/Map;")).before a0 Z = true := hw _ (List.mem_of_getElem? (i := 52) rfl)
theorem wd53 {a0 : Array Value} {Z : State} (hw : HW a0 Z) : ((Jvm.Cond.laysFinal "com/example/chainmail/chainmail/NavigationContext" "com/example/chainmail/chainmail/NavigationContext" "given" "Ljava/util/Map;")).before a0 Z = true := hw _ (List.mem_of_getElem? (i := 53) rfl)
theorem wd54 {a0 : Array Value} {Z : State} (hw : HW a0 Z) : ((Jvm.Cond.methodLink "com/example/chainmail/chainmail/NavigationContextOfPinLaw" (24 : Nat) ({ cls := "com/example/chainmail/chainmail/NavigationContext", name := "path", desc := "()Ljava/lang/String;" } : Jvm.MethodName))).before a0 Z = true := hw _ (List.mem_of_getElem? (i := 54) rfl)
theorem wd55 {a0 : Array Value} {Z : State} (hw : HW a0 Z) : ((Jvm.Cond.declares ({ cls := "com/example/chainmail/chainmail/NavigationContext", name := "path", desc := "()Ljava/lang/String;" } : Jvm.MethodName))).before a0 Z = true := hw _ (List.mem_of_getElem? (i := 55) rfl)
theorem wd56 {a0 : Array Value} {Z : State} (hw : HW a0 Z) : ((Jvm.Cond.instanceMethod ({ cls := "com/example/chainmail/chainmail/NavigationContext", name := "path", desc := "()Ljava/lang/String;" } : Jvm.MethodName))).before a0 Z = true := hw _ (List.mem_of_getElem? (i := 56) rfl)
theorem wd57 {a0 : Array Value} {Z : State} (hw : HW a0 Z) : ((Jvm.Cond.selects "com/example/chainmail/chainmail/NavigationContext" ({ cls := "com/example/chainmail/chainmail/NavigationContext", name := "path", desc := "()Ljava/lang/String;" } : Jvm.MethodName) ({ cls := "com/example/chainmail/chainmail/NavigationContext", name := "path", desc := "()Ljava/lang/String;" } : Jvm.MethodName))).before a0 Z = true := hw _ (List.mem_of_getElem? (i := 57) rfl)
theorem wd58 {a0 : Array Value} {Z : State} (hw : HW a0 Z) : ((Jvm.Cond.code ({ cls := "com/example/chainmail/chainmail/NavigationContext", name := "path", desc := "()Ljava/lang/String;" } : Jvm.MethodName) prog_5_method_6_code (1 : Nat) (Option.some (Jvm.ClassFile.FieldType.object "java/lang/String")))).before a0 Z = true := hw _ (List.mem_of_getElem? (i := 58) rfl)
theorem wd59 {a0 : Array Value} {Z : State} (hw : HW a0 Z) : ((Jvm.Cond.methodLink "com/example/chainmail/chainmail/NavigationContextOfPinLaw" (28 : Nat) ({ cls := "java/lang/String", name := "equals", desc := "(Ljava/lang/Object;)Z" } : Jvm.MethodName))).before a0 Z = true := hw _ (List.mem_of_getElem? (i := 59) rfl)
theorem wd60 {a0 : Array Value} {Z : State} (hw : HW a0 Z) : ((Jvm.Cond.declares ({ cls := "java/lang/String", name := "equals", desc := "(Ljava/lang/Object;)Z" } : Jvm.MethodName))).before a0 Z = true := hw _ (List.mem_of_getElem? (i := 60) rfl)
theorem wd61 {a0 : Array Value} {Z : State} (hw : HW a0 Z) : ((Jvm.Cond.instanceMethod ({ cls := "java/lang/String", name := "equals", desc := "(Ljava/lang/Object;)Z" } : Jvm.MethodName))).before a0 Z = true := hw _ (List.mem_of_getElem? (i := 61) rfl)
theorem wd62 {a0 : Array Value} {Z : State} (hw : HW a0 Z) : ((Jvm.Cond.selects "java/lang/String" ({ cls := "java/lang/String", name := "equals", desc := "(Ljava/lang/Object;)Z" } : Jvm.MethodName) ({ cls := "java/lang/String", name := "equals", desc := "(Ljava/lang/Object;)Z" } : Jvm.MethodName))).before a0 Z = true := hw _ (List.mem_of_getElem? (i := 62) rfl)
theorem wd63 {a0 : Array Value} {Z : State} (hw : HW a0 Z) : ((Jvm.Cond.code ({ cls := "java/lang/String", name := "equals", desc := "(Ljava/lang/Object;)Z" } : Jvm.MethodName) jdk_42_method_66_code (3 : Nat) (Option.some Jvm.ClassFile.FieldType.boolean))).before a0 Z = true := hw _ (List.mem_of_getElem? (i := 63) rfl)
theorem wd64 {a0 : Array Value} {Z : State} (hw : HW a0 Z) : ((Jvm.Cond.methodLink "com/example/chainmail/chainmail/NavigationContextOfPinLaw" (32 : Nat) ({ cls := "java/lang/String", name := "length", desc := "()I" } : Jvm.MethodName))).before a0 Z = true := hw _ (List.mem_of_getElem? (i := 64) rfl)
theorem wd65 {a0 : Array Value} {Z : State} (hw : HW a0 Z) : ((Jvm.Cond.declares ({ cls := "java/lang/String", name := "length", desc := "()I" } : Jvm.MethodName))).before a0 Z = true := hw _ (List.mem_of_getElem? (i := 65) rfl)
theorem wd66 {a0 : Array Value} {Z : State} (hw : HW a0 Z) : ((Jvm.Cond.instanceMethod ({ cls := "java/lang/String", name := "length", desc := "()I" } : Jvm.MethodName))).before a0 Z = true := hw _ (List.mem_of_getElem? (i := 66) rfl)
theorem wd67 {a0 : Array Value} {Z : State} (hw : HW a0 Z) : ((Jvm.Cond.selects "java/lang/String" ({ cls := "java/lang/String", name := "length", desc := "()I" } : Jvm.MethodName) ({ cls := "java/lang/String", name := "length", desc := "()I" } : Jvm.MethodName))).before a0 Z = true := hw _ (List.mem_of_getElem? (i := 67) rfl)
theorem wd68 {a0 : Array Value} {Z : State} (hw : HW a0 Z) : ((Jvm.Cond.code ({ cls := "java/lang/String", name := "length", desc := "()I" } : Jvm.MethodName) jdk_42_method_54_code (1 : Nat) (Option.some Jvm.ClassFile.FieldType.int))).before a0 Z = true := hw _ (List.mem_of_getElem? (i := 68) rfl)
theorem wd69 {a0 : Array Value} {Z : State} (hw : HW a0 Z) : ((Jvm.Cond.methodLink "java/lang/String" (335 : Nat) ({ cls := "java/lang/String", name := "coder", desc := "()B" } : Jvm.MethodName))).before a0 Z = true := hw _ (List.mem_of_getElem? (i := 69) rfl)
theorem wd70 {a0 : Array Value} {Z : State} (hw : HW a0 Z) : ((Jvm.Cond.declares ({ cls := "java/lang/String", name := "coder", desc := "()B" } : Jvm.MethodName))).before a0 Z = true := hw _ (List.mem_of_getElem? (i := 70) rfl)
theorem wd71 {a0 : Array Value} {Z : State} (hw : HW a0 Z) : ((Jvm.Cond.instanceMethod ({ cls := "java/lang/String", name := "coder", desc := "()B" } : Jvm.MethodName))).before a0 Z = true := hw _ (List.mem_of_getElem? (i := 71) rfl)
theorem wd72 {a0 : Array Value} {Z : State} (hw : HW a0 Z) : ((Jvm.Cond.selects "java/lang/String" ({ cls := "java/lang/String", name := "coder", desc := "()B" } : Jvm.MethodName) ({ cls := "java/lang/String", name := "coder", desc := "()B" } : Jvm.MethodName))).before a0 Z = true := hw _ (List.mem_of_getElem? (i := 72) rfl)
theorem wd73 {a0 : Array Value} {Z : State} (hw : HW a0 Z) : ((Jvm.Cond.code ({ cls := "java/lang/String", name := "coder", desc := "()B" } : Jvm.MethodName) jdk_42_method_152_code (1 : Nat) (Option.some Jvm.ClassFile.FieldType.byte))).before a0 Z = true := hw _ (List.mem_of_getElem? (i := 73) rfl)
theorem wd74 {a0 : Array Value} {Z : State} (hw : HW a0 Z) : ((Jvm.Cond.fieldLink "java/lang/String" (38 : Nat) "java/lang/String" "COMPACT_STRINGS" "Z")).before a0 Z = true := hw _ (List.mem_of_getElem? (i := 74) rfl)
theorem wd75 {a0 : Array Value} {Z : State} (hw : HW a0 Z) : ((Jvm.Cond.methodLink "com/example/chainmail/chainmail/NavigationContextOfPinLaw" (36 : Nat) ({ cls := "com/example/chainmail/chainmail/NavigationContext", name := "queryParameters", desc := "()Ljava/util/Map;" } : Jvm.MethodName))).before a0 Z = true := hw _ (List.mem_of_getElem? (i := 75) rfl)
theorem wd76 {a0 : Array Value} {Z : State} (hw : HW a0 Z) : ((Jvm.Cond.declares ({ cls := "com/example/chainmail/chainmail/NavigationContext", name := "queryParameters", desc := "()Ljava/util/Map;" } : Jvm.MethodName))).before a0 Z = true := hw _ (List.mem_of_getElem? (i := 76) rfl)
theorem wd77 {a0 : Array Value} {Z : State} (hw : HW a0 Z) : ((Jvm.Cond.instanceMethod ({ cls := "com/example/chainmail/chainmail/NavigationContext", name := "queryParameters", desc := "()Ljava/util/Map;" } : Jvm.MethodName))).before a0 Z = true := hw _ (List.mem_of_getElem? (i := 77) rfl)
theorem wd78 {a0 : Array Value} {Z : State} (hw : HW a0 Z) : ((Jvm.Cond.selects "com/example/chainmail/chainmail/NavigationContext" ({ cls := "com/example/chainmail/chainmail/NavigationContext", name := "queryParameters", desc := "()Ljava/util/Map;" } : Jvm.MethodName) ({ cls := "com/example/chainmail/chainmail/NavigationContext", name := "queryParameters", desc := "()Ljava/util/Map;" } : Jvm.MethodName))).before a0 Z = true := hw _ (List.mem_of_getElem? (i := 78) rfl)
theorem wd79 {a0 : Array Value} {Z : State} (hw : HW a0 Z) : ((Jvm.Cond.code ({ cls := "com/example/chainmail/chainmail/NavigationContext", name := "queryParameters", desc := "()Ljava/util/Map;" } : Jvm.MethodName) prog_5_method_7_code (2 : Nat) (Option.some (Jvm.ClassFile.FieldType.object "java/util/Map")))).before a0 Z = true := hw _ (List.mem_of_getElem? (i := 79) rfl)
theorem wd80 {a0 : Array Value} {Z : State} (hw : HW a0 Z) : ((Jvm.Cond.methodLink "com/example/chainmail/chainmail/NavigationContextOfPinLaw" (40 : Nat) ({ cls := "java/util/Map", name := "isEmpty", desc := "()Z" } : Jvm.MethodName))).before a0 Z = true := hw _ (List.mem_of_getElem? (i := 80) rfl)
theorem wd81 {a0 : Array Value} {Z : State} (hw : HW a0 Z) : ((Jvm.Cond.declares ({ cls := "java/util/Map", name := "isEmpty", desc := "()Z" } : Jvm.MethodName))).before a0 Z = true := hw _ (List.mem_of_getElem? (i := 81) rfl)
theorem wd82 {a0 : Array Value} {Z : State} (hw : HW a0 Z) : ((Jvm.Cond.interfaceMethod "java/util/Map" "java/util/Map" "isEmpty" "()Z")).before a0 Z = true := hw _ (List.mem_of_getElem? (i := 82) rfl)
theorem wd83 {a0 : Array Value} {Z : State} (hw : HW a0 Z) : ((Jvm.Cond.selects "java/util/ImmutableCollections$MapN" ({ cls := "java/util/Map", name := "isEmpty", desc := "()Z" } : Jvm.MethodName) ({ cls := "java/util/ImmutableCollections$MapN", name := "isEmpty", desc := "()Z" } : Jvm.MethodName))).before a0 Z = true := hw _ (List.mem_of_getElem? (i := 83) rfl)
theorem wd84 {a0 : Array Value} {Z : State} (hw : HW a0 Z) : ((Jvm.Cond.instanceMethod ({ cls := "java/util/ImmutableCollections$MapN", name := "isEmpty", desc := "()Z" } : Jvm.MethodName))).before a0 Z = true := hw _ (List.mem_of_getElem? (i := 84) rfl)
theorem wd85 {a0 : Array Value} {Z : State} (hw : HW a0 Z) : ((Jvm.Cond.publicMethod ({ cls := "java/util/ImmutableCollections$MapN", name := "isEmpty", desc := "()Z" } : Jvm.MethodName))).before a0 Z = true := hw _ (List.mem_of_getElem? (i := 85) rfl)
theorem wd86 {a0 : Array Value} {Z : State} (hw : HW a0 Z) : ((Jvm.Cond.unhidden "java/util/ImmutableCollections$MapN" "isEmpty" "()Z")).before a0 Z = true := hw _ (List.mem_of_getElem? (i := 86) rfl)
theorem wd87 {a0 : Array Value} {Z : State} (hw : HW a0 Z) : ((Jvm.Cond.castable "java/util/ImmutableCollections$MapN" "java/util/Map")).before a0 Z = true := hw _ (List.mem_of_getElem? (i := 87) rfl)
theorem wd88 {a0 : Array Value} {Z : State} (hw : HW a0 Z) : ((Jvm.Cond.initialized "java/util/ImmutableCollections$MapN")).before a0 Z = true := hw _ (List.mem_of_getElem? (i := 88) rfl)
theorem wd89 {a0 : Array Value} {Z : State} (hw : HW a0 Z) : ((Jvm.Cond.code ({ cls := "java/util/ImmutableCollections$MapN", name := "isEmpty", desc := "()Z" } : Jvm.MethodName) jdk_2605_method_7_code (1 : Nat) (Option.some Jvm.ClassFile.FieldType.boolean))).before a0 Z = true := hw _ (List.mem_of_getElem? (i := 89) rfl)
theorem wd90 {a0 : Array Value} {Z : State} (hw : HW a0 Z) : ((Jvm.Cond.fieldLink "java/util/ImmutableCollections$MapN" (16 : Nat) "java/util/ImmutableCollections$MapN" "size" "I")).before a0 Z = true := hw _ (List.mem_of_getElem? (i := 90) rfl)
theorem wd92 {a0 : Array Value} {Z : State} (hw : HW a0 Z) : ((Jvm.Cond.methodLink "java/lang/String" (177 : Nat) ({ cls := "java/lang/StringUTF16", name := "compress", desc := "([CII)[B" } : Jvm.MethodName))).before a0 Z = true := hw _ (List.mem_of_getElem? (i := 92) rfl)
theorem wd93 {a0 : Array Value} {Z : State} (hw : HW a0 Z) : ((Jvm.Cond.static ({ cls := "java/lang/StringUTF16", name := "compress", desc := "([CII)[B" } : Jvm.MethodName))).before a0 Z = true := hw _ (List.mem_of_getElem? (i := 93) rfl)
theorem wd94 {a0 : Array Value} {Z : State} (hw : HW a0 Z) : ((Jvm.Cond.initialized "java/lang/StringUTF16")).before a0 Z = true := hw _ (List.mem_of_getElem? (i := 94) rfl)
theorem wd95 {a0 : Array Value} {Z : State} (hw : HW a0 Z) : ((Jvm.Cond.code ({ cls := "java/lang/StringUTF16", name := "compress", desc := "([CII)[B" } : Jvm.MethodName) jdk_52_method_16_code (6 : Nat) (Option.some (Jvm.ClassFile.FieldType.array Jvm.ClassFile.FieldType.byte)))).before a0 Z = true := hw _ (List.mem_of_getElem? (i := 95) rfl)
theorem wd96 {a0 : Array Value} {Z : State} (hw : HW a0 Z) : ((Jvm.Cond.methodLink "java/lang/StringUTF16" (115 : Nat) ({ cls := "java/lang/StringUTF16", name := "compress", desc := "([CI[BII)I" } : Jvm.MethodName))).before a0 Z = true := hw _ (List.mem_of_getElem? (i := 96) rfl)
theorem wd97 {a0 : Array Value} {Z : State} (hw : HW a0 Z) : ((Jvm.Cond.static ({ cls := "java/lang/StringUTF16", name := "compress", desc := "([CI[BII)I" } : Jvm.MethodName))).before a0 Z = true := hw _ (List.mem_of_getElem? (i := 97) rfl)
theorem wd98 {a0 : Array Value} {Z : State} (hw : HW a0 Z) : ((Jvm.Cond.code ({ cls := "java/lang/StringUTF16", name := "compress", desc := "([CI[BII)I" } : Jvm.MethodName) jdk_52_method_21_code (7 : Nat) (Option.some Jvm.ClassFile.FieldType.int))).before a0 Z = true := hw _ (List.mem_of_getElem? (i := 98) rfl)
theorem wd99 {a0 : Array Value} {Z : State} (hw : HW a0 Z) : ((Jvm.Cond.methodLink "java/lang/String" (47 : Nat) ({ cls := "java/lang/StringUTF16", name := "coderFromArrayLen", desc := "([BI)B" } : Jvm.MethodName))).before a0 Z = true := hw _ (List.mem_of_getElem? (i := 99) rfl)
theorem wd100 {a0 : Array Value} {Z : State} (hw : HW a0 Z) : ((Jvm.Cond.static ({ cls := "java/lang/StringUTF16", name := "coderFromArrayLen", desc := "([BI)B" } : Jvm.MethodName))).before a0 Z = true := hw _ (List.mem_of_getElem? (i := 100) rfl)
theorem wd101 {a0 : Array Value} {Z : State} (hw : HW a0 Z) : ((Jvm.Cond.code ({ cls := "java/lang/StringUTF16", name := "coderFromArrayLen", desc := "([BI)B" } : Jvm.MethodName) jdk_52_method_15_code (2 : Nat) (Option.some Jvm.ClassFile.FieldType.byte))).before a0 Z = true := hw _ (List.mem_of_getElem? (i := 101) rfl)
theorem wd103 {a0 : Array Value} {Z : State} (hw : HW a0 Z) : ((Jvm.Cond.lays "com/example/chainmail/chainmail/NavigationContext" "com/example/chainmail/chainmail/NavigationContext" "decoded" "Ljava/util/Map;")).before a0 Z = true := hw _ (List.mem_of_getElem? (i := 103) rfl)
theorem d1_0 : decode method_2_code 0 = .ok (.iload_n 1, 1) := by decide +kernel
theorem d1_1 : decode method_2_code 1 = .ok (.sipush 255, 3) := by decide +kernel
theorem d1_4 : decode method_2_code 4 = .ok (.iand, 1) := by decide +kernel
theorem d1_5 : decode method_2_code 5 = .ok (.i2c, 1) := by decide +kernel
theorem d1_6 : decode method_2_code 6 = .ok (.istore 4, 2) := by decide +kernel
theorem d1_8 : decode method_2_code 8 = .ok (.iload_n 2, 1) := by decide +kernel
theorem d1_9 : decode method_2_code 9 = .ok (.sipush 255, 3) := by decide +kernel
theorem d1_12 : decode method_2_code 12 = .ok (.iand, 1) := by decide +kernel
theorem d1_13 : decode method_2_code 13 = .ok (.i2c, 1) := by decide +kernel
theorem d1_14 : decode method_2_code 14 = .ok (.istore 5, 2) := by decide +kernel
theorem d1_16 : decode method_2_code 16 = .ok (.iload_n 3, 1) := by decide +kernel
theorem d1_17 : decode method_2_code 17 = .ok (.sipush 255, 3) := by decide +kernel
theorem d1_20 : decode method_2_code 20 = .ok (.iand, 1) := by decide +kernel
theorem d1_21 : decode method_2_code 21 = .ok (.i2c, 1) := by decide +kernel
theorem d1_22 : decode method_2_code 22 = .ok (.istore 6, 2) := by decide +kernel
theorem d1_24 : decode method_2_code 24 = .ok (.iload_n 0, 1) := by decide +kernel
theorem d1_25 : decode method_2_code 25 = .ok (.ifCond .ne 14, 3) := by decide +kernel
theorem d1_28 : decode method_2_code 28 = .ok (.new 7, 3) := by decide +kernel
theorem d1_31 : decode method_2_code 31 = .ok (.dup, 1) := by decide +kernel
theorem d1_32 : decode method_2_code 32 = .ok (.iconst 0, 1) := by decide +kernel
theorem d1_33 : decode method_2_code 33 = .ok (.newarray .char, 2) := by decide +kernel
theorem d1_35 : decode method_2_code 35 = .ok (.invokespecial 9, 3) := by decide +kernel
theorem d1_38 : decode method_2_code 38 = .ok (.areturn, 1) := by decide +kernel
theorem d1_39 : decode method_2_code 39 = .ok (.iload_n 0, 1) := by decide +kernel
theorem d1_40 : decode method_2_code 40 = .ok (.iconst 1, 1) := by decide +kernel
theorem d1_41 : decode method_2_code 41 = .ok (.if_icmp .ne 24, 3) := by decide +kernel
theorem d1_44 : decode method_2_code 44 = .ok (.iconst 1, 1) := by decide +kernel
theorem d1_45 : decode method_2_code 45 = .ok (.newarray .char, 2) := by decide +kernel
theorem d1_47 : decode method_2_code 47 = .ok (.astore 7, 2) := by decide +kernel
theorem d1_49 : decode method_2_code 49 = .ok (.aload 7, 2) := by decide +kernel
theorem d1_51 : decode method_2_code 51 = .ok (.iconst 0, 1) := by decide +kernel
theorem d1_52 : decode method_2_code 52 = .ok (.iload 4, 2) := by decide +kernel
theorem d1_54 : decode method_2_code 54 = .ok (.castore, 1) := by decide +kernel
theorem d1_55 : decode method_2_code 55 = .ok (.new 7, 3) := by decide +kernel
theorem d1_58 : decode method_2_code 58 = .ok (.dup, 1) := by decide +kernel
theorem d1_59 : decode method_2_code 59 = .ok (.aload 7, 2) := by decide +kernel
theorem d1_61 : decode method_2_code 61 = .ok (.invokespecial 9, 3) := by decide +kernel
theorem d1_64 : decode method_2_code 64 = .ok (.areturn, 1) := by decide +kernel
theorem d1_65 : decode method_2_code 65 = .ok (.iload_n 0, 1) := by decide +kernel
theorem d1_66 : decode method_2_code 66 = .ok (.iconst 2, 1) := by decide +kernel
theorem d1_67 : decode method_2_code 67 = .ok (.if_icmp .ne 30, 3) := by decide +kernel
theorem d1_70 : decode method_2_code 70 = .ok (.iconst 2, 1) := by decide +kernel
theorem d1_71 : decode method_2_code 71 = .ok (.newarray .char, 2) := by decide +kernel
theorem d1_73 : decode method_2_code 73 = .ok (.astore 7, 2) := by decide +kernel
theorem d1_75 : decode method_2_code 75 = .ok (.aload 7, 2) := by decide +kernel
theorem d1_77 : decode method_2_code 77 = .ok (.iconst 0, 1) := by decide +kernel
theorem d1_78 : decode method_2_code 78 = .ok (.iload 4, 2) := by decide +kernel
theorem d1_80 : decode method_2_code 80 = .ok (.castore, 1) := by decide +kernel
theorem d1_81 : decode method_2_code 81 = .ok (.aload 7, 2) := by decide +kernel
theorem d1_83 : decode method_2_code 83 = .ok (.iconst 1, 1) := by decide +kernel
theorem d1_84 : decode method_2_code 84 = .ok (.iload 5, 2) := by decide +kernel
theorem d1_86 : decode method_2_code 86 = .ok (.castore, 1) := by decide +kernel
theorem d1_87 : decode method_2_code 87 = .ok (.new 7, 3) := by decide +kernel
theorem d1_90 : decode method_2_code 90 = .ok (.dup, 1) := by decide +kernel
theorem d1_91 : decode method_2_code 91 = .ok (.aload 7, 2) := by decide +kernel
theorem d1_93 : decode method_2_code 93 = .ok (.invokespecial 9, 3) := by decide +kernel
theorem d1_96 : decode method_2_code 96 = .ok (.areturn, 1) := by decide +kernel
theorem d1_97 : decode method_2_code 97 = .ok (.iconst 3, 1) := by decide +kernel
theorem d1_98 : decode method_2_code 98 = .ok (.newarray .char, 2) := by decide +kernel
theorem d1_100 : decode method_2_code 100 = .ok (.astore 7, 2) := by decide +kernel
theorem d1_102 : decode method_2_code 102 = .ok (.aload 7, 2) := by decide +kernel
theorem d1_104 : decode method_2_code 104 = .ok (.iconst 0, 1) := by decide +kernel
theorem d1_105 : decode method_2_code 105 = .ok (.iload 4, 2) := by decide +kernel
theorem d1_107 : decode method_2_code 107 = .ok (.castore, 1) := by decide +kernel
theorem d1_108 : decode method_2_code 108 = .ok (.aload 7, 2) := by decide +kernel
theorem d1_110 : decode method_2_code 110 = .ok (.iconst 1, 1) := by decide +kernel
theorem d1_111 : decode method_2_code 111 = .ok (.iload 5, 2) := by decide +kernel
theorem d1_113 : decode method_2_code 113 = .ok (.castore, 1) := by decide +kernel
theorem d1_114 : decode method_2_code 114 = .ok (.aload 7, 2) := by decide +kernel
theorem d1_116 : decode method_2_code 116 = .ok (.iconst 2, 1) := by decide +kernel
theorem d1_117 : decode method_2_code 117 = .ok (.iload 6, 2) := by decide +kernel
theorem d1_119 : decode method_2_code 119 = .ok (.castore, 1) := by decide +kernel
theorem d1_120 : decode method_2_code 120 = .ok (.new 7, 3) := by decide +kernel
theorem d1_123 : decode method_2_code 123 = .ok (.dup, 1) := by decide +kernel
theorem d1_124 : decode method_2_code 124 = .ok (.aload 7, 2) := by decide +kernel
theorem d1_126 : decode method_2_code 126 = .ok (.invokespecial 9, 3) := by decide +kernel
theorem d1_129 : decode method_2_code 129 = .ok (.areturn, 1) := by decide +kernel
theorem d2_0 : decode jdk_42_method_3_code 0 = .ok (.aload_n 0, 1) := by decide +kernel
theorem d2_1 : decode jdk_42_method_3_code 1 = .ok (.aload_n 1, 1) := by decide +kernel
theorem d2_2 : decode jdk_42_method_3_code 2 = .ok (.iconst 0, 1) := by decide +kernel
theorem d2_3 : decode jdk_42_method_3_code 3 = .ok (.aload_n 1, 1) := by decide +kernel
theorem d2_4 : decode jdk_42_method_3_code 4 = .ok (.arraylength, 1) := by decide +kernel
theorem d2_5 : decode jdk_42_method_3_code 5 = .ok (.aconst_null, 1) := by decide +kernel
theorem d2_6 : decode jdk_42_method_3_code 6 = .ok (.invokespecial 27, 3) := by decide +kernel
theorem d2_9 : decode jdk_42_method_3_code 9 = .ok (.return_, 1) := by decide +kernel
theorem d3_0 : decode jdk_42_method_149_code 0 = .ok (.aload_n 0, 1) := by decide +kernel
theorem d3_1 : decode jdk_42_method_149_code 1 = .ok (.invokespecial 1, 3) := by decide +kernel
theorem d3_4 : decode jdk_42_method_149_code 4 = .ok (.iload_n 3, 1) := by decide +kernel
theorem d3_5 : decode jdk_42_method_149_code 5 = .ok (.ifCond .ne 22, 3) := by decide +kernel
theorem d3_8 : decode jdk_42_method_149_code 8 = .ok (.aload_n 0, 1) := by decide +kernel
theorem d3_9 : decode jdk_42_method_149_code 9 = .ok (.ldc 7, 2) := by decide +kernel
theorem d3_11 : decode jdk_42_method_149_code 11 = .ok (.getfield 9, 3) := by decide +kernel
theorem d3_14 : decode jdk_42_method_149_code 14 = .ok (.putfield 9, 3) := by decide +kernel
theorem d3_17 : decode jdk_42_method_149_code 17 = .ok (.aload_n 0, 1) := by decide +kernel
theorem d3_18 : decode jdk_42_method_149_code 18 = .ok (.ldc 7, 2) := by decide +kernel
theorem d3_20 : decode jdk_42_method_149_code 20 = .ok (.getfield 15, 3) := by decide +kernel
theorem d3_23 : decode jdk_42_method_149_code 23 = .ok (.putfield 15, 3) := by decide +kernel
theorem d3_26 : decode jdk_42_method_149_code 26 = .ok (.return_, 1) := by decide +kernel
theorem d3_27 : decode jdk_42_method_149_code 27 = .ok (.getstatic 38, 3) := by decide +kernel
theorem d3_30 : decode jdk_42_method_149_code 30 = .ok (.ifCond .eq 28, 3) := by decide +kernel
theorem d3_33 : decode jdk_42_method_149_code 33 = .ok (.aload_n 1, 1) := by decide +kernel
theorem d3_34 : decode jdk_42_method_149_code 34 = .ok (.iload_n 2, 1) := by decide +kernel
theorem d3_35 : decode jdk_42_method_149_code 35 = .ok (.iload_n 3, 1) := by decide +kernel
theorem d3_36 : decode jdk_42_method_149_code 36 = .ok (.invokestatic 177, 3) := by decide +kernel
theorem d3_39 : decode jdk_42_method_149_code 39 = .ok (.astore 5, 2) := by decide +kernel
theorem d3_41 : decode jdk_42_method_149_code 41 = .ok (.aload_n 0, 1) := by decide +kernel
theorem d3_42 : decode jdk_42_method_149_code 42 = .ok (.aload 5, 2) := by decide +kernel
theorem d3_44 : decode jdk_42_method_149_code 44 = .ok (.iload_n 3, 1) := by decide +kernel
theorem d3_45 : decode jdk_42_method_149_code 45 = .ok (.invokestatic 47, 3) := by decide +kernel
theorem d3_48 : decode jdk_42_method_149_code 48 = .ok (.putfield 15, 3) := by decide +kernel
theorem d3_51 : decode jdk_42_method_149_code 51 = .ok (.aload_n 0, 1) := by decide +kernel
theorem d3_52 : decode jdk_42_method_149_code 52 = .ok (.aload 5, 2) := by decide +kernel
theorem d3_54 : decode jdk_42_method_149_code 54 = .ok (.putfield 9, 3) := by decide +kernel
theorem d3_57 : decode jdk_42_method_149_code 57 = .ok (.return_, 1) := by decide +kernel
theorem d5_0 : decode prog_5_method_2_code 0 = .ok (.new 8, 3) := by decide +kernel
theorem d5_3 : decode prog_5_method_2_code 3 = .ok (.dup, 1) := by decide +kernel
theorem d5_4 : decode prog_5_method_2_code 4 = .ok (.aload_n 0, 1) := by decide +kernel
theorem d5_5 : decode prog_5_method_2_code 5 = .ok (.ldc 20, 2) := by decide +kernel
theorem d5_7 : decode prog_5_method_2_code 7 = .ok (.invokestatic 22, 3) := by decide +kernel
theorem d5_10 : decode prog_5_method_2_code 10 = .ok (.checkcast 28, 3) := by decide +kernel
theorem d5_13 : decode prog_5_method_2_code 13 = .ok (.aconst_null, 1) := by decide +kernel
theorem d5_14 : decode prog_5_method_2_code 14 = .ok (.invokestatic 30, 3) := by decide +kernel
theorem d5_17 : decode prog_5_method_2_code 17 = .ok (.invokespecial 36, 3) := by decide +kernel
theorem d5_20 : decode prog_5_method_2_code 20 = .ok (.areturn, 1) := by decide +kernel
theorem d6_0 : decode jdk_31_method_11_code 0 = .ok (.aload_n 0, 1) := by decide +kernel
theorem d6_1 : decode jdk_31_method_11_code 1 = .ok (.ifnonnull 12, 3) := by decide +kernel
theorem d6_13 : decode jdk_31_method_11_code 13 = .ok (.aload_n 0, 1) := by decide +kernel
theorem d6_14 : decode jdk_31_method_11_code 14 = .ok (.areturn, 1) := by decide +kernel
theorem d7_0 : decode jdk_72_method_26_code 0 = .ok (.getstatic 81, 3) := by decide +kernel
theorem d7_3 : decode jdk_72_method_26_code 3 = .ok (.areturn, 1) := by decide +kernel
theorem d8_0 : decode prog_5_method_1_code 0 = .ok (.aload_n 0, 1) := by decide +kernel
theorem d8_1 : decode prog_5_method_1_code 1 = .ok (.invokespecial 1, 3) := by decide +kernel
theorem d8_4 : decode prog_5_method_1_code 4 = .ok (.aload_n 0, 1) := by decide +kernel
theorem d8_5 : decode prog_5_method_1_code 5 = .ok (.aload_n 1, 1) := by decide +kernel
theorem d8_6 : decode prog_5_method_1_code 6 = .ok (.putfield 7, 3) := by decide +kernel
theorem d8_9 : decode prog_5_method_1_code 9 = .ok (.aload_n 0, 1) := by decide +kernel
theorem d8_10 : decode prog_5_method_1_code 10 = .ok (.aload_n 2, 1) := by decide +kernel
theorem d8_11 : decode prog_5_method_1_code 11 = .ok (.putfield 13, 3) := by decide +kernel
theorem d8_14 : decode prog_5_method_1_code 14 = .ok (.aload_n 0, 1) := by decide +kernel
theorem d8_15 : decode prog_5_method_1_code 15 = .ok (.aload_n 3, 1) := by decide +kernel
theorem d8_16 : decode prog_5_method_1_code 16 = .ok (.putfield 16, 3) := by decide +kernel
theorem d8_19 : decode prog_5_method_1_code 19 = .ok (.return_, 1) := by decide +kernel
theorem d9_0 : decode prog_5_method_6_code 0 = .ok (.aload_n 0, 1) := by decide +kernel
theorem d9_1 : decode prog_5_method_6_code 1 = .ok (.getfield 7, 3) := by decide +kernel
theorem d9_4 : decode prog_5_method_6_code 4 = .ok (.areturn, 1) := by decide +kernel
theorem d10_0 : decode jdk_42_method_66_code 0 = .ok (.aload_n 0, 1) := by decide +kernel
theorem d10_1 : decode jdk_42_method_66_code 1 = .ok (.aload_n 1, 1) := by decide +kernel
theorem d10_2 : decode jdk_42_method_66_code 2 = .ok (.if_acmp .ne 5, 3) := by decide +kernel
theorem d10_5 : decode jdk_42_method_66_code 5 = .ok (.iconst 1, 1) := by decide +kernel
theorem d10_6 : decode jdk_42_method_66_code 6 = .ok (.ireturn, 1) := by decide +kernel
theorem d11_0 : decode jdk_42_method_54_code 0 = .ok (.aload_n 0, 1) := by decide +kernel
theorem d11_1 : decode jdk_42_method_54_code 1 = .ok (.getfield 9, 3) := by decide +kernel
theorem d11_4 : decode jdk_42_method_54_code 4 = .ok (.arraylength, 1) := by decide +kernel
theorem d11_5 : decode jdk_42_method_54_code 5 = .ok (.aload_n 0, 1) := by decide +kernel
theorem d11_6 : decode jdk_42_method_54_code 6 = .ok (.invokevirtual 335, 3) := by decide +kernel
theorem d11_9 : decode jdk_42_method_54_code 9 = .ok (.ishr, 1) := by decide +kernel
theorem d11_10 : decode jdk_42_method_54_code 10 = .ok (.ireturn, 1) := by decide +kernel
theorem d12_0 : decode jdk_42_method_152_code 0 = .ok (.getstatic 38, 3) := by decide +kernel
theorem d12_3 : decode jdk_42_method_152_code 3 = .ok (.ifCond .eq 10, 3) := by decide +kernel
theorem d12_6 : decode jdk_42_method_152_code 6 = .ok (.aload_n 0, 1) := by decide +kernel
theorem d12_7 : decode jdk_42_method_152_code 7 = .ok (.getfield 15, 3) := by decide +kernel
theorem d12_10 : decode jdk_42_method_152_code 10 = .ok (.goto 4, 3) := by decide +kernel
theorem d12_14 : decode jdk_42_method_152_code 14 = .ok (.ireturn, 1) := by decide +kernel
theorem d13_0 : decode prog_5_method_7_code 0 = .ok (.aload_n 0, 1) := by decide +kernel
theorem d13_1 : decode prog_5_method_7_code 1 = .ok (.getfield 16, 3) := by decide +kernel
theorem d13_4 : decode prog_5_method_7_code 4 = .ok (.ifnull 8, 3) := by decide +kernel
theorem d13_7 : decode prog_5_method_7_code 7 = .ok (.aload_n 0, 1) := by decide +kernel
theorem d13_8 : decode prog_5_method_7_code 8 = .ok (.getfield 16, 3) := by decide +kernel
theorem d13_11 : decode prog_5_method_7_code 11 = .ok (.areturn, 1) := by decide +kernel
theorem d14_0 : decode jdk_2605_method_7_code 0 = .ok (.aload_n 0, 1) := by decide +kernel
theorem d14_1 : decode jdk_2605_method_7_code 1 = .ok (.getfield 16, 3) := by decide +kernel
theorem d14_4 : decode jdk_2605_method_7_code 4 = .ok (.ifCond .ne 7, 3) := by decide +kernel
theorem d14_7 : decode jdk_2605_method_7_code 7 = .ok (.iconst 1, 1) := by decide +kernel
theorem d14_8 : decode jdk_2605_method_7_code 8 = .ok (.goto 4, 3) := by decide +kernel
theorem d14_12 : decode jdk_2605_method_7_code 12 = .ok (.ireturn, 1) := by decide +kernel
theorem d15_0 : decode jdk_52_method_16_code 0 = .ok (.iload_n 2, 1) := by decide +kernel
theorem d15_1 : decode jdk_52_method_16_code 1 = .ok (.newarray .byte, 2) := by decide +kernel
theorem d15_3 : decode jdk_52_method_16_code 3 = .ok (.astore_n 3, 1) := by decide +kernel
theorem d15_4 : decode jdk_52_method_16_code 4 = .ok (.aload_n 0, 1) := by decide +kernel
theorem d15_5 : decode jdk_52_method_16_code 5 = .ok (.iload_n 1, 1) := by decide +kernel
theorem d15_6 : decode jdk_52_method_16_code 6 = .ok (.aload_n 3, 1) := by decide +kernel
theorem d15_7 : decode jdk_52_method_16_code 7 = .ok (.iconst 0, 1) := by decide +kernel
theorem d15_8 : decode jdk_52_method_16_code 8 = .ok (.iload_n 2, 1) := by decide +kernel
theorem d15_9 : decode jdk_52_method_16_code 9 = .ok (.invokestatic 115, 3) := by decide +kernel
theorem d15_12 : decode jdk_52_method_16_code 12 = .ok (.istore 4, 2) := by decide +kernel
theorem d15_14 : decode jdk_52_method_16_code 14 = .ok (.iload 4, 2) := by decide +kernel
theorem d15_16 : decode jdk_52_method_16_code 16 = .ok (.iload_n 2, 1) := by decide +kernel
theorem d15_17 : decode jdk_52_method_16_code 17 = .ok (.if_icmp .eq 40, 3) := by decide +kernel
theorem d15_57 : decode jdk_52_method_16_code 57 = .ok (.aload_n 3, 1) := by decide +kernel
theorem d15_58 : decode jdk_52_method_16_code 58 = .ok (.areturn, 1) := by decide +kernel
theorem d16_0 : decode jdk_52_method_21_code 0 = .ok (.iconst 0, 1) := by decide +kernel
theorem d16_1 : decode jdk_52_method_21_code 1 = .ok (.istore 5, 2) := by decide +kernel
theorem d16_3 : decode jdk_52_method_21_code 3 = .ok (.iload 5, 2) := by decide +kernel
theorem d16_5 : decode jdk_52_method_21_code 5 = .ok (.iload 4, 2) := by decide +kernel
theorem d16_7 : decode jdk_52_method_21_code 7 = .ok (.if_icmp .ge 37, 3) := by decide +kernel
theorem d16_10 : decode jdk_52_method_21_code 10 = .ok (.aload_n 0, 1) := by decide +kernel
theorem d16_11 : decode jdk_52_method_21_code 11 = .ok (.iload_n 1, 1) := by decide +kernel
theorem d16_12 : decode jdk_52_method_21_code 12 = .ok (.caload, 1) := by decide +kernel
theorem d16_13 : decode jdk_52_method_21_code 13 = .ok (.istore 6, 2) := by decide +kernel
theorem d16_15 : decode jdk_52_method_21_code 15 = .ok (.iload 6, 2) := by decide +kernel
theorem d16_17 : decode jdk_52_method_21_code 17 = .ok (.sipush 255, 3) := by decide +kernel
theorem d16_20 : decode jdk_52_method_21_code 20 = .ok (.if_icmp .le 6, 3) := by decide +kernel
theorem d16_26 : decode jdk_52_method_21_code 26 = .ok (.aload_n 2, 1) := by decide +kernel
theorem d16_27 : decode jdk_52_method_21_code 27 = .ok (.iload_n 3, 1) := by decide +kernel
theorem d16_28 : decode jdk_52_method_21_code 28 = .ok (.iload 6, 2) := by decide +kernel
theorem d16_30 : decode jdk_52_method_21_code 30 = .ok (.i2b, 1) := by decide +kernel
theorem d16_31 : decode jdk_52_method_21_code 31 = .ok (.bastore, 1) := by decide +kernel
theorem d16_32 : decode jdk_52_method_21_code 32 = .ok (.iinc 1 1, 3) := by decide +kernel
theorem d16_35 : decode jdk_52_method_21_code 35 = .ok (.iinc 3 1, 3) := by decide +kernel
theorem d16_38 : decode jdk_52_method_21_code 38 = .ok (.iinc 5 1, 3) := by decide +kernel
theorem d16_41 : decode jdk_52_method_21_code 41 = .ok (.goto (-38), 3) := by decide +kernel
theorem d16_44 : decode jdk_52_method_21_code 44 = .ok (.iload 4, 2) := by decide +kernel
theorem d16_46 : decode jdk_52_method_21_code 46 = .ok (.ireturn, 1) := by decide +kernel
theorem d17_0 : decode jdk_52_method_15_code 0 = .ok (.iload_n 1, 1) := by decide +kernel
theorem d17_1 : decode jdk_52_method_15_code 1 = .ok (.aload_n 0, 1) := by decide +kernel
theorem d17_2 : decode jdk_52_method_15_code 2 = .ok (.arraylength, 1) := by decide +kernel
theorem d17_3 : decode jdk_52_method_15_code 3 = .ok (.isub, 1) := by decide +kernel
theorem d17_4 : decode jdk_52_method_15_code 4 = .ok (.bipush 31, 2) := by decide +kernel
theorem d17_6 : decode jdk_52_method_15_code 6 = .ok (.iushr, 1) := by decide +kernel
theorem d17_7 : decode jdk_52_method_15_code 7 = .ok (.i2b, 1) := by decide +kernel
theorem d17_8 : decode jdk_52_method_15_code 8 = .ok (.ireturn, 1) := by decide +kernel
theorem pd0 : parseMethodDescriptor "([CI[BII)I" = some ⟨[(.array .char), .int, (.array .byte), .int, .int], some .int⟩ := by decide +kernel
theorem pd1 : parseMethodDescriptor "([CII)[B" = some ⟨[(.array .char), .int, .int], some (.array .byte)⟩ := by decide +kernel
theorem pd2 : parseMethodDescriptor "([BI)B" = some ⟨[(.array .byte), .int], some .byte⟩ := by decide +kernel
theorem pd3 : parseMethodDescriptor "([CIILjava/lang/Void;)V" = some ⟨[(.array .char), .int, .int, (.object "java/lang/Void")], none⟩ := by decide +kernel
theorem pd4 : parseMethodDescriptor "()B" = some ⟨[], some .byte⟩ := by decide +kernel
theorem pd5 : parseMethodDescriptor "([C)V" = some ⟨[(.array .char)], none⟩ := by decide +kernel
theorem pd6 : parseMethodDescriptor "(Ljava/lang/Object;Ljava/lang/String;)Ljava/lang/Object;" = some ⟨[(.object "java/lang/Object"), (.object "java/lang/String")], some (.object "java/lang/Object")⟩ := by decide +kernel
theorem pd7 : parseMethodDescriptor "()Ljava/util/Map;" = some ⟨[], some (.object "java/util/Map")⟩ := by decide +kernel
theorem pd8 : parseMethodDescriptor "(Ljava/lang/String;Ljava/lang/String;Ljava/util/Map;)V" = some ⟨[(.object "java/lang/String"), (.object "java/lang/String"), (.object "java/util/Map")], none⟩ := by decide +kernel
theorem pd9 : parseMethodDescriptor "(IIII)Ljava/lang/String;" = some ⟨[.int, .int, .int, .int], some (.object "java/lang/String")⟩ := by decide +kernel
theorem pd10 : parseMethodDescriptor "(Ljava/lang/String;)Lcom/example/chainmail/chainmail/NavigationContext;" = some ⟨[(.object "java/lang/String")], some (.object "com/example/chainmail/chainmail/NavigationContext")⟩ := by decide +kernel
theorem pd11 : parseMethodDescriptor "()Ljava/lang/String;" = some ⟨[], some (.object "java/lang/String")⟩ := by decide +kernel
theorem pd12 : parseMethodDescriptor "(Ljava/lang/Object;)Z" = some ⟨[(.object "java/lang/Object")], some .boolean⟩ := by decide +kernel
theorem pd13 : parseMethodDescriptor "()I" = some ⟨[], some .int⟩ := by decide +kernel
theorem pd14 : parseMethodDescriptor "()Z" = some ⟨[], some .boolean⟩ := by decide +kernel
theorem pn0 : plainName "com/example/chainmail/chainmail/NavigationContextOfPinLaw" = true := by first | (simp [plainName, overriddenIn]; done) | decide +kernel
theorem pn1 : plainName "com/example/chainmail/chainmail/NavigationContext" = true := by first | (simp [plainName, overriddenIn]; done) | decide +kernel
theorem wS {a0 : Array Value} {Z : State} (hw : HW a0 Z) : ∀ a ∈ Bundle.stringAtoms, a.before a0 Z = true := by
  intro a ha
  simp only [Bundle.stringAtoms, List.mem_cons, List.not_mem_nil, or_false] at ha
  rcases ha with rfl | rfl | rfl | rfl | rfl | rfl | rfl
  · exact (wd6 hw)
  · exact (wd5 hw)
  · exact (wd19 hw)
  · exact (wd20 hw)
  · exact (wd21 hw)
  · exact (wd22 hw)
  · exact (wd23 hw)
theorem ew {a0 : Array Value} {Z : State} (hw : HW a0 Z) : EW Z a0 consts_1 := (EW.cons (wd32 hw) (by decide +kernel) (EW.cons (wd18 hw) (by decide +kernel) EW.nil))
theorem own_k4 {k x : Int32} (h : x &&& 3 = k) : k = 0 ∨ k = 1 ∨ k = 2 ∨ k = 3 := by
  have q := c_mask x 3 2 (by decide) (by decide)
  rw [h] at q
  have e0 : (0 : Int32).toInt = 0 := by decide
  have e1 : (1 : Int32).toInt = 1 := by decide
  have e2 : (2 : Int32).toInt = 2 := by decide
  have e3 : (3 : Int32).toInt = 3 := by decide
  have h5 : k.toInt = 0 ∨ k.toInt = 1 ∨ k.toInt = 2 ∨ k.toInt = 3 := by omega
  rcases h5 with h | h | h | h
  · exact Or.inl (Int32.toInt_inj.mp (h.trans e0.symm))
  · exact Or.inr (Or.inl (Int32.toInt_inj.mp (h.trans e1.symm)))
  · exact Or.inr (Or.inr (Or.inl (Int32.toInt_inj.mp (h.trans e2.symm))))
  · exact Or.inr (Or.inr (Or.inr (Int32.toInt_inj.mp (h.trans e3.symm))))
theorem own_same (a : Addr) : (Value.ref a == Value.ref a) = true := by simp
/-- a char of the law: below 256 -/
def own_lat (c : Int32) : Prop := ¬ c < 0 ∧ ¬ (255 : Int32) < c
theorem own_lat_mask {x c : Int32} (h : (x &&& (255 : Int32)).toUInt32.toUInt16.toUInt32.toInt32 = c) : own_lat c := by
  have q := c_mask x 255 8 (by decide) (by decide)
  have r := c_i2c (x &&& 255)
  rw [h] at r
  have e0 : (0 : Int32).toInt = 0 := by decide
  have e2 : (255 : Int32).toInt = 255 := by decide
  unfold own_lat
  rw [Int32.lt_iff_toInt_lt, Int32.lt_iff_toInt_lt, e0, e2]; omega
theorem own_nar_lat {c : Int32} (h : own_lat c) : nar .char c = c := by
  obtain ⟨h1, h2⟩ := h
  have e0 : (0 : Int32).toInt = 0 := by decide
  have e2 : (255 : Int32).toInt = 255 := by decide
  rw [Int32.lt_iff_toInt_lt, e0] at h1
  rw [Int32.lt_iff_toInt_lt, e2] at h2
  have r := c_i2c c
  refine Int32.toInt_inj.mp ?_
  show (c.toUInt32.toUInt16.toUInt32.toInt32).toInt = c.toInt
  omega
theorem own_sets {Z : State} {args : Array Value} (h : ∀ d ∈ jdkStatics_1, d.before args Z = true) (wi : (Jvm.Cond.initialized "java/util/ImmutableCollections").before args Z = true) :
    ∃ (em : Addr) (cz : Int32), Sta Z Z.heap "java/util/ImmutableCollections" "EMPTY_MAP" "Ljava/util/ImmutableCollections$MapN;" (.ref em) ∧ Exa Z Z.heap em "java/util/ImmutableCollections$MapN" ∧ Fld Z Z.heap em "java/util/ImmutableCollections$MapN" "size" "I" (.int (0 : Int32)) ∧ Sta Z Z.heap "java/lang/String" "COMPACT_STRINGS" "Z" (.int cz) ∧ ¬ cz = 0 := by
  have h1 := h _ (List.mem_of_getElem? (i := 1) rfl)
  have h2 := Cond.before_iff.mp (h _ (List.mem_of_getElem? (i := 2) rfl))
  have h6 := Cond.before_iff.mp (h _ (List.mem_of_getElem? (i := 6) rfl))
  have h7 := h _ (List.mem_of_getElem? (i := 7) rfl)
  have h8 := Cond.before_iff.mp (h _ (List.mem_of_getElem? (i := 8) rfl))
  have h9 := Cond.before_iff.mp (h _ (List.mem_of_getElem? (i := 9) rfl))
  obtain ⟨em, e1⟩ := exa_v h2
  obtain ⟨cz, e2⟩ := is_v h8
  refine ⟨em, cz, Sta.start e1 (Or.inl h1), exa_at e1 h2, Fld.start ((fld_at e1).symm.trans (eqv_i (Term.int_eval (0 : Int32)) h6)), Sta.start e2 (Or.inl h7), fun q => ?_⟩
  subst q
  simp only [Cond.value] at h9
  rw [e2] at h9
  simp [Term.eval] at h9

theorem ef16 (m : MethodId) (x0 : Addr) (x1 : Int32) (x2 : Addr) (x3 : Int32) (x4 : Int32) : entryFrame m #[(.ref x0), (.int x1), (.ref x2), (.int x3), (.int x4)] 7 = mkF m 0 #[.val (.ref x0), .val (.int x1), .val (.ref x2), .val (.int x3), .val (.int x4), .unset, .unset] [] := by first | (simp [entryFrame, mkF, argsToLocals, Value.category]; done) | rfl
set_option maxRecDepth 65536 in
set_option maxHeartbeats 40000000 in
theorem ctCmp1 {l : Launch} {Z : State} {a0 : Array Value} (hw : HW a0 Z) {n0 : Nat} {h0 : Heap} (hn0 : n0 ≤ h0.size) (ar ds : Addr) (kr kd : ClassId) (c0 : Int32) (Vr : Arv Z h0 ar kr .char (1 : Int32) [(.int c0)] (.int (0 : Int32))) (Vd : Arv Z h0 ds kd .byte (1 : Int32) [(.int (0 : Int32))] (.int (0 : Int32))) (ga : n0 ≤ ds) (hne : ar ≠ ds) (l_c0 : own_lat c0) :
    Ctr l Z (⟨"java/lang/StringUTF16", "compress", "([CI[BII)I"⟩ : MethodName) jdk_52_method_21_code 7 (some .int) ({ frames := 0, cells := 0, slots := 0, locals := 0 } : Room) n0 #[(.ref ar), (.int (0 : Int32)), (.ref ds), (.int (0 : Int32)), (.int (1 : Int32))] h0 (fun v h => v = some (.int (1 : Int32)) ∧ Keep h0 h [ds] ∧ Arv Z h ds kd .byte (1 : Int32) [(.int (nar .byte (c0.toInt8.toInt32)))] (.int (0 : Int32))) := by
  refine Ctr.of (by decide +kernel) hn0 ?_
  intro p e s m below meth c T0 C hnm hret hlk X0
  rw [ef16 m ar (0 : Int32) ds (0 : Int32) (1 : Int32)]
  refine OGo.iconst (pc' := 1) (z := (0 : Int32)) C X0 d16_0 rfl (by decide) ?_
  refine OGo.istore (pc' := 3) C X0 d16_1 rfl (l' := #[.val (.ref ar), .val (.int (0 : Int32)), .val (.ref ds), .val (.int (0 : Int32)), .val (.int (1 : Int32)), .val (.int (0 : Int32)), .unset]) rfl ?_
  refine OGo.iload (pc' := 5) C X0 d16_3 rfl rfl ?_
  refine OGo.iload (pc' := 7) C X0 d16_5 rfl rfl ?_
  refine OGo.icmpNo (pc' := 10) C X0 d16_7 rfl (tlt (by decide : (0 : Int32) < (1 : Int32))).2.1 ?_
  refine OGo.aloadN (pc' := 11) C X0 d16_10 rfl rfl rfl ?_
  refine OGo.iloadN (pc' := 12) C X0 d16_11 rfl rfl ?_
  refine OGo.caload (pc' := 13) C X0 Vr d16_12 rfl ⟨by decide, by decide⟩ (v := c0) rfl ?_
  refine OGo.istore (pc' := 15) C X0 d16_13 rfl (l' := #[.val (.ref ar), .val (.int (0 : Int32)), .val (.ref ds), .val (.int (0 : Int32)), .val (.int (1 : Int32)), .val (.int (0 : Int32)), .val (.int c0)]) rfl ?_
  refine OGo.iload (pc' := 17) C X0 d16_15 rfl rfl ?_
  refine OGo.sipush (pc' := 20) (z := (255 : Int32)) C X0 d16_17 rfl (by decide) ?_
  refine OGo.icmpYes (pc' := 26) C X0 d16_20 (flt l_c0.2).2.2.2 (by decide) (by decide) ?_
  refine OGo.aloadN (pc' := 27) C X0 d16_26 rfl rfl rfl ?_
  refine OGo.iloadN (pc' := 28) C X0 d16_27 rfl rfl ?_
  refine OGo.iload (pc' := 30) C X0 d16_28 rfl rfl ?_
  refine OGo.i2b (pc' := 31) (z := (c0.toInt8.toInt32)) C X0 d16_30 rfl rfl ?_
  refine OGo.bastoreB (pc' := 32) C X0 Vd ga (i := 0) d16_31 rfl ⟨by decide, by decide⟩ (by decide) (Nat.le_of_ble_eq_true rfl) (fun T1 h1 X1 W1 V1 => ?_)
  replace V1 : Arv Z h1 ds kd .byte (1 : Int32) [(.int (nar .byte (c0.toInt8.toInt32)))] (.int (0 : Int32)) := V1
  have K2 : Keep h0 h1 [ds] := (Keep.refl h0 [ds]).wr W1 (Or.inl (List.mem_of_getElem? (i := 0) rfl))
  refine OGo.iinc (pc' := 35) C X1 d16_32 rfl rfl (z := (1 : Int32)) (by decide) (l' := #[.val (.ref ar), .val (.int (1 : Int32)), .val (.ref ds), .val (.int (0 : Int32)), .val (.int (1 : Int32)), .val (.int (0 : Int32)), .val (.int c0)]) rfl ?_
  refine OGo.iinc (pc' := 38) C X1 d16_35 rfl rfl (z := (1 : Int32)) (by decide) (l' := #[.val (.ref ar), .val (.int (1 : Int32)), .val (.ref ds), .val (.int (1 : Int32)), .val (.int (1 : Int32)), .val (.int (0 : Int32)), .val (.int c0)]) rfl ?_
  refine OGo.iinc (pc' := 41) C X1 d16_38 rfl rfl (z := (1 : Int32)) (by decide) (l' := #[.val (.ref ar), .val (.int (1 : Int32)), .val (.ref ds), .val (.int (1 : Int32)), .val (.int (1 : Int32)), .val (.int (1 : Int32)), .val (.int c0)]) rfl ?_
  refine OGo.goto (pc' := 3) C X1 d16_41 (by decide) (by decide) ?_
  refine OGo.iload (pc' := 5) C X1 d16_3 rfl rfl ?_
  refine OGo.iload (pc' := 7) C X1 d16_5 rfl rfl ?_
  refine OGo.icmpYes (pc' := 44) C X1 d16_7 (flt (by decide : ¬ (1 : Int32) < (1 : Int32))).2.1 (by decide) (by decide) ?_
  refine OGo.iload (pc' := 46) C X1 d16_44 rfl rfl ?_
  exact OGo.retInt C X1 d16_46 hret hlk (⟨rfl, K2, V1⟩) (by decide) (by decide)
theorem ef15 (m : MethodId) (x0 : Addr) (x1 : Int32) (x2 : Int32) : entryFrame m #[(.ref x0), (.int x1), (.int x2)] 6 = mkF m 0 #[.val (.ref x0), .val (.int x1), .val (.int x2), .unset, .unset, .unset] [] := by first | (simp [entryFrame, mkF, argsToLocals, Value.category]; done) | rfl
set_option maxRecDepth 65536 in
set_option maxHeartbeats 40000000 in
theorem ctCom1 {l : Launch} {Z : State} {a0 : Array Value} (hw : HW a0 Z) {n0 : Nat} {h0 : Heap} (hn0 : n0 ≤ h0.size) (ar : Addr) (kr : ClassId) (c0 : Int32) (Vr : Arv Z h0 ar kr .char (1 : Int32) [(.int c0)] (.int (0 : Int32))) (l_c0 : own_lat c0) :
    Ctr l Z (⟨"java/lang/StringUTF16", "compress", "([CII)[B"⟩ : MethodName) jdk_52_method_16_code 6 (some (.array .byte)) ({ frames := 1, cells := 1, slots := 1, locals := 20 } : Room) n0 #[(.ref ar), (.int (0 : Int32)), (.int (1 : Int32))] h0 (fun v h => ∃ (b : Addr) (kb : ClassId), v = some (.ref b) ∧ Keep h0 h [] ∧ Arv Z h b kb .byte (1 : Int32) [(.int (nar .byte (c0.toInt8.toInt32)))] (.int (0 : Int32))) := by
  refine Ctr.of (by decide +kernel) hn0 ?_
  intro p e s m below meth c T0 C hnm hret hlk X0
  rw [ef15 m ar (0 : Int32) (1 : Int32)]
  refine OGo.iloadN (pc' := 1) C X0 d15_0 rfl rfl ?_
  refine OGo.newarray (pc' := 3) (cap := 1) (d0 := (.int (0 : Int32))) (cells' := 1) (slots' := 1) C X0 (wd19 hw) rfl d15_1 rfl (by decide) (by decide) (by decide) rfl rfl rfl (by decide) (by decide) (fun T1 h1 a1 k1 X1 g1 q1 E1 V1 => ?_)
  have ne2 : ar ≠ a1 := Nat.ne_of_lt (Nat.lt_of_lt_of_eq Vr.lt g1.symm)
  have sz3 : h0.size ≤ a1 := Nat.le_trans (Keep.refl h0 []).1 (Nat.le_of_eq g1.symm)
  have K4 : Keep h0 h1 [] := (Keep.refl h0 []).ext E1
  replace V1 : Arv Z h1 a1 k1 .byte (1 : Int32) [(.int (0 : Int32))] (.int (0 : Int32)) := V1.pad (pad_rep [] (.int (0 : Int32)) 1)
  refine OGo.astoreN (pc' := 4) C X1 d15_3 rfl rfl (l' := #[.val (.ref ar), .val (.int (0 : Int32)), .val (.int (1 : Int32)), .val (.ref a1), .unset, .unset]) rfl ?_
  refine OGo.aloadN (pc' := 5) C X1 d15_4 rfl rfl rfl ?_
  refine OGo.iloadN (pc' := 6) C X1 d15_5 rfl rfl ?_
  refine OGo.aloadN (pc' := 7) C X1 d15_6 rfl rfl rfl ?_
  refine OGo.iconst (pc' := 8) (z := (0 : Int32)) C X1 d15_7 rfl (by decide) ?_
  refine OGo.iloadN (pc' := 9) C X1 d15_8 rfl rfl ?_
  have f5 := (Vr.ext E1)
  refine OGo.callS (pc' := 12) (cells' := 1) (slots' := 1) (argsL := [(.ref ar), (.int (0 : Int32)), (.ref a1), (.int (0 : Int32)), (.int (1 : Int32))]) (St := []) C X1 (wd96 hw) (wd97 hw) (by decide) (wd98 hw) (wd94 hw) (ctCmp1 hw X1.2.1 ar a1 kr k1 c0 f5 V1 q1 ne2 l_c0) (lenOf pd0 rfl) rfl d15_9 rfl rfl (by decide) (Nat.le_of_ble_eq_true rfl) rfl rfl (by decide) (by decide) (fun v6 T6 h6 Q6 X6 z6 => ?_)
  obtain ⟨hv6, K6, V6b⟩ := Q6
  subst hv6
  have K7 : Keep h0 h6 [] := K4.trans K6 (allS (Or.inr sz3) all0)
  show OGo p e below _ T6 (mkF m 12 #[.val (.ref ar), .val (.int (0 : Int32)), .val (.int (1 : Int32)), .val (.ref a1), .unset, .unset] [(.int (1 : Int32))])
  refine OGo.istore (pc' := 14) C X6 d15_12 rfl (l' := #[.val (.ref ar), .val (.int (0 : Int32)), .val (.int (1 : Int32)), .val (.ref a1), .val (.int (1 : Int32)), .unset]) rfl ?_
  refine OGo.iload (pc' := 16) C X6 d15_14 rfl rfl ?_
  refine OGo.iloadN (pc' := 17) C X6 d15_16 rfl rfl ?_
  refine OGo.icmpYes (pc' := 57) C X6 d15_17 (teq (by decide : (1 : Int32) = (1 : Int32))).1 (by decide) (by decide) ?_
  refine OGo.aloadN (pc' := 58) C X6 d15_57 rfl rfl rfl ?_
  exact OGo.retA C X6 d15_58 hret rfl rfl hlk (⟨a1, k1, rfl, K7, V6b⟩) (by decide) (by decide)
theorem ef17 (m : MethodId) (x0 : Addr) (x1 : Int32) : entryFrame m #[(.ref x0), (.int x1)] 2 = mkF m 0 #[.val (.ref x0), .val (.int x1)] [] := by first | (simp [entryFrame, mkF, argsToLocals, Value.category]; done) | rfl
set_option maxRecDepth 65536 in
set_option maxHeartbeats 40000000 in
theorem ctCod1 {l : Launch} {Z : State} {a0 : Array Value} (hw : HW a0 Z) {n0 : Nat} {h0 : Heap} (hn0 : n0 ≤ h0.size) (b : Addr) (kb : ClassId) (vs : List Value) (Vr : Arv Z h0 b kb .byte (1 : Int32) vs (.int (0 : Int32))) :
    Ctr l Z (⟨"java/lang/StringUTF16", "coderFromArrayLen", "([BI)B"⟩ : MethodName) jdk_52_method_15_code 2 (some .byte) ({ frames := 0, cells := 0, slots := 0, locals := 0 } : Room) n0 #[(.ref b), (.int (1 : Int32))] h0 (fun v h => v = some (.int (0 : Int32)) ∧ h = h0) := by
  refine Ctr.of (by decide +kernel) hn0 ?_
  intro p e s m below meth c T0 C hnm hret hlk X0
  rw [ef17 m b (1 : Int32)]
  refine OGo.iloadN (pc' := 1) C X0 d17_0 rfl rfl ?_
  refine OGo.aloadN (pc' := 2) C X0 d17_1 rfl rfl rfl ?_
  refine OGo.arraylength (pc' := 3) C X0 Vr d17_2 rfl ?_
  refine OGo.isub (pc' := 4) (z := (0 : Int32)) C X0 d17_3 rfl (by decide) ?_
  refine OGo.bipush (pc' := 6) (z := (31 : Int32)) C X0 d17_4 rfl (by decide) ?_
  refine OGo.iushr (pc' := 7) (z := (0 : Int32)) C X0 d17_6 rfl (by decide) ?_
  refine OGo.i2b (pc' := 8) (z := (0 : Int32)) C X0 d17_7 rfl (by decide) ?_
  exact OGo.retN C X0 d17_8 hret (by simp) (z' := (0 : Int32)) (by decide) hlk (⟨rfl, rfl⟩) (by decide) (by decide)
theorem ef3 (m : MethodId) (x0 : Addr) (x1 : Addr) (x2 : Int32) (x3 : Int32) : entryFrame m #[(.ref x0), (.ref x1), (.int x2), (.int x3), .null] 6 = mkF m 0 #[.val (.ref x0), .val (.ref x1), .val (.int x2), .val (.int x3), .val .null, .unset] [] := by first | (simp [entryFrame, mkF, argsToLocals, Value.category]; done) | rfl
set_option maxRecDepth 65536 in
set_option maxHeartbeats 40000000 in
theorem ctI4_1 {l : Launch} {Z : State} {a0 : Array Value} (hw : HW a0 Z) {n0 : Nat} {h0 : Heap} (hn0 : n0 ≤ h0.size) (sx ar : Addr) (kr : ClassId) (c0 : Int32) (cz : Int32) (Ex : Exa Z h0 sx "java/lang/String") (Fv : Fld Z h0 sx "java/lang/String" "value" "[B" .null) (Fc : Fld Z h0 sx "java/lang/String" "coder" "B" (.int (0 : Int32))) (gx : n0 ≤ sx) (Vr : Arv Z h0 ar kr .char (1 : Int32) [(.int c0)] (.int (0 : Int32))) (l_c0 : own_lat c0) (OD : Old Z n0 h0) (S2 : Sta Z Z.heap "java/lang/String" "COMPACT_STRINGS" "Z" (.int cz)) (hcz : ¬ cz = 0) :
    Ctr l Z (⟨"java/lang/String", "<init>", "([CIILjava/lang/Void;)V"⟩ : MethodName) jdk_42_method_149_code 6 none ({ frames := 2, cells := 1, slots := 1, locals := 40 } : Room) n0 #[(.ref sx), (.ref ar), (.int (0 : Int32)), (.int (1 : Int32)), .null] h0 (fun v h => ∃ (t : Addr) (kb : ClassId), v = none ∧ Keep h0 h [sx] ∧ Exa Z h sx "java/lang/String" ∧ Fld Z h sx "java/lang/String" "coder" "B" (.int (0 : Int32)) ∧ Fld Z h sx "java/lang/String" "value" "[B" (.ref t) ∧ Arv Z h t kb .byte (1 : Int32) [(.int (nar .byte (c0.toInt8.toInt32)))] (.int (0 : Int32))) := by
  refine Ctr.of (by decide +kernel) hn0 ?_
  intro p e s m below meth c T0 C hnm hret hlk X0
  rw [ef3 m sx ar (0 : Int32) (1 : Int32)]
  refine OGo.aloadN (pc' := 1) C X0 d3_0 rfl rfl rfl ?_
  refine OGo.initObj (pc' := 4) C X0 (wd15 hw) (wd16 hw) (wd17 hw) d3_1 rfl rfl (by decide) (Nat.le_of_ble_eq_true rfl) (fun T1 X1 => ?_)
  refine OGo.iloadN (pc' := 5) C X1 d3_4 rfl rfl ?_
  refine OGo.ifYes (pc' := 27) C X1 d3_5 (feq (by decide : ¬ (1 : Int32) = (0 : Int32))).2 (by decide) (by decide) ?_
  refine OGo.getstatic (pc' := 30) C X1 (host := "") (Or.inl (wd74 hw)) Via.refl (S2.ext OD.2) d3_27 rfl (fun T2 X2 => ?_)
  refine OGo.ifNo (pc' := 33) C X2 d3_30 rfl (feq hcz).1 ?_
  refine OGo.aloadN (pc' := 34) C X2 d3_33 rfl rfl rfl ?_
  refine OGo.iloadN (pc' := 35) C X2 d3_34 rfl rfl ?_
  refine OGo.iloadN (pc' := 36) C X2 d3_35 rfl rfl ?_
  refine OGo.callS (pc' := 39) (cells' := 1) (slots' := 1) (argsL := [(.ref ar), (.int (0 : Int32)), (.int (1 : Int32))]) (St := []) C X2 (wd92 hw) (wd93 hw) (by decide) (wd95 hw) (wd94 hw) (ctCom1 hw X2.2.1 ar kr c0 Vr l_c0) (lenOf pd1 rfl) rfl d3_36 rfl rfl (by decide) (Nat.le_of_ble_eq_true rfl) rfl rfl (by decide) (by decide) (fun v3 T3 h3 Q3 X3 z3 => ?_)
  obtain ⟨b3, k3, hv3, K3, V3⟩ := Q3
  subst hv3
  have K4 : Keep h0 h3 [sx] := (Keep.refl h0 [sx]).trans K3 all0
  have f5 := (Ex.keep K3)
  have nx3 : sx ≠ b3 := Exa.neArv f5 V3 (wd5 hw)
  show OGo p e below _ T3 (mkF m 39 #[.val (.ref sx), .val (.ref ar), .val (.int (0 : Int32)), .val (.int (1 : Int32)), .val .null, .unset] [(.ref b3)])
  refine OGo.astore (pc' := 41) C X3 d3_39 rfl rfl (l' := #[.val (.ref sx), .val (.ref ar), .val (.int (0 : Int32)), .val (.int (1 : Int32)), .val .null, .val (.ref b3)]) rfl ?_
  refine OGo.aloadN (pc' := 42) C X3 d3_41 rfl rfl rfl ?_
  refine OGo.aload (pc' := 44) C X3 d3_42 rfl rfl rfl ?_
  refine OGo.iloadN (pc' := 45) C X3 d3_44 rfl rfl ?_
  refine OGo.callS (pc' := 48) (cells' := 1) (slots' := 1) (argsL := [(.ref b3), (.int (1 : Int32))]) (St := [(.ref sx)]) C X3 (wd99 hw) (wd100 hw) (by decide) (wd101 hw) (wd94 hw) (ctCod1 hw X3.2.1 b3 k3 _ V3) (lenOf pd2 rfl) rfl d3_45 rfl rfl (by decide) (Nat.le_of_ble_eq_true rfl) rfl rfl (by decide) (by decide) (fun v6 T6 h6 Q6 X6 z6 => ?_)
  obtain ⟨hv6, hh6⟩ := Q6
  subst hv6; rw [hh6] at X6
  show OGo p e below _ T6 (mkF m 48 #[.val (.ref sx), .val (.ref ar), .val (.int (0 : Int32)), .val (.int (1 : Int32)), .val .null, .val (.ref b3)] [(.int (0 : Int32)), (.ref sx)])
  have f7 := (Fc.keep K3 nin0)
  refine OGo.putfieldN (pc' := 51) C X6 (wd25 hw) Via.refl f7 f5 gx (Or.inr ⟨(wd21 hw), rfl, hnm⟩) (wd5 hw) (ty := .byte) (by decide) (v' := .int (0 : Int32)) rfl (by decide) d3_48 rfl (fun T8 h8 X8 W8 F8 => ?_)
  have K9 : Keep h0 h8 [sx] := K4.wr W8 (Or.inl (List.mem_of_getElem? (i := 0) rfl))
  refine OGo.aloadN (pc' := 52) C X8 d3_51 rfl rfl rfl ?_
  refine OGo.aload (pc' := 54) C X8 d3_52 rfl rfl rfl ?_
  have f10 := ((Fv.keep K3 nin0).other W8 (Or.inr (slot_ne (Or.inr (wd20 hw)) (Or.inr (wd21 hw)) (by decide) (t := (.array .byte)) (t' := .byte) (by decide) (by decide))))
  have f11 := (f5.wr W8)
  refine OGo.putfield (pc' := 57) C X8 (host := "") (Or.inl (wd24 hw)) Via.refl f10 f11 gx (Or.inr ⟨(wd20 hw), rfl, hnm⟩) (wd5 hw) (ty := (.array .byte)) (by decide) rfl rfl d3_54 rfl (fun T12 h12 X12 W12 F12 => ?_)
  have K13 : Keep h0 h12 [sx] := K9.wr W12 (Or.inl (List.mem_of_getElem? (i := 0) rfl))
  have f14 := (f11.wr W12)
  have f15 := (F8.other W12 (Or.inr (slot_ne (Or.inr (wd21 hw)) (Or.inr (wd20 hw)) (by decide) (t := .byte) (t' := (.array .byte)) (by decide) (by decide))))
  have f16 := ((V3.other W8 (Ne.symm nx3)).other W12 (Ne.symm nx3))
  exact OGo.ret C X12 d3_57 hret hlk (⟨b3, k3, rfl, K13, f14, f15, F12, f16⟩) (by decide) (by decide)
theorem ef2 (m : MethodId) (x0 : Addr) (x1 : Addr) : entryFrame m #[(.ref x0), (.ref x1)] 2 = mkF m 0 #[.val (.ref x0), .val (.ref x1)] [] := by first | (simp [entryFrame, mkF, argsToLocals, Value.category]; done) | rfl
set_option maxRecDepth 65536 in
set_option maxHeartbeats 40000000 in
theorem ctNew1 {l : Launch} {Z : State} {a0 : Array Value} (hw : HW a0 Z) {n0 : Nat} {h0 : Heap} (hn0 : n0 ≤ h0.size) (sx ar : Addr) (kr : ClassId) (c0 : Int32) (cz : Int32) (Ex : Exa Z h0 sx "java/lang/String") (Fv : Fld Z h0 sx "java/lang/String" "value" "[B" .null) (Fc : Fld Z h0 sx "java/lang/String" "coder" "B" (.int (0 : Int32))) (gx : n0 ≤ sx) (Vr : Arv Z h0 ar kr .char (1 : Int32) [(.int c0)] (.int (0 : Int32))) (l_c0 : own_lat c0) (OD : Old Z n0 h0) (S2 : Sta Z Z.heap "java/lang/String" "COMPACT_STRINGS" "Z" (.int cz)) (hcz : ¬ cz = 0) :
    Ctr l Z (⟨"java/lang/String", "<init>", "([C)V"⟩ : MethodName) jdk_42_method_3_code 2 none ({ frames := 3, cells := 1, slots := 1, locals := 60 } : Room) n0 #[(.ref sx), (.ref ar)] h0 (fun v h => ∃ (t : Addr) (kb : ClassId), v = none ∧ Keep h0 h [sx] ∧ Exa Z h sx "java/lang/String" ∧ Fld Z h sx "java/lang/String" "coder" "B" (.int (0 : Int32)) ∧ Fld Z h sx "java/lang/String" "value" "[B" (.ref t) ∧ Arv Z h t kb .byte (1 : Int32) [(.int (nar .byte (c0.toInt8.toInt32)))] (.int (0 : Int32))) := by
  refine Ctr.of (by decide +kernel) hn0 ?_
  intro p e s m below meth c T0 C hnm hret hlk X0
  rw [ef2 m sx ar]
  refine OGo.aloadN (pc' := 1) C X0 d2_0 rfl rfl rfl ?_
  refine OGo.aloadN (pc' := 2) C X0 d2_1 rfl rfl rfl ?_
  refine OGo.iconst (pc' := 3) (z := (0 : Int32)) C X0 d2_2 rfl (by decide) ?_
  refine OGo.aloadN (pc' := 4) C X0 d2_3 rfl rfl rfl ?_
  refine OGo.arraylength (pc' := 5) C X0 Vr d2_4 rfl ?_
  refine OGo.aconst_null (pc' := 6) C X0 d2_5 rfl ?_
  refine OGo.callInit (pc' := 9) (cells' := 1) (slots' := 1) (argsL := [(.ref ar), (.int (0 : Int32)), (.int (1 : Int32)), .null]) (St := []) C X0 rfl rfl (wd11 hw) (wd12 hw) (by decide) (wd14 hw) (wd6 hw) (ctI4_1 hw X0.2.1 sx ar kr c0 cz Ex Fv Fc gx Vr l_c0 OD S2 hcz) (lenOf pd3 rfl) rfl d2_6 rfl rfl (by decide) (Nat.le_of_ble_eq_true rfl) rfl rfl (by decide) (by decide) (fun v1 T1 h1 Q1 X1 z1 => ?_)
  obtain ⟨t1, k1, hv1, K1, E1, F1c, F1v, V1⟩ := Q1
  subst hv1
  have K2 : Keep h0 h1 [sx] := (Keep.refl h0 [sx]).trans K1 (allS (Or.inl (List.mem_of_getElem? (i := 0) rfl)) all0)
  show OGo p e below _ T1 (mkF m 9 #[.val (.ref sx), .val (.ref ar)] [])
  exact OGo.ret C X1 d2_9 hret hlk (⟨t1, k1, rfl, K2, E1, F1c, F1v, V1⟩) (by decide) (by decide)
set_option maxRecDepth 65536 in
set_option maxHeartbeats 40000000 in
theorem ctCmp2 {l : Launch} {Z : State} {a0 : Array Value} (hw : HW a0 Z) {n0 : Nat} {h0 : Heap} (hn0 : n0 ≤ h0.size) (ar ds : Addr) (kr kd : ClassId) (c0 c1 : Int32) (Vr : Arv Z h0 ar kr .char (2 : Int32) [(.int c0), (.int c1)] (.int (0 : Int32))) (Vd : Arv Z h0 ds kd .byte (2 : Int32) [(.int (0 : Int32)), (.int (0 : Int32))] (.int (0 : Int32))) (ga : n0 ≤ ds) (hne : ar ≠ ds) (l_c0 : own_lat c0) (l_c1 : own_lat c1) :
    Ctr l Z (⟨"java/lang/StringUTF16", "compress", "([CI[BII)I"⟩ : MethodName) jdk_52_method_21_code 7 (some .int) ({ frames := 0, cells := 0, slots := 0, locals := 0 } : Room) n0 #[(.ref ar), (.int (0 : Int32)), (.ref ds), (.int (0 : Int32)), (.int (2 : Int32))] h0 (fun v h => v = some (.int (2 : Int32)) ∧ Keep h0 h [ds] ∧ Arv Z h ds kd .byte (2 : Int32) [(.int (nar .byte (c0.toInt8.toInt32))), (.int (nar .byte (c1.toInt8.toInt32)))] (.int (0 : Int32))) := by
  refine Ctr.of (by decide +kernel) hn0 ?_
  intro p e s m below meth c T0 C hnm hret hlk X0
  rw [ef16 m ar (0 : Int32) ds (0 : Int32) (2 : Int32)]
  refine OGo.iconst (pc' := 1) (z := (0 : Int32)) C X0 d16_0 rfl (by decide) ?_
  refine OGo.istore (pc' := 3) C X0 d16_1 rfl (l' := #[.val (.ref ar), .val (.int (0 : Int32)), .val (.ref ds), .val (.int (0 : Int32)), .val (.int (2 : Int32)), .val (.int (0 : Int32)), .unset]) rfl ?_
  refine OGo.iload (pc' := 5) C X0 d16_3 rfl rfl ?_
  refine OGo.iload (pc' := 7) C X0 d16_5 rfl rfl ?_
  refine OGo.icmpNo (pc' := 10) C X0 d16_7 rfl (tlt (by decide : (0 : Int32) < (2 : Int32))).2.1 ?_
  refine OGo.aloadN (pc' := 11) C X0 d16_10 rfl rfl rfl ?_
  refine OGo.iloadN (pc' := 12) C X0 d16_11 rfl rfl ?_
  refine OGo.caload (pc' := 13) C X0 Vr d16_12 rfl ⟨by decide, by decide⟩ (v := c0) rfl ?_
  refine OGo.istore (pc' := 15) C X0 d16_13 rfl (l' := #[.val (.ref ar), .val (.int (0 : Int32)), .val (.ref ds), .val (.int (0 : Int32)), .val (.int (2 : Int32)), .val (.int (0 : Int32)), .val (.int c0)]) rfl ?_
  refine OGo.iload (pc' := 17) C X0 d16_15 rfl rfl ?_
  refine OGo.sipush (pc' := 20) (z := (255 : Int32)) C X0 d16_17 rfl (by decide) ?_
  refine OGo.icmpYes (pc' := 26) C X0 d16_20 (flt l_c0.2).2.2.2 (by decide) (by decide) ?_
  refine OGo.aloadN (pc' := 27) C X0 d16_26 rfl rfl rfl ?_
  refine OGo.iloadN (pc' := 28) C X0 d16_27 rfl rfl ?_
  refine OGo.iload (pc' := 30) C X0 d16_28 rfl rfl ?_
  refine OGo.i2b (pc' := 31) (z := (c0.toInt8.toInt32)) C X0 d16_30 rfl rfl ?_
  refine OGo.bastoreB (pc' := 32) C X0 Vd ga (i := 0) d16_31 rfl ⟨by decide, by decide⟩ (by decide) (Nat.le_of_ble_eq_true rfl) (fun T1 h1 X1 W1 V1 => ?_)
  replace V1 : Arv Z h1 ds kd .byte (2 : Int32) [(.int (nar .byte (c0.toInt8.toInt32))), (.int (0 : Int32))] (.int (0 : Int32)) := V1
  have K2 : Keep h0 h1 [ds] := (Keep.refl h0 [ds]).wr W1 (Or.inl (List.mem_of_getElem? (i := 0) rfl))
  refine OGo.iinc (pc' := 35) C X1 d16_32 rfl rfl (z := (1 : Int32)) (by decide) (l' := #[.val (.ref ar), .val (.int (1 : Int32)), .val (.ref ds), .val (.int (0 : Int32)), .val (.int (2 : Int32)), .val (.int (0 : Int32)), .val (.int c0)]) rfl ?_
  refine OGo.iinc (pc' := 38) C X1 d16_35 rfl rfl (z := (1 : Int32)) (by decide) (l' := #[.val (.ref ar), .val (.int (1 : Int32)), .val (.ref ds), .val (.int (1 : Int32)), .val (.int (2 : Int32)), .val (.int (0 : Int32)), .val (.int c0)]) rfl ?_
  refine OGo.iinc (pc' := 41) C X1 d16_38 rfl rfl (z := (1 : Int32)) (by decide) (l' := #[.val (.ref ar), .val (.int (1 : Int32)), .val (.ref ds), .val (.int (1 : Int32)), .val (.int (2 : Int32)), .val (.int (1 : Int32)), .val (.int c0)]) rfl ?_
  refine OGo.goto (pc' := 3) C X1 d16_41 (by decide) (by decide) ?_
  refine OGo.iload (pc' := 5) C X1 d16_3 rfl rfl ?_
  refine OGo.iload (pc' := 7) C X1 d16_5 rfl rfl ?_
  refine OGo.icmpNo (pc' := 10) C X1 d16_7 rfl (tlt (by decide : (1 : Int32) < (2 : Int32))).2.1 ?_
  refine OGo.aloadN (pc' := 11) C X1 d16_10 rfl rfl rfl ?_
  refine OGo.iloadN (pc' := 12) C X1 d16_11 rfl rfl ?_
  have f3 := (Vr.other W1 hne)
  refine OGo.caload (pc' := 13) C X1 f3 d16_12 rfl ⟨by decide, by decide⟩ (v := c1) rfl ?_
  refine OGo.istore (pc' := 15) C X1 d16_13 rfl (l' := #[.val (.ref ar), .val (.int (1 : Int32)), .val (.ref ds), .val (.int (1 : Int32)), .val (.int (2 : Int32)), .val (.int (1 : Int32)), .val (.int c1)]) rfl ?_
  refine OGo.iload (pc' := 17) C X1 d16_15 rfl rfl ?_
  refine OGo.sipush (pc' := 20) (z := (255 : Int32)) C X1 d16_17 rfl (by decide) ?_
  refine OGo.icmpYes (pc' := 26) C X1 d16_20 (flt l_c1.2).2.2.2 (by decide) (by decide) ?_
  refine OGo.aloadN (pc' := 27) C X1 d16_26 rfl rfl rfl ?_
  refine OGo.iloadN (pc' := 28) C X1 d16_27 rfl rfl ?_
  refine OGo.iload (pc' := 30) C X1 d16_28 rfl rfl ?_
  refine OGo.i2b (pc' := 31) (z := (c1.toInt8.toInt32)) C X1 d16_30 rfl rfl ?_
  refine OGo.bastoreB (pc' := 32) C X1 V1 ga (i := 1) d16_31 rfl ⟨by decide, by decide⟩ (by decide) (Nat.le_of_ble_eq_true rfl) (fun T4 h4 X4 W4 V4 => ?_)
  replace V4 : Arv Z h4 ds kd .byte (2 : Int32) [(.int (nar .byte (c0.toInt8.toInt32))), (.int (nar .byte (c1.toInt8.toInt32)))] (.int (0 : Int32)) := V4
  have K5 : Keep h0 h4 [ds] := K2.wr W4 (Or.inl (List.mem_of_getElem? (i := 0) rfl))
  refine OGo.iinc (pc' := 35) C X4 d16_32 rfl rfl (z := (2 : Int32)) (by decide) (l' := #[.val (.ref ar), .val (.int (2 : Int32)), .val (.ref ds), .val (.int (1 : Int32)), .val (.int (2 : Int32)), .val (.int (1 : Int32)), .val (.int c1)]) rfl ?_
  refine OGo.iinc (pc' := 38) C X4 d16_35 rfl rfl (z := (2 : Int32)) (by decide) (l' := #[.val (.ref ar), .val (.int (2 : Int32)), .val (.ref ds), .val (.int (2 : Int32)), .val (.int (2 : Int32)), .val (.int (1 : Int32)), .val (.int c1)]) rfl ?_
  refine OGo.iinc (pc' := 41) C X4 d16_38 rfl rfl (z := (2 : Int32)) (by decide) (l' := #[.val (.ref ar), .val (.int (2 : Int32)), .val (.ref ds), .val (.int (2 : Int32)), .val (.int (2 : Int32)), .val (.int (2 : Int32)), .val (.int c1)]) rfl ?_
  refine OGo.goto (pc' := 3) C X4 d16_41 (by decide) (by decide) ?_
  refine OGo.iload (pc' := 5) C X4 d16_3 rfl rfl ?_
  refine OGo.iload (pc' := 7) C X4 d16_5 rfl rfl ?_
  refine OGo.icmpYes (pc' := 44) C X4 d16_7 (flt (by decide : ¬ (2 : Int32) < (2 : Int32))).2.1 (by decide) (by decide) ?_
  refine OGo.iload (pc' := 46) C X4 d16_44 rfl rfl ?_
  exact OGo.retInt C X4 d16_46 hret hlk (⟨rfl, K5, V4⟩) (by decide) (by decide)
set_option maxRecDepth 65536 in
set_option maxHeartbeats 40000000 in
theorem ctCom2 {l : Launch} {Z : State} {a0 : Array Value} (hw : HW a0 Z) {n0 : Nat} {h0 : Heap} (hn0 : n0 ≤ h0.size) (ar : Addr) (kr : ClassId) (c0 c1 : Int32) (Vr : Arv Z h0 ar kr .char (2 : Int32) [(.int c0), (.int c1)] (.int (0 : Int32))) (l_c0 : own_lat c0) (l_c1 : own_lat c1) :
    Ctr l Z (⟨"java/lang/StringUTF16", "compress", "([CII)[B"⟩ : MethodName) jdk_52_method_16_code 6 (some (.array .byte)) ({ frames := 1, cells := 1, slots := 2, locals := 20 } : Room) n0 #[(.ref ar), (.int (0 : Int32)), (.int (2 : Int32))] h0 (fun v h => ∃ (b : Addr) (kb : ClassId), v = some (.ref b) ∧ Keep h0 h [] ∧ Arv Z h b kb .byte (2 : Int32) [(.int (nar .byte (c0.toInt8.toInt32))), (.int (nar .byte (c1.toInt8.toInt32)))] (.int (0 : Int32))) := by
  refine Ctr.of (by decide +kernel) hn0 ?_
  intro p e s m below meth c T0 C hnm hret hlk X0
  rw [ef15 m ar (0 : Int32) (2 : Int32)]
  refine OGo.iloadN (pc' := 1) C X0 d15_0 rfl rfl ?_
  refine OGo.newarray (pc' := 3) (cap := 2) (d0 := (.int (0 : Int32))) (cells' := 1) (slots' := 2) C X0 (wd19 hw) rfl d15_1 rfl (by decide) (by decide) (by decide) rfl rfl rfl (by decide) (by decide) (fun T1 h1 a1 k1 X1 g1 q1 E1 V1 => ?_)
  have ne2 : ar ≠ a1 := Nat.ne_of_lt (Nat.lt_of_lt_of_eq Vr.lt g1.symm)
  have sz3 : h0.size ≤ a1 := Nat.le_trans (Keep.refl h0 []).1 (Nat.le_of_eq g1.symm)
  have K4 : Keep h0 h1 [] := (Keep.refl h0 []).ext E1
  replace V1 : Arv Z h1 a1 k1 .byte (2 : Int32) [(.int (0 : Int32)), (.int (0 : Int32))] (.int (0 : Int32)) := V1.pad (pad_rep [] (.int (0 : Int32)) 2)
  refine OGo.astoreN (pc' := 4) C X1 d15_3 rfl rfl (l' := #[.val (.ref ar), .val (.int (0 : Int32)), .val (.int (2 : Int32)), .val (.ref a1), .unset, .unset]) rfl ?_
  refine OGo.aloadN (pc' := 5) C X1 d15_4 rfl rfl rfl ?_
  refine OGo.iloadN (pc' := 6) C X1 d15_5 rfl rfl ?_
  refine OGo.aloadN (pc' := 7) C X1 d15_6 rfl rfl rfl ?_
  refine OGo.iconst (pc' := 8) (z := (0 : Int32)) C X1 d15_7 rfl (by decide) ?_
  refine OGo.iloadN (pc' := 9) C X1 d15_8 rfl rfl ?_
  have f5 := (Vr.ext E1)
  refine OGo.callS (pc' := 12) (cells' := 1) (slots' := 2) (argsL := [(.ref ar), (.int (0 : Int32)), (.ref a1), (.int (0 : Int32)), (.int (2 : Int32))]) (St := []) C X1 (wd96 hw) (wd97 hw) (by decide) (wd98 hw) (wd94 hw) (ctCmp2 hw X1.2.1 ar a1 kr k1 c0 c1 f5 V1 q1 ne2 l_c0 l_c1) (lenOf pd0 rfl) rfl d15_9 rfl rfl (by decide) (Nat.le_of_ble_eq_true rfl) rfl rfl (by decide) (by decide) (fun v6 T6 h6 Q6 X6 z6 => ?_)
  obtain ⟨hv6, K6, V6b⟩ := Q6
  subst hv6
  have K7 : Keep h0 h6 [] := K4.trans K6 (allS (Or.inr sz3) all0)
  show OGo p e below _ T6 (mkF m 12 #[.val (.ref ar), .val (.int (0 : Int32)), .val (.int (2 : Int32)), .val (.ref a1), .unset, .unset] [(.int (2 : Int32))])
  refine OGo.istore (pc' := 14) C X6 d15_12 rfl (l' := #[.val (.ref ar), .val (.int (0 : Int32)), .val (.int (2 : Int32)), .val (.ref a1), .val (.int (2 : Int32)), .unset]) rfl ?_
  refine OGo.iload (pc' := 16) C X6 d15_14 rfl rfl ?_
  refine OGo.iloadN (pc' := 17) C X6 d15_16 rfl rfl ?_
  refine OGo.icmpYes (pc' := 57) C X6 d15_17 (teq (by decide : (2 : Int32) = (2 : Int32))).1 (by decide) (by decide) ?_
  refine OGo.aloadN (pc' := 58) C X6 d15_57 rfl rfl rfl ?_
  exact OGo.retA C X6 d15_58 hret rfl rfl hlk (⟨a1, k1, rfl, K7, V6b⟩) (by decide) (by decide)
set_option maxRecDepth 65536 in
set_option maxHeartbeats 40000000 in
theorem ctCod2 {l : Launch} {Z : State} {a0 : Array Value} (hw : HW a0 Z) {n0 : Nat} {h0 : Heap} (hn0 : n0 ≤ h0.size) (b : Addr) (kb : ClassId) (vs : List Value) (Vr : Arv Z h0 b kb .byte (2 : Int32) vs (.int (0 : Int32))) :
    Ctr l Z (⟨"java/lang/StringUTF16", "coderFromArrayLen", "([BI)B"⟩ : MethodName) jdk_52_method_15_code 2 (some .byte) ({ frames := 0, cells := 0, slots := 0, locals := 0 } : Room) n0 #[(.ref b), (.int (2 : Int32))] h0 (fun v h => v = some (.int (0 : Int32)) ∧ h = h0) := by
  refine Ctr.of (by decide +kernel) hn0 ?_
  intro p e s m below meth c T0 C hnm hret hlk X0
  rw [ef17 m b (2 : Int32)]
  refine OGo.iloadN (pc' := 1) C X0 d17_0 rfl rfl ?_
  refine OGo.aloadN (pc' := 2) C X0 d17_1 rfl rfl rfl ?_
  refine OGo.arraylength (pc' := 3) C X0 Vr d17_2 rfl ?_
  refine OGo.isub (pc' := 4) (z := (0 : Int32)) C X0 d17_3 rfl (by decide) ?_
  refine OGo.bipush (pc' := 6) (z := (31 : Int32)) C X0 d17_4 rfl (by decide) ?_
  refine OGo.iushr (pc' := 7) (z := (0 : Int32)) C X0 d17_6 rfl (by decide) ?_
  refine OGo.i2b (pc' := 8) (z := (0 : Int32)) C X0 d17_7 rfl (by decide) ?_
  exact OGo.retN C X0 d17_8 hret (by simp) (z' := (0 : Int32)) (by decide) hlk (⟨rfl, rfl⟩) (by decide) (by decide)
set_option maxRecDepth 65536 in
set_option maxHeartbeats 40000000 in
theorem ctI4_2 {l : Launch} {Z : State} {a0 : Array Value} (hw : HW a0 Z) {n0 : Nat} {h0 : Heap} (hn0 : n0 ≤ h0.size) (sx ar : Addr) (kr : ClassId) (c0 c1 : Int32) (cz : Int32) (Ex : Exa Z h0 sx "java/lang/String") (Fv : Fld Z h0 sx "java/lang/String" "value" "[B" .null) (Fc : Fld Z h0 sx "java/lang/String" "coder" "B" (.int (0 : Int32))) (gx : n0 ≤ sx) (Vr : Arv Z h0 ar kr .char (2 : Int32) [(.int c0), (.int c1)] (.int (0 : Int32))) (l_c0 : own_lat c0) (l_c1 : own_lat c1) (OD : Old Z n0 h0) (S2 : Sta Z Z.heap "java/lang/String" "COMPACT_STRINGS" "Z" (.int cz)) (hcz : ¬ cz = 0) :
    Ctr l Z (⟨"java/lang/String", "<init>", "([CIILjava/lang/Void;)V"⟩ : MethodName) jdk_42_method_149_code 6 none ({ frames := 2, cells := 1, slots := 2, locals := 40 } : Room) n0 #[(.ref sx), (.ref ar), (.int (0 : Int32)), (.int (2 : Int32)), .null] h0 (fun v h => ∃ (t : Addr) (kb : ClassId), v = none ∧ Keep h0 h [sx] ∧ Exa Z h sx "java/lang/String" ∧ Fld Z h sx "java/lang/String" "coder" "B" (.int (0 : Int32)) ∧ Fld Z h sx "java/lang/String" "value" "[B" (.ref t) ∧ Arv Z h t kb .byte (2 : Int32) [(.int (nar .byte (c0.toInt8.toInt32))), (.int (nar .byte (c1.toInt8.toInt32)))] (.int (0 : Int32))) := by
  refine Ctr.of (by decide +kernel) hn0 ?_
  intro p e s m below meth c T0 C hnm hret hlk X0
  rw [ef3 m sx ar (0 : Int32) (2 : Int32)]
  refine OGo.aloadN (pc' := 1) C X0 d3_0 rfl rfl rfl ?_
  refine OGo.initObj (pc' := 4) C X0 (wd15 hw) (wd16 hw) (wd17 hw) d3_1 rfl rfl (by decide) (Nat.le_of_ble_eq_true rfl) (fun T1 X1 => ?_)
  refine OGo.iloadN (pc' := 5) C X1 d3_4 rfl rfl ?_
  refine OGo.ifYes (pc' := 27) C X1 d3_5 (feq (by decide : ¬ (2 : Int32) = (0 : Int32))).2 (by decide) (by decide) ?_
  refine OGo.getstatic (pc' := 30) C X1 (host := "") (Or.inl (wd74 hw)) Via.refl (S2.ext OD.2) d3_27 rfl (fun T2 X2 => ?_)
  refine OGo.ifNo (pc' := 33) C X2 d3_30 rfl (feq hcz).1 ?_
  refine OGo.aloadN (pc' := 34) C X2 d3_33 rfl rfl rfl ?_
  refine OGo.iloadN (pc' := 35) C X2 d3_34 rfl rfl ?_
  refine OGo.iloadN (pc' := 36) C X2 d3_35 rfl rfl ?_
  refine OGo.callS (pc' := 39) (cells' := 1) (slots' := 2) (argsL := [(.ref ar), (.int (0 : Int32)), (.int (2 : Int32))]) (St := []) C X2 (wd92 hw) (wd93 hw) (by decide) (wd95 hw) (wd94 hw) (ctCom2 hw X2.2.1 ar kr c0 c1 Vr l_c0 l_c1) (lenOf pd1 rfl) rfl d3_36 rfl rfl (by decide) (Nat.le_of_ble_eq_true rfl) rfl rfl (by decide) (by decide) (fun v3 T3 h3 Q3 X3 z3 => ?_)
  obtain ⟨b3, k3, hv3, K3, V3⟩ := Q3
  subst hv3
  have K4 : Keep h0 h3 [sx] := (Keep.refl h0 [sx]).trans K3 all0
  have f5 := (Ex.keep K3)
  have nx3 : sx ≠ b3 := Exa.neArv f5 V3 (wd5 hw)
  show OGo p e below _ T3 (mkF m 39 #[.val (.ref sx), .val (.ref ar), .val (.int (0 : Int32)), .val (.int (2 : Int32)), .val .null, .unset] [(.ref b3)])
  refine OGo.astore (pc' := 41) C X3 d3_39 rfl rfl (l' := #[.val (.ref sx), .val (.ref ar), .val (.int (0 : Int32)), .val (.int (2 : Int32)), .val .null, .val (.ref b3)]) rfl ?_
  refine OGo.aloadN (pc' := 42) C X3 d3_41 rfl rfl rfl ?_
  refine OGo.aload (pc' := 44) C X3 d3_42 rfl rfl rfl ?_
  refine OGo.iloadN (pc' := 45) C X3 d3_44 rfl rfl ?_
  refine OGo.callS (pc' := 48) (cells' := 1) (slots' := 2) (argsL := [(.ref b3), (.int (2 : Int32))]) (St := [(.ref sx)]) C X3 (wd99 hw) (wd100 hw) (by decide) (wd101 hw) (wd94 hw) (ctCod2 hw X3.2.1 b3 k3 _ V3) (lenOf pd2 rfl) rfl d3_45 rfl rfl (by decide) (Nat.le_of_ble_eq_true rfl) rfl rfl (by decide) (by decide) (fun v6 T6 h6 Q6 X6 z6 => ?_)
  obtain ⟨hv6, hh6⟩ := Q6
  subst hv6; rw [hh6] at X6
  show OGo p e below _ T6 (mkF m 48 #[.val (.ref sx), .val (.ref ar), .val (.int (0 : Int32)), .val (.int (2 : Int32)), .val .null, .val (.ref b3)] [(.int (0 : Int32)), (.ref sx)])
  have f7 := (Fc.keep K3 nin0)
  refine OGo.putfieldN (pc' := 51) C X6 (wd25 hw) Via.refl f7 f5 gx (Or.inr ⟨(wd21 hw), rfl, hnm⟩) (wd5 hw) (ty := .byte) (by decide) (v' := .int (0 : Int32)) rfl (by decide) d3_48 rfl (fun T8 h8 X8 W8 F8 => ?_)
  have K9 : Keep h0 h8 [sx] := K4.wr W8 (Or.inl (List.mem_of_getElem? (i := 0) rfl))
  refine OGo.aloadN (pc' := 52) C X8 d3_51 rfl rfl rfl ?_
  refine OGo.aload (pc' := 54) C X8 d3_52 rfl rfl rfl ?_
  have f10 := ((Fv.keep K3 nin0).other W8 (Or.inr (slot_ne (Or.inr (wd20 hw)) (Or.inr (wd21 hw)) (by decide) (t := (.array .byte)) (t' := .byte) (by decide) (by decide))))
  have f11 := (f5.wr W8)
  refine OGo.putfield (pc' := 57) C X8 (host := "") (Or.inl (wd24 hw)) Via.refl f10 f11 gx (Or.inr ⟨(wd20 hw), rfl, hnm⟩) (wd5 hw) (ty := (.array .byte)) (by decide) rfl rfl d3_54 rfl (fun T12 h12 X12 W12 F12 => ?_)
  have K13 : Keep h0 h12 [sx] := K9.wr W12 (Or.inl (List.mem_of_getElem? (i := 0) rfl))
  have f14 := (f11.wr W12)
  have f15 := (F8.other W12 (Or.inr (slot_ne (Or.inr (wd21 hw)) (Or.inr (wd20 hw)) (by decide) (t := .byte) (t' := (.array .byte)) (by decide) (by decide))))
  have f16 := ((V3.other W8 (Ne.symm nx3)).other W12 (Ne.symm nx3))
  exact OGo.ret C X12 d3_57 hret hlk (⟨b3, k3, rfl, K13, f14, f15, F12, f16⟩) (by decide) (by decide)
set_option maxRecDepth 65536 in
set_option maxHeartbeats 40000000 in
theorem ctNew2 {l : Launch} {Z : State} {a0 : Array Value} (hw : HW a0 Z) {n0 : Nat} {h0 : Heap} (hn0 : n0 ≤ h0.size) (sx ar : Addr) (kr : ClassId) (c0 c1 : Int32) (cz : Int32) (Ex : Exa Z h0 sx "java/lang/String") (Fv : Fld Z h0 sx "java/lang/String" "value" "[B" .null) (Fc : Fld Z h0 sx "java/lang/String" "coder" "B" (.int (0 : Int32))) (gx : n0 ≤ sx) (Vr : Arv Z h0 ar kr .char (2 : Int32) [(.int c0), (.int c1)] (.int (0 : Int32))) (l_c0 : own_lat c0) (l_c1 : own_lat c1) (OD : Old Z n0 h0) (S2 : Sta Z Z.heap "java/lang/String" "COMPACT_STRINGS" "Z" (.int cz)) (hcz : ¬ cz = 0) :
    Ctr l Z (⟨"java/lang/String", "<init>", "([C)V"⟩ : MethodName) jdk_42_method_3_code 2 none ({ frames := 3, cells := 1, slots := 2, locals := 60 } : Room) n0 #[(.ref sx), (.ref ar)] h0 (fun v h => ∃ (t : Addr) (kb : ClassId), v = none ∧ Keep h0 h [sx] ∧ Exa Z h sx "java/lang/String" ∧ Fld Z h sx "java/lang/String" "coder" "B" (.int (0 : Int32)) ∧ Fld Z h sx "java/lang/String" "value" "[B" (.ref t) ∧ Arv Z h t kb .byte (2 : Int32) [(.int (nar .byte (c0.toInt8.toInt32))), (.int (nar .byte (c1.toInt8.toInt32)))] (.int (0 : Int32))) := by
  refine Ctr.of (by decide +kernel) hn0 ?_
  intro p e s m below meth c T0 C hnm hret hlk X0
  rw [ef2 m sx ar]
  refine OGo.aloadN (pc' := 1) C X0 d2_0 rfl rfl rfl ?_
  refine OGo.aloadN (pc' := 2) C X0 d2_1 rfl rfl rfl ?_
  refine OGo.iconst (pc' := 3) (z := (0 : Int32)) C X0 d2_2 rfl (by decide) ?_
  refine OGo.aloadN (pc' := 4) C X0 d2_3 rfl rfl rfl ?_
  refine OGo.arraylength (pc' := 5) C X0 Vr d2_4 rfl ?_
  refine OGo.aconst_null (pc' := 6) C X0 d2_5 rfl ?_
  refine OGo.callInit (pc' := 9) (cells' := 1) (slots' := 2) (argsL := [(.ref ar), (.int (0 : Int32)), (.int (2 : Int32)), .null]) (St := []) C X0 rfl rfl (wd11 hw) (wd12 hw) (by decide) (wd14 hw) (wd6 hw) (ctI4_2 hw X0.2.1 sx ar kr c0 c1 cz Ex Fv Fc gx Vr l_c0 l_c1 OD S2 hcz) (lenOf pd3 rfl) rfl d2_6 rfl rfl (by decide) (Nat.le_of_ble_eq_true rfl) rfl rfl (by decide) (by decide) (fun v1 T1 h1 Q1 X1 z1 => ?_)
  obtain ⟨t1, k1, hv1, K1, E1, F1c, F1v, V1⟩ := Q1
  subst hv1
  have K2 : Keep h0 h1 [sx] := (Keep.refl h0 [sx]).trans K1 (allS (Or.inl (List.mem_of_getElem? (i := 0) rfl)) all0)
  show OGo p e below _ T1 (mkF m 9 #[.val (.ref sx), .val (.ref ar)] [])
  exact OGo.ret C X1 d2_9 hret hlk (⟨t1, k1, rfl, K2, E1, F1c, F1v, V1⟩) (by decide) (by decide)
set_option maxRecDepth 65536 in
set_option maxHeartbeats 40000000 in
theorem ctCmp3 {l : Launch} {Z : State} {a0 : Array Value} (hw : HW a0 Z) {n0 : Nat} {h0 : Heap} (hn0 : n0 ≤ h0.size) (ar ds : Addr) (kr kd : ClassId) (c0 c1 c2 : Int32) (Vr : Arv Z h0 ar kr .char (3 : Int32) [(.int c0), (.int c1), (.int c2)] (.int (0 : Int32))) (Vd : Arv Z h0 ds kd .byte (3 : Int32) [(.int (0 : Int32)), (.int (0 : Int32)), (.int (0 : Int32))] (.int (0 : Int32))) (ga : n0 ≤ ds) (hne : ar ≠ ds) (l_c0 : own_lat c0) (l_c1 : own_lat c1) (l_c2 : own_lat c2) :
    Ctr l Z (⟨"java/lang/StringUTF16", "compress", "([CI[BII)I"⟩ : MethodName) jdk_52_method_21_code 7 (some .int) ({ frames := 0, cells := 0, slots := 0, locals := 0 } : Room) n0 #[(.ref ar), (.int (0 : Int32)), (.ref ds), (.int (0 : Int32)), (.int (3 : Int32))] h0 (fun v h => v = some (.int (3 : Int32)) ∧ Keep h0 h [ds] ∧ Arv Z h ds kd .byte (3 : Int32) [(.int (nar .byte (c0.toInt8.toInt32))), (.int (nar .byte (c1.toInt8.toInt32))), (.int (nar .byte (c2.toInt8.toInt32)))] (.int (0 : Int32))) := by
  refine Ctr.of (by decide +kernel) hn0 ?_
  intro p e s m below meth c T0 C hnm hret hlk X0
  rw [ef16 m ar (0 : Int32) ds (0 : Int32) (3 : Int32)]
  refine OGo.iconst (pc' := 1) (z := (0 : Int32)) C X0 d16_0 rfl (by decide) ?_
  refine OGo.istore (pc' := 3) C X0 d16_1 rfl (l' := #[.val (.ref ar), .val (.int (0 : Int32)), .val (.ref ds), .val (.int (0 : Int32)), .val (.int (3 : Int32)), .val (.int (0 : Int32)), .unset]) rfl ?_
  refine OGo.iload (pc' := 5) C X0 d16_3 rfl rfl ?_
  refine OGo.iload (pc' := 7) C X0 d16_5 rfl rfl ?_
  refine OGo.icmpNo (pc' := 10) C X0 d16_7 rfl (tlt (by decide : (0 : Int32) < (3 : Int32))).2.1 ?_
  refine OGo.aloadN (pc' := 11) C X0 d16_10 rfl rfl rfl ?_
  refine OGo.iloadN (pc' := 12) C X0 d16_11 rfl rfl ?_
  refine OGo.caload (pc' := 13) C X0 Vr d16_12 rfl ⟨by decide, by decide⟩ (v := c0) rfl ?_
  refine OGo.istore (pc' := 15) C X0 d16_13 rfl (l' := #[.val (.ref ar), .val (.int (0 : Int32)), .val (.ref ds), .val (.int (0 : Int32)), .val (.int (3 : Int32)), .val (.int (0 : Int32)), .val (.int c0)]) rfl ?_
  refine OGo.iload (pc' := 17) C X0 d16_15 rfl rfl ?_
  refine OGo.sipush (pc' := 20) (z := (255 : Int32)) C X0 d16_17 rfl (by decide) ?_
  refine OGo.icmpYes (pc' := 26) C X0 d16_20 (flt l_c0.2).2.2.2 (by decide) (by decide) ?_
  refine OGo.aloadN (pc' := 27) C X0 d16_26 rfl rfl rfl ?_
  refine OGo.iloadN (pc' := 28) C X0 d16_27 rfl rfl ?_
  refine OGo.iload (pc' := 30) C X0 d16_28 rfl rfl ?_
  refine OGo.i2b (pc' := 31) (z := (c0.toInt8.toInt32)) C X0 d16_30 rfl rfl ?_
  refine OGo.bastoreB (pc' := 32) C X0 Vd ga (i := 0) d16_31 rfl ⟨by decide, by decide⟩ (by decide) (Nat.le_of_ble_eq_true rfl) (fun T1 h1 X1 W1 V1 => ?_)
  replace V1 : Arv Z h1 ds kd .byte (3 : Int32) [(.int (nar .byte (c0.toInt8.toInt32))), (.int (0 : Int32)), (.int (0 : Int32))] (.int (0 : Int32)) := V1
  have K2 : Keep h0 h1 [ds] := (Keep.refl h0 [ds]).wr W1 (Or.inl (List.mem_of_getElem? (i := 0) rfl))
  refine OGo.iinc (pc' := 35) C X1 d16_32 rfl rfl (z := (1 : Int32)) (by decide) (l' := #[.val (.ref ar), .val (.int (1 : Int32)), .val (.ref ds), .val (.int (0 : Int32)), .val (.int (3 : Int32)), .val (.int (0 : Int32)), .val (.int c0)]) rfl ?_
  refine OGo.iinc (pc' := 38) C X1 d16_35 rfl rfl (z := (1 : Int32)) (by decide) (l' := #[.val (.ref ar), .val (.int (1 : Int32)), .val (.ref ds), .val (.int (1 : Int32)), .val (.int (3 : Int32)), .val (.int (0 : Int32)), .val (.int c0)]) rfl ?_
  refine OGo.iinc (pc' := 41) C X1 d16_38 rfl rfl (z := (1 : Int32)) (by decide) (l' := #[.val (.ref ar), .val (.int (1 : Int32)), .val (.ref ds), .val (.int (1 : Int32)), .val (.int (3 : Int32)), .val (.int (1 : Int32)), .val (.int c0)]) rfl ?_
  refine OGo.goto (pc' := 3) C X1 d16_41 (by decide) (by decide) ?_
  refine OGo.iload (pc' := 5) C X1 d16_3 rfl rfl ?_
  refine OGo.iload (pc' := 7) C X1 d16_5 rfl rfl ?_
  refine OGo.icmpNo (pc' := 10) C X1 d16_7 rfl (tlt (by decide : (1 : Int32) < (3 : Int32))).2.1 ?_
  refine OGo.aloadN (pc' := 11) C X1 d16_10 rfl rfl rfl ?_
  refine OGo.iloadN (pc' := 12) C X1 d16_11 rfl rfl ?_
  have f3 := (Vr.other W1 hne)
  refine OGo.caload (pc' := 13) C X1 f3 d16_12 rfl ⟨by decide, by decide⟩ (v := c1) rfl ?_
  refine OGo.istore (pc' := 15) C X1 d16_13 rfl (l' := #[.val (.ref ar), .val (.int (1 : Int32)), .val (.ref ds), .val (.int (1 : Int32)), .val (.int (3 : Int32)), .val (.int (1 : Int32)), .val (.int c1)]) rfl ?_
  refine OGo.iload (pc' := 17) C X1 d16_15 rfl rfl ?_
  refine OGo.sipush (pc' := 20) (z := (255 : Int32)) C X1 d16_17 rfl (by decide) ?_
  refine OGo.icmpYes (pc' := 26) C X1 d16_20 (flt l_c1.2).2.2.2 (by decide) (by decide) ?_
  refine OGo.aloadN (pc' := 27) C X1 d16_26 rfl rfl rfl ?_
  refine OGo.iloadN (pc' := 28) C X1 d16_27 rfl rfl ?_
  refine OGo.iload (pc' := 30) C X1 d16_28 rfl rfl ?_
  refine OGo.i2b (pc' := 31) (z := (c1.toInt8.toInt32)) C X1 d16_30 rfl rfl ?_
  refine OGo.bastoreB (pc' := 32) C X1 V1 ga (i := 1) d16_31 rfl ⟨by decide, by decide⟩ (by decide) (Nat.le_of_ble_eq_true rfl) (fun T4 h4 X4 W4 V4 => ?_)
  replace V4 : Arv Z h4 ds kd .byte (3 : Int32) [(.int (nar .byte (c0.toInt8.toInt32))), (.int (nar .byte (c1.toInt8.toInt32))), (.int (0 : Int32))] (.int (0 : Int32)) := V4
  have K5 : Keep h0 h4 [ds] := K2.wr W4 (Or.inl (List.mem_of_getElem? (i := 0) rfl))
  refine OGo.iinc (pc' := 35) C X4 d16_32 rfl rfl (z := (2 : Int32)) (by decide) (l' := #[.val (.ref ar), .val (.int (2 : Int32)), .val (.ref ds), .val (.int (1 : Int32)), .val (.int (3 : Int32)), .val (.int (1 : Int32)), .val (.int c1)]) rfl ?_
  refine OGo.iinc (pc' := 38) C X4 d16_35 rfl rfl (z := (2 : Int32)) (by decide) (l' := #[.val (.ref ar), .val (.int (2 : Int32)), .val (.ref ds), .val (.int (2 : Int32)), .val (.int (3 : Int32)), .val (.int (1 : Int32)), .val (.int c1)]) rfl ?_
  refine OGo.iinc (pc' := 41) C X4 d16_38 rfl rfl (z := (2 : Int32)) (by decide) (l' := #[.val (.ref ar), .val (.int (2 : Int32)), .val (.ref ds), .val (.int (2 : Int32)), .val (.int (3 : Int32)), .val (.int (2 : Int32)), .val (.int c1)]) rfl ?_
  refine OGo.goto (pc' := 3) C X4 d16_41 (by decide) (by decide) ?_
  refine OGo.iload (pc' := 5) C X4 d16_3 rfl rfl ?_
  refine OGo.iload (pc' := 7) C X4 d16_5 rfl rfl ?_
  refine OGo.icmpNo (pc' := 10) C X4 d16_7 rfl (tlt (by decide : (2 : Int32) < (3 : Int32))).2.1 ?_
  refine OGo.aloadN (pc' := 11) C X4 d16_10 rfl rfl rfl ?_
  refine OGo.iloadN (pc' := 12) C X4 d16_11 rfl rfl ?_
  have f6 := (f3.other W4 hne)
  refine OGo.caload (pc' := 13) C X4 f6 d16_12 rfl ⟨by decide, by decide⟩ (v := c2) rfl ?_
  refine OGo.istore (pc' := 15) C X4 d16_13 rfl (l' := #[.val (.ref ar), .val (.int (2 : Int32)), .val (.ref ds), .val (.int (2 : Int32)), .val (.int (3 : Int32)), .val (.int (2 : Int32)), .val (.int c2)]) rfl ?_
  refine OGo.iload (pc' := 17) C X4 d16_15 rfl rfl ?_
  refine OGo.sipush (pc' := 20) (z := (255 : Int32)) C X4 d16_17 rfl (by decide) ?_
  refine OGo.icmpYes (pc' := 26) C X4 d16_20 (flt l_c2.2).2.2.2 (by decide) (by decide) ?_
  refine OGo.aloadN (pc' := 27) C X4 d16_26 rfl rfl rfl ?_
  refine OGo.iloadN (pc' := 28) C X4 d16_27 rfl rfl ?_
  refine OGo.iload (pc' := 30) C X4 d16_28 rfl rfl ?_
  refine OGo.i2b (pc' := 31) (z := (c2.toInt8.toInt32)) C X4 d16_30 rfl rfl ?_
  refine OGo.bastoreB (pc' := 32) C X4 V4 ga (i := 2) d16_31 rfl ⟨by decide, by decide⟩ (by decide) (Nat.le_of_ble_eq_true rfl) (fun T7 h7 X7 W7 V7 => ?_)
  replace V7 : Arv Z h7 ds kd .byte (3 : Int32) [(.int (nar .byte (c0.toInt8.toInt32))), (.int (nar .byte (c1.toInt8.toInt32))), (.int (nar .byte (c2.toInt8.toInt32)))] (.int (0 : Int32)) := V7
  have K8 : Keep h0 h7 [ds] := K5.wr W7 (Or.inl (List.mem_of_getElem? (i := 0) rfl))
  refine OGo.iinc (pc' := 35) C X7 d16_32 rfl rfl (z := (3 : Int32)) (by decide) (l' := #[.val (.ref ar), .val (.int (3 : Int32)), .val (.ref ds), .val (.int (2 : Int32)), .val (.int (3 : Int32)), .val (.int (2 : Int32)), .val (.int c2)]) rfl ?_
  refine OGo.iinc (pc' := 38) C X7 d16_35 rfl rfl (z := (3 : Int32)) (by decide) (l' := #[.val (.ref ar), .val (.int (3 : Int32)), .val (.ref ds), .val (.int (3 : Int32)), .val (.int (3 : Int32)), .val (.int (2 : Int32)), .val (.int c2)]) rfl ?_
  refine OGo.iinc (pc' := 41) C X7 d16_38 rfl rfl (z := (3 : Int32)) (by decide) (l' := #[.val (.ref ar), .val (.int (3 : Int32)), .val (.ref ds), .val (.int (3 : Int32)), .val (.int (3 : Int32)), .val (.int (3 : Int32)), .val (.int c2)]) rfl ?_
  refine OGo.goto (pc' := 3) C X7 d16_41 (by decide) (by decide) ?_
  refine OGo.iload (pc' := 5) C X7 d16_3 rfl rfl ?_
  refine OGo.iload (pc' := 7) C X7 d16_5 rfl rfl ?_
  refine OGo.icmpYes (pc' := 44) C X7 d16_7 (flt (by decide : ¬ (3 : Int32) < (3 : Int32))).2.1 (by decide) (by decide) ?_
  refine OGo.iload (pc' := 46) C X7 d16_44 rfl rfl ?_
  exact OGo.retInt C X7 d16_46 hret hlk (⟨rfl, K8, V7⟩) (by decide) (by decide)
set_option maxRecDepth 65536 in
set_option maxHeartbeats 40000000 in
theorem ctCom3 {l : Launch} {Z : State} {a0 : Array Value} (hw : HW a0 Z) {n0 : Nat} {h0 : Heap} (hn0 : n0 ≤ h0.size) (ar : Addr) (kr : ClassId) (c0 c1 c2 : Int32) (Vr : Arv Z h0 ar kr .char (3 : Int32) [(.int c0), (.int c1), (.int c2)] (.int (0 : Int32))) (l_c0 : own_lat c0) (l_c1 : own_lat c1) (l_c2 : own_lat c2) :
    Ctr l Z (⟨"java/lang/StringUTF16", "compress", "([CII)[B"⟩ : MethodName) jdk_52_method_16_code 6 (some (.array .byte)) ({ frames := 1, cells := 1, slots := 3, locals := 20 } : Room) n0 #[(.ref ar), (.int (0 : Int32)), (.int (3 : Int32))] h0 (fun v h => ∃ (b : Addr) (kb : ClassId), v = some (.ref b) ∧ Keep h0 h [] ∧ Arv Z h b kb .byte (3 : Int32) [(.int (nar .byte (c0.toInt8.toInt32))), (.int (nar .byte (c1.toInt8.toInt32))), (.int (nar .byte (c2.toInt8.toInt32)))] (.int (0 : Int32))) := by
  refine Ctr.of (by decide +kernel) hn0 ?_
  intro p e s m below meth c T0 C hnm hret hlk X0
  rw [ef15 m ar (0 : Int32) (3 : Int32)]
  refine OGo.iloadN (pc' := 1) C X0 d15_0 rfl rfl ?_
  refine OGo.newarray (pc' := 3) (cap := 3) (d0 := (.int (0 : Int32))) (cells' := 1) (slots' := 3) C X0 (wd19 hw) rfl d15_1 rfl (by decide) (by decide) (by decide) rfl rfl rfl (by decide) (by decide) (fun T1 h1 a1 k1 X1 g1 q1 E1 V1 => ?_)
  have ne2 : ar ≠ a1 := Nat.ne_of_lt (Nat.lt_of_lt_of_eq Vr.lt g1.symm)
  have sz3 : h0.size ≤ a1 := Nat.le_trans (Keep.refl h0 []).1 (Nat.le_of_eq g1.symm)
  have K4 : Keep h0 h1 [] := (Keep.refl h0 []).ext E1
  replace V1 : Arv Z h1 a1 k1 .byte (3 : Int32) [(.int (0 : Int32)), (.int (0 : Int32)), (.int (0 : Int32))] (.int (0 : Int32)) := V1.pad (pad_rep [] (.int (0 : Int32)) 3)
  refine OGo.astoreN (pc' := 4) C X1 d15_3 rfl rfl (l' := #[.val (.ref ar), .val (.int (0 : Int32)), .val (.int (3 : Int32)), .val (.ref a1), .unset, .unset]) rfl ?_
  refine OGo.aloadN (pc' := 5) C X1 d15_4 rfl rfl rfl ?_
  refine OGo.iloadN (pc' := 6) C X1 d15_5 rfl rfl ?_
  refine OGo.aloadN (pc' := 7) C X1 d15_6 rfl rfl rfl ?_
  refine OGo.iconst (pc' := 8) (z := (0 : Int32)) C X1 d15_7 rfl (by decide) ?_
  refine OGo.iloadN (pc' := 9) C X1 d15_8 rfl rfl ?_
  have f5 := (Vr.ext E1)
  refine OGo.callS (pc' := 12) (cells' := 1) (slots' := 3) (argsL := [(.ref ar), (.int (0 : Int32)), (.ref a1), (.int (0 : Int32)), (.int (3 : Int32))]) (St := []) C X1 (wd96 hw) (wd97 hw) (by decide) (wd98 hw) (wd94 hw) (ctCmp3 hw X1.2.1 ar a1 kr k1 c0 c1 c2 f5 V1 q1 ne2 l_c0 l_c1 l_c2) (lenOf pd0 rfl) rfl d15_9 rfl rfl (by decide) (Nat.le_of_ble_eq_true rfl) rfl rfl (by decide) (by decide) (fun v6 T6 h6 Q6 X6 z6 => ?_)
  obtain ⟨hv6, K6, V6b⟩ := Q6
  subst hv6
  have K7 : Keep h0 h6 [] := K4.trans K6 (allS (Or.inr sz3) all0)
  show OGo p e below _ T6 (mkF m 12 #[.val (.ref ar), .val (.int (0 : Int32)), .val (.int (3 : Int32)), .val (.ref a1), .unset, .unset] [(.int (3 : Int32))])
  refine OGo.istore (pc' := 14) C X6 d15_12 rfl (l' := #[.val (.ref ar), .val (.int (0 : Int32)), .val (.int (3 : Int32)), .val (.ref a1), .val (.int (3 : Int32)), .unset]) rfl ?_
  refine OGo.iload (pc' := 16) C X6 d15_14 rfl rfl ?_
  refine OGo.iloadN (pc' := 17) C X6 d15_16 rfl rfl ?_
  refine OGo.icmpYes (pc' := 57) C X6 d15_17 (teq (by decide : (3 : Int32) = (3 : Int32))).1 (by decide) (by decide) ?_
  refine OGo.aloadN (pc' := 58) C X6 d15_57 rfl rfl rfl ?_
  exact OGo.retA C X6 d15_58 hret rfl rfl hlk (⟨a1, k1, rfl, K7, V6b⟩) (by decide) (by decide)
set_option maxRecDepth 65536 in
set_option maxHeartbeats 40000000 in
theorem ctCod3 {l : Launch} {Z : State} {a0 : Array Value} (hw : HW a0 Z) {n0 : Nat} {h0 : Heap} (hn0 : n0 ≤ h0.size) (b : Addr) (kb : ClassId) (vs : List Value) (Vr : Arv Z h0 b kb .byte (3 : Int32) vs (.int (0 : Int32))) :
    Ctr l Z (⟨"java/lang/StringUTF16", "coderFromArrayLen", "([BI)B"⟩ : MethodName) jdk_52_method_15_code 2 (some .byte) ({ frames := 0, cells := 0, slots := 0, locals := 0 } : Room) n0 #[(.ref b), (.int (3 : Int32))] h0 (fun v h => v = some (.int (0 : Int32)) ∧ h = h0) := by
  refine Ctr.of (by decide +kernel) hn0 ?_
  intro p e s m below meth c T0 C hnm hret hlk X0
  rw [ef17 m b (3 : Int32)]
  refine OGo.iloadN (pc' := 1) C X0 d17_0 rfl rfl ?_
  refine OGo.aloadN (pc' := 2) C X0 d17_1 rfl rfl rfl ?_
  refine OGo.arraylength (pc' := 3) C X0 Vr d17_2 rfl ?_
  refine OGo.isub (pc' := 4) (z := (0 : Int32)) C X0 d17_3 rfl (by decide) ?_
  refine OGo.bipush (pc' := 6) (z := (31 : Int32)) C X0 d17_4 rfl (by decide) ?_
  refine OGo.iushr (pc' := 7) (z := (0 : Int32)) C X0 d17_6 rfl (by decide) ?_
  refine OGo.i2b (pc' := 8) (z := (0 : Int32)) C X0 d17_7 rfl (by decide) ?_
  exact OGo.retN C X0 d17_8 hret (by simp) (z' := (0 : Int32)) (by decide) hlk (⟨rfl, rfl⟩) (by decide) (by decide)
set_option maxRecDepth 65536 in
set_option maxHeartbeats 40000000 in
theorem ctI4_3 {l : Launch} {Z : State} {a0 : Array Value} (hw : HW a0 Z) {n0 : Nat} {h0 : Heap} (hn0 : n0 ≤ h0.size) (sx ar : Addr) (kr : ClassId) (c0 c1 c2 : Int32) (cz : Int32) (Ex : Exa Z h0 sx "java/lang/String") (Fv : Fld Z h0 sx "java/lang/String" "value" "[B" .null) (Fc : Fld Z h0 sx "java/lang/String" "coder" "B" (.int (0 : Int32))) (gx : n0 ≤ sx) (Vr : Arv Z h0 ar kr .char (3 : Int32) [(.int c0), (.int c1), (.int c2)] (.int (0 : Int32))) (l_c0 : own_lat c0) (l_c1 : own_lat c1) (l_c2 : own_lat c2) (OD : Old Z n0 h0) (S2 : Sta Z Z.heap "java/lang/String" "COMPACT_STRINGS" "Z" (.int cz)) (hcz : ¬ cz = 0) :
    Ctr l Z (⟨"java/lang/String", "<init>", "([CIILjava/lang/Void;)V"⟩ : MethodName) jdk_42_method_149_code 6 none ({ frames := 2, cells := 1, slots := 3, locals := 40 } : Room) n0 #[(.ref sx), (.ref ar), (.int (0 : Int32)), (.int (3 : Int32)), .null] h0 (fun v h => ∃ (t : Addr) (kb : ClassId), v = none ∧ Keep h0 h [sx] ∧ Exa Z h sx "java/lang/String" ∧ Fld Z h sx "java/lang/String" "coder" "B" (.int (0 : Int32)) ∧ Fld Z h sx "java/lang/String" "value" "[B" (.ref t) ∧ Arv Z h t kb .byte (3 : Int32) [(.int (nar .byte (c0.toInt8.toInt32))), (.int (nar .byte (c1.toInt8.toInt32))), (.int (nar .byte (c2.toInt8.toInt32)))] (.int (0 : Int32))) := by
  refine Ctr.of (by decide +kernel) hn0 ?_
  intro p e s m below meth c T0 C hnm hret hlk X0
  rw [ef3 m sx ar (0 : Int32) (3 : Int32)]
  refine OGo.aloadN (pc' := 1) C X0 d3_0 rfl rfl rfl ?_
  refine OGo.initObj (pc' := 4) C X0 (wd15 hw) (wd16 hw) (wd17 hw) d3_1 rfl rfl (by decide) (Nat.le_of_ble_eq_true rfl) (fun T1 X1 => ?_)
  refine OGo.iloadN (pc' := 5) C X1 d3_4 rfl rfl ?_
  refine OGo.ifYes (pc' := 27) C X1 d3_5 (feq (by decide : ¬ (3 : Int32) = (0 : Int32))).2 (by decide) (by decide) ?_
  refine OGo.getstatic (pc' := 30) C X1 (host := "") (Or.inl (wd74 hw)) Via.refl (S2.ext OD.2) d3_27 rfl (fun T2 X2 => ?_)
  refine OGo.ifNo (pc' := 33) C X2 d3_30 rfl (feq hcz).1 ?_
  refine OGo.aloadN (pc' := 34) C X2 d3_33 rfl rfl rfl ?_
  refine OGo.iloadN (pc' := 35) C X2 d3_34 rfl rfl ?_
  refine OGo.iloadN (pc' := 36) C X2 d3_35 rfl rfl ?_
  refine OGo.callS (pc' := 39) (cells' := 1) (slots' := 3) (argsL := [(.ref ar), (.int (0 : Int32)), (.int (3 : Int32))]) (St := []) C X2 (wd92 hw) (wd93 hw) (by decide) (wd95 hw) (wd94 hw) (ctCom3 hw X2.2.1 ar kr c0 c1 c2 Vr l_c0 l_c1 l_c2) (lenOf pd1 rfl) rfl d3_36 rfl rfl (by decide) (Nat.le_of_ble_eq_true rfl) rfl rfl (by decide) (by decide) (fun v3 T3 h3 Q3 X3 z3 => ?_)
  obtain ⟨b3, k3, hv3, K3, V3⟩ := Q3
  subst hv3
  have K4 : Keep h0 h3 [sx] := (Keep.refl h0 [sx]).trans K3 all0
  have f5 := (Ex.keep K3)
  have nx3 : sx ≠ b3 := Exa.neArv f5 V3 (wd5 hw)
  show OGo p e below _ T3 (mkF m 39 #[.val (.ref sx), .val (.ref ar), .val (.int (0 : Int32)), .val (.int (3 : Int32)), .val .null, .unset] [(.ref b3)])
  refine OGo.astore (pc' := 41) C X3 d3_39 rfl rfl (l' := #[.val (.ref sx), .val (.ref ar), .val (.int (0 : Int32)), .val (.int (3 : Int32)), .val .null, .val (.ref b3)]) rfl ?_
  refine OGo.aloadN (pc' := 42) C X3 d3_41 rfl rfl rfl ?_
  refine OGo.aload (pc' := 44) C X3 d3_42 rfl rfl rfl ?_
  refine OGo.iloadN (pc' := 45) C X3 d3_44 rfl rfl ?_
  refine OGo.callS (pc' := 48) (cells' := 1) (slots' := 3) (argsL := [(.ref b3), (.int (3 : Int32))]) (St := [(.ref sx)]) C X3 (wd99 hw) (wd100 hw) (by decide) (wd101 hw) (wd94 hw) (ctCod3 hw X3.2.1 b3 k3 _ V3) (lenOf pd2 rfl) rfl d3_45 rfl rfl (by decide) (Nat.le_of_ble_eq_true rfl) rfl rfl (by decide) (by decide) (fun v6 T6 h6 Q6 X6 z6 => ?_)
  obtain ⟨hv6, hh6⟩ := Q6
  subst hv6; rw [hh6] at X6
  show OGo p e below _ T6 (mkF m 48 #[.val (.ref sx), .val (.ref ar), .val (.int (0 : Int32)), .val (.int (3 : Int32)), .val .null, .val (.ref b3)] [(.int (0 : Int32)), (.ref sx)])
  have f7 := (Fc.keep K3 nin0)
  refine OGo.putfieldN (pc' := 51) C X6 (wd25 hw) Via.refl f7 f5 gx (Or.inr ⟨(wd21 hw), rfl, hnm⟩) (wd5 hw) (ty := .byte) (by decide) (v' := .int (0 : Int32)) rfl (by decide) d3_48 rfl (fun T8 h8 X8 W8 F8 => ?_)
  have K9 : Keep h0 h8 [sx] := K4.wr W8 (Or.inl (List.mem_of_getElem? (i := 0) rfl))
  refine OGo.aloadN (pc' := 52) C X8 d3_51 rfl rfl rfl ?_
  refine OGo.aload (pc' := 54) C X8 d3_52 rfl rfl rfl ?_
  have f10 := ((Fv.keep K3 nin0).other W8 (Or.inr (slot_ne (Or.inr (wd20 hw)) (Or.inr (wd21 hw)) (by decide) (t := (.array .byte)) (t' := .byte) (by decide) (by decide))))
  have f11 := (f5.wr W8)
  refine OGo.putfield (pc' := 57) C X8 (host := "") (Or.inl (wd24 hw)) Via.refl f10 f11 gx (Or.inr ⟨(wd20 hw), rfl, hnm⟩) (wd5 hw) (ty := (.array .byte)) (by decide) rfl rfl d3_54 rfl (fun T12 h12 X12 W12 F12 => ?_)
  have K13 : Keep h0 h12 [sx] := K9.wr W12 (Or.inl (List.mem_of_getElem? (i := 0) rfl))
  have f14 := (f11.wr W12)
  have f15 := (F8.other W12 (Or.inr (slot_ne (Or.inr (wd21 hw)) (Or.inr (wd20 hw)) (by decide) (t := .byte) (t' := (.array .byte)) (by decide) (by decide))))
  have f16 := ((V3.other W8 (Ne.symm nx3)).other W12 (Ne.symm nx3))
  exact OGo.ret C X12 d3_57 hret hlk (⟨b3, k3, rfl, K13, f14, f15, F12, f16⟩) (by decide) (by decide)
set_option maxRecDepth 65536 in
set_option maxHeartbeats 40000000 in
theorem ctNew3 {l : Launch} {Z : State} {a0 : Array Value} (hw : HW a0 Z) {n0 : Nat} {h0 : Heap} (hn0 : n0 ≤ h0.size) (sx ar : Addr) (kr : ClassId) (c0 c1 c2 : Int32) (cz : Int32) (Ex : Exa Z h0 sx "java/lang/String") (Fv : Fld Z h0 sx "java/lang/String" "value" "[B" .null) (Fc : Fld Z h0 sx "java/lang/String" "coder" "B" (.int (0 : Int32))) (gx : n0 ≤ sx) (Vr : Arv Z h0 ar kr .char (3 : Int32) [(.int c0), (.int c1), (.int c2)] (.int (0 : Int32))) (l_c0 : own_lat c0) (l_c1 : own_lat c1) (l_c2 : own_lat c2) (OD : Old Z n0 h0) (S2 : Sta Z Z.heap "java/lang/String" "COMPACT_STRINGS" "Z" (.int cz)) (hcz : ¬ cz = 0) :
    Ctr l Z (⟨"java/lang/String", "<init>", "([C)V"⟩ : MethodName) jdk_42_method_3_code 2 none ({ frames := 3, cells := 1, slots := 3, locals := 60 } : Room) n0 #[(.ref sx), (.ref ar)] h0 (fun v h => ∃ (t : Addr) (kb : ClassId), v = none ∧ Keep h0 h [sx] ∧ Exa Z h sx "java/lang/String" ∧ Fld Z h sx "java/lang/String" "coder" "B" (.int (0 : Int32)) ∧ Fld Z h sx "java/lang/String" "value" "[B" (.ref t) ∧ Arv Z h t kb .byte (3 : Int32) [(.int (nar .byte (c0.toInt8.toInt32))), (.int (nar .byte (c1.toInt8.toInt32))), (.int (nar .byte (c2.toInt8.toInt32)))] (.int (0 : Int32))) := by
  refine Ctr.of (by decide +kernel) hn0 ?_
  intro p e s m below meth c T0 C hnm hret hlk X0
  rw [ef2 m sx ar]
  refine OGo.aloadN (pc' := 1) C X0 d2_0 rfl rfl rfl ?_
  refine OGo.aloadN (pc' := 2) C X0 d2_1 rfl rfl rfl ?_
  refine OGo.iconst (pc' := 3) (z := (0 : Int32)) C X0 d2_2 rfl (by decide) ?_
  refine OGo.aloadN (pc' := 4) C X0 d2_3 rfl rfl rfl ?_
  refine OGo.arraylength (pc' := 5) C X0 Vr d2_4 rfl ?_
  refine OGo.aconst_null (pc' := 6) C X0 d2_5 rfl ?_
  refine OGo.callInit (pc' := 9) (cells' := 1) (slots' := 3) (argsL := [(.ref ar), (.int (0 : Int32)), (.int (3 : Int32)), .null]) (St := []) C X0 rfl rfl (wd11 hw) (wd12 hw) (by decide) (wd14 hw) (wd6 hw) (ctI4_3 hw X0.2.1 sx ar kr c0 c1 c2 cz Ex Fv Fc gx Vr l_c0 l_c1 l_c2 OD S2 hcz) (lenOf pd3 rfl) rfl d2_6 rfl rfl (by decide) (Nat.le_of_ble_eq_true rfl) rfl rfl (by decide) (by decide) (fun v1 T1 h1 Q1 X1 z1 => ?_)
  obtain ⟨t1, k1, hv1, K1, E1, F1c, F1v, V1⟩ := Q1
  subst hv1
  have K2 : Keep h0 h1 [sx] := (Keep.refl h0 [sx]).trans K1 (allS (Or.inl (List.mem_of_getElem? (i := 0) rfl)) all0)
  show OGo p e below _ T1 (mkF m 9 #[.val (.ref sx), .val (.ref ar)] [])
  exact OGo.ret C X1 d2_9 hret hlk (⟨t1, k1, rfl, K2, E1, F1c, F1v, V1⟩) (by decide) (by decide)
set_option maxRecDepth 65536 in
set_option maxHeartbeats 40000000 in
theorem ctI4_0 {l : Launch} {Z : State} {a0 : Array Value} (hw : HW a0 Z) {n0 : Nat} {h0 : Heap} (hn0 : n0 ≤ h0.size) (sx ar : Addr) (kr : ClassId) (Ex : Exa Z h0 sx "java/lang/String") (Fv : Fld Z h0 sx "java/lang/String" "value" "[B" .null) (Fc : Fld Z h0 sx "java/lang/String" "coder" "B" (.int (0 : Int32))) (gx : n0 ≤ sx) (Vr : Arv Z h0 ar kr .char (0 : Int32) [] (.int (0 : Int32))) :
    CtrW l Z consts_1 [sx] (⟨"java/lang/String", "<init>", "([CIILjava/lang/Void;)V"⟩ : MethodName) jdk_42_method_149_code 6 none ({ frames := 1, cells := 4, slots := 8, locals := 12 } : Room) n0 #[(.ref sx), (.ref ar), (.int (0 : Int32)), (.int (0 : Int32)), .null] h0 (fun v h => ∃ (t : Addr) (kb : ClassId), v = none ∧ Keep h0 h [sx] ∧ Exa Z h sx "java/lang/String" ∧ Fld Z h sx "java/lang/String" "coder" "B" (.int (0 : Int32)) ∧ Fld Z h sx "java/lang/String" "value" "[B" (.ref t) ∧ Arv Z h t kb .byte (0 : Int32) [] (.int (0 : Int32))) := by
  refine CtrW.of (by decide +kernel) hn0 ?_
  intro p e s m below meth c T0 C hnm hret hlk X0 H0 hSf
  rw [ef3 m sx ar (0 : Int32) (0 : Int32)]
  refine OGo.aloadN (pc' := 1) C X0 d3_0 rfl rfl rfl ?_
  refine OGo.initObj (pc' := 4) C X0 (wd15 hw) (wd16 hw) (wd17 hw) d3_1 rfl rfl (by decide) (Nat.le_of_ble_eq_true rfl) (fun T1 X1 => ?_)
  refine OGo.iloadN (pc' := 5) C X1 d3_4 rfl rfl ?_
  refine OGo.ifNo (pc' := 8) C X1 d3_5 rfl (teq (by decide : (0 : Int32) = (0 : Int32))).2 ?_
  refine OGo.aloadN (pc' := 9) C X1 d3_8 rfl rfl rfl ?_
  refine OGo.ldcC (pc' := 11) (n := 0) (cells' := 2) (slots' := 4) (z := (0 : Int32)) (vs := []) C X1 (ew hw) H0 (wd18 hw) (wS hw) (List.mem_of_getElem? (i := 1) rfl) ⟨by decide +kernel, by first | rfl | decide +kernel⟩ (by decide) rfl d3_9 rfl (by decide +kernel) (by decide) rfl rfl (by decide) (by decide) (fun vm2 T2 h2 a2 b2 k2 C2 X2 Hd2 E2 R2 A2 F2a F2b V2 sf2 => ?_)
  have K3 : Keep h0 h2 [sx] := (Keep.refl h0 [sx]).ext E2
  have sn4 := sf2 sx (CHr.safe R2 Ex.lt (hSf _ (List.mem_of_getElem? (i := 0) rfl)))
  have f5 := (Vr.ext E2)
  have sn6 := sf2 ar (safe_arv (EL := consts_1) C2.2.1.alike f5 (by decide))
  refine OGo.getfield (pc' := 14) C2 X2 (host := "") (Or.inl (wd24 hw)) Via.refl F2b d3_11 rfl (fun T7 X7 => ?_)
  have f8 := (Fv.ext E2)
  have f9 := (Ex.ext E2)
  refine OGo.putfield (pc' := 17) C2 X7 (host := "") (Or.inl (wd24 hw)) Via.refl f8 f9 gx (Or.inr ⟨(wd20 hw), rfl, hnm⟩) (wd5 hw) (ty := (.array .byte)) (by decide) rfl rfl d3_14 rfl (fun T10 h10 X10 W10 F10 => ?_)
  have Hd11 := Hd2.wr W10 (CHr.safe R2 Ex.lt (hSf _ (List.mem_of_getElem? (i := 0) rfl)))
  have K12 : Keep h0 h10 [sx] := K3.wr W10 (Or.inl (List.mem_of_getElem? (i := 0) rfl))
  refine OGo.aloadN (pc' := 18) C2 X10 d3_17 rfl rfl rfl ?_
  refine OGo.ldcC (pc' := 20) (n := 0) (cells' := 4) (slots' := 8) (z := (0 : Int32)) (vs := []) C2 X10 (ew hw) Hd11 (wd18 hw) (wS hw) (List.mem_of_getElem? (i := 1) rfl) ⟨by decide +kernel, by first | rfl | decide +kernel⟩ (by decide) rfl d3_18 rfl (by decide +kernel) (by decide) rfl rfl (by decide) (by decide) (fun vm13 T13 h13 a13 b13 k13 C13 X13 Hd13 E13 R13 A13 F13a F13b V13 sf13 => ?_)
  have f14 := (f9.wr W10)
  have f15 := (Safe.wr W10 (CHr.safe R2 Ex.lt (hSf _ (List.mem_of_getElem? (i := 0) rfl))) Hd2.cv (CHr.safe R2 Ex.lt (hSf _ (List.mem_of_getElem? (i := 0) rfl))))
  have K16 : Keep h0 h13 [sx] := K12.ext E13
  have sn17 := sf13 sx (CHr.safe R13 f14.lt f15)
  refine OGo.getfield (pc' := 23) C13 X13 (host := "") (Or.inl (wd25 hw)) Via.refl F13a d3_20 rfl (fun T18 X18 => ?_)
  have f19 := (((Fc.ext E2).other W10 (Or.inr (slot_ne (Or.inr (wd21 hw)) (Or.inr (wd20 hw)) (by decide) (t := .byte) (t' := (.array .byte)) (by decide) (by decide)))).ext E13)
  have f20 := (f14.ext E13)
  refine OGo.putfieldN (pc' := 26) C13 X18 (wd25 hw) Via.refl f19 f20 gx (Or.inr ⟨(wd21 hw), rfl, hnm⟩) (wd5 hw) (ty := .byte) (by decide) (v' := .int (0 : Int32)) rfl (by decide) d3_23 rfl (fun T21 h21 X21 W21 F21 => ?_)
  have Hd22 := Hd13.wr W21 (CHr.safe R13 f14.lt f15)
  have K23 : Keep h0 h21 [sx] := K16.wr W21 (Or.inl (List.mem_of_getElem? (i := 0) rfl))
  have f24 := (f20.wr W21)
  have f25 := ((F10.ext E13).other W21 (Or.inr (slot_ne (Or.inr (wd20 hw)) (Or.inr (wd21 hw)) (by decide) (t := (.array .byte)) (t' := .byte) (by decide) (by decide))))
  have f26 := (((V2.other W10 (Ne.symm sn4.2)).ext E13).other W21 (Ne.symm sn4.2))
  exact OGo.retW C13 X21 (ew hw) Hd22 d3_26 hret hlk (⟨b2, k2, rfl, K23, f24, F21, f25, f26⟩) (by decide) (by decide)
set_option maxRecDepth 65536 in
set_option maxHeartbeats 40000000 in
theorem ctNew0 {l : Launch} {Z : State} {a0 : Array Value} (hw : HW a0 Z) {n0 : Nat} {h0 : Heap} (hn0 : n0 ≤ h0.size) (sx ar : Addr) (kr : ClassId) (Ex : Exa Z h0 sx "java/lang/String") (Fv : Fld Z h0 sx "java/lang/String" "value" "[B" .null) (Fc : Fld Z h0 sx "java/lang/String" "coder" "B" (.int (0 : Int32))) (gx : n0 ≤ sx) (Vr : Arv Z h0 ar kr .char (0 : Int32) [] (.int (0 : Int32))) :
    CtrW l Z consts_1 [sx] (⟨"java/lang/String", "<init>", "([C)V"⟩ : MethodName) jdk_42_method_3_code 2 none ({ frames := 2, cells := 4, slots := 8, locals := 32 } : Room) n0 #[(.ref sx), (.ref ar)] h0 (fun v h => ∃ (t : Addr) (kb : ClassId), v = none ∧ Keep h0 h [sx] ∧ Exa Z h sx "java/lang/String" ∧ Fld Z h sx "java/lang/String" "coder" "B" (.int (0 : Int32)) ∧ Fld Z h sx "java/lang/String" "value" "[B" (.ref t) ∧ Arv Z h t kb .byte (0 : Int32) [] (.int (0 : Int32))) := by
  refine CtrW.of (by decide +kernel) hn0 ?_
  intro p e s m below meth c T0 C hnm hret hlk X0 H0 hSf
  rw [ef2 m sx ar]
  refine OGo.aloadN (pc' := 1) C X0 d2_0 rfl rfl rfl ?_
  refine OGo.aloadN (pc' := 2) C X0 d2_1 rfl rfl rfl ?_
  refine OGo.iconst (pc' := 3) (z := (0 : Int32)) C X0 d2_2 rfl (by decide) ?_
  refine OGo.aloadN (pc' := 4) C X0 d2_3 rfl rfl rfl ?_
  refine OGo.arraylength (pc' := 5) C X0 Vr d2_4 rfl ?_
  refine OGo.aconst_null (pc' := 6) C X0 d2_5 rfl ?_
  refine OGo.callWInit (pc' := 9) (cells' := 4) (slots' := 8) (argsL := [(.ref ar), (.int (0 : Int32)), (.int (0 : Int32)), .null]) (St := []) C X0 (ew hw) H0 rfl rfl (wd11 hw) (wd12 hw) (by decide) (wd14 hw) (wd6 hw) (ctI4_0 hw X0.2.1 sx ar kr Ex Fv Fc gx Vr) (sfS ⟨Ex.lt, (hSf _ (List.mem_of_getElem? (i := 0) rfl))⟩ (fun _ hx => by cases hx)) (lenOf pd3 rfl) rfl d2_6 rfl rfl (by decide) (Nat.le_of_ble_eq_true rfl) rfl rfl (by decide) (by decide) (fun v1 vm1 T1 h1 Q1 C1 X1 Hd1 R1 => ?_)
  obtain ⟨t1, k1, hv1, K1, E1, F1c, F1v, V1⟩ := Q1
  subst hv1
  have K2 : Keep h0 h1 [sx] := (Keep.refl h0 [sx]).trans K1 (allS (Or.inl (List.mem_of_getElem? (i := 0) rfl)) all0)
  show OGo p e below _ T1 (mkF m 9 #[.val (.ref sx), .val (.ref ar)] [])
  exact OGo.retW C1 X1 (ew hw) Hd1 d2_9 hret hlk (⟨t1, k1, rfl, K2, E1, F1c, F1v, V1⟩) (by decide) (by decide)
theorem ef12 (m : MethodId) (x0 : Addr) : entryFrame m #[(.ref x0)] 1 = mkF m 0 #[.val (.ref x0)] [] := by first | (simp [entryFrame, mkF, argsToLocals, Value.category]; done) | rfl
set_option maxRecDepth 65536 in
set_option maxHeartbeats 40000000 in
theorem ctCoder {l : Launch} {Z : State} {a0 : Array Value} (hw : HW a0 Z) {n0 : Nat} {h0 : Heap} (hn0 : n0 ≤ h0.size) (sx : Addr) (cz : Int32) (Fc : Fld Z h0 sx "java/lang/String" "coder" "B" (.int (0 : Int32))) (OD : Old Z n0 h0) (S2 : Sta Z Z.heap "java/lang/String" "COMPACT_STRINGS" "Z" (.int cz)) (hcz : ¬ cz = 0) :
    Ctr l Z (⟨"java/lang/String", "coder", "()B"⟩ : MethodName) jdk_42_method_152_code 1 (some .byte) ({ frames := 0, cells := 0, slots := 0, locals := 0 } : Room) n0 #[(.ref sx)] h0 (fun v h => v = some (.int (0 : Int32)) ∧ h = h0) := by
  refine Ctr.of (by decide +kernel) hn0 ?_
  intro p e s m below meth c T0 C hnm hret hlk X0
  rw [ef12 m sx]
  refine OGo.getstatic (pc' := 3) C X0 (host := "") (Or.inl (wd74 hw)) Via.refl (S2.ext OD.2) d12_0 rfl (fun T1 X1 => ?_)
  refine OGo.ifNo (pc' := 6) C X1 d12_3 rfl (feq hcz).1 ?_
  refine OGo.aloadN (pc' := 7) C X1 d12_6 rfl rfl rfl ?_
  refine OGo.getfield (pc' := 10) C X1 (host := "") (Or.inl (wd25 hw)) Via.refl Fc d12_7 rfl (fun T2 X2 => ?_)
  refine OGo.goto (pc' := 14) C X2 d12_10 (by decide) (by decide) ?_
  exact OGo.retN C X2 d12_14 hret (by simp) (z' := (0 : Int32)) (by decide) hlk (⟨rfl, rfl⟩) (by decide) (by decide)
theorem ef11 (m : MethodId) (x0 : Addr) : entryFrame m #[(.ref x0)] 1 = mkF m 0 #[.val (.ref x0)] [] := by first | (simp [entryFrame, mkF, argsToLocals, Value.category]; done) | rfl
set_option maxRecDepth 65536 in
set_option maxHeartbeats 40000000 in
theorem ctLen1 {l : Launch} {Z : State} {a0 : Array Value} (hw : HW a0 Z) {n0 : Nat} {h0 : Heap} (hn0 : n0 ≤ h0.size) (sx t : Addr) (kb : ClassId) (vs : List Value) (cz : Int32) (Ex : Exa Z h0 sx "java/lang/String") (Fv : Fld Z h0 sx "java/lang/String" "value" "[B" (.ref t)) (Fc : Fld Z h0 sx "java/lang/String" "coder" "B" (.int (0 : Int32))) (Vr : Arv Z h0 t kb .byte (1 : Int32) vs (.int (0 : Int32))) (OD : Old Z n0 h0) (S2 : Sta Z Z.heap "java/lang/String" "COMPACT_STRINGS" "Z" (.int cz)) (hcz : ¬ cz = 0) :
    Ctr l Z (⟨"java/lang/String", "length", "()I"⟩ : MethodName) jdk_42_method_54_code 1 (some .int) ({ frames := 1, cells := 0, slots := 0, locals := 20 } : Room) n0 #[(.ref sx)] h0 (fun v h => v = some (.int (1 : Int32)) ∧ h = h0) := by
  refine Ctr.of (by decide +kernel) hn0 ?_
  intro p e s m below meth c T0 C hnm hret hlk X0
  rw [ef11 m sx]
  refine OGo.aloadN (pc' := 1) C X0 d11_0 rfl rfl rfl ?_
  refine OGo.getfield (pc' := 4) C X0 (host := "") (Or.inl (wd24 hw)) Via.refl Fv d11_1 rfl (fun T1 X1 => ?_)
  refine OGo.arraylength (pc' := 5) C X1 Vr d11_4 rfl ?_
  refine OGo.aloadN (pc' := 6) C X1 d11_5 rfl rfl rfl ?_
  refine OGo.callV (pc' := 9) (cells' := 0) (slots' := 0) (argsL := []) (St := [(.int (1 : Int32))]) C X1 (wd69 hw) (wd70 hw) (wd72 hw) (wd71 hw) (by decide) Ex (wd73 hw) (wd6 hw) (ctCoder hw X1.2.1 sx cz Fc OD S2 hcz) (lenOf pd4 rfl) rfl d11_6 rfl rfl (by decide) (Nat.le_of_ble_eq_true rfl) rfl rfl (by decide) (by decide) (fun v2 T2 h2 Q2 X2 z2 => ?_)
  obtain ⟨hv2, hh2⟩ := Q2
  subst hv2; rw [hh2] at X2
  show OGo p e below _ T2 (mkF m 9 #[.val (.ref sx)] [(.int (0 : Int32)), (.int (1 : Int32))])
  refine OGo.ishr (pc' := 10) (z := (1 : Int32)) C X2 d11_9 rfl (by decide) ?_
  exact OGo.retInt C X2 d11_10 hret hlk (⟨rfl, rfl⟩) (by decide) (by decide)
set_option maxRecDepth 65536 in
set_option maxHeartbeats 40000000 in
theorem ctLen2 {l : Launch} {Z : State} {a0 : Array Value} (hw : HW a0 Z) {n0 : Nat} {h0 : Heap} (hn0 : n0 ≤ h0.size) (sx t : Addr) (kb : ClassId) (vs : List Value) (cz : Int32) (Ex : Exa Z h0 sx "java/lang/String") (Fv : Fld Z h0 sx "java/lang/String" "value" "[B" (.ref t)) (Fc : Fld Z h0 sx "java/lang/String" "coder" "B" (.int (0 : Int32))) (Vr : Arv Z h0 t kb .byte (2 : Int32) vs (.int (0 : Int32))) (OD : Old Z n0 h0) (S2 : Sta Z Z.heap "java/lang/String" "COMPACT_STRINGS" "Z" (.int cz)) (hcz : ¬ cz = 0) :
    Ctr l Z (⟨"java/lang/String", "length", "()I"⟩ : MethodName) jdk_42_method_54_code 1 (some .int) ({ frames := 1, cells := 0, slots := 0, locals := 20 } : Room) n0 #[(.ref sx)] h0 (fun v h => v = some (.int (2 : Int32)) ∧ h = h0) := by
  refine Ctr.of (by decide +kernel) hn0 ?_
  intro p e s m below meth c T0 C hnm hret hlk X0
  rw [ef11 m sx]
  refine OGo.aloadN (pc' := 1) C X0 d11_0 rfl rfl rfl ?_
  refine OGo.getfield (pc' := 4) C X0 (host := "") (Or.inl (wd24 hw)) Via.refl Fv d11_1 rfl (fun T1 X1 => ?_)
  refine OGo.arraylength (pc' := 5) C X1 Vr d11_4 rfl ?_
  refine OGo.aloadN (pc' := 6) C X1 d11_5 rfl rfl rfl ?_
  refine OGo.callV (pc' := 9) (cells' := 0) (slots' := 0) (argsL := []) (St := [(.int (2 : Int32))]) C X1 (wd69 hw) (wd70 hw) (wd72 hw) (wd71 hw) (by decide) Ex (wd73 hw) (wd6 hw) (ctCoder hw X1.2.1 sx cz Fc OD S2 hcz) (lenOf pd4 rfl) rfl d11_6 rfl rfl (by decide) (Nat.le_of_ble_eq_true rfl) rfl rfl (by decide) (by decide) (fun v2 T2 h2 Q2 X2 z2 => ?_)
  obtain ⟨hv2, hh2⟩ := Q2
  subst hv2; rw [hh2] at X2
  show OGo p e below _ T2 (mkF m 9 #[.val (.ref sx)] [(.int (0 : Int32)), (.int (2 : Int32))])
  refine OGo.ishr (pc' := 10) (z := (2 : Int32)) C X2 d11_9 rfl (by decide) ?_
  exact OGo.retInt C X2 d11_10 hret hlk (⟨rfl, rfl⟩) (by decide) (by decide)
set_option maxRecDepth 65536 in
set_option maxHeartbeats 40000000 in
theorem ctLen3 {l : Launch} {Z : State} {a0 : Array Value} (hw : HW a0 Z) {n0 : Nat} {h0 : Heap} (hn0 : n0 ≤ h0.size) (sx t : Addr) (kb : ClassId) (vs : List Value) (cz : Int32) (Ex : Exa Z h0 sx "java/lang/String") (Fv : Fld Z h0 sx "java/lang/String" "value" "[B" (.ref t)) (Fc : Fld Z h0 sx "java/lang/String" "coder" "B" (.int (0 : Int32))) (Vr : Arv Z h0 t kb .byte (3 : Int32) vs (.int (0 : Int32))) (OD : Old Z n0 h0) (S2 : Sta Z Z.heap "java/lang/String" "COMPACT_STRINGS" "Z" (.int cz)) (hcz : ¬ cz = 0) :
    Ctr l Z (⟨"java/lang/String", "length", "()I"⟩ : MethodName) jdk_42_method_54_code 1 (some .int) ({ frames := 1, cells := 0, slots := 0, locals := 20 } : Room) n0 #[(.ref sx)] h0 (fun v h => v = some (.int (3 : Int32)) ∧ h = h0) := by
  refine Ctr.of (by decide +kernel) hn0 ?_
  intro p e s m below meth c T0 C hnm hret hlk X0
  rw [ef11 m sx]
  refine OGo.aloadN (pc' := 1) C X0 d11_0 rfl rfl rfl ?_
  refine OGo.getfield (pc' := 4) C X0 (host := "") (Or.inl (wd24 hw)) Via.refl Fv d11_1 rfl (fun T1 X1 => ?_)
  refine OGo.arraylength (pc' := 5) C X1 Vr d11_4 rfl ?_
  refine OGo.aloadN (pc' := 6) C X1 d11_5 rfl rfl rfl ?_
  refine OGo.callV (pc' := 9) (cells' := 0) (slots' := 0) (argsL := []) (St := [(.int (3 : Int32))]) C X1 (wd69 hw) (wd70 hw) (wd72 hw) (wd71 hw) (by decide) Ex (wd73 hw) (wd6 hw) (ctCoder hw X1.2.1 sx cz Fc OD S2 hcz) (lenOf pd4 rfl) rfl d11_6 rfl rfl (by decide) (Nat.le_of_ble_eq_true rfl) rfl rfl (by decide) (by decide) (fun v2 T2 h2 Q2 X2 z2 => ?_)
  obtain ⟨hv2, hh2⟩ := Q2
  subst hv2; rw [hh2] at X2
  show OGo p e below _ T2 (mkF m 9 #[.val (.ref sx)] [(.int (0 : Int32)), (.int (3 : Int32))])
  refine OGo.ishr (pc' := 10) (z := (3 : Int32)) C X2 d11_9 rfl (by decide) ?_
  exact OGo.retInt C X2 d11_10 hret hlk (⟨rfl, rfl⟩) (by decide) (by decide)
set_option maxRecDepth 65536 in
set_option maxHeartbeats 40000000 in
theorem ctLen0 {l : Launch} {Z : State} {a0 : Array Value} (hw : HW a0 Z) {n0 : Nat} {h0 : Heap} (hn0 : n0 ≤ h0.size) (sx t : Addr) (kb : ClassId) (vs : List Value) (cz : Int32) (Ex : Exa Z h0 sx "java/lang/String") (Fv : Fld Z h0 sx "java/lang/String" "value" "[B" (.ref t)) (Fc : Fld Z h0 sx "java/lang/String" "coder" "B" (.int (0 : Int32))) (Vr : Arv Z h0 t kb .byte (0 : Int32) vs (.int (0 : Int32))) (OD : Old Z n0 h0) (S2 : Sta Z Z.heap "java/lang/String" "COMPACT_STRINGS" "Z" (.int cz)) (hcz : ¬ cz = 0) :
    Ctr l Z (⟨"java/lang/String", "length", "()I"⟩ : MethodName) jdk_42_method_54_code 1 (some .int) ({ frames := 1, cells := 0, slots := 0, locals := 20 } : Room) n0 #[(.ref sx)] h0 (fun v h => v = some (.int (0 : Int32)) ∧ h = h0) := by
  refine Ctr.of (by decide +kernel) hn0 ?_
  intro p e s m below meth c T0 C hnm hret hlk X0
  rw [ef11 m sx]
  refine OGo.aloadN (pc' := 1) C X0 d11_0 rfl rfl rfl ?_
  refine OGo.getfield (pc' := 4) C X0 (host := "") (Or.inl (wd24 hw)) Via.refl Fv d11_1 rfl (fun T1 X1 => ?_)
  refine OGo.arraylength (pc' := 5) C X1 Vr d11_4 rfl ?_
  refine OGo.aloadN (pc' := 6) C X1 d11_5 rfl rfl rfl ?_
  refine OGo.callV (pc' := 9) (cells' := 0) (slots' := 0) (argsL := []) (St := [(.int (0 : Int32))]) C X1 (wd69 hw) (wd70 hw) (wd72 hw) (wd71 hw) (by decide) Ex (wd73 hw) (wd6 hw) (ctCoder hw X1.2.1 sx cz Fc OD S2 hcz) (lenOf pd4 rfl) rfl d11_6 rfl rfl (by decide) (Nat.le_of_ble_eq_true rfl) rfl rfl (by decide) (by decide) (fun v2 T2 h2 Q2 X2 z2 => ?_)
  obtain ⟨hv2, hh2⟩ := Q2
  subst hv2; rw [hh2] at X2
  show OGo p e below _ T2 (mkF m 9 #[.val (.ref sx)] [(.int (0 : Int32)), (.int (0 : Int32))])
  refine OGo.ishr (pc' := 10) (z := (0 : Int32)) C X2 d11_9 rfl (by decide) ?_
  exact OGo.retInt C X2 d11_10 hret hlk (⟨rfl, rfl⟩) (by decide) (by decide)
theorem ef1 (m : MethodId) (x0 : Int32) (x1 : Int32) (x2 : Int32) (x3 : Int32) : entryFrame m #[(.int x0), (.int x1), (.int x2), (.int x3)] 8 = mkF m 0 #[.val (.int x0), .val (.int x1), .val (.int x2), .val (.int x3), .unset, .unset, .unset, .unset] [] := by first | (simp [entryFrame, mkF, argsToLocals, Value.category]; done) | rfl
set_option maxRecDepth 65536 in
set_option maxHeartbeats 40000000 in
theorem ctStr0 {l : Launch} {Z : State} {a0 : Array Value} (hw : HW a0 Z) {n0 : Nat} {h0 : Heap} (hn0 : n0 ≤ h0.size) (i1 i2 i3 : Int32) (cz : Int32) (OD : Old Z n0 h0) (S2 : Sta Z Z.heap "java/lang/String" "COMPACT_STRINGS" "Z" (.int cz)) (hcz : ¬ cz = 0) :
    CtrW l Z consts_1 [] (⟨"com/example/chainmail/chainmail/NavigationContextOfPinLaw", "str", "(IIII)Ljava/lang/String;"⟩ : MethodName) method_2_code 8 (some (.object "java/lang/String")) ({ frames := 4, cells := 6, slots := 32, locals := 100 } : Room) n0 #[(.int (0 : Int32)), (.int i1), (.int i2), (.int i3)] h0 (fun v h => ∃ (b t : Addr) (kb : ClassId) (vs : List Value), v = some (.ref b) ∧ Keep h0 h [] ∧ Exa Z h b "java/lang/String" ∧ Fld Z h b "java/lang/String" "coder" "B" (.int (0 : Int32)) ∧ Fld Z h b "java/lang/String" "value" "[B" (.ref t) ∧ Arv Z h t kb .byte (0 : Int32) vs (.int (0 : Int32))) := by
  refine CtrW.of (plainFor_of_name pn0) hn0 ?_
  intro p e s m below meth c T0 C hnm hret hlk X0 H0 hSf
  rw [ef1 m (0 : Int32) i1 i2 i3]
  refine OGo.iloadN (pc' := 1) C X0 d1_0 rfl rfl ?_
  refine OGo.sipush (pc' := 4) (z := (255 : Int32)) C X0 d1_1 rfl (by decide) ?_
  refine OGo.iand (pc' := 5) (z := (i1 &&& (255 : Int32))) C X0 d1_4 rfl rfl ?_
  obtain ⟨ca, h_ca⟩ : ∃ z : Int32, (i1 &&& (255 : Int32)).toUInt32.toUInt16.toUInt32.toInt32 = z := ⟨_, rfl⟩
  refine OGo.i2c (pc' := 6) (z := ca) C X0 d1_5 rfl h_ca ?_
  have l_ca := own_lat_mask h_ca
  refine OGo.istore (pc' := 8) C X0 d1_6 rfl (l' := #[.val (.int (0 : Int32)), .val (.int i1), .val (.int i2), .val (.int i3), .val (.int ca), .unset, .unset, .unset]) rfl ?_
  refine OGo.iloadN (pc' := 9) C X0 d1_8 rfl rfl ?_
  refine OGo.sipush (pc' := 12) (z := (255 : Int32)) C X0 d1_9 rfl (by decide) ?_
  refine OGo.iand (pc' := 13) (z := (i2 &&& (255 : Int32))) C X0 d1_12 rfl rfl ?_
  obtain ⟨cb, h_cb⟩ : ∃ z : Int32, (i2 &&& (255 : Int32)).toUInt32.toUInt16.toUInt32.toInt32 = z := ⟨_, rfl⟩
  refine OGo.i2c (pc' := 14) (z := cb) C X0 d1_13 rfl h_cb ?_
  have l_cb := own_lat_mask h_cb
  refine OGo.istore (pc' := 16) C X0 d1_14 rfl (l' := #[.val (.int (0 : Int32)), .val (.int i1), .val (.int i2), .val (.int i3), .val (.int ca), .val (.int cb), .unset, .unset]) rfl ?_
  refine OGo.iloadN (pc' := 17) C X0 d1_16 rfl rfl ?_
  refine OGo.sipush (pc' := 20) (z := (255 : Int32)) C X0 d1_17 rfl (by decide) ?_
  refine OGo.iand (pc' := 21) (z := (i3 &&& (255 : Int32))) C X0 d1_20 rfl rfl ?_
  obtain ⟨cc, h_cc⟩ : ∃ z : Int32, (i3 &&& (255 : Int32)).toUInt32.toUInt16.toUInt32.toInt32 = z := ⟨_, rfl⟩
  refine OGo.i2c (pc' := 22) (z := cc) C X0 d1_21 rfl h_cc ?_
  have l_cc := own_lat_mask h_cc
  refine OGo.istore (pc' := 24) C X0 d1_22 rfl (l' := #[.val (.int (0 : Int32)), .val (.int i1), .val (.int i2), .val (.int i3), .val (.int ca), .val (.int cb), .val (.int cc), .unset]) rfl ?_
  refine OGo.iloadN (pc' := 25) C X0 d1_24 rfl rfl ?_
  refine OGo.ifNo (pc' := 28) C X0 d1_25 rfl (teq (by decide : (0 : Int32) = (0 : Int32))).2 ?_
  refine OGo.new (pc' := 31) (cells' := 1) (slots' := 4) C X0 (wd4 hw) (wd5 hw) (wd6 hw) d1_28 rfl rfl rfl (by decide) (by decide) (fun T1 h1 a1 X1 g1 q1 E1 A1 D1 U1 => ?_)
  have sz2 : h0.size ≤ a1 := Nat.le_trans (Keep.refl h0 []).1 (Nat.le_of_eq g1.symm)
  have Hd3 := H0.ext E1
  have K4 : Keep h0 h1 [] := (Keep.refl h0 []).ext E1
  have F1_value : Fld Z h1 a1 "java/lang/String" "value" "[B" .null := D1 (Or.inr (wd20 hw)) (ty := (.array .byte)) (by decide)
  have F1_coder : Fld Z h1 a1 "java/lang/String" "coder" "B" (.int (0 : Int32)) := D1 (Or.inr (wd21 hw)) (ty := .byte) (by decide)
  refine OGo.dup (pc' := 32) C X1 d1_31 rfl rfl ?_
  refine OGo.iconst (pc' := 33) (z := (0 : Int32)) C X1 d1_32 rfl (by decide) ?_
  refine OGo.newarray (pc' := 35) (cap := 0) (d0 := (.int (0 : Int32))) (cells' := 2) (slots' := 4) C X1 (wd7 hw) rfl d1_33 rfl (by decide) (by decide) (by decide) rfl rfl rfl (by decide) (by decide) (fun T5 h5 a5 k5 X5 g5 q5 E5 V5 => ?_)
  have ne6 : a1 ≠ a5 := Nat.ne_of_lt (Nat.lt_of_lt_of_eq A1.lt g5.symm)
  have sz7 : h0.size ≤ a5 := Nat.le_trans K4.1 (Nat.le_of_eq g5.symm)
  have Hd8 := Hd3.ext E5
  have K9 : Keep h0 h5 [] := K4.ext E5
  have f10 := (A1.ext E5)
  have f11 := (F1_value.ext E5)
  have f12 := (F1_coder.ext E5)
  have f14 := (Safe.ext E5 Hd3.cv (Safe.ext E1 H0.cv (Safe.new (Nat.le_of_eq g1.symm))))
  refine OGo.callWInit (pc' := 38) (cells' := 6) (slots' := 12) (argsL := [(.ref a5)]) (St := [(.ref a1)]) C X5 (ew hw) Hd8 rfl rfl (wd8 hw) (wd9 hw) (by decide) (wd10 hw) (wd6 hw) (ctNew0 hw X5.2.1 a1 a5 k5 f10 f11 f12 q1 V5) (sfS ⟨f10.lt, f14⟩ (fun _ hx => by cases hx)) (lenOf pd5 rfl) rfl d1_35 rfl rfl (by decide) (Nat.le_of_ble_eq_true rfl) rfl rfl (by decide) (by decide) (fun v13 vm13 T13 h13 Q13 C13 X13 Hd13 R13 => ?_)
  obtain ⟨t13, k13, hv13, K13, E13, F13c, F13v, V13⟩ := Q13
  subst hv13
  have K15 : Keep h0 h13 [] := K9.trans K13 (allS (Or.inr sz2) all0)
  show OGo p e below _ T13 (mkF m 38 #[.val (.int (0 : Int32)), .val (.int i1), .val (.int i2), .val (.int i3), .val (.int ca), .val (.int cb), .val (.int cc), .unset] [(.ref a1)])
  exact OGo.retWA C13 X13 (ew hw) Hd13 d1_38 hret rfl rfl hlk (⟨a1, t13, k13, _, rfl, K15, E13, F13c, F13v, V13⟩) (by decide) (by decide)
set_option maxRecDepth 65536 in
set_option maxHeartbeats 40000000 in
theorem ctStr1 {l : Launch} {Z : State} {a0 : Array Value} (hw : HW a0 Z) {n0 : Nat} {h0 : Heap} (hn0 : n0 ≤ h0.size) (i1 i2 i3 : Int32) (cz : Int32) (OD : Old Z n0 h0) (S2 : Sta Z Z.heap "java/lang/String" "COMPACT_STRINGS" "Z" (.int cz)) (hcz : ¬ cz = 0) :
    Ctr l Z (⟨"com/example/chainmail/chainmail/NavigationContextOfPinLaw", "str", "(IIII)Ljava/lang/String;"⟩ : MethodName) method_2_code 8 (some (.object "java/lang/String")) ({ frames := 4, cells := 6, slots := 32, locals := 100 } : Room) n0 #[(.int (1 : Int32)), (.int i1), (.int i2), (.int i3)] h0 (fun v h => ∃ (b t : Addr) (kb : ClassId) (vs : List Value), v = some (.ref b) ∧ Keep h0 h [] ∧ Exa Z h b "java/lang/String" ∧ Fld Z h b "java/lang/String" "coder" "B" (.int (0 : Int32)) ∧ Fld Z h b "java/lang/String" "value" "[B" (.ref t) ∧ Arv Z h t kb .byte (1 : Int32) vs (.int (0 : Int32))) := by
  refine Ctr.of (plainFor_of_name pn0) hn0 ?_
  intro p e s m below meth c T0 C hnm hret hlk X0
  rw [ef1 m (1 : Int32) i1 i2 i3]
  refine OGo.iloadN (pc' := 1) C X0 d1_0 rfl rfl ?_
  refine OGo.sipush (pc' := 4) (z := (255 : Int32)) C X0 d1_1 rfl (by decide) ?_
  refine OGo.iand (pc' := 5) (z := (i1 &&& (255 : Int32))) C X0 d1_4 rfl rfl ?_
  obtain ⟨ca, h_ca⟩ : ∃ z : Int32, (i1 &&& (255 : Int32)).toUInt32.toUInt16.toUInt32.toInt32 = z := ⟨_, rfl⟩
  refine OGo.i2c (pc' := 6) (z := ca) C X0 d1_5 rfl h_ca ?_
  have l_ca := own_lat_mask h_ca
  refine OGo.istore (pc' := 8) C X0 d1_6 rfl (l' := #[.val (.int (1 : Int32)), .val (.int i1), .val (.int i2), .val (.int i3), .val (.int ca), .unset, .unset, .unset]) rfl ?_
  refine OGo.iloadN (pc' := 9) C X0 d1_8 rfl rfl ?_
  refine OGo.sipush (pc' := 12) (z := (255 : Int32)) C X0 d1_9 rfl (by decide) ?_
  refine OGo.iand (pc' := 13) (z := (i2 &&& (255 : Int32))) C X0 d1_12 rfl rfl ?_
  obtain ⟨cb, h_cb⟩ : ∃ z : Int32, (i2 &&& (255 : Int32)).toUInt32.toUInt16.toUInt32.toInt32 = z := ⟨_, rfl⟩
  refine OGo.i2c (pc' := 14) (z := cb) C X0 d1_13 rfl h_cb ?_
  have l_cb := own_lat_mask h_cb
  refine OGo.istore (pc' := 16) C X0 d1_14 rfl (l' := #[.val (.int (1 : Int32)), .val (.int i1), .val (.int i2), .val (.int i3), .val (.int ca), .val (.int cb), .unset, .unset]) rfl ?_
  refine OGo.iloadN (pc' := 17) C X0 d1_16 rfl rfl ?_
  refine OGo.sipush (pc' := 20) (z := (255 : Int32)) C X0 d1_17 rfl (by decide) ?_
  refine OGo.iand (pc' := 21) (z := (i3 &&& (255 : Int32))) C X0 d1_20 rfl rfl ?_
  obtain ⟨cc, h_cc⟩ : ∃ z : Int32, (i3 &&& (255 : Int32)).toUInt32.toUInt16.toUInt32.toInt32 = z := ⟨_, rfl⟩
  refine OGo.i2c (pc' := 22) (z := cc) C X0 d1_21 rfl h_cc ?_
  have l_cc := own_lat_mask h_cc
  refine OGo.istore (pc' := 24) C X0 d1_22 rfl (l' := #[.val (.int (1 : Int32)), .val (.int i1), .val (.int i2), .val (.int i3), .val (.int ca), .val (.int cb), .val (.int cc), .unset]) rfl ?_
  refine OGo.iloadN (pc' := 25) C X0 d1_24 rfl rfl ?_
  refine OGo.ifYes (pc' := 39) C X0 d1_25 (feq (by decide : ¬ (1 : Int32) = (0 : Int32))).2 (by decide) (by decide) ?_
  refine OGo.iloadN (pc' := 40) C X0 d1_39 rfl rfl ?_
  refine OGo.iconst (pc' := 41) (z := (1 : Int32)) C X0 d1_40 rfl (by decide) ?_
  refine OGo.icmpNo (pc' := 44) C X0 d1_41 rfl (teq (by decide : (1 : Int32) = (1 : Int32))).2 ?_
  refine OGo.iconst (pc' := 45) (z := (1 : Int32)) C X0 d1_44 rfl (by decide) ?_
  refine OGo.newarray (pc' := 47) (cap := 1) (d0 := (.int (0 : Int32))) (cells' := 1) (slots' := 1) C X0 (wd7 hw) rfl d1_45 rfl (by decide) (by decide) (by decide) rfl rfl rfl (by decide) (by decide) (fun T1 h1 a1 k1 X1 g1 q1 E1 V1 => ?_)
  have sz2 : h0.size ≤ a1 := Nat.le_trans (Keep.refl h0 []).1 (Nat.le_of_eq g1.symm)
  have K3 : Keep h0 h1 [] := (Keep.refl h0 []).ext E1
  replace V1 : Arv Z h1 a1 k1 .char (1 : Int32) [(.int (0 : Int32))] (.int (0 : Int32)) := V1.pad (pad_rep [] (.int (0 : Int32)) 1)
  refine OGo.astore (pc' := 49) C X1 d1_47 rfl rfl (l' := #[.val (.int (1 : Int32)), .val (.int i1), .val (.int i2), .val (.int i3), .val (.int ca), .val (.int cb), .val (.int cc), .val (.ref a1)]) rfl ?_
  refine OGo.aload (pc' := 51) C X1 d1_49 rfl rfl rfl ?_
  refine OGo.iconst (pc' := 52) (z := (0 : Int32)) C X1 d1_51 rfl (by decide) ?_
  refine OGo.iload (pc' := 54) C X1 d1_52 rfl rfl ?_
  refine OGo.castore (pc' := 55) C X1 V1 q1 (i := 0) d1_54 rfl ⟨by decide, by decide⟩ (by decide) (Nat.le_of_ble_eq_true rfl) (fun T4 h4 X4 W4 V4 => ?_)
  replace V4 : Arv Z h4 a1 k1 .char (1 : Int32) [(.int ca)] (.int (0 : Int32)) := by rw [own_nar_lat l_ca] at V4; exact V4
  have K5 : Keep h0 h4 [] := K3.wr W4 (Or.inr sz2)
  refine OGo.new (pc' := 58) (cells' := 2) (slots' := 5) C X4 (wd4 hw) (wd5 hw) (wd6 hw) d1_55 rfl rfl rfl (by decide) (by decide) (fun T6 h6 a6 X6 g6 q6 E6 A6 D6 U6 => ?_)
  have ne7 : a1 ≠ a6 := Nat.ne_of_lt (Nat.lt_of_lt_of_eq V4.lt g6.symm)
  have sz8 : h0.size ≤ a6 := Nat.le_trans K5.1 (Nat.le_of_eq g6.symm)
  have K9 : Keep h0 h6 [] := K5.ext E6
  have F6_value : Fld Z h6 a6 "java/lang/String" "value" "[B" .null := D6 (Or.inr (wd20 hw)) (ty := (.array .byte)) (by decide)
  have F6_coder : Fld Z h6 a6 "java/lang/String" "coder" "B" (.int (0 : Int32)) := D6 (Or.inr (wd21 hw)) (ty := .byte) (by decide)
  refine OGo.dup (pc' := 59) C X6 d1_58 rfl rfl ?_
  refine OGo.aload (pc' := 61) C X6 d1_59 rfl rfl rfl ?_
  have f10 := (V4.ext E6)
  have f11 := (((OD.ext E1).wr W4 q1).ext E6)
  refine OGo.callInit (pc' := 64) (cells' := 3) (slots' := 6) (argsL := [(.ref a1)]) (St := [(.ref a6)]) C X6 rfl rfl (wd8 hw) (wd9 hw) (by decide) (wd10 hw) (wd6 hw) (ctNew1 hw X6.2.1 a6 a1 k1 ca cz A6 F6_value F6_coder q6 f10 l_ca f11 S2 hcz) (lenOf pd5 rfl) rfl d1_61 rfl rfl (by decide) (Nat.le_of_ble_eq_true rfl) rfl rfl (by decide) (by decide) (fun v12 T12 h12 Q12 X12 z12 => ?_)
  obtain ⟨t12, k12, hv12, K12, E12, F12c, F12v, V12⟩ := Q12
  subst hv12
  have K13 : Keep h0 h12 [] := K9.trans K12 (allS (Or.inr sz8) all0)
  show OGo p e below _ T12 (mkF m 64 #[.val (.int (1 : Int32)), .val (.int i1), .val (.int i2), .val (.int i3), .val (.int ca), .val (.int cb), .val (.int cc), .val (.ref a1)] [(.ref a6)])
  exact OGo.retA C X12 d1_64 hret rfl rfl hlk (⟨a6, t12, k12, _, rfl, K13, E12, F12c, F12v, V12⟩) (by decide) (by decide)
set_option maxRecDepth 65536 in
set_option maxHeartbeats 40000000 in
theorem ctStr2 {l : Launch} {Z : State} {a0 : Array Value} (hw : HW a0 Z) {n0 : Nat} {h0 : Heap} (hn0 : n0 ≤ h0.size) (i1 i2 i3 : Int32) (cz : Int32) (OD : Old Z n0 h0) (S2 : Sta Z Z.heap "java/lang/String" "COMPACT_STRINGS" "Z" (.int cz)) (hcz : ¬ cz = 0) :
    Ctr l Z (⟨"com/example/chainmail/chainmail/NavigationContextOfPinLaw", "str", "(IIII)Ljava/lang/String;"⟩ : MethodName) method_2_code 8 (some (.object "java/lang/String")) ({ frames := 4, cells := 6, slots := 32, locals := 100 } : Room) n0 #[(.int (2 : Int32)), (.int i1), (.int i2), (.int i3)] h0 (fun v h => ∃ (b t : Addr) (kb : ClassId) (vs : List Value), v = some (.ref b) ∧ Keep h0 h [] ∧ Exa Z h b "java/lang/String" ∧ Fld Z h b "java/lang/String" "coder" "B" (.int (0 : Int32)) ∧ Fld Z h b "java/lang/String" "value" "[B" (.ref t) ∧ Arv Z h t kb .byte (2 : Int32) vs (.int (0 : Int32))) := by
  refine Ctr.of (plainFor_of_name pn0) hn0 ?_
  intro p e s m below meth c T0 C hnm hret hlk X0
  rw [ef1 m (2 : Int32) i1 i2 i3]
  refine OGo.iloadN (pc' := 1) C X0 d1_0 rfl rfl ?_
  refine OGo.sipush (pc' := 4) (z := (255 : Int32)) C X0 d1_1 rfl (by decide) ?_
  refine OGo.iand (pc' := 5) (z := (i1 &&& (255 : Int32))) C X0 d1_4 rfl rfl ?_
  obtain ⟨ca, h_ca⟩ : ∃ z : Int32, (i1 &&& (255 : Int32)).toUInt32.toUInt16.toUInt32.toInt32 = z := ⟨_, rfl⟩
  refine OGo.i2c (pc' := 6) (z := ca) C X0 d1_5 rfl h_ca ?_
  have l_ca := own_lat_mask h_ca
  refine OGo.istore (pc' := 8) C X0 d1_6 rfl (l' := #[.val (.int (2 : Int32)), .val (.int i1), .val (.int i2), .val (.int i3), .val (.int ca), .unset, .unset, .unset]) rfl ?_
  refine OGo.iloadN (pc' := 9) C X0 d1_8 rfl rfl ?_
  refine OGo.sipush (pc' := 12) (z := (255 : Int32)) C X0 d1_9 rfl (by decide) ?_
  refine OGo.iand (pc' := 13) (z := (i2 &&& (255 : Int32))) C X0 d1_12 rfl rfl ?_
  obtain ⟨cb, h_cb⟩ : ∃ z : Int32, (i2 &&& (255 : Int32)).toUInt32.toUInt16.toUInt32.toInt32 = z := ⟨_, rfl⟩
  refine OGo.i2c (pc' := 14) (z := cb) C X0 d1_13 rfl h_cb ?_
  have l_cb := own_lat_mask h_cb
  refine OGo.istore (pc' := 16) C X0 d1_14 rfl (l' := #[.val (.int (2 : Int32)), .val (.int i1), .val (.int i2), .val (.int i3), .val (.int ca), .val (.int cb), .unset, .unset]) rfl ?_
  refine OGo.iloadN (pc' := 17) C X0 d1_16 rfl rfl ?_
  refine OGo.sipush (pc' := 20) (z := (255 : Int32)) C X0 d1_17 rfl (by decide) ?_
  refine OGo.iand (pc' := 21) (z := (i3 &&& (255 : Int32))) C X0 d1_20 rfl rfl ?_
  obtain ⟨cc, h_cc⟩ : ∃ z : Int32, (i3 &&& (255 : Int32)).toUInt32.toUInt16.toUInt32.toInt32 = z := ⟨_, rfl⟩
  refine OGo.i2c (pc' := 22) (z := cc) C X0 d1_21 rfl h_cc ?_
  have l_cc := own_lat_mask h_cc
  refine OGo.istore (pc' := 24) C X0 d1_22 rfl (l' := #[.val (.int (2 : Int32)), .val (.int i1), .val (.int i2), .val (.int i3), .val (.int ca), .val (.int cb), .val (.int cc), .unset]) rfl ?_
  refine OGo.iloadN (pc' := 25) C X0 d1_24 rfl rfl ?_
  refine OGo.ifYes (pc' := 39) C X0 d1_25 (feq (by decide : ¬ (2 : Int32) = (0 : Int32))).2 (by decide) (by decide) ?_
  refine OGo.iloadN (pc' := 40) C X0 d1_39 rfl rfl ?_
  refine OGo.iconst (pc' := 41) (z := (1 : Int32)) C X0 d1_40 rfl (by decide) ?_
  refine OGo.icmpYes (pc' := 65) C X0 d1_41 (feq (by decide : ¬ (2 : Int32) = (1 : Int32))).2 (by decide) (by decide) ?_
  refine OGo.iloadN (pc' := 66) C X0 d1_65 rfl rfl ?_
  refine OGo.iconst (pc' := 67) (z := (2 : Int32)) C X0 d1_66 rfl (by decide) ?_
  refine OGo.icmpNo (pc' := 70) C X0 d1_67 rfl (teq (by decide : (2 : Int32) = (2 : Int32))).2 ?_
  refine OGo.iconst (pc' := 71) (z := (2 : Int32)) C X0 d1_70 rfl (by decide) ?_
  refine OGo.newarray (pc' := 73) (cap := 2) (d0 := (.int (0 : Int32))) (cells' := 1) (slots' := 2) C X0 (wd7 hw) rfl d1_71 rfl (by decide) (by decide) (by decide) rfl rfl rfl (by decide) (by decide) (fun T1 h1 a1 k1 X1 g1 q1 E1 V1 => ?_)
  have sz2 : h0.size ≤ a1 := Nat.le_trans (Keep.refl h0 []).1 (Nat.le_of_eq g1.symm)
  have K3 : Keep h0 h1 [] := (Keep.refl h0 []).ext E1
  replace V1 : Arv Z h1 a1 k1 .char (2 : Int32) [(.int (0 : Int32)), (.int (0 : Int32))] (.int (0 : Int32)) := V1.pad (pad_rep [] (.int (0 : Int32)) 2)
  refine OGo.astore (pc' := 75) C X1 d1_73 rfl rfl (l' := #[.val (.int (2 : Int32)), .val (.int i1), .val (.int i2), .val (.int i3), .val (.int ca), .val (.int cb), .val (.int cc), .val (.ref a1)]) rfl ?_
  refine OGo.aload (pc' := 77) C X1 d1_75 rfl rfl rfl ?_
  refine OGo.iconst (pc' := 78) (z := (0 : Int32)) C X1 d1_77 rfl (by decide) ?_
  refine OGo.iload (pc' := 80) C X1 d1_78 rfl rfl ?_
  refine OGo.castore (pc' := 81) C X1 V1 q1 (i := 0) d1_80 rfl ⟨by decide, by decide⟩ (by decide) (Nat.le_of_ble_eq_true rfl) (fun T4 h4 X4 W4 V4 => ?_)
  replace V4 : Arv Z h4 a1 k1 .char (2 : Int32) [(.int ca), (.int (0 : Int32))] (.int (0 : Int32)) := by rw [own_nar_lat l_ca] at V4; exact V4
  have K5 : Keep h0 h4 [] := K3.wr W4 (Or.inr sz2)
  refine OGo.aload (pc' := 83) C X4 d1_81 rfl rfl rfl ?_
  refine OGo.iconst (pc' := 84) (z := (1 : Int32)) C X4 d1_83 rfl (by decide) ?_
  refine OGo.iload (pc' := 86) C X4 d1_84 rfl rfl ?_
  refine OGo.castore (pc' := 87) C X4 V4 q1 (i := 1) d1_86 rfl ⟨by decide, by decide⟩ (by decide) (Nat.le_of_ble_eq_true rfl) (fun T6 h6 X6 W6 V6 => ?_)
  replace V6 : Arv Z h6 a1 k1 .char (2 : Int32) [(.int ca), (.int cb)] (.int (0 : Int32)) := by rw [own_nar_lat l_cb] at V6; exact V6
  have K7 : Keep h0 h6 [] := K5.wr W6 (Or.inr sz2)
  refine OGo.new (pc' := 90) (cells' := 2) (slots' := 6) C X6 (wd4 hw) (wd5 hw) (wd6 hw) d1_87 rfl rfl rfl (by decide) (by decide) (fun T8 h8 a8 X8 g8 q8 E8 A8 D8 U8 => ?_)
  have ne9 : a1 ≠ a8 := Nat.ne_of_lt (Nat.lt_of_lt_of_eq V6.lt g8.symm)
  have sz10 : h0.size ≤ a8 := Nat.le_trans K7.1 (Nat.le_of_eq g8.symm)
  have K11 : Keep h0 h8 [] := K7.ext E8
  have F8_value : Fld Z h8 a8 "java/lang/String" "value" "[B" .null := D8 (Or.inr (wd20 hw)) (ty := (.array .byte)) (by decide)
  have F8_coder : Fld Z h8 a8 "java/lang/String" "coder" "B" (.int (0 : Int32)) := D8 (Or.inr (wd21 hw)) (ty := .byte) (by decide)
  refine OGo.dup (pc' := 91) C X8 d1_90 rfl rfl ?_
  refine OGo.aload (pc' := 93) C X8 d1_91 rfl rfl rfl ?_
  have f12 := (V6.ext E8)
  have f13 := ((((OD.ext E1).wr W4 q1).wr W6 q1).ext E8)
  refine OGo.callInit (pc' := 96) (cells' := 3) (slots' := 8) (argsL := [(.ref a1)]) (St := [(.ref a8)]) C X8 rfl rfl (wd8 hw) (wd9 hw) (by decide) (wd10 hw) (wd6 hw) (ctNew2 hw X8.2.1 a8 a1 k1 ca cb cz A8 F8_value F8_coder q8 f12 l_ca l_cb f13 S2 hcz) (lenOf pd5 rfl) rfl d1_93 rfl rfl (by decide) (Nat.le_of_ble_eq_true rfl) rfl rfl (by decide) (by decide) (fun v14 T14 h14 Q14 X14 z14 => ?_)
  obtain ⟨t14, k14, hv14, K14, E14, F14c, F14v, V14⟩ := Q14
  subst hv14
  have K15 : Keep h0 h14 [] := K11.trans K14 (allS (Or.inr sz10) all0)
  show OGo p e below _ T14 (mkF m 96 #[.val (.int (2 : Int32)), .val (.int i1), .val (.int i2), .val (.int i3), .val (.int ca), .val (.int cb), .val (.int cc), .val (.ref a1)] [(.ref a8)])
  exact OGo.retA C X14 d1_96 hret rfl rfl hlk (⟨a8, t14, k14, _, rfl, K15, E14, F14c, F14v, V14⟩) (by decide) (by decide)
set_option maxRecDepth 65536 in
set_option maxHeartbeats 40000000 in
theorem ctStr3 {l : Launch} {Z : State} {a0 : Array Value} (hw : HW a0 Z) {n0 : Nat} {h0 : Heap} (hn0 : n0 ≤ h0.size) (i1 i2 i3 : Int32) (cz : Int32) (OD : Old Z n0 h0) (S2 : Sta Z Z.heap "java/lang/String" "COMPACT_STRINGS" "Z" (.int cz)) (hcz : ¬ cz = 0) :
    Ctr l Z (⟨"com/example/chainmail/chainmail/NavigationContextOfPinLaw", "str", "(IIII)Ljava/lang/String;"⟩ : MethodName) method_2_code 8 (some (.object "java/lang/String")) ({ frames := 4, cells := 6, slots := 32, locals := 100 } : Room) n0 #[(.int (3 : Int32)), (.int i1), (.int i2), (.int i3)] h0 (fun v h => ∃ (b t : Addr) (kb : ClassId) (vs : List Value), v = some (.ref b) ∧ Keep h0 h [] ∧ Exa Z h b "java/lang/String" ∧ Fld Z h b "java/lang/String" "coder" "B" (.int (0 : Int32)) ∧ Fld Z h b "java/lang/String" "value" "[B" (.ref t) ∧ Arv Z h t kb .byte (3 : Int32) vs (.int (0 : Int32))) := by
  refine Ctr.of (plainFor_of_name pn0) hn0 ?_
  intro p e s m below meth c T0 C hnm hret hlk X0
  rw [ef1 m (3 : Int32) i1 i2 i3]
  refine OGo.iloadN (pc' := 1) C X0 d1_0 rfl rfl ?_
  refine OGo.sipush (pc' := 4) (z := (255 : Int32)) C X0 d1_1 rfl (by decide) ?_
  refine OGo.iand (pc' := 5) (z := (i1 &&& (255 : Int32))) C X0 d1_4 rfl rfl ?_
  obtain ⟨ca, h_ca⟩ : ∃ z : Int32, (i1 &&& (255 : Int32)).toUInt32.toUInt16.toUInt32.toInt32 = z := ⟨_, rfl⟩
  refine OGo.i2c (pc' := 6) (z := ca) C X0 d1_5 rfl h_ca ?_
  have l_ca := own_lat_mask h_ca
  refine OGo.istore (pc' := 8) C X0 d1_6 rfl (l' := #[.val (.int (3 : Int32)), .val (.int i1), .val (.int i2), .val (.int i3), .val (.int ca), .unset, .unset, .unset]) rfl ?_
  refine OGo.iloadN (pc' := 9) C X0 d1_8 rfl rfl ?_
  refine OGo.sipush (pc' := 12) (z := (255 : Int32)) C X0 d1_9 rfl (by decide) ?_
  refine OGo.iand (pc' := 13) (z := (i2 &&& (255 : Int32))) C X0 d1_12 rfl rfl ?_
  obtain ⟨cb, h_cb⟩ : ∃ z : Int32, (i2 &&& (255 : Int32)).toUInt32.toUInt16.toUInt32.toInt32 = z := ⟨_, rfl⟩
  refine OGo.i2c (pc' := 14) (z := cb) C X0 d1_13 rfl h_cb ?_
  have l_cb := own_lat_mask h_cb
  refine OGo.istore (pc' := 16) C X0 d1_14 rfl (l' := #[.val (.int (3 : Int32)), .val (.int i1), .val (.int i2), .val (.int i3), .val (.int ca), .val (.int cb), .unset, .unset]) rfl ?_
  refine OGo.iloadN (pc' := 17) C X0 d1_16 rfl rfl ?_
  refine OGo.sipush (pc' := 20) (z := (255 : Int32)) C X0 d1_17 rfl (by decide) ?_
  refine OGo.iand (pc' := 21) (z := (i3 &&& (255 : Int32))) C X0 d1_20 rfl rfl ?_
  obtain ⟨cc, h_cc⟩ : ∃ z : Int32, (i3 &&& (255 : Int32)).toUInt32.toUInt16.toUInt32.toInt32 = z := ⟨_, rfl⟩
  refine OGo.i2c (pc' := 22) (z := cc) C X0 d1_21 rfl h_cc ?_
  have l_cc := own_lat_mask h_cc
  refine OGo.istore (pc' := 24) C X0 d1_22 rfl (l' := #[.val (.int (3 : Int32)), .val (.int i1), .val (.int i2), .val (.int i3), .val (.int ca), .val (.int cb), .val (.int cc), .unset]) rfl ?_
  refine OGo.iloadN (pc' := 25) C X0 d1_24 rfl rfl ?_
  refine OGo.ifYes (pc' := 39) C X0 d1_25 (feq (by decide : ¬ (3 : Int32) = (0 : Int32))).2 (by decide) (by decide) ?_
  refine OGo.iloadN (pc' := 40) C X0 d1_39 rfl rfl ?_
  refine OGo.iconst (pc' := 41) (z := (1 : Int32)) C X0 d1_40 rfl (by decide) ?_
  refine OGo.icmpYes (pc' := 65) C X0 d1_41 (feq (by decide : ¬ (3 : Int32) = (1 : Int32))).2 (by decide) (by decide) ?_
  refine OGo.iloadN (pc' := 66) C X0 d1_65 rfl rfl ?_
  refine OGo.iconst (pc' := 67) (z := (2 : Int32)) C X0 d1_66 rfl (by decide) ?_
  refine OGo.icmpYes (pc' := 97) C X0 d1_67 (feq (by decide : ¬ (3 : Int32) = (2 : Int32))).2 (by decide) (by decide) ?_
  refine OGo.iconst (pc' := 98) (z := (3 : Int32)) C X0 d1_97 rfl (by decide) ?_
  refine OGo.newarray (pc' := 100) (cap := 3) (d0 := (.int (0 : Int32))) (cells' := 1) (slots' := 3) C X0 (wd7 hw) rfl d1_98 rfl (by decide) (by decide) (by decide) rfl rfl rfl (by decide) (by decide) (fun T1 h1 a1 k1 X1 g1 q1 E1 V1 => ?_)
  have sz2 : h0.size ≤ a1 := Nat.le_trans (Keep.refl h0 []).1 (Nat.le_of_eq g1.symm)
  have K3 : Keep h0 h1 [] := (Keep.refl h0 []).ext E1
  replace V1 : Arv Z h1 a1 k1 .char (3 : Int32) [(.int (0 : Int32)), (.int (0 : Int32)), (.int (0 : Int32))] (.int (0 : Int32)) := V1.pad (pad_rep [] (.int (0 : Int32)) 3)
  refine OGo.astore (pc' := 102) C X1 d1_100 rfl rfl (l' := #[.val (.int (3 : Int32)), .val (.int i1), .val (.int i2), .val (.int i3), .val (.int ca), .val (.int cb), .val (.int cc), .val (.ref a1)]) rfl ?_
  refine OGo.aload (pc' := 104) C X1 d1_102 rfl rfl rfl ?_
  refine OGo.iconst (pc' := 105) (z := (0 : Int32)) C X1 d1_104 rfl (by decide) ?_
  refine OGo.iload (pc' := 107) C X1 d1_105 rfl rfl ?_
  refine OGo.castore (pc' := 108) C X1 V1 q1 (i := 0) d1_107 rfl ⟨by decide, by decide⟩ (by decide) (Nat.le_of_ble_eq_true rfl) (fun T4 h4 X4 W4 V4 => ?_)
  replace V4 : Arv Z h4 a1 k1 .char (3 : Int32) [(.int ca), (.int (0 : Int32)), (.int (0 : Int32))] (.int (0 : Int32)) := by rw [own_nar_lat l_ca] at V4; exact V4
  have K5 : Keep h0 h4 [] := K3.wr W4 (Or.inr sz2)
  refine OGo.aload (pc' := 110) C X4 d1_108 rfl rfl rfl ?_
  refine OGo.iconst (pc' := 111) (z := (1 : Int32)) C X4 d1_110 rfl (by decide) ?_
  refine OGo.iload (pc' := 113) C X4 d1_111 rfl rfl ?_
  refine OGo.castore (pc' := 114) C X4 V4 q1 (i := 1) d1_113 rfl ⟨by decide, by decide⟩ (by decide) (Nat.le_of_ble_eq_true rfl) (fun T6 h6 X6 W6 V6 => ?_)
  replace V6 : Arv Z h6 a1 k1 .char (3 : Int32) [(.int ca), (.int cb), (.int (0 : Int32))] (.int (0 : Int32)) := by rw [own_nar_lat l_cb] at V6; exact V6
  have K7 : Keep h0 h6 [] := K5.wr W6 (Or.inr sz2)
  refine OGo.aload (pc' := 116) C X6 d1_114 rfl rfl rfl ?_
  refine OGo.iconst (pc' := 117) (z := (2 : Int32)) C X6 d1_116 rfl (by decide) ?_
  refine OGo.iload (pc' := 119) C X6 d1_117 rfl rfl ?_
  refine OGo.castore (pc' := 120) C X6 V6 q1 (i := 2) d1_119 rfl ⟨by decide, by decide⟩ (by decide) (Nat.le_of_ble_eq_true rfl) (fun T8 h8 X8 W8 V8 => ?_)
  replace V8 : Arv Z h8 a1 k1 .char (3 : Int32) [(.int ca), (.int cb), (.int cc)] (.int (0 : Int32)) := by rw [own_nar_lat l_cc] at V8; exact V8
  have K9 : Keep h0 h8 [] := K7.wr W8 (Or.inr sz2)
  refine OGo.new (pc' := 123) (cells' := 2) (slots' := 7) C X8 (wd4 hw) (wd5 hw) (wd6 hw) d1_120 rfl rfl rfl (by decide) (by decide) (fun T10 h10 a10 X10 g10 q10 E10 A10 D10 U10 => ?_)
  have ne11 : a1 ≠ a10 := Nat.ne_of_lt (Nat.lt_of_lt_of_eq V8.lt g10.symm)
  have sz12 : h0.size ≤ a10 := Nat.le_trans K9.1 (Nat.le_of_eq g10.symm)
  have K13 : Keep h0 h10 [] := K9.ext E10
  have F10_value : Fld Z h10 a10 "java/lang/String" "value" "[B" .null := D10 (Or.inr (wd20 hw)) (ty := (.array .byte)) (by decide)
  have F10_coder : Fld Z h10 a10 "java/lang/String" "coder" "B" (.int (0 : Int32)) := D10 (Or.inr (wd21 hw)) (ty := .byte) (by decide)
  refine OGo.dup (pc' := 124) C X10 d1_123 rfl rfl ?_
  refine OGo.aload (pc' := 126) C X10 d1_124 rfl rfl rfl ?_
  have f14 := (V8.ext E10)
  have f15 := (((((OD.ext E1).wr W4 q1).wr W6 q1).wr W8 q1).ext E10)
  refine OGo.callInit (pc' := 129) (cells' := 3) (slots' := 10) (argsL := [(.ref a1)]) (St := [(.ref a10)]) C X10 rfl rfl (wd8 hw) (wd9 hw) (by decide) (wd10 hw) (wd6 hw) (ctNew3 hw X10.2.1 a10 a1 k1 ca cb cc cz A10 F10_value F10_coder q10 f14 l_ca l_cb l_cc f15 S2 hcz) (lenOf pd5 rfl) rfl d1_126 rfl rfl (by decide) (Nat.le_of_ble_eq_true rfl) rfl rfl (by decide) (by decide) (fun v16 T16 h16 Q16 X16 z16 => ?_)
  obtain ⟨t16, k16, hv16, K16, E16, F16c, F16v, V16⟩ := Q16
  subst hv16
  have K17 : Keep h0 h16 [] := K13.trans K16 (allS (Or.inr sz12) all0)
  show OGo p e below _ T16 (mkF m 129 #[.val (.int (3 : Int32)), .val (.int i1), .val (.int i2), .val (.int i3), .val (.int ca), .val (.int cb), .val (.int cc), .val (.ref a1)] [(.ref a10)])
  exact OGo.retA C X16 d1_129 hret rfl rfl hlk (⟨a10, t16, k16, _, rfl, K17, E16, F16c, F16v, V16⟩) (by decide) (by decide)
theorem ef6 (m : MethodId) (x0 : Addr) (x1 : Addr) : entryFrame m #[(.ref x0), (.ref x1)] 2 = mkF m 0 #[.val (.ref x0), .val (.ref x1)] [] := by first | (simp [entryFrame, mkF, argsToLocals, Value.category]; done) | rfl
set_option maxRecDepth 65536 in
set_option maxHeartbeats 40000000 in
theorem ct6 {l : Launch} {Z : State} {a0 : Array Value} (hw : HW a0 Z) {n0 : Nat} {h0 : Heap} (hn0 : n0 ≤ h0.size) (r1 r2 : Addr)  :
    Ctr l Z (⟨"java/util/Objects", "requireNonNull", "(Ljava/lang/Object;Ljava/lang/String;)Ljava/lang/Object;"⟩ : MethodName) jdk_31_method_11_code 2 (some (.object "java/lang/Object")) ({ frames := 0, cells := 0, slots := 0, locals := 0 } : Room) n0 #[(.ref r1), (.ref r2)] h0 (fun v h => v = some (.ref r1) ∧ h = h0) := by
  refine Ctr.of (by decide +kernel) hn0 ?_
  intro p e s m below meth c T0 C hnm hret hlk X0
  rw [ef6 m r1 r2]
  refine OGo.aloadN (pc' := 1) C X0 d6_0 rfl rfl rfl ?_
  refine OGo.ifnonnullYes (pc' := 13) C X0 d6_1 (by decide) (by decide) ?_
  refine OGo.aloadN (pc' := 14) C X0 d6_13 rfl rfl rfl ?_
  exact OGo.retA C X0 d6_14 hret rfl rfl hlk (⟨rfl, rfl⟩) (by decide) (by decide)
theorem ef7 (m : MethodId)  : entryFrame m #[] 0 = mkF m 0 #[] [] := by first | (simp [entryFrame, mkF, argsToLocals, Value.category]; done) | rfl
set_option maxRecDepth 65536 in
set_option maxHeartbeats 40000000 in
theorem ct7 {l : Launch} {Z : State} {a0 : Array Value} (hw : HW a0 Z) {n0 : Nat} {h0 : Heap} (hn0 : n0 ≤ h0.size) (em : Addr) (OD : Old Z n0 h0) (Sm1 : Sta Z Z.heap "java/util/ImmutableCollections" "EMPTY_MAP" "Ljava/util/ImmutableCollections$MapN;" (.ref em)) :
    Ctr l Z (⟨"java/util/Map", "of", "()Ljava/util/Map;"⟩ : MethodName) jdk_72_method_26_code 0 (some (.object "java/util/Map")) ({ frames := 0, cells := 0, slots := 0, locals := 0 } : Room) n0 #[] h0 (fun v h => v = some (.ref em) ∧ h = h0) := by
  refine Ctr.of (by decide +kernel) hn0 ?_
  intro p e s m below meth c T0 C hnm hret hlk X0
  rw [ef7 m ]
  refine OGo.getstatic (pc' := 3) C X0 (host := "") (Or.inl (wd42 hw)) Via.refl (Sm1.ext OD.2) d7_0 rfl (fun T1 X1 => ?_)
  exact OGo.retA C X1 d7_3 hret rfl rfl hlk (⟨rfl, rfl⟩) (by decide) (by decide)
theorem ef8 (m : MethodId) (x0 : Addr) (x1 : Addr) (x3 : Addr) : entryFrame m #[(.ref x0), (.ref x1), .null, (.ref x3)] 4 = mkF m 0 #[.val (.ref x0), .val (.ref x1), .val .null, .val (.ref x3)] [] := by first | (simp [entryFrame, mkF, argsToLocals, Value.category]; done) | rfl
set_option maxRecDepth 65536 in
set_option maxHeartbeats 40000000 in
theorem ct8 {l : Launch} {Z : State} {a0 : Array Value} (hw : HW a0 Z) {n0 : Nat} {h0 : Heap} (hn0 : n0 ≤ h0.size) (a1 r1 em : Addr) (E1 : Exa Z h0 a1 "com/example/chainmail/chainmail/NavigationContext") (F_path : Fld Z h0 a1 "com/example/chainmail/chainmail/NavigationContext" "path" "Ljava/lang/String;" .null) (F_query : Fld Z h0 a1 "com/example/chainmail/chainmail/NavigationContext" "query" "Ljava/lang/String;" .null) (F_given : Fld Z h0 a1 "com/example/chainmail/chainmail/NavigationContext" "given" "Ljava/util/Map;" .null) (ga : n0 ≤ a1) :
    Ctr l Z (⟨"com/example/chainmail/chainmail/NavigationContext", "<init>", "(Ljava/lang/String;Ljava/lang/String;Ljava/util/Map;)V"⟩ : MethodName) prog_5_method_1_code 4 none ({ frames := 1, cells := 0, slots := 0, locals := 12 } : Room) n0 #[(.ref a1), (.ref r1), .null, (.ref em)] h0 (fun v h => v = none ∧ Keep h0 h [a1] ∧ Exa Z h a1 "com/example/chainmail/chainmail/NavigationContext" ∧ Fld Z h a1 "com/example/chainmail/chainmail/NavigationContext" "path" "Ljava/lang/String;" (.ref r1) ∧ Fld Z h a1 "com/example/chainmail/chainmail/NavigationContext" "given" "Ljava/util/Map;" (.ref em)) := by
  refine Ctr.of (plainFor_of_name pn1) hn0 ?_
  intro p e s m below meth c T0 C hnm hret hlk X0
  rw [ef8 m a1 r1 em]
  refine OGo.aloadN (pc' := 1) C X0 d8_0 rfl rfl rfl ?_
  refine OGo.initObj (pc' := 4) C X0 (wd47 hw) (wd16 hw) (wd17 hw) d8_1 rfl rfl (by decide) (Nat.le_of_ble_eq_true rfl) (fun T1 X1 => ?_)
  refine OGo.aloadN (pc' := 5) C X1 d8_4 rfl rfl rfl ?_
  refine OGo.aloadN (pc' := 6) C X1 d8_5 rfl rfl rfl ?_
  refine OGo.putfield (pc' := 9) C X1 (host := "") (Or.inl (wd48 hw)) Via.refl F_path E1 ga (Or.inr ⟨(wd49 hw), rfl, hnm⟩) (wd31 hw) (ty := (.object "java/lang/String")) (by decide) rfl rfl d8_6 rfl (fun T2 h2 X2 W2 F2 => ?_)
  have K3 : Keep h0 h2 [a1] := (Keep.refl h0 [a1]).wr W2 (Or.inl (List.mem_of_getElem? (i := 0) rfl))
  refine OGo.aloadN (pc' := 10) C X2 d8_9 rfl rfl rfl ?_
  refine OGo.aloadN (pc' := 11) C X2 d8_10 rfl rfl rfl ?_
  have f4 := (F_query.other W2 (Or.inr (slot_ne (Or.inr (wd51 hw)) (Or.inr (wd49 hw)) (by decide) (t := (.object "java/lang/String")) (t' := (.object "java/lang/String")) (by decide) (by decide))))
  have f5 := (E1.wr W2)
  refine OGo.putfield (pc' := 14) C X2 (host := "") (Or.inl (wd50 hw)) Via.refl f4 f5 ga (Or.inr ⟨(wd51 hw), rfl, hnm⟩) (wd31 hw) (ty := (.object "java/lang/String")) (by decide) rfl rfl d8_11 rfl (fun T6 h6 X6 W6 F6 => ?_)
  have K7 : Keep h0 h6 [a1] := K3.wr W6 (Or.inl (List.mem_of_getElem? (i := 0) rfl))
  refine OGo.aloadN (pc' := 15) C X6 d8_14 rfl rfl rfl ?_
  refine OGo.aloadN (pc' := 16) C X6 d8_15 rfl rfl rfl ?_
  have f8 := ((F_given.other W2 (Or.inr (slot_ne (Or.inr (wd53 hw)) (Or.inr (wd49 hw)) (by decide) (t := (.object "java/util/Map")) (t' := (.object "java/lang/String")) (by decide) (by decide)))).other W6 (Or.inr (slot_ne (Or.inr (wd53 hw)) (Or.inr (wd51 hw)) (by decide) (t := (.object "java/util/Map")) (t' := (.object "java/lang/String")) (by decide) (by decide))))
  have f9 := (f5.wr W6)
  refine OGo.putfield (pc' := 19) C X6 (host := "") (Or.inl (wd52 hw)) Via.refl f8 f9 ga (Or.inr ⟨(wd53 hw), rfl, hnm⟩) (wd31 hw) (ty := (.object "java/util/Map")) (by decide) rfl rfl d8_16 rfl (fun T10 h10 X10 W10 F10 => ?_)
  have K11 : Keep h0 h10 [a1] := K7.wr W10 (Or.inl (List.mem_of_getElem? (i := 0) rfl))
  have f12 := (f9.wr W10)
  have f13 := ((F2.other W6 (Or.inr (slot_ne (Or.inr (wd49 hw)) (Or.inr (wd51 hw)) (by decide) (t := (.object "java/lang/String")) (t' := (.object "java/lang/String")) (by decide) (by decide)))).other W10 (Or.inr (slot_ne (Or.inr (wd49 hw)) (Or.inr (wd53 hw)) (by decide) (t := (.object "java/lang/String")) (t' := (.object "java/util/Map")) (by decide) (by decide))))
  exact OGo.ret C X10 d8_19 hret hlk (⟨rfl, K11, f12, f13, F10⟩) (by decide) (by decide)
theorem ef5 (m : MethodId) (x0 : Addr) : entryFrame m #[(.ref x0)] 1 = mkF m 0 #[.val (.ref x0)] [] := by first | (simp [entryFrame, mkF, argsToLocals, Value.category]; done) | rfl
set_option maxRecDepth 65536 in
set_option maxHeartbeats 40000000 in
theorem ct5 {l : Launch} {Z : State} {a0 : Array Value} (hw : HW a0 Z) {n0 : Nat} {h0 : Heap} (hn0 : n0 ≤ h0.size) (r1 em : Addr) (OD : Old Z n0 h0) (Sm1 : Sta Z Z.heap "java/util/ImmutableCollections" "EMPTY_MAP" "Ljava/util/ImmutableCollections$MapN;" (.ref em)) (Ex : Exa Z h0 r1 "java/lang/String") :
    CtrW l Z consts_1 [] (⟨"com/example/chainmail/chainmail/NavigationContext", "of", "(Ljava/lang/String;)Lcom/example/chainmail/chainmail/NavigationContext;"⟩ : MethodName) prog_5_method_2_code 1 (some (.object "com/example/chainmail/chainmail/NavigationContext")) ({ frames := 2, cells := 3, slots := 44, locals := 60 } : Room) n0 #[(.ref r1)] h0 (fun v h => ∃ b, v = some (.ref b) ∧ Keep h0 h [] ∧ Exa Z h b "com/example/chainmail/chainmail/NavigationContext" ∧ Fld Z h b "com/example/chainmail/chainmail/NavigationContext" "path" "Ljava/lang/String;" (.ref r1) ∧ Fld Z h b "com/example/chainmail/chainmail/NavigationContext" "given" "Ljava/util/Map;" (.ref em)) := by
  refine CtrW.of (plainFor_of_name pn1) hn0 ?_
  intro p e s m below meth c T0 C hnm hret hlk X0 H0 hSf
  rw [ef5 m r1]
  refine OGo.new (pc' := 3) (cells' := 1) (slots' := 4) C X0 (wd30 hw) (wd31 hw) (wd28 hw) d5_0 rfl rfl rfl (by decide) (by decide) (fun T1 h1 a1 X1 g1 q1 E1 A1 D1 U1 => ?_)
  have ne2 : r1 ≠ a1 := Nat.ne_of_lt (Nat.lt_of_lt_of_eq Ex.lt g1.symm)
  have sz3 : h0.size ≤ a1 := Nat.le_trans (Keep.refl h0 []).1 (Nat.le_of_eq g1.symm)
  have Hd4 := H0.ext E1
  have K5 : Keep h0 h1 [] := (Keep.refl h0 []).ext E1
  have F1_path : Fld Z h1 a1 "com/example/chainmail/chainmail/NavigationContext" "path" "Ljava/lang/String;" .null := D1 (Or.inr (wd49 hw)) (ty := (.object "java/lang/String")) (by decide)
  have F1_query : Fld Z h1 a1 "com/example/chainmail/chainmail/NavigationContext" "query" "Ljava/lang/String;" .null := D1 (Or.inr (wd51 hw)) (ty := (.object "java/lang/String")) (by decide)
  have F1_given : Fld Z h1 a1 "com/example/chainmail/chainmail/NavigationContext" "given" "Ljava/util/Map;" .null := D1 (Or.inr (wd53 hw)) (ty := (.object "java/util/Map")) (by decide)
  have F1_decoded : Fld Z h1 a1 "com/example/chainmail/chainmail/NavigationContext" "decoded" "Ljava/util/Map;" .null := D1 (Or.inl (wd103 hw)) (ty := (.object "java/util/Map")) (by decide)
  refine OGo.dup (pc' := 4) C X1 d5_3 rfl rfl ?_
  refine OGo.aloadN (pc' := 5) C X1 d5_4 rfl rfl rfl ?_
  refine OGo.ldcC (pc' := 7) (n := 36) (cells' := 3) (slots' := 44) (z := (9 : Int32)) (vs := [(.int (78 : Int32)), (.int (117 : Int32)), (.int (108 : Int32)), (.int (108 : Int32)), (.int (32 : Int32)), (.int (112 : Int32)), (.int (97 : Int32)), (.int (116 : Int32)), (.int (104 : Int32))]) C X1 (ew hw) Hd4 (wd32 hw) (wS hw) (List.mem_of_getElem? (i := 0) rfl) ⟨by decide +kernel, by first | rfl | decide +kernel⟩ (by decide) rfl d5_5 rfl (by decide +kernel) (by decide) rfl rfl (by decide) (by decide) (fun vm6 T6 h6 a6 b6 k6 C6 X6 Hd6 E6 R6 A6 F6a F6b V6 sf6 => ?_)
  have K7 : Keep h0 h6 [] := K5.ext E6
  have f8 := (A1.ext E6)
  have sn9 := sf6 a1 (Safe.exa (EL := consts_1) C6.2.1.alike f8 (by decide) (by decide))
  refine OGo.callS (pc' := 10) (cells' := 3) (slots' := 44) (argsL := [(.ref r1), (.ref a6)]) (St := [(.ref a1), (.ref a1)]) C6 X6 (wd33 hw) (wd34 hw) (by decide) (wd36 hw) (wd35 hw) (ct6 hw X6.2.1 r1 a6) (lenOf pd6 rfl) rfl d5_7 rfl rfl (by decide) (Nat.le_of_ble_eq_true rfl) rfl rfl (by decide) (by decide) (fun v10 T10 h10 Q10 X10 z10 => ?_)
  obtain ⟨hv10, hh10⟩ := Q10
  subst hv10; rw [hh10] at X10
  show OGo p e below _ T10 (mkF m 10 #[.val (.ref r1)] [(.ref r1), (.ref a1), (.ref a1)])
  have f11 := ((Ex.ext E1).ext E6)
  refine OGo.checkcast (pc' := 13) C6 X10 (wd37 hw) (Ins.self f11) d5_10 rfl (fun T12 X12 => ?_)
  refine OGo.aconst_null (pc' := 14) C6 X12 d5_13 rfl ?_
  have f13 := ((OD.ext E1).ext E6)
  refine OGo.callS (pc' := 17) (cells' := 3) (slots' := 44) (argsL := []) (St := [.null, (.ref r1), (.ref a1), (.ref a1)]) C6 X12 (wd38 hw) (wd39 hw) (by decide) (wd41 hw) (wd40 hw) (ct7 hw X12.2.1 em f13 Sm1) (lenOf pd7 rfl) rfl d5_14 rfl rfl (by decide) (Nat.le_of_ble_eq_true rfl) rfl rfl (by decide) (by decide) (fun v14 T14 h14 Q14 X14 z14 => ?_)
  obtain ⟨hv14, hh14⟩ := Q14
  subst hv14; rw [hh14] at X14
  show OGo p e below _ T14 (mkF m 17 #[.val (.ref r1)] [(.ref em), .null, (.ref r1), (.ref a1), (.ref a1)])
  have f15 := (F1_path.ext E6)
  have f16 := (F1_query.ext E6)
  have f17 := (F1_given.ext E6)
  refine OGo.callInit (pc' := 20) (cells' := 3) (slots' := 44) (argsL := [(.ref r1), .null, (.ref em)]) (St := [(.ref a1)]) C6 X14 rfl rfl (wd44 hw) (wd45 hw) (by decide) (wd46 hw) (wd28 hw) (ct8 hw X14.2.1 a1 r1 em f8 f15 f16 f17 q1) (lenOf pd8 rfl) rfl d5_17 rfl rfl (by decide) (Nat.le_of_ble_eq_true rfl) rfl rfl (by decide) (by decide) (fun v18 T18 h18 Q18 X18 z18 => ?_)
  obtain ⟨hv18, K18, E18a, F18a, F18b⟩ := Q18
  subst hv18
  have Hd19 := Hd6.keep K18 (allS (Safe.exa (EL := consts_1) C6.2.1.alike f8 (by decide) (by decide)) all0)
  have K20 : Keep h0 h18 [] := K7.trans K18 (allS (Or.inr sz3) all0)
  show OGo p e below _ T18 (mkF m 20 #[.val (.ref r1)] [(.ref a1)])
  exact OGo.retWA C6 X18 (ew hw) Hd19 d5_20 hret rfl rfl hlk (⟨a1, rfl, K20, E18a, F18a, F18b⟩) (by decide) (by decide)
theorem ef9 (m : MethodId) (x0 : Addr) : entryFrame m #[(.ref x0)] 1 = mkF m 0 #[.val (.ref x0)] [] := by first | (simp [entryFrame, mkF, argsToLocals, Value.category]; done) | rfl
set_option maxRecDepth 65536 in
set_option maxHeartbeats 40000000 in
theorem ct9 {l : Launch} {Z : State} {a0 : Array Value} (hw : HW a0 Z) {n0 : Nat} {h0 : Heap} (hn0 : n0 ≤ h0.size) (a1 r1 : Addr) (F1 : Fld Z h0 a1 "com/example/chainmail/chainmail/NavigationContext" "path" "Ljava/lang/String;" (.ref r1)) :
    Ctr l Z (⟨"com/example/chainmail/chainmail/NavigationContext", "path", "()Ljava/lang/String;"⟩ : MethodName) prog_5_method_6_code 1 (some (.object "java/lang/String")) ({ frames := 0, cells := 0, slots := 0, locals := 0 } : Room) n0 #[(.ref a1)] h0 (fun v h => v = some (.ref r1) ∧ h = h0) := by
  refine Ctr.of (plainFor_of_name pn1) hn0 ?_
  intro p e s m below meth c T0 C hnm hret hlk X0
  rw [ef9 m a1]
  refine OGo.aloadN (pc' := 1) C X0 d9_0 rfl rfl rfl ?_
  refine OGo.getfield (pc' := 4) C X0 (host := "") (Or.inl (wd48 hw)) Via.refl F1 d9_1 rfl (fun T1 X1 => ?_)
  exact OGo.retA C X1 d9_4 hret rfl rfl hlk (⟨rfl, rfl⟩) (by decide) (by decide)
theorem ef13 (m : MethodId) (x0 : Addr) : entryFrame m #[(.ref x0)] 2 = mkF m 0 #[.val (.ref x0), .unset] [] := by first | (simp [entryFrame, mkF, argsToLocals, Value.category]; done) | rfl
set_option maxRecDepth 65536 in
set_option maxHeartbeats 40000000 in
theorem ct13 {l : Launch} {Z : State} {a0 : Array Value} (hw : HW a0 Z) {n0 : Nat} {h0 : Heap} (hn0 : n0 ≤ h0.size) (a1 r1 : Addr) (F2 : Fld Z h0 a1 "com/example/chainmail/chainmail/NavigationContext" "given" "Ljava/util/Map;" (.ref r1)) :
    Ctr l Z (⟨"com/example/chainmail/chainmail/NavigationContext", "queryParameters", "()Ljava/util/Map;"⟩ : MethodName) prog_5_method_7_code 2 (some (.object "java/util/Map")) ({ frames := 0, cells := 0, slots := 0, locals := 0 } : Room) n0 #[(.ref a1)] h0 (fun v h => v = some (.ref r1) ∧ h = h0) := by
  refine Ctr.of (plainFor_of_name pn1) hn0 ?_
  intro p e s m below meth c T0 C hnm hret hlk X0
  rw [ef13 m a1]
  refine OGo.aloadN (pc' := 1) C X0 d13_0 rfl rfl rfl ?_
  refine OGo.getfield (pc' := 4) C X0 (host := "") (Or.inl (wd52 hw)) Via.refl F2 d13_1 rfl (fun T1 X1 => ?_)
  refine OGo.ifnullNo (pc' := 7) C X1 d13_4 rfl ?_
  refine OGo.aloadN (pc' := 8) C X1 d13_7 rfl rfl rfl ?_
  refine OGo.getfield (pc' := 11) C X1 (host := "") (Or.inl (wd52 hw)) Via.refl F2 d13_8 rfl (fun T2 X2 => ?_)
  exact OGo.retA C X2 d13_11 hret rfl rfl hlk (⟨rfl, rfl⟩) (by decide) (by decide)
theorem ef14 (m : MethodId) (x0 : Addr) : entryFrame m #[(.ref x0)] 1 = mkF m 0 #[.val (.ref x0)] [] := by first | (simp [entryFrame, mkF, argsToLocals, Value.category]; done) | rfl
set_option maxRecDepth 65536 in
set_option maxHeartbeats 40000000 in
theorem ct14 {l : Launch} {Z : State} {a0 : Array Value} (hw : HW a0 Z) {n0 : Nat} {h0 : Heap} (hn0 : n0 ≤ h0.size) (a1 : Addr) (F1 : Fld Z h0 a1 "java/util/ImmutableCollections$MapN" "size" "I" (.int (0 : Int32))) :
    Ctr l Z (⟨"java/util/ImmutableCollections$MapN", "isEmpty", "()Z"⟩ : MethodName) jdk_2605_method_7_code 1 (some .boolean) ({ frames := 0, cells := 0, slots := 0, locals := 0 } : Room) n0 #[(.ref a1)] h0 (fun v h => v = some (.int (1 : Int32)) ∧ h = h0) := by
  refine Ctr.of (by decide +kernel) hn0 ?_
  intro p e s m below meth c T0 C hnm hret hlk X0
  rw [ef14 m a1]
  refine OGo.aloadN (pc' := 1) C X0 d14_0 rfl rfl rfl ?_
  refine OGo.getfield (pc' := 4) C X0 (host := "") (Or.inl (wd90 hw)) Via.refl F1 d14_1 rfl (fun T1 X1 => ?_)
  refine OGo.ifNo (pc' := 7) C X1 d14_4 rfl (teq (by decide : (0 : Int32) = (0 : Int32))).2 ?_
  refine OGo.iconst (pc' := 8) (z := (1 : Int32)) C X1 d14_7 rfl (by decide) ?_
  refine OGo.goto (pc' := 12) C X1 d14_8 (by decide) (by decide) ?_
  exact OGo.retN C X1 d14_12 hret (by simp) (z' := (1 : Int32)) (by decide) hlk (⟨rfl, rfl⟩) (by decide) (by decide)
theorem ef10 (m : MethodId) (x0 : Addr) (x1 : Addr) : entryFrame m #[(.ref x0), (.ref x1)] 3 = mkF m 0 #[.val (.ref x0), .val (.ref x1), .unset] [] := by first | (simp [entryFrame, mkF, argsToLocals, Value.category]; done) | rfl
set_option maxRecDepth 65536 in
set_option maxHeartbeats 40000000 in
theorem ctEqS {l : Launch} {Z : State} {a0 : Array Value} (hw : HW a0 Z) {n0 : Nat} {h0 : Heap} (hn0 : n0 ≤ h0.size) (a1 : Addr)  :
    Ctr l Z (⟨"java/lang/String", "equals", "(Ljava/lang/Object;)Z"⟩ : MethodName) jdk_42_method_66_code 3 (some .boolean) ({ frames := 0, cells := 0, slots := 0, locals := 0 } : Room) n0 #[(.ref a1), (.ref a1)] h0 (fun v h => v = some (.int (1 : Int32)) ∧ h = h0) := by
  refine Ctr.of (by decide +kernel) hn0 ?_
  intro p e s m below meth c T0 C hnm hret hlk X0
  rw [ef10 m a1 a1]
  refine OGo.aloadN (pc' := 1) C X0 d10_0 rfl rfl rfl ?_
  refine OGo.aloadN (pc' := 2) C X0 d10_1 rfl rfl rfl ?_
  refine OGo.acmp (pc' := 5) (same := true) C X0 rfl rfl d10_2 (own_same a1) (by decide) rfl ?_
  refine OGo.iconst (pc' := 6) (z := (1 : Int32)) C X0 d10_5 rfl (by decide) ?_
  exact OGo.retN C X0 d10_6 hret (by simp) (z' := (1 : Int32)) (by decide) hlk (⟨rfl, rfl⟩) (by decide) (by decide)
theorem ef0 (m : MethodId) (x0 : Int32) (x1 : Int32) (x2 : Int32) (x3 : Int32) : entryFrame m #[(.int x0), (.int x1), (.int x2), (.int x3)] maxLocals = mkF m 0 #[.val (.int x0), .val (.int x1), .val (.int x2), .val (.int x3), .unset, .unset, .unset, .unset] [] := by first | (simp [entryFrame, mkF, argsToLocals, Value.category, maxLocals]; done) | rfl
set_option maxRecDepth 65536 in
set_option maxHeartbeats 40000000 in
theorem ct0 {l : Launch} {Z : State} {a0 : Array Value} (hw : HW a0 Z) {n0 : Nat} {h0 : Heap} (hn0 : n0 ≤ h0.size) (i0 : Int32) (i1 : Int32) (i2 : Int32) (i3 : Int32) (em : Addr) (cz : Int32) (OD : Old Z n0 h0) (Sm1 : Sta Z Z.heap "java/util/ImmutableCollections" "EMPTY_MAP" "Ljava/util/ImmutableCollections$MapN;" (.ref em)) (Em : Exa Z Z.heap em "java/util/ImmutableCollections$MapN") (Sm : Fld Z Z.heap em "java/util/ImmutableCollections$MapN" "size" "I" (.int (0 : Int32))) (S2 : Sta Z Z.heap "java/lang/String" "COMPACT_STRINGS" "Z" (.int cz)) (hcz : ¬ cz = 0) :
    CtrW l Z consts_1 [] x code maxLocals ret room_1 n0 #[(.int i0), (.int i1), (.int i2), (.int i3)] h0 (fun v h => v = some (.int 1)) := by
  refine CtrW.of (plainFor_of_name pn0) hn0 ?_
  intro p e s m below meth c T0 C hnm hret hlk X0 H0 hSf
  rw [ef0 m i0 i1 i2 i3]
  refine OGo.iloadN (pc' := 1) C X0 at_0 rfl rfl ?_
  refine OGo.iconst (pc' := 2) (z := (3 : Int32)) C X0 at_1 rfl (by decide) ?_
  obtain ⟨ln, h_ln⟩ : ∃ z : Int32, i0 &&& (3 : Int32) = z := ⟨_, rfl⟩
  refine OGo.iand (pc' := 3) (z := ln) C X0 at_2 rfl h_ln ?_
  have hln : ln = 0 ∨ ln = 1 ∨ ln = 2 ∨ ln = 3 := own_k4 h_ln
  rcases hln with rfl | rfl | rfl | rfl
  · refine OGo.istore (pc' := 5) C X0 at_3 rfl (l' := #[.val (.int i0), .val (.int i1), .val (.int i2), .val (.int i3), .val (.int (0 : Int32)), .unset, .unset, .unset]) rfl ?_
    refine OGo.iload (pc' := 7) C X0 at_5 rfl rfl ?_
    refine OGo.iloadN (pc' := 8) C X0 at_7 rfl rfl ?_
    refine OGo.iloadN (pc' := 9) C X0 at_8 rfl rfl ?_
    refine OGo.iloadN (pc' := 10) C X0 at_9 rfl rfl ?_
    refine OGo.callWS (pc' := 13) (cells' := 6) (slots' := 32) (argsL := [(.int (0 : Int32)), (.int i1), (.int i2), (.int i3)]) (St := []) C X0 (ew hw) H0 (wd0 hw) (wd1 hw) (by decide) (wd3 hw) (wd2 hw) (ctStr0 hw X0.2.1 i1 i2 i3 cz OD S2 hcz) (fun _ hx => by cases hx) (lenOf pd9 rfl) rfl at_10 rfl rfl (by decide) (Nat.le_of_ble_eq_true rfl) rfl rfl (by decide) (by decide) (fun v1 vm1 T1 h1 Q1 C1 X1 Hd1 R1 => ?_)
    obtain ⟨b1, t1, k1, vs1, hv1, K1, E1, F1c, F1v, V1⟩ := Q1
    subst hv1
    show OGo p e below _ T1 (mkF m 13 #[.val (.int i0), .val (.int i1), .val (.int i2), .val (.int i3), .val (.int (0 : Int32)), .unset, .unset, .unset] [(.ref b1)])
    refine OGo.astore (pc' := 15) C1 X1 at_13 rfl rfl (l' := #[.val (.int i0), .val (.int i1), .val (.int i2), .val (.int i3), .val (.int (0 : Int32)), .val (.ref b1), .unset, .unset]) rfl ?_
    refine OGo.aload (pc' := 17) C1 X1 at_15 rfl rfl rfl ?_
    have f2 := (OD.keep K1 all0)
    refine OGo.callWS (pc' := 20) (cells' := 9) (slots' := 76) (argsL := [(.ref b1)]) (St := []) C1 X1 (ew hw) Hd1 (wd26 hw) (wd27 hw) (by decide) (wd29 hw) (wd28 hw) (ct5 hw X1.2.1 b1 em f2 Sm1 E1) (fun _ hx => by cases hx) (lenOf pd10 rfl) rfl at_17 rfl rfl (by decide) (Nat.le_of_ble_eq_true rfl) rfl rfl (by decide) (by decide) (fun v3 vm3 T3 h3 Q3 C3 X3 Hd3 R3 => ?_)
    obtain ⟨b3, hv3, K3, E3, F3a, F3b⟩ := Q3
    subst hv3
    show OGo p e below _ T3 (mkF m 20 #[.val (.int i0), .val (.int i1), .val (.int i2), .val (.int i3), .val (.int (0 : Int32)), .val (.ref b1), .unset, .unset] [(.ref b3)])
    refine OGo.astore (pc' := 22) C3 X3 at_20 rfl rfl (l' := #[.val (.int i0), .val (.int i1), .val (.int i2), .val (.int i3), .val (.int (0 : Int32)), .val (.ref b1), .val (.ref b3), .unset]) rfl ?_
    refine OGo.aload (pc' := 24) C3 X3 at_22 rfl rfl rfl ?_
    refine OGo.callV (pc' := 27) (cells' := 9) (slots' := 76) (argsL := []) (St := []) C3 X3 (wd54 hw) (wd55 hw) (wd57 hw) (wd56 hw) (by decide) E3 (wd58 hw) (wd28 hw) (ct9 hw X3.2.1 b3 b1 F3a) (lenOf pd11 rfl) rfl at_24 rfl rfl (by decide) (Nat.le_of_ble_eq_true rfl) rfl rfl (by decide) (by decide) (fun v4 T4 h4 Q4 X4 z4 => ?_)
    obtain ⟨hv4, hh4⟩ := Q4
    subst hv4; rw [hh4] at X4
    show OGo p e below _ T4 (mkF m 27 #[.val (.int i0), .val (.int i1), .val (.int i2), .val (.int i3), .val (.int (0 : Int32)), .val (.ref b1), .val (.ref b3), .unset] [(.ref b1)])
    refine OGo.astore (pc' := 29) C3 X4 at_27 rfl rfl (l' := #[.val (.int i0), .val (.int i1), .val (.int i2), .val (.int i3), .val (.int (0 : Int32)), .val (.ref b1), .val (.ref b3), .val (.ref b1)]) rfl ?_
    refine OGo.aload (pc' := 31) C3 X4 at_29 rfl rfl rfl ?_
    refine OGo.ifnonnullYes (pc' := 36) C3 X4 at_31 (by decide) (by decide) ?_
    refine OGo.aload (pc' := 38) C3 X4 at_36 rfl rfl rfl ?_
    refine OGo.aload (pc' := 40) C3 X4 at_38 rfl rfl rfl ?_
    have f6 := (E1.keep K3)
    refine OGo.callV (pc' := 43) (cells' := 9) (slots' := 76) (argsL := [(.ref b1)]) (St := []) C3 X4 (wd59 hw) (wd60 hw) (wd62 hw) (wd61 hw) (by decide) f6 (wd63 hw) (wd6 hw) (ctEqS hw X4.2.1 b1) (lenOf pd12 rfl) rfl at_40 rfl rfl (by decide) (Nat.le_of_ble_eq_true rfl) rfl rfl (by decide) (by decide) (fun v5 T5 h5 Q5 X5 z5 => ?_)
    obtain ⟨hv5, hh5⟩ := Q5
    subst hv5; rw [hh5] at X5
    show OGo p e below _ T5 (mkF m 43 #[.val (.int i0), .val (.int i1), .val (.int i2), .val (.int i3), .val (.int (0 : Int32)), .val (.ref b1), .val (.ref b3), .val (.ref b1)] [(.int (1 : Int32))])
    refine OGo.ifYes (pc' := 48) C3 X5 at_43 (feq (by decide : ¬ (1 : Int32) = (0 : Int32))).2 (by decide) (by decide) ?_
    refine OGo.aload (pc' := 50) C3 X5 at_48 rfl rfl rfl ?_
    have f7 := (F1v.keep K3 nin0)
    have f8 := (F1c.keep K3 nin0)
    have f9 := (V1.keep K3 nin0)
    have f10 := (f2.keep K3 all0)
    refine OGo.callV (pc' := 53) (cells' := 9) (slots' := 76) (argsL := []) (St := []) C3 X5 (wd64 hw) (wd65 hw) (wd67 hw) (wd66 hw) (by decide) f6 (wd68 hw) (wd6 hw) (ctLen0 hw X5.2.1 b1 t1 k1 vs1 cz f6 f7 f8 f9 f10 S2 hcz) (lenOf pd13 rfl) rfl at_50 rfl rfl (by decide) (Nat.le_of_ble_eq_true rfl) rfl rfl (by decide) (by decide) (fun v11 T11 h11 Q11 X11 z11 => ?_)
    obtain ⟨hv11, hh11⟩ := Q11
    subst hv11; rw [hh11] at X11
    show OGo p e below _ T11 (mkF m 53 #[.val (.int i0), .val (.int i1), .val (.int i2), .val (.int i3), .val (.int (0 : Int32)), .val (.ref b1), .val (.ref b3), .val (.ref b1)] [(.int (0 : Int32))])
    refine OGo.iload (pc' := 55) C3 X11 at_53 rfl rfl ?_
    refine OGo.icmpYes (pc' := 60) C3 X11 at_55 (teq (by decide : (0 : Int32) = (0 : Int32))).1 (by decide) (by decide) ?_
    refine OGo.aload (pc' := 62) C3 X11 at_60 rfl rfl rfl ?_
    refine OGo.callV (pc' := 65) (cells' := 9) (slots' := 76) (argsL := []) (St := []) C3 X11 (wd75 hw) (wd76 hw) (wd78 hw) (wd77 hw) (by decide) E3 (wd79 hw) (wd28 hw) (ct13 hw X11.2.1 b3 em F3b) (lenOf pd7 rfl) rfl at_62 rfl rfl (by decide) (Nat.le_of_ble_eq_true rfl) rfl rfl (by decide) (by decide) (fun v12 T12 h12 Q12 X12 z12 => ?_)
    obtain ⟨hv12, hh12⟩ := Q12
    subst hv12; rw [hh12] at X12
    show OGo p e below _ T12 (mkF m 65 #[.val (.int i0), .val (.int i1), .val (.int i2), .val (.int i3), .val (.int (0 : Int32)), .val (.ref b1), .val (.ref b3), .val (.ref b1)] [(.ref em)])
    refine OGo.callI (pc' := 70) (cells' := 9) (slots' := 76) (argsL := []) (St := []) C3 X12 (wd80 hw) (wd81 hw) (wd82 hw) (wd83 hw) (wd84 hw) (wd85 hw) (wd86 hw) (wd87 hw) (by decide) rfl (Em.ext f10.2) (wd89 hw) (wd88 hw) (ct14 hw X12.2.1 em (Sm.ext f10.2)) (lenOf pd14 rfl) rfl at_65 rfl rfl (by decide) (Nat.le_of_ble_eq_true rfl) rfl rfl (by decide) (by decide) (fun v13 T13 h13 Q13 X13 z13 => ?_)
    obtain ⟨hv13, hh13⟩ := Q13
    subst hv13; rw [hh13] at X13
    show OGo p e below _ T13 (mkF m 70 #[.val (.int i0), .val (.int i1), .val (.int i2), .val (.int i3), .val (.int (0 : Int32)), .val (.ref b1), .val (.ref b3), .val (.ref b1)] [(.int (1 : Int32))])
    exact OGo.retWN C3 X13 (ew hw) Hd3 at_70 hret (by simp) (z' := (1 : Int32)) (by decide) hlk (rfl) (by decide) (by decide)
  · refine OGo.istore (pc' := 5) C X0 at_3 rfl (l' := #[.val (.int i0), .val (.int i1), .val (.int i2), .val (.int i3), .val (.int (1 : Int32)), .unset, .unset, .unset]) rfl ?_
    refine OGo.iload (pc' := 7) C X0 at_5 rfl rfl ?_
    refine OGo.iloadN (pc' := 8) C X0 at_7 rfl rfl ?_
    refine OGo.iloadN (pc' := 9) C X0 at_8 rfl rfl ?_
    refine OGo.iloadN (pc' := 10) C X0 at_9 rfl rfl ?_
    refine OGo.callS (pc' := 13) (cells' := 6) (slots' := 32) (argsL := [(.int (1 : Int32)), (.int i1), (.int i2), (.int i3)]) (St := []) C X0 (wd0 hw) (wd1 hw) (by decide) (wd3 hw) (wd2 hw) (ctStr1 hw X0.2.1 i1 i2 i3 cz OD S2 hcz) (lenOf pd9 rfl) rfl at_10 rfl rfl (by decide) (Nat.le_of_ble_eq_true rfl) rfl rfl (by decide) (by decide) (fun v14 T14 h14 Q14 X14 z14 => ?_)
    obtain ⟨b14, t14, k14, vs14, hv14, K14, E14, F14c, F14v, V14⟩ := Q14
    subst hv14
    have Hd15 := H0.keep K14 all0
    show OGo p e below _ T14 (mkF m 13 #[.val (.int i0), .val (.int i1), .val (.int i2), .val (.int i3), .val (.int (1 : Int32)), .unset, .unset, .unset] [(.ref b14)])
    refine OGo.astore (pc' := 15) C X14 at_13 rfl rfl (l' := #[.val (.int i0), .val (.int i1), .val (.int i2), .val (.int i3), .val (.int (1 : Int32)), .val (.ref b14), .unset, .unset]) rfl ?_
    refine OGo.aload (pc' := 17) C X14 at_15 rfl rfl rfl ?_
    have f16 := (OD.keep K14 all0)
    refine OGo.callWS (pc' := 20) (cells' := 9) (slots' := 76) (argsL := [(.ref b14)]) (St := []) C X14 (ew hw) Hd15 (wd26 hw) (wd27 hw) (by decide) (wd29 hw) (wd28 hw) (ct5 hw X14.2.1 b14 em f16 Sm1 E14) (fun _ hx => by cases hx) (lenOf pd10 rfl) rfl at_17 rfl rfl (by decide) (Nat.le_of_ble_eq_true rfl) rfl rfl (by decide) (by decide) (fun v17 vm17 T17 h17 Q17 C17 X17 Hd17 R17 => ?_)
    obtain ⟨b17, hv17, K17, E17, F17a, F17b⟩ := Q17
    subst hv17
    show OGo p e below _ T17 (mkF m 20 #[.val (.int i0), .val (.int i1), .val (.int i2), .val (.int i3), .val (.int (1 : Int32)), .val (.ref b14), .unset, .unset] [(.ref b17)])
    refine OGo.astore (pc' := 22) C17 X17 at_20 rfl rfl (l' := #[.val (.int i0), .val (.int i1), .val (.int i2), .val (.int i3), .val (.int (1 : Int32)), .val (.ref b14), .val (.ref b17), .unset]) rfl ?_
    refine OGo.aload (pc' := 24) C17 X17 at_22 rfl rfl rfl ?_
    refine OGo.callV (pc' := 27) (cells' := 9) (slots' := 76) (argsL := []) (St := []) C17 X17 (wd54 hw) (wd55 hw) (wd57 hw) (wd56 hw) (by decide) E17 (wd58 hw) (wd28 hw) (ct9 hw X17.2.1 b17 b14 F17a) (lenOf pd11 rfl) rfl at_24 rfl rfl (by decide) (Nat.le_of_ble_eq_true rfl) rfl rfl (by decide) (by decide) (fun v18 T18 h18 Q18 X18 z18 => ?_)
    obtain ⟨hv18, hh18⟩ := Q18
    subst hv18; rw [hh18] at X18
    show OGo p e below _ T18 (mkF m 27 #[.val (.int i0), .val (.int i1), .val (.int i2), .val (.int i3), .val (.int (1 : Int32)), .val (.ref b14), .val (.ref b17), .unset] [(.ref b14)])
    refine OGo.astore (pc' := 29) C17 X18 at_27 rfl rfl (l' := #[.val (.int i0), .val (.int i1), .val (.int i2), .val (.int i3), .val (.int (1 : Int32)), .val (.ref b14), .val (.ref b17), .val (.ref b14)]) rfl ?_
    refine OGo.aload (pc' := 31) C17 X18 at_29 rfl rfl rfl ?_
    refine OGo.ifnonnullYes (pc' := 36) C17 X18 at_31 (by decide) (by decide) ?_
    refine OGo.aload (pc' := 38) C17 X18 at_36 rfl rfl rfl ?_
    refine OGo.aload (pc' := 40) C17 X18 at_38 rfl rfl rfl ?_
    have f20 := (E14.keep K17)
    refine OGo.callV (pc' := 43) (cells' := 9) (slots' := 76) (argsL := [(.ref b14)]) (St := []) C17 X18 (wd59 hw) (wd60 hw) (wd62 hw) (wd61 hw) (by decide) f20 (wd63 hw) (wd6 hw) (ctEqS hw X18.2.1 b14) (lenOf pd12 rfl) rfl at_40 rfl rfl (by decide) (Nat.le_of_ble_eq_true rfl) rfl rfl (by decide) (by decide) (fun v19 T19 h19 Q19 X19 z19 => ?_)
    obtain ⟨hv19, hh19⟩ := Q19
    subst hv19; rw [hh19] at X19
    show OGo p e below _ T19 (mkF m 43 #[.val (.int i0), .val (.int i1), .val (.int i2), .val (.int i3), .val (.int (1 : Int32)), .val (.ref b14), .val (.ref b17), .val (.ref b14)] [(.int (1 : Int32))])
    refine OGo.ifYes (pc' := 48) C17 X19 at_43 (feq (by decide : ¬ (1 : Int32) = (0 : Int32))).2 (by decide) (by decide) ?_
    refine OGo.aload (pc' := 50) C17 X19 at_48 rfl rfl rfl ?_
    have f21 := (F14v.keep K17 nin0)
    have f22 := (F14c.keep K17 nin0)
    have f23 := (V14.keep K17 nin0)
    have f24 := (f16.keep K17 all0)
    refine OGo.callV (pc' := 53) (cells' := 9) (slots' := 76) (argsL := []) (St := []) C17 X19 (wd64 hw) (wd65 hw) (wd67 hw) (wd66 hw) (by decide) f20 (wd68 hw) (wd6 hw) (ctLen1 hw X19.2.1 b14 t14 k14 vs14 cz f20 f21 f22 f23 f24 S2 hcz) (lenOf pd13 rfl) rfl at_50 rfl rfl (by decide) (Nat.le_of_ble_eq_true rfl) rfl rfl (by decide) (by decide) (fun v25 T25 h25 Q25 X25 z25 => ?_)
    obtain ⟨hv25, hh25⟩ := Q25
    subst hv25; rw [hh25] at X25
    show OGo p e below _ T25 (mkF m 53 #[.val (.int i0), .val (.int i1), .val (.int i2), .val (.int i3), .val (.int (1 : Int32)), .val (.ref b14), .val (.ref b17), .val (.ref b14)] [(.int (1 : Int32))])
    refine OGo.iload (pc' := 55) C17 X25 at_53 rfl rfl ?_
    refine OGo.icmpYes (pc' := 60) C17 X25 at_55 (teq (by decide : (1 : Int32) = (1 : Int32))).1 (by decide) (by decide) ?_
    refine OGo.aload (pc' := 62) C17 X25 at_60 rfl rfl rfl ?_
    refine OGo.callV (pc' := 65) (cells' := 9) (slots' := 76) (argsL := []) (St := []) C17 X25 (wd75 hw) (wd76 hw) (wd78 hw) (wd77 hw) (by decide) E17 (wd79 hw) (wd28 hw) (ct13 hw X25.2.1 b17 em F17b) (lenOf pd7 rfl) rfl at_62 rfl rfl (by decide) (Nat.le_of_ble_eq_true rfl) rfl rfl (by decide) (by decide) (fun v26 T26 h26 Q26 X26 z26 => ?_)
    obtain ⟨hv26, hh26⟩ := Q26
    subst hv26; rw [hh26] at X26
    show OGo p e below _ T26 (mkF m 65 #[.val (.int i0), .val (.int i1), .val (.int i2), .val (.int i3), .val (.int (1 : Int32)), .val (.ref b14), .val (.ref b17), .val (.ref b14)] [(.ref em)])
    refine OGo.callI (pc' := 70) (cells' := 9) (slots' := 76) (argsL := []) (St := []) C17 X26 (wd80 hw) (wd81 hw) (wd82 hw) (wd83 hw) (wd84 hw) (wd85 hw) (wd86 hw) (wd87 hw) (by decide) rfl (Em.ext f24.2) (wd89 hw) (wd88 hw) (ct14 hw X26.2.1 em (Sm.ext f24.2)) (lenOf pd14 rfl) rfl at_65 rfl rfl (by decide) (Nat.le_of_ble_eq_true rfl) rfl rfl (by decide) (by decide) (fun v27 T27 h27 Q27 X27 z27 => ?_)
    obtain ⟨hv27, hh27⟩ := Q27
    subst hv27; rw [hh27] at X27
    show OGo p e below _ T27 (mkF m 70 #[.val (.int i0), .val (.int i1), .val (.int i2), .val (.int i3), .val (.int (1 : Int32)), .val (.ref b14), .val (.ref b17), .val (.ref b14)] [(.int (1 : Int32))])
    exact OGo.retWN C17 X27 (ew hw) Hd17 at_70 hret (by simp) (z' := (1 : Int32)) (by decide) hlk (rfl) (by decide) (by decide)
  · refine OGo.istore (pc' := 5) C X0 at_3 rfl (l' := #[.val (.int i0), .val (.int i1), .val (.int i2), .val (.int i3), .val (.int (2 : Int32)), .unset, .unset, .unset]) rfl ?_
    refine OGo.iload (pc' := 7) C X0 at_5 rfl rfl ?_
    refine OGo.iloadN (pc' := 8) C X0 at_7 rfl rfl ?_
    refine OGo.iloadN (pc' := 9) C X0 at_8 rfl rfl ?_
    refine OGo.iloadN (pc' := 10) C X0 at_9 rfl rfl ?_
    refine OGo.callS (pc' := 13) (cells' := 6) (slots' := 32) (argsL := [(.int (2 : Int32)), (.int i1), (.int i2), (.int i3)]) (St := []) C X0 (wd0 hw) (wd1 hw) (by decide) (wd3 hw) (wd2 hw) (ctStr2 hw X0.2.1 i1 i2 i3 cz OD S2 hcz) (lenOf pd9 rfl) rfl at_10 rfl rfl (by decide) (Nat.le_of_ble_eq_true rfl) rfl rfl (by decide) (by decide) (fun v28 T28 h28 Q28 X28 z28 => ?_)
    obtain ⟨b28, t28, k28, vs28, hv28, K28, E28, F28c, F28v, V28⟩ := Q28
    subst hv28
    have Hd29 := H0.keep K28 all0
    show OGo p e below _ T28 (mkF m 13 #[.val (.int i0), .val (.int i1), .val (.int i2), .val (.int i3), .val (.int (2 : Int32)), .unset, .unset, .unset] [(.ref b28)])
    refine OGo.astore (pc' := 15) C X28 at_13 rfl rfl (l' := #[.val (.int i0), .val (.int i1), .val (.int i2), .val (.int i3), .val (.int (2 : Int32)), .val (.ref b28), .unset, .unset]) rfl ?_
    refine OGo.aload (pc' := 17) C X28 at_15 rfl rfl rfl ?_
    have f30 := (OD.keep K28 all0)
    refine OGo.callWS (pc' := 20) (cells' := 9) (slots' := 76) (argsL := [(.ref b28)]) (St := []) C X28 (ew hw) Hd29 (wd26 hw) (wd27 hw) (by decide) (wd29 hw) (wd28 hw) (ct5 hw X28.2.1 b28 em f30 Sm1 E28) (fun _ hx => by cases hx) (lenOf pd10 rfl) rfl at_17 rfl rfl (by decide) (Nat.le_of_ble_eq_true rfl) rfl rfl (by decide) (by decide) (fun v31 vm31 T31 h31 Q31 C31 X31 Hd31 R31 => ?_)
    obtain ⟨b31, hv31, K31, E31, F31a, F31b⟩ := Q31
    subst hv31
    show OGo p e below _ T31 (mkF m 20 #[.val (.int i0), .val (.int i1), .val (.int i2), .val (.int i3), .val (.int (2 : Int32)), .val (.ref b28), .unset, .unset] [(.ref b31)])
    refine OGo.astore (pc' := 22) C31 X31 at_20 rfl rfl (l' := #[.val (.int i0), .val (.int i1), .val (.int i2), .val (.int i3), .val (.int (2 : Int32)), .val (.ref b28), .val (.ref b31), .unset]) rfl ?_
    refine OGo.aload (pc' := 24) C31 X31 at_22 rfl rfl rfl ?_
    refine OGo.callV (pc' := 27) (cells' := 9) (slots' := 76) (argsL := []) (St := []) C31 X31 (wd54 hw) (wd55 hw) (wd57 hw) (wd56 hw) (by decide) E31 (wd58 hw) (wd28 hw) (ct9 hw X31.2.1 b31 b28 F31a) (lenOf pd11 rfl) rfl at_24 rfl rfl (by decide) (Nat.le_of_ble_eq_true rfl) rfl rfl (by decide) (by decide) (fun v32 T32 h32 Q32 X32 z32 => ?_)
    obtain ⟨hv32, hh32⟩ := Q32
    subst hv32; rw [hh32] at X32
    show OGo p e below _ T32 (mkF m 27 #[.val (.int i0), .val (.int i1), .val (.int i2), .val (.int i3), .val (.int (2 : Int32)), .val (.ref b28), .val (.ref b31), .unset] [(.ref b28)])
    refine OGo.astore (pc' := 29) C31 X32 at_27 rfl rfl (l' := #[.val (.int i0), .val (.int i1), .val (.int i2), .val (.int i3), .val (.int (2 : Int32)), .val (.ref b28), .val (.ref b31), .val (.ref b28)]) rfl ?_
    refine OGo.aload (pc' := 31) C31 X32 at_29 rfl rfl rfl ?_
    refine OGo.ifnonnullYes (pc' := 36) C31 X32 at_31 (by decide) (by decide) ?_
    refine OGo.aload (pc' := 38) C31 X32 at_36 rfl rfl rfl ?_
    refine OGo.aload (pc' := 40) C31 X32 at_38 rfl rfl rfl ?_
    have f34 := (E28.keep K31)
    refine OGo.callV (pc' := 43) (cells' := 9) (slots' := 76) (argsL := [(.ref b28)]) (St := []) C31 X32 (wd59 hw) (wd60 hw) (wd62 hw) (wd61 hw) (by decide) f34 (wd63 hw) (wd6 hw) (ctEqS hw X32.2.1 b28) (lenOf pd12 rfl) rfl at_40 rfl rfl (by decide) (Nat.le_of_ble_eq_true rfl) rfl rfl (by decide) (by decide) (fun v33 T33 h33 Q33 X33 z33 => ?_)
    obtain ⟨hv33, hh33⟩ := Q33
    subst hv33; rw [hh33] at X33
    show OGo p e below _ T33 (mkF m 43 #[.val (.int i0), .val (.int i1), .val (.int i2), .val (.int i3), .val (.int (2 : Int32)), .val (.ref b28), .val (.ref b31), .val (.ref b28)] [(.int (1 : Int32))])
    refine OGo.ifYes (pc' := 48) C31 X33 at_43 (feq (by decide : ¬ (1 : Int32) = (0 : Int32))).2 (by decide) (by decide) ?_
    refine OGo.aload (pc' := 50) C31 X33 at_48 rfl rfl rfl ?_
    have f35 := (F28v.keep K31 nin0)
    have f36 := (F28c.keep K31 nin0)
    have f37 := (V28.keep K31 nin0)
    have f38 := (f30.keep K31 all0)
    refine OGo.callV (pc' := 53) (cells' := 9) (slots' := 76) (argsL := []) (St := []) C31 X33 (wd64 hw) (wd65 hw) (wd67 hw) (wd66 hw) (by decide) f34 (wd68 hw) (wd6 hw) (ctLen2 hw X33.2.1 b28 t28 k28 vs28 cz f34 f35 f36 f37 f38 S2 hcz) (lenOf pd13 rfl) rfl at_50 rfl rfl (by decide) (Nat.le_of_ble_eq_true rfl) rfl rfl (by decide) (by decide) (fun v39 T39 h39 Q39 X39 z39 => ?_)
    obtain ⟨hv39, hh39⟩ := Q39
    subst hv39; rw [hh39] at X39
    show OGo p e below _ T39 (mkF m 53 #[.val (.int i0), .val (.int i1), .val (.int i2), .val (.int i3), .val (.int (2 : Int32)), .val (.ref b28), .val (.ref b31), .val (.ref b28)] [(.int (2 : Int32))])
    refine OGo.iload (pc' := 55) C31 X39 at_53 rfl rfl ?_
    refine OGo.icmpYes (pc' := 60) C31 X39 at_55 (teq (by decide : (2 : Int32) = (2 : Int32))).1 (by decide) (by decide) ?_
    refine OGo.aload (pc' := 62) C31 X39 at_60 rfl rfl rfl ?_
    refine OGo.callV (pc' := 65) (cells' := 9) (slots' := 76) (argsL := []) (St := []) C31 X39 (wd75 hw) (wd76 hw) (wd78 hw) (wd77 hw) (by decide) E31 (wd79 hw) (wd28 hw) (ct13 hw X39.2.1 b31 em F31b) (lenOf pd7 rfl) rfl at_62 rfl rfl (by decide) (Nat.le_of_ble_eq_true rfl) rfl rfl (by decide) (by decide) (fun v40 T40 h40 Q40 X40 z40 => ?_)
    obtain ⟨hv40, hh40⟩ := Q40
    subst hv40; rw [hh40] at X40
    show OGo p e below _ T40 (mkF m 65 #[.val (.int i0), .val (.int i1), .val (.int i2), .val (.int i3), .val (.int (2 : Int32)), .val (.ref b28), .val (.ref b31), .val (.ref b28)] [(.ref em)])
    refine OGo.callI (pc' := 70) (cells' := 9) (slots' := 76) (argsL := []) (St := []) C31 X40 (wd80 hw) (wd81 hw) (wd82 hw) (wd83 hw) (wd84 hw) (wd85 hw) (wd86 hw) (wd87 hw) (by decide) rfl (Em.ext f38.2) (wd89 hw) (wd88 hw) (ct14 hw X40.2.1 em (Sm.ext f38.2)) (lenOf pd14 rfl) rfl at_65 rfl rfl (by decide) (Nat.le_of_ble_eq_true rfl) rfl rfl (by decide) (by decide) (fun v41 T41 h41 Q41 X41 z41 => ?_)
    obtain ⟨hv41, hh41⟩ := Q41
    subst hv41; rw [hh41] at X41
    show OGo p e below _ T41 (mkF m 70 #[.val (.int i0), .val (.int i1), .val (.int i2), .val (.int i3), .val (.int (2 : Int32)), .val (.ref b28), .val (.ref b31), .val (.ref b28)] [(.int (1 : Int32))])
    exact OGo.retWN C31 X41 (ew hw) Hd31 at_70 hret (by simp) (z' := (1 : Int32)) (by decide) hlk (rfl) (by decide) (by decide)
  · refine OGo.istore (pc' := 5) C X0 at_3 rfl (l' := #[.val (.int i0), .val (.int i1), .val (.int i2), .val (.int i3), .val (.int (3 : Int32)), .unset, .unset, .unset]) rfl ?_
    refine OGo.iload (pc' := 7) C X0 at_5 rfl rfl ?_
    refine OGo.iloadN (pc' := 8) C X0 at_7 rfl rfl ?_
    refine OGo.iloadN (pc' := 9) C X0 at_8 rfl rfl ?_
    refine OGo.iloadN (pc' := 10) C X0 at_9 rfl rfl ?_
    refine OGo.callS (pc' := 13) (cells' := 6) (slots' := 32) (argsL := [(.int (3 : Int32)), (.int i1), (.int i2), (.int i3)]) (St := []) C X0 (wd0 hw) (wd1 hw) (by decide) (wd3 hw) (wd2 hw) (ctStr3 hw X0.2.1 i1 i2 i3 cz OD S2 hcz) (lenOf pd9 rfl) rfl at_10 rfl rfl (by decide) (Nat.le_of_ble_eq_true rfl) rfl rfl (by decide) (by decide) (fun v42 T42 h42 Q42 X42 z42 => ?_)
    obtain ⟨b42, t42, k42, vs42, hv42, K42, E42, F42c, F42v, V42⟩ := Q42
    subst hv42
    have Hd43 := H0.keep K42 all0
    show OGo p e below _ T42 (mkF m 13 #[.val (.int i0), .val (.int i1), .val (.int i2), .val (.int i3), .val (.int (3 : Int32)), .unset, .unset, .unset] [(.ref b42)])
    refine OGo.astore (pc' := 15) C X42 at_13 rfl rfl (l' := #[.val (.int i0), .val (.int i1), .val (.int i2), .val (.int i3), .val (.int (3 : Int32)), .val (.ref b42), .unset, .unset]) rfl ?_
    refine OGo.aload (pc' := 17) C X42 at_15 rfl rfl rfl ?_
    have f44 := (OD.keep K42 all0)
    refine OGo.callWS (pc' := 20) (cells' := 9) (slots' := 76) (argsL := [(.ref b42)]) (St := []) C X42 (ew hw) Hd43 (wd26 hw) (wd27 hw) (by decide) (wd29 hw) (wd28 hw) (ct5 hw X42.2.1 b42 em f44 Sm1 E42) (fun _ hx => by cases hx) (lenOf pd10 rfl) rfl at_17 rfl rfl (by decide) (Nat.le_of_ble_eq_true rfl) rfl rfl (by decide) (by decide) (fun v45 vm45 T45 h45 Q45 C45 X45 Hd45 R45 => ?_)
    obtain ⟨b45, hv45, K45, E45, F45a, F45b⟩ := Q45
    subst hv45
    show OGo p e below _ T45 (mkF m 20 #[.val (.int i0), .val (.int i1), .val (.int i2), .val (.int i3), .val (.int (3 : Int32)), .val (.ref b42), .unset, .unset] [(.ref b45)])
    refine OGo.astore (pc' := 22) C45 X45 at_20 rfl rfl (l' := #[.val (.int i0), .val (.int i1), .val (.int i2), .val (.int i3), .val (.int (3 : Int32)), .val (.ref b42), .val (.ref b45), .unset]) rfl ?_
    refine OGo.aload (pc' := 24) C45 X45 at_22 rfl rfl rfl ?_
    refine OGo.callV (pc' := 27) (cells' := 9) (slots' := 76) (argsL := []) (St := []) C45 X45 (wd54 hw) (wd55 hw) (wd57 hw) (wd56 hw) (by decide) E45 (wd58 hw) (wd28 hw) (ct9 hw X45.2.1 b45 b42 F45a) (lenOf pd11 rfl) rfl at_24 rfl rfl (by decide) (Nat.le_of_ble_eq_true rfl) rfl rfl (by decide) (by decide) (fun v46 T46 h46 Q46 X46 z46 => ?_)
    obtain ⟨hv46, hh46⟩ := Q46
    subst hv46; rw [hh46] at X46
    show OGo p e below _ T46 (mkF m 27 #[.val (.int i0), .val (.int i1), .val (.int i2), .val (.int i3), .val (.int (3 : Int32)), .val (.ref b42), .val (.ref b45), .unset] [(.ref b42)])
    refine OGo.astore (pc' := 29) C45 X46 at_27 rfl rfl (l' := #[.val (.int i0), .val (.int i1), .val (.int i2), .val (.int i3), .val (.int (3 : Int32)), .val (.ref b42), .val (.ref b45), .val (.ref b42)]) rfl ?_
    refine OGo.aload (pc' := 31) C45 X46 at_29 rfl rfl rfl ?_
    refine OGo.ifnonnullYes (pc' := 36) C45 X46 at_31 (by decide) (by decide) ?_
    refine OGo.aload (pc' := 38) C45 X46 at_36 rfl rfl rfl ?_
    refine OGo.aload (pc' := 40) C45 X46 at_38 rfl rfl rfl ?_
    have f48 := (E42.keep K45)
    refine OGo.callV (pc' := 43) (cells' := 9) (slots' := 76) (argsL := [(.ref b42)]) (St := []) C45 X46 (wd59 hw) (wd60 hw) (wd62 hw) (wd61 hw) (by decide) f48 (wd63 hw) (wd6 hw) (ctEqS hw X46.2.1 b42) (lenOf pd12 rfl) rfl at_40 rfl rfl (by decide) (Nat.le_of_ble_eq_true rfl) rfl rfl (by decide) (by decide) (fun v47 T47 h47 Q47 X47 z47 => ?_)
    obtain ⟨hv47, hh47⟩ := Q47
    subst hv47; rw [hh47] at X47
    show OGo p e below _ T47 (mkF m 43 #[.val (.int i0), .val (.int i1), .val (.int i2), .val (.int i3), .val (.int (3 : Int32)), .val (.ref b42), .val (.ref b45), .val (.ref b42)] [(.int (1 : Int32))])
    refine OGo.ifYes (pc' := 48) C45 X47 at_43 (feq (by decide : ¬ (1 : Int32) = (0 : Int32))).2 (by decide) (by decide) ?_
    refine OGo.aload (pc' := 50) C45 X47 at_48 rfl rfl rfl ?_
    have f49 := (F42v.keep K45 nin0)
    have f50 := (F42c.keep K45 nin0)
    have f51 := (V42.keep K45 nin0)
    have f52 := (f44.keep K45 all0)
    refine OGo.callV (pc' := 53) (cells' := 9) (slots' := 76) (argsL := []) (St := []) C45 X47 (wd64 hw) (wd65 hw) (wd67 hw) (wd66 hw) (by decide) f48 (wd68 hw) (wd6 hw) (ctLen3 hw X47.2.1 b42 t42 k42 vs42 cz f48 f49 f50 f51 f52 S2 hcz) (lenOf pd13 rfl) rfl at_50 rfl rfl (by decide) (Nat.le_of_ble_eq_true rfl) rfl rfl (by decide) (by decide) (fun v53 T53 h53 Q53 X53 z53 => ?_)
    obtain ⟨hv53, hh53⟩ := Q53
    subst hv53; rw [hh53] at X53
    show OGo p e below _ T53 (mkF m 53 #[.val (.int i0), .val (.int i1), .val (.int i2), .val (.int i3), .val (.int (3 : Int32)), .val (.ref b42), .val (.ref b45), .val (.ref b42)] [(.int (3 : Int32))])
    refine OGo.iload (pc' := 55) C45 X53 at_53 rfl rfl ?_
    refine OGo.icmpYes (pc' := 60) C45 X53 at_55 (teq (by decide : (3 : Int32) = (3 : Int32))).1 (by decide) (by decide) ?_
    refine OGo.aload (pc' := 62) C45 X53 at_60 rfl rfl rfl ?_
    refine OGo.callV (pc' := 65) (cells' := 9) (slots' := 76) (argsL := []) (St := []) C45 X53 (wd75 hw) (wd76 hw) (wd78 hw) (wd77 hw) (by decide) E45 (wd79 hw) (wd28 hw) (ct13 hw X53.2.1 b45 em F45b) (lenOf pd7 rfl) rfl at_62 rfl rfl (by decide) (Nat.le_of_ble_eq_true rfl) rfl rfl (by decide) (by decide) (fun v54 T54 h54 Q54 X54 z54 => ?_)
    obtain ⟨hv54, hh54⟩ := Q54
    subst hv54; rw [hh54] at X54
    show OGo p e below _ T54 (mkF m 65 #[.val (.int i0), .val (.int i1), .val (.int i2), .val (.int i3), .val (.int (3 : Int32)), .val (.ref b42), .val (.ref b45), .val (.ref b42)] [(.ref em)])
    refine OGo.callI (pc' := 70) (cells' := 9) (slots' := 76) (argsL := []) (St := []) C45 X54 (wd80 hw) (wd81 hw) (wd82 hw) (wd83 hw) (wd84 hw) (wd85 hw) (wd86 hw) (wd87 hw) (by decide) rfl (Em.ext f52.2) (wd89 hw) (wd88 hw) (ct14 hw X54.2.1 em (Sm.ext f52.2)) (lenOf pd14 rfl) rfl at_65 rfl rfl (by decide) (Nat.le_of_ble_eq_true rfl) rfl rfl (by decide) (by decide) (fun v55 T55 h55 Q55 X55 z55 => ?_)
    obtain ⟨hv55, hh55⟩ := Q55
    subst hv55; rw [hh55] at X55
    show OGo p e below _ T55 (mkF m 70 #[.val (.int i0), .val (.int i1), .val (.int i2), .val (.int i3), .val (.int (3 : Int32)), .val (.ref b42), .val (.ref b45), .val (.ref b42)] [(.int (1 : Int32))])
    exact OGo.retWN C45 X55 (ew hw) Hd45 at_70 hret (by simp) (z' := (1 : Int32)) (by decide) hlk (rfl) (by decide) (by decide)
set_option maxRecDepth 65536 in
set_option maxHeartbeats 40000000 in
theorem comes_1 {Post : Tables → Env → Array Value → State → Outcome → State → Prop} (hpost : ∀ tb e args s v u, (limb_1_1.after args s (.returned v) u = true ∧ limb_1_2.after args s (.returned v) u = true ∧ True) → FramedW s (.returned v) u (Jvm.fieldLocs frame_1_writes args s ++ Jvm.arrayLocs frame_1_arrays args s ++ Jvm.staticLocs frame_1_statics s) 24 2176 → Post tb e args s (.returned v) u) :
    ArmFor flags0 classFile x code maxLocals ret World_1 tables_1 room_1 Calls_1 rest_1 Pre_1 Post := by
  intro l hfl _ _ p e ha hc hk s m args below hf hA hF happ hP
  obtain ⟨hcalls, hrest, hpre⟩ := hP
  obtain ⟨-, -, -, hnamed, -, -, -, hat⟩ := (Spec.applies_iff hf).mp happ
  obtain ⟨hg, hn⟩ := and_e (Cond.before_iff.mp (show (Jvm.Cond.and given_1 narrow_1).before args s = true from hpre))
  obtain ⟨g1, g2⟩ := and_e hg
  obtain ⟨g3, g4⟩ := and_e g2
  obtain ⟨g5, g6⟩ := and_e g4
  obtain ⟨g7, g8⟩ := and_e g6
  obtain ⟨w0, w1, w2, w3, rfl⟩ : ∃ w0 w1 w2 w3 : Value, args = #[w0, w1, w2, w3] := by
    have hs : args.size = 4 := by simpa [Cond.value, given_1] using g1
    obtain ⟨L⟩ := args
    match L, hs with
    | [w0, w1, w2, w3], _ => exact ⟨w0, w1, w2, w3, rfl⟩
  have hw := fun d (hd : d ∈ tables_1) => atoms_spec (ws := Jvm.Cond.code x code maxLocals ret :: tables_1) hat d (List.mem_cons_of_mem _ hd)
  have hfit : Fit s := fun {y c} hc i hi => by
    obtain ⟨ha, rfl⟩ := Array.getElem?_eq_some_iff.mp hc
    have q := List.all_eq_true.mp ((Array.all_eq_true_iff_forall_mem.mp hF) _ (Array.getElem_mem ha)) i (List.mem_range.mpr hi)
    simpa [Array.getElem?_eq_getElem hi] using q
  obtain ⟨hsets, hown0⟩ := atoms_of _ (rest_1_c_eq ▸ (show rest_1_c.before _ s = true from hrest))
  obtain ⟨i0, ei0⟩ := is_v g3
  obtain rfl : w0 = (.int i0) := Option.some.inj ei0
  obtain ⟨i1, ei1⟩ := is_v g5
  obtain rfl : w1 = (.int i1) := Option.some.inj ei1
  obtain ⟨i2, ei2⟩ := is_v g7
  obtain rfl : w2 = (.int i2) := Option.some.inj ei2
  obtain ⟨i3, ei3⟩ := is_v g8
  obtain rfl : w3 = (.int i3) := Option.some.inj ei3
  obtain ⟨em, cz, S1, Em, Sm, S2, hcz⟩ := own_sets hsets (wd43 hw)
  obtain ⟨n, o, h1, h2, h3, _, L, rfl, ⟨⟨rfl, -⟩, N⟩, hC, hq⟩ := ct0 (l := l) (Z := s) hw (n0 := s.heap.size) (h0 := s.heap) (Nat.le_refl _) i0 i1 i2 i3 em cz (Old.start s) S1 Em Sm S2 hcz tables_1 p e ha hc hk s m _ below hf ((Spec.applies_iff_loose hf).mp happ).1 ⟨rfl, State.Warmed39.refl s, rfl, (CHv.start (ew hw) hcalls.1 (hsets _ (List.mem_of_getElem? (i := 9) rfl)) (wd19 hw) (wd5 hw)), fun _ hx => by cases hx⟩ trivial
  refine ⟨n, _, h1, h2, h3, hpost _ _ _ _ _ _ ⟨Cond.after_iff.mpr rfl, Cond.after_iff.mpr (eq_i res_at (Term.int_eval (1)) rfl), trivial⟩ ⟨hq.1, hq.2.1, hq.2.2.1, (hq.2.2.2.sift fun y hy => Or.inr (N y hy)).mono (by decide) (by decide)⟩⟩
theorem main_1_1 : Claimed_1_1 := comes_1 fun _ _ _ _ _ _ h hF => ⟨h.1, hF⟩
theorem main_1_2 : Claimed_1_2 := comes_1 fun _ _ _ _ _ _ h hF => ⟨h.2.1, hF⟩
end Jvm.Pilot.@@N@@
namespace Jvm.Pilot.@@N@@
open Jvm Jvm.ClassFile Sem Op Lib Jvm.Free Jvm.Stand Jvm.Pilot.@@N@@.Jvm.D
/-! MADE BY PROGRAM (witnessworld.py) out of the Statement's table words and the real class files: 27 classes; the members and pool entries that the words name. The judged class is class 1, her method 2. -/
namespace start1
open Jvm.ClassFile
def u (s : String) : CpInfo := .utf8 (stringToUtf16 s)
/-- a pool by its gaps: so many unusable entries, then the entry; so many at the end -/
def gap : Nat → List CpInfo → List CpInfo
  | 0, r => r
  | n + 1, r => .unusable :: gap n r
def poolList (es : List (Nat × CpInfo)) (last : Nat) : List CpInfo := es.foldr (fun e r => gap e.1 (e.2 :: r)) (gap last [])
def pool (es : List (Nat × CpInfo)) (last : Nat) : Array CpInfo := ⟨poolList es last⟩
def fileOf (pool : Array CpInfo) (this : Nat) (attrs : Array Attribute := #[]) (ms : Array MethodInfo := #[]) (fl : Nat := 33) (sup : Nat := 0) (ifs : Array Nat := #[]) (fds : Array FieldInfo := #[]) : ClassFile where
  minorVersion := 0
  majorVersion := 65
  constantPool := pool
  accessFlags := fl
  thisClass := this
  superClass := sup
  interfaces := ifs
  fields := fds
  methods := ms
  attributes := attrs
def plain (name : String) (sup : Option ClassId) : Class where
  name := name
  kind := .ordinary
  loader := none
  accessFlags := 33
  super := sup
  interfaces := #[]
  cf := none
  fields := #[]
  methods := #[]
  instanceTypes := #[]
  staticTypes := #[]
  resolved := #[]
  callSites := []
  init := .initialized
  statics := none
  mirror := none

def pool0 : Array CpInfo := pool [(5, u "<init>"), (0, u "()V"), (1, .class_ 10), (1, u "java/lang/Object")] 113

def k0c0 : Code := { maxStack := 0, maxLocals := 1, code := object_method_1_code, exceptionTable := #[], attributes := #[] }
def k0m0 : Method := { name := "<init>", desc := "()V", sig := { parameters := [], returnType := none }, accessFlags := 1, code := some k0c0 }
/-- java/lang/Object -/
def k0 : Class := { plain "java/lang/Object" none with
  accessFlags := 33
  interfaces := #[]
  cf := some (fileOf pool0 8 #[] #[{ accessFlags := 1, nameIndex := 5, descriptorIndex := 6, attributes := #[] }] 33 0 #[] #[])
  fields := #[]
  methods := #[k0m0]
  instanceTypes := #[]
  staticTypes := #[]
  resolved := Array.replicate 124 none
  statics := none }

def pool1 : Array CpInfo := pool [(2, .class_ 4), (1, u "java/lang/Object"), (0, u "<init>"), (0, u "()V"), (0, .class_ 8), (0, u "java/lang/String"), (0, .methodref 7 10), (0, .nameAndType 5 11), (0, u "([C)V"), (0, .methodref 13 14), (0, .class_ 15), (0, .nameAndType 16 17), (0, u "com/example/chainmail/chainmail/NavigationContextOfPinLaw"), (0, u "str"), (0, u "(IIII)Ljava/lang/String;"), (0, .methodref 19 20), (0, .class_ 21), (0, .nameAndType 22 23), (0, u "com/example/chainmail/chainmail/NavigationContext"), (0, u "of"), (0, u "(Ljava/lang/String;)Lcom/example/chainmail/chainmail/NavigationContext;"), (0, .methodref 19 25), (0, .nameAndType 26 27), (0, u "path"), (0, u "()Ljava/lang/String;"), (0, .methodref 7 29), (0, .nameAndType 30 31), (0, u "equals"), (0, u "(Ljava/lang/Object;)Z"), (0, .methodref 7 33), (0, .nameAndType 34 35), (0, u "length"), (0, u "()I"), (0, .methodref 19 37), (0, .nameAndType 38 39), (0, u "queryParameters"), (0, u "()Ljava/util/Map;"), (0, .interfaceMethodref 41 42), (0, .class_ 43), (0, .nameAndType 44 45), (0, u "java/util/Map"), (0, u "isEmpty"), (0, u "()Z"), (3, u "law"), (0, u "(IIII)Z")] 2

def k1m0 : Method := { name := "<init>", desc := "()V", sig := { parameters := [], returnType := none }, accessFlags := 1, code := none }
def k1c1 : Code := { maxStack := 3, maxLocals := 8, code := method_2_code, exceptionTable := #[], attributes := #[] }
def k1m1 : Method := { name := "str", desc := "(IIII)Ljava/lang/String;", sig := { parameters := [.int, .int, .int, .int], returnType := some (.object "java/lang/String") }, accessFlags := 10, code := some k1c1 }
def k1c2 : Code := { maxStack := 4, maxLocals := 8, code := code, exceptionTable := #[], attributes := #[] }
def k1m2 : Method := { name := "law", desc := "(IIII)Z", sig := { parameters := [.int, .int, .int, .int], returnType := some .boolean }, accessFlags := 9, code := some k1c2 }
/-- com/example/chainmail/chainmail/NavigationContextOfPinLaw -/
def k1 : Class := { plain "com/example/chainmail/chainmail/NavigationContextOfPinLaw" (some 0) with
  accessFlags := 49
  interfaces := #[]
  cf := some (fileOf pool1 13 #[] #[{ accessFlags := 1, nameIndex := 5, descriptorIndex := 6, attributes := #[] }, { accessFlags := 10, nameIndex := 16, descriptorIndex := 17, attributes := #[] }, { accessFlags := 9, nameIndex := 49, descriptorIndex := 50, attributes := #[] }] 49 2 #[] #[])
  fields := #[]
  methods := #[k1m0, k1m1, k1m2]
  instanceTypes := #[]
  staticTypes := #[]
  resolved := Array.replicate 53 none
  statics := none }

def pool2 : Array CpInfo := pool [(1, .class_ 2), (0, u "java/io/Serializable"), (0, .class_ 4), (0, u "java/lang/Object")] 2

/-- java/io/Serializable -/
def k2 : Class := { plain "java/io/Serializable" (some 0) with
  accessFlags := 1537
  interfaces := #[]
  cf := some (fileOf pool2 1 #[] #[] 1537 3 #[] #[])
  fields := #[]
  methods := #[]
  instanceTypes := #[]
  staticTypes := #[]
  resolved := Array.replicate 7 none
  statics := none }

def pool3 : Array CpInfo := pool [(1, .class_ 2), (0, u "java/lang/Comparable"), (0, .class_ 4), (0, u "java/lang/Object")] 7

/-- java/lang/Comparable -/
def k3 : Class := { plain "java/lang/Comparable" (some 0) with
  accessFlags := 1537
  interfaces := #[]
  cf := some (fileOf pool3 1 #[] #[] 1537 3 #[] #[])
  fields := #[]
  methods := #[]
  instanceTypes := #[]
  staticTypes := #[]
  resolved := Array.replicate 12 none
  statics := none }

def pool4 : Array CpInfo := pool [(2, .class_ 4), (1, u "java/lang/CharSequence"), (42, .class_ 48), (0, u "java/lang/CharSequence$1CodePointIterator"), (10, .class_ 60), (0, u "java/lang/CharSequence$1CharIterator"), (5, .class_ 67), (0, u "java/lang/Object")] 63

/-- java/lang/CharSequence -/
def k4 : Class := { plain "java/lang/CharSequence" (some 0) with
  accessFlags := 1537
  interfaces := #[]
  cf := some (fileOf pool4 2 #[.nestMembers #[47, 59]] #[] 1537 66 #[] #[])
  fields := #[]
  methods := #[]
  instanceTypes := #[]
  staticTypes := #[]
  resolved := Array.replicate 131 none
  statics := none }

def pool5 : Array CpInfo := pool [(1, .class_ 2), (0, u "java/lang/constant/Constable"), (0, .class_ 4), (0, u "java/lang/Object")] 6

/-- java/lang/constant/Constable -/
def k5 : Class := { plain "java/lang/constant/Constable" (some 0) with
  accessFlags := 1537
  interfaces := #[]
  cf := some (fileOf pool5 1 #[] #[] 1537 3 #[] #[])
  fields := #[]
  methods := #[]
  instanceTypes := #[]
  staticTypes := #[]
  resolved := Array.replicate 11 none
  statics := none }

def pool6 : Array CpInfo := pool [(1, .class_ 2), (0, u "java/lang/constant/ConstantDesc"), (0, .class_ 4), (0, u "java/lang/Object")] 32

/-- java/lang/constant/ConstantDesc -/
def k6 : Class := { plain "java/lang/constant/ConstantDesc" (some 0) with
  accessFlags := 1537
  interfaces := #[]
  cf := some (fileOf pool6 1 #[] #[] 1537 3 #[] #[])
  fields := #[]
  methods := #[]
  instanceTypes := #[]
  staticTypes := #[]
  resolved := Array.replicate 37 none
  statics := none }

def pool7 : Array CpInfo := pool [(1, .methodref 2 3), (0, .class_ 4), (0, .nameAndType 5 6), (0, u "java/lang/Object"), (0, u "<init>"), (0, u "()V"), (0, .string 8), (0, u ""), (0, .fieldref 10 11), (0, .class_ 12), (0, .nameAndType 13 14), (0, u "java/lang/String"), (0, u "value"), (0, u "[B"), (0, .fieldref 10 16), (0, .nameAndType 17 18), (0, u "coder"), (0, u "B"), (2, u "hash"), (0, u "I"), (2, u "hashIsZero"), (0, u "Z"), (0, .methodref 10 28), (0, .nameAndType 5 29), (0, u "([CIILjava/lang/Void;)V"), (8, .fieldref 10 39), (0, .nameAndType 40 26), (0, u "COMPACT_STRINGS"), (1, .class_ 44), (1, u "java/lang/StringUTF16"), (0, u "compress"), (1, .methodref 42 48), (0, .nameAndType 49 50), (0, u "coderFromArrayLen"), (0, u "([BI)B"), (126, .methodref 42 178), (0, .nameAndType 45 179), (0, u "([CII)[B"), (154, u "()I"), (0, .methodref 10 336), (0, .nameAndType 17 337), (0, u "()B"), (169, u "length"), (35, u "equals"), (29, u "(Ljava/lang/Object;)Z"), (1, .class_ 576), (0, u "java/lang/CharSequence"), (22, u "CASE_INSENSITIVE_ORDER"), (0, u "Ljava/util/Comparator;"), (409, u "([C)V"), (90, u "serialPersistentFields"), (0, u "[Ljava/io/ObjectStreamField;"), (0, .class_ 1104), (0, u "java/lang/String$CaseInsensitiveComparator"), (1, .class_ 1107), (0, u "java/io/Serializable"), (0, .class_ 1109), (0, u "java/lang/Comparable"), (0, .class_ 1111), (0, u "java/lang/constant/Constable"), (0, .class_ 1113), (0, u "java/lang/constant/ConstantDesc"), (2, u "serialVersionUID"), (0, u "J"), (3, u "REPL"), (0, u "C"), (2, u "LATIN1"), (1, u "UTF16")] 323

def k7m0 : Method := { name := "<init>", desc := "()V", sig := { parameters := [], returnType := none }, accessFlags := 1, code := none }
def k7c1 : Code := { maxStack := 5, maxLocals := 2, code := jdk_42_method_3_code, exceptionTable := #[], attributes := #[] }
def k7m1 : Method := { name := "<init>", desc := "([C)V", sig := { parameters := [(.array .char)], returnType := none }, accessFlags := 1, code := some k7c1 }
def k7c2 : Code := { maxStack := 2, maxLocals := 1, code := jdk_42_method_54_code, exceptionTable := #[], attributes := #[] }
def k7m2 : Method := { name := "length", desc := "()I", sig := { parameters := [], returnType := some .int }, accessFlags := 1, code := some k7c2 }
def k7c3 : Code := { maxStack := 2, maxLocals := 3, code := jdk_42_method_66_code, exceptionTable := #[], attributes := #[] }
def k7m3 : Method := { name := "equals", desc := "(Ljava/lang/Object;)Z", sig := { parameters := [(.object "java/lang/Object")], returnType := some .boolean }, accessFlags := 1, code := some k7c3 }
def k7c4 : Code := { maxStack := 4, maxLocals := 6, code := jdk_42_method_149_code, exceptionTable := #[], attributes := #[] }
def k7m4 : Method := { name := "<init>", desc := "([CIILjava/lang/Void;)V", sig := { parameters := [(.array .char), .int, .int, (.object "java/lang/Void")], returnType := none }, accessFlags := 2, code := some k7c4 }
def k7c5 : Code := { maxStack := 1, maxLocals := 1, code := jdk_42_method_152_code, exceptionTable := #[], attributes := #[] }
def k7m5 : Method := { name := "coder", desc := "()B", sig := { parameters := [], returnType := some .byte }, accessFlags := 0, code := some k7c5 }
/-- java/lang/String -/
def k7 : Class := { plain "java/lang/String" (some 0) with
  accessFlags := 49
  interfaces := #[2, 3, 4, 5, 6]
  cf := some (fileOf pool7 10 #[.nestMembers #[1103]] #[{ accessFlags := 1, nameIndex := 5, descriptorIndex := 6, attributes := #[] }, { accessFlags := 1, nameIndex := 5, descriptorIndex := 1010, attributes := #[] }, { accessFlags := 1, nameIndex := 507, descriptorIndex := 334, attributes := #[] }, { accessFlags := 1, nameIndex := 543, descriptorIndex := 573, attributes := #[] }, { accessFlags := 2, nameIndex := 5, descriptorIndex := 29, attributes := #[] }, { accessFlags := 0, nameIndex := 17, descriptorIndex := 337, attributes := #[] }] 49 2 #[1106, 1108, 575, 1110, 1112] #[{ accessFlags := 18, nameIndex := 13, descriptorIndex := 14, attributes := #[] }, { accessFlags := 18, nameIndex := 17, descriptorIndex := 18, attributes := #[] }, { accessFlags := 2, nameIndex := 21, descriptorIndex := 22, attributes := #[] }, { accessFlags := 2, nameIndex := 25, descriptorIndex := 26, attributes := #[] }, { accessFlags := 26, nameIndex := 1116, descriptorIndex := 1117, attributes := #[] }, { accessFlags := 24, nameIndex := 40, descriptorIndex := 26, attributes := #[] }, { accessFlags := 26, nameIndex := 1101, descriptorIndex := 1102, attributes := #[] }, { accessFlags := 26, nameIndex := 1121, descriptorIndex := 1122, attributes := #[] }, { accessFlags := 25, nameIndex := 599, descriptorIndex := 600, attributes := #[] }, { accessFlags := 24, nameIndex := 1125, descriptorIndex := 18, attributes := #[] }, { accessFlags := 24, nameIndex := 1127, descriptorIndex := 18, attributes := #[] }])
  fields := #[{ name := "value", type := (.array .byte), accessFlags := 18, slot := 0, constantValue := 0 }, { name := "coder", type := .byte, accessFlags := 18, slot := 1, constantValue := 0 }, { name := "hash", type := .int, accessFlags := 2, slot := 2, constantValue := 0 }, { name := "hashIsZero", type := .boolean, accessFlags := 2, slot := 3, constantValue := 0 }, { name := "serialVersionUID", type := .long, accessFlags := 26, slot := 0, constantValue := 0 }, { name := "COMPACT_STRINGS", type := .boolean, accessFlags := 24, slot := 1, constantValue := 0 }, { name := "serialPersistentFields", type := (.array (.object "java/io/ObjectStreamField")), accessFlags := 26, slot := 2, constantValue := 0 }, { name := "REPL", type := .char, accessFlags := 26, slot := 3, constantValue := 0 }, { name := "CASE_INSENSITIVE_ORDER", type := (.object "java/util/Comparator"), accessFlags := 25, slot := 4, constantValue := 0 }, { name := "LATIN1", type := .byte, accessFlags := 24, slot := 5, constantValue := 0 }, { name := "UTF16", type := .byte, accessFlags := 24, slot := 6, constantValue := 0 }]
  methods := #[k7m0, k7m1, k7m2, k7m3, k7m4, k7m5]
  instanceTypes := #[(.array .byte), .byte, .int, .boolean]
  staticTypes := #[.long, .boolean, (.array (.object "java/io/ObjectStreamField")), .char, (.object "java/util/Comparator"), .byte, .byte]
  resolved := Array.replicate 1451 none
  statics := some 0 }

def pool8 : Array CpInfo := pool [(1, .methodref 2 3), (0, .class_ 4), (0, .nameAndType 5 6), (0, u "java/lang/Object"), (0, u "<init>"), (0, u "()V"), (0, .fieldref 8 9), (0, .class_ 10), (0, .nameAndType 11 12), (0, u "com/example/chainmail/chainmail/NavigationContext"), (0, u "path"), (0, u "Ljava/lang/String;"), (0, .fieldref 8 14), (0, .nameAndType 15 12), (0, u "query"), (0, .fieldref 8 17), (0, .nameAndType 18 19), (0, u "given"), (0, u "Ljava/util/Map;"), (0, .string 21), (0, u "Null path"), (0, .methodref 23 24), (0, .class_ 25), (0, .nameAndType 26 27), (0, u "java/util/Objects"), (0, u "requireNonNull"), (0, u "(Ljava/lang/Object;Ljava/lang/String;)Ljava/lang/Object;"), (0, .class_ 29), (0, u "java/lang/String"), (0, .interfaceMethodref 31 32), (0, .class_ 33), (0, .nameAndType 34 35), (0, u "java/util/Map"), (0, u "of"), (0, u "()Ljava/util/Map;"), (0, .methodref 8 37), (0, .nameAndType 5 38), (0, u "(Ljava/lang/String;Ljava/lang/String;Ljava/util/Map;)V"), (14, .fieldref 8 54), (0, .nameAndType 55 19), (0, u "decoded"), (116, u "(Ljava/lang/String;)Lcom/example/chainmail/chainmail/NavigationContext;"), (6, u "()Ljava/lang/String;"), (0, u "queryParameters")] 38

def k8c0 : Code := { maxStack := 2, maxLocals := 4, code := prog_5_method_1_code, exceptionTable := #[], attributes := #[] }
def k8m0 : Method := { name := "<init>", desc := "(Ljava/lang/String;Ljava/lang/String;Ljava/util/Map;)V", sig := { parameters := [(.object "java/lang/String"), (.object "java/lang/String"), (.object "java/util/Map")], returnType := none }, accessFlags := 2, code := some k8c0 }
def k8c1 : Code := { maxStack := 5, maxLocals := 1, code := prog_5_method_2_code, exceptionTable := #[], attributes := #[] }
def k8m1 : Method := { name := "of", desc := "(Ljava/lang/String;)Lcom/example/chainmail/chainmail/NavigationContext;", sig := { parameters := [(.object "java/lang/String")], returnType := some (.object "com/example/chainmail/chainmail/NavigationContext") }, accessFlags := 9, code := some k8c1 }
def k8c2 : Code := { maxStack := 1, maxLocals := 1, code := prog_5_method_6_code, exceptionTable := #[], attributes := #[] }
def k8m2 : Method := { name := "path", desc := "()Ljava/lang/String;", sig := { parameters := [], returnType := some (.object "java/lang/String") }, accessFlags := 1, code := some k8c2 }
def k8c3 : Code := { maxStack := 2, maxLocals := 2, code := prog_5_method_7_code, exceptionTable := #[], attributes := #[] }
def k8m3 : Method := { name := "queryParameters", desc := "()Ljava/util/Map;", sig := { parameters := [], returnType := some (.object "java/util/Map") }, accessFlags := 1, code := some k8c3 }
/-- com/example/chainmail/chainmail/NavigationContext -/
def k8 : Class := { plain "com/example/chainmail/chainmail/NavigationContext" (some 0) with
  accessFlags := 49
  interfaces := #[]
  cf := some (fileOf pool8 8 #[] #[{ accessFlags := 2, nameIndex := 5, descriptorIndex := 38, attributes := #[] }, { accessFlags := 9, nameIndex := 34, descriptorIndex := 172, attributes := #[] }, { accessFlags := 1, nameIndex := 11, descriptorIndex := 179, attributes := #[] }, { accessFlags := 1, nameIndex := 180, descriptorIndex := 35, attributes := #[] }] 49 2 #[] #[{ accessFlags := 18, nameIndex := 11, descriptorIndex := 12, attributes := #[] }, { accessFlags := 18, nameIndex := 15, descriptorIndex := 12, attributes := #[] }, { accessFlags := 18, nameIndex := 18, descriptorIndex := 19, attributes := #[] }, { accessFlags := 66, nameIndex := 55, descriptorIndex := 19, attributes := #[] }])
  fields := #[{ name := "path", type := (.object "java/lang/String"), accessFlags := 18, slot := 0, constantValue := 0 }, { name := "query", type := (.object "java/lang/String"), accessFlags := 18, slot := 1, constantValue := 0 }, { name := "given", type := (.object "java/util/Map"), accessFlags := 18, slot := 2, constantValue := 0 }, { name := "decoded", type := (.object "java/util/Map"), accessFlags := 66, slot := 3, constantValue := 0 }]
  methods := #[k8m0, k8m1, k8m2, k8m3]
  instanceTypes := #[(.object "java/lang/String"), (.object "java/lang/String"), (.object "java/util/Map"), (.object "java/util/Map")]
  staticTypes := #[]
  resolved := Array.replicate 219 none
  statics := none }

def pool9 : Array CpInfo := pool [(2, .class_ 4), (1, u "java/lang/Object"), (0, u "<init>"), (0, u "()V"), (35, .class_ 44), (1, u "java/util/Objects"), (0, u "requireNonNull"), (48, u "(Ljava/lang/Object;Ljava/lang/String;)Ljava/lang/Object;")] 89

def k9m0 : Method := { name := "<init>", desc := "()V", sig := { parameters := [], returnType := none }, accessFlags := 2, code := none }
def k9c1 : Code := { maxStack := 3, maxLocals := 2, code := jdk_31_method_11_code, exceptionTable := #[], attributes := #[] }
def k9m1 : Method := { name := "requireNonNull", desc := "(Ljava/lang/Object;Ljava/lang/String;)Ljava/lang/Object;", sig := { parameters := [(.object "java/lang/Object"), (.object "java/lang/String")], returnType := some (.object "java/lang/Object") }, accessFlags := 9, code := some k9c1 }
/-- java/util/Objects -/
def k9 : Class := { plain "java/util/Objects" (some 0) with
  accessFlags := 49
  interfaces := #[]
  cf := some (fileOf pool9 42 #[] #[{ accessFlags := 2, nameIndex := 5, descriptorIndex := 6, attributes := #[] }, { accessFlags := 9, nameIndex := 45, descriptorIndex := 94, attributes := #[] }] 49 2 #[] #[])
  fields := #[]
  methods := #[k9m0, k9m1]
  instanceTypes := #[]
  staticTypes := #[]
  resolved := Array.replicate 184 none
  statics := none }

def pool10 : Array CpInfo := pool [(2, .class_ 4), (1, u "java/util/Map"), (26, u "()Z"), (4, .class_ 37), (0, u "java/util/Map$Entry"), (43, .fieldref 82 83), (0, .class_ 84), (0, .nameAndType 85 86), (0, u "java/util/ImmutableCollections"), (0, u "EMPTY_MAP"), (0, u "Ljava/util/ImmutableCollections$MapN;"), (6, .class_ 94), (0, u "java/lang/Object"), (10, u "isEmpty"), (2, u "of"), (0, u "()Ljava/util/Map;")] 153

def k10m0 : Method := { name := "isEmpty", desc := "()Z", sig := { parameters := [], returnType := some .boolean }, accessFlags := 1025, code := none }
def k10c1 : Code := { maxStack := 1, maxLocals := 0, code := jdk_72_method_26_code, exceptionTable := #[], attributes := #[] }
def k10m1 : Method := { name := "of", desc := "()Ljava/util/Map;", sig := { parameters := [], returnType := some (.object "java/util/Map") }, accessFlags := 9, code := some k10c1 }
/-- java/util/Map -/
def k10 : Class := { plain "java/util/Map" (some 0) with
  accessFlags := 1537
  interfaces := #[]
  cf := some (fileOf pool10 2 #[.nestMembers #[36]] #[{ accessFlags := 1025, nameIndex := 105, descriptorIndex := 31, attributes := #[] }, { accessFlags := 9, nameIndex := 108, descriptorIndex := 109, attributes := #[] }] 1537 93 #[] #[])
  fields := #[]
  methods := #[k10m0, k10m1]
  instanceTypes := #[]
  staticTypes := #[]
  resolved := Array.replicate 263 none
  statics := none }

def pool11 : Array CpInfo := pool [(2, .class_ 4), (1, u "java/lang/Object"), (0, u "<init>"), (0, u "()V"), (3, .class_ 11), (0, u "java/util/ImmutableCollections$List12"), (0, .class_ 13), (0, u "java/util/ImmutableCollections$ListN"), (3, u "Z"), (29, .class_ 49), (1, u "java/util/ImmutableCollections"), (0, u "$assertionsDisabled"), (5, u "[Ljava/lang/Object;"), (5, u "EMPTY_LIST"), (0, u "Ljava/util/ImmutableCollections$ListN;"), (8, u "EMPTY_LIST_NULLS"), (22, u "SALT32L"), (0, u "J"), (2, u "REVERSE"), (6, u "archivedObjects"), (2, u "EMPTY"), (0, u "Ljava/lang/Object;"), (0, .class_ 112), (0, u "java/util/ImmutableCollections$SetN"), (5, u "EMPTY_SET"), (0, u "Ljava/util/ImmutableCollections$SetN;"), (0, .class_ 121), (0, u "java/util/ImmutableCollections$MapN"), (3, u "EMPTY_MAP"), (0, u "Ljava/util/ImmutableCollections$MapN;"), (4, u "EXPAND_FACTOR"), (0, u "I"), (36, .class_ 170), (0, u "java/util/ImmutableCollections$MapN$MapNIterator"), (0, .class_ 172), (0, u "java/util/ImmutableCollections$MapN$1"), (0, .class_ 174), (0, u "java/util/ImmutableCollections$Map1"), (0, .class_ 176), (0, u "java/util/ImmutableCollections$AbstractImmutableMap"), (0, .class_ 178), (0, u "java/util/ImmutableCollections$SetN$SetNIterator"), (0, .class_ 180), (0, u "java/util/ImmutableCollections$Set12"), (0, .class_ 182), (0, u "java/util/ImmutableCollections$Set12$1"), (0, .class_ 184), (0, u "java/util/ImmutableCollections$AbstractImmutableSet"), (0, .class_ 186), (0, u "java/util/ImmutableCollections$SubList"), (0, .class_ 188), (0, u "java/util/ImmutableCollections$ListItr"), (0, .class_ 190), (0, u "java/util/ImmutableCollections$AbstractImmutableList"), (0, .class_ 192), (0, u "java/util/ImmutableCollections$AbstractImmutableCollection"), (0, .class_ 194), (0, u "java/util/ImmutableCollections$Access"), (0, .class_ 196), (0, u "java/util/ImmutableCollections$Access$1")] 16

def k11m0 : Method := { name := "<init>", desc := "()V", sig := { parameters := [], returnType := none }, accessFlags := 2, code := none }
/-- java/util/ImmutableCollections -/
def k11 : Class := { plain "java/util/ImmutableCollections" (some 0) with
  accessFlags := 32
  interfaces := #[]
  cf := some (fileOf pool11 47 #[.nestMembers #[120, 169, 171, 173, 175, 111, 177, 179, 181, 183, 12, 10, 185, 187, 189, 191, 193, 195]] #[{ accessFlags := 2, nameIndex := 5, descriptorIndex := 6, attributes := #[] }] 32 2 #[] #[{ accessFlags := 26, nameIndex := 95, descriptorIndex := 96, attributes := #[] }, { accessFlags := 26, nameIndex := 99, descriptorIndex := 17, attributes := #[] }, { accessFlags := 10, nameIndex := 106, descriptorIndex := 56, attributes := #[] }, { accessFlags := 26, nameIndex := 109, descriptorIndex := 110, attributes := #[] }, { accessFlags := 24, nameIndex := 62, descriptorIndex := 63, attributes := #[] }, { accessFlags := 24, nameIndex := 72, descriptorIndex := 63, attributes := #[] }, { accessFlags := 24, nameIndex := 118, descriptorIndex := 119, attributes := #[] }, { accessFlags := 24, nameIndex := 125, descriptorIndex := 126, attributes := #[] }, { accessFlags := 24, nameIndex := 131, descriptorIndex := 132, attributes := #[] }, { accessFlags := 4120, nameIndex := 50, descriptorIndex := 17, attributes := #[] }])
  fields := #[{ name := "SALT32L", type := .long, accessFlags := 26, slot := 0, constantValue := 0 }, { name := "REVERSE", type := .boolean, accessFlags := 26, slot := 1, constantValue := 0 }, { name := "archivedObjects", type := (.array (.object "java/lang/Object")), accessFlags := 10, slot := 2, constantValue := 0 }, { name := "EMPTY", type := (.object "java/lang/Object"), accessFlags := 26, slot := 3, constantValue := 0 }, { name := "EMPTY_LIST", type := (.object "java/util/ImmutableCollections$ListN"), accessFlags := 24, slot := 4, constantValue := 0 }, { name := "EMPTY_LIST_NULLS", type := (.object "java/util/ImmutableCollections$ListN"), accessFlags := 24, slot := 5, constantValue := 0 }, { name := "EMPTY_SET", type := (.object "java/util/ImmutableCollections$SetN"), accessFlags := 24, slot := 6, constantValue := 0 }, { name := "EMPTY_MAP", type := (.object "java/util/ImmutableCollections$MapN"), accessFlags := 24, slot := 7, constantValue := 0 }, { name := "EXPAND_FACTOR", type := .int, accessFlags := 24, slot := 8, constantValue := 0 }, { name := "$assertionsDisabled", type := .boolean, accessFlags := 4120, slot := 9, constantValue := 0 }]
  methods := #[k11m0]
  instanceTypes := #[]
  staticTypes := #[.long, .boolean, (.array (.object "java/lang/Object")), (.object "java/lang/Object"), (.object "java/util/ImmutableCollections$ListN"), (.object "java/util/ImmutableCollections$ListN"), (.object "java/util/ImmutableCollections$SetN"), (.object "java/util/ImmutableCollections$MapN"), .int, .boolean]
  resolved := Array.replicate 213 none
  statics := some 1 }

def pool12 : Array CpInfo := pool [(2, .class_ 4), (1, u "java/lang/Object"), (0, u "<init>"), (0, u "()V"), (1, .class_ 10), (1, u "java/util/AbstractMap"), (42, .class_ 54), (0, u "java/util/Map"), (9, u "keySet"), (0, u "Ljava/util/Set;"), (0, .class_ 67), (0, u "java/util/AbstractMap$1"), (5, u "values"), (0, u "Ljava/util/Collection;"), (0, .class_ 76), (0, u "java/util/AbstractMap$2"), (104, .class_ 182), (0, u "java/util/AbstractMap$ViewCollection"), (0, .class_ 184), (0, u "java/util/AbstractMap$SimpleImmutableEntry"), (0, .class_ 186), (0, u "java/util/AbstractMap$SimpleEntry"), (0, .class_ 188), (0, u "java/util/AbstractMap$2$1"), (0, .class_ 190), (0, u "java/util/AbstractMap$1$1")] 5

def k12m0 : Method := { name := "<init>", desc := "()V", sig := { parameters := [], returnType := none }, accessFlags := 4, code := none }
/-- java/util/AbstractMap -/
def k12 : Class := { plain "java/util/AbstractMap" (some 0) with
  accessFlags := 1057
  interfaces := #[10]
  cf := some (fileOf pool12 8 #[.nestMembers #[181, 183, 185, 75, 187, 66, 189]] #[{ accessFlags := 4, nameIndex := 5, descriptorIndex := 6, attributes := #[] }] 1057 2 #[53] #[{ accessFlags := 128, nameIndex := 64, descriptorIndex := 65, attributes := #[] }, { accessFlags := 128, nameIndex := 73, descriptorIndex := 74, attributes := #[] }])
  fields := #[{ name := "keySet", type := (.object "java/util/Set"), accessFlags := 128, slot := 0, constantValue := 0 }, { name := "values", type := (.object "java/util/Collection"), accessFlags := 128, slot := 1, constantValue := 0 }]
  methods := #[k12m0]
  instanceTypes := #[(.object "java/util/Set"), (.object "java/util/Collection")]
  staticTypes := #[]
  resolved := Array.replicate 196 none
  statics := none }

def pool13 : Array CpInfo := pool [(2, .class_ 4), (1, u "java/util/AbstractMap"), (0, u "<init>"), (0, u "()V"), (1, .class_ 10), (1, u "java/util/ImmutableCollections"), (3, .class_ 16), (1, u "java/util/ImmutableCollections$AbstractImmutableMap"), (2, .class_ 20), (0, u "java/io/Serializable")] 66

def k13m0 : Method := { name := "<init>", desc := "()V", sig := { parameters := [], returnType := none }, accessFlags := 0, code := none }
/-- java/util/ImmutableCollections$AbstractImmutableMap -/
def k13 : Class := { plain "java/util/ImmutableCollections$AbstractImmutableMap" (some 12) with
  accessFlags := 1056
  interfaces := #[2]
  cf := some (fileOf pool13 14 #[.nestHost 8] #[{ accessFlags := 0, nameIndex := 5, descriptorIndex := 6, attributes := #[] }] 1056 2 #[19] #[])
  fields := #[]
  methods := #[k13m0]
  instanceTypes := #[(.object "java/util/Set"), (.object "java/util/Collection")]
  staticTypes := #[]
  resolved := Array.replicate 87 none
  statics := none }

def pool14 : Array CpInfo := pool [(1, .class_ 2), (0, u "java/util/ImmutableCollections"), (1, .class_ 6), (1, u "java/util/ImmutableCollections$AbstractImmutableMap"), (9, .fieldref 17 18), (0, .class_ 19), (0, .nameAndType 20 21), (0, u "java/util/ImmutableCollections$MapN"), (0, u "size"), (0, u "I"), (4, u "table"), (0, u "[Ljava/lang/Object;"), (87, u "isEmpty"), (0, u "()Z")] 32

def k14c0 : Code := { maxStack := 1, maxLocals := 1, code := jdk_2605_method_7_code, exceptionTable := #[], attributes := #[] }
def k14m0 : Method := { name := "isEmpty", desc := "()Z", sig := { parameters := [], returnType := some .boolean }, accessFlags := 1, code := some k14c0 }
/-- java/util/ImmutableCollections$MapN -/
def k14 : Class := { plain "java/util/ImmutableCollections$MapN" (some 13) with
  accessFlags := 48
  interfaces := #[]
  cf := some (fileOf pool14 17 #[.nestHost 1] #[{ accessFlags := 1, nameIndex := 115, descriptorIndex := 116, attributes := #[] }] 48 4 #[] #[{ accessFlags := 16, nameIndex := 26, descriptorIndex := 27, attributes := #[] }, { accessFlags := 16, nameIndex := 20, descriptorIndex := 21, attributes := #[] }])
  fields := #[{ name := "table", type := (.array (.object "java/lang/Object")), accessFlags := 16, slot := 2, constantValue := 0 }, { name := "size", type := .int, accessFlags := 16, slot := 3, constantValue := 0 }]
  methods := #[k14m0]
  instanceTypes := #[(.object "java/util/Set"), (.object "java/util/Collection"), (.array (.object "java/lang/Object")), .int]
  staticTypes := #[]
  resolved := Array.replicate 149 none
  statics := none }

def pool15 : Array CpInfo := pool [(6, .class_ 8), (1, u "java/lang/Object"), (0, u "<init>"), (0, u "()V"), (1, .class_ 14), (1, u "java/lang/StringUTF16"), (31, u "$assertionsDisabled"), (0, u "Z"), (13, u "HI_BYTE_SHIFT"), (0, u "I"), (2, u "LO_BYTE_SHIFT"), (49, .methodref 12 116), (0, .nameAndType 117 118), (0, u "compress"), (0, u "([CI[BII)I"), (3, u "([CII)[B"), (138, u "coderFromArrayLen"), (0, u "([BI)B"), (106, .class_ 371), (1, u "java/lang/StringUTF16$LinesSpliterator"), (58, u "MAX_LENGTH"), (196, .class_ 628), (0, u "java/lang/StringUTF16$CodePointsSpliterator"), (0, .class_ 630), (0, u "java/lang/StringUTF16$CharsSpliterator")] 4

def k15m0 : Method := { name := "<init>", desc := "()V", sig := { parameters := [], returnType := none }, accessFlags := 0, code := none }
def k15c1 : Code := { maxStack := 2, maxLocals := 2, code := jdk_52_method_15_code, exceptionTable := #[], attributes := #[] }
def k15m1 : Method := { name := "coderFromArrayLen", desc := "([BI)B", sig := { parameters := [(.array .byte), .int], returnType := some .byte }, accessFlags := 8, code := some k15c1 }
def k15c2 : Code := { maxStack := 5, maxLocals := 6, code := jdk_52_method_16_code, exceptionTable := #[], attributes := #[] }
def k15m2 : Method := { name := "compress", desc := "([CII)[B", sig := { parameters := [(.array .char), .int, .int], returnType := some (.array .byte) }, accessFlags := 9, code := some k15c2 }
def k15c3 : Code := { maxStack := 3, maxLocals := 7, code := jdk_52_method_21_code, exceptionTable := #[], attributes := #[] }
def k15m3 : Method := { name := "compress", desc := "([CI[BII)I", sig := { parameters := [(.array .char), .int, (.array .byte), .int, .int], returnType := some .int }, accessFlags := 9, code := some k15c3 }
/-- java/lang/StringUTF16 -/
def k15 : Class := { plain "java/lang/StringUTF16" (some 0) with
  accessFlags := 48
  interfaces := #[]
  cf := some (fileOf pool15 12 #[.nestMembers #[627, 629, 369]] #[{ accessFlags := 0, nameIndex := 9, descriptorIndex := 10, attributes := #[] }, { accessFlags := 8, nameIndex := 261, descriptorIndex := 262, attributes := #[] }, { accessFlags := 9, nameIndex := 117, descriptorIndex := 122, attributes := #[] }, { accessFlags := 9, nameIndex := 117, descriptorIndex := 118, attributes := #[] }] 48 6 #[] #[{ accessFlags := 26, nameIndex := 61, descriptorIndex := 62, attributes := #[] }, { accessFlags := 26, nameIndex := 65, descriptorIndex := 62, attributes := #[] }, { accessFlags := 24, nameIndex := 430, descriptorIndex := 62, attributes := #[] }, { accessFlags := 4120, nameIndex := 46, descriptorIndex := 47, attributes := #[] }])
  fields := #[{ name := "HI_BYTE_SHIFT", type := .int, accessFlags := 26, slot := 0, constantValue := 0 }, { name := "LO_BYTE_SHIFT", type := .int, accessFlags := 26, slot := 1, constantValue := 0 }, { name := "MAX_LENGTH", type := .int, accessFlags := 24, slot := 2, constantValue := 0 }, { name := "$assertionsDisabled", type := .boolean, accessFlags := 4120, slot := 3, constantValue := 0 }]
  methods := #[k15m0, k15m1, k15m2, k15m3]
  instanceTypes := #[]
  staticTypes := #[.int, .int, .int, .boolean]
  resolved := Array.replicate 635 none
  statics := none }

def pool16 : Array CpInfo := pool [(4, .class_ 6), (1, u "java/lang/Object"), (0, u "<init>"), (0, u "()V"), (5, .class_ 16), (1, u "java/lang/StringLatin1"), (104, u "$assertionsDisabled"), (0, u "Z"), (98, .class_ 223), (1, u "java/lang/StringLatin1$LinesSpliterator"), (166, .class_ 391), (0, u "java/lang/StringLatin1$CharsSpliterator")] 3

def k16m0 : Method := { name := "<init>", desc := "()V", sig := { parameters := [], returnType := none }, accessFlags := 0, code := none }
/-- java/lang/StringLatin1 -/
def k16 : Class := { plain "java/lang/StringLatin1" (some 0) with
  accessFlags := 48
  interfaces := #[]
  cf := some (fileOf pool16 14 #[.nestMembers #[390, 221]] #[{ accessFlags := 0, nameIndex := 7, descriptorIndex := 8, attributes := #[] }] 48 4 #[] #[{ accessFlags := 4120, nameIndex := 121, descriptorIndex := 122, attributes := #[] }])
  fields := #[{ name := "$assertionsDisabled", type := .boolean, accessFlags := 4120, slot := 0, constantValue := 0 }]
  methods := #[k16m0]
  instanceTypes := #[]
  staticTypes := #[.boolean]
  resolved := Array.replicate 395 none
  statics := none }

def pool17 : Array CpInfo := pool [(2, .class_ 4), (1, u "java/lang/Object"), (0, u "<init>"), (0, u "()V"), (17, .class_ 26), (1, u "jdk/internal/util/Preconditions"), (28, .class_ 56), (0, u "jdk/internal/util/Preconditions$4"), (57, .class_ 115), (0, u "jdk/internal/util/Preconditions$1"), (7, u "SIOOBE_FORMATTER"), (0, u "Ljava/util/function/BiFunction;"), (0, .class_ 126), (0, u "jdk/internal/util/Preconditions$2"), (3, u "AIOOBE_FORMATTER"), (0, .class_ 132), (0, u "jdk/internal/util/Preconditions$3"), (3, u "IOOBE_FORMATTER")] 57

def k17m0 : Method := { name := "<init>", desc := "()V", sig := { parameters := [], returnType := none }, accessFlags := 1, code := none }
/-- jdk/internal/util/Preconditions -/
def k17 : Class := { plain "jdk/internal/util/Preconditions" (some 0) with
  accessFlags := 33
  interfaces := #[]
  cf := some (fileOf pool17 24 #[.nestMembers #[55, 131, 125, 114]] #[{ accessFlags := 1, nameIndex := 5, descriptorIndex := 6, attributes := #[] }] 33 2 #[] #[{ accessFlags := 25, nameIndex := 123, descriptorIndex := 124, attributes := #[] }, { accessFlags := 25, nameIndex := 130, descriptorIndex := 124, attributes := #[] }, { accessFlags := 25, nameIndex := 136, descriptorIndex := 124, attributes := #[] }])
  fields := #[{ name := "SIOOBE_FORMATTER", type := (.object "java/util/function/BiFunction"), accessFlags := 25, slot := 0, constantValue := 0 }, { name := "AIOOBE_FORMATTER", type := (.object "java/util/function/BiFunction"), accessFlags := 25, slot := 1, constantValue := 0 }, { name := "IOOBE_FORMATTER", type := (.object "java/util/function/BiFunction"), accessFlags := 25, slot := 2, constantValue := 0 }]
  methods := #[k17m0]
  instanceTypes := #[]
  staticTypes := #[(.object "java/util/function/BiFunction"), (.object "java/util/function/BiFunction"), (.object "java/util/function/BiFunction")]
  resolved := Array.replicate 194 none
  statics := some 2 }

def pool18 : Array CpInfo := pool [(9, u "<init>"), (6, .class_ 18), (1, u "java/lang/Object"), (0, u "()V"), (1, .class_ 23), (1, u "jdk/internal/util/ArraysSupport"), (0, u "LOG2_ARRAY_LONG_INDEX_SCALE"), (0, u "I"), (2, u "U"), (0, u "Ljdk/internal/misc/Unsafe;"), (8, u "BIG_ENDIAN"), (0, u "Z"), (8, u "LOG2_BYTE_BIT_SIZE"), (4, u "LOG2_ARRAY_INT_INDEX_SCALE"), (54, u "JLA"), (0, u "Ljdk/internal/access/JavaLangAccess;"), (11, u "LOG2_ARRAY_BOOLEAN_INDEX_SCALE"), (9, u "LOG2_ARRAY_BYTE_INDEX_SCALE"), (5, u "LOG2_ARRAY_CHAR_INDEX_SCALE"), (5, u "LOG2_ARRAY_SHORT_INDEX_SCALE"), (18, u "LOG2_ARRAY_FLOAT_INDEX_SCALE"), (24, u "LOG2_ARRAY_DOUBLE_INDEX_SCALE"), (89, u "T_BOOLEAN"), (2, u "T_CHAR"), (1, u "T_FLOAT"), (1, u "T_DOUBLE"), (1, u "T_BYTE"), (1, u "T_SHORT"), (1, u "T_INT"), (1, u "T_LONG"), (1, u "SOFT_MAX_ARRAY_LENGTH")] 83

def k18m0 : Method := { name := "<init>", desc := "()V", sig := { parameters := [], returnType := none }, accessFlags := 2, code := none }
/-- jdk/internal/util/ArraysSupport -/
def k18 : Class := { plain "jdk/internal/util/ArraysSupport" (some 0) with
  accessFlags := 33
  interfaces := #[]
  cf := some (fileOf pool18 21 #[] #[{ accessFlags := 2, nameIndex := 9, descriptorIndex := 19, attributes := #[] }] 33 16 #[] #[{ accessFlags := 24, nameIndex := 28, descriptorIndex := 29, attributes := #[] }, { accessFlags := 26, nameIndex := 38, descriptorIndex := 39, attributes := #[] }, { accessFlags := 25, nameIndex := 121, descriptorIndex := 25, attributes := #[] }, { accessFlags := 25, nameIndex := 131, descriptorIndex := 25, attributes := #[] }, { accessFlags := 25, nameIndex := 137, descriptorIndex := 25, attributes := #[] }, { accessFlags := 25, nameIndex := 143, descriptorIndex := 25, attributes := #[] }, { accessFlags := 25, nameIndex := 53, descriptorIndex := 25, attributes := #[] }, { accessFlags := 25, nameIndex := 24, descriptorIndex := 25, attributes := #[] }, { accessFlags := 25, nameIndex := 162, descriptorIndex := 25, attributes := #[] }, { accessFlags := 25, nameIndex := 187, descriptorIndex := 25, attributes := #[] }, { accessFlags := 26, nameIndex := 48, descriptorIndex := 25, attributes := #[] }, { accessFlags := 25, nameIndex := 277, descriptorIndex := 25, attributes := #[] }, { accessFlags := 25, nameIndex := 280, descriptorIndex := 25, attributes := #[] }, { accessFlags := 25, nameIndex := 282, descriptorIndex := 25, attributes := #[] }, { accessFlags := 25, nameIndex := 284, descriptorIndex := 25, attributes := #[] }, { accessFlags := 25, nameIndex := 286, descriptorIndex := 25, attributes := #[] }, { accessFlags := 25, nameIndex := 288, descriptorIndex := 25, attributes := #[] }, { accessFlags := 25, nameIndex := 290, descriptorIndex := 25, attributes := #[] }, { accessFlags := 25, nameIndex := 292, descriptorIndex := 25, attributes := #[] }, { accessFlags := 26, nameIndex := 108, descriptorIndex := 109, attributes := #[] }, { accessFlags := 25, nameIndex := 294, descriptorIndex := 25, attributes := #[] }])
  fields := #[{ name := "U", type := (.object "jdk/internal/misc/Unsafe"), accessFlags := 24, slot := 0, constantValue := 0 }, { name := "BIG_ENDIAN", type := .boolean, accessFlags := 26, slot := 1, constantValue := 0 }, { name := "LOG2_ARRAY_BOOLEAN_INDEX_SCALE", type := .int, accessFlags := 25, slot := 2, constantValue := 0 }, { name := "LOG2_ARRAY_BYTE_INDEX_SCALE", type := .int, accessFlags := 25, slot := 3, constantValue := 0 }, { name := "LOG2_ARRAY_CHAR_INDEX_SCALE", type := .int, accessFlags := 25, slot := 4, constantValue := 0 }, { name := "LOG2_ARRAY_SHORT_INDEX_SCALE", type := .int, accessFlags := 25, slot := 5, constantValue := 0 }, { name := "LOG2_ARRAY_INT_INDEX_SCALE", type := .int, accessFlags := 25, slot := 6, constantValue := 0 }, { name := "LOG2_ARRAY_LONG_INDEX_SCALE", type := .int, accessFlags := 25, slot := 7, constantValue := 0 }, { name := "LOG2_ARRAY_FLOAT_INDEX_SCALE", type := .int, accessFlags := 25, slot := 8, constantValue := 0 }, { name := "LOG2_ARRAY_DOUBLE_INDEX_SCALE", type := .int, accessFlags := 25, slot := 9, constantValue := 0 }, { name := "LOG2_BYTE_BIT_SIZE", type := .int, accessFlags := 26, slot := 10, constantValue := 0 }, { name := "T_BOOLEAN", type := .int, accessFlags := 25, slot := 11, constantValue := 0 }, { name := "T_CHAR", type := .int, accessFlags := 25, slot := 12, constantValue := 0 }, { name := "T_FLOAT", type := .int, accessFlags := 25, slot := 13, constantValue := 0 }, { name := "T_DOUBLE", type := .int, accessFlags := 25, slot := 14, constantValue := 0 }, { name := "T_BYTE", type := .int, accessFlags := 25, slot := 15, constantValue := 0 }, { name := "T_SHORT", type := .int, accessFlags := 25, slot := 16, constantValue := 0 }, { name := "T_INT", type := .int, accessFlags := 25, slot := 17, constantValue := 0 }, { name := "T_LONG", type := .int, accessFlags := 25, slot := 18, constantValue := 0 }, { name := "JLA", type := (.object "jdk/internal/access/JavaLangAccess"), accessFlags := 26, slot := 19, constantValue := 0 }, { name := "SOFT_MAX_ARRAY_LENGTH", type := .int, accessFlags := 25, slot := 20, constantValue := 0 }]
  methods := #[k18m0]
  instanceTypes := #[]
  staticTypes := #[(.object "jdk/internal/misc/Unsafe"), .boolean, .int, .int, .int, .int, .int, .int, .int, .int, .int, .int, .int, .int, .int, .int, .int, .int, .int, (.object "jdk/internal/access/JavaLangAccess"), .int]
  resolved := Array.replicate 378 none
  statics := none }

def pool19 : Array CpInfo := pool [(1, u "java/lang/Cloneable"), (0, .class_ 1), (0, u "java/lang/Object"), (0, .class_ 3)] 3

/-- java/lang/Cloneable -/
def k19 : Class := { plain "java/lang/Cloneable" (some 0) with
  accessFlags := 1537
  interfaces := #[]
  cf := some (fileOf pool19 2 #[] #[] 1537 4 #[] #[])
  fields := #[]
  methods := #[]
  instanceTypes := #[]
  staticTypes := #[]
  resolved := Array.replicate 8 none
  statics := none }

/-- the primitive byte -/
def k20 : Class := { plain "byte" none with kind := .primitive 'B', accessFlags := 0x411 }
/-- [B -/
def k21 : Class := { plain "[B" (some 0) with kind := .array 20 .byte, interfaces := #[19, 2], accessFlags := 1041 }

/-- the primitive char -/
def k22 : Class := { plain "char" none with kind := .primitive 'C', accessFlags := 0x411 }
/-- [C -/
def k23 : Class := { plain "[C" (some 0) with kind := .array 22 .char, interfaces := #[19, 2], accessFlags := 1041 }

/-- the primitive int -/
def k24 : Class := { plain "int" none with kind := .primitive 'I', accessFlags := 0x411 }
/-- [I -/
def k25 : Class := { plain "[I" (some 0) with kind := .array 24 .int, interfaces := #[19, 2], accessFlags := 1041 }

/-- [Ljava/lang/Object; -/
def k26 : Class := { plain "[Ljava/lang/Object;" (some 0) with kind := .array 0 (.object "java/lang/Object"), interfaces := #[19, 2], accessFlags := 1041 }

def heap : Heap := #[{ cls := 7, slots := #[.long 0, .int 1, .null, .int 0, .null, .int 0, .int 0], vm := .statics 7 },
  { cls := 11, slots := #[.long 0, .int 0, .null, .null, .null, .null, .null, .ref 4, .int 0, .int 0], vm := .statics 11 },
  { cls := 17, slots := #[.null, .null, .null], vm := .statics 17 },
  { cls := 26, slots := #[], vm := .none },
  { cls := 14, slots := #[.null, .null, .ref 3, .int 0], vm := .none }]
def classes : Array Class := #[k0, k1, k2, k3, k4, k5, k6, k7, k8, k9, k10, k11, k12, k13, k14, k15, k16, k17, k18, k19, k20, k21, k22, k23, k24, k25, k26]
def interned : List (Array UInt16 × Addr) := []
def slotsUsed : Nat := 24
def theMethod : MethodId := ⟨1, 2⟩
def args0 : Array Value := #[.int 2, .int 65, .int 66, .int 67]
def aboutOver (below : List Frame) : State where
  vm := { classes := classes, interned := interned.toArray }
  heap := heap
  slotsUsed := slotsUsed
  threads := #[{ frames := .invoking theMethod args0 :: below }]
def below0 : List Frame := [.native { method := ⟨0, 0⟩, args := #[] }]
def about1 : State := aboutOver below0
def p0 : Program := .bare "" "" ""
def e0 : Env := launch0.env 0 0 0
theorem w_frames : about1.frames = Frame.invoking theMethod args0 :: below0 := rfl
set_option maxRecDepth 65536 in
theorem w_args : argsFit about1.vm theMethod args0 = true := by decide +kernel
set_option maxRecDepth 65536 in
theorem w_heap : heapFits about1 = true := by decide +kernel
set_option maxRecDepth 65536 in
theorem w_runnable : about1.curStatus? = some .runnable := by decide +kernel
set_option maxRecDepth 65536 in
theorem w_alone : about1.alone = true := by decide +kernel
set_option maxRecDepth 65536 in
theorem w_named : about1.methodNamed? x = some theMethod := by decide +kernel
set_option maxRecDepth 65536 in
theorem w_hears : about1.hears theMethod below0 = true := by decide +kernel
set_option maxRecDepth 65536 in
theorem w_ripe : about1.ripe theMethod args0 below0 = true := by decide +kernel
theorem w_running : about1.status = .running := rfl
set_option maxRecDepth 65536 in
theorem w_room : about1.hasRoom e0.platform room_1 = true :=
  launch0.hasRoom_least _ room_1 (by decide +kernel) (by decide +kernel) (by decide +kernel) (by decide +kernel) (by decide +kernel) (by decide +kernel)
theorem allAtoms_all (ts : List Jvm.Cond) (a : Array Jvm.Value) (st : Jvm.State) : (allAtoms ts).before a st = ts.all (fun c => c.before a st) := by
  induction ts with
  | nil => rfl
  | cons c t ih =>
    show (Jvm.Cond.and c (allAtoms t)).before a st = _
    rw [Jvm.Cond.before_and, ih, List.all_cons]
def words1 : List Jvm.Cond := Jvm.Cond.code x code maxLocals ret :: tables_1
/-- a 'code' word, met by the world's own term for the bytes: nothing is compared byte by byte -/
theorem code_word {y : MethodName} {bytes : ByteArray} {mx : Nat} {rt : Option FieldType} {a : Array Value} {s : State} {m : MethodId} {meth : Method} {c : Code} (h1 : s.methodNamed? y = some m) (h2 : s.vm.method? m = some meth) (h3 : meth.code = some c) (h4 : c.code = bytes)
    (h5 : (c.maxLocals == mx && c.exceptionTable.isEmpty && decide (c.maxStack ≤ mostOperands) && decide (meth.sig.returnType = rt) && !meth.locks && decide (parseMethodDescriptor y.desc = some meth.sig)) = true) : (Jvm.Cond.code y bytes mx rt).before a s = true := by
  simp only [Bool.and_eq_true, beq_iff_eq, Bool.not_eq_true', decide_eq_true_eq] at h5
  obtain ⟨⟨⟨⟨⟨g1, g2⟩, g3⟩, g4⟩, g5⟩, g6⟩ := h5
  simp [Cond.before, Cond.holds, Cond.value, h1, h2, h3, h4, g1, g2, g3, g4, g5, g6]
def isCode : Jvm.Cond → Bool
  | .code _ _ _ _ => true
  | _ => false
theorem all_split {L : List Jvm.Cond} {P : Jvm.Cond → Bool} (h1 : L.all (fun c => isCode c || P c) = true) (h2 : ∀ c ∈ L.filter isCode, P c = true) : L.all P = true := by
  refine List.all_eq_true.mpr fun c hc => ?_
  have h := List.all_eq_true.mp h1 c hc
  rcases Bool.eq_false_or_eq_true (isCode c) with hi | hi
  · exact h2 c (List.mem_filter.mpr ⟨hc, hi⟩)
  · simpa [hi] using h
set_option maxRecDepth 65536 in
theorem w_c0 : (Jvm.Cond.code x code maxLocals ret).before args0 about1 = true := code_word (m := ⟨1, 2⟩) (meth := k1m2) (c := k1c2) (by decide +kernel) rfl rfl rfl (by decide +kernel)
set_option maxRecDepth 65536 in
theorem w_c1 : (Jvm.Cond.code ({ cls := "com/example/chainmail/chainmail/NavigationContextOfPinLaw", name := "str", desc := "(IIII)Ljava/lang/String;" } : Jvm.MethodName) method_2_code (8 : Nat) (Option.some (Jvm.ClassFile.FieldType.object "java/lang/String"))).before args0 about1 = true := code_word (m := ⟨1, 1⟩) (meth := k1m1) (c := k1c1) (by decide +kernel) rfl rfl rfl (by decide +kernel)
set_option maxRecDepth 65536 in
theorem w_c2 : (Jvm.Cond.code ({ cls := "java/lang/String", name := "<init>", desc := "([C)V" } : Jvm.MethodName) jdk_42_method_3_code (2 : Nat) (Option.none : Option Jvm.ClassFile.FieldType)).before args0 about1 = true := code_word (m := ⟨7, 1⟩) (meth := k7m1) (c := k7c1) (by decide +kernel) rfl rfl rfl (by decide +kernel)
set_option maxRecDepth 65536 in
theorem w_c3 : (Jvm.Cond.code ({ cls := "java/lang/String", name := "<init>", desc := "([CIILjava/lang/Void;)V" } : Jvm.MethodName) jdk_42_method_149_code (6 : Nat) (Option.none : Option Jvm.ClassFile.FieldType)).before args0 about1 = true := code_word (m := ⟨7, 4⟩) (meth := k7m4) (c := k7c4) (by decide +kernel) rfl rfl rfl (by decide +kernel)
set_option maxRecDepth 65536 in
theorem w_c4 : (Jvm.Cond.code ({ cls := "java/lang/Object", name := "<init>", desc := "()V" } : Jvm.MethodName) object_method_1_code (1 : Nat) (Option.none : Option Jvm.ClassFile.FieldType)).before args0 about1 = true := code_word (m := ⟨0, 0⟩) (meth := k0m0) (c := k0c0) (by decide +kernel) rfl rfl rfl (by decide +kernel)
set_option maxRecDepth 65536 in
theorem w_c5 : (Jvm.Cond.code ({ cls := "com/example/chainmail/chainmail/NavigationContext", name := "of", desc := "(Ljava/lang/String;)Lcom/example/chainmail/chainmail/NavigationContext;" } : Jvm.MethodName) prog_5_method_2_code (1 : Nat) (Option.some (Jvm.ClassFile.FieldType.object "com/example/chainmail/chainmail/NavigationContext"))).before args0 about1 = true := code_word (m := ⟨8, 1⟩) (meth := k8m1) (c := k8c1) (by decide +kernel) rfl rfl rfl (by decide +kernel)
set_option maxRecDepth 65536 in
theorem w_c6 : (Jvm.Cond.code ({ cls := "java/util/Objects", name := "requireNonNull", desc := "(Ljava/lang/Object;Ljava/lang/String;)Ljava/lang/Object;" } : Jvm.MethodName) jdk_31_method_11_code (2 : Nat) (Option.some (Jvm.ClassFile.FieldType.object "java/lang/Object"))).before args0 about1 = true := code_word (m := ⟨9, 1⟩) (meth := k9m1) (c := k9c1) (by decide +kernel) rfl rfl rfl (by decide +kernel)
set_option maxRecDepth 65536 in
theorem w_c7 : (Jvm.Cond.code ({ cls := "java/util/Map", name := "of", desc := "()Ljava/util/Map;" } : Jvm.MethodName) jdk_72_method_26_code (0 : Nat) (Option.some (Jvm.ClassFile.FieldType.object "java/util/Map"))).before args0 about1 = true := code_word (m := ⟨10, 1⟩) (meth := k10m1) (c := k10c1) (by decide +kernel) rfl rfl rfl (by decide +kernel)
set_option maxRecDepth 65536 in
theorem w_c8 : (Jvm.Cond.code ({ cls := "com/example/chainmail/chainmail/NavigationContext", name := "<init>", desc := "(Ljava/lang/String;Ljava/lang/String;Ljava/util/Map;)V" } : Jvm.MethodName) prog_5_method_1_code (4 : Nat) (Option.none : Option Jvm.ClassFile.FieldType)).before args0 about1 = true := code_word (m := ⟨8, 0⟩) (meth := k8m0) (c := k8c0) (by decide +kernel) rfl rfl rfl (by decide +kernel)
set_option maxRecDepth 65536 in
theorem w_c9 : (Jvm.Cond.code ({ cls := "com/example/chainmail/chainmail/NavigationContext", name := "path", desc := "()Ljava/lang/String;" } : Jvm.MethodName) prog_5_method_6_code (1 : Nat) (Option.some (Jvm.ClassFile.FieldType.object "java/lang/String"))).before args0 about1 = true := code_word (m := ⟨8, 2⟩) (meth := k8m2) (c := k8c2) (by decide +kernel) rfl rfl rfl (by decide +kernel)
set_option maxRecDepth 65536 in
theorem w_c10 : (Jvm.Cond.code ({ cls := "java/lang/String", name := "equals", desc := "(Ljava/lang/Object;)Z" } : Jvm.MethodName) jdk_42_method_66_code (3 : Nat) (Option.some Jvm.ClassFile.FieldType.boolean)).before args0 about1 = true := code_word (m := ⟨7, 3⟩) (meth := k7m3) (c := k7c3) (by decide +kernel) rfl rfl rfl (by decide +kernel)
set_option maxRecDepth 65536 in
theorem w_c11 : (Jvm.Cond.code ({ cls := "java/lang/String", name := "length", desc := "()I" } : Jvm.MethodName) jdk_42_method_54_code (1 : Nat) (Option.some Jvm.ClassFile.FieldType.int)).before args0 about1 = true := code_word (m := ⟨7, 2⟩) (meth := k7m2) (c := k7c2) (by decide +kernel) rfl rfl rfl (by decide +kernel)
set_option maxRecDepth 65536 in
theorem w_c12 : (Jvm.Cond.code ({ cls := "java/lang/String", name := "coder", desc := "()B" } : Jvm.MethodName) jdk_42_method_152_code (1 : Nat) (Option.some Jvm.ClassFile.FieldType.byte)).before args0 about1 = true := code_word (m := ⟨7, 5⟩) (meth := k7m5) (c := k7c5) (by decide +kernel) rfl rfl rfl (by decide +kernel)
set_option maxRecDepth 65536 in
theorem w_c13 : (Jvm.Cond.code ({ cls := "com/example/chainmail/chainmail/NavigationContext", name := "queryParameters", desc := "()Ljava/util/Map;" } : Jvm.MethodName) prog_5_method_7_code (2 : Nat) (Option.some (Jvm.ClassFile.FieldType.object "java/util/Map"))).before args0 about1 = true := code_word (m := ⟨8, 3⟩) (meth := k8m3) (c := k8c3) (by decide +kernel) rfl rfl rfl (by decide +kernel)
set_option maxRecDepth 65536 in
theorem w_c14 : (Jvm.Cond.code ({ cls := "java/util/ImmutableCollections$MapN", name := "isEmpty", desc := "()Z" } : Jvm.MethodName) jdk_2605_method_7_code (1 : Nat) (Option.some Jvm.ClassFile.FieldType.boolean)).before args0 about1 = true := code_word (m := ⟨14, 0⟩) (meth := k14m0) (c := k14c0) (by decide +kernel) rfl rfl rfl (by decide +kernel)
set_option maxRecDepth 65536 in
theorem w_c15 : (Jvm.Cond.code ({ cls := "java/lang/StringUTF16", name := "compress", desc := "([CII)[B" } : Jvm.MethodName) jdk_52_method_16_code (6 : Nat) (Option.some (Jvm.ClassFile.FieldType.array Jvm.ClassFile.FieldType.byte))).before args0 about1 = true := code_word (m := ⟨15, 2⟩) (meth := k15m2) (c := k15c2) (by decide +kernel) rfl rfl rfl (by decide +kernel)
set_option maxRecDepth 65536 in
theorem w_c16 : (Jvm.Cond.code ({ cls := "java/lang/StringUTF16", name := "compress", desc := "([CI[BII)I" } : Jvm.MethodName) jdk_52_method_21_code (7 : Nat) (Option.some Jvm.ClassFile.FieldType.int)).before args0 about1 = true := code_word (m := ⟨15, 3⟩) (meth := k15m3) (c := k15c3) (by decide +kernel) rfl rfl rfl (by decide +kernel)
set_option maxRecDepth 65536 in
theorem w_c17 : (Jvm.Cond.code ({ cls := "java/lang/StringUTF16", name := "coderFromArrayLen", desc := "([BI)B" } : Jvm.MethodName) jdk_52_method_15_code (2 : Nat) (Option.some Jvm.ClassFile.FieldType.byte)).before args0 about1 = true := code_word (m := ⟨15, 1⟩) (meth := k15m1) (c := k15c1) (by decide +kernel) rfl rfl rfl (by decide +kernel)
def codes1 : List Jvm.Cond := [Jvm.Cond.code x code maxLocals ret, Jvm.Cond.code ({ cls := "com/example/chainmail/chainmail/NavigationContextOfPinLaw", name := "str", desc := "(IIII)Ljava/lang/String;" } : Jvm.MethodName) method_2_code (8 : Nat) (Option.some (Jvm.ClassFile.FieldType.object "java/lang/String")), Jvm.Cond.code ({ cls := "java/lang/String", name := "<init>", desc := "([C)V" } : Jvm.MethodName) jdk_42_method_3_code (2 : Nat) (Option.none : Option Jvm.ClassFile.FieldType), Jvm.Cond.code ({ cls := "java/lang/String", name := "<init>", desc := "([CIILjava/lang/Void;)V" } : Jvm.MethodName) jdk_42_method_149_code (6 : Nat) (Option.none : Option Jvm.ClassFile.FieldType), Jvm.Cond.code ({ cls := "java/lang/Object", name := "<init>", desc := "()V" } : Jvm.MethodName) object_method_1_code (1 : Nat) (Option.none : Option Jvm.ClassFile.FieldType), Jvm.Cond.code ({ cls := "com/example/chainmail/chainmail/NavigationContext", name := "of", desc := "(Ljava/lang/String;)Lcom/example/chainmail/chainmail/NavigationContext;" } : Jvm.MethodName) prog_5_method_2_code (1 : Nat) (Option.some (Jvm.ClassFile.FieldType.object "com/example/chainmail/chainmail/NavigationContext")), Jvm.Cond.code ({ cls := "java/util/Objects", name := "requireNonNull", desc := "(Ljava/lang/Object;Ljava/lang/String;)Ljava/lang/Object;" } : Jvm.MethodName) jdk_31_method_11_code (2 : Nat) (Option.some (Jvm.ClassFile.FieldType.object "java/lang/Object")), Jvm.Cond.code ({ cls := "java/util/Map", name := "of", desc := "()Ljava/util/Map;" } : Jvm.MethodName) jdk_72_method_26_code (0 : Nat) (Option.some (Jvm.ClassFile.FieldType.object "java/util/Map")), Jvm.Cond.code ({ cls := "com/example/chainmail/chainmail/NavigationContext", name := "<init>", desc := "(Ljava/lang/String;Ljava/lang/String;Ljava/util/Map;)V" } : Jvm.MethodName) prog_5_method_1_code (4 : Nat) (Option.none : Option Jvm.ClassFile.FieldType), Jvm.Cond.code ({ cls := "com/example/chainmail/chainmail/NavigationContext", name := "path", desc := "()Ljava/lang/String;" } : Jvm.MethodName) prog_5_method_6_code (1 : Nat) (Option.some (Jvm.ClassFile.FieldType.object "java/lang/String")), Jvm.Cond.code ({ cls := "java/lang/String", name := "equals", desc := "(Ljava/lang/Object;)Z" } : Jvm.MethodName) jdk_42_method_66_code (3 : Nat) (Option.some Jvm.ClassFile.FieldType.boolean), Jvm.Cond.code ({ cls := "java/lang/String", name := "length", desc := "()I" } : Jvm.MethodName) jdk_42_method_54_code (1 : Nat) (Option.some Jvm.ClassFile.FieldType.int), Jvm.Cond.code ({ cls := "java/lang/String", name := "coder", desc := "()B" } : Jvm.MethodName) jdk_42_method_152_code (1 : Nat) (Option.some Jvm.ClassFile.FieldType.byte), Jvm.Cond.code ({ cls := "com/example/chainmail/chainmail/NavigationContext", name := "queryParameters", desc := "()Ljava/util/Map;" } : Jvm.MethodName) prog_5_method_7_code (2 : Nat) (Option.some (Jvm.ClassFile.FieldType.object "java/util/Map")), Jvm.Cond.code ({ cls := "java/util/ImmutableCollections$MapN", name := "isEmpty", desc := "()Z" } : Jvm.MethodName) jdk_2605_method_7_code (1 : Nat) (Option.some Jvm.ClassFile.FieldType.boolean), Jvm.Cond.code ({ cls := "java/lang/StringUTF16", name := "compress", desc := "([CII)[B" } : Jvm.MethodName) jdk_52_method_16_code (6 : Nat) (Option.some (Jvm.ClassFile.FieldType.array Jvm.ClassFile.FieldType.byte)), Jvm.Cond.code ({ cls := "java/lang/StringUTF16", name := "compress", desc := "([CI[BII)I" } : Jvm.MethodName) jdk_52_method_21_code (7 : Nat) (Option.some Jvm.ClassFile.FieldType.int), Jvm.Cond.code ({ cls := "java/lang/StringUTF16", name := "coderFromArrayLen", desc := "([BI)B" } : Jvm.MethodName) jdk_52_method_15_code (2 : Nat) (Option.some Jvm.ClassFile.FieldType.byte)]
set_option maxRecDepth 65536 in
theorem codes_eq : words1.filter isCode = codes1 := rfl
theorem w_codes : ∀ c ∈ words1.filter isCode, c.before args0 about1 = true := by
  rw [codes_eq]
  intro c hc
  simp only [codes1, List.mem_cons, List.not_mem_nil, or_false] at hc
  rcases hc with rfl | rfl | rfl | rfl | rfl | rfl | rfl | rfl | rfl | rfl | rfl | rfl | rfl | rfl | rfl | rfl | rfl | rfl
  · exact w_c0
  · exact w_c1
  · exact w_c2
  · exact w_c3
  · exact w_c4
  · exact w_c5
  · exact w_c6
  · exact w_c7
  · exact w_c8
  · exact w_c9
  · exact w_c10
  · exact w_c11
  · exact w_c12
  · exact w_c13
  · exact w_c14
  · exact w_c15
  · exact w_c16
  · exact w_c17
set_option maxRecDepth 65536 in
theorem w_t1 : (words1.take 24).all (fun c => isCode c || c.before args0 about1) = true := by decide +kernel
set_option maxRecDepth 65536 in
theorem w_t2 : ((words1.drop 24).take 24).all (fun c => isCode c || c.before args0 about1) = true := by decide +kernel
set_option maxRecDepth 65536 in
theorem w_t3 : (((words1.drop 24).drop 24).take 24).all (fun c => isCode c || c.before args0 about1) = true := by decide +kernel
set_option maxRecDepth 65536 in
theorem w_t4 : ((((words1.drop 24).drop 24).drop 24).take 24).all (fun c => isCode c || c.before args0 about1) = true := by decide +kernel
set_option maxRecDepth 65536 in
theorem w_t5 : ((((words1.drop 24).drop 24).drop 24).drop 24).all (fun c => isCode c || c.before args0 about1) = true := by decide +kernel
theorem w_tables : (allAtoms (Jvm.Cond.code x code maxLocals ret :: tables_1)).before args0 about1 = true := by
  rw [allAtoms_all]
  show words1.all (fun c => c.before args0 about1) = true
  refine all_split ?_ w_codes
  rw [← List.take_append_drop 24 words1, List.all_append, w_t1, ← List.take_append_drop 24 (words1.drop 24), List.all_append, w_t2, ← List.take_append_drop 24 ((words1.drop 24).drop 24), List.all_append, w_t3, ← List.take_append_drop 24 (((words1.drop 24).drop 24).drop 24), List.all_append, w_t4, w_t5]
  rfl
set_option maxRecDepth 65536 in
theorem w_rest : rest_1_c.before args0 about1 = true := by decide +kernel
set_option maxRecDepth 65536 in
theorem w_case : (Jvm.Cond.and given_1 narrow_1).before args0 about1 = true := by decide +kernel
set_option maxRecDepth 65536 in
theorem w_consts : constsHeld consts_1 about1 := Jvm.Lit.constsHeldB_iff.mp (by decide +kernel)
theorem w_applies : (headSpec (Jvm.Cond.code x code maxLocals ret :: tables_1) room_1).applies x e0.platform about1 = true :=
  (Spec.applies_iff w_frames).mpr ⟨w_running, w_runnable, w_alone, w_named, w_hears, w_ripe, w_room, w_tables⟩
theorem atStart : AtStart classFile x code maxLocals ret World_1 tables_1 room_1 Calls_1 rest_1 Pre_1 launch0 p0 e0 about1 theMethod args0 below0 :=
  ⟨lists_1, trivial, launch0.admits_env _ _ _, launch0.least_env, fairChoices_fair.cas, fairChoices_fair.clock, w_frames, w_args, w_heap, w_applies, ⟨w_consts, trivial⟩, w_rest, w_case⟩
end start1
theorem witness_1 : WitnessClaimed_1 := ⟨start1.p0, start1.e0, start1.about1, start1.theMethod, start1.args0, start1.below0, start1.atStart⟩
end Jvm.Pilot.@@N@@
