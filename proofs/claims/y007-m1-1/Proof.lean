import JvmDerived
import JvmDerived.Pilot.@@N@@Statement
import JvmDerived.Pilot.@@N@@Code
set_option linter.unusedVariables false
set_option linter.unusedSimpArgs false
@@BLOCK:NumsL.lean.txt@@
namespace Jvm.Own
open Jvm Jvm.ClassFile Sem Op Lib Jvm.Free Jvm.Stand Jvm.LawKit Jvm.RoadKit
/-! THE WALKER's LAYER: 'B.G h cl sl g': from every place where the walk stands over the heap h with the frame g (cl cells, sl slots made), the method returns as its contract says. One law a step, backwards. -/
/-- written places lie in cells of ws or in new cells -/
def Frw (ws : List Addr) (k : Nat) (L : List Loc) : Prop := ∀ y ∈ L, y.base ∈ ws ∨ k ≤ y.base
/-- what a contract says at the end -/
def Qw (C : Option Value → Heap → Prop) (ws : List Addr) (h0 : Heap) (v : Option Value) (h : Heap) (L : List Loc) : Prop := C v h ∧ Frw ws h0.size L ∧ Keep h0 h ws
/-- a contract: called with the arguments as over the heap h0, it returns, as C says, writing in ws or in new cells alone -/
def Met (l : Launch) (Z : State) (y : MethodName) (bytes : ByteArray) (maxL : Nat) (ret : Option FieldType) (wds : List Jvm.Cond) (rm : Room) (as : Array Value) (h0 : Heap) (ws : List Addr) (C : Option Value → Heap → Prop) : Prop :=
  MetFree l y (head1 (Jvm.Cond.code y bytes maxL ret :: wds) rm) (fun a U => a = as ∧ Z.Warmed39 U.vm ∧ U.heap = h0) (fun _ _ _ _ _ => True) (fun _ U o U' => ∃ v L, o = .returned v ∧ Qw C ws h0 v U'.heap L ∧ FrameEnd U o U' L rm.cells rm.slots)
/-- what stands still through a body's walk -/
def Base (p : Program) (l : Launch) (e : Env) (R : Room) (s : State) (m : MethodId) (args : Array Value) (below : List Frame) (meth : Method) (c : Code) (Z : State) (y : MethodName) (bytes : ByteArray) (maxL : Nat) (ret : Option FieldType) (h0 : Heap) (ws : List Addr) (C : Option Value → Heap → Prop) : Prop :=
  p.tables.exec = Jvm.exec ∧ c.code = bytes ∧ c.maxLocals = maxL ∧ Z.Warmed39 s.vm ∧ s.vm.findClass y.cls = some m.cls ∧ meth.sig.returnType = ret ∧ meth.locks = false ∧ meth.name = y.name ∧ s.heap = h0
section Walk
variable {p : Program} {l : Launch} {e : Env} {R : Room} {s : State} {m : MethodId} {args : Array Value} {below : List Frame} {meth : Method} {c : Code} {Z : State} {a0 : Array Value} {y : MethodName} {bytes : ByteArray} {maxL : Nat} {ret : Option FieldType} {h0 : Heap} {ws : List Addr} {C : Option Value → Heap → Prop}
/-- from here the method returns as its contract says -/
def Base.G (B : Base p l e R s m args below meth c Z y bytes maxL ret h0 ws C) (h : Heap) (cl sl : Nat) (g : JFrame) : Prop :=
  ∀ (T : State) (locs : List Loc), Stand p l e R s m args below meth c T locs cl sl → Frw ws h0.size locs → T.heap = h → ∃ (t : State) (o : Outcome), Steps p.tables e below (T.setTop g) t ∧ t.status = .running ∧ Ended t below o ∧ ∃ v L, o = .returned v ∧ Qw C ws h0 v t.heap L ∧ FrameEnd s o t L R.cells R.slots
variable {h : Heap} {cl sl : Nat} {g g' : JFrame} {pc : Nat} {Ls : Array Slot} {st : List Value}
theorem Base.via (B : Base p l e R s m args below meth c Z y bytes maxL ret h0 ws C) (st : ∀ (T t : State), At T m c below → Steps p.tables e below (T.setTop g') t → Steps p.tables e below (T.setTop g) t) (k : B.G h cl sl g') : B.G h cl sl g := fun T locs X N eT => by
  obtain ⟨t, o, q, r⟩ := k T locs X N eT
  exact ⟨t, o, st T t X.here q, r⟩
theorem Base.viaX (B : Base p l e R s m args below meth c Z y bytes maxL ret h0 ws C) (st : ∀ (T t : State) (locs : List Loc), Stand p l e R s m args below meth c T locs cl sl → T.heap = h → Steps p.tables e below (T.setTop g') t → Steps p.tables e below (T.setTop g) t) (k : B.G h cl sl g') : B.G h cl sl g := fun T locs X N eT => by
  obtain ⟨t, o, q, r⟩ := k T locs X N eT
  exact ⟨t, o, st T t locs X eT q, r⟩
theorem Frw.nil (ws : List Addr) (k : Nat) : Frw ws k [] := fun _ q => nomatch q
theorem Frw.app {k : Nat} {L L' : List Loc} (N : Frw ws k L) (N' : Frw ws k L') : Frw ws k (L ++ L') := fun y q => (List.mem_append.mp q).elim (N y) (N' y)
theorem Frw.one {k : Nat} {L : List Loc} {a : Addr} {i : Nat} (N : Frw ws k L) (q : a ∈ ws ∨ k ≤ a) : Frw ws k (L ++ [⟨a, i⟩]) := N.app fun y hy => by cases List.mem_singleton.mp hy; exact q
theorem keep_of {T : State} {locs : List Loc} (X : Stand p l e R s m args below meth c T locs cl sl) (N : Frw ws s.heap.size locs) : Keep s.heap T.heap ws := by
  obtain ⟨-, h1, -, -, -, h2⟩ := X.same
  refine ⟨h1, fun x cc hc hn => ?_, fun x cc hc => ?_⟩
  · obtain ⟨c', e1, e2, e3, e4⟩ := h2 x cc hc
    have hlt := (Array.getElem?_eq_some_iff.mp hc).1
    have q : c'.slots = cc.slots := Array.ext_getElem? fun i => e4 i fun hm => by
      rcases N _ hm with z | z
      · exact hn z
      · exact absurd hlt (Nat.not_lt.mpr z)
    have e1' : T.heap[x]? = some c' := e1
    rw [e1', e2, q]
  · obtain ⟨c', e1, e2, e3, -⟩ := h2 x cc hc
    exact ⟨c', e1, by rw [e2], by rw [e2], e3⟩
theorem Met.walk (hpn : plainFor y = true) {as : Array Value} {rm : Room} {wds : List Jvm.Cond} (hef : ∀ m, entryFrame m as maxL = mkF m 0 Ls [])
    (body : ∀ (p : Program) (e : Env) (s : State) (m : MethodId) (below : List Frame) (meth : Method) (c : Code) (B : Base p l e rm s m as below meth c Z y bytes maxL ret h0 ws C), B.G h0 0 0 (mkF m 0 Ls [])) : Met l Z y bytes maxL ret wds rm as h0 ws C := by
  refine MetFree.of_bodySF hpn hisR ?_
  intro p e s m args below meth c s₁ Bd hml0 hP hK
  obtain ⟨rfl, hZ, hh⟩ := hP
  have X0 : Stand p l e rm s m args below meth c s₁ [] 0 0 := Stand.of_body Bd
  have e0 : s₁.heap = h0 := by rw [← hh, Bd.state]; rfl
  obtain ⟨t, o, q, r⟩ := body p e s m below meth c ⟨Bd.exec, Bd.bytes, hml0, hZ, findClass_of_methodNamed Bd.named, Bd.returns, Bd.notSynchronized, (name_of_methodNamed Bd.named Bd.method).1, hh⟩ s₁ [] X0 (Frw.nil _ _) e0
  exact ⟨t, o, castTop (hef m) q, r⟩
theorem Met.mono {as : Array Value} {rm : Room} {wds : List Jvm.Cond} {C' : Option Value → Heap → Prop} (M : Met l Z y bytes maxL ret wds rm as h0 ws C) (q : ∀ v h, C v h → C' v h) : Met l Z y bytes maxL ret wds rm as h0 ws C' := by
  intro p e ha hc hk s m args below hf happ hP hK
  obtain ⟨n, o, q1, q2, q3, v, L, q4, ⟨r1, r2⟩, q5⟩ := M p e ha hc hk s m args below hf happ hP hK
  exact ⟨n, o, q1, q2, q3, v, L, q4, ⟨q _ _ r1, r2⟩, q5⟩
/-! 1. steps that touch no heap -/
theorem Base.aloadN (B : Base p l e R s m args below meth c Z y bytes maxL ret h0 ws C) (pc' : Nat) (hp : pc' = pc + 1) {i : Fin 4} (hd : decode bytes pc = .ok (.aload_n i, 1)) {v : Value} (hl : Ls[i.val]? = some (.val v)) (hv : v.isRef = true) (k : B.G h cl sl (mkF m pc' Ls (v :: st))) : B.G h cl sl (mkF m pc Ls st) := by
  subst hp; exact B.via (fun T t X r => XS.aloadN X B.1 rfl (hb B.2.1 hd) hl hv r) k
theorem Base.aload (B : Base p l e R s m args below meth c Z y bytes maxL ret h0 ws C) (pc' : Nat) (hp : pc' = pc + 2) {i : Nat} (hd : decode bytes pc = .ok (.aload i, 2)) {v : Value} (hl : Ls[i]? = some (.val v)) (hv : v.isRef = true) (k : B.G h cl sl (mkF m pc' Ls (v :: st))) : B.G h cl sl (mkF m pc Ls st) := by
  subst hp; exact B.via (fun T t X r => XS.aload X B.1 rfl (hb B.2.1 hd) hl hv r) k
theorem Base.iloadN (B : Base p l e R s m args below meth c Z y bytes maxL ret h0 ws C) (pc' : Nat) (hp : pc' = pc + 1) {i : Fin 4} (hd : decode bytes pc = .ok (.iload_n i, 1)) {v : Int32} (hl : Ls[i.val]? = some (.val (.int v))) (k : B.G h cl sl (mkF m pc' Ls (.int v :: st))) : B.G h cl sl (mkF m pc Ls st) := by
  subst hp; exact B.via (fun T t X r => XS.iloadN X B.1 rfl (hb B.2.1 hd) hl r) k
theorem Base.iload (B : Base p l e R s m args below meth c Z y bytes maxL ret h0 ws C) (pc' : Nat) (hp : pc' = pc + 2) {i : Nat} (hd : decode bytes pc = .ok (.iload i, 2)) {v : Int32} (hl : Ls[i]? = some (.val (.int v))) (k : B.G h cl sl (mkF m pc' Ls (.int v :: st))) : B.G h cl sl (mkF m pc Ls st) := by
  subst hp; exact B.via (fun T t X r => XS.iload X B.1 rfl (hb B.2.1 hd) hl r) k
theorem Base.lloadN (B : Base p l e R s m args below meth c Z y bytes maxL ret h0 ws C) (pc' : Nat) (hp : pc' = pc + 1) {i : Fin 4} (hd : decode bytes pc = .ok (.lload_n i, 1)) {v : Int64} (hl : Ls[i.val]? = some (.val (.long v))) (k : B.G h cl sl (mkF m pc' Ls (.long v :: st))) : B.G h cl sl (mkF m pc Ls st) := by
  subst hp; exact B.via (fun T t X r => XT.lloadN X B.1 rfl (hb B.2.1 hd) hl r) k
theorem Base.lload (B : Base p l e R s m args below meth c Z y bytes maxL ret h0 ws C) (pc' : Nat) (hp : pc' = pc + 2) {i : Nat} (hd : decode bytes pc = .ok (.lload i, 2)) {v : Int64} (hl : Ls[i]? = some (.val (.long v))) (k : B.G h cl sl (mkF m pc' Ls (.long v :: st))) : B.G h cl sl (mkF m pc Ls st) := by
  subst hp; exact B.via (fun T t X r => XT.lload X B.1 rfl (hb B.2.1 hd) hl r) k
theorem Base.istoreN (B : Base p l e R s m args below meth c Z y bytes maxL ret h0 ws C) (pc' : Nat) (hp : pc' = pc + 1) {i : Fin 4} {x : Int32} (hd : decode bytes pc = .ok (.istore_n i, 1)) (Ls' : Array Slot) (hl : storeLocals Ls i.val (.int x) = some Ls') (k : B.G h cl sl (mkF m pc' Ls' st)) : B.G h cl sl (mkF m pc Ls (.int x :: st)) := by
  subst hp; exact B.via (fun T t X r => XS.istoreN X B.1 rfl (hb B.2.1 hd) rfl hl r) k
theorem Base.istore (B : Base p l e R s m args below meth c Z y bytes maxL ret h0 ws C) (pc' : Nat) (hp : pc' = pc + 2) {i : Nat} {x : Int32} (hd : decode bytes pc = .ok (.istore i, 2)) (Ls' : Array Slot) (hl : storeLocals Ls i (.int x) = some Ls') (k : B.G h cl sl (mkF m pc' Ls' st)) : B.G h cl sl (mkF m pc Ls (.int x :: st)) := by
  subst hp; exact B.via (fun T t X r => XS.istore X B.1 rfl (hb B.2.1 hd) rfl hl r) k
theorem Base.lstoreN (B : Base p l e R s m args below meth c Z y bytes maxL ret h0 ws C) (pc' : Nat) (hp : pc' = pc + 1) {i : Fin 4} {x : Int64} (hd : decode bytes pc = .ok (.lstore_n i, 1)) (Ls' : Array Slot) (hl : storeLocals Ls i.val (.long x) = some Ls') (k : B.G h cl sl (mkF m pc' Ls' st)) : B.G h cl sl (mkF m pc Ls (.long x :: st)) := by
  subst hp; exact B.via (fun T t X r => XT.lstoreN X B.1 rfl (hb B.2.1 hd) rfl hl r) k
theorem Base.lstore (B : Base p l e R s m args below meth c Z y bytes maxL ret h0 ws C) (pc' : Nat) (hp : pc' = pc + 2) {i : Nat} {x : Int64} (hd : decode bytes pc = .ok (.lstore i, 2)) (Ls' : Array Slot) (hl : storeLocals Ls i (.long x) = some Ls') (k : B.G h cl sl (mkF m pc' Ls' st)) : B.G h cl sl (mkF m pc Ls (.long x :: st)) := by
  subst hp; exact B.via (fun T t X r => XT.lstore X B.1 rfl (hb B.2.1 hd) rfl hl r) k
theorem Base.astoreN (B : Base p l e R s m args below meth c Z y bytes maxL ret h0 ws C) (pc' : Nat) (hp : pc' = pc + 1) {i : Fin 4} {x : Value} (hd : decode bytes pc = .ok (.astore_n i, 1)) (hv : x.isRef = true) (Ls' : Array Slot) (hl : storeLocals Ls i.val x = some Ls') (k : B.G h cl sl (mkF m pc' Ls' st)) : B.G h cl sl (mkF m pc Ls (x :: st)) := by
  subst hp; exact B.via (fun T t X r => XS.astoreN X B.1 rfl (hb B.2.1 hd) rfl hv hl r) k
theorem Base.astore (B : Base p l e R s m args below meth c Z y bytes maxL ret h0 ws C) (pc' : Nat) (hp : pc' = pc + 2) {i : Nat} {x : Value} (hd : decode bytes pc = .ok (.astore i, 2)) (hv : x.isRef = true) (Ls' : Array Slot) (hl : storeLocals Ls i x = some Ls') (k : B.G h cl sl (mkF m pc' Ls' st)) : B.G h cl sl (mkF m pc Ls (x :: st)) := by
  subst hp; exact B.via (fun T t X r => XS.astore X B.1 rfl (hb B.2.1 hd) rfl hv hl r) k
theorem Base.iinc (B : Base p l e R s m args below meth c Z y bytes maxL ret h0 ws C) (pc' : Nat) (hp : pc' = pc + 3) {i : Nat} {cst : Int} (v : Int32) {x : Int32} (hd : decode bytes pc = .ok (.iinc i cst, 3)) (hv : Int32.ofInt cst = v) (hl : Ls[i]? = some (.val (.int x))) (Ls' : Array Slot) (hl' : storeLocals Ls i (.int (x + v)) = some Ls') (k : B.G h cl sl (mkF m pc' Ls' st)) : B.G h cl sl (mkF m pc Ls st) := by
  subst hp hv; exact B.via (fun T t X r => XS.iinc X B.1 rfl (hb B.2.1 hd) hl hl' r) k
theorem Base.iconst (B : Base p l e R s m args below meth c Z y bytes maxL ret h0 ws C) (pc' : Nat) (hp : pc' = pc + 1) {i : Int} (v : Int32) (hd : decode bytes pc = .ok (.iconst i, 1)) (hv : Int32.ofInt i = v) (k : B.G h cl sl (mkF m pc' Ls (.int v :: st))) : B.G h cl sl (mkF m pc Ls st) := by
  subst hp hv; exact B.via (fun T t X r => XS.iconst X B.1 rfl (hb B.2.1 hd) r) k
theorem Base.bipush (B : Base p l e R s m args below meth c Z y bytes maxL ret h0 ws C) (pc' : Nat) (hp : pc' = pc + 2) {i : Int} (v : Int32) (hd : decode bytes pc = .ok (.bipush i, 2)) (hv : (Int8.ofInt i).toInt32 = v) (k : B.G h cl sl (mkF m pc' Ls (.int v :: st))) : B.G h cl sl (mkF m pc Ls st) := by
  subst hp hv; exact B.via (fun T t X r => XS.bipush X B.1 rfl (hb B.2.1 hd) r) k
theorem Base.sipush (B : Base p l e R s m args below meth c Z y bytes maxL ret h0 ws C) (pc' : Nat) (hp : pc' = pc + 3) {i : Int} (v : Int32) (hd : decode bytes pc = .ok (.sipush i, 3)) (hv : (Int16.ofInt i).toInt32 = v) (k : B.G h cl sl (mkF m pc' Ls (.int v :: st))) : B.G h cl sl (mkF m pc Ls st) := by
  subst hp hv; exact B.via (fun T t X r => XS.sipush X B.1 rfl (hb B.2.1 hd) r) k
theorem Base.lconst (B : Base p l e R s m args below meth c Z y bytes maxL ret h0 ws C) (pc' : Nat) (hp : pc' = pc + 1) {i : Fin 2} (v : Int64) (hd : decode bytes pc = .ok (.lconst i, 1)) (hv : Int64.ofNat i = v) (k : B.G h cl sl (mkF m pc' Ls (.long v :: st))) : B.G h cl sl (mkF m pc Ls st) := by
  subst hp hv; exact B.via (fun T t X r => XT.lconst X B.1 rfl (hb B.2.1 hd) r) k
theorem Base.aconstNull (B : Base p l e R s m args below meth c Z y bytes maxL ret h0 ws C) (pc' : Nat) (hp : pc' = pc + 1) (hd : decode bytes pc = .ok (.aconst_null, 1)) (k : B.G h cl sl (mkF m pc' Ls (.null :: st))) : B.G h cl sl (mkF m pc Ls st) := by
  subst hp; exact B.via (fun T t X r => XS.aconstNull X B.1 rfl (hb B.2.1 hd) r) k
theorem Base.ldcI (B : Base p l e R s m args below meth c Z y bytes maxL ret h0 ws C) (pc' : Nat) (hp : pc' = pc + 2) {i : Nat} {v : Int32} (hd : decode bytes pc = .ok (.ldc i, 2)) (w : (Cond.constant y.cls i v).before a0 Z = true) (k : B.G h cl sl (mkF m pc' Ls (.int v :: st))) : B.G h cl sl (mkF m pc Ls st) := by
  subst hp; exact B.viaX (fun T t L X _ r => X.ldcI B.1 B.2.2.2.2.1 (mv B.2.2.2.1 w) rfl (hb B.2.1 hd) r) k
theorem Base.ldcWI (B : Base p l e R s m args below meth c Z y bytes maxL ret h0 ws C) (pc' : Nat) (hp : pc' = pc + 3) {i : Nat} {v : Int32} (hd : decode bytes pc = .ok (.ldc_w i, 3)) (w : (Cond.constant y.cls i v).before a0 Z = true) (k : B.G h cl sl (mkF m pc' Ls (.int v :: st))) : B.G h cl sl (mkF m pc Ls st) := by
  subst hp; exact B.viaX (fun T t L X _ r => X.ldcWI B.1 B.2.2.2.2.1 (mv B.2.2.2.1 w) rfl (hb B.2.1 hd) r) k
theorem Base.ldc2J (B : Base p l e R s m args below meth c Z y bytes maxL ret h0 ws C) (pc' : Nat) (hp : pc' = pc + 3) {i : Nat} {v : Int64} (hd : decode bytes pc = .ok (.ldc2_w i, 3)) (w : (Cond.constantLong y.cls i v).before a0 Z = true) (k : B.G h cl sl (mkF m pc' Ls (.long v :: st))) : B.G h cl sl (mkF m pc Ls st) := by
  subst hp; exact B.viaX (fun T t L X _ r => X.ldc2J B.1 B.2.2.2.2.1 (mv B.2.2.2.1 w) rfl (hb B.2.1 hd) r) k
theorem Base.goto (B : Base p l e R s m args below meth c Z y bytes maxL ret h0 ws C) (pc' : Nat) {o : Int} (hp : ((pc : Int) + o).toNat = pc') (ho : 0 ≤ (pc : Int) + o) (hd : decode bytes pc = .ok (.goto o, 3)) (k : B.G h cl sl (mkF m pc' Ls st)) : B.G h cl sl (mkF m pc Ls st) :=
  B.via (fun T t X r => XS.goto X B.1 rfl rfl (hb B.2.1 hd) ho hp r) k
theorem Base.dup (B : Base p l e R s m args below meth c Z y bytes maxL ret h0 ws C) (pc' : Nat) (hp : pc' = pc + 1) {x : Value} (hd : decode bytes pc = .ok (.dup, 1)) (hc : x.category = 1) (k : B.G h cl sl (mkF m pc' Ls (x :: x :: st))) : B.G h cl sl (mkF m pc Ls (x :: st)) := by
  subst hp; exact B.via (fun T t X r => XS.dup X B.1 rfl (hb B.2.1 hd) rfl hc r) k
theorem Base.pop (B : Base p l e R s m args below meth c Z y bytes maxL ret h0 ws C) (pc' : Nat) (hp : pc' = pc + 1) {x : Value} (hd : decode bytes pc = .ok (.pop, 1)) (hc : x.category = 1) (k : B.G h cl sl (mkF m pc' Ls st)) : B.G h cl sl (mkF m pc Ls (x :: st)) := by
  subst hp; exact B.via (fun T t X r => XT.pop X B.1 rfl (hb B.2.1 hd) rfl hc r) k
theorem Base.dupX1 (B : Base p l e R s m args below meth c Z y bytes maxL ret h0 ws C) (pc' : Nat) (hp : pc' = pc + 1) {x z : Value} (hd : decode bytes pc = .ok (.dup_x1, 1)) (hc : x.category = 1) (hc' : z.category = 1) (k : B.G h cl sl (mkF m pc' Ls (x :: z :: x :: st))) : B.G h cl sl (mkF m pc Ls (x :: z :: st)) := by
  subst hp; exact B.via (fun T t X r => XT.dupX1 X B.1 rfl (hb B.2.1 hd) rfl hc hc' r) k
theorem Base.dup2 (B : Base p l e R s m args below meth c Z y bytes maxL ret h0 ws C) (pc' : Nat) (hp : pc' = pc + 1) {x z : Value} (hd : decode bytes pc = .ok (.dup2, 1)) (hc : x.category = 1) (hc' : z.category = 1) (k : B.G h cl sl (mkF m pc' Ls (x :: z :: x :: z :: st))) : B.G h cl sl (mkF m pc Ls (x :: z :: st)) := by
  subst hp; exact B.via (fun T t X r => XT.dup2 X B.1 rfl (hb B.2.1 hd) rfl hc hc' r) k
theorem Base.iadd (B : Base p l e R s m args below meth c Z y bytes maxL ret h0 ws C) (pc' : Nat) (hp : pc' = pc + 1) {x : Int32} {z : Int32} (hd : decode bytes pc = .ok (.iadd, 1)) (k : B.G h cl sl (mkF m pc' Ls (.int (x + z) :: st))) : B.G h cl sl (mkF m pc Ls (.int z :: .int x :: st)) := by
  subst hp; exact B.via (fun T t X r => XS.iadd X B.1 rfl (hb B.2.1 hd) rfl r) k
theorem Base.isub (B : Base p l e R s m args below meth c Z y bytes maxL ret h0 ws C) (pc' : Nat) (hp : pc' = pc + 1) {x : Int32} {z : Int32} (hd : decode bytes pc = .ok (.isub, 1)) (k : B.G h cl sl (mkF m pc' Ls (.int (x - z) :: st))) : B.G h cl sl (mkF m pc Ls (.int z :: .int x :: st)) := by
  subst hp; exact B.via (fun T t X r => XS.isub X B.1 rfl (hb B.2.1 hd) rfl r) k
theorem Base.iand (B : Base p l e R s m args below meth c Z y bytes maxL ret h0 ws C) (pc' : Nat) (hp : pc' = pc + 1) {x : Int32} {z : Int32} (hd : decode bytes pc = .ok (.iand, 1)) (k : B.G h cl sl (mkF m pc' Ls (.int (x &&& z) :: st))) : B.G h cl sl (mkF m pc Ls (.int z :: .int x :: st)) := by
  subst hp; exact B.via (fun T t X r => XS.iand X B.1 rfl (hb B.2.1 hd) rfl r) k
theorem Base.imul (B : Base p l e R s m args below meth c Z y bytes maxL ret h0 ws C) (pc' : Nat) (hp : pc' = pc + 1) {x : Int32} {z : Int32} (hd : decode bytes pc = .ok (.imul, 1)) (k : B.G h cl sl (mkF m pc' Ls (.int (x * z) :: st))) : B.G h cl sl (mkF m pc Ls (.int z :: .int x :: st)) := by
  subst hp; exact B.via (fun T t X r => XS.imul X B.1 rfl (hb B.2.1 hd) rfl r) k
theorem Base.ixor (B : Base p l e R s m args below meth c Z y bytes maxL ret h0 ws C) (pc' : Nat) (hp : pc' = pc + 1) {x : Int32} {z : Int32} (hd : decode bytes pc = .ok (.ixor, 1)) (k : B.G h cl sl (mkF m pc' Ls (.int (x ^^^ z) :: st))) : B.G h cl sl (mkF m pc Ls (.int z :: .int x :: st)) := by
  subst hp; exact B.via (fun T t X r => XT.ixor X B.1 rfl (hb B.2.1 hd) rfl r) k
theorem Base.ior (B : Base p l e R s m args below meth c Z y bytes maxL ret h0 ws C) (pc' : Nat) (hp : pc' = pc + 1) {x : Int32} {z : Int32} (hd : decode bytes pc = .ok (.ior, 1)) (k : B.G h cl sl (mkF m pc' Ls (.int (x ||| z) :: st))) : B.G h cl sl (mkF m pc Ls (.int z :: .int x :: st)) := by
  subst hp; exact B.via (fun T t X r => XT.ior X B.1 rfl (hb B.2.1 hd) rfl r) k
theorem Base.ishl (B : Base p l e R s m args below meth c Z y bytes maxL ret h0 ws C) (pc' : Nat) (hp : pc' = pc + 1) {x : Int32} {z : Int32} (hd : decode bytes pc = .ok (.ishl, 1)) (k : B.G h cl sl (mkF m pc' Ls (.int (x <<< (z &&& 31)) :: st))) : B.G h cl sl (mkF m pc Ls (.int z :: .int x :: st)) := by
  subst hp; exact B.via (fun T t X r => XT.ishl X B.1 rfl (hb B.2.1 hd) rfl r) k
theorem Base.ishr (B : Base p l e R s m args below meth c Z y bytes maxL ret h0 ws C) (pc' : Nat) (hp : pc' = pc + 1) {x : Int32} {z : Int32} (hd : decode bytes pc = .ok (.ishr, 1)) (k : B.G h cl sl (mkF m pc' Ls (.int (x >>> (z &&& 31)) :: st))) : B.G h cl sl (mkF m pc Ls (.int z :: .int x :: st)) := by
  subst hp; exact B.via (fun T t X r => XT.ishr X B.1 rfl (hb B.2.1 hd) rfl r) k
theorem Base.iushr (B : Base p l e R s m args below meth c Z y bytes maxL ret h0 ws C) (pc' : Nat) (hp : pc' = pc + 1) {x : Int32} {z : Int32} (hd : decode bytes pc = .ok (.iushr, 1)) (k : B.G h cl sl (mkF m pc' Ls (.int (XT.ushr x z) :: st))) : B.G h cl sl (mkF m pc Ls (.int z :: .int x :: st)) := by
  subst hp; exact B.via (fun T t X r => XT.iushr X B.1 rfl (hb B.2.1 hd) rfl r) k
theorem Base.ladd (B : Base p l e R s m args below meth c Z y bytes maxL ret h0 ws C) (pc' : Nat) (hp : pc' = pc + 1) {x : Int64} {z : Int64} (hd : decode bytes pc = .ok (.ladd, 1)) (k : B.G h cl sl (mkF m pc' Ls (.long (x + z) :: st))) : B.G h cl sl (mkF m pc Ls (.long z :: .long x :: st)) := by
  subst hp; exact B.via (fun T t X r => XT.ladd X B.1 rfl (hb B.2.1 hd) rfl r) k
theorem Base.lsub (B : Base p l e R s m args below meth c Z y bytes maxL ret h0 ws C) (pc' : Nat) (hp : pc' = pc + 1) {x : Int64} {z : Int64} (hd : decode bytes pc = .ok (.lsub, 1)) (k : B.G h cl sl (mkF m pc' Ls (.long (x - z) :: st))) : B.G h cl sl (mkF m pc Ls (.long z :: .long x :: st)) := by
  subst hp; exact B.via (fun T t X r => XT.lsub X B.1 rfl (hb B.2.1 hd) rfl r) k
theorem Base.lmul (B : Base p l e R s m args below meth c Z y bytes maxL ret h0 ws C) (pc' : Nat) (hp : pc' = pc + 1) {x : Int64} {z : Int64} (hd : decode bytes pc = .ok (.lmul, 1)) (k : B.G h cl sl (mkF m pc' Ls (.long (x * z) :: st))) : B.G h cl sl (mkF m pc Ls (.long z :: .long x :: st)) := by
  subst hp; exact B.via (fun T t X r => XT.lmul X B.1 rfl (hb B.2.1 hd) rfl r) k
theorem Base.land (B : Base p l e R s m args below meth c Z y bytes maxL ret h0 ws C) (pc' : Nat) (hp : pc' = pc + 1) {x : Int64} {z : Int64} (hd : decode bytes pc = .ok (.land, 1)) (k : B.G h cl sl (mkF m pc' Ls (.long (x &&& z) :: st))) : B.G h cl sl (mkF m pc Ls (.long z :: .long x :: st)) := by
  subst hp; exact B.via (fun T t X r => XT.land X B.1 rfl (hb B.2.1 hd) rfl r) k
theorem Base.lor (B : Base p l e R s m args below meth c Z y bytes maxL ret h0 ws C) (pc' : Nat) (hp : pc' = pc + 1) {x : Int64} {z : Int64} (hd : decode bytes pc = .ok (.lor, 1)) (k : B.G h cl sl (mkF m pc' Ls (.long (x ||| z) :: st))) : B.G h cl sl (mkF m pc Ls (.long z :: .long x :: st)) := by
  subst hp; exact B.via (fun T t X r => XT.lor X B.1 rfl (hb B.2.1 hd) rfl r) k
theorem Base.lxor (B : Base p l e R s m args below meth c Z y bytes maxL ret h0 ws C) (pc' : Nat) (hp : pc' = pc + 1) {x : Int64} {z : Int64} (hd : decode bytes pc = .ok (.lxor, 1)) (k : B.G h cl sl (mkF m pc' Ls (.long (x ^^^ z) :: st))) : B.G h cl sl (mkF m pc Ls (.long z :: .long x :: st)) := by
  subst hp; exact B.via (fun T t X r => XT.lxor X B.1 rfl (hb B.2.1 hd) rfl r) k
theorem Base.lshl (B : Base p l e R s m args below meth c Z y bytes maxL ret h0 ws C) (pc' : Nat) (hp : pc' = pc + 1) {x : Int64} {z : Int32} (hd : decode bytes pc = .ok (.lshl, 1)) (k : B.G h cl sl (mkF m pc' Ls (.long (x <<< (z.toInt64 &&& 63)) :: st))) : B.G h cl sl (mkF m pc Ls (.int z :: .long x :: st)) := by
  subst hp; exact B.via (fun T t X r => XT.lshl X B.1 rfl (hb B.2.1 hd) rfl r) k
theorem Base.lshr (B : Base p l e R s m args below meth c Z y bytes maxL ret h0 ws C) (pc' : Nat) (hp : pc' = pc + 1) {x : Int64} {z : Int32} (hd : decode bytes pc = .ok (.lshr, 1)) (k : B.G h cl sl (mkF m pc' Ls (.long (x >>> (z.toInt64 &&& 63)) :: st))) : B.G h cl sl (mkF m pc Ls (.int z :: .long x :: st)) := by
  subst hp; exact B.via (fun T t X r => XT.lshr X B.1 rfl (hb B.2.1 hd) rfl r) k
theorem Base.lushr (B : Base p l e R s m args below meth c Z y bytes maxL ret h0 ws C) (pc' : Nat) (hp : pc' = pc + 1) {x : Int64} {z : Int32} (hd : decode bytes pc = .ok (.lushr, 1)) (k : B.G h cl sl (mkF m pc' Ls (.long (XT.ushrL x z) :: st))) : B.G h cl sl (mkF m pc Ls (.int z :: .long x :: st)) := by
  subst hp; exact B.via (fun T t X r => XT.lushr X B.1 rfl (hb B.2.1 hd) rfl r) k
theorem Base.lcmp (B : Base p l e R s m args below meth c Z y bytes maxL ret h0 ws C) (pc' : Nat) (hp : pc' = pc + 1) {x : Int64} {z : Int64} (hd : decode bytes pc = .ok (.lcmp, 1)) (k : B.G h cl sl (mkF m pc' Ls (.int (XT.cmpL x z) :: st))) : B.G h cl sl (mkF m pc Ls (.long z :: .long x :: st)) := by
  subst hp; exact B.via (fun T t X r => XT.lcmp X B.1 rfl (hb B.2.1 hd) rfl r) k
theorem Base.idiv (B : Base p l e R s m args below meth c Z y bytes maxL ret h0 ws C) (pc' : Nat) (hp : pc' = pc + 1) {x : Int32} {z : Int32} (hd : decode bytes pc = .ok (.idiv, 1)) (hz : z ≠ 0) (k : B.G h cl sl (mkF m pc' Ls (.int (x / z) :: st))) : B.G h cl sl (mkF m pc Ls (.int z :: .int x :: st)) := by
  subst hp; exact B.via (fun T t X r => XS.idiv X B.1 rfl (hb B.2.1 hd) rfl hz r) k
theorem Base.ldiv (B : Base p l e R s m args below meth c Z y bytes maxL ret h0 ws C) (pc' : Nat) (hp : pc' = pc + 1) {x : Int64} {z : Int64} (hd : decode bytes pc = .ok (.ldiv, 1)) (hz : z ≠ 0) (k : B.G h cl sl (mkF m pc' Ls (.long (x / z) :: st))) : B.G h cl sl (mkF m pc Ls (.long z :: .long x :: st)) := by
  subst hp; exact B.via (fun T t X r => XT.ldiv X B.1 rfl (hb B.2.1 hd) rfl hz r) k
theorem Base.irem (B : Base p l e R s m args below meth c Z y bytes maxL ret h0 ws C) (pc' : Nat) (hp : pc' = pc + 1) {x z : Int32} (hd : decode bytes pc = .ok (.irem, 1)) (hz : z ≠ 0) (k : B.G h cl sl (mkF m pc' Ls (.int (x % z) :: st))) : B.G h cl sl (mkF m pc Ls (.int z :: .int x :: st)) := by
  subst hp; exact B.viaX (fun T t L X _ r => iremM X B.1 rfl (hb B.2.1 hd) rfl hz r) k
theorem Base.ineg (B : Base p l e R s m args below meth c Z y bytes maxL ret h0 ws C) (pc' : Nat) (hp : pc' = pc + 1) {x : Int32} (hd : decode bytes pc = .ok (.ineg, 1)) (k : B.G h cl sl (mkF m pc' Ls (.int (-x) :: st))) : B.G h cl sl (mkF m pc Ls (.int x :: st)) := by
  subst hp; exact B.via (fun T t X r => XS.ineg X B.1 rfl (hb B.2.1 hd) rfl r) k
theorem Base.lneg (B : Base p l e R s m args below meth c Z y bytes maxL ret h0 ws C) (pc' : Nat) (hp : pc' = pc + 1) {x : Int64} (hd : decode bytes pc = .ok (.lneg, 1)) (k : B.G h cl sl (mkF m pc' Ls (.long (-x) :: st))) : B.G h cl sl (mkF m pc Ls (.long x :: st)) := by
  subst hp; exact B.via (fun T t X r => XT.lneg X B.1 rfl (hb B.2.1 hd) rfl r) k
theorem Base.i2l (B : Base p l e R s m args below meth c Z y bytes maxL ret h0 ws C) (pc' : Nat) (hp : pc' = pc + 1) {x : Int32} (hd : decode bytes pc = .ok (.i2l, 1)) (k : B.G h cl sl (mkF m pc' Ls (.long (x.toInt64) :: st))) : B.G h cl sl (mkF m pc Ls (.int x :: st)) := by
  subst hp; exact B.via (fun T t X r => XT.i2l X B.1 rfl (hb B.2.1 hd) rfl r) k
theorem Base.l2i (B : Base p l e R s m args below meth c Z y bytes maxL ret h0 ws C) (pc' : Nat) (hp : pc' = pc + 1) {x : Int64} (hd : decode bytes pc = .ok (.l2i, 1)) (k : B.G h cl sl (mkF m pc' Ls (.int (x.toInt32) :: st))) : B.G h cl sl (mkF m pc Ls (.long x :: st)) := by
  subst hp; exact B.via (fun T t X r => XT.l2i X B.1 rfl (hb B.2.1 hd) rfl r) k
theorem Base.i2b (B : Base p l e R s m args below meth c Z y bytes maxL ret h0 ws C) (pc' : Nat) (hp : pc' = pc + 1) {x : Int32} (hd : decode bytes pc = .ok (.i2b, 1)) (k : B.G h cl sl (mkF m pc' Ls (.int (x.toInt8.toInt32) :: st))) : B.G h cl sl (mkF m pc Ls (.int x :: st)) := by
  subst hp; exact B.via (fun T t X r => XT.i2b X B.1 rfl (hb B.2.1 hd) rfl r) k
theorem Base.i2c (B : Base p l e R s m args below meth c Z y bytes maxL ret h0 ws C) (pc' : Nat) (hp : pc' = pc + 1) {x : Int32} (hd : decode bytes pc = .ok (.i2c, 1)) (k : B.G h cl sl (mkF m pc' Ls (.int (x.toUInt32.toUInt16.toUInt32.toInt32) :: st))) : B.G h cl sl (mkF m pc Ls (.int x :: st)) := by
  subst hp; exact B.via (fun T t X r => XT.i2c X B.1 rfl (hb B.2.1 hd) rfl r) k
theorem Base.i2s (B : Base p l e R s m args below meth c Z y bytes maxL ret h0 ws C) (pc' : Nat) (hp : pc' = pc + 1) {x : Int32} (hd : decode bytes pc = .ok (.i2s, 1)) (k : B.G h cl sl (mkF m pc' Ls (.int (x.toInt16.toInt32) :: st))) : B.G h cl sl (mkF m pc Ls (.int x :: st)) := by
  subst hp; exact B.via (fun T t X r => XT.i2s X B.1 rfl (hb B.2.1 hd) rfl r) k
theorem Base.icmp_eq (B : Base p l e R s m args below meth c Z y bytes maxL ret h0 ws C) (pt pf : Nat) {o : Int} (hpt : ((pc : Int) + o).toNat = pt) (ho : 0 ≤ (pc : Int) + o) (hpf : pf = pc + 3) {x z : Int32} (hd : decode bytes pc = .ok (.if_icmp .eq o, 3)) (kt : x = z → B.G h cl sl (mkF m pt Ls st)) (kf : ¬ x = z → B.G h cl sl (mkF m pf Ls st)) : B.G h cl sl (mkF m pc Ls (.int z :: .int x :: st)) := by
  subst hpt hpf
  by_cases q : x = z
  · exact B.via (fun T t X r => XS.icmpYes X B.1 rfl rfl (hb B.2.1 hd) rfl (XT.ii_eq_t q) ho rfl r) (kt q)
  · exact B.via (fun T t X r => XS.icmpNo X B.1 rfl (hb B.2.1 hd) rfl (XT.ii_eq_f q) r) (kf q)
theorem Base.if0_eq (B : Base p l e R s m args below meth c Z y bytes maxL ret h0 ws C) (pt pf : Nat) {o : Int} (hpt : ((pc : Int) + o).toNat = pt) (ho : 0 ≤ (pc : Int) + o) (hpf : pf = pc + 3) {x : Int32} (hd : decode bytes pc = .ok (.ifCond .eq o, 3)) (kt : x = 0 → B.G h cl sl (mkF m pt Ls st)) (kf : ¬ x = 0 → B.G h cl sl (mkF m pf Ls st)) : B.G h cl sl (mkF m pc Ls (.int x :: st)) := by
  subst hpt hpf
  by_cases q : x = 0
  · exact B.via (fun T t X r => XS.ifYes X B.1 rfl rfl (hb B.2.1 hd) rfl (XT.i0_eq_t q) ho rfl r) (kt q)
  · exact B.via (fun T t X r => XS.ifNo X B.1 rfl (hb B.2.1 hd) rfl (XT.i0_eq_f q) r) (kf q)
theorem Base.lif_eq (B : Base p l e R s m args below meth c Z y bytes maxL ret h0 ws C) (pt pf : Nat) {o : Int} (hpt : ((pc : Int) + o).toNat = pt) (ho : 0 ≤ (pc : Int) + o) (hpf : pf = pc + 3) {x z : Int64} (hd : decode bytes pc = .ok (.ifCond .eq o, 3)) (kt : x = z → B.G h cl sl (mkF m pt Ls st)) (kf : ¬ x = z → B.G h cl sl (mkF m pf Ls st)) : B.G h cl sl (mkF m pc Ls (.int (XT.cmpL x z) :: st)) := by
  subst hpt hpf
  by_cases q : x = z
  · exact B.via (fun T t X r => XS.ifYes X B.1 rfl rfl (hb B.2.1 hd) rfl (XT.ll_eq_t q) ho rfl r) (kt q)
  · exact B.via (fun T t X r => XS.ifNo X B.1 rfl (hb B.2.1 hd) rfl (XT.ll_eq_f q) r) (kf q)
theorem Base.icmp_ne (B : Base p l e R s m args below meth c Z y bytes maxL ret h0 ws C) (pt pf : Nat) {o : Int} (hpt : ((pc : Int) + o).toNat = pt) (ho : 0 ≤ (pc : Int) + o) (hpf : pf = pc + 3) {x z : Int32} (hd : decode bytes pc = .ok (.if_icmp .ne o, 3)) (kt : ¬ x = z → B.G h cl sl (mkF m pt Ls st)) (kf : x = z → B.G h cl sl (mkF m pf Ls st)) : B.G h cl sl (mkF m pc Ls (.int z :: .int x :: st)) := by
  subst hpt hpf
  by_cases q : x = z
  · exact B.via (fun T t X r => XS.icmpNo X B.1 rfl (hb B.2.1 hd) rfl (XT.ii_ne_f q) r) (kf q)
  · exact B.via (fun T t X r => XS.icmpYes X B.1 rfl rfl (hb B.2.1 hd) rfl (XT.ii_ne_t q) ho rfl r) (kt q)
theorem Base.if0_ne (B : Base p l e R s m args below meth c Z y bytes maxL ret h0 ws C) (pt pf : Nat) {o : Int} (hpt : ((pc : Int) + o).toNat = pt) (ho : 0 ≤ (pc : Int) + o) (hpf : pf = pc + 3) {x : Int32} (hd : decode bytes pc = .ok (.ifCond .ne o, 3)) (kt : ¬ x = 0 → B.G h cl sl (mkF m pt Ls st)) (kf : x = 0 → B.G h cl sl (mkF m pf Ls st)) : B.G h cl sl (mkF m pc Ls (.int x :: st)) := by
  subst hpt hpf
  by_cases q : x = 0
  · exact B.via (fun T t X r => XS.ifNo X B.1 rfl (hb B.2.1 hd) rfl (XT.i0_ne_f q) r) (kf q)
  · exact B.via (fun T t X r => XS.ifYes X B.1 rfl rfl (hb B.2.1 hd) rfl (XT.i0_ne_t q) ho rfl r) (kt q)
theorem Base.lif_ne (B : Base p l e R s m args below meth c Z y bytes maxL ret h0 ws C) (pt pf : Nat) {o : Int} (hpt : ((pc : Int) + o).toNat = pt) (ho : 0 ≤ (pc : Int) + o) (hpf : pf = pc + 3) {x z : Int64} (hd : decode bytes pc = .ok (.ifCond .ne o, 3)) (kt : ¬ x = z → B.G h cl sl (mkF m pt Ls st)) (kf : x = z → B.G h cl sl (mkF m pf Ls st)) : B.G h cl sl (mkF m pc Ls (.int (XT.cmpL x z) :: st)) := by
  subst hpt hpf
  by_cases q : x = z
  · exact B.via (fun T t X r => XS.ifNo X B.1 rfl (hb B.2.1 hd) rfl (XT.ll_ne_f q) r) (kf q)
  · exact B.via (fun T t X r => XS.ifYes X B.1 rfl rfl (hb B.2.1 hd) rfl (XT.ll_ne_t q) ho rfl r) (kt q)
theorem Base.icmp_lt (B : Base p l e R s m args below meth c Z y bytes maxL ret h0 ws C) (pt pf : Nat) {o : Int} (hpt : ((pc : Int) + o).toNat = pt) (ho : 0 ≤ (pc : Int) + o) (hpf : pf = pc + 3) {x z : Int32} (hd : decode bytes pc = .ok (.if_icmp .lt o, 3)) (kt : x < z → B.G h cl sl (mkF m pt Ls st)) (kf : ¬ x < z → B.G h cl sl (mkF m pf Ls st)) : B.G h cl sl (mkF m pc Ls (.int z :: .int x :: st)) := by
  subst hpt hpf
  by_cases q : x < z
  · exact B.via (fun T t X r => XS.icmpYes X B.1 rfl rfl (hb B.2.1 hd) rfl (XT.ii_lt_t q) ho rfl r) (kt q)
  · exact B.via (fun T t X r => XS.icmpNo X B.1 rfl (hb B.2.1 hd) rfl (XT.ii_lt_f q) r) (kf q)
theorem Base.if0_lt (B : Base p l e R s m args below meth c Z y bytes maxL ret h0 ws C) (pt pf : Nat) {o : Int} (hpt : ((pc : Int) + o).toNat = pt) (ho : 0 ≤ (pc : Int) + o) (hpf : pf = pc + 3) {x : Int32} (hd : decode bytes pc = .ok (.ifCond .lt o, 3)) (kt : x < 0 → B.G h cl sl (mkF m pt Ls st)) (kf : ¬ x < 0 → B.G h cl sl (mkF m pf Ls st)) : B.G h cl sl (mkF m pc Ls (.int x :: st)) := by
  subst hpt hpf
  by_cases q : x < 0
  · exact B.via (fun T t X r => XS.ifYes X B.1 rfl rfl (hb B.2.1 hd) rfl (XT.i0_lt_t q) ho rfl r) (kt q)
  · exact B.via (fun T t X r => XS.ifNo X B.1 rfl (hb B.2.1 hd) rfl (XT.i0_lt_f q) r) (kf q)
theorem Base.lif_lt (B : Base p l e R s m args below meth c Z y bytes maxL ret h0 ws C) (pt pf : Nat) {o : Int} (hpt : ((pc : Int) + o).toNat = pt) (ho : 0 ≤ (pc : Int) + o) (hpf : pf = pc + 3) {x z : Int64} (hd : decode bytes pc = .ok (.ifCond .lt o, 3)) (kt : x < z → B.G h cl sl (mkF m pt Ls st)) (kf : ¬ x < z → B.G h cl sl (mkF m pf Ls st)) : B.G h cl sl (mkF m pc Ls (.int (XT.cmpL x z) :: st)) := by
  subst hpt hpf
  by_cases q : x < z
  · exact B.via (fun T t X r => XS.ifYes X B.1 rfl rfl (hb B.2.1 hd) rfl (XT.ll_lt_t q) ho rfl r) (kt q)
  · exact B.via (fun T t X r => XS.ifNo X B.1 rfl (hb B.2.1 hd) rfl (XT.ll_lt_f q) r) (kf q)
theorem Base.icmp_ge (B : Base p l e R s m args below meth c Z y bytes maxL ret h0 ws C) (pt pf : Nat) {o : Int} (hpt : ((pc : Int) + o).toNat = pt) (ho : 0 ≤ (pc : Int) + o) (hpf : pf = pc + 3) {x z : Int32} (hd : decode bytes pc = .ok (.if_icmp .ge o, 3)) (kt : ¬ x < z → B.G h cl sl (mkF m pt Ls st)) (kf : x < z → B.G h cl sl (mkF m pf Ls st)) : B.G h cl sl (mkF m pc Ls (.int z :: .int x :: st)) := by
  subst hpt hpf
  by_cases q : x < z
  · exact B.via (fun T t X r => XS.icmpNo X B.1 rfl (hb B.2.1 hd) rfl (XT.ii_ge_f q) r) (kf q)
  · exact B.via (fun T t X r => XS.icmpYes X B.1 rfl rfl (hb B.2.1 hd) rfl (XT.ii_ge_t q) ho rfl r) (kt q)
theorem Base.if0_ge (B : Base p l e R s m args below meth c Z y bytes maxL ret h0 ws C) (pt pf : Nat) {o : Int} (hpt : ((pc : Int) + o).toNat = pt) (ho : 0 ≤ (pc : Int) + o) (hpf : pf = pc + 3) {x : Int32} (hd : decode bytes pc = .ok (.ifCond .ge o, 3)) (kt : ¬ x < 0 → B.G h cl sl (mkF m pt Ls st)) (kf : x < 0 → B.G h cl sl (mkF m pf Ls st)) : B.G h cl sl (mkF m pc Ls (.int x :: st)) := by
  subst hpt hpf
  by_cases q : x < 0
  · exact B.via (fun T t X r => XS.ifNo X B.1 rfl (hb B.2.1 hd) rfl (XT.i0_ge_f q) r) (kf q)
  · exact B.via (fun T t X r => XS.ifYes X B.1 rfl rfl (hb B.2.1 hd) rfl (XT.i0_ge_t q) ho rfl r) (kt q)
theorem Base.lif_ge (B : Base p l e R s m args below meth c Z y bytes maxL ret h0 ws C) (pt pf : Nat) {o : Int} (hpt : ((pc : Int) + o).toNat = pt) (ho : 0 ≤ (pc : Int) + o) (hpf : pf = pc + 3) {x z : Int64} (hd : decode bytes pc = .ok (.ifCond .ge o, 3)) (kt : ¬ x < z → B.G h cl sl (mkF m pt Ls st)) (kf : x < z → B.G h cl sl (mkF m pf Ls st)) : B.G h cl sl (mkF m pc Ls (.int (XT.cmpL x z) :: st)) := by
  subst hpt hpf
  by_cases q : x < z
  · exact B.via (fun T t X r => XS.ifNo X B.1 rfl (hb B.2.1 hd) rfl (XT.ll_ge_f q) r) (kf q)
  · exact B.via (fun T t X r => XS.ifYes X B.1 rfl rfl (hb B.2.1 hd) rfl (XT.ll_ge_t q) ho rfl r) (kt q)
theorem Base.icmp_gt (B : Base p l e R s m args below meth c Z y bytes maxL ret h0 ws C) (pt pf : Nat) {o : Int} (hpt : ((pc : Int) + o).toNat = pt) (ho : 0 ≤ (pc : Int) + o) (hpf : pf = pc + 3) {x z : Int32} (hd : decode bytes pc = .ok (.if_icmp .gt o, 3)) (kt : z < x → B.G h cl sl (mkF m pt Ls st)) (kf : ¬ z < x → B.G h cl sl (mkF m pf Ls st)) : B.G h cl sl (mkF m pc Ls (.int z :: .int x :: st)) := by
  subst hpt hpf
  by_cases q : z < x
  · exact B.via (fun T t X r => XS.icmpYes X B.1 rfl rfl (hb B.2.1 hd) rfl (XT.ii_gt_t q) ho rfl r) (kt q)
  · exact B.via (fun T t X r => XS.icmpNo X B.1 rfl (hb B.2.1 hd) rfl (XT.ii_gt_f q) r) (kf q)
theorem Base.if0_gt (B : Base p l e R s m args below meth c Z y bytes maxL ret h0 ws C) (pt pf : Nat) {o : Int} (hpt : ((pc : Int) + o).toNat = pt) (ho : 0 ≤ (pc : Int) + o) (hpf : pf = pc + 3) {x : Int32} (hd : decode bytes pc = .ok (.ifCond .gt o, 3)) (kt : 0 < x → B.G h cl sl (mkF m pt Ls st)) (kf : ¬ 0 < x → B.G h cl sl (mkF m pf Ls st)) : B.G h cl sl (mkF m pc Ls (.int x :: st)) := by
  subst hpt hpf
  by_cases q : 0 < x
  · exact B.via (fun T t X r => XS.ifYes X B.1 rfl rfl (hb B.2.1 hd) rfl (XT.i0_gt_t q) ho rfl r) (kt q)
  · exact B.via (fun T t X r => XS.ifNo X B.1 rfl (hb B.2.1 hd) rfl (XT.i0_gt_f q) r) (kf q)
theorem Base.lif_gt (B : Base p l e R s m args below meth c Z y bytes maxL ret h0 ws C) (pt pf : Nat) {o : Int} (hpt : ((pc : Int) + o).toNat = pt) (ho : 0 ≤ (pc : Int) + o) (hpf : pf = pc + 3) {x z : Int64} (hd : decode bytes pc = .ok (.ifCond .gt o, 3)) (kt : z < x → B.G h cl sl (mkF m pt Ls st)) (kf : ¬ z < x → B.G h cl sl (mkF m pf Ls st)) : B.G h cl sl (mkF m pc Ls (.int (XT.cmpL x z) :: st)) := by
  subst hpt hpf
  by_cases q : z < x
  · exact B.via (fun T t X r => XS.ifYes X B.1 rfl rfl (hb B.2.1 hd) rfl (XT.ll_gt_t q) ho rfl r) (kt q)
  · exact B.via (fun T t X r => XS.ifNo X B.1 rfl (hb B.2.1 hd) rfl (XT.ll_gt_f q) r) (kf q)
theorem Base.icmp_le (B : Base p l e R s m args below meth c Z y bytes maxL ret h0 ws C) (pt pf : Nat) {o : Int} (hpt : ((pc : Int) + o).toNat = pt) (ho : 0 ≤ (pc : Int) + o) (hpf : pf = pc + 3) {x z : Int32} (hd : decode bytes pc = .ok (.if_icmp .le o, 3)) (kt : ¬ z < x → B.G h cl sl (mkF m pt Ls st)) (kf : z < x → B.G h cl sl (mkF m pf Ls st)) : B.G h cl sl (mkF m pc Ls (.int z :: .int x :: st)) := by
  subst hpt hpf
  by_cases q : z < x
  · exact B.via (fun T t X r => XS.icmpNo X B.1 rfl (hb B.2.1 hd) rfl (XT.ii_le_f q) r) (kf q)
  · exact B.via (fun T t X r => XS.icmpYes X B.1 rfl rfl (hb B.2.1 hd) rfl (XT.ii_le_t q) ho rfl r) (kt q)
theorem Base.if0_le (B : Base p l e R s m args below meth c Z y bytes maxL ret h0 ws C) (pt pf : Nat) {o : Int} (hpt : ((pc : Int) + o).toNat = pt) (ho : 0 ≤ (pc : Int) + o) (hpf : pf = pc + 3) {x : Int32} (hd : decode bytes pc = .ok (.ifCond .le o, 3)) (kt : ¬ 0 < x → B.G h cl sl (mkF m pt Ls st)) (kf : 0 < x → B.G h cl sl (mkF m pf Ls st)) : B.G h cl sl (mkF m pc Ls (.int x :: st)) := by
  subst hpt hpf
  by_cases q : 0 < x
  · exact B.via (fun T t X r => XS.ifNo X B.1 rfl (hb B.2.1 hd) rfl (XT.i0_le_f q) r) (kf q)
  · exact B.via (fun T t X r => XS.ifYes X B.1 rfl rfl (hb B.2.1 hd) rfl (XT.i0_le_t q) ho rfl r) (kt q)
theorem Base.lif_le (B : Base p l e R s m args below meth c Z y bytes maxL ret h0 ws C) (pt pf : Nat) {o : Int} (hpt : ((pc : Int) + o).toNat = pt) (ho : 0 ≤ (pc : Int) + o) (hpf : pf = pc + 3) {x z : Int64} (hd : decode bytes pc = .ok (.ifCond .le o, 3)) (kt : ¬ z < x → B.G h cl sl (mkF m pt Ls st)) (kf : z < x → B.G h cl sl (mkF m pf Ls st)) : B.G h cl sl (mkF m pc Ls (.int (XT.cmpL x z) :: st)) := by
  subst hpt hpf
  by_cases q : z < x
  · exact B.via (fun T t X r => XS.ifNo X B.1 rfl (hb B.2.1 hd) rfl (XT.ll_le_f q) r) (kf q)
  · exact B.via (fun T t X r => XS.ifYes X B.1 rfl rfl (hb B.2.1 hd) rfl (XT.ll_le_t q) ho rfl r) (kt q)
theorem Base.acmp_eq (B : Base p l e R s m args below meth c Z y bytes maxL ret h0 ws C) (pt pf : Nat) {o : Int} (hpt : ((pc : Int) + o).toNat = pt) (ho : 0 ≤ (pc : Int) + o) (hpf : pf = pc + 3) {x z : Value} (hd : decode bytes pc = .ok (.if_acmp .eq o, 3)) (hx' : x.isRef = true) (hz' : z.isRef = true) (kt : x = z → B.G h cl sl (mkF m pt Ls st)) (kf : ¬ x = z → B.G h cl sl (mkF m pf Ls st)) : B.G h cl sl (mkF m pc Ls (z :: x :: st)) := by
  subst hpt hpf
  by_cases q : x = z
  · exact B.via (fun T t X r => XT.acmpYes X B.1 rfl rfl (hb B.2.1 hd) rfl hx' hz' (XT.aa_eq_t q) ho rfl r) (kt q)
  · exact B.via (fun T t X r => XT.acmpNo X B.1 rfl (hb B.2.1 hd) rfl hx' hz' (XT.aa_eq_f q) r) (kf q)
theorem Base.acmp_ne (B : Base p l e R s m args below meth c Z y bytes maxL ret h0 ws C) (pt pf : Nat) {o : Int} (hpt : ((pc : Int) + o).toNat = pt) (ho : 0 ≤ (pc : Int) + o) (hpf : pf = pc + 3) {x z : Value} (hd : decode bytes pc = .ok (.if_acmp .ne o, 3)) (hx' : x.isRef = true) (hz' : z.isRef = true) (kt : ¬ x = z → B.G h cl sl (mkF m pt Ls st)) (kf : x = z → B.G h cl sl (mkF m pf Ls st)) : B.G h cl sl (mkF m pc Ls (z :: x :: st)) := by
  subst hpt hpf
  by_cases q : x = z
  · exact B.via (fun T t X r => XT.acmpNo X B.1 rfl (hb B.2.1 hd) rfl hx' hz' (XT.aa_ne_f q) r) (kf q)
  · exact B.via (fun T t X r => XT.acmpYes X B.1 rfl rfl (hb B.2.1 hd) rfl hx' hz' (XT.aa_ne_t q) ho rfl r) (kt q)
theorem Base.ifnull (B : Base p l e R s m args below meth c Z y bytes maxL ret h0 ws C) (pt pf : Nat) {o : Int} (hpt : ((pc : Int) + o).toNat = pt) (ho : 0 ≤ (pc : Int) + o) (hpf : pf = pc + 3) {x : Value} (hd : decode bytes pc = .ok (.ifnull o, 3)) (hx' : x.isRef = true) (kt : x = .null → B.G h cl sl (mkF m pt Ls st)) (kf : ¬ x = .null → B.G h cl sl (mkF m pf Ls st)) : B.G h cl sl (mkF m pc Ls (x :: st)) := by
  subst hpt hpf
  by_cases q : x = .null
  · exact B.via (fun T t X r => XT.nullYes X B.1 rfl rfl (hb B.2.1 hd) rfl q ho rfl r) (kt q)
  · exact B.via (fun T t X r => XT.nullNo X B.1 rfl (hb B.2.1 hd) rfl hx' q r) (kf q)
theorem Base.ifnonnull (B : Base p l e R s m args below meth c Z y bytes maxL ret h0 ws C) (pt pf : Nat) {o : Int} (hpt : ((pc : Int) + o).toNat = pt) (ho : 0 ≤ (pc : Int) + o) (hpf : pf = pc + 3) {x : Value} (hd : decode bytes pc = .ok (.ifnonnull o, 3)) (hx' : x.isRef = true) (kt : ¬ x = .null → B.G h cl sl (mkF m pt Ls st)) (kf : x = .null → B.G h cl sl (mkF m pf Ls st)) : B.G h cl sl (mkF m pc Ls (x :: st)) := by
  subst hpt hpf
  by_cases q : x = .null
  · exact B.via (fun T t X r => XT.nonnullNo X B.1 rfl (hb B.2.1 hd) rfl q r) (kf q)
  · exact B.via (fun T t X r => XT.nonnullYes X B.1 rfl rfl (hb B.2.1 hd) rfl hx' q ho rfl r) (kt q)
theorem Base.topI (B : Base p l e R s m args below meth c Z y bytes maxL ret h0 ws C) {x : Int32} (v : Int32) (q : x = v) (k : B.G h cl sl (mkF m pc Ls (.int v :: st))) : B.G h cl sl (mkF m pc Ls (.int x :: st)) := by subst q; exact k
theorem Base.topL (B : Base p l e R s m args below meth c Z y bytes maxL ret h0 ws C) {x : Int64} (v : Int64) (q : x = v) (k : B.G h cl sl (mkF m pc Ls (.long v :: st))) : B.G h cl sl (mkF m pc Ls (.long x :: st)) := by subst q; exact k
/-! 2. the ends -/
theorem Base.leave (B : Base p l e R s m args below meth c Z y bytes maxL ret h0 ws C) (hcl : cl ≤ R.cells) (hsl : sl ≤ R.slots) {v : Option Value} (hv : meth.sig.returnType = none → v = none) (hC : C v h)
    (st : ∀ (T : State) (locs : List Loc) (fs : List Frame), Stand p l e R s m args below meth c T locs cl sl → (∀ (f : JFrame) (acts : List Action), f.method = m → f.locked = none → f.entered = [] → (doReturn e (T.setTop f) acts v).1 = T.setFrames fs) → Steps p.tables e below (T.setTop g) (T.setFrames fs)) : B.G h cl sl g := fun T locs X N eT => by
  have hlk : meth.locks = false := B.2.2.2.2.2.2.1
  obtain ⟨fs, hr, hrun, hended, hW, hsame⟩ := X.leave (v := v) hv hlk
  have e0 := B.2.2.2.2.2.2.2.2
  refine ⟨_, _, st T locs fs X hr, hrun, hended, _, _, rfl, ⟨?_, N, ?_⟩, ⟨_, rfl⟩, hW, hsame.mono hcl hsl⟩
  · show C v T.heap
    rw [eT]; exact hC
  · show Keep h0 T.heap ws
    rw [← e0] at N ⊢
    exact keep_of X N
theorem Base.ret0 (B : Base p l e R s m args below meth c Z y bytes maxL none h0 ws C) (hd : decode bytes pc = .ok (.return_, 1)) (hcl : cl ≤ R.cells) (hsl : sl ≤ R.slots) (hC : C none h) : B.G h cl sl (mkF m pc Ls []) :=
  B.leave hcl hsl (fun _ => rfl) hC fun T locs fs X hr => X.returnOut B.1 B.2.2.2.2.2.1 (hb B.2.1 hd) hr
theorem Base.retI (B : Base p l e R s m args below meth c Z y bytes maxL (some .int) h0 ws C) {x : Int32} (hd : decode bytes pc = .ok (.ireturn, 1)) (hcl : cl ≤ R.cells) (hsl : sl ≤ R.slots) (hC : C (some (.int x)) h) : B.G h cl sl (mkF m pc Ls (.int x :: st)) :=
  B.leave hcl hsl (fun q => by rw [B.2.2.2.2.2.1] at q; cases q) hC fun T locs fs X hr => retOut X B.1 B.2.2.2.2.2.1 rfl (Or.inl ⟨rfl, Or.inl rfl, _, rfl⟩) (hb B.2.1 hd) hr
theorem Base.retL (B : Base p l e R s m args below meth c Z y bytes maxL (some .long) h0 ws C) {x : Int64} (hd : decode bytes pc = .ok (.lreturn, 1)) (hcl : cl ≤ R.cells) (hsl : sl ≤ R.slots) (hC : C (some (.long x)) h) : B.G h cl sl (mkF m pc Ls (.long x :: st)) :=
  B.leave hcl hsl (fun q => by rw [B.2.2.2.2.2.1] at q; cases q) hC fun T locs fs X hr => retOut X B.1 B.2.2.2.2.2.1 rfl (Or.inr (Or.inl ⟨rfl, rfl, _, rfl⟩)) (hb B.2.1 hd) hr
/-- a boolean, byte, char, short: what comes back is narrowed -/
theorem Base.retN {t : FieldType} (B : Base p l e R s m args below meth c Z y bytes maxL (some t) h0 ws C) {x : Int32} (ht : t = .boolean ∨ t = .byte ∨ t = .char ∨ t = .short) (hd : decode bytes pc = .ok (.ireturn, 1)) (hcl : cl ≤ R.cells) (hsl : sl ≤ R.slots) (hC : C (some (.int (nar t x))) h) : B.G h cl sl (mkF m pc Ls (.int x :: st)) :=
  B.leave hcl hsl (fun q => by rw [B.2.2.2.2.2.1] at q; cases q) hC fun T locs fs X hr => Jvm.RoadKit.retN X B.1 B.2.2.2.2.2.1 ht (hb B.2.1 hd) hr
theorem Base.retA {t : FieldType} (B : Base p l e R s m args below meth c Z y bytes maxL (some t) h0 ws C) {x : Value} (ht : t.isReference = true) (hx' : x.isRef = true) (hd : decode bytes pc = .ok (.areturn, 1)) (hcl : cl ≤ R.cells) (hsl : sl ≤ R.slots) (hC : C (some x) h) : B.G h cl sl (mkF m pc Ls (x :: st)) :=
  B.leave hcl hsl (fun q => by rw [B.2.2.2.2.2.1] at q; cases q) hC fun T locs fs X hr => retOut X B.1 B.2.2.2.2.2.1 (by rcases ref_cases hx' with rfl | ⟨a, rfl⟩ <;> cases t <;> simp_all [narrow, FieldType.isReference]) (Or.inr (Or.inr (Or.inr (Or.inr ⟨rfl, ht, hx'⟩)))) (hb B.2.1 hd) hr
/-! 3. the heap -/
theorem Base.size (B : Base p l e R s m args below meth c Z y bytes maxL ret h0 ws C) {T : State} {locs : List Loc} (X : Stand p l e R s m args below meth c T locs cl sl) : h0.size ≤ T.heap.size := by
  have q := X.same.2.1
  rw [B.2.2.2.2.2.2.2.2] at q; exact q
/-- the heap has only grown -/
theorem Base.grown (B : Base p l e R s m args below meth c Z y bytes maxL ret h0 ws C) (k : h0.size ≤ h.size → B.G h cl sl g) : B.G h cl sl g := fun T locs X N eT => k (by rw [← eT]; exact B.size X) T locs X N eT
theorem Base.getF (B : Base p l e R s m args below meth c Z y bytes maxL ret h0 ws C) (pc' : Nat) (hp : pc' = pc + 3) {i : Nat} {O n d : String} {a : Addr} {v : Value} (hd : decode bytes pc = .ok (.getfield i, 3)) (w : (Cond.fieldLink y.cls i O n d).before a0 Z = true) (F : Fld Z h a O n d v) (k : B.G h cl sl (mkF m pc' Ls (v :: st))) : B.G h cl sl (mkF m pc Ls (.ref a :: st)) := fun T locs X N eT => by
  subst hp
  obtain ⟨T', X', e', stp⟩ := Jvm.RoadKit.getF X B.1 B.2.2.2.1 B.2.2.2.2.1 (host := "") (Or.inl w) Via.refl eT F (g := mkF m pc Ls (.ref a :: st)) rfl rfl (hb B.2.1 hd)
  obtain ⟨t, o, q, r⟩ := k T' locs X' N e'
  exact ⟨t, o, stp _ q, r⟩
theorem Base.getS (B : Base p l e R s m args below meth c Z y bytes maxL ret h0 ws C) (pc' : Nat) (hp : pc' = pc + 3) {i : Nat} {O n d : String} {v : Value} (hd : decode bytes pc = .ok (.getstatic i, 3)) (w : (Cond.fieldLink y.cls i O n d).before a0 Z = true) (F : Sta Z h O n d v) (k : B.G h cl sl (mkF m pc' Ls (v :: st))) : B.G h cl sl (mkF m pc Ls st) := fun T locs X N eT => by
  subst hp
  obtain ⟨T', X', e', stp⟩ := Jvm.RoadKit.getS (host := "") X B.1 B.2.2.2.1 B.2.2.2.2.1 w Via.refl eT F (g := mkF m pc Ls st) rfl (hb B.2.1 hd)
  obtain ⟨t, o, q, r⟩ := k T' locs X' N e'
  exact ⟨t, o, stp _ q, r⟩
theorem Base.putF (B : Base p l e R s m args below meth c Z y bytes maxL ret h0 ws C) (pc' : Nat) (hp : pc' = pc + 3) {i kk : Nat} {O n d CC : String} {a : Addr} {v old : Value} {ty : FieldType} (hd : decode bytes pc = .ok (.putfield i, 3)) (w : (Cond.fieldLink y.cls i O n d).before a0 Z = true) (F : Fld Z h a O n d old) (E : Exa Z h a CC)
    (L : (Cond.lays CC O n d).before a0 Z = true ∨ ((Cond.laysFinal CC O n d).before a0 Z = true ∧ y.cls = O ∧ y.name = "<init>")) (wi : (Cond.instantiable CC kk).before a0 Z = true) (hty : parseFieldDescriptor d = some ty) (hn : narrow ty v = v) (hf : fits ty v = true) (hw : a ∈ ws ∨ h0.size ≤ a)
    (k : ∀ h', Wr h h' a (Jvm.RoadKit.slotOf Z O n d) v → B.G h' cl sl (mkF m pc' Ls st)) : B.G h cl sl (mkF m pc Ls (v :: .ref a :: st)) := fun T locs X N eT => by
  subst hp
  obtain ⟨T', h', X', e', W, stp⟩ := Jvm.RoadKit.putF X B.1 B.2.2.2.1 B.2.2.2.2.1 (host := "") (Or.inl w) Via.refl eT F E (L.imp id fun q => ⟨q.1, q.2.1, B.2.2.2.2.2.2.2.1.trans q.2.2⟩) wi hty hn hf (g := mkF m pc Ls (v :: .ref a :: st)) rfl rfl (hb B.2.1 hd)
  obtain ⟨t, o, q, r⟩ := k h' W T' _ X' (N.one hw) e'
  exact ⟨t, o, stp _ q, r⟩
theorem Base.newO (B : Base p l e R s m args below meth c Z y bytes maxL ret h0 ws C) (pc' : Nat) (hp : pc' = pc + 3) {i n : Nat} {CC : String} (hd : decode bytes pc = .ok (.new i, 3)) (w : (Cond.classLink y.cls i CC).before a0 Z = true) (wi : (Cond.instantiable CC n).before a0 Z = true) (wz : (Cond.initialized CC).before a0 Z = true) (hc : cl + 1 ≤ R.cells) (hs : sl + n ≤ R.slots)
    (k : ∀ h' a, a = h.size → h0.size ≤ a → Ext h h' → Exa Z h' a CC → (∀ {O nm d : String} {ty : FieldType}, Laid Z a0 CC O nm d → parseFieldDescriptor d = some ty → Fld Z h' a O nm d (defaultValue ty)) → B.G h' (cl + 1) (sl + n) (mkF m pc' Ls (.ref a :: st))) : B.G h cl sl (mkF m pc Ls st) := fun T locs X N eT => by
  subst hp
  obtain ⟨T', h', X', e', E, A, D, -, stp⟩ := Jvm.RoadKit.newO X B.1 B.2.2.2.1 B.2.2.2.2.1 w wi wz eT (g := mkF m pc Ls st) rfl (hb B.2.1 hd) hc hs
  obtain ⟨t, o, q, r⟩ := k h' _ rfl (by rw [← eT]; exact B.size X) E A D T' locs X' N e'
  exact ⟨t, o, stp _ q, r⟩
theorem Base.initO (B : Base p l e R s m args below meth c Z y bytes maxL ret h0 ws C) (pc' : Nat) (hp : pc' = pc + 3) {i : Nat} {a : Addr} (hd : decode bytes pc = .ok (.invokespecial i, 3)) (w1 : (Cond.methodLink y.cls i Lib.objectInit).before a0 Z = true) (w2 : (Cond.instanceMethod Lib.objectInit).before a0 Z = true) (w3 : (Cond.code Lib.objectInit ⟨#[0xb1]⟩ 1 none).before a0 Z = true)
    (hLs : Ls.size = maxL) (W : Nat) (hW : (st.map fun v => v.category).sum = W) (hf : 1 ≤ R.frames) (hl : W + 12 ≤ R.locals) (k : B.G h cl sl (mkF m pc' Ls st)) : B.G h cl sl (mkF m pc Ls (.ref a :: st)) := fun T locs X N eT => by
  subst hp
  obtain ⟨T', X', e', stp⟩ := Jvm.RoadKit.initO X B.1 B.2.2.2.1 B.2.2.2.2.1 w1 w2 w3 eT (g := mkF m pc Ls (.ref a :: st)) rfl (hLs.trans B.2.2.1.symm) rfl (hb B.2.1 hd) hf (W := W) (by show 2 * 0 + _ ≤ _; omega) hl
  obtain ⟨t, o, q, r⟩ := k T' locs X' N e'
  exact ⟨t, o, stp _ q, r⟩
/-! 4. calls -/
section Calls
variable {z : MethodName} {i : Nat} {cb : ByteArray} {cm : Nat} {cr : Option FieldType} {rm : Room} {as : Array Value} {ws' : List Addr} {C' : Option Value → Heap → Prop} {argsL rest : List Value} {ps : List FieldType} {rt : Option FieldType} {W : Nat}
theorem Base.callS (B : Base p l e R s m args below meth c Z y bytes maxL ret h0 ws C) (pc' : Nat) (hp : pc' = pc + 3) (hd : decode bytes pc = .ok (.invokestatic i, 3))
    (w1 : (Cond.methodLink y.cls i z).before a0 Z = true) (w2 : (Cond.static z).before a0 Z = true) (w3 : (Cond.initialized z.cls).before a0 Z = true) (w4 : (Cond.code z cb cm cr).before a0 Z = true)
    (hz : z.cls ≠ "java/lang/invoke/MethodHandle" ∧ z.cls ≠ "java/lang/invoke/VarHandle") (argsL rest : List Value) (M : Met l Z z cb cm cr [] rm as h ws' C') (has : argsL.toArray = as) (hst : st = argsL.reverse ++ rest) (hpd : parseMethodDescriptor z.desc = some ⟨ps, rt⟩) (hlen : argsL.length = ps.length) (hLs : Ls.size = maxL)
    (W : Nat) (hW : (rest.map fun v => v.category).sum = W) (hf : rm.frames + 1 ≤ R.frames) (hl : W + (cm + 11) + rm.locals ≤ R.locals) (hc : cl + rm.cells ≤ R.cells) (hs : sl + rm.slots ≤ R.slots) (hws : ∀ x ∈ ws', x ∈ ws ∨ h0.size ≤ x)
    (k : ∀ v h', Keep h h' ws' → C' v h' → B.G h' (cl + rm.cells) (sl + rm.slots) (mkF m pc' Ls (v.toList ++ rest))) : B.G h cl sl (mkF m pc Ls st) := fun T locs X N eT => by
  subst hp
  have hZ := B.2.2.2.1
  obtain ⟨v, _, ⟨T', L', k', n'⟩, -, X', ⟨Lc, hQ, l', y', z'⟩, stp⟩ := Jvm.LawKit.callS X B.1 (y := z) B.2.2.2.2.1 (mvT hZ w1) (mvT hZ w2) (mvT hZ w3) (mvT hZ w4) hz (backOf (W := W) M hZ w4 w3 hf hl) (g := mkF m pc Ls st) rfl (hLs.trans B.2.2.1.symm) (argsL := argsL) (rest := rest) (lenOf hpd hlen) hst (by show 2 * 0 + _ ≤ _; omega) (hb B.2.1 hd) (fun _ _ => ⟨has, eT, hc, hs⟩)
  dsimp only [Pt.U, Pt.locs, Pt.cells, Pt.slots] at X' l' y' z' stp hQ
  subst l' y' z'
  obtain ⟨hC, hN, hK⟩ := hQ
  obtain ⟨t, o, q, r⟩ := k v T'.heap hK hC T' _ X' (N.app fun u hu => (hN u hu).elim (fun q => hws _ q) fun q => Or.inr (Nat.le_trans (by rw [← eT]; exact B.size X) q)) rfl
  exact ⟨t, o, stp _ q, r⟩
theorem Base.callI (B : Base p l e R s m args below meth c Z y bytes maxL ret h0 ws C) (pc' : Nat) (hp : pc' = pc + 3) (hd : decode bytes pc = .ok (.invokespecial i, 3)) (hin : z.name = "<init>")
    (w1 : (Cond.methodLink y.cls i z).before a0 Z = true) (w2 : (Cond.instanceMethod z).before a0 Z = true) (w3 : (Cond.initialized z.cls).before a0 Z = true) (w4 : (Cond.code z cb cm none).before a0 Z = true)
    (hz : z.cls ≠ "java/lang/invoke/MethodHandle" ∧ z.cls ≠ "java/lang/invoke/VarHandle") {a : Addr} (argsL rest : List Value) (M : Met l Z z cb cm none [] rm as h ws' C') (has : (.ref a :: argsL).toArray = as) (hst : st = argsL.reverse ++ .ref a :: rest) (hpd : parseMethodDescriptor z.desc = some ⟨ps, rt⟩) (hlen : argsL.length = ps.length) (hLs : Ls.size = maxL)
    (W : Nat) (hW : (rest.map fun v => v.category).sum = W) (hf : rm.frames + 1 ≤ R.frames) (hl : W + (cm + 11) + rm.locals ≤ R.locals) (hc : cl + rm.cells ≤ R.cells) (hs : sl + rm.slots ≤ R.slots) (hws : ∀ x ∈ ws', x ∈ ws ∨ h0.size ≤ x)
    (k : ∀ v h', Keep h h' ws' → C' v h' → B.G h' (cl + rm.cells) (sl + rm.slots) (mkF m pc' Ls (v.toList ++ rest))) : B.G h cl sl (mkF m pc Ls st) := fun T locs X N eT => by
  subst hp
  have hZ := B.2.2.2.1
  obtain ⟨v, _, ⟨T', L', k', n'⟩, -, X', ⟨Lc, hQ, l', y', z'⟩, stp⟩ := X.specialBack B.1 (y := z) hin B.2.2.2.2.1 (mvT hZ w1) (mvT hZ w2) (mvT hZ w4) hz (backOf (W := W) M hZ w4 w3 hf hl) (g := mkF m pc Ls st) rfl (hLs.trans B.2.2.1.symm) (Steps.refl _) (a := a) (argsL := argsL) (rest := rest) (lenOf hpd hlen) hst (by show 2 * 0 + _ ≤ _; omega) (hb B.2.1 hd) (fun _ _ => ⟨has, eT, hc, hs⟩)
  dsimp only [Pt.U, Pt.locs, Pt.cells, Pt.slots] at X' l' y' z' stp hQ
  subst l' y' z'
  obtain ⟨hC, hN, hK⟩ := hQ
  obtain ⟨t, o, q, r⟩ := k v T'.heap hK hC T' _ X' (N.app fun u hu => (hN u hu).elim (fun q => hws _ q) fun q => Or.inr (Nat.le_trans (by rw [← eT]; exact B.size X) q)) rfl
  exact ⟨t, o, stp.trans q, r⟩
theorem Base.callV (B : Base p l e R s m args below meth c Z y bytes maxL ret h0 ws C) (pc' : Nat) (hp : pc' = pc + 3) (hd : decode bytes pc = .ok (.invokevirtual i, 3)) {CC : String}
    (w1 : (Cond.methodLink y.cls i z).before a0 Z = true) (w2 : (Cond.declares z).before a0 Z = true) (w5 : (Cond.selects CC z z).before a0 Z = true) (w6 : (Cond.instanceMethod z).before a0 Z = true) (w3 : (Cond.initialized z.cls).before a0 Z = true) (w4 : (Cond.code z cb cm cr).before a0 Z = true)
    (hz : z.cls ≠ "java/lang/invoke/MethodHandle" ∧ z.cls ≠ "java/lang/invoke/VarHandle") {a : Addr} (E : Exa Z h a CC) (argsL rest : List Value) (M : Met l Z z cb cm cr [] rm as h ws' C') (has : (.ref a :: argsL).toArray = as) (hst : st = argsL.reverse ++ .ref a :: rest) (hpd : parseMethodDescriptor z.desc = some ⟨ps, rt⟩) (hlen : argsL.length = ps.length) (hLs : Ls.size = maxL)
    (W : Nat) (hW : (rest.map fun v => v.category).sum = W) (hf : rm.frames + 1 ≤ R.frames) (hl : W + (cm + 11) + rm.locals ≤ R.locals) (hc : cl + rm.cells ≤ R.cells) (hs : sl + rm.slots ≤ R.slots) (hws : ∀ x ∈ ws', x ∈ ws ∨ h0.size ≤ x)
    (k : ∀ v h', Keep h h' ws' → C' v h' → B.G h' (cl + rm.cells) (sl + rm.slots) (mkF m pc' Ls (v.toList ++ rest))) : B.G h cl sl (mkF m pc Ls st) := fun T locs X N eT => by
  subst hp
  have hZ := B.2.2.2.1
  obtain ⟨cq, kq, qa, qb, qc⟩ := isOf hZ eT E
  obtain ⟨v, _, ⟨T', L', k', n'⟩, -, X', ⟨Lc, hQ, l', y', z'⟩, stp⟩ := X.virtualBack B.1 (y := z) (z := z) B.2.2.2.2.1 (mvT hZ w1) (mvT hZ w2) (notFace_of_selects (args := args) (mvT hZ w5)) (mvT hZ w5) (mvT hZ w6) hz (backOf (W := W) M hZ w4 w3 hf hl) qa qc (g := mkF m pc Ls st) rfl (hLs.trans B.2.2.1.symm) (Steps.refl _) (argsL := argsL) (rest := rest) (lenOf hpd hlen) hst (by show 2 * 0 + _ ≤ _; omega) (hb B.2.1 hd) (fun _ _ => ⟨has, eT, hc, hs⟩)
  dsimp only [Pt.U, Pt.locs, Pt.cells, Pt.slots] at X' l' y' z' stp hQ
  subst l' y' z'
  obtain ⟨hC, hN, hK⟩ := hQ
  obtain ⟨t, o, q, r⟩ := k v T'.heap hK hC T' _ X' (N.app fun u hu => (hN u hu).elim (fun q => hws _ q) fun q => Or.inr (Nat.le_trans (by rw [← eT]; exact B.size X) q)) rfl
  exact ⟨t, o, stp.trans q, r⟩
theorem Base.callVU (B : Base p l e R s m args below meth c Z y bytes maxL ret h0 ws C) (pc' : Nat) (hp : pc' = pc + 3) (hd : decode bytes pc = .ok (.invokevirtual i, 3)) {x : MethodName} {CC ow : String}
    (w1 : (Cond.methodLink y.cls i x).before a0 Z = true) (w0 : (Cond.sameMethod x.cls ow x.name x.desc).before a0 Z = true) (w2 : (Cond.declares ⟨ow, x.name, x.desc⟩).before a0 Z = true) (w5 : (Cond.selects CC x z).before a0 Z = true) (w6 : (Cond.instanceMethod z).before a0 Z = true) (w3 : (Cond.initialized z.cls).before a0 Z = true) (w4 : (Cond.code z cb cm cr).before a0 Z = true)
    (hz : ow ≠ "java/lang/invoke/MethodHandle" ∧ ow ≠ "java/lang/invoke/VarHandle") {a : Addr} (E : Exa Z h a CC) (argsL rest : List Value) (M : Met l Z z cb cm cr [] rm as h ws' C') (has : (.ref a :: argsL).toArray = as) (hst : st = argsL.reverse ++ .ref a :: rest) (hpd : parseMethodDescriptor x.desc = some ⟨ps, rt⟩) (hlen : argsL.length = ps.length) (hLs : Ls.size = maxL)
    (W : Nat) (hW : (rest.map fun v => v.category).sum = W) (hf : rm.frames + 1 ≤ R.frames) (hl : W + (cm + 11) + rm.locals ≤ R.locals) (hc : cl + rm.cells ≤ R.cells) (hs : sl + rm.slots ≤ R.slots) (hws : ∀ x ∈ ws', x ∈ ws ∨ h0.size ≤ x)
    (k : ∀ v h', Keep h h' ws' → C' v h' → B.G h' (cl + rm.cells) (sl + rm.slots) (mkF m pc' Ls (v.toList ++ rest))) : B.G h cl sl (mkF m pc Ls st) := fun T locs X N eT => by
  subst hp
  have hZ := B.2.2.2.1
  obtain ⟨cq, kq, qa, qb, qc⟩ := isOf hZ eT E
  obtain ⟨v, _, ⟨T', L', k', n'⟩, -, X', ⟨Lc, hQ, l', y', z'⟩, stp⟩ := X.virtualBackUp B.1 (x := x) (y := z) B.2.2.2.2.1 (mvT hZ w1) (mvT hZ w0) (mvT hZ w2) hz (mvT hZ w5) (mvT hZ w6) (backOf (W := W) M hZ w4 w3 hf hl) qa qc (g := mkF m pc Ls st) rfl (hLs.trans B.2.2.1.symm) (Steps.refl _) (argsL := argsL) (rest := rest) (lenOf hpd hlen) hst (by show 2 * 0 + _ ≤ _; omega) (hb B.2.1 hd) (fun _ _ => ⟨has, eT, hc, hs⟩)
  dsimp only [Pt.U, Pt.locs, Pt.cells, Pt.slots] at X' l' y' z' stp hQ
  subst l' y' z'
  obtain ⟨hC, hN, hK⟩ := hQ
  obtain ⟨t, o, q, r⟩ := k v T'.heap hK hC T' _ X' (N.app fun u hu => (hN u hu).elim (fun q => hws _ q) fun q => Or.inr (Nat.le_trans (by rw [← eT]; exact B.size X) q)) rfl
  exact ⟨t, o, stp.trans q, r⟩
theorem Base.callP (B : Base p l e R s m args below meth c Z y bytes maxL ret h0 ws C) (pc' : Nat) (hp : pc' = pc + 3) (hd : decode bytes pc = .ok (.invokevirtual i, 3)) {x : MethodName} {CC : String}
    (w1 : (Cond.methodLink y.cls i z).before a0 Z = true) (w7 : (Cond.privateMethod z).before a0 Z = true) (w6 : (Cond.instanceMethod z).before a0 Z = true) (w5 : (Cond.selects CC x x).before a0 Z = true) (hxc : x.cls = z.cls) (w3 : (Cond.initialized z.cls).before a0 Z = true) (w4 : (Cond.code z cb cm cr).before a0 Z = true)
    (hz : z.cls ≠ "java/lang/invoke/MethodHandle" ∧ z.cls ≠ "java/lang/invoke/VarHandle") {a : Addr} {CE : String} (E : Exa Z h a CE) (argsL rest : List Value) (M : Met l Z z cb cm cr [] rm as h ws' C') (has : (.ref a :: argsL).toArray = as) (hst : st = argsL.reverse ++ .ref a :: rest) (hpd : parseMethodDescriptor z.desc = some ⟨ps, rt⟩) (hlen : argsL.length = ps.length) (hLs : Ls.size = maxL)
    (W : Nat) (hW : (rest.map fun v => v.category).sum = W) (hf : rm.frames + 1 ≤ R.frames) (hl : W + (cm + 11) + rm.locals ≤ R.locals) (hc : cl + rm.cells ≤ R.cells) (hs : sl + rm.slots ≤ R.slots) (hws : ∀ x ∈ ws', x ∈ ws ∨ h0.size ≤ x)
    (k : ∀ v h', Keep h h' ws' → C' v h' → B.G h' (cl + rm.cells) (sl + rm.slots) (mkF m pc' Ls (v.toList ++ rest))) : B.G h cl sl (mkF m pc Ls st) := fun T locs X N eT => by
  subst hp
  have hZ := B.2.2.2.1
  obtain ⟨cq, q1, q2⟩ := E.cell
  have hpr : s.PrivateAt z := Cond.privateMethod_at (mvP hZ w7 (args := args))
  have hi : (Cond.instanceMethod z).before args s = true := mvT hZ w6
  have hsel : (Cond.selects z.cls z z).before args s = true := by
    obtain ⟨c2, r2, m2, -, -, q3, -, kP, hkP, hkPi⟩ := Cond.selects_spec (mvT hZ w5 (args := args))
    have hc2 := findClass_of_methodNamed q3
    rw [hxc] at hc2
    exact selects_self_of_private hc2 hkP hkPi hpr hi hz
  obtain ⟨v, _, ⟨T', L', k', n'⟩, -, X', ⟨Lc, hQ, l', y', z'⟩, stp⟩ := X.privateBack B.1 (y := z) B.2.2.2.2.1 (mvT hZ w1) hi hsel hpr (mvT hZ w4) hz (backOf (W := W) M hZ w4 w3 hf hl) (g := mkF m pc Ls st) rfl (hLs.trans B.2.2.1.symm) (Steps.refl _) (a := a) (by rw [eT]; exact q1) q2 (argsL := argsL) (rest := rest) (lenOf hpd hlen) hst (by show 2 * 0 + _ ≤ _; omega) (hb B.2.1 hd) (fun _ _ => ⟨has, eT, hc, hs⟩)
  dsimp only [Pt.U, Pt.locs, Pt.cells, Pt.slots] at X' l' y' z' stp hQ
  subst l' y' z'
  obtain ⟨hC, hN, hK⟩ := hQ
  obtain ⟨t, o, q, r⟩ := k v T'.heap hK hC T' _ X' (N.app fun u hu => (hN u hu).elim (fun q => hws _ q) fun q => Or.inr (Nat.le_trans (by rw [← eT]; exact B.size X) q)) rfl
  exact ⟨t, o, stp.trans q, r⟩
end Calls
/-- where nothing old is written, all that stood at the start stands -/
theorem Base.olds (B : Base p l e R s m args below meth c Z y bytes maxL ret h0 [] C) (k : Ext h0 h → B.G h cl sl g) : B.G h cl sl g := fun T locs X N eT => by
  refine k ?_ T locs X N eT
  have e0 := B.2.2.2.2.2.2.2.2
  have N' := N
  rw [← e0] at N'
  have q := keep_of X N'
  rw [e0, eT] at q
  exact ⟨q.1, fun a c hc => q.2.1 a c hc (by simp)⟩
end Walk
/-! 3b. arrays: 'Ary': the array at a holds just the list vs -/
def Ary (Z : State) (h : Heap) (a : Addr) (ty : FieldType) (vs : List Value) : Prop := ∃ c : Cell, Arr Z h a c ty ∧ c.slots.toList = vs
section Arrays
variable {p : Program} {l : Launch} {e : Env} {R : Room} {s : State} {m : MethodId} {args : Array Value} {below : List Frame} {meth : Method} {c : Code} {Z : State} {a0 : Array Value} {y : MethodName} {bytes : ByteArray} {maxL : Nat} {ret : Option FieldType} {h0 : Heap} {ws : List Addr} {C : Option Value → Heap → Prop}
variable {h h' : Heap} {cl sl : Nat} {g g' : JFrame} {pc : Nat} {Ls : Array Slot} {st : List Value} {a b : Addr} {ty : FieldType} {vs : List Value} {j : Int32} {i : Nat} {v w : Value} {wl : List Addr}
theorem Ary.lt (A : Ary Z h a ty vs) : a < h.size := by obtain ⟨c, A, -⟩ := A; exact A.lt
theorem Ary.ext (A : Ary Z h a ty vs) (E : Ext h h') : Ary Z h' a ty vs := by obtain ⟨c, A, r⟩ := A; exact ⟨c, A.ext E, r⟩
theorem Ary.other (A : Ary Z h b ty vs) (W : Wr h h' a i v) (q : b ≠ a) : Ary Z h' b ty vs := by obtain ⟨c, A, r⟩ := A; exact ⟨c, A.other W q, r⟩
theorem Ary.keep (A : Ary Z h a ty vs) (K : Keep h h' wl) (q : a ∉ wl) : Ary Z h' a ty vs := by obtain ⟨c, A, r⟩ := A; exact ⟨c, ⟨K.2.1 a c A.1 q, A.2⟩, r⟩
theorem Ary.set (A : Ary Z h a ty vs) (W : Wr h h' a i v) : Ary Z h' a ty (vs.set i v) := by
  obtain ⟨c, A, rfl⟩ := A
  exact ⟨_, A.same W, by simp [Cell.setSlot]⟩
theorem Ary.new {cA : ClassId} {n : Int32} (A : Arr Z h a (newA cA ty n) ty) : Ary Z h a ty (List.replicate n.toNatClampNeg (defaultValue ty)) := ⟨_, A, by simp [newA]⟩
theorem ary_in {c : Cell} (r : c.slots.toList = vs) (hj : ¬ j < 0) (hi : j.toNatClampNeg = i) (hv : vs[i]? = some v) : ¬ (j < 0 ∨ c.slots.size ≤ j.toNatClampNeg) ∧ c.slots[j.toNatClampNeg]? = some v := by
  subst r hi
  rw [Array.getElem?_toList] at hv
  exact ⟨fun q => q.elim hj fun q => absurd (Array.getElem?_eq_some_iff.mp hv).1 (Nat.not_lt.mpr q), hv⟩
theorem ary_lt {c : Cell} (r : c.slots.toList = vs) (hj : ¬ j < 0) (hi : j.toNatClampNeg = i) (hv : i < vs.length) : ¬ (j < 0 ∨ c.slots.size ≤ j.toNatClampNeg) := by
  subst r hi
  rw [Array.length_toList] at hv
  exact fun q => q.elim hj fun q => absurd hv (Nat.not_lt.mpr q)
theorem Base.arrlen (B : Base p l e R s m args below meth c Z y bytes maxL ret h0 ws C) (pc' : Nat) (hp : pc' = pc + 1) (hd : decode bytes pc = .ok (.arraylength, 1)) (A : Ary Z h a ty vs) (n : Int32) (hn : vs.length.toInt32 = n) (k : B.G h cl sl (mkF m pc' Ls (.int n :: st))) : B.G h cl sl (mkF m pc Ls (.ref a :: st)) := by
  subst hp hn
  obtain ⟨c1, A, rfl⟩ := A
  rw [Array.length_toList] at k
  exact B.viaX (fun T t L X eT r => X.arraylength (g := mkF m pc Ls (.ref a :: st)) B.1 (by rw [eT]; exact A.1) (State.isArrayOf_alike (T := s) B.2.2.2.1.alike A.2.1) rfl rfl (hb B.2.1 hd) t r) k
theorem Base.baload (B : Base p l e R s m args below meth c Z y bytes maxL ret h0 ws C) (pc' : Nat) (hp : pc' = pc + 1) (hd : decode bytes pc = .ok (.baload, 1)) (A : Ary Z h a .byte vs) (hj : ¬ j < 0) (i : Nat) (hi : j.toNatClampNeg = i) (v : Value) (hv : vs[i]? = some v) (k : B.G h cl sl (mkF m pc' Ls (v :: st))) : B.G h cl sl (mkF m pc Ls (.int j :: .ref a :: st)) := by
  subst hp
  obtain ⟨c1, A, r⟩ := A
  obtain ⟨q1, q2⟩ := ary_in r hj hi hv
  exact B.viaX (fun T t L X eT r => X.baloadBytes (g := mkF m pc Ls (.int j :: .ref a :: st)) B.1 (by rw [eT]; exact A.1) (State.isArrayOf_alike (T := s) B.2.2.2.1.alike A.2.1) A.2.2 q1 q2 rfl rfl (hb B.2.1 hd) t r) k
theorem Base.iaload (B : Base p l e R s m args below meth c Z y bytes maxL ret h0 ws C) (pc' : Nat) (hp : pc' = pc + 1) (hd : decode bytes pc = .ok (.iaload, 1)) (A : Ary Z h a .int vs) (hj : ¬ j < 0) (i : Nat) (hi : j.toNatClampNeg = i) (v : Value) (hv : vs[i]? = some v) (k : B.G h cl sl (mkF m pc' Ls (v :: st))) : B.G h cl sl (mkF m pc Ls (.int j :: .ref a :: st)) := by
  subst hp
  obtain ⟨c1, A, r⟩ := A
  obtain ⟨q1, q2⟩ := ary_in r hj hi hv
  exact B.viaX (fun T t L X eT r => X.iaload (g := mkF m pc Ls (.int j :: .ref a :: st)) B.1 (by rw [eT]; exact A.1) (State.isArrayOf_alike (T := s) B.2.2.2.1.alike A.2.1) A.2.2 q1 q2 rfl rfl (hb B.2.1 hd) t r) k
theorem Base.laload (B : Base p l e R s m args below meth c Z y bytes maxL ret h0 ws C) (pc' : Nat) (hp : pc' = pc + 1) (hd : decode bytes pc = .ok (.laload, 1)) (A : Ary Z h a .long vs) (hj : ¬ j < 0) (i : Nat) (hi : j.toNatClampNeg = i) (v : Value) (hv : vs[i]? = some v) (k : B.G h cl sl (mkF m pc' Ls (v :: st))) : B.G h cl sl (mkF m pc Ls (.int j :: .ref a :: st)) := by
  subst hp
  obtain ⟨c1, A, r⟩ := A
  obtain ⟨q1, q2⟩ := ary_in r hj hi hv
  exact B.viaX (fun T t L X eT r => X.laload (g := mkF m pc Ls (.int j :: .ref a :: st)) B.1 (by rw [eT]; exact A.1) (State.isArrayOf_alike (T := s) B.2.2.2.1.alike A.2.1) A.2.2 q1 q2 rfl rfl (hb B.2.1 hd) t r) k
theorem Base.newP (B : Base p l e R s m args below meth c Z y bytes maxL ret h0 ws C) (pc' : Nat) (hp : pc' = pc + 2) {aty : ArrayType} (hd : decode bytes pc = .ok (.newarray aty, 2)) (w : (Cond.arrayClass (newarray.typeOf aty)).before a0 Z = true) {n : Int32} (hn : ¬ n < 0) (cap : Nat) (hcap : n.toNatClampNeg ≤ cap) (hb' : cap * 8 ≤ 536870912) (hc : cl + 1 ≤ R.cells) (hs : sl + cap ≤ R.slots)
    (k : ∀ h' a, a = h.size → h0.size ≤ a → Ext h h' → Ary Z h' a (newarray.typeOf aty) (List.replicate n.toNatClampNeg (defaultValue (newarray.typeOf aty))) → B.G h' (cl + 1) (sl + cap) (mkF m pc' Ls (.ref a :: st))) : B.G h cl sl (mkF m pc Ls (.int n :: st)) := fun T locs X N eT => by
  subst hp
  obtain ⟨T', h', cA, X', e', E, A, stp⟩ := Jvm.RoadKit.newP X B.1 B.2.2.2.1 w eT (g := mkF m pc Ls (.int n :: st)) rfl (hb B.2.1 hd) rfl hn hcap hb' hc hs
  obtain ⟨t, o, q, r⟩ := k h' _ rfl (by rw [← eT]; exact B.size X) E (Ary.new A) T' locs X' N e'
  exact ⟨t, o, stp _ q, r⟩
theorem Base.bastore (B : Base p l e R s m args below meth c Z y bytes maxL ret h0 ws C) (pc' : Nat) (hp : pc' = pc + 1) (hd : decode bytes pc = .ok (.bastore, 1)) (A : Ary Z h a .byte vs) (hj : ¬ j < 0) (i : Nat) (hi : j.toNatClampNeg = i) (hlt : i < vs.length) (hw : a ∈ ws ∨ h0.size ≤ a) {x : Int32} (k : ∀ h', Wr h h' a i (.int x.toInt8.toInt32) → Ary Z h' a .byte (vs.set i (.int x.toInt8.toInt32)) → B.G h' cl sl (mkF m pc' Ls st)) : B.G h cl sl (mkF m pc Ls (.int x :: .int j :: .ref a :: st)) := fun T locs X N eT => by
  subst hp
  obtain ⟨c1, A1, r1⟩ := A
  obtain ⟨T', h', X', e', W, stp⟩ := stB X B.1 B.2.2.2.1 eT A1 (ary_lt r1 hj hi hlt) (g := mkF m pc Ls (.int x :: .int j :: .ref a :: st)) rfl rfl (hb B.2.1 hd)
  rw [hi] at W
  obtain ⟨t, o, q, r⟩ := k h' W (Ary.set ⟨c1, A1, r1⟩ W) T' _ X' (N.one hw) e'
  exact ⟨t, o, stp _ q, r⟩
theorem Base.iastore (B : Base p l e R s m args below meth c Z y bytes maxL ret h0 ws C) (pc' : Nat) (hp : pc' = pc + 1) (hd : decode bytes pc = .ok (.iastore, 1)) (A : Ary Z h a .int vs) (hj : ¬ j < 0) (i : Nat) (hi : j.toNatClampNeg = i) (hlt : i < vs.length) (hw : a ∈ ws ∨ h0.size ≤ a) {x : Int32} (k : ∀ h', Wr h h' a i (.int x) → Ary Z h' a .int (vs.set i (.int x)) → B.G h' cl sl (mkF m pc' Ls st)) : B.G h cl sl (mkF m pc Ls (.int x :: .int j :: .ref a :: st)) := fun T locs X N eT => by
  subst hp
  obtain ⟨c1, A1, r1⟩ := A
  obtain ⟨T', h', X', e', W, stp⟩ := stI X B.1 B.2.2.2.1 eT A1 (ary_lt r1 hj hi hlt) (g := mkF m pc Ls (.int x :: .int j :: .ref a :: st)) rfl rfl (hb B.2.1 hd)
  rw [hi] at W
  obtain ⟨t, o, q, r⟩ := k h' W (Ary.set ⟨c1, A1, r1⟩ W) T' _ X' (N.one hw) e'
  exact ⟨t, o, stp _ q, r⟩
theorem Base.lastore (B : Base p l e R s m args below meth c Z y bytes maxL ret h0 ws C) (pc' : Nat) (hp : pc' = pc + 1) (hd : decode bytes pc = .ok (.lastore, 1)) (A : Ary Z h a .long vs) (hj : ¬ j < 0) (i : Nat) (hi : j.toNatClampNeg = i) (hlt : i < vs.length) (hw : a ∈ ws ∨ h0.size ≤ a) {x : Int64} (k : ∀ h', Wr h h' a i (.long x) → Ary Z h' a .long (vs.set i (.long x)) → B.G h' cl sl (mkF m pc' Ls st)) : B.G h cl sl (mkF m pc Ls (.long x :: .int j :: .ref a :: st)) := fun T locs X N eT => by
  subst hp
  obtain ⟨c1, A1, r1⟩ := A
  obtain ⟨T', h', X', e', W, stp⟩ := stJ X B.1 B.2.2.2.1 eT A1 (ary_lt r1 hj hi hlt) (g := mkF m pc Ls (.long x :: .int j :: .ref a :: st)) rfl rfl (hb B.2.1 hd)
  rw [hi] at W
  obtain ⟨t, o, q, r⟩ := k h' W (Ary.set ⟨c1, A1, r1⟩ W) T' _ X' (N.one hw) e'
  exact ⟨t, o, stp _ q, r⟩
theorem Base.caload (B : Base p l e R s m args below meth c Z y bytes maxL ret h0 ws C) (pc' : Nat) (hp : pc' = pc + 1) (hd : decode bytes pc = .ok (.caload, 1)) (A : Ary Z h a .char vs) (hj : ¬ j < 0) (i : Nat) (hi : j.toNatClampNeg = i) (v : Value) (hv : vs[i]? = some v) (k : B.G h cl sl (mkF m pc' Ls (v :: st))) : B.G h cl sl (mkF m pc Ls (.int j :: .ref a :: st)) := by
  subst hp
  obtain ⟨c1, A, r⟩ := A
  obtain ⟨q1, q2⟩ := ary_in r hj hi hv
  exact B.viaX (fun T t L X eT r => X.caload (g := mkF m pc Ls (.int j :: .ref a :: st)) B.1 (by rw [eT]; exact A.1) (State.isArrayOf_alike (T := s) B.2.2.2.1.alike A.2.1) A.2.2 q1 q2 rfl rfl (hb B.2.1 hd) t r) k
theorem Base.castore (B : Base p l e R s m args below meth c Z y bytes maxL ret h0 ws C) (pc' : Nat) (hp : pc' = pc + 1) (hd : decode bytes pc = .ok (.castore, 1)) (A : Ary Z h a .char vs) (hj : ¬ j < 0) (i : Nat) (hi : j.toNatClampNeg = i) (hlt : i < vs.length) (hw : a ∈ ws ∨ h0.size ≤ a) {x : Int32} (k : ∀ h', Wr h h' a i (.int x.toUInt32.toUInt16.toUInt32.toInt32) → Ary Z h' a .char (vs.set i (.int x.toUInt32.toUInt16.toUInt32.toInt32)) → B.G h' cl sl (mkF m pc' Ls st)) : B.G h cl sl (mkF m pc Ls (.int x :: .int j :: .ref a :: st)) := fun T locs X N eT => by
  subst hp
  obtain ⟨c1, A1, r1⟩ := A
  obtain ⟨T', h', X', e', W, stp⟩ := stC X B.1 B.2.2.2.1 eT A1 (ary_lt r1 hj hi hlt) (g := mkF m pc Ls (.int x :: .int j :: .ref a :: st)) rfl rfl (hb B.2.1 hd)
  rw [hi] at W
  obtain ⟨t, o, q, r⟩ := k h' W (Ary.set ⟨c1, A1, r1⟩ W) T' _ X' (N.one hw) e'
  exact ⟨t, o, stp _ q, r⟩
theorem Base.newPE (B : Base p l e R s m args below meth c Z y bytes maxL ret h0 ws C) (pc' : Nat) (hp : pc' = pc + 2) {aty : ArrayType} (hd : decode bytes pc = .ok (.newarray aty, 2)) (w : (Cond.arrayClass (newarray.typeOf aty)).before a0 Z = true) {n : Int32} (hn : ¬ n < 0) (cap : Nat) (hcap : n.toNatClampNeg ≤ cap) (hb' : cap * 8 ≤ 536870912) (hc : cl + 1 ≤ R.cells) (hs : sl + cap ≤ R.slots) (ad : String) (had : "[" ++ (newarray.typeOf aty).toString = ad)
    (k : ∀ h' a, a = h.size → h0.size ≤ a → Ext h h' → Ary Z h' a (newarray.typeOf aty) (List.replicate n.toNatClampNeg (defaultValue (newarray.typeOf aty))) → Exa Z h' a ad → B.G h' (cl + 1) (sl + cap) (mkF m pc' Ls (.ref a :: st))) : B.G h cl sl (mkF m pc Ls (.int n :: st)) := fun T locs X N eT => by
  subst hp
  obtain ⟨T', h', cA, X', e', E, A, A2, stp⟩ := Jvm.RoadKit.newPE X B.1 B.2.2.2.1 w eT (g := mkF m pc Ls (.int n :: st)) rfl (hb B.2.1 hd) rfl hn hcap hb' hc hs had
  obtain ⟨t, o, q, r⟩ := k h' _ rfl (by rw [← eT]; exact B.size X) E (Ary.new A) A2 T' locs X' N e'
  exact ⟨t, o, stp _ q, r⟩
theorem Base.clone (B : Base p l e R s m args below meth c Z y bytes maxL ret h0 ws C) (pc' : Nat) (hp : pc' = pc + 3) {ix : Nat} {ad : String} (hd : decode bytes pc = .ok (.invokevirtual ix, 3))
    (w1 : (Cond.methodLink y.cls ix ⟨ad, "clone", "()Ljava/lang/Object;"⟩).before a0 Z = true) (w2 : (Cond.sameMethod ad "java/lang/Object" "clone" "()Ljava/lang/Object;").before a0 Z = true) (w3 : (Cond.native ⟨"java/lang/Object", "clone", "()Ljava/lang/Object;"⟩).before a0 Z = true)
    (w4 : (Cond.instanceMethod ⟨"java/lang/Object", "clone", "()Ljava/lang/Object;"⟩).before a0 Z = true) (w5 : (Cond.selects ad ⟨ad, "clone", "()Ljava/lang/Object;"⟩ ⟨"java/lang/Object", "clone", "()Ljava/lang/Object;"⟩).before a0 Z = true) (w6 : (Cond.castable ad "java/lang/Cloneable").before a0 Z = true)
    (A : Ary Z h a ty vs) (E : Exa Z h a ad) (hfit : ∀ v ∈ vs, fits ty v = true) (hLs : Ls.size = maxL) (W : Nat) (hW : (st.map fun v => v.category).sum = W) (hf : 1 ≤ R.frames) (hl : W + 14 ≤ R.locals) (cap : Nat) (hcap : vs.length ≤ cap) (hc : cl + 1 ≤ R.cells) (hs : sl + cap ≤ R.slots)
    (k : ∀ h' b, b = h.size → h0.size ≤ b → Ext h h' → Ary Z h' b ty vs → Exa Z h' b ad → B.G h' (cl + 1) (sl + cap) (mkF m pc' Ls (.ref b :: st))) : B.G h cl sl (mkF m pc Ls (.ref a :: st)) := fun T locs X N eT => by
  subst hp
  obtain ⟨c1, A1, r1⟩ := A
  have FC : FitC Z c1 := fitC_of A1 fun i hi v hv => hfit v (by rw [← r1]; exact Array.mem_toList_iff.mpr (Array.mem_of_getElem? hv))
  obtain ⟨T', h', X', e', ex, A', E', stp⟩ := cloneA X B.1 B.2.2.2.1 B.2.2.2.2.1 w1 w2 w3 w4 w5 w6 eT A1 E FC (g := mkF m pc Ls (.ref a :: st)) rfl (hLs.trans B.2.2.1.symm) rfl (hb B.2.1 hd) hf (W := W) (cap := cap) (by show 2 * 0 + _ ≤ _; omega) hl (by rw [← r1, Array.length_toList] at hcap; exact hcap) hc hs
  obtain ⟨t, o, q, r⟩ := k h' _ rfl (by rw [← eT]; exact B.size X) ex ⟨_, A', r1⟩ E' T' locs X' N e'
  exact ⟨t, o, stp _ q, r⟩
theorem Base.castY (B : Base p l e R s m args below meth c Z y bytes maxL ret h0 ws C) (pc' : Nat) (hp : pc' = pc + 3) {ix : Nat} {K : String} (hd : decode bytes pc = .ok (.checkcast ix, 3)) (w : (Cond.classLink y.cls ix K).before a0 Z = true) (F : Ins Z h a K true) (k : B.G h cl sl (mkF m pc' Ls (.ref a :: st))) : B.G h cl sl (mkF m pc Ls (.ref a :: st)) := fun T locs X N eT => by
  subst hp
  obtain ⟨T', X', e', stp⟩ := Jvm.RoadKit.castY X B.1 B.2.2.2.1 B.2.2.2.2.1 w eT F (g := mkF m pc Ls (.ref a :: st)) rfl rfl (hb B.2.1 hd)
  obtain ⟨t, o, q, r⟩ := k T' locs X' N e'
  exact ⟨t, o, stp _ q, r⟩
theorem Base.instY (B : Base p l e R s m args below meth c Z y bytes maxL ret h0 ws C) (pc' : Nat) (hp : pc' = pc + 3) {ix : Nat} {K : String} (hd : decode bytes pc = .ok (.instanceof ix, 3)) (w : (Cond.classLink y.cls ix K).before a0 Z = true) (F : Ins Z h a K true) (k : B.G h cl sl (mkF m pc' Ls (.int 1 :: st))) : B.G h cl sl (mkF m pc Ls (.ref a :: st)) := fun T locs X N eT => by
  subst hp
  obtain ⟨T', X', e', stp⟩ := Jvm.RoadKit.instY X B.1 B.2.2.2.1 B.2.2.2.2.1 w eT F (g := mkF m pc Ls (.ref a :: st)) rfl rfl (hb B.2.1 hd)
  obtain ⟨t, o, q, r⟩ := k T' locs X' N e'
  exact ⟨t, o, stp _ q, r⟩
theorem Base.instN (B : Base p l e R s m args below meth c Z y bytes maxL ret h0 ws C) (pc' : Nat) (hp : pc' = pc + 3) {ix : Nat} {K CC : String} (hd : decode bytes pc = .ok (.instanceof ix, 3)) (w : (Cond.classLink y.cls ix K).before a0 Z = true) (E : Exa Z h a CC) (F : ∃ c t, Z.vm.findClass CC = some c ∧ Z.vm.findClass K = some t ∧ Z.vm.assignable c t = false) (k : B.G h cl sl (mkF m pc' Ls (.int 0 :: st))) : B.G h cl sl (mkF m pc Ls (.ref a :: st)) := fun T locs X N eT => by
  subst hp
  obtain ⟨T', X', e', stp⟩ := instNo X B.1 B.2.2.2.1 B.2.2.2.2.1 w eT E F (g := mkF m pc Ls (.ref a :: st)) rfl rfl (hb B.2.1 hd)
  obtain ⟨t, o, q, r⟩ := k T' locs X' N e'
  exact ⟨t, o, stp _ q, r⟩
theorem Base.inst0 (B : Base p l e R s m args below meth c Z y bytes maxL ret h0 ws C) (pc' : Nat) (hp : pc' = pc + 3) {ix : Nat} (hd : decode bytes pc = .ok (.instanceof ix, 3)) (k : B.G h cl sl (mkF m pc' Ls (.int 0 :: st))) : B.G h cl sl (mkF m pc Ls (.null :: st)) := by
  subst hp
  exact B.viaX (fun T t L X eT r => X.instanceofNull B.1 (g := mkF m pc Ls (.null :: st)) rfl rfl (hb B.2.1 hd) t r) k
theorem Base.aaload (B : Base p l e R s m args below meth c Z y bytes maxL ret h0 ws C) (pc' : Nat) (hp : pc' = pc + 1) (hd : decode bytes pc = .ok (.aaload, 1)) (A : Ary Z h a ty vs) (hty : ty.isReference = true) (hj : ¬ j < 0) (i : Nat) (hi : j.toNatClampNeg = i) (v : Value) (hv : vs[i]? = some v) (k : B.G h cl sl (mkF m pc' Ls (v :: st))) : B.G h cl sl (mkF m pc Ls (.int j :: .ref a :: st)) := by
  subst hp
  obtain ⟨c1, A, r⟩ := A
  obtain ⟨q1, q2⟩ := ary_in r hj hi hv
  exact B.viaX (fun T t L X eT r => X.aaload (g := mkF m pc Ls (.int j :: .ref a :: st)) B.1 (by rw [eT]; exact A.1) (State.isArrayOf_alike (T := s) B.2.2.2.1.alike A.2.1) hty A.2.2 q1 q2 rfl rfl (hb B.2.1 hd) t r) k
theorem ns_root {O K : String} {n : Nat} (w : (Cond.noSuperclass O).before a0 Z = true) (wk : (Cond.instantiable K n).before a0 Z = true) (hn : O ≠ K) : NS Z O K := by
  obtain ⟨c, k, h1, h2, h3, -, -⟩ := Cond.noSuperclass_spec w
  obtain ⟨t, -, g1, -⟩ := Cond.instantiable_spec wk
  have ne := ids_ne h1 g1 hn
  refine ⟨c, t, h1, g1, fun fuel => ?_⟩
  cases fuel with
  | zero => rfl
  | succ f => simp [Vm.isSubclassAux, ne, h2, h3]
theorem ns_no {CC K : String} {n n' : Nat} (w : (Cond.instantiable CC n').before a0 Z = true) (wk : (Cond.instantiable K n).before a0 Z = true) (q : NS Z CC K) (hn : CC ≠ K) : ∃ c t, Z.vm.findClass CC = some c ∧ Z.vm.findClass K = some t ∧ Z.vm.assignable c t = false := by
  obtain ⟨c, t, h0, g0, n3⟩ := q
  obtain ⟨c1, k, h1, h2, h5, -⟩ := Cond.instantiable_spec w
  obtain ⟨t1, k', g1, g2, g5, g7, -⟩ := Cond.instantiable_spec wk
  cases h0.symm.trans h1
  cases g0.symm.trans g1
  have ne := ids_ne h0 g0 hn
  have g8 : k'.isInterface = false := by simp only [Bool.or_eq_false_iff] at g7; exact g7.1
  refine ⟨c, t, h0, g0, ?_⟩
  show Z.vm.assignableAux (255 + 1) c t = false
  simp [Vm.assignableAux, ne, h2, g2, h5, g5, g8, Vm.isSubclass, n3]
end Arrays
/-! 5. the words -/
theorem wd {L : List Jvm.Cond} {a0 : Array Value} {Z : State} (hw : ∀ d ∈ L, d.before a0 Z = true) (i : Nat) {d : Jvm.Cond} (q : L[i]? = some d) : d.before a0 Z = true := hw d (List.mem_of_getElem? q)
/-! 6. from the words of a case -/
theorem fld_start {args : Array Value} {s : State} {t : Term} {a : Addr} {O n d : String} {z : Int32} (ht : t.eval args s none [] s = some (.ref a)) (q : (Cond.eq (.field t O n d) (.int z)).value args s none s [] = some true) : Fld s s.heap a O n d (.int z) :=
  Fld.start ((fld_at ht).symm.trans (eqv_i rfl q))
theorem eval_int {args : Array Value} {s : State} {u w : Term} {z : Int32} (q : (Cond.eq u w).value args s none s [] = some true) (hw : w.eval args s none [] s = some (.int z)) : u.eval args s none [] s = some (.int z) := by
  cases hv : u.eval args s none [] s with
  | none => simp [Cond.value, hv] at q
  | some v =>
    cases v <;> simp [Cond.value, hv, hw] at q
    subst q; rfl
theorem eval_ref {args : Array Value} {s : State} {u w : Term} {z : Addr} (q : (Cond.eq u w).value args s none s [] = some true) (hw : w.eval args s none [] s = some (.ref z)) : u.eval args s none [] s = some (.ref z) := by
  cases hv : u.eval args s none [] s with
  | none => simp [Cond.value, hv] at q
  | some v =>
    cases v <;> simp [Cond.value, hv, hw] at q
    subst q; rfl
/-- an array of the start, of known length and places -/
theorem ary_start {args : Array Value} {s : State} {t : Term} {a : Addr} {ty : FieldType} {vs : List Value} {n : Int32} (ht : t.eval args s none [] s = some (.ref a)) (hA : (Cond.arrayOf t ty).value args s none s [] = some true)
    (hl : (Cond.eq (.length t) (.int n)).value args s none s [] = some true) (hn : n.toNatClampNeg = vs.length) (hn0 : ¬ n < 0) (he : ∀ i, i < vs.length → ∃ v, vs[i]? = some v ∧ (Term.elem t (.int (Int32.ofNat i))).eval args s none [] s = some v) : Ary s s.heap a ty vs := by
  obtain ⟨c, A⟩ := Arr.start ht hA
  have e1 := eval_int hl rfl
  simp only [Term.eval, ht, Option.bind_eq_bind, Option.bind_some] at e1
  have hat : s.arrayAt? a = some c := A.fin (Vm.Alike.refl _)
  rw [hat] at e1
  simp only [Option.bind_some] at e1
  split at e1
  · rename_i hs
    simp only [Option.pure_def, Option.some.injEq, Value.int.injEq] at e1
    have hsz : c.slots.size = vs.length := by
      rw [← hn, ← e1]
      have := len_toInt hs
      simp only [Int32.toNatClampNeg, this]; omega
    refine ⟨c, A, ?_⟩
    apply List.ext_getElem?
    intro i
    by_cases hi : i < vs.length
    · obtain ⟨v, q1, q2⟩ := he i hi
      obtain ⟨cell, r1, -, r3⟩ := elem_at q2 ht rfl
      cases A.1.symm.trans r1
      have : (Int32.ofNat i).toNatClampNeg = i := by
        have := Int32.toInt_ofNat_small (show i < 2 ^ 31 by omega)
        simp only [Int32.toNatClampNeg, this]; omega
      rw [this] at r3
      rw [q1, Array.getElem?_toList]; exact r3
    · rw [List.getElem?_eq_none (by rw [Array.length_toList, hsz]; omega), List.getElem?_eq_none (by omega)]
  · simp at e1
end Jvm.Own
namespace Jvm.Own
open Jvm Jvm.ClassFile Sem Op Lib Jvm.Free Jvm.Stand Jvm.LawKit Jvm.RoadKit
/-! THE SAME LAYER, WIDE: the walk may load String constants -/
def MetW (l : Launch) (Z : State) (y : MethodName) (bytes : ByteArray) (maxL : Nat) (ret : Option FieldType) (wds : List Jvm.Cond) (rm : Room) (as : Array Value) (h0 : Heap) (ws : List Addr) (C : Option Value → Heap → Prop) : Prop :=
  MetFree l y (head1 (Jvm.Cond.code y bytes maxL ret :: wds) rm) (fun a U => a = as ∧ Z.Warmed39 U.vm ∧ U.heap = h0) (fun _ _ _ _ _ => True) (fun _ U o U' => ∃ v L, o = .returned v ∧ Qw C ws h0 v U'.heap L ∧ ReturnedEndW U o U' L rm.cells rm.slots)
def BaseW (p : Program) (l : Launch) (e : Env) (R : Room) (s : State) (m : MethodId) (args : Array Value) (below : List Frame) (meth : Method) (c : Code) (Z : State) (y : MethodName) (bytes : ByteArray) (maxL : Nat) (ret : Option FieldType) (h0 : Heap) (ws : List Addr) (C : Option Value → Heap → Prop) : Prop :=
  p.tables.exec = Jvm.exec ∧ c.code = bytes ∧ c.maxLocals = maxL ∧ Z.Warmed39 s.vm ∧ s.vm.findClass y.cls = some m.cls ∧ meth.sig.returnType = ret ∧ meth.locks = false ∧ meth.name = y.name ∧ s.heap = h0
section Walk
variable {p : Program} {l : Launch} {e : Env} {R : Room} {s : State} {m : MethodId} {args : Array Value} {below : List Frame} {meth : Method} {c : Code} {Z : State} {a0 : Array Value} {y : MethodName} {bytes : ByteArray} {maxL : Nat} {ret : Option FieldType} {h0 : Heap} {ws : List Addr} {C : Option Value → Heap → Prop}
def BaseW.G (B : BaseW p l e R s m args below meth c Z y bytes maxL ret h0 ws C) (h : Heap) (cl sl : Nat) (g : JFrame) : Prop :=
  ∀ (vm0 : Vm) (k0 : Nat) (T : State) (locs : List Loc), Stand p l e R (s.setVm vm0) m args below meth c T locs cl sl → s.Since vm0 k0 → k0 ≤ h.size → Frw ws h0.size locs → T.heap = h → ∃ (t : State) (o : Outcome), Steps p.tables e below (T.setTop g) t ∧ t.status = .running ∧ Ended t below o ∧ ∃ v L, o = .returned v ∧ Qw C ws h0 v t.heap L ∧ ReturnedEndW s o t L R.cells R.slots
variable {h : Heap} {cl sl : Nat} {g g' : JFrame} {pc : Nat} {Ls : Array Slot} {st : List Value}
theorem BaseW.warm (B : BaseW p l e R s m args below meth c Z y bytes maxL ret h0 ws C) {vm0 : Vm} {k0 : Nat} (hS : s.Since vm0 k0) : Z.Warmed39 (s.setVm vm0).vm := State.Warmed39.trans B.2.2.2.1 hS.1
theorem BaseW.own (B : BaseW p l e R s m args below meth c Z y bytes maxL ret h0 ws C) {vm0 : Vm} {k0 : Nat} (hS : s.Since vm0 k0) : (s.setVm vm0).vm.findClass y.cls = some m.cls := (hS.1.alike.findClass _ _).trans B.2.2.2.2.1
theorem BaseW.via (B : BaseW p l e R s m args below meth c Z y bytes maxL ret h0 ws C) (st : ∀ (T t : State), At T m c below → Steps p.tables e below (T.setTop g') t → Steps p.tables e below (T.setTop g) t) (k : B.G h cl sl g') : B.G h cl sl g := fun vm0 k0 T locs X hS hk N eT => by
  obtain ⟨t, o, q, r⟩ := k vm0 k0 T locs X hS hk N eT
  exact ⟨t, o, st T t X.here q, r⟩
theorem BaseW.viaX (B : BaseW p l e R s m args below meth c Z y bytes maxL ret h0 ws C) (st : ∀ (vm0 : Vm), Z.Warmed39 (s.setVm vm0).vm → (s.setVm vm0).vm.findClass y.cls = some m.cls → ∀ (T t : State) (locs : List Loc), Stand p l e R (s.setVm vm0) m args below meth c T locs cl sl → T.heap = h → Steps p.tables e below (T.setTop g') t → Steps p.tables e below (T.setTop g) t) (k : B.G h cl sl g') : B.G h cl sl g := fun vm0 k0 T locs X hS hk N eT => by
  obtain ⟨t, o, q, r⟩ := k vm0 k0 T locs X hS hk N eT
  exact ⟨t, o, st vm0 (B.warm hS) (B.own hS) T t locs X eT q, r⟩
theorem MetW.walk (hpn : plainFor y = true) {as : Array Value} {rm : Room} {wds : List Jvm.Cond} (hef : ∀ m, entryFrame m as maxL = mkF m 0 Ls [])
    (body : ∀ (p : Program) (e : Env) (s : State) (m : MethodId) (below : List Frame) (meth : Method) (c : Code) (B : BaseW p l e rm s m as below meth c Z y bytes maxL ret h0 ws C), B.G h0 0 0 (mkF m 0 Ls [])) : MetW l Z y bytes maxL ret wds rm as h0 ws C := by
  refine MetFree.of_bodySF hpn hisR ?_
  intro p e s m args below meth c s₁ Bd hml0 hP hK
  obtain ⟨rfl, hZ, hh⟩ := hP
  have X0 : Stand p l e rm s m args below meth c s₁ [] 0 0 := Stand.of_body Bd
  have e0 : s₁.heap = h0 := by rw [← hh, Bd.state]; rfl
  obtain ⟨t, o, q, r⟩ := body p e s m below meth c ⟨Bd.exec, Bd.bytes, hml0, hZ, findClass_of_methodNamed Bd.named, Bd.returns, Bd.notSynchronized, (name_of_methodNamed Bd.named Bd.method).1, hh⟩ s.vm s.heap.size s₁ [] X0 ((State.WarmedH.refl s).since _) (by rw [hh]; exact Nat.le_refl _) (Frw.nil _ _) e0
  exact ⟨t, o, castTop (hef m) q, r⟩
theorem BaseW.leave (B : BaseW p l e R s m args below meth c Z y bytes maxL ret h0 ws C) (hcl : cl ≤ R.cells) (hsl : sl ≤ R.slots) {v : Option Value} (hv : meth.sig.returnType = none → v = none) (hC : C v h)
    (st : ∀ (vm0 : Vm) (T : State) (locs : List Loc) (fs : List Frame), Stand p l e R (s.setVm vm0) m args below meth c T locs cl sl → (∀ (f : JFrame) (acts : List Action), f.method = m → f.locked = none → f.entered = [] → (doReturn e (T.setTop f) acts v).1 = T.setFrames fs) → Steps p.tables e below (T.setTop g) (T.setFrames fs)) : B.G h cl sl g := fun vm0 k0 T locs X hS hk N eT => by
  have hlk : meth.locks = false := B.2.2.2.2.2.2.1
  obtain ⟨fs, hr, hrun, hended, hv0, hW, hI, hsame⟩ := X.leaveW hS (by rw [eT]; exact hk) (v := v) hv hlk
  have e0 := B.2.2.2.2.2.2.2.2
  refine ⟨_, _, st vm0 T locs fs X hr, hrun, hended, _, _, rfl, ⟨?_, N, ?_⟩, ⟨_, rfl⟩, hW, hI, hsame.mono hcl hsl⟩
  · show C v T.heap
    rw [eT]; exact hC
  · show Keep h0 T.heap ws
    rw [← e0] at N ⊢
    exact keep_of (s := s.setVm vm0) X N
theorem BaseW.size (B : BaseW p l e R s m args below meth c Z y bytes maxL ret h0 ws C) {vm0 : Vm} {T : State} {locs : List Loc} (X : Stand p l e R (s.setVm vm0) m args below meth c T locs cl sl) : h0.size ≤ T.heap.size := by
  have q : s.heap.size ≤ T.heap.size := X.same.2.1
  rw [B.2.2.2.2.2.2.2.2] at q; exact q
theorem BaseW.grown (B : BaseW p l e R s m args below meth c Z y bytes maxL ret h0 ws C) (k : h0.size ≤ h.size → B.G h cl sl g) : B.G h cl sl g := fun vm0 k0 T locs X hS hk N eT => k (by rw [← eT]; exact B.size X) vm0 k0 T locs X hS hk N eT
theorem BaseW.olds (B : BaseW p l e R s m args below meth c Z y bytes maxL ret h0 [] C) (k : Ext h0 h → B.G h cl sl g) : B.G h cl sl g := fun vm0 k0 T locs X hS hk N eT => by
  refine k ?_ vm0 k0 T locs X hS hk N eT
  have e0 := B.2.2.2.2.2.2.2.2
  have N' := N
  rw [← e0] at N'
  have q : Keep s.heap T.heap [] := keep_of (s := s.setVm vm0) X N'
  rw [e0, eT] at q
  exact ⟨q.1, fun a c hc => q.2.1 a c hc (by simp)⟩
/-- a String constant: some reference; the heap may have grown -/
theorem BaseW.ldcS (B : BaseW p l e R s m args below meth c Z y bytes maxL ret h0 ws C) (pc' : Nat) (hp : pc' = pc + 2) {i : Nat} {text : String} (hd : decode bytes pc = .ok (.ldc i, 2)) (w : (Cond.stringLink y.cls i text).before a0 Z = true) (wS : ∀ a ∈ Bundle.stringAtoms, a.before a0 Z = true) (n : Nat) (hn : 4 * text.toList.length ≤ n) (hbig : n ≤ 536870912) (hc : cl + 2 ≤ R.cells) (hs : sl + (n + 4) ≤ R.slots)
    (k : ∀ a h', Ext h h' → B.G h' (cl + 2) (sl + (n + 4)) (mkF m pc' Ls (.ref a :: st))) : B.G h cl sl (mkF m pc Ls st) := fun vm0 k0 T locs X hS hk N eT => by
  subst hp
  obtain ⟨a, T', h', k1, X', e', E, hS', hk', -, -, stp⟩ := Jvm.RoadKit.ldcS X B.1 (B.warm hS) (B.own hS) w wS eT hS hk (g := mkF m pc Ls st) rfl (hb B.2.1 hd) hn hbig hc hs
  obtain ⟨t, o, q, r⟩ := k a h' E _ k1 T' locs X' hS' hk' N e'
  exact ⟨t, o, stp _ q, r⟩
/-! 1. steps that touch no heap -/
theorem BaseW.aloadN (B : BaseW p l e R s m args below meth c Z y bytes maxL ret h0 ws C) (pc' : Nat) (hp : pc' = pc + 1) {i : Fin 4} (hd : decode bytes pc = .ok (.aload_n i, 1)) {v : Value} (hl : Ls[i.val]? = some (.val v)) (hv : v.isRef = true) (k : B.G h cl sl (mkF m pc' Ls (v :: st))) : B.G h cl sl (mkF m pc Ls st) := by
  subst hp; exact B.via (fun T t X r => XS.aloadN X B.1 rfl (hb B.2.1 hd) hl hv r) k
theorem BaseW.aload (B : BaseW p l e R s m args below meth c Z y bytes maxL ret h0 ws C) (pc' : Nat) (hp : pc' = pc + 2) {i : Nat} (hd : decode bytes pc = .ok (.aload i, 2)) {v : Value} (hl : Ls[i]? = some (.val v)) (hv : v.isRef = true) (k : B.G h cl sl (mkF m pc' Ls (v :: st))) : B.G h cl sl (mkF m pc Ls st) := by
  subst hp; exact B.via (fun T t X r => XS.aload X B.1 rfl (hb B.2.1 hd) hl hv r) k
theorem BaseW.iloadN (B : BaseW p l e R s m args below meth c Z y bytes maxL ret h0 ws C) (pc' : Nat) (hp : pc' = pc + 1) {i : Fin 4} (hd : decode bytes pc = .ok (.iload_n i, 1)) {v : Int32} (hl : Ls[i.val]? = some (.val (.int v))) (k : B.G h cl sl (mkF m pc' Ls (.int v :: st))) : B.G h cl sl (mkF m pc Ls st) := by
  subst hp; exact B.via (fun T t X r => XS.iloadN X B.1 rfl (hb B.2.1 hd) hl r) k
theorem BaseW.iload (B : BaseW p l e R s m args below meth c Z y bytes maxL ret h0 ws C) (pc' : Nat) (hp : pc' = pc + 2) {i : Nat} (hd : decode bytes pc = .ok (.iload i, 2)) {v : Int32} (hl : Ls[i]? = some (.val (.int v))) (k : B.G h cl sl (mkF m pc' Ls (.int v :: st))) : B.G h cl sl (mkF m pc Ls st) := by
  subst hp; exact B.via (fun T t X r => XS.iload X B.1 rfl (hb B.2.1 hd) hl r) k
theorem BaseW.lloadN (B : BaseW p l e R s m args below meth c Z y bytes maxL ret h0 ws C) (pc' : Nat) (hp : pc' = pc + 1) {i : Fin 4} (hd : decode bytes pc = .ok (.lload_n i, 1)) {v : Int64} (hl : Ls[i.val]? = some (.val (.long v))) (k : B.G h cl sl (mkF m pc' Ls (.long v :: st))) : B.G h cl sl (mkF m pc Ls st) := by
  subst hp; exact B.via (fun T t X r => XT.lloadN X B.1 rfl (hb B.2.1 hd) hl r) k
theorem BaseW.lload (B : BaseW p l e R s m args below meth c Z y bytes maxL ret h0 ws C) (pc' : Nat) (hp : pc' = pc + 2) {i : Nat} (hd : decode bytes pc = .ok (.lload i, 2)) {v : Int64} (hl : Ls[i]? = some (.val (.long v))) (k : B.G h cl sl (mkF m pc' Ls (.long v :: st))) : B.G h cl sl (mkF m pc Ls st) := by
  subst hp; exact B.via (fun T t X r => XT.lload X B.1 rfl (hb B.2.1 hd) hl r) k
theorem BaseW.istoreN (B : BaseW p l e R s m args below meth c Z y bytes maxL ret h0 ws C) (pc' : Nat) (hp : pc' = pc + 1) {i : Fin 4} {x : Int32} (hd : decode bytes pc = .ok (.istore_n i, 1)) (Ls' : Array Slot) (hl : storeLocals Ls i.val (.int x) = some Ls') (k : B.G h cl sl (mkF m pc' Ls' st)) : B.G h cl sl (mkF m pc Ls (.int x :: st)) := by
  subst hp; exact B.via (fun T t X r => XS.istoreN X B.1 rfl (hb B.2.1 hd) rfl hl r) k
theorem BaseW.istore (B : BaseW p l e R s m args below meth c Z y bytes maxL ret h0 ws C) (pc' : Nat) (hp : pc' = pc + 2) {i : Nat} {x : Int32} (hd : decode bytes pc = .ok (.istore i, 2)) (Ls' : Array Slot) (hl : storeLocals Ls i (.int x) = some Ls') (k : B.G h cl sl (mkF m pc' Ls' st)) : B.G h cl sl (mkF m pc Ls (.int x :: st)) := by
  subst hp; exact B.via (fun T t X r => XS.istore X B.1 rfl (hb B.2.1 hd) rfl hl r) k
theorem BaseW.lstoreN (B : BaseW p l e R s m args below meth c Z y bytes maxL ret h0 ws C) (pc' : Nat) (hp : pc' = pc + 1) {i : Fin 4} {x : Int64} (hd : decode bytes pc = .ok (.lstore_n i, 1)) (Ls' : Array Slot) (hl : storeLocals Ls i.val (.long x) = some Ls') (k : B.G h cl sl (mkF m pc' Ls' st)) : B.G h cl sl (mkF m pc Ls (.long x :: st)) := by
  subst hp; exact B.via (fun T t X r => XT.lstoreN X B.1 rfl (hb B.2.1 hd) rfl hl r) k
theorem BaseW.lstore (B : BaseW p l e R s m args below meth c Z y bytes maxL ret h0 ws C) (pc' : Nat) (hp : pc' = pc + 2) {i : Nat} {x : Int64} (hd : decode bytes pc = .ok (.lstore i, 2)) (Ls' : Array Slot) (hl : storeLocals Ls i (.long x) = some Ls') (k : B.G h cl sl (mkF m pc' Ls' st)) : B.G h cl sl (mkF m pc Ls (.long x :: st)) := by
  subst hp; exact B.via (fun T t X r => XT.lstore X B.1 rfl (hb B.2.1 hd) rfl hl r) k
theorem BaseW.astoreN (B : BaseW p l e R s m args below meth c Z y bytes maxL ret h0 ws C) (pc' : Nat) (hp : pc' = pc + 1) {i : Fin 4} {x : Value} (hd : decode bytes pc = .ok (.astore_n i, 1)) (hv : x.isRef = true) (Ls' : Array Slot) (hl : storeLocals Ls i.val x = some Ls') (k : B.G h cl sl (mkF m pc' Ls' st)) : B.G h cl sl (mkF m pc Ls (x :: st)) := by
  subst hp; exact B.via (fun T t X r => XS.astoreN X B.1 rfl (hb B.2.1 hd) rfl hv hl r) k
theorem BaseW.astore (B : BaseW p l e R s m args below meth c Z y bytes maxL ret h0 ws C) (pc' : Nat) (hp : pc' = pc + 2) {i : Nat} {x : Value} (hd : decode bytes pc = .ok (.astore i, 2)) (hv : x.isRef = true) (Ls' : Array Slot) (hl : storeLocals Ls i x = some Ls') (k : B.G h cl sl (mkF m pc' Ls' st)) : B.G h cl sl (mkF m pc Ls (x :: st)) := by
  subst hp; exact B.via (fun T t X r => XS.astore X B.1 rfl (hb B.2.1 hd) rfl hv hl r) k
theorem BaseW.iinc (B : BaseW p l e R s m args below meth c Z y bytes maxL ret h0 ws C) (pc' : Nat) (hp : pc' = pc + 3) {i : Nat} {cst : Int} (v : Int32) {x : Int32} (hd : decode bytes pc = .ok (.iinc i cst, 3)) (hv : Int32.ofInt cst = v) (hl : Ls[i]? = some (.val (.int x))) (Ls' : Array Slot) (hl' : storeLocals Ls i (.int (x + v)) = some Ls') (k : B.G h cl sl (mkF m pc' Ls' st)) : B.G h cl sl (mkF m pc Ls st) := by
  subst hp hv; exact B.via (fun T t X r => XS.iinc X B.1 rfl (hb B.2.1 hd) hl hl' r) k
theorem BaseW.iconst (B : BaseW p l e R s m args below meth c Z y bytes maxL ret h0 ws C) (pc' : Nat) (hp : pc' = pc + 1) {i : Int} (v : Int32) (hd : decode bytes pc = .ok (.iconst i, 1)) (hv : Int32.ofInt i = v) (k : B.G h cl sl (mkF m pc' Ls (.int v :: st))) : B.G h cl sl (mkF m pc Ls st) := by
  subst hp hv; exact B.via (fun T t X r => XS.iconst X B.1 rfl (hb B.2.1 hd) r) k
theorem BaseW.bipush (B : BaseW p l e R s m args below meth c Z y bytes maxL ret h0 ws C) (pc' : Nat) (hp : pc' = pc + 2) {i : Int} (v : Int32) (hd : decode bytes pc = .ok (.bipush i, 2)) (hv : (Int8.ofInt i).toInt32 = v) (k : B.G h cl sl (mkF m pc' Ls (.int v :: st))) : B.G h cl sl (mkF m pc Ls st) := by
  subst hp hv; exact B.via (fun T t X r => XS.bipush X B.1 rfl (hb B.2.1 hd) r) k
theorem BaseW.sipush (B : BaseW p l e R s m args below meth c Z y bytes maxL ret h0 ws C) (pc' : Nat) (hp : pc' = pc + 3) {i : Int} (v : Int32) (hd : decode bytes pc = .ok (.sipush i, 3)) (hv : (Int16.ofInt i).toInt32 = v) (k : B.G h cl sl (mkF m pc' Ls (.int v :: st))) : B.G h cl sl (mkF m pc Ls st) := by
  subst hp hv; exact B.via (fun T t X r => XS.sipush X B.1 rfl (hb B.2.1 hd) r) k
theorem BaseW.lconst (B : BaseW p l e R s m args below meth c Z y bytes maxL ret h0 ws C) (pc' : Nat) (hp : pc' = pc + 1) {i : Fin 2} (v : Int64) (hd : decode bytes pc = .ok (.lconst i, 1)) (hv : Int64.ofNat i = v) (k : B.G h cl sl (mkF m pc' Ls (.long v :: st))) : B.G h cl sl (mkF m pc Ls st) := by
  subst hp hv; exact B.via (fun T t X r => XT.lconst X B.1 rfl (hb B.2.1 hd) r) k
theorem BaseW.aconstNull (B : BaseW p l e R s m args below meth c Z y bytes maxL ret h0 ws C) (pc' : Nat) (hp : pc' = pc + 1) (hd : decode bytes pc = .ok (.aconst_null, 1)) (k : B.G h cl sl (mkF m pc' Ls (.null :: st))) : B.G h cl sl (mkF m pc Ls st) := by
  subst hp; exact B.via (fun T t X r => XS.aconstNull X B.1 rfl (hb B.2.1 hd) r) k
theorem BaseW.ldcI (B : BaseW p l e R s m args below meth c Z y bytes maxL ret h0 ws C) (pc' : Nat) (hp : pc' = pc + 2) {i : Nat} {v : Int32} (hd : decode bytes pc = .ok (.ldc i, 2)) (w : (Cond.constant y.cls i v).before a0 Z = true) (k : B.G h cl sl (mkF m pc' Ls (.int v :: st))) : B.G h cl sl (mkF m pc Ls st) := by
  subst hp; exact B.viaX (fun vm0 hZ hO T t L X _ r => X.ldcI B.1 hO (mv hZ w) rfl (hb B.2.1 hd) r) k
theorem BaseW.ldcWI (B : BaseW p l e R s m args below meth c Z y bytes maxL ret h0 ws C) (pc' : Nat) (hp : pc' = pc + 3) {i : Nat} {v : Int32} (hd : decode bytes pc = .ok (.ldc_w i, 3)) (w : (Cond.constant y.cls i v).before a0 Z = true) (k : B.G h cl sl (mkF m pc' Ls (.int v :: st))) : B.G h cl sl (mkF m pc Ls st) := by
  subst hp; exact B.viaX (fun vm0 hZ hO T t L X _ r => X.ldcWI B.1 hO (mv hZ w) rfl (hb B.2.1 hd) r) k
theorem BaseW.ldc2J (B : BaseW p l e R s m args below meth c Z y bytes maxL ret h0 ws C) (pc' : Nat) (hp : pc' = pc + 3) {i : Nat} {v : Int64} (hd : decode bytes pc = .ok (.ldc2_w i, 3)) (w : (Cond.constantLong y.cls i v).before a0 Z = true) (k : B.G h cl sl (mkF m pc' Ls (.long v :: st))) : B.G h cl sl (mkF m pc Ls st) := by
  subst hp; exact B.viaX (fun vm0 hZ hO T t L X _ r => X.ldc2J B.1 hO (mv hZ w) rfl (hb B.2.1 hd) r) k
theorem BaseW.goto (B : BaseW p l e R s m args below meth c Z y bytes maxL ret h0 ws C) (pc' : Nat) {o : Int} (hp : ((pc : Int) + o).toNat = pc') (ho : 0 ≤ (pc : Int) + o) (hd : decode bytes pc = .ok (.goto o, 3)) (k : B.G h cl sl (mkF m pc' Ls st)) : B.G h cl sl (mkF m pc Ls st) :=
  B.via (fun T t X r => XS.goto X B.1 rfl rfl (hb B.2.1 hd) ho hp r) k
theorem BaseW.dup (B : BaseW p l e R s m args below meth c Z y bytes maxL ret h0 ws C) (pc' : Nat) (hp : pc' = pc + 1) {x : Value} (hd : decode bytes pc = .ok (.dup, 1)) (hc : x.category = 1) (k : B.G h cl sl (mkF m pc' Ls (x :: x :: st))) : B.G h cl sl (mkF m pc Ls (x :: st)) := by
  subst hp; exact B.via (fun T t X r => XS.dup X B.1 rfl (hb B.2.1 hd) rfl hc r) k
theorem BaseW.pop (B : BaseW p l e R s m args below meth c Z y bytes maxL ret h0 ws C) (pc' : Nat) (hp : pc' = pc + 1) {x : Value} (hd : decode bytes pc = .ok (.pop, 1)) (hc : x.category = 1) (k : B.G h cl sl (mkF m pc' Ls st)) : B.G h cl sl (mkF m pc Ls (x :: st)) := by
  subst hp; exact B.via (fun T t X r => XT.pop X B.1 rfl (hb B.2.1 hd) rfl hc r) k
theorem BaseW.dupX1 (B : BaseW p l e R s m args below meth c Z y bytes maxL ret h0 ws C) (pc' : Nat) (hp : pc' = pc + 1) {x z : Value} (hd : decode bytes pc = .ok (.dup_x1, 1)) (hc : x.category = 1) (hc' : z.category = 1) (k : B.G h cl sl (mkF m pc' Ls (x :: z :: x :: st))) : B.G h cl sl (mkF m pc Ls (x :: z :: st)) := by
  subst hp; exact B.via (fun T t X r => XT.dupX1 X B.1 rfl (hb B.2.1 hd) rfl hc hc' r) k
theorem BaseW.dup2 (B : BaseW p l e R s m args below meth c Z y bytes maxL ret h0 ws C) (pc' : Nat) (hp : pc' = pc + 1) {x z : Value} (hd : decode bytes pc = .ok (.dup2, 1)) (hc : x.category = 1) (hc' : z.category = 1) (k : B.G h cl sl (mkF m pc' Ls (x :: z :: x :: z :: st))) : B.G h cl sl (mkF m pc Ls (x :: z :: st)) := by
  subst hp; exact B.via (fun T t X r => XT.dup2 X B.1 rfl (hb B.2.1 hd) rfl hc hc' r) k
theorem BaseW.iadd (B : BaseW p l e R s m args below meth c Z y bytes maxL ret h0 ws C) (pc' : Nat) (hp : pc' = pc + 1) {x : Int32} {z : Int32} (hd : decode bytes pc = .ok (.iadd, 1)) (k : B.G h cl sl (mkF m pc' Ls (.int (x + z) :: st))) : B.G h cl sl (mkF m pc Ls (.int z :: .int x :: st)) := by
  subst hp; exact B.via (fun T t X r => XS.iadd X B.1 rfl (hb B.2.1 hd) rfl r) k
theorem BaseW.isub (B : BaseW p l e R s m args below meth c Z y bytes maxL ret h0 ws C) (pc' : Nat) (hp : pc' = pc + 1) {x : Int32} {z : Int32} (hd : decode bytes pc = .ok (.isub, 1)) (k : B.G h cl sl (mkF m pc' Ls (.int (x - z) :: st))) : B.G h cl sl (mkF m pc Ls (.int z :: .int x :: st)) := by
  subst hp; exact B.via (fun T t X r => XS.isub X B.1 rfl (hb B.2.1 hd) rfl r) k
theorem BaseW.iand (B : BaseW p l e R s m args below meth c Z y bytes maxL ret h0 ws C) (pc' : Nat) (hp : pc' = pc + 1) {x : Int32} {z : Int32} (hd : decode bytes pc = .ok (.iand, 1)) (k : B.G h cl sl (mkF m pc' Ls (.int (x &&& z) :: st))) : B.G h cl sl (mkF m pc Ls (.int z :: .int x :: st)) := by
  subst hp; exact B.via (fun T t X r => XS.iand X B.1 rfl (hb B.2.1 hd) rfl r) k
theorem BaseW.imul (B : BaseW p l e R s m args below meth c Z y bytes maxL ret h0 ws C) (pc' : Nat) (hp : pc' = pc + 1) {x : Int32} {z : Int32} (hd : decode bytes pc = .ok (.imul, 1)) (k : B.G h cl sl (mkF m pc' Ls (.int (x * z) :: st))) : B.G h cl sl (mkF m pc Ls (.int z :: .int x :: st)) := by
  subst hp; exact B.via (fun T t X r => XS.imul X B.1 rfl (hb B.2.1 hd) rfl r) k
theorem BaseW.ixor (B : BaseW p l e R s m args below meth c Z y bytes maxL ret h0 ws C) (pc' : Nat) (hp : pc' = pc + 1) {x : Int32} {z : Int32} (hd : decode bytes pc = .ok (.ixor, 1)) (k : B.G h cl sl (mkF m pc' Ls (.int (x ^^^ z) :: st))) : B.G h cl sl (mkF m pc Ls (.int z :: .int x :: st)) := by
  subst hp; exact B.via (fun T t X r => XT.ixor X B.1 rfl (hb B.2.1 hd) rfl r) k
theorem BaseW.ior (B : BaseW p l e R s m args below meth c Z y bytes maxL ret h0 ws C) (pc' : Nat) (hp : pc' = pc + 1) {x : Int32} {z : Int32} (hd : decode bytes pc = .ok (.ior, 1)) (k : B.G h cl sl (mkF m pc' Ls (.int (x ||| z) :: st))) : B.G h cl sl (mkF m pc Ls (.int z :: .int x :: st)) := by
  subst hp; exact B.via (fun T t X r => XT.ior X B.1 rfl (hb B.2.1 hd) rfl r) k
theorem BaseW.ishl (B : BaseW p l e R s m args below meth c Z y bytes maxL ret h0 ws C) (pc' : Nat) (hp : pc' = pc + 1) {x : Int32} {z : Int32} (hd : decode bytes pc = .ok (.ishl, 1)) (k : B.G h cl sl (mkF m pc' Ls (.int (x <<< (z &&& 31)) :: st))) : B.G h cl sl (mkF m pc Ls (.int z :: .int x :: st)) := by
  subst hp; exact B.via (fun T t X r => XT.ishl X B.1 rfl (hb B.2.1 hd) rfl r) k
theorem BaseW.ishr (B : BaseW p l e R s m args below meth c Z y bytes maxL ret h0 ws C) (pc' : Nat) (hp : pc' = pc + 1) {x : Int32} {z : Int32} (hd : decode bytes pc = .ok (.ishr, 1)) (k : B.G h cl sl (mkF m pc' Ls (.int (x >>> (z &&& 31)) :: st))) : B.G h cl sl (mkF m pc Ls (.int z :: .int x :: st)) := by
  subst hp; exact B.via (fun T t X r => XT.ishr X B.1 rfl (hb B.2.1 hd) rfl r) k
theorem BaseW.iushr (B : BaseW p l e R s m args below meth c Z y bytes maxL ret h0 ws C) (pc' : Nat) (hp : pc' = pc + 1) {x : Int32} {z : Int32} (hd : decode bytes pc = .ok (.iushr, 1)) (k : B.G h cl sl (mkF m pc' Ls (.int (XT.ushr x z) :: st))) : B.G h cl sl (mkF m pc Ls (.int z :: .int x :: st)) := by
  subst hp; exact B.via (fun T t X r => XT.iushr X B.1 rfl (hb B.2.1 hd) rfl r) k
theorem BaseW.ladd (B : BaseW p l e R s m args below meth c Z y bytes maxL ret h0 ws C) (pc' : Nat) (hp : pc' = pc + 1) {x : Int64} {z : Int64} (hd : decode bytes pc = .ok (.ladd, 1)) (k : B.G h cl sl (mkF m pc' Ls (.long (x + z) :: st))) : B.G h cl sl (mkF m pc Ls (.long z :: .long x :: st)) := by
  subst hp; exact B.via (fun T t X r => XT.ladd X B.1 rfl (hb B.2.1 hd) rfl r) k
theorem BaseW.lsub (B : BaseW p l e R s m args below meth c Z y bytes maxL ret h0 ws C) (pc' : Nat) (hp : pc' = pc + 1) {x : Int64} {z : Int64} (hd : decode bytes pc = .ok (.lsub, 1)) (k : B.G h cl sl (mkF m pc' Ls (.long (x - z) :: st))) : B.G h cl sl (mkF m pc Ls (.long z :: .long x :: st)) := by
  subst hp; exact B.via (fun T t X r => XT.lsub X B.1 rfl (hb B.2.1 hd) rfl r) k
theorem BaseW.lmul (B : BaseW p l e R s m args below meth c Z y bytes maxL ret h0 ws C) (pc' : Nat) (hp : pc' = pc + 1) {x : Int64} {z : Int64} (hd : decode bytes pc = .ok (.lmul, 1)) (k : B.G h cl sl (mkF m pc' Ls (.long (x * z) :: st))) : B.G h cl sl (mkF m pc Ls (.long z :: .long x :: st)) := by
  subst hp; exact B.via (fun T t X r => XT.lmul X B.1 rfl (hb B.2.1 hd) rfl r) k
theorem BaseW.land (B : BaseW p l e R s m args below meth c Z y bytes maxL ret h0 ws C) (pc' : Nat) (hp : pc' = pc + 1) {x : Int64} {z : Int64} (hd : decode bytes pc = .ok (.land, 1)) (k : B.G h cl sl (mkF m pc' Ls (.long (x &&& z) :: st))) : B.G h cl sl (mkF m pc Ls (.long z :: .long x :: st)) := by
  subst hp; exact B.via (fun T t X r => XT.land X B.1 rfl (hb B.2.1 hd) rfl r) k
theorem BaseW.lor (B : BaseW p l e R s m args below meth c Z y bytes maxL ret h0 ws C) (pc' : Nat) (hp : pc' = pc + 1) {x : Int64} {z : Int64} (hd : decode bytes pc = .ok (.lor, 1)) (k : B.G h cl sl (mkF m pc' Ls (.long (x ||| z) :: st))) : B.G h cl sl (mkF m pc Ls (.long z :: .long x :: st)) := by
  subst hp; exact B.via (fun T t X r => XT.lor X B.1 rfl (hb B.2.1 hd) rfl r) k
theorem BaseW.lxor (B : BaseW p l e R s m args below meth c Z y bytes maxL ret h0 ws C) (pc' : Nat) (hp : pc' = pc + 1) {x : Int64} {z : Int64} (hd : decode bytes pc = .ok (.lxor, 1)) (k : B.G h cl sl (mkF m pc' Ls (.long (x ^^^ z) :: st))) : B.G h cl sl (mkF m pc Ls (.long z :: .long x :: st)) := by
  subst hp; exact B.via (fun T t X r => XT.lxor X B.1 rfl (hb B.2.1 hd) rfl r) k
theorem BaseW.lshl (B : BaseW p l e R s m args below meth c Z y bytes maxL ret h0 ws C) (pc' : Nat) (hp : pc' = pc + 1) {x : Int64} {z : Int32} (hd : decode bytes pc = .ok (.lshl, 1)) (k : B.G h cl sl (mkF m pc' Ls (.long (x <<< (z.toInt64 &&& 63)) :: st))) : B.G h cl sl (mkF m pc Ls (.int z :: .long x :: st)) := by
  subst hp; exact B.via (fun T t X r => XT.lshl X B.1 rfl (hb B.2.1 hd) rfl r) k
theorem BaseW.lshr (B : BaseW p l e R s m args below meth c Z y bytes maxL ret h0 ws C) (pc' : Nat) (hp : pc' = pc + 1) {x : Int64} {z : Int32} (hd : decode bytes pc = .ok (.lshr, 1)) (k : B.G h cl sl (mkF m pc' Ls (.long (x >>> (z.toInt64 &&& 63)) :: st))) : B.G h cl sl (mkF m pc Ls (.int z :: .long x :: st)) := by
  subst hp; exact B.via (fun T t X r => XT.lshr X B.1 rfl (hb B.2.1 hd) rfl r) k
theorem BaseW.lushr (B : BaseW p l e R s m args below meth c Z y bytes maxL ret h0 ws C) (pc' : Nat) (hp : pc' = pc + 1) {x : Int64} {z : Int32} (hd : decode bytes pc = .ok (.lushr, 1)) (k : B.G h cl sl (mkF m pc' Ls (.long (XT.ushrL x z) :: st))) : B.G h cl sl (mkF m pc Ls (.int z :: .long x :: st)) := by
  subst hp; exact B.via (fun T t X r => XT.lushr X B.1 rfl (hb B.2.1 hd) rfl r) k
theorem BaseW.lcmp (B : BaseW p l e R s m args below meth c Z y bytes maxL ret h0 ws C) (pc' : Nat) (hp : pc' = pc + 1) {x : Int64} {z : Int64} (hd : decode bytes pc = .ok (.lcmp, 1)) (k : B.G h cl sl (mkF m pc' Ls (.int (XT.cmpL x z) :: st))) : B.G h cl sl (mkF m pc Ls (.long z :: .long x :: st)) := by
  subst hp; exact B.via (fun T t X r => XT.lcmp X B.1 rfl (hb B.2.1 hd) rfl r) k
theorem BaseW.idiv (B : BaseW p l e R s m args below meth c Z y bytes maxL ret h0 ws C) (pc' : Nat) (hp : pc' = pc + 1) {x : Int32} {z : Int32} (hd : decode bytes pc = .ok (.idiv, 1)) (hz : z ≠ 0) (k : B.G h cl sl (mkF m pc' Ls (.int (x / z) :: st))) : B.G h cl sl (mkF m pc Ls (.int z :: .int x :: st)) := by
  subst hp; exact B.via (fun T t X r => XS.idiv X B.1 rfl (hb B.2.1 hd) rfl hz r) k
theorem BaseW.ldiv (B : BaseW p l e R s m args below meth c Z y bytes maxL ret h0 ws C) (pc' : Nat) (hp : pc' = pc + 1) {x : Int64} {z : Int64} (hd : decode bytes pc = .ok (.ldiv, 1)) (hz : z ≠ 0) (k : B.G h cl sl (mkF m pc' Ls (.long (x / z) :: st))) : B.G h cl sl (mkF m pc Ls (.long z :: .long x :: st)) := by
  subst hp; exact B.via (fun T t X r => XT.ldiv X B.1 rfl (hb B.2.1 hd) rfl hz r) k
theorem BaseW.irem (B : BaseW p l e R s m args below meth c Z y bytes maxL ret h0 ws C) (pc' : Nat) (hp : pc' = pc + 1) {x z : Int32} (hd : decode bytes pc = .ok (.irem, 1)) (hz : z ≠ 0) (k : B.G h cl sl (mkF m pc' Ls (.int (x % z) :: st))) : B.G h cl sl (mkF m pc Ls (.int z :: .int x :: st)) := by
  subst hp; exact B.viaX (fun vm0 hZ hO T t L X _ r => iremM X B.1 rfl (hb B.2.1 hd) rfl hz r) k
theorem BaseW.ineg (B : BaseW p l e R s m args below meth c Z y bytes maxL ret h0 ws C) (pc' : Nat) (hp : pc' = pc + 1) {x : Int32} (hd : decode bytes pc = .ok (.ineg, 1)) (k : B.G h cl sl (mkF m pc' Ls (.int (-x) :: st))) : B.G h cl sl (mkF m pc Ls (.int x :: st)) := by
  subst hp; exact B.via (fun T t X r => XS.ineg X B.1 rfl (hb B.2.1 hd) rfl r) k
theorem BaseW.lneg (B : BaseW p l e R s m args below meth c Z y bytes maxL ret h0 ws C) (pc' : Nat) (hp : pc' = pc + 1) {x : Int64} (hd : decode bytes pc = .ok (.lneg, 1)) (k : B.G h cl sl (mkF m pc' Ls (.long (-x) :: st))) : B.G h cl sl (mkF m pc Ls (.long x :: st)) := by
  subst hp; exact B.via (fun T t X r => XT.lneg X B.1 rfl (hb B.2.1 hd) rfl r) k
theorem BaseW.i2l (B : BaseW p l e R s m args below meth c Z y bytes maxL ret h0 ws C) (pc' : Nat) (hp : pc' = pc + 1) {x : Int32} (hd : decode bytes pc = .ok (.i2l, 1)) (k : B.G h cl sl (mkF m pc' Ls (.long (x.toInt64) :: st))) : B.G h cl sl (mkF m pc Ls (.int x :: st)) := by
  subst hp; exact B.via (fun T t X r => XT.i2l X B.1 rfl (hb B.2.1 hd) rfl r) k
theorem BaseW.l2i (B : BaseW p l e R s m args below meth c Z y bytes maxL ret h0 ws C) (pc' : Nat) (hp : pc' = pc + 1) {x : Int64} (hd : decode bytes pc = .ok (.l2i, 1)) (k : B.G h cl sl (mkF m pc' Ls (.int (x.toInt32) :: st))) : B.G h cl sl (mkF m pc Ls (.long x :: st)) := by
  subst hp; exact B.via (fun T t X r => XT.l2i X B.1 rfl (hb B.2.1 hd) rfl r) k
theorem BaseW.i2b (B : BaseW p l e R s m args below meth c Z y bytes maxL ret h0 ws C) (pc' : Nat) (hp : pc' = pc + 1) {x : Int32} (hd : decode bytes pc = .ok (.i2b, 1)) (k : B.G h cl sl (mkF m pc' Ls (.int (x.toInt8.toInt32) :: st))) : B.G h cl sl (mkF m pc Ls (.int x :: st)) := by
  subst hp; exact B.via (fun T t X r => XT.i2b X B.1 rfl (hb B.2.1 hd) rfl r) k
theorem BaseW.i2c (B : BaseW p l e R s m args below meth c Z y bytes maxL ret h0 ws C) (pc' : Nat) (hp : pc' = pc + 1) {x : Int32} (hd : decode bytes pc = .ok (.i2c, 1)) (k : B.G h cl sl (mkF m pc' Ls (.int (x.toUInt32.toUInt16.toUInt32.toInt32) :: st))) : B.G h cl sl (mkF m pc Ls (.int x :: st)) := by
  subst hp; exact B.via (fun T t X r => XT.i2c X B.1 rfl (hb B.2.1 hd) rfl r) k
theorem BaseW.i2s (B : BaseW p l e R s m args below meth c Z y bytes maxL ret h0 ws C) (pc' : Nat) (hp : pc' = pc + 1) {x : Int32} (hd : decode bytes pc = .ok (.i2s, 1)) (k : B.G h cl sl (mkF m pc' Ls (.int (x.toInt16.toInt32) :: st))) : B.G h cl sl (mkF m pc Ls (.int x :: st)) := by
  subst hp; exact B.via (fun T t X r => XT.i2s X B.1 rfl (hb B.2.1 hd) rfl r) k
theorem BaseW.icmp_eq (B : BaseW p l e R s m args below meth c Z y bytes maxL ret h0 ws C) (pt pf : Nat) {o : Int} (hpt : ((pc : Int) + o).toNat = pt) (ho : 0 ≤ (pc : Int) + o) (hpf : pf = pc + 3) {x z : Int32} (hd : decode bytes pc = .ok (.if_icmp .eq o, 3)) (kt : x = z → B.G h cl sl (mkF m pt Ls st)) (kf : ¬ x = z → B.G h cl sl (mkF m pf Ls st)) : B.G h cl sl (mkF m pc Ls (.int z :: .int x :: st)) := by
  subst hpt hpf
  by_cases q : x = z
  · exact B.via (fun T t X r => XS.icmpYes X B.1 rfl rfl (hb B.2.1 hd) rfl (XT.ii_eq_t q) ho rfl r) (kt q)
  · exact B.via (fun T t X r => XS.icmpNo X B.1 rfl (hb B.2.1 hd) rfl (XT.ii_eq_f q) r) (kf q)
theorem BaseW.if0_eq (B : BaseW p l e R s m args below meth c Z y bytes maxL ret h0 ws C) (pt pf : Nat) {o : Int} (hpt : ((pc : Int) + o).toNat = pt) (ho : 0 ≤ (pc : Int) + o) (hpf : pf = pc + 3) {x : Int32} (hd : decode bytes pc = .ok (.ifCond .eq o, 3)) (kt : x = 0 → B.G h cl sl (mkF m pt Ls st)) (kf : ¬ x = 0 → B.G h cl sl (mkF m pf Ls st)) : B.G h cl sl (mkF m pc Ls (.int x :: st)) := by
  subst hpt hpf
  by_cases q : x = 0
  · exact B.via (fun T t X r => XS.ifYes X B.1 rfl rfl (hb B.2.1 hd) rfl (XT.i0_eq_t q) ho rfl r) (kt q)
  · exact B.via (fun T t X r => XS.ifNo X B.1 rfl (hb B.2.1 hd) rfl (XT.i0_eq_f q) r) (kf q)
theorem BaseW.lif_eq (B : BaseW p l e R s m args below meth c Z y bytes maxL ret h0 ws C) (pt pf : Nat) {o : Int} (hpt : ((pc : Int) + o).toNat = pt) (ho : 0 ≤ (pc : Int) + o) (hpf : pf = pc + 3) {x z : Int64} (hd : decode bytes pc = .ok (.ifCond .eq o, 3)) (kt : x = z → B.G h cl sl (mkF m pt Ls st)) (kf : ¬ x = z → B.G h cl sl (mkF m pf Ls st)) : B.G h cl sl (mkF m pc Ls (.int (XT.cmpL x z) :: st)) := by
  subst hpt hpf
  by_cases q : x = z
  · exact B.via (fun T t X r => XS.ifYes X B.1 rfl rfl (hb B.2.1 hd) rfl (XT.ll_eq_t q) ho rfl r) (kt q)
  · exact B.via (fun T t X r => XS.ifNo X B.1 rfl (hb B.2.1 hd) rfl (XT.ll_eq_f q) r) (kf q)
theorem BaseW.icmp_ne (B : BaseW p l e R s m args below meth c Z y bytes maxL ret h0 ws C) (pt pf : Nat) {o : Int} (hpt : ((pc : Int) + o).toNat = pt) (ho : 0 ≤ (pc : Int) + o) (hpf : pf = pc + 3) {x z : Int32} (hd : decode bytes pc = .ok (.if_icmp .ne o, 3)) (kt : ¬ x = z → B.G h cl sl (mkF m pt Ls st)) (kf : x = z → B.G h cl sl (mkF m pf Ls st)) : B.G h cl sl (mkF m pc Ls (.int z :: .int x :: st)) := by
  subst hpt hpf
  by_cases q : x = z
  · exact B.via (fun T t X r => XS.icmpNo X B.1 rfl (hb B.2.1 hd) rfl (XT.ii_ne_f q) r) (kf q)
  · exact B.via (fun T t X r => XS.icmpYes X B.1 rfl rfl (hb B.2.1 hd) rfl (XT.ii_ne_t q) ho rfl r) (kt q)
theorem BaseW.if0_ne (B : BaseW p l e R s m args below meth c Z y bytes maxL ret h0 ws C) (pt pf : Nat) {o : Int} (hpt : ((pc : Int) + o).toNat = pt) (ho : 0 ≤ (pc : Int) + o) (hpf : pf = pc + 3) {x : Int32} (hd : decode bytes pc = .ok (.ifCond .ne o, 3)) (kt : ¬ x = 0 → B.G h cl sl (mkF m pt Ls st)) (kf : x = 0 → B.G h cl sl (mkF m pf Ls st)) : B.G h cl sl (mkF m pc Ls (.int x :: st)) := by
  subst hpt hpf
  by_cases q : x = 0
  · exact B.via (fun T t X r => XS.ifNo X B.1 rfl (hb B.2.1 hd) rfl (XT.i0_ne_f q) r) (kf q)
  · exact B.via (fun T t X r => XS.ifYes X B.1 rfl rfl (hb B.2.1 hd) rfl (XT.i0_ne_t q) ho rfl r) (kt q)
theorem BaseW.lif_ne (B : BaseW p l e R s m args below meth c Z y bytes maxL ret h0 ws C) (pt pf : Nat) {o : Int} (hpt : ((pc : Int) + o).toNat = pt) (ho : 0 ≤ (pc : Int) + o) (hpf : pf = pc + 3) {x z : Int64} (hd : decode bytes pc = .ok (.ifCond .ne o, 3)) (kt : ¬ x = z → B.G h cl sl (mkF m pt Ls st)) (kf : x = z → B.G h cl sl (mkF m pf Ls st)) : B.G h cl sl (mkF m pc Ls (.int (XT.cmpL x z) :: st)) := by
  subst hpt hpf
  by_cases q : x = z
  · exact B.via (fun T t X r => XS.ifNo X B.1 rfl (hb B.2.1 hd) rfl (XT.ll_ne_f q) r) (kf q)
  · exact B.via (fun T t X r => XS.ifYes X B.1 rfl rfl (hb B.2.1 hd) rfl (XT.ll_ne_t q) ho rfl r) (kt q)
theorem BaseW.icmp_lt (B : BaseW p l e R s m args below meth c Z y bytes maxL ret h0 ws C) (pt pf : Nat) {o : Int} (hpt : ((pc : Int) + o).toNat = pt) (ho : 0 ≤ (pc : Int) + o) (hpf : pf = pc + 3) {x z : Int32} (hd : decode bytes pc = .ok (.if_icmp .lt o, 3)) (kt : x < z → B.G h cl sl (mkF m pt Ls st)) (kf : ¬ x < z → B.G h cl sl (mkF m pf Ls st)) : B.G h cl sl (mkF m pc Ls (.int z :: .int x :: st)) := by
  subst hpt hpf
  by_cases q : x < z
  · exact B.via (fun T t X r => XS.icmpYes X B.1 rfl rfl (hb B.2.1 hd) rfl (XT.ii_lt_t q) ho rfl r) (kt q)
  · exact B.via (fun T t X r => XS.icmpNo X B.1 rfl (hb B.2.1 hd) rfl (XT.ii_lt_f q) r) (kf q)
theorem BaseW.if0_lt (B : BaseW p l e R s m args below meth c Z y bytes maxL ret h0 ws C) (pt pf : Nat) {o : Int} (hpt : ((pc : Int) + o).toNat = pt) (ho : 0 ≤ (pc : Int) + o) (hpf : pf = pc + 3) {x : Int32} (hd : decode bytes pc = .ok (.ifCond .lt o, 3)) (kt : x < 0 → B.G h cl sl (mkF m pt Ls st)) (kf : ¬ x < 0 → B.G h cl sl (mkF m pf Ls st)) : B.G h cl sl (mkF m pc Ls (.int x :: st)) := by
  subst hpt hpf
  by_cases q : x < 0
  · exact B.via (fun T t X r => XS.ifYes X B.1 rfl rfl (hb B.2.1 hd) rfl (XT.i0_lt_t q) ho rfl r) (kt q)
  · exact B.via (fun T t X r => XS.ifNo X B.1 rfl (hb B.2.1 hd) rfl (XT.i0_lt_f q) r) (kf q)
theorem BaseW.lif_lt (B : BaseW p l e R s m args below meth c Z y bytes maxL ret h0 ws C) (pt pf : Nat) {o : Int} (hpt : ((pc : Int) + o).toNat = pt) (ho : 0 ≤ (pc : Int) + o) (hpf : pf = pc + 3) {x z : Int64} (hd : decode bytes pc = .ok (.ifCond .lt o, 3)) (kt : x < z → B.G h cl sl (mkF m pt Ls st)) (kf : ¬ x < z → B.G h cl sl (mkF m pf Ls st)) : B.G h cl sl (mkF m pc Ls (.int (XT.cmpL x z) :: st)) := by
  subst hpt hpf
  by_cases q : x < z
  · exact B.via (fun T t X r => XS.ifYes X B.1 rfl rfl (hb B.2.1 hd) rfl (XT.ll_lt_t q) ho rfl r) (kt q)
  · exact B.via (fun T t X r => XS.ifNo X B.1 rfl (hb B.2.1 hd) rfl (XT.ll_lt_f q) r) (kf q)
theorem BaseW.icmp_ge (B : BaseW p l e R s m args below meth c Z y bytes maxL ret h0 ws C) (pt pf : Nat) {o : Int} (hpt : ((pc : Int) + o).toNat = pt) (ho : 0 ≤ (pc : Int) + o) (hpf : pf = pc + 3) {x z : Int32} (hd : decode bytes pc = .ok (.if_icmp .ge o, 3)) (kt : ¬ x < z → B.G h cl sl (mkF m pt Ls st)) (kf : x < z → B.G h cl sl (mkF m pf Ls st)) : B.G h cl sl (mkF m pc Ls (.int z :: .int x :: st)) := by
  subst hpt hpf
  by_cases q : x < z
  · exact B.via (fun T t X r => XS.icmpNo X B.1 rfl (hb B.2.1 hd) rfl (XT.ii_ge_f q) r) (kf q)
  · exact B.via (fun T t X r => XS.icmpYes X B.1 rfl rfl (hb B.2.1 hd) rfl (XT.ii_ge_t q) ho rfl r) (kt q)
theorem BaseW.if0_ge (B : BaseW p l e R s m args below meth c Z y bytes maxL ret h0 ws C) (pt pf : Nat) {o : Int} (hpt : ((pc : Int) + o).toNat = pt) (ho : 0 ≤ (pc : Int) + o) (hpf : pf = pc + 3) {x : Int32} (hd : decode bytes pc = .ok (.ifCond .ge o, 3)) (kt : ¬ x < 0 → B.G h cl sl (mkF m pt Ls st)) (kf : x < 0 → B.G h cl sl (mkF m pf Ls st)) : B.G h cl sl (mkF m pc Ls (.int x :: st)) := by
  subst hpt hpf
  by_cases q : x < 0
  · exact B.via (fun T t X r => XS.ifNo X B.1 rfl (hb B.2.1 hd) rfl (XT.i0_ge_f q) r) (kf q)
  · exact B.via (fun T t X r => XS.ifYes X B.1 rfl rfl (hb B.2.1 hd) rfl (XT.i0_ge_t q) ho rfl r) (kt q)
theorem BaseW.lif_ge (B : BaseW p l e R s m args below meth c Z y bytes maxL ret h0 ws C) (pt pf : Nat) {o : Int} (hpt : ((pc : Int) + o).toNat = pt) (ho : 0 ≤ (pc : Int) + o) (hpf : pf = pc + 3) {x z : Int64} (hd : decode bytes pc = .ok (.ifCond .ge o, 3)) (kt : ¬ x < z → B.G h cl sl (mkF m pt Ls st)) (kf : x < z → B.G h cl sl (mkF m pf Ls st)) : B.G h cl sl (mkF m pc Ls (.int (XT.cmpL x z) :: st)) := by
  subst hpt hpf
  by_cases q : x < z
  · exact B.via (fun T t X r => XS.ifNo X B.1 rfl (hb B.2.1 hd) rfl (XT.ll_ge_f q) r) (kf q)
  · exact B.via (fun T t X r => XS.ifYes X B.1 rfl rfl (hb B.2.1 hd) rfl (XT.ll_ge_t q) ho rfl r) (kt q)
theorem BaseW.icmp_gt (B : BaseW p l e R s m args below meth c Z y bytes maxL ret h0 ws C) (pt pf : Nat) {o : Int} (hpt : ((pc : Int) + o).toNat = pt) (ho : 0 ≤ (pc : Int) + o) (hpf : pf = pc + 3) {x z : Int32} (hd : decode bytes pc = .ok (.if_icmp .gt o, 3)) (kt : z < x → B.G h cl sl (mkF m pt Ls st)) (kf : ¬ z < x → B.G h cl sl (mkF m pf Ls st)) : B.G h cl sl (mkF m pc Ls (.int z :: .int x :: st)) := by
  subst hpt hpf
  by_cases q : z < x
  · exact B.via (fun T t X r => XS.icmpYes X B.1 rfl rfl (hb B.2.1 hd) rfl (XT.ii_gt_t q) ho rfl r) (kt q)
  · exact B.via (fun T t X r => XS.icmpNo X B.1 rfl (hb B.2.1 hd) rfl (XT.ii_gt_f q) r) (kf q)
theorem BaseW.if0_gt (B : BaseW p l e R s m args below meth c Z y bytes maxL ret h0 ws C) (pt pf : Nat) {o : Int} (hpt : ((pc : Int) + o).toNat = pt) (ho : 0 ≤ (pc : Int) + o) (hpf : pf = pc + 3) {x : Int32} (hd : decode bytes pc = .ok (.ifCond .gt o, 3)) (kt : 0 < x → B.G h cl sl (mkF m pt Ls st)) (kf : ¬ 0 < x → B.G h cl sl (mkF m pf Ls st)) : B.G h cl sl (mkF m pc Ls (.int x :: st)) := by
  subst hpt hpf
  by_cases q : 0 < x
  · exact B.via (fun T t X r => XS.ifYes X B.1 rfl rfl (hb B.2.1 hd) rfl (XT.i0_gt_t q) ho rfl r) (kt q)
  · exact B.via (fun T t X r => XS.ifNo X B.1 rfl (hb B.2.1 hd) rfl (XT.i0_gt_f q) r) (kf q)
theorem BaseW.lif_gt (B : BaseW p l e R s m args below meth c Z y bytes maxL ret h0 ws C) (pt pf : Nat) {o : Int} (hpt : ((pc : Int) + o).toNat = pt) (ho : 0 ≤ (pc : Int) + o) (hpf : pf = pc + 3) {x z : Int64} (hd : decode bytes pc = .ok (.ifCond .gt o, 3)) (kt : z < x → B.G h cl sl (mkF m pt Ls st)) (kf : ¬ z < x → B.G h cl sl (mkF m pf Ls st)) : B.G h cl sl (mkF m pc Ls (.int (XT.cmpL x z) :: st)) := by
  subst hpt hpf
  by_cases q : z < x
  · exact B.via (fun T t X r => XS.ifYes X B.1 rfl rfl (hb B.2.1 hd) rfl (XT.ll_gt_t q) ho rfl r) (kt q)
  · exact B.via (fun T t X r => XS.ifNo X B.1 rfl (hb B.2.1 hd) rfl (XT.ll_gt_f q) r) (kf q)
theorem BaseW.icmp_le (B : BaseW p l e R s m args below meth c Z y bytes maxL ret h0 ws C) (pt pf : Nat) {o : Int} (hpt : ((pc : Int) + o).toNat = pt) (ho : 0 ≤ (pc : Int) + o) (hpf : pf = pc + 3) {x z : Int32} (hd : decode bytes pc = .ok (.if_icmp .le o, 3)) (kt : ¬ z < x → B.G h cl sl (mkF m pt Ls st)) (kf : z < x → B.G h cl sl (mkF m pf Ls st)) : B.G h cl sl (mkF m pc Ls (.int z :: .int x :: st)) := by
  subst hpt hpf
  by_cases q : z < x
  · exact B.via (fun T t X r => XS.icmpNo X B.1 rfl (hb B.2.1 hd) rfl (XT.ii_le_f q) r) (kf q)
  · exact B.via (fun T t X r => XS.icmpYes X B.1 rfl rfl (hb B.2.1 hd) rfl (XT.ii_le_t q) ho rfl r) (kt q)
theorem BaseW.if0_le (B : BaseW p l e R s m args below meth c Z y bytes maxL ret h0 ws C) (pt pf : Nat) {o : Int} (hpt : ((pc : Int) + o).toNat = pt) (ho : 0 ≤ (pc : Int) + o) (hpf : pf = pc + 3) {x : Int32} (hd : decode bytes pc = .ok (.ifCond .le o, 3)) (kt : ¬ 0 < x → B.G h cl sl (mkF m pt Ls st)) (kf : 0 < x → B.G h cl sl (mkF m pf Ls st)) : B.G h cl sl (mkF m pc Ls (.int x :: st)) := by
  subst hpt hpf
  by_cases q : 0 < x
  · exact B.via (fun T t X r => XS.ifNo X B.1 rfl (hb B.2.1 hd) rfl (XT.i0_le_f q) r) (kf q)
  · exact B.via (fun T t X r => XS.ifYes X B.1 rfl rfl (hb B.2.1 hd) rfl (XT.i0_le_t q) ho rfl r) (kt q)
theorem BaseW.lif_le (B : BaseW p l e R s m args below meth c Z y bytes maxL ret h0 ws C) (pt pf : Nat) {o : Int} (hpt : ((pc : Int) + o).toNat = pt) (ho : 0 ≤ (pc : Int) + o) (hpf : pf = pc + 3) {x z : Int64} (hd : decode bytes pc = .ok (.ifCond .le o, 3)) (kt : ¬ z < x → B.G h cl sl (mkF m pt Ls st)) (kf : z < x → B.G h cl sl (mkF m pf Ls st)) : B.G h cl sl (mkF m pc Ls (.int (XT.cmpL x z) :: st)) := by
  subst hpt hpf
  by_cases q : z < x
  · exact B.via (fun T t X r => XS.ifNo X B.1 rfl (hb B.2.1 hd) rfl (XT.ll_le_f q) r) (kf q)
  · exact B.via (fun T t X r => XS.ifYes X B.1 rfl rfl (hb B.2.1 hd) rfl (XT.ll_le_t q) ho rfl r) (kt q)
theorem BaseW.acmp_eq (B : BaseW p l e R s m args below meth c Z y bytes maxL ret h0 ws C) (pt pf : Nat) {o : Int} (hpt : ((pc : Int) + o).toNat = pt) (ho : 0 ≤ (pc : Int) + o) (hpf : pf = pc + 3) {x z : Value} (hd : decode bytes pc = .ok (.if_acmp .eq o, 3)) (hx' : x.isRef = true) (hz' : z.isRef = true) (kt : x = z → B.G h cl sl (mkF m pt Ls st)) (kf : ¬ x = z → B.G h cl sl (mkF m pf Ls st)) : B.G h cl sl (mkF m pc Ls (z :: x :: st)) := by
  subst hpt hpf
  by_cases q : x = z
  · exact B.via (fun T t X r => XT.acmpYes X B.1 rfl rfl (hb B.2.1 hd) rfl hx' hz' (XT.aa_eq_t q) ho rfl r) (kt q)
  · exact B.via (fun T t X r => XT.acmpNo X B.1 rfl (hb B.2.1 hd) rfl hx' hz' (XT.aa_eq_f q) r) (kf q)
theorem BaseW.acmp_ne (B : BaseW p l e R s m args below meth c Z y bytes maxL ret h0 ws C) (pt pf : Nat) {o : Int} (hpt : ((pc : Int) + o).toNat = pt) (ho : 0 ≤ (pc : Int) + o) (hpf : pf = pc + 3) {x z : Value} (hd : decode bytes pc = .ok (.if_acmp .ne o, 3)) (hx' : x.isRef = true) (hz' : z.isRef = true) (kt : ¬ x = z → B.G h cl sl (mkF m pt Ls st)) (kf : x = z → B.G h cl sl (mkF m pf Ls st)) : B.G h cl sl (mkF m pc Ls (z :: x :: st)) := by
  subst hpt hpf
  by_cases q : x = z
  · exact B.via (fun T t X r => XT.acmpNo X B.1 rfl (hb B.2.1 hd) rfl hx' hz' (XT.aa_ne_f q) r) (kf q)
  · exact B.via (fun T t X r => XT.acmpYes X B.1 rfl rfl (hb B.2.1 hd) rfl hx' hz' (XT.aa_ne_t q) ho rfl r) (kt q)
theorem BaseW.ifnull (B : BaseW p l e R s m args below meth c Z y bytes maxL ret h0 ws C) (pt pf : Nat) {o : Int} (hpt : ((pc : Int) + o).toNat = pt) (ho : 0 ≤ (pc : Int) + o) (hpf : pf = pc + 3) {x : Value} (hd : decode bytes pc = .ok (.ifnull o, 3)) (hx' : x.isRef = true) (kt : x = .null → B.G h cl sl (mkF m pt Ls st)) (kf : ¬ x = .null → B.G h cl sl (mkF m pf Ls st)) : B.G h cl sl (mkF m pc Ls (x :: st)) := by
  subst hpt hpf
  by_cases q : x = .null
  · exact B.via (fun T t X r => XT.nullYes X B.1 rfl rfl (hb B.2.1 hd) rfl q ho rfl r) (kt q)
  · exact B.via (fun T t X r => XT.nullNo X B.1 rfl (hb B.2.1 hd) rfl hx' q r) (kf q)
theorem BaseW.ifnonnull (B : BaseW p l e R s m args below meth c Z y bytes maxL ret h0 ws C) (pt pf : Nat) {o : Int} (hpt : ((pc : Int) + o).toNat = pt) (ho : 0 ≤ (pc : Int) + o) (hpf : pf = pc + 3) {x : Value} (hd : decode bytes pc = .ok (.ifnonnull o, 3)) (hx' : x.isRef = true) (kt : ¬ x = .null → B.G h cl sl (mkF m pt Ls st)) (kf : x = .null → B.G h cl sl (mkF m pf Ls st)) : B.G h cl sl (mkF m pc Ls (x :: st)) := by
  subst hpt hpf
  by_cases q : x = .null
  · exact B.via (fun T t X r => XT.nonnullNo X B.1 rfl (hb B.2.1 hd) rfl q r) (kf q)
  · exact B.via (fun T t X r => XT.nonnullYes X B.1 rfl rfl (hb B.2.1 hd) rfl hx' q ho rfl r) (kt q)
theorem BaseW.topI (B : BaseW p l e R s m args below meth c Z y bytes maxL ret h0 ws C) {x : Int32} (v : Int32) (q : x = v) (k : B.G h cl sl (mkF m pc Ls (.int v :: st))) : B.G h cl sl (mkF m pc Ls (.int x :: st)) := by subst q; exact k
theorem BaseW.topL (B : BaseW p l e R s m args below meth c Z y bytes maxL ret h0 ws C) {x : Int64} (v : Int64) (q : x = v) (k : B.G h cl sl (mkF m pc Ls (.long v :: st))) : B.G h cl sl (mkF m pc Ls (.long x :: st)) := by subst q; exact k
/-! 2. the ends -/
theorem BaseW.ret0 (B : BaseW p l e R s m args below meth c Z y bytes maxL none h0 ws C) (hd : decode bytes pc = .ok (.return_, 1)) (hcl : cl ≤ R.cells) (hsl : sl ≤ R.slots) (hC : C none h) : B.G h cl sl (mkF m pc Ls []) :=
  B.leave hcl hsl (fun _ => rfl) hC fun vm0 T locs fs X hr => X.returnOut B.1 B.2.2.2.2.2.1 (hb B.2.1 hd) hr
theorem BaseW.retI (B : BaseW p l e R s m args below meth c Z y bytes maxL (some .int) h0 ws C) {x : Int32} (hd : decode bytes pc = .ok (.ireturn, 1)) (hcl : cl ≤ R.cells) (hsl : sl ≤ R.slots) (hC : C (some (.int x)) h) : B.G h cl sl (mkF m pc Ls (.int x :: st)) :=
  B.leave hcl hsl (fun q => by rw [B.2.2.2.2.2.1] at q; cases q) hC fun vm0 T locs fs X hr => retOut X B.1 B.2.2.2.2.2.1 rfl (Or.inl ⟨rfl, Or.inl rfl, _, rfl⟩) (hb B.2.1 hd) hr
theorem BaseW.retL (B : BaseW p l e R s m args below meth c Z y bytes maxL (some .long) h0 ws C) {x : Int64} (hd : decode bytes pc = .ok (.lreturn, 1)) (hcl : cl ≤ R.cells) (hsl : sl ≤ R.slots) (hC : C (some (.long x)) h) : B.G h cl sl (mkF m pc Ls (.long x :: st)) :=
  B.leave hcl hsl (fun q => by rw [B.2.2.2.2.2.1] at q; cases q) hC fun vm0 T locs fs X hr => retOut X B.1 B.2.2.2.2.2.1 rfl (Or.inr (Or.inl ⟨rfl, rfl, _, rfl⟩)) (hb B.2.1 hd) hr
/-- a boolean, byte, char, short: what comes back is narrowed -/
theorem BaseW.retN {t : FieldType} (B : BaseW p l e R s m args below meth c Z y bytes maxL (some t) h0 ws C) {x : Int32} (ht : t = .boolean ∨ t = .byte ∨ t = .char ∨ t = .short) (hd : decode bytes pc = .ok (.ireturn, 1)) (hcl : cl ≤ R.cells) (hsl : sl ≤ R.slots) (hC : C (some (.int (nar t x))) h) : B.G h cl sl (mkF m pc Ls (.int x :: st)) :=
  B.leave hcl hsl (fun q => by rw [B.2.2.2.2.2.1] at q; cases q) hC fun vm0 T locs fs X hr => Jvm.RoadKit.retN X B.1 B.2.2.2.2.2.1 ht (hb B.2.1 hd) hr
theorem BaseW.retA {t : FieldType} (B : BaseW p l e R s m args below meth c Z y bytes maxL (some t) h0 ws C) {x : Value} (ht : t.isReference = true) (hx' : x.isRef = true) (hd : decode bytes pc = .ok (.areturn, 1)) (hcl : cl ≤ R.cells) (hsl : sl ≤ R.slots) (hC : C (some x) h) : B.G h cl sl (mkF m pc Ls (x :: st)) :=
  B.leave hcl hsl (fun q => by rw [B.2.2.2.2.2.1] at q; cases q) hC fun vm0 T locs fs X hr => retOut X B.1 B.2.2.2.2.2.1 (by rcases ref_cases hx' with rfl | ⟨a, rfl⟩ <;> cases t <;> simp_all [narrow, FieldType.isReference]) (Or.inr (Or.inr (Or.inr (Or.inr ⟨rfl, ht, hx'⟩)))) (hb B.2.1 hd) hr
/-! 3. the heap -/
theorem BaseW.getF (B : BaseW p l e R s m args below meth c Z y bytes maxL ret h0 ws C) (pc' : Nat) (hp : pc' = pc + 3) {i : Nat} {O n d : String} {a : Addr} {v : Value} (hd : decode bytes pc = .ok (.getfield i, 3)) (w : (Cond.fieldLink y.cls i O n d).before a0 Z = true) (F : Fld Z h a O n d v) (k : B.G h cl sl (mkF m pc' Ls (v :: st))) : B.G h cl sl (mkF m pc Ls (.ref a :: st)) := fun vm0 k0 T locs X hS hk N eT => by
  have hZ := B.warm hS
  have hO := B.own hS
  subst hp
  obtain ⟨T', X', e', stp⟩ := Jvm.RoadKit.getF X B.1 hZ hO (host := "") (Or.inl w) Via.refl eT F (g := mkF m pc Ls (.ref a :: st)) rfl rfl (hb B.2.1 hd)
  obtain ⟨t, o, q, r⟩ := k vm0 k0 T' locs X' hS hk N e'
  exact ⟨t, o, stp _ q, r⟩
theorem BaseW.getS (B : BaseW p l e R s m args below meth c Z y bytes maxL ret h0 ws C) (pc' : Nat) (hp : pc' = pc + 3) {i : Nat} {O n d : String} {v : Value} (hd : decode bytes pc = .ok (.getstatic i, 3)) (w : (Cond.fieldLink y.cls i O n d).before a0 Z = true) (F : Sta Z h O n d v) (k : B.G h cl sl (mkF m pc' Ls (v :: st))) : B.G h cl sl (mkF m pc Ls st) := fun vm0 k0 T locs X hS hk N eT => by
  have hZ := B.warm hS
  have hO := B.own hS
  subst hp
  obtain ⟨T', X', e', stp⟩ := Jvm.RoadKit.getS (host := "") X B.1 hZ hO w Via.refl eT F (g := mkF m pc Ls st) rfl (hb B.2.1 hd)
  obtain ⟨t, o, q, r⟩ := k vm0 k0 T' locs X' hS hk N e'
  exact ⟨t, o, stp _ q, r⟩
theorem BaseW.putF (B : BaseW p l e R s m args below meth c Z y bytes maxL ret h0 ws C) (pc' : Nat) (hp : pc' = pc + 3) {i kk : Nat} {O n d CC : String} {a : Addr} {v old : Value} {ty : FieldType} (hd : decode bytes pc = .ok (.putfield i, 3)) (w : (Cond.fieldLink y.cls i O n d).before a0 Z = true) (F : Fld Z h a O n d old) (E : Exa Z h a CC)
    (L : (Cond.lays CC O n d).before a0 Z = true ∨ ((Cond.laysFinal CC O n d).before a0 Z = true ∧ y.cls = O ∧ y.name = "<init>")) (wi : (Cond.instantiable CC kk).before a0 Z = true) (hty : parseFieldDescriptor d = some ty) (hn : narrow ty v = v) (hf : fits ty v = true) (hw : a ∈ ws ∨ h0.size ≤ a)
    (k : ∀ h', Wr h h' a (Jvm.RoadKit.slotOf Z O n d) v → B.G h' cl sl (mkF m pc' Ls st)) : B.G h cl sl (mkF m pc Ls (v :: .ref a :: st)) := fun vm0 k0 T locs X hS hk N eT => by
  have hZ := B.warm hS
  have hO := B.own hS
  subst hp
  obtain ⟨T', h', X', e', W, stp⟩ := Jvm.RoadKit.putF X B.1 hZ hO (host := "") (Or.inl w) Via.refl eT F E (L.imp id fun q => ⟨q.1, q.2.1, B.2.2.2.2.2.2.2.1.trans q.2.2⟩) wi hty hn hf (g := mkF m pc Ls (v :: .ref a :: st)) rfl rfl (hb B.2.1 hd)
  obtain ⟨t, o, q, r⟩ := k h' W vm0 k0 T' _ X' hS (by rw [W.size]; exact hk) (N.one hw) e'
  exact ⟨t, o, stp _ q, r⟩
theorem BaseW.newO (B : BaseW p l e R s m args below meth c Z y bytes maxL ret h0 ws C) (pc' : Nat) (hp : pc' = pc + 3) {i n : Nat} {CC : String} (hd : decode bytes pc = .ok (.new i, 3)) (w : (Cond.classLink y.cls i CC).before a0 Z = true) (wi : (Cond.instantiable CC n).before a0 Z = true) (wz : (Cond.initialized CC).before a0 Z = true) (hc : cl + 1 ≤ R.cells) (hs : sl + n ≤ R.slots)
    (k : ∀ h' a, a = h.size → h0.size ≤ a → Ext h h' → Exa Z h' a CC → (∀ {O nm d : String} {ty : FieldType}, Laid Z a0 CC O nm d → parseFieldDescriptor d = some ty → Fld Z h' a O nm d (defaultValue ty)) → B.G h' (cl + 1) (sl + n) (mkF m pc' Ls (.ref a :: st))) : B.G h cl sl (mkF m pc Ls st) := fun vm0 k0 T locs X hS hk N eT => by
  have hZ := B.warm hS
  have hO := B.own hS
  subst hp
  obtain ⟨T', h', X', e', E, A, D, -, stp⟩ := Jvm.RoadKit.newO X B.1 hZ hO w wi wz eT (g := mkF m pc Ls st) rfl (hb B.2.1 hd) hc hs
  obtain ⟨t, o, q, r⟩ := k h' _ rfl (by rw [← eT]; exact B.size X) E A D vm0 k0 T' locs X' hS (Nat.le_trans hk E.1) N e'
  exact ⟨t, o, stp _ q, r⟩
theorem BaseW.initO (B : BaseW p l e R s m args below meth c Z y bytes maxL ret h0 ws C) (pc' : Nat) (hp : pc' = pc + 3) {i : Nat} {a : Addr} (hd : decode bytes pc = .ok (.invokespecial i, 3)) (w1 : (Cond.methodLink y.cls i Lib.objectInit).before a0 Z = true) (w2 : (Cond.instanceMethod Lib.objectInit).before a0 Z = true) (w3 : (Cond.code Lib.objectInit ⟨#[0xb1]⟩ 1 none).before a0 Z = true)
    (hLs : Ls.size = maxL) (W : Nat) (hW : (st.map fun v => v.category).sum = W) (hf : 1 ≤ R.frames) (hl : W + 12 ≤ R.locals) (k : B.G h cl sl (mkF m pc' Ls st)) : B.G h cl sl (mkF m pc Ls (.ref a :: st)) := fun vm0 k0 T locs X hS hk N eT => by
  have hZ := B.warm hS
  have hO := B.own hS
  subst hp
  obtain ⟨T', X', e', stp⟩ := Jvm.RoadKit.initO X B.1 hZ hO w1 w2 w3 eT (g := mkF m pc Ls (.ref a :: st)) rfl (hLs.trans B.2.2.1.symm) rfl (hb B.2.1 hd) hf (W := W) (by show 2 * 0 + _ ≤ _; omega) hl
  obtain ⟨t, o, q, r⟩ := k vm0 k0 T' locs X' hS hk N e'
  exact ⟨t, o, stp _ q, r⟩
/-! 4. calls -/
section Calls
variable {z : MethodName} {i : Nat} {cb : ByteArray} {cm : Nat} {cr : Option FieldType} {rm : Room} {as : Array Value} {ws' : List Addr} {C' : Option Value → Heap → Prop} {argsL rest : List Value} {ps : List FieldType} {rt : Option FieldType} {W : Nat}
theorem BaseW.callS (B : BaseW p l e R s m args below meth c Z y bytes maxL ret h0 ws C) (pc' : Nat) (hp : pc' = pc + 3) (hd : decode bytes pc = .ok (.invokestatic i, 3))
    (w1 : (Cond.methodLink y.cls i z).before a0 Z = true) (w2 : (Cond.static z).before a0 Z = true) (w3 : (Cond.initialized z.cls).before a0 Z = true) (w4 : (Cond.code z cb cm cr).before a0 Z = true)
    (hz : z.cls ≠ "java/lang/invoke/MethodHandle" ∧ z.cls ≠ "java/lang/invoke/VarHandle") (argsL rest : List Value) (M : Met l Z z cb cm cr [] rm as h ws' C') (has : argsL.toArray = as) (hst : st = argsL.reverse ++ rest) (hpd : parseMethodDescriptor z.desc = some ⟨ps, rt⟩) (hlen : argsL.length = ps.length) (hLs : Ls.size = maxL)
    (W : Nat) (hW : (rest.map fun v => v.category).sum = W) (hf : rm.frames + 1 ≤ R.frames) (hl : W + (cm + 11) + rm.locals ≤ R.locals) (hc : cl + rm.cells ≤ R.cells) (hs : sl + rm.slots ≤ R.slots) (hws : ∀ x ∈ ws', x ∈ ws ∨ h0.size ≤ x)
    (k : ∀ v h', Keep h h' ws' → C' v h' → B.G h' (cl + rm.cells) (sl + rm.slots) (mkF m pc' Ls (v.toList ++ rest))) : B.G h cl sl (mkF m pc Ls st) := fun vm0 k0 T locs X hS hk N eT => by
  have hZ := B.warm hS
  have hO := B.own hS
  subst hp
  obtain ⟨v, _, ⟨T', L', k', n'⟩, -, X', ⟨Lc, hQ, l', y', z'⟩, stp⟩ := Jvm.LawKit.callS X B.1 (y := z) hO (mvT hZ w1) (mvT hZ w2) (mvT hZ w3) (mvT hZ w4) hz (backOf (W := W) M hZ w4 w3 hf hl) (g := mkF m pc Ls st) rfl (hLs.trans B.2.2.1.symm) (argsL := argsL) (rest := rest) (lenOf hpd hlen) hst (by show 2 * 0 + _ ≤ _; omega) (hb B.2.1 hd) (fun _ _ => ⟨has, eT, hc, hs⟩)
  dsimp only [Pt.U, Pt.locs, Pt.cells, Pt.slots] at X' l' y' z' stp hQ
  subst l' y' z'
  obtain ⟨hC, hN, hK⟩ := hQ
  obtain ⟨t, o, q, r⟩ := k v T'.heap hK hC vm0 k0 T' _ X' hS (Nat.le_trans hk hK.1) (N.app fun u hu => (hN u hu).elim (fun q => hws _ q) fun q => Or.inr (Nat.le_trans (by rw [← eT]; exact B.size X) q)) rfl
  exact ⟨t, o, stp _ q, r⟩
theorem BaseW.callI (B : BaseW p l e R s m args below meth c Z y bytes maxL ret h0 ws C) (pc' : Nat) (hp : pc' = pc + 3) (hd : decode bytes pc = .ok (.invokespecial i, 3)) (hin : z.name = "<init>")
    (w1 : (Cond.methodLink y.cls i z).before a0 Z = true) (w2 : (Cond.instanceMethod z).before a0 Z = true) (w3 : (Cond.initialized z.cls).before a0 Z = true) (w4 : (Cond.code z cb cm none).before a0 Z = true)
    (hz : z.cls ≠ "java/lang/invoke/MethodHandle" ∧ z.cls ≠ "java/lang/invoke/VarHandle") {a : Addr} (argsL rest : List Value) (M : Met l Z z cb cm none [] rm as h ws' C') (has : (.ref a :: argsL).toArray = as) (hst : st = argsL.reverse ++ .ref a :: rest) (hpd : parseMethodDescriptor z.desc = some ⟨ps, rt⟩) (hlen : argsL.length = ps.length) (hLs : Ls.size = maxL)
    (W : Nat) (hW : (rest.map fun v => v.category).sum = W) (hf : rm.frames + 1 ≤ R.frames) (hl : W + (cm + 11) + rm.locals ≤ R.locals) (hc : cl + rm.cells ≤ R.cells) (hs : sl + rm.slots ≤ R.slots) (hws : ∀ x ∈ ws', x ∈ ws ∨ h0.size ≤ x)
    (k : ∀ v h', Keep h h' ws' → C' v h' → B.G h' (cl + rm.cells) (sl + rm.slots) (mkF m pc' Ls (v.toList ++ rest))) : B.G h cl sl (mkF m pc Ls st) := fun vm0 k0 T locs X hS hk N eT => by
  have hZ := B.warm hS
  have hO := B.own hS
  subst hp
  obtain ⟨v, _, ⟨T', L', k', n'⟩, -, X', ⟨Lc, hQ, l', y', z'⟩, stp⟩ := X.specialBack B.1 (y := z) hin hO (mvT hZ w1) (mvT hZ w2) (mvT hZ w4) hz (backOf (W := W) M hZ w4 w3 hf hl) (g := mkF m pc Ls st) rfl (hLs.trans B.2.2.1.symm) (Steps.refl _) (a := a) (argsL := argsL) (rest := rest) (lenOf hpd hlen) hst (by show 2 * 0 + _ ≤ _; omega) (hb B.2.1 hd) (fun _ _ => ⟨has, eT, hc, hs⟩)
  dsimp only [Pt.U, Pt.locs, Pt.cells, Pt.slots] at X' l' y' z' stp hQ
  subst l' y' z'
  obtain ⟨hC, hN, hK⟩ := hQ
  obtain ⟨t, o, q, r⟩ := k v T'.heap hK hC vm0 k0 T' _ X' hS (Nat.le_trans hk hK.1) (N.app fun u hu => (hN u hu).elim (fun q => hws _ q) fun q => Or.inr (Nat.le_trans (by rw [← eT]; exact B.size X) q)) rfl
  exact ⟨t, o, stp.trans q, r⟩
theorem BaseW.callV (B : BaseW p l e R s m args below meth c Z y bytes maxL ret h0 ws C) (pc' : Nat) (hp : pc' = pc + 3) (hd : decode bytes pc = .ok (.invokevirtual i, 3)) {CC : String}
    (w1 : (Cond.methodLink y.cls i z).before a0 Z = true) (w2 : (Cond.declares z).before a0 Z = true) (w5 : (Cond.selects CC z z).before a0 Z = true) (w6 : (Cond.instanceMethod z).before a0 Z = true) (w3 : (Cond.initialized z.cls).before a0 Z = true) (w4 : (Cond.code z cb cm cr).before a0 Z = true)
    (hz : z.cls ≠ "java/lang/invoke/MethodHandle" ∧ z.cls ≠ "java/lang/invoke/VarHandle") {a : Addr} (E : Exa Z h a CC) (argsL rest : List Value) (M : Met l Z z cb cm cr [] rm as h ws' C') (has : (.ref a :: argsL).toArray = as) (hst : st = argsL.reverse ++ .ref a :: rest) (hpd : parseMethodDescriptor z.desc = some ⟨ps, rt⟩) (hlen : argsL.length = ps.length) (hLs : Ls.size = maxL)
    (W : Nat) (hW : (rest.map fun v => v.category).sum = W) (hf : rm.frames + 1 ≤ R.frames) (hl : W + (cm + 11) + rm.locals ≤ R.locals) (hc : cl + rm.cells ≤ R.cells) (hs : sl + rm.slots ≤ R.slots) (hws : ∀ x ∈ ws', x ∈ ws ∨ h0.size ≤ x)
    (k : ∀ v h', Keep h h' ws' → C' v h' → B.G h' (cl + rm.cells) (sl + rm.slots) (mkF m pc' Ls (v.toList ++ rest))) : B.G h cl sl (mkF m pc Ls st) := fun vm0 k0 T locs X hS hk N eT => by
  have hZ := B.warm hS
  have hO := B.own hS
  subst hp
  obtain ⟨cq, kq, qa, qb, qc⟩ := isOf hZ eT E
  obtain ⟨v, _, ⟨T', L', k', n'⟩, -, X', ⟨Lc, hQ, l', y', z'⟩, stp⟩ := X.virtualBack B.1 (y := z) (z := z) hO (mvT hZ w1) (mvT hZ w2) (notFace_of_selects (args := args) (mvT hZ w5)) (mvT hZ w5) (mvT hZ w6) hz (backOf (W := W) M hZ w4 w3 hf hl) qa qc (g := mkF m pc Ls st) rfl (hLs.trans B.2.2.1.symm) (Steps.refl _) (argsL := argsL) (rest := rest) (lenOf hpd hlen) hst (by show 2 * 0 + _ ≤ _; omega) (hb B.2.1 hd) (fun _ _ => ⟨has, eT, hc, hs⟩)
  dsimp only [Pt.U, Pt.locs, Pt.cells, Pt.slots] at X' l' y' z' stp hQ
  subst l' y' z'
  obtain ⟨hC, hN, hK⟩ := hQ
  obtain ⟨t, o, q, r⟩ := k v T'.heap hK hC vm0 k0 T' _ X' hS (Nat.le_trans hk hK.1) (N.app fun u hu => (hN u hu).elim (fun q => hws _ q) fun q => Or.inr (Nat.le_trans (by rw [← eT]; exact B.size X) q)) rfl
  exact ⟨t, o, stp.trans q, r⟩
theorem BaseW.callVU (B : BaseW p l e R s m args below meth c Z y bytes maxL ret h0 ws C) (pc' : Nat) (hp : pc' = pc + 3) (hd : decode bytes pc = .ok (.invokevirtual i, 3)) {x : MethodName} {CC ow : String}
    (w1 : (Cond.methodLink y.cls i x).before a0 Z = true) (w0 : (Cond.sameMethod x.cls ow x.name x.desc).before a0 Z = true) (w2 : (Cond.declares ⟨ow, x.name, x.desc⟩).before a0 Z = true) (w5 : (Cond.selects CC x z).before a0 Z = true) (w6 : (Cond.instanceMethod z).before a0 Z = true) (w3 : (Cond.initialized z.cls).before a0 Z = true) (w4 : (Cond.code z cb cm cr).before a0 Z = true)
    (hz : ow ≠ "java/lang/invoke/MethodHandle" ∧ ow ≠ "java/lang/invoke/VarHandle") {a : Addr} (E : Exa Z h a CC) (argsL rest : List Value) (M : Met l Z z cb cm cr [] rm as h ws' C') (has : (.ref a :: argsL).toArray = as) (hst : st = argsL.reverse ++ .ref a :: rest) (hpd : parseMethodDescriptor x.desc = some ⟨ps, rt⟩) (hlen : argsL.length = ps.length) (hLs : Ls.size = maxL)
    (W : Nat) (hW : (rest.map fun v => v.category).sum = W) (hf : rm.frames + 1 ≤ R.frames) (hl : W + (cm + 11) + rm.locals ≤ R.locals) (hc : cl + rm.cells ≤ R.cells) (hs : sl + rm.slots ≤ R.slots) (hws : ∀ x ∈ ws', x ∈ ws ∨ h0.size ≤ x)
    (k : ∀ v h', Keep h h' ws' → C' v h' → B.G h' (cl + rm.cells) (sl + rm.slots) (mkF m pc' Ls (v.toList ++ rest))) : B.G h cl sl (mkF m pc Ls st) := fun vm0 k0 T locs X hS hk N eT => by
  have hZ := B.warm hS
  have hO := B.own hS
  subst hp
  obtain ⟨cq, kq, qa, qb, qc⟩ := isOf hZ eT E
  obtain ⟨v, _, ⟨T', L', k', n'⟩, -, X', ⟨Lc, hQ, l', y', z'⟩, stp⟩ := X.virtualBackUp B.1 (x := x) (y := z) hO (mvT hZ w1) (mvT hZ w0) (mvT hZ w2) hz (mvT hZ w5) (mvT hZ w6) (backOf (W := W) M hZ w4 w3 hf hl) qa qc (g := mkF m pc Ls st) rfl (hLs.trans B.2.2.1.symm) (Steps.refl _) (argsL := argsL) (rest := rest) (lenOf hpd hlen) hst (by show 2 * 0 + _ ≤ _; omega) (hb B.2.1 hd) (fun _ _ => ⟨has, eT, hc, hs⟩)
  dsimp only [Pt.U, Pt.locs, Pt.cells, Pt.slots] at X' l' y' z' stp hQ
  subst l' y' z'
  obtain ⟨hC, hN, hK⟩ := hQ
  obtain ⟨t, o, q, r⟩ := k v T'.heap hK hC vm0 k0 T' _ X' hS (Nat.le_trans hk hK.1) (N.app fun u hu => (hN u hu).elim (fun q => hws _ q) fun q => Or.inr (Nat.le_trans (by rw [← eT]; exact B.size X) q)) rfl
  exact ⟨t, o, stp.trans q, r⟩
theorem BaseW.callP (B : BaseW p l e R s m args below meth c Z y bytes maxL ret h0 ws C) (pc' : Nat) (hp : pc' = pc + 3) (hd : decode bytes pc = .ok (.invokevirtual i, 3)) {x : MethodName} {CC : String}
    (w1 : (Cond.methodLink y.cls i z).before a0 Z = true) (w7 : (Cond.privateMethod z).before a0 Z = true) (w6 : (Cond.instanceMethod z).before a0 Z = true) (w5 : (Cond.selects CC x x).before a0 Z = true) (hxc : x.cls = z.cls) (w3 : (Cond.initialized z.cls).before a0 Z = true) (w4 : (Cond.code z cb cm cr).before a0 Z = true)
    (hz : z.cls ≠ "java/lang/invoke/MethodHandle" ∧ z.cls ≠ "java/lang/invoke/VarHandle") {a : Addr} {CE : String} (E : Exa Z h a CE) (argsL rest : List Value) (M : Met l Z z cb cm cr [] rm as h ws' C') (has : (.ref a :: argsL).toArray = as) (hst : st = argsL.reverse ++ .ref a :: rest) (hpd : parseMethodDescriptor z.desc = some ⟨ps, rt⟩) (hlen : argsL.length = ps.length) (hLs : Ls.size = maxL)
    (W : Nat) (hW : (rest.map fun v => v.category).sum = W) (hf : rm.frames + 1 ≤ R.frames) (hl : W + (cm + 11) + rm.locals ≤ R.locals) (hc : cl + rm.cells ≤ R.cells) (hs : sl + rm.slots ≤ R.slots) (hws : ∀ x ∈ ws', x ∈ ws ∨ h0.size ≤ x)
    (k : ∀ v h', Keep h h' ws' → C' v h' → B.G h' (cl + rm.cells) (sl + rm.slots) (mkF m pc' Ls (v.toList ++ rest))) : B.G h cl sl (mkF m pc Ls st) := fun vm0 k0 T locs X hS hk N eT => by
  have hZ := B.warm hS
  have hO := B.own hS
  subst hp
  obtain ⟨cq, q1, q2⟩ := E.cell
  have hpr : (s.setVm vm0).PrivateAt z := Cond.privateMethod_at (mvP hZ w7 (args := args))
  have hi : (Cond.instanceMethod z).before args (s.setVm vm0) = true := mvT hZ w6
  have hsel : (Cond.selects z.cls z z).before args (s.setVm vm0) = true := by
    obtain ⟨c2, r2, m2, -, -, q3, -, kP, hkP, hkPi⟩ := Cond.selects_spec (mvT hZ w5 (args := args))
    have hc2 := findClass_of_methodNamed q3
    rw [hxc] at hc2
    exact selects_self_of_private hc2 hkP hkPi hpr hi hz
  obtain ⟨v, _, ⟨T', L', k', n'⟩, -, X', ⟨Lc, hQ, l', y', z'⟩, stp⟩ := X.privateBack B.1 (y := z) hO (mvT hZ w1) hi hsel hpr (mvT hZ w4) hz (backOf (W := W) M hZ w4 w3 hf hl) (g := mkF m pc Ls st) rfl (hLs.trans B.2.2.1.symm) (Steps.refl _) (a := a) (by rw [eT]; exact q1) q2 (argsL := argsL) (rest := rest) (lenOf hpd hlen) hst (by show 2 * 0 + _ ≤ _; omega) (hb B.2.1 hd) (fun _ _ => ⟨has, eT, hc, hs⟩)
  dsimp only [Pt.U, Pt.locs, Pt.cells, Pt.slots] at X' l' y' z' stp hQ
  subst l' y' z'
  obtain ⟨hC, hN, hK⟩ := hQ
  obtain ⟨t, o, q, r⟩ := k v T'.heap hK hC vm0 k0 T' _ X' hS (Nat.le_trans hk hK.1) (N.app fun u hu => (hN u hu).elim (fun q => hws _ q) fun q => Or.inr (Nat.le_trans (by rw [← eT]; exact B.size X) q)) rfl
  exact ⟨t, o, stp.trans q, r⟩
theorem BaseW.callSW (B : BaseW p l e R s m args below meth c Z y bytes maxL ret h0 ws C) (pc' : Nat) (hp : pc' = pc + 3) (hd : decode bytes pc = .ok (.invokestatic i, 3))
    (w1 : (Cond.methodLink y.cls i z).before a0 Z = true) (w2 : (Cond.static z).before a0 Z = true) (w3 : (Cond.initialized z.cls).before a0 Z = true) (w4 : (Cond.code z cb cm cr).before a0 Z = true)
    (hz : z.cls ≠ "java/lang/invoke/MethodHandle" ∧ z.cls ≠ "java/lang/invoke/VarHandle") (argsL rest : List Value) (M : MetW l Z z cb cm cr [] rm as h ws' C') (has : argsL.toArray = as) (hst : st = argsL.reverse ++ rest) (hpd : parseMethodDescriptor z.desc = some ⟨ps, rt⟩) (hlen : argsL.length = ps.length) (hLs : Ls.size = maxL)
    (W : Nat) (hW : (rest.map fun v => v.category).sum = W) (hf : rm.frames + 1 ≤ R.frames) (hl : W + (cm + 11) + rm.locals ≤ R.locals) (hc : cl + rm.cells ≤ R.cells) (hs : sl + rm.slots ≤ R.slots) (hws : ∀ x ∈ ws', x ∈ ws ∨ h0.size ≤ x)
    (k : ∀ v h', Keep h h' ws' → C' v h' → B.G h' (cl + rm.cells) (sl + rm.slots) (mkF m pc' Ls (v.toList ++ rest))) : B.G h cl sl (mkF m pc Ls st) := fun vm0 k0 T locs X hS hk N eT => by
  have hZ := B.warm hS
  have hO := B.own hS
  subst hp
  obtain ⟨v, _, ⟨T', L', k', n'⟩, -, X', hS2, hgr, ⟨Lc, hQ, l', y', z'⟩, stp⟩ := callSS X B.1 (y := z) hO (mvT hZ w1) (mvT hZ w2) (mvT hZ w3) (mvT hZ w4) hz (backOfS (W := W) M hZ w4 w3 hf hl) (g := mkF m pc Ls st) rfl (hLs.trans B.2.2.1.symm) (argsL := argsL) (rest := rest) (lenOf hpd hlen) hst (by show 2 * 0 + _ ≤ _; omega) (hb B.2.1 hd) (fun _ _ => ⟨has, eT, hc, hs⟩)
  dsimp only [Pt.U, Pt.locs, Pt.cells, Pt.slots] at X' hS2 hgr l' y' z' stp hQ
  subst l' y' z'
  obtain ⟨hC, hN, hK⟩ := hQ
  obtain ⟨t, o, q, r⟩ := k v T'.heap hK hC T'.vm T'.heap.size T' _ X' (hS.trans hS2 (Nat.le_trans hk (by rw [← eT]; exact hgr))) (Nat.le_refl _) (N.app fun u hu => (hN u hu).elim (fun q => hws _ q) fun q => Or.inr (Nat.le_trans (by rw [← eT]; exact B.size X) q)) rfl
  exact ⟨t, o, stp.trans q, r⟩
theorem BaseW.callIW (B : BaseW p l e R s m args below meth c Z y bytes maxL ret h0 ws C) (pc' : Nat) (hp : pc' = pc + 3) (hd : decode bytes pc = .ok (.invokespecial i, 3)) (hin : z.name = "<init>")
    (w1 : (Cond.methodLink y.cls i z).before a0 Z = true) (w2 : (Cond.instanceMethod z).before a0 Z = true) (w3 : (Cond.initialized z.cls).before a0 Z = true) (w4 : (Cond.code z cb cm none).before a0 Z = true)
    (hz : z.cls ≠ "java/lang/invoke/MethodHandle" ∧ z.cls ≠ "java/lang/invoke/VarHandle") {a : Addr} (argsL rest : List Value) (M : MetW l Z z cb cm none [] rm as h ws' C') (has : (.ref a :: argsL).toArray = as) (hst : st = argsL.reverse ++ .ref a :: rest) (hpd : parseMethodDescriptor z.desc = some ⟨ps, rt⟩) (hlen : argsL.length = ps.length) (hLs : Ls.size = maxL)
    (W : Nat) (hW : (rest.map fun v => v.category).sum = W) (hf : rm.frames + 1 ≤ R.frames) (hl : W + (cm + 11) + rm.locals ≤ R.locals) (hc : cl + rm.cells ≤ R.cells) (hs : sl + rm.slots ≤ R.slots) (hws : ∀ x ∈ ws', x ∈ ws ∨ h0.size ≤ x)
    (k : ∀ v h', Keep h h' ws' → C' v h' → B.G h' (cl + rm.cells) (sl + rm.slots) (mkF m pc' Ls (v.toList ++ rest))) : B.G h cl sl (mkF m pc Ls st) := fun vm0 k0 T locs X hS hk N eT => by
  have hZ := B.warm hS
  have hO := B.own hS
  subst hp
  obtain ⟨v, _, ⟨T', L', k', n'⟩, -, X', hS2, hgr, ⟨Lc, hQ, l', y', z'⟩, stp⟩ := X.specialBackS B.1 (y := z) hin hO (mvT hZ w1) (mvT hZ w2) (mvT hZ w4) hz (backOfS (W := W) M hZ w4 w3 hf hl) (g := mkF m pc Ls st) rfl (hLs.trans B.2.2.1.symm) (Steps.refl _) (a := a) (argsL := argsL) (rest := rest) (lenOf hpd hlen) hst (by show 2 * 0 + _ ≤ _; omega) (hb B.2.1 hd) (fun _ _ => ⟨has, eT, hc, hs⟩)
  dsimp only [Pt.U, Pt.locs, Pt.cells, Pt.slots] at X' hS2 hgr l' y' z' stp hQ
  subst l' y' z'
  obtain ⟨hC, hN, hK⟩ := hQ
  obtain ⟨t, o, q, r⟩ := k v T'.heap hK hC T'.vm T'.heap.size T' _ X' (hS.trans hS2 (Nat.le_trans hk (by rw [← eT]; exact hgr))) (Nat.le_refl _) (N.app fun u hu => (hN u hu).elim (fun q => hws _ q) fun q => Or.inr (Nat.le_trans (by rw [← eT]; exact B.size X) q)) rfl
  exact ⟨t, o, stp.trans q, r⟩
theorem BaseW.callVW (B : BaseW p l e R s m args below meth c Z y bytes maxL ret h0 ws C) (pc' : Nat) (hp : pc' = pc + 3) (hd : decode bytes pc = .ok (.invokevirtual i, 3)) {CC : String}
    (w1 : (Cond.methodLink y.cls i z).before a0 Z = true) (w2 : (Cond.declares z).before a0 Z = true) (w5 : (Cond.selects CC z z).before a0 Z = true) (w6 : (Cond.instanceMethod z).before a0 Z = true) (w3 : (Cond.initialized z.cls).before a0 Z = true) (w4 : (Cond.code z cb cm cr).before a0 Z = true)
    (hz : z.cls ≠ "java/lang/invoke/MethodHandle" ∧ z.cls ≠ "java/lang/invoke/VarHandle") {a : Addr} (E : Exa Z h a CC) (argsL rest : List Value) (M : MetW l Z z cb cm cr [] rm as h ws' C') (has : (.ref a :: argsL).toArray = as) (hst : st = argsL.reverse ++ .ref a :: rest) (hpd : parseMethodDescriptor z.desc = some ⟨ps, rt⟩) (hlen : argsL.length = ps.length) (hLs : Ls.size = maxL)
    (W : Nat) (hW : (rest.map fun v => v.category).sum = W) (hf : rm.frames + 1 ≤ R.frames) (hl : W + (cm + 11) + rm.locals ≤ R.locals) (hc : cl + rm.cells ≤ R.cells) (hs : sl + rm.slots ≤ R.slots) (hws : ∀ x ∈ ws', x ∈ ws ∨ h0.size ≤ x)
    (k : ∀ v h', Keep h h' ws' → C' v h' → B.G h' (cl + rm.cells) (sl + rm.slots) (mkF m pc' Ls (v.toList ++ rest))) : B.G h cl sl (mkF m pc Ls st) := fun vm0 k0 T locs X hS hk N eT => by
  have hZ := B.warm hS
  have hO := B.own hS
  subst hp
  obtain ⟨cq, kq, qa, qb, qc⟩ := isOf hZ eT E
  obtain ⟨v, _, ⟨T', L', k', n'⟩, -, X', hS2, hgr, ⟨Lc, hQ, l', y', z'⟩, stp⟩ := X.virtualBackS B.1 (y := z) (z := z) hO (mvT hZ w1) (mvT hZ w2) (notFace_of_selects (args := args) (mvT hZ w5)) (mvT hZ w5) (mvT hZ w6) hz (backOfS (W := W) M hZ w4 w3 hf hl) qa qc (g := mkF m pc Ls st) rfl (hLs.trans B.2.2.1.symm) (Steps.refl _) (argsL := argsL) (rest := rest) (lenOf hpd hlen) hst (by show 2 * 0 + _ ≤ _; omega) (hb B.2.1 hd) (fun _ _ => ⟨has, eT, hc, hs⟩)
  dsimp only [Pt.U, Pt.locs, Pt.cells, Pt.slots] at X' hS2 hgr l' y' z' stp hQ
  subst l' y' z'
  obtain ⟨hC, hN, hK⟩ := hQ
  obtain ⟨t, o, q, r⟩ := k v T'.heap hK hC T'.vm T'.heap.size T' _ X' (hS.trans hS2 (Nat.le_trans hk (by rw [← eT]; exact hgr))) (Nat.le_refl _) (N.app fun u hu => (hN u hu).elim (fun q => hws _ q) fun q => Or.inr (Nat.le_trans (by rw [← eT]; exact B.size X) q)) rfl
  exact ⟨t, o, stp.trans q, r⟩
theorem BaseW.callVUW (B : BaseW p l e R s m args below meth c Z y bytes maxL ret h0 ws C) (pc' : Nat) (hp : pc' = pc + 3) (hd : decode bytes pc = .ok (.invokevirtual i, 3)) {x : MethodName} {CC ow : String}
    (w1 : (Cond.methodLink y.cls i x).before a0 Z = true) (w0 : (Cond.sameMethod x.cls ow x.name x.desc).before a0 Z = true) (w2 : (Cond.declares ⟨ow, x.name, x.desc⟩).before a0 Z = true) (w5 : (Cond.selects CC x z).before a0 Z = true) (w6 : (Cond.instanceMethod z).before a0 Z = true) (w3 : (Cond.initialized z.cls).before a0 Z = true) (w4 : (Cond.code z cb cm cr).before a0 Z = true)
    (hz : ow ≠ "java/lang/invoke/MethodHandle" ∧ ow ≠ "java/lang/invoke/VarHandle") {a : Addr} (E : Exa Z h a CC) (argsL rest : List Value) (M : MetW l Z z cb cm cr [] rm as h ws' C') (has : (.ref a :: argsL).toArray = as) (hst : st = argsL.reverse ++ .ref a :: rest) (hpd : parseMethodDescriptor x.desc = some ⟨ps, rt⟩) (hlen : argsL.length = ps.length) (hLs : Ls.size = maxL)
    (W : Nat) (hW : (rest.map fun v => v.category).sum = W) (hf : rm.frames + 1 ≤ R.frames) (hl : W + (cm + 11) + rm.locals ≤ R.locals) (hc : cl + rm.cells ≤ R.cells) (hs : sl + rm.slots ≤ R.slots) (hws : ∀ x ∈ ws', x ∈ ws ∨ h0.size ≤ x)
    (k : ∀ v h', Keep h h' ws' → C' v h' → B.G h' (cl + rm.cells) (sl + rm.slots) (mkF m pc' Ls (v.toList ++ rest))) : B.G h cl sl (mkF m pc Ls st) := fun vm0 k0 T locs X hS hk N eT => by
  have hZ := B.warm hS
  have hO := B.own hS
  subst hp
  obtain ⟨cq, kq, qa, qb, qc⟩ := isOf hZ eT E
  obtain ⟨v, _, ⟨T', L', k', n'⟩, -, X', hS2, hgr, ⟨Lc, hQ, l', y', z'⟩, stp⟩ := virtualBackUpS X B.1 (x := x) (y := z) hO (mvT hZ w1) (mvT hZ w0) (mvT hZ w2) hz (mvT hZ w5) (mvT hZ w6) (backOfS (W := W) M hZ w4 w3 hf hl) qa qc (g := mkF m pc Ls st) rfl (hLs.trans B.2.2.1.symm) (Steps.refl _) (argsL := argsL) (rest := rest) (lenOf hpd hlen) hst (by show 2 * 0 + _ ≤ _; omega) (hb B.2.1 hd) (fun _ _ => ⟨has, eT, hc, hs⟩)
  dsimp only [Pt.U, Pt.locs, Pt.cells, Pt.slots] at X' hS2 hgr l' y' z' stp hQ
  subst l' y' z'
  obtain ⟨hC, hN, hK⟩ := hQ
  obtain ⟨t, o, q, r⟩ := k v T'.heap hK hC T'.vm T'.heap.size T' _ X' (hS.trans hS2 (Nat.le_trans hk (by rw [← eT]; exact hgr))) (Nat.le_refl _) (N.app fun u hu => (hN u hu).elim (fun q => hws _ q) fun q => Or.inr (Nat.le_trans (by rw [← eT]; exact B.size X) q)) rfl
  exact ⟨t, o, stp.trans q, r⟩
theorem BaseW.callPW (B : BaseW p l e R s m args below meth c Z y bytes maxL ret h0 ws C) (pc' : Nat) (hp : pc' = pc + 3) (hd : decode bytes pc = .ok (.invokevirtual i, 3)) {x : MethodName} {CC : String}
    (w1 : (Cond.methodLink y.cls i z).before a0 Z = true) (w7 : (Cond.privateMethod z).before a0 Z = true) (w6 : (Cond.instanceMethod z).before a0 Z = true) (w5 : (Cond.selects CC x x).before a0 Z = true) (hxc : x.cls = z.cls) (w3 : (Cond.initialized z.cls).before a0 Z = true) (w4 : (Cond.code z cb cm cr).before a0 Z = true)
    (hz : z.cls ≠ "java/lang/invoke/MethodHandle" ∧ z.cls ≠ "java/lang/invoke/VarHandle") {a : Addr} {CE : String} (E : Exa Z h a CE) (argsL rest : List Value) (M : MetW l Z z cb cm cr [] rm as h ws' C') (has : (.ref a :: argsL).toArray = as) (hst : st = argsL.reverse ++ .ref a :: rest) (hpd : parseMethodDescriptor z.desc = some ⟨ps, rt⟩) (hlen : argsL.length = ps.length) (hLs : Ls.size = maxL)
    (W : Nat) (hW : (rest.map fun v => v.category).sum = W) (hf : rm.frames + 1 ≤ R.frames) (hl : W + (cm + 11) + rm.locals ≤ R.locals) (hc : cl + rm.cells ≤ R.cells) (hs : sl + rm.slots ≤ R.slots) (hws : ∀ x ∈ ws', x ∈ ws ∨ h0.size ≤ x)
    (k : ∀ v h', Keep h h' ws' → C' v h' → B.G h' (cl + rm.cells) (sl + rm.slots) (mkF m pc' Ls (v.toList ++ rest))) : B.G h cl sl (mkF m pc Ls st) := fun vm0 k0 T locs X hS hk N eT => by
  have hZ := B.warm hS
  have hO := B.own hS
  subst hp
  obtain ⟨cq, q1, q2⟩ := E.cell
  have hpr : (s.setVm vm0).PrivateAt z := Cond.privateMethod_at (mvP hZ w7 (args := args))
  have hi : (Cond.instanceMethod z).before args (s.setVm vm0) = true := mvT hZ w6
  have hsel : (Cond.selects z.cls z z).before args (s.setVm vm0) = true := by
    obtain ⟨c2, r2, m2, -, -, q3, -, kP, hkP, hkPi⟩ := Cond.selects_spec (mvT hZ w5 (args := args))
    have hc2 := findClass_of_methodNamed q3
    rw [hxc] at hc2
    exact selects_self_of_private hc2 hkP hkPi hpr hi hz
  obtain ⟨v, _, ⟨T', L', k', n'⟩, -, X', hS2, hgr, ⟨Lc, hQ, l', y', z'⟩, stp⟩ := privateBackS X B.1 (y := z) hO (mvT hZ w1) hi hsel hpr (mvT hZ w4) hz (backOfS (W := W) M hZ w4 w3 hf hl) (g := mkF m pc Ls st) rfl (hLs.trans B.2.2.1.symm) (Steps.refl _) (a := a) (by rw [eT]; exact q1) q2 (argsL := argsL) (rest := rest) (lenOf hpd hlen) hst (by show 2 * 0 + _ ≤ _; omega) (hb B.2.1 hd) (fun _ _ => ⟨has, eT, hc, hs⟩)
  dsimp only [Pt.U, Pt.locs, Pt.cells, Pt.slots] at X' hS2 hgr l' y' z' stp hQ
  subst l' y' z'
  obtain ⟨hC, hN, hK⟩ := hQ
  obtain ⟨t, o, q, r⟩ := k v T'.heap hK hC T'.vm T'.heap.size T' _ X' (hS.trans hS2 (Nat.le_trans hk (by rw [← eT]; exact hgr))) (Nat.le_refl _) (N.app fun u hu => (hN u hu).elim (fun q => hws _ q) fun q => Or.inr (Nat.le_trans (by rw [← eT]; exact B.size X) q)) rfl
  exact ⟨t, o, stp.trans q, r⟩
end Calls
end Walk
/-! 3b. arrays: 'Ary': the array at a holds just the list vs -/
section Arrays
variable {p : Program} {l : Launch} {e : Env} {R : Room} {s : State} {m : MethodId} {args : Array Value} {below : List Frame} {meth : Method} {c : Code} {Z : State} {a0 : Array Value} {y : MethodName} {bytes : ByteArray} {maxL : Nat} {ret : Option FieldType} {h0 : Heap} {ws : List Addr} {C : Option Value → Heap → Prop}
variable {h h' : Heap} {cl sl : Nat} {g g' : JFrame} {pc : Nat} {Ls : Array Slot} {st : List Value} {a b : Addr} {ty : FieldType} {vs : List Value} {j : Int32} {i : Nat} {v w : Value} {wl : List Addr}
theorem BaseW.arrlen (B : BaseW p l e R s m args below meth c Z y bytes maxL ret h0 ws C) (pc' : Nat) (hp : pc' = pc + 1) (hd : decode bytes pc = .ok (.arraylength, 1)) (A : Ary Z h a ty vs) (n : Int32) (hn : vs.length.toInt32 = n) (k : B.G h cl sl (mkF m pc' Ls (.int n :: st))) : B.G h cl sl (mkF m pc Ls (.ref a :: st)) := by
  subst hp hn
  obtain ⟨c1, A, rfl⟩ := A
  rw [Array.length_toList] at k
  exact B.viaX (fun vm0 hZ hO T t L X eT r => X.arraylength (g := mkF m pc Ls (.ref a :: st)) B.1 (by rw [eT]; exact A.1) (State.isArrayOf_alike (T := s.setVm vm0) hZ.alike A.2.1) rfl rfl (hb B.2.1 hd) t r) k
theorem BaseW.baload (B : BaseW p l e R s m args below meth c Z y bytes maxL ret h0 ws C) (pc' : Nat) (hp : pc' = pc + 1) (hd : decode bytes pc = .ok (.baload, 1)) (A : Ary Z h a .byte vs) (hj : ¬ j < 0) (i : Nat) (hi : j.toNatClampNeg = i) (v : Value) (hv : vs[i]? = some v) (k : B.G h cl sl (mkF m pc' Ls (v :: st))) : B.G h cl sl (mkF m pc Ls (.int j :: .ref a :: st)) := by
  subst hp
  obtain ⟨c1, A, r⟩ := A
  obtain ⟨q1, q2⟩ := ary_in r hj hi hv
  exact B.viaX (fun vm0 hZ hO T t L X eT r => X.baloadBytes (g := mkF m pc Ls (.int j :: .ref a :: st)) B.1 (by rw [eT]; exact A.1) (State.isArrayOf_alike (T := s.setVm vm0) hZ.alike A.2.1) A.2.2 q1 q2 rfl rfl (hb B.2.1 hd) t r) k
theorem BaseW.iaload (B : BaseW p l e R s m args below meth c Z y bytes maxL ret h0 ws C) (pc' : Nat) (hp : pc' = pc + 1) (hd : decode bytes pc = .ok (.iaload, 1)) (A : Ary Z h a .int vs) (hj : ¬ j < 0) (i : Nat) (hi : j.toNatClampNeg = i) (v : Value) (hv : vs[i]? = some v) (k : B.G h cl sl (mkF m pc' Ls (v :: st))) : B.G h cl sl (mkF m pc Ls (.int j :: .ref a :: st)) := by
  subst hp
  obtain ⟨c1, A, r⟩ := A
  obtain ⟨q1, q2⟩ := ary_in r hj hi hv
  exact B.viaX (fun vm0 hZ hO T t L X eT r => X.iaload (g := mkF m pc Ls (.int j :: .ref a :: st)) B.1 (by rw [eT]; exact A.1) (State.isArrayOf_alike (T := s.setVm vm0) hZ.alike A.2.1) A.2.2 q1 q2 rfl rfl (hb B.2.1 hd) t r) k
theorem BaseW.laload (B : BaseW p l e R s m args below meth c Z y bytes maxL ret h0 ws C) (pc' : Nat) (hp : pc' = pc + 1) (hd : decode bytes pc = .ok (.laload, 1)) (A : Ary Z h a .long vs) (hj : ¬ j < 0) (i : Nat) (hi : j.toNatClampNeg = i) (v : Value) (hv : vs[i]? = some v) (k : B.G h cl sl (mkF m pc' Ls (v :: st))) : B.G h cl sl (mkF m pc Ls (.int j :: .ref a :: st)) := by
  subst hp
  obtain ⟨c1, A, r⟩ := A
  obtain ⟨q1, q2⟩ := ary_in r hj hi hv
  exact B.viaX (fun vm0 hZ hO T t L X eT r => X.laload (g := mkF m pc Ls (.int j :: .ref a :: st)) B.1 (by rw [eT]; exact A.1) (State.isArrayOf_alike (T := s.setVm vm0) hZ.alike A.2.1) A.2.2 q1 q2 rfl rfl (hb B.2.1 hd) t r) k
theorem BaseW.newP (B : BaseW p l e R s m args below meth c Z y bytes maxL ret h0 ws C) (pc' : Nat) (hp : pc' = pc + 2) {aty : ArrayType} (hd : decode bytes pc = .ok (.newarray aty, 2)) (w : (Cond.arrayClass (newarray.typeOf aty)).before a0 Z = true) {n : Int32} (hn : ¬ n < 0) (cap : Nat) (hcap : n.toNatClampNeg ≤ cap) (hb' : cap * 8 ≤ 536870912) (hc : cl + 1 ≤ R.cells) (hs : sl + cap ≤ R.slots)
    (k : ∀ h' a, a = h.size → h0.size ≤ a → Ext h h' → Ary Z h' a (newarray.typeOf aty) (List.replicate n.toNatClampNeg (defaultValue (newarray.typeOf aty))) → B.G h' (cl + 1) (sl + cap) (mkF m pc' Ls (.ref a :: st))) : B.G h cl sl (mkF m pc Ls (.int n :: st)) := fun vm0 k0 T locs X hS hk N eT => by
  have hZ := B.warm hS
  have hO := B.own hS
  subst hp
  obtain ⟨T', h', cA, X', e', E, A, stp⟩ := Jvm.RoadKit.newP X B.1 hZ w eT (g := mkF m pc Ls (.int n :: st)) rfl (hb B.2.1 hd) rfl hn hcap hb' hc hs
  obtain ⟨t, o, q, r⟩ := k h' _ rfl (by rw [← eT]; exact B.size X) E (Ary.new A) vm0 k0 T' locs X' hS (Nat.le_trans hk E.1) N e'
  exact ⟨t, o, stp _ q, r⟩
theorem BaseW.bastore (B : BaseW p l e R s m args below meth c Z y bytes maxL ret h0 ws C) (pc' : Nat) (hp : pc' = pc + 1) (hd : decode bytes pc = .ok (.bastore, 1)) (A : Ary Z h a .byte vs) (hj : ¬ j < 0) (i : Nat) (hi : j.toNatClampNeg = i) (hlt : i < vs.length) (hw : a ∈ ws ∨ h0.size ≤ a) {x : Int32} (k : ∀ h', Wr h h' a i (.int x.toInt8.toInt32) → Ary Z h' a .byte (vs.set i (.int x.toInt8.toInt32)) → B.G h' cl sl (mkF m pc' Ls st)) : B.G h cl sl (mkF m pc Ls (.int x :: .int j :: .ref a :: st)) := fun vm0 k0 T locs X hS hk N eT => by
  have hZ := B.warm hS
  have hO := B.own hS
  subst hp
  obtain ⟨c1, A1, r1⟩ := A
  obtain ⟨T', h', X', e', W, stp⟩ := stB X B.1 hZ eT A1 (ary_lt r1 hj hi hlt) (g := mkF m pc Ls (.int x :: .int j :: .ref a :: st)) rfl rfl (hb B.2.1 hd)
  rw [hi] at W
  obtain ⟨t, o, q, r⟩ := k h' W (Ary.set ⟨c1, A1, r1⟩ W) vm0 k0 T' _ X' hS (by rw [W.size]; exact hk) (N.one hw) e'
  exact ⟨t, o, stp _ q, r⟩
theorem BaseW.iastore (B : BaseW p l e R s m args below meth c Z y bytes maxL ret h0 ws C) (pc' : Nat) (hp : pc' = pc + 1) (hd : decode bytes pc = .ok (.iastore, 1)) (A : Ary Z h a .int vs) (hj : ¬ j < 0) (i : Nat) (hi : j.toNatClampNeg = i) (hlt : i < vs.length) (hw : a ∈ ws ∨ h0.size ≤ a) {x : Int32} (k : ∀ h', Wr h h' a i (.int x) → Ary Z h' a .int (vs.set i (.int x)) → B.G h' cl sl (mkF m pc' Ls st)) : B.G h cl sl (mkF m pc Ls (.int x :: .int j :: .ref a :: st)) := fun vm0 k0 T locs X hS hk N eT => by
  have hZ := B.warm hS
  have hO := B.own hS
  subst hp
  obtain ⟨c1, A1, r1⟩ := A
  obtain ⟨T', h', X', e', W, stp⟩ := stI X B.1 hZ eT A1 (ary_lt r1 hj hi hlt) (g := mkF m pc Ls (.int x :: .int j :: .ref a :: st)) rfl rfl (hb B.2.1 hd)
  rw [hi] at W
  obtain ⟨t, o, q, r⟩ := k h' W (Ary.set ⟨c1, A1, r1⟩ W) vm0 k0 T' _ X' hS (by rw [W.size]; exact hk) (N.one hw) e'
  exact ⟨t, o, stp _ q, r⟩
theorem BaseW.lastore (B : BaseW p l e R s m args below meth c Z y bytes maxL ret h0 ws C) (pc' : Nat) (hp : pc' = pc + 1) (hd : decode bytes pc = .ok (.lastore, 1)) (A : Ary Z h a .long vs) (hj : ¬ j < 0) (i : Nat) (hi : j.toNatClampNeg = i) (hlt : i < vs.length) (hw : a ∈ ws ∨ h0.size ≤ a) {x : Int64} (k : ∀ h', Wr h h' a i (.long x) → Ary Z h' a .long (vs.set i (.long x)) → B.G h' cl sl (mkF m pc' Ls st)) : B.G h cl sl (mkF m pc Ls (.long x :: .int j :: .ref a :: st)) := fun vm0 k0 T locs X hS hk N eT => by
  have hZ := B.warm hS
  have hO := B.own hS
  subst hp
  obtain ⟨c1, A1, r1⟩ := A
  obtain ⟨T', h', X', e', W, stp⟩ := stJ X B.1 hZ eT A1 (ary_lt r1 hj hi hlt) (g := mkF m pc Ls (.long x :: .int j :: .ref a :: st)) rfl rfl (hb B.2.1 hd)
  rw [hi] at W
  obtain ⟨t, o, q, r⟩ := k h' W (Ary.set ⟨c1, A1, r1⟩ W) vm0 k0 T' _ X' hS (by rw [W.size]; exact hk) (N.one hw) e'
  exact ⟨t, o, stp _ q, r⟩
theorem BaseW.caload (B : BaseW p l e R s m args below meth c Z y bytes maxL ret h0 ws C) (pc' : Nat) (hp : pc' = pc + 1) (hd : decode bytes pc = .ok (.caload, 1)) (A : Ary Z h a .char vs) (hj : ¬ j < 0) (i : Nat) (hi : j.toNatClampNeg = i) (v : Value) (hv : vs[i]? = some v) (k : B.G h cl sl (mkF m pc' Ls (v :: st))) : B.G h cl sl (mkF m pc Ls (.int j :: .ref a :: st)) := by
  subst hp
  obtain ⟨c1, A, r⟩ := A
  obtain ⟨q1, q2⟩ := ary_in r hj hi hv
  exact B.viaX (fun vm0 hZ hO T t L X eT r => X.caload (g := mkF m pc Ls (.int j :: .ref a :: st)) B.1 (by rw [eT]; exact A.1) (State.isArrayOf_alike (T := s.setVm vm0) hZ.alike A.2.1) A.2.2 q1 q2 rfl rfl (hb B.2.1 hd) t r) k
theorem BaseW.castore (B : BaseW p l e R s m args below meth c Z y bytes maxL ret h0 ws C) (pc' : Nat) (hp : pc' = pc + 1) (hd : decode bytes pc = .ok (.castore, 1)) (A : Ary Z h a .char vs) (hj : ¬ j < 0) (i : Nat) (hi : j.toNatClampNeg = i) (hlt : i < vs.length) (hw : a ∈ ws ∨ h0.size ≤ a) {x : Int32} (k : ∀ h', Wr h h' a i (.int x.toUInt32.toUInt16.toUInt32.toInt32) → Ary Z h' a .char (vs.set i (.int x.toUInt32.toUInt16.toUInt32.toInt32)) → B.G h' cl sl (mkF m pc' Ls st)) : B.G h cl sl (mkF m pc Ls (.int x :: .int j :: .ref a :: st)) := fun vm0 k0 T locs X hS hk N eT => by
  have hZ := B.warm hS
  have hO := B.own hS
  subst hp
  obtain ⟨c1, A1, r1⟩ := A
  obtain ⟨T', h', X', e', W, stp⟩ := stC X B.1 hZ eT A1 (ary_lt r1 hj hi hlt) (g := mkF m pc Ls (.int x :: .int j :: .ref a :: st)) rfl rfl (hb B.2.1 hd)
  rw [hi] at W
  obtain ⟨t, o, q, r⟩ := k h' W (Ary.set ⟨c1, A1, r1⟩ W) vm0 k0 T' _ X' hS (by rw [W.size]; exact hk) (N.one hw) e'
  exact ⟨t, o, stp _ q, r⟩
theorem BaseW.newPE (B : BaseW p l e R s m args below meth c Z y bytes maxL ret h0 ws C) (pc' : Nat) (hp : pc' = pc + 2) {aty : ArrayType} (hd : decode bytes pc = .ok (.newarray aty, 2)) (w : (Cond.arrayClass (newarray.typeOf aty)).before a0 Z = true) {n : Int32} (hn : ¬ n < 0) (cap : Nat) (hcap : n.toNatClampNeg ≤ cap) (hb' : cap * 8 ≤ 536870912) (hc : cl + 1 ≤ R.cells) (hs : sl + cap ≤ R.slots) (ad : String) (had : "[" ++ (newarray.typeOf aty).toString = ad)
    (k : ∀ h' a, a = h.size → h0.size ≤ a → Ext h h' → Ary Z h' a (newarray.typeOf aty) (List.replicate n.toNatClampNeg (defaultValue (newarray.typeOf aty))) → Exa Z h' a ad → B.G h' (cl + 1) (sl + cap) (mkF m pc' Ls (.ref a :: st))) : B.G h cl sl (mkF m pc Ls (.int n :: st)) := fun vm0 k0 T locs X hS hk N eT => by
  have hZ := B.warm hS
  have hO := B.own hS
  subst hp
  obtain ⟨T', h', cA, X', e', E, A, A2, stp⟩ := Jvm.RoadKit.newPE X B.1 hZ w eT (g := mkF m pc Ls (.int n :: st)) rfl (hb B.2.1 hd) rfl hn hcap hb' hc hs had
  obtain ⟨t, o, q, r⟩ := k h' _ rfl (by rw [← eT]; exact B.size X) E (Ary.new A) A2 vm0 k0 T' locs X' hS (Nat.le_trans hk E.1) N e'
  exact ⟨t, o, stp _ q, r⟩
theorem BaseW.clone (B : BaseW p l e R s m args below meth c Z y bytes maxL ret h0 ws C) (pc' : Nat) (hp : pc' = pc + 3) {ix : Nat} {ad : String} (hd : decode bytes pc = .ok (.invokevirtual ix, 3))
    (w1 : (Cond.methodLink y.cls ix ⟨ad, "clone", "()Ljava/lang/Object;"⟩).before a0 Z = true) (w2 : (Cond.sameMethod ad "java/lang/Object" "clone" "()Ljava/lang/Object;").before a0 Z = true) (w3 : (Cond.native ⟨"java/lang/Object", "clone", "()Ljava/lang/Object;"⟩).before a0 Z = true)
    (w4 : (Cond.instanceMethod ⟨"java/lang/Object", "clone", "()Ljava/lang/Object;"⟩).before a0 Z = true) (w5 : (Cond.selects ad ⟨ad, "clone", "()Ljava/lang/Object;"⟩ ⟨"java/lang/Object", "clone", "()Ljava/lang/Object;"⟩).before a0 Z = true) (w6 : (Cond.castable ad "java/lang/Cloneable").before a0 Z = true)
    (A : Ary Z h a ty vs) (E : Exa Z h a ad) (hfit : ∀ v ∈ vs, fits ty v = true) (hLs : Ls.size = maxL) (W : Nat) (hW : (st.map fun v => v.category).sum = W) (hf : 1 ≤ R.frames) (hl : W + 14 ≤ R.locals) (cap : Nat) (hcap : vs.length ≤ cap) (hc : cl + 1 ≤ R.cells) (hs : sl + cap ≤ R.slots)
    (k : ∀ h' b, b = h.size → h0.size ≤ b → Ext h h' → Ary Z h' b ty vs → Exa Z h' b ad → B.G h' (cl + 1) (sl + cap) (mkF m pc' Ls (.ref b :: st))) : B.G h cl sl (mkF m pc Ls (.ref a :: st)) := fun vm0 k0 T locs X hS hk N eT => by
  have hZ := B.warm hS
  have hO := B.own hS
  subst hp
  obtain ⟨c1, A1, r1⟩ := A
  have FC : FitC Z c1 := fitC_of A1 fun i hi v hv => hfit v (by rw [← r1]; exact Array.mem_toList_iff.mpr (Array.mem_of_getElem? hv))
  obtain ⟨T', h', X', e', ex, A', E', stp⟩ := cloneA X B.1 hZ hO w1 w2 w3 w4 w5 w6 eT A1 E FC (g := mkF m pc Ls (.ref a :: st)) rfl (hLs.trans B.2.2.1.symm) rfl (hb B.2.1 hd) hf (W := W) (cap := cap) (by show 2 * 0 + _ ≤ _; omega) hl (by rw [← r1, Array.length_toList] at hcap; exact hcap) hc hs
  obtain ⟨t, o, q, r⟩ := k h' _ rfl (by rw [← eT]; exact B.size X) ex ⟨_, A', r1⟩ E' vm0 k0 T' locs X' hS (Nat.le_trans hk ex.1) N e'
  exact ⟨t, o, stp _ q, r⟩
theorem BaseW.castY (B : BaseW p l e R s m args below meth c Z y bytes maxL ret h0 ws C) (pc' : Nat) (hp : pc' = pc + 3) {ix : Nat} {K : String} (hd : decode bytes pc = .ok (.checkcast ix, 3)) (w : (Cond.classLink y.cls ix K).before a0 Z = true) (F : Ins Z h a K true) (k : B.G h cl sl (mkF m pc' Ls (.ref a :: st))) : B.G h cl sl (mkF m pc Ls (.ref a :: st)) := fun vm0 k0 T locs X hS hk N eT => by
  have hZ := B.warm hS
  have hO := B.own hS
  subst hp
  obtain ⟨T', X', e', stp⟩ := Jvm.RoadKit.castY X B.1 hZ hO w eT F (g := mkF m pc Ls (.ref a :: st)) rfl rfl (hb B.2.1 hd)
  obtain ⟨t, o, q, r⟩ := k vm0 k0 T' locs X' hS hk N e'
  exact ⟨t, o, stp _ q, r⟩
theorem BaseW.instY (B : BaseW p l e R s m args below meth c Z y bytes maxL ret h0 ws C) (pc' : Nat) (hp : pc' = pc + 3) {ix : Nat} {K : String} (hd : decode bytes pc = .ok (.instanceof ix, 3)) (w : (Cond.classLink y.cls ix K).before a0 Z = true) (F : Ins Z h a K true) (k : B.G h cl sl (mkF m pc' Ls (.int 1 :: st))) : B.G h cl sl (mkF m pc Ls (.ref a :: st)) := fun vm0 k0 T locs X hS hk N eT => by
  have hZ := B.warm hS
  have hO := B.own hS
  subst hp
  obtain ⟨T', X', e', stp⟩ := Jvm.RoadKit.instY X B.1 hZ hO w eT F (g := mkF m pc Ls (.ref a :: st)) rfl rfl (hb B.2.1 hd)
  obtain ⟨t, o, q, r⟩ := k vm0 k0 T' locs X' hS hk N e'
  exact ⟨t, o, stp _ q, r⟩
theorem BaseW.instN (B : BaseW p l e R s m args below meth c Z y bytes maxL ret h0 ws C) (pc' : Nat) (hp : pc' = pc + 3) {ix : Nat} {K CC : String} (hd : decode bytes pc = .ok (.instanceof ix, 3)) (w : (Cond.classLink y.cls ix K).before a0 Z = true) (E : Exa Z h a CC) (F : ∃ c t, Z.vm.findClass CC = some c ∧ Z.vm.findClass K = some t ∧ Z.vm.assignable c t = false) (k : B.G h cl sl (mkF m pc' Ls (.int 0 :: st))) : B.G h cl sl (mkF m pc Ls (.ref a :: st)) := fun vm0 k0 T locs X hS hk N eT => by
  have hZ := B.warm hS
  have hO := B.own hS
  subst hp
  obtain ⟨T', X', e', stp⟩ := instNo X B.1 hZ hO w eT E F (g := mkF m pc Ls (.ref a :: st)) rfl rfl (hb B.2.1 hd)
  obtain ⟨t, o, q, r⟩ := k vm0 k0 T' locs X' hS hk N e'
  exact ⟨t, o, stp _ q, r⟩
theorem BaseW.inst0 (B : BaseW p l e R s m args below meth c Z y bytes maxL ret h0 ws C) (pc' : Nat) (hp : pc' = pc + 3) {ix : Nat} (hd : decode bytes pc = .ok (.instanceof ix, 3)) (k : B.G h cl sl (mkF m pc' Ls (.int 0 :: st))) : B.G h cl sl (mkF m pc Ls (.null :: st)) := by
  subst hp
  exact B.viaX (fun vm0 hZ hO T t L X eT r => X.instanceofNull B.1 (g := mkF m pc Ls (.null :: st)) rfl rfl (hb B.2.1 hd) t r) k
theorem BaseW.aaload (B : BaseW p l e R s m args below meth c Z y bytes maxL ret h0 ws C) (pc' : Nat) (hp : pc' = pc + 1) (hd : decode bytes pc = .ok (.aaload, 1)) (A : Ary Z h a ty vs) (hty : ty.isReference = true) (hj : ¬ j < 0) (i : Nat) (hi : j.toNatClampNeg = i) (v : Value) (hv : vs[i]? = some v) (k : B.G h cl sl (mkF m pc' Ls (v :: st))) : B.G h cl sl (mkF m pc Ls (.int j :: .ref a :: st)) := by
  subst hp
  obtain ⟨c1, A, r⟩ := A
  obtain ⟨q1, q2⟩ := ary_in r hj hi hv
  exact B.viaX (fun vm0 hZ hO T t L X eT r => X.aaload (g := mkF m pc Ls (.int j :: .ref a :: st)) B.1 (by rw [eT]; exact A.1) (State.isArrayOf_alike (T := s.setVm vm0) hZ.alike A.2.1) hty A.2.2 q1 q2 rfl rfl (hb B.2.1 hd) t r) k
end Arrays
end Jvm.Own
namespace Jvm.Pilot.@@N@@
open Jvm Jvm.ClassFile Sem Op Lib Jvm.Free Jvm.Stand Jvm.LawKit Jvm.RoadKit Jvm.Own Bundle Jvm.Pilot.@@N@@.Jvm.D
theorem own_strs : ∀ d ∈ Bundle.stringAtoms, d ∈ tables_1 := by decide +kernel
theorem pd__II_I : parseMethodDescriptor "(II)I" = some ⟨[.int, .int], some .int⟩ := by decide +kernel
theorem pd__II_V : parseMethodDescriptor "(II)V" = some ⟨[.int, .int], none⟩ := by decide +kernel
theorem pd__ILjava_lang_String__I : parseMethodDescriptor "(ILjava/lang/String;)I" = some ⟨[.int, (.object "java/lang/String")], some .int⟩ := by decide +kernel
theorem pd__ILjava_lang_String__Lio_keyvouch_der_DerReader_ : parseMethodDescriptor "(ILjava/lang/String;)Lio/keyvouch/der/DerReader;" = some ⟨[.int, (.object "java/lang/String")], some (.object "io/keyvouch/der/DerReader")⟩ := by decide +kernel
theorem pd__I_Lio_keyvouch_der_DerReader_ : parseMethodDescriptor "(I)Lio/keyvouch/der/DerReader;" = some ⟨[.int], some (.object "io/keyvouch/der/DerReader")⟩ := by decide +kernel
theorem pd__Ljava_lang_String_I_I : parseMethodDescriptor "(Ljava/lang/String;I)I" = some ⟨[(.object "java/lang/String"), .int], some .int⟩ := by decide +kernel
theorem pd__Ljava_lang_String_I_J : parseMethodDescriptor "(Ljava/lang/String;I)J" = some ⟨[(.object "java/lang/String"), .int], some .long⟩ := by decide +kernel
theorem pd__Ljava_lang_String__I : parseMethodDescriptor "(Ljava/lang/String;)I" = some ⟨[(.object "java/lang/String")], some .int⟩ := by decide +kernel
theorem pd___BII_V : parseMethodDescriptor "([BII)V" = some ⟨[(.array .byte), .int, .int], none⟩ := by decide +kernel
theorem pd___B_V : parseMethodDescriptor "([B)V" = some ⟨[(.array .byte)], none⟩ := by decide +kernel
theorem pd___Lio_keyvouch_der_DerReader_ : parseMethodDescriptor "()Lio/keyvouch/der/DerReader;" = some ⟨[], some (.object "io/keyvouch/der/DerReader")⟩ := by decide +kernel
theorem pd___V : parseMethodDescriptor "()V" = some ⟨[], none⟩ := by decide +kernel
theorem pd___Z : parseMethodDescriptor "()Z" = some ⟨[], some .boolean⟩ := by decide +kernel
def own_min (x y : Int32) : Int32 := if y < x then y else x
theorem own_3 (x : Int32) : (x &&& 2147483647) % 3 = 0 ∨ (x &&& 2147483647) % 3 = 1 ∨ (x &&& 2147483647) % 3 = 2 := by
  have h1 := (c_andS x 2147483647).2.2 (by decide)
  have h2 : ((x &&& 2147483647) % 3).toInt = (x &&& 2147483647).toInt % 3 := by rw [Int32.toInt_mod]; exact Int.tmod_eq_emod_of_nonneg h1
  simp only [← Int32.toInt_inj, h2, Int32.reduceToInt]
  omega
theorem own_r0 (x : Int32) : own_min ((x &&& 2147483647) % 3) 0 = 0 := by rcases own_3 x with q | q | q <;> rw [q] <;> decide
theorem own_r1 (x : Int32) : own_min ((x &&& 2147483647) % 3) 1 = 0 ∨ own_min ((x &&& 2147483647) % 3) 1 = 1 := by rcases own_3 x with q | q | q <;> rw [q] <;> decide
theorem own_r2 (x : Int32) : own_min ((x &&& 2147483647) % 3) 2 = 0 ∨ own_min ((x &&& 2147483647) % 3) 2 = 1 ∨ own_min ((x &&& 2147483647) % 3) 2 = 2 := by rcases own_3 x with q | q | q <;> rw [q] <;> decide
theorem d1_0 : decode jdk_29_method_69_code 0 = .ok (.iload_n 0, 1) := by decide +kernel
theorem d1_1 : decode jdk_29_method_69_code 1 = .ok (.iload_n 1, 1) := by decide +kernel
theorem d1_2 : decode jdk_29_method_69_code 2 = .ok (.if_icmp .gt 7, 3) := by decide +kernel
theorem d1_5 : decode jdk_29_method_69_code 5 = .ok (.iload_n 0, 1) := by decide +kernel
theorem d1_6 : decode jdk_29_method_69_code 6 = .ok (.goto 4, 3) := by decide +kernel
theorem d1_9 : decode jdk_29_method_69_code 9 = .ok (.iload_n 1, 1) := by decide +kernel
theorem d1_10 : decode jdk_29_method_69_code 10 = .ok (.ireturn, 1) := by decide +kernel
theorem pn_1 : plainFor (⟨"java/lang/Math", "min", "(II)I"⟩ : MethodName) = true := by first | exact plainFor_of_name (by first | (simp [plainName, overriddenIn]; done) | decide +kernel) | decide +kernel
set_option maxRecDepth 65536 in
set_option maxHeartbeats 4000000 in
theorem rm_min (l : Launch) (Z : State) (a0 : Array Value) (hw : ∀ d ∈ tables_1, d.before a0 Z = true) (x1 y1 : Int32) (h0 : Heap)  :
    Met l Z (⟨"java/lang/Math", "min", "(II)I"⟩ : MethodName) jdk_29_method_69_code 2 (some .int) [] ({ frames := 0, cells := 0, slots := 0, locals := 0 } : Room) #[(.int x1), (.int y1)] h0 [] (fun v h => v = some (.int (own_min x1 y1)) ∧ h0 = h) := by
  refine Met.walk pn_1 (Ls := #[.val (.int x1), .val (.int y1)]) (fun m => by first | (simp [entryFrame, mkF, argsToLocals, Value.category, maxLocals]; done) | rfl) ?_
  intro p e s m below meth c B
  refine B.iloadN 1 rfl d1_0 rfl ?_
  refine B.iloadN 2 rfl d1_1 rfl ?_
  refine B.icmp_gt 9 5 rfl (by decide) rfl d1_2 (fun c2 => ?_) (fun c2 => ?_)
  · refine B.iloadN 10 rfl d1_9 rfl ?_
    refine B.retI d1_10 (by decide) (by decide) ?_
    exact ⟨by simp [own_min, c2], rfl⟩
  · refine B.iloadN 6 rfl d1_5 rfl ?_
    refine B.goto 10 rfl (by decide) d1_6 ?_
    refine B.retI d1_10 (by decide) (by decide) ?_
    exact ⟨by simp [own_min, c2], rfl⟩
theorem d3_0 : decode prog_8_method_2_code 0 = .ok (.aload_n 0, 1) := by decide +kernel
theorem d3_1 : decode prog_8_method_2_code 1 = .ok (.invokespecial 7, 3) := by decide +kernel
theorem d3_4 : decode prog_8_method_2_code 4 = .ok (.aload_n 0, 1) := by decide +kernel
theorem d3_5 : decode prog_8_method_2_code 5 = .ok (.aload_n 1, 1) := by decide +kernel
theorem d3_6 : decode prog_8_method_2_code 6 = .ok (.putfield 12, 3) := by decide +kernel
theorem d3_9 : decode prog_8_method_2_code 9 = .ok (.aload_n 0, 1) := by decide +kernel
theorem d3_10 : decode prog_8_method_2_code 10 = .ok (.iload_n 2, 1) := by decide +kernel
theorem d3_11 : decode prog_8_method_2_code 11 = .ok (.putfield 16, 3) := by decide +kernel
theorem d3_14 : decode prog_8_method_2_code 14 = .ok (.aload_n 0, 1) := by decide +kernel
theorem d3_15 : decode prog_8_method_2_code 15 = .ok (.iload_n 3, 1) := by decide +kernel
theorem d3_16 : decode prog_8_method_2_code 16 = .ok (.putfield 20, 3) := by decide +kernel
theorem d3_19 : decode prog_8_method_2_code 19 = .ok (.return_, 1) := by decide +kernel
theorem pn_3 : plainFor (⟨"io/keyvouch/der/DerReader", "<init>", "([BII)V"⟩ : MethodName) = true := by first | exact plainFor_of_name (by first | (simp [plainName, overriddenIn]; done) | decide +kernel) | decide +kernel
set_option maxRecDepth 65536 in
set_option maxHeartbeats 4000000 in
theorem rm_i3 (l : Launch) (Z : State) (a0 : Array Value) (hw : ∀ d ∈ tables_1, d.before a0 Z = true) (a d : Addr) (po en : Int32) (h0 : Heap) (E : Exa Z h0 a "io/keyvouch/der/DerReader") (Fd : Fld Z h0 a "io/keyvouch/der/DerReader" "der" "[B" .null) (Fp : Fld Z h0 a "io/keyvouch/der/DerReader" "pos" "I" (.int 0)) (Fn : Fld Z h0 a "io/keyvouch/der/DerReader" "end" "I" (.int 0)) :
    Met l Z (⟨"io/keyvouch/der/DerReader", "<init>", "([BII)V"⟩ : MethodName) prog_8_method_2_code 4 none [] ({ frames := 1, cells := 0, slots := 0, locals := 12 } : Room) #[(.ref a), (.ref d), (.int po), (.int en)] h0 [a] (fun v h => v = none ∧ Fld Z h a "io/keyvouch/der/DerReader" "der" "[B" (.ref d) ∧ Fld Z h a "io/keyvouch/der/DerReader" "pos" "I" (.int po) ∧ Fld Z h a "io/keyvouch/der/DerReader" "end" "I" (.int en)) := by
  refine Met.walk pn_3 (Ls := #[.val (.ref a), .val (.ref d), .val (.int po), .val (.int en)]) (fun m => by first | (simp [entryFrame, mkF, argsToLocals, Value.category, maxLocals]; done) | rfl) ?_
  intro p e s m below meth c B
  refine B.aloadN 1 rfl d3_0 rfl rfl ?_
  refine B.initO 4 rfl d3_1 (wd hw 15 rfl) (wd hw 16 rfl) (wd hw 17 rfl) rfl 0 rfl (by decide) (by decide) ?_
  refine B.aloadN 5 rfl d3_4 rfl rfl ?_
  refine B.aloadN 6 rfl d3_5 rfl rfl ?_
  refine B.putF 9 rfl d3_6 (wd hw 18 rfl) Fd E (Or.inr ⟨(wd hw 19 rfl), rfl, rfl⟩) (wd hw 7 rfl) (ty := (.array .byte)) (by decide) rfl rfl (Or.inl (by simp)) ?_
  intro h1 W1
  have E1 := E.wr W1
  have Fd1 := Fd.same W1
  have Fp1 := Fp.other W1 (Or.inr (slot_ne (Or.inl (wd hw 21 rfl)) (Or.inr (wd hw 19 rfl)) (by decide) (t := .int) (t' := (.array .byte)) (by decide) (by decide)))
  have Fn1 := Fn.other W1 (Or.inr (slot_ne (Or.inr (wd hw 23 rfl)) (Or.inr (wd hw 19 rfl)) (by decide) (t := .int) (t' := (.array .byte)) (by decide) (by decide)))
  refine B.aloadN 10 rfl d3_9 rfl rfl ?_
  refine B.iloadN 11 rfl d3_10 rfl ?_
  refine B.putF 14 rfl d3_11 (wd hw 20 rfl) Fp1 E1 (Or.inl (wd hw 21 rfl)) (wd hw 7 rfl) (ty := .int) (by decide) rfl rfl (Or.inl (by simp)) ?_
  intro h2 W2
  have E2 := E1.wr W2
  have Fd2 := Fd1.other W2 (Or.inr (slot_ne (Or.inr (wd hw 19 rfl)) (Or.inl (wd hw 21 rfl)) (by decide) (t := (.array .byte)) (t' := .int) (by decide) (by decide)))
  have Fp2 := Fp1.same W2
  have Fn2 := Fn1.other W2 (Or.inr (slot_ne (Or.inr (wd hw 23 rfl)) (Or.inl (wd hw 21 rfl)) (by decide) (t := .int) (t' := .int) (by decide) (by decide)))
  refine B.aloadN 15 rfl d3_14 rfl rfl ?_
  refine B.iloadN 16 rfl d3_15 rfl ?_
  refine B.putF 19 rfl d3_16 (wd hw 22 rfl) Fn2 E2 (Or.inr ⟨(wd hw 23 rfl), rfl, rfl⟩) (wd hw 7 rfl) (ty := .int) (by decide) rfl rfl (Or.inl (by simp)) ?_
  intro h3 W3
  refine B.ret0 d3_19 (by decide) (by decide) ?_
  exact ⟨rfl, Fd2.other W3 (Or.inr (slot_ne (Or.inr (wd hw 19 rfl)) (Or.inr (wd hw 23 rfl)) (by decide) (t := (.array .byte)) (t' := .int) (by decide) (by decide))), Fp2.other W3 (Or.inr (slot_ne (Or.inl (wd hw 21 rfl)) (Or.inr (wd hw 23 rfl)) (by decide) (t := .int) (t' := .int) (by decide) (by decide))), Fn2.same W3⟩
theorem d2_0 : decode prog_8_method_1_code 0 = .ok (.aload_n 0, 1) := by decide +kernel
theorem d2_1 : decode prog_8_method_1_code 1 = .ok (.aload_n 1, 1) := by decide +kernel
theorem d2_2 : decode prog_8_method_1_code 2 = .ok (.iconst 0, 1) := by decide +kernel
theorem d2_3 : decode prog_8_method_1_code 3 = .ok (.aload_n 1, 1) := by decide +kernel
theorem d2_4 : decode prog_8_method_1_code 4 = .ok (.arraylength, 1) := by decide +kernel
theorem d2_5 : decode prog_8_method_1_code 5 = .ok (.invokespecial 3, 3) := by decide +kernel
theorem d2_8 : decode prog_8_method_1_code 8 = .ok (.return_, 1) := by decide +kernel
theorem pn_2 : plainFor (⟨"io/keyvouch/der/DerReader", "<init>", "([B)V"⟩ : MethodName) = true := by first | exact plainFor_of_name (by first | (simp [plainName, overriddenIn]; done) | decide +kernel) | decide +kernel
set_option maxRecDepth 65536 in
set_option maxHeartbeats 4000000 in
theorem rm_i1 (l : Launch) (Z : State) (a0 : Array Value) (hw : ∀ d ∈ tables_1, d.before a0 Z = true) (a d : Addr) (en : Int32) (vs : List Value) (h0 : Heap) (A : Ary Z h0 d .byte vs) (hn : vs.length.toInt32 = en) (E : Exa Z h0 a "io/keyvouch/der/DerReader") (Fd : Fld Z h0 a "io/keyvouch/der/DerReader" "der" "[B" .null) (Fp : Fld Z h0 a "io/keyvouch/der/DerReader" "pos" "I" (.int 0)) (Fn : Fld Z h0 a "io/keyvouch/der/DerReader" "end" "I" (.int 0)) :
    Met l Z (⟨"io/keyvouch/der/DerReader", "<init>", "([B)V"⟩ : MethodName) prog_8_method_1_code 2 none [] ({ frames := 2, cells := 0, slots := 0, locals := 27 } : Room) #[(.ref a), (.ref d)] h0 [a] (fun v h => v = none ∧ Fld Z h a "io/keyvouch/der/DerReader" "der" "[B" (.ref d) ∧ Fld Z h a "io/keyvouch/der/DerReader" "pos" "I" (.int (0 : Int32)) ∧ Fld Z h a "io/keyvouch/der/DerReader" "end" "I" (.int en)) := by
  refine Met.walk pn_2 (Ls := #[.val (.ref a), .val (.ref d)]) (fun m => by first | (simp [entryFrame, mkF, argsToLocals, Value.category, maxLocals]; done) | rfl) ?_
  intro p e s m below meth c B
  refine B.aloadN 1 rfl d2_0 rfl rfl ?_
  refine B.aloadN 2 rfl d2_1 rfl rfl ?_
  refine B.iconst 3 rfl (0 : Int32) d2_2 rfl ?_
  refine B.aloadN 4 rfl d2_3 rfl rfl ?_
  refine B.arrlen 5 rfl d2_4 A en hn ?_
  refine B.callI 8 rfl d2_5 rfl (wd hw 12 rfl) (wd hw 13 rfl) (wd hw 8 rfl) (wd hw 14 rfl) (by decide) [(.ref d), (.int (0 : Int32)), (.int en)] [] (rm_i3 l Z a0 hw a d (0 : Int32) en h0 E Fd Fp Fn) rfl rfl pd___BII_V rfl rfl 0 rfl (by decide) (by decide) (by decide) (by decide) (fun x z => Or.inl z) ?_
  rintro _ h1 K1 ⟨rfl, q⟩
  show B.G h1 0 0 (mkF m 8 #[.val (.ref a), .val (.ref d)] [])
  refine B.ret0 d2_8 (by decide) (by decide) ?_
  exact ⟨rfl, q⟩
theorem d8_0 : decode prog_8_method_28_code 0 = .ok (.aload_n 0, 1) := by decide +kernel
theorem d8_1 : decode prog_8_method_28_code 1 = .ok (.getfield 16, 3) := by decide +kernel
theorem d8_4 : decode prog_8_method_28_code 4 = .ok (.aload_n 0, 1) := by decide +kernel
theorem d8_5 : decode prog_8_method_28_code 5 = .ok (.getfield 20, 3) := by decide +kernel
theorem d8_8 : decode prog_8_method_28_code 8 = .ok (.if_icmp .ne 21, 3) := by decide +kernel
theorem d8_29 : decode prog_8_method_28_code 29 = .ok (.aload_n 0, 1) := by decide +kernel
theorem d8_30 : decode prog_8_method_28_code 30 = .ok (.getfield 12, 3) := by decide +kernel
theorem d8_33 : decode prog_8_method_28_code 33 = .ok (.aload_n 0, 1) := by decide +kernel
theorem d8_34 : decode prog_8_method_28_code 34 = .ok (.getfield 16, 3) := by decide +kernel
theorem d8_37 : decode prog_8_method_28_code 37 = .ok (.baload, 1) := by decide +kernel
theorem d8_38 : decode prog_8_method_28_code 38 = .ok (.sipush 255, 3) := by decide +kernel
theorem d8_41 : decode prog_8_method_28_code 41 = .ok (.iand, 1) := by decide +kernel
theorem d8_42 : decode prog_8_method_28_code 42 = .ok (.ireturn, 1) := by decide +kernel
theorem pn_8 : plainFor (⟨"io/keyvouch/der/DerReader", "peekIdentifier", "(Ljava/lang/String;)I"⟩ : MethodName) = true := by first | exact plainFor_of_name (by first | (simp [plainName, overriddenIn]; done) | decide +kernel) | decide +kernel
set_option maxRecDepth 65536 in
set_option maxHeartbeats 4000000 in
theorem rm_peek (l : Launch) (Z : State) (a0 : Array Value) (hw : ∀ d ∈ tables_1, d.before a0 Z = true) (a tx d : Addr) (po en x0 : Int32) (i : Nat) (vs : List Value) (h0 : Heap) (Fd : Fld Z h0 a "io/keyvouch/der/DerReader" "der" "[B" (.ref d)) (Fp : Fld Z h0 a "io/keyvouch/der/DerReader" "pos" "I" (.int po)) (Fn : Fld Z h0 a "io/keyvouch/der/DerReader" "end" "I" (.int en)) (A : Ary Z h0 d .byte vs) (hpe : ¬ po = en) (hj : ¬ po < 0) (hi : po.toNatClampNeg = i) (hv : vs[i]? = some (.int x0)) :
    Met l Z (⟨"io/keyvouch/der/DerReader", "peekIdentifier", "(Ljava/lang/String;)I"⟩ : MethodName) prog_8_method_28_code 2 (some .int) [] ({ frames := 0, cells := 0, slots := 0, locals := 0 } : Room) #[(.ref a), (.ref tx)] h0 [] (fun v h => v = some (.int (x0 &&& 255)) ∧ h0 = h) := by
  refine Met.walk pn_8 (Ls := #[.val (.ref a), .val (.ref tx)]) (fun m => by first | (simp [entryFrame, mkF, argsToLocals, Value.category, maxLocals]; done) | rfl) ?_
  intro p e s m below meth c B
  refine B.aloadN 1 rfl d8_0 rfl rfl ?_
  refine B.getF 4 rfl d8_1 (wd hw 20 rfl) Fp ?_
  refine B.aloadN 5 rfl d8_4 rfl rfl ?_
  refine B.getF 8 rfl d8_5 (wd hw 22 rfl) Fn ?_
  refine B.icmp_ne 29 11 rfl (by decide) rfl d8_8 (fun c8 => ?_) (fun c8 => ?_)
  · refine B.aloadN 30 rfl d8_29 rfl rfl ?_
    refine B.getF 33 rfl d8_30 (wd hw 18 rfl) Fd ?_
    refine B.aloadN 34 rfl d8_33 rfl rfl ?_
    refine B.getF 37 rfl d8_34 (wd hw 20 rfl) Fp ?_
    refine B.baload 38 rfl d8_37 A hj i hi (.int x0) hv ?_
    refine B.sipush 41 rfl (255 : Int32) d8_38 rfl ?_
    refine B.iand 42 rfl d8_41 ?_
    refine B.retI d8_42 (by decide) (by decide) ?_
    exact ⟨rfl, rfl⟩
  · exact absurd c8 hpe
theorem d10_0 : decode prog_8_method_31_code 0 = .ok (.aload_n 0, 1) := by decide +kernel
theorem d10_1 : decode prog_8_method_31_code 1 = .ok (.getfield 16, 3) := by decide +kernel
theorem d10_4 : decode prog_8_method_31_code 4 = .ok (.aload_n 0, 1) := by decide +kernel
theorem d10_5 : decode prog_8_method_31_code 5 = .ok (.getfield 20, 3) := by decide +kernel
theorem d10_8 : decode prog_8_method_31_code 8 = .ok (.if_icmp .ne 18, 3) := by decide +kernel
theorem d10_26 : decode prog_8_method_31_code 26 = .ok (.aload_n 0, 1) := by decide +kernel
theorem d10_27 : decode prog_8_method_31_code 27 = .ok (.getfield 12, 3) := by decide +kernel
theorem d10_30 : decode prog_8_method_31_code 30 = .ok (.aload_n 0, 1) := by decide +kernel
theorem d10_31 : decode prog_8_method_31_code 31 = .ok (.dup, 1) := by decide +kernel
theorem d10_32 : decode prog_8_method_31_code 32 = .ok (.getfield 16, 3) := by decide +kernel
theorem d10_35 : decode prog_8_method_31_code 35 = .ok (.dup_x1, 1) := by decide +kernel
theorem d10_36 : decode prog_8_method_31_code 36 = .ok (.iconst 1, 1) := by decide +kernel
theorem d10_37 : decode prog_8_method_31_code 37 = .ok (.iadd, 1) := by decide +kernel
theorem d10_38 : decode prog_8_method_31_code 38 = .ok (.putfield 16, 3) := by decide +kernel
theorem d10_41 : decode prog_8_method_31_code 41 = .ok (.baload, 1) := by decide +kernel
theorem d10_42 : decode prog_8_method_31_code 42 = .ok (.sipush 255, 3) := by decide +kernel
theorem d10_45 : decode prog_8_method_31_code 45 = .ok (.iand, 1) := by decide +kernel
theorem d10_46 : decode prog_8_method_31_code 46 = .ok (.istore_n 3, 1) := by decide +kernel
theorem d10_47 : decode prog_8_method_31_code 47 = .ok (.iload_n 3, 1) := by decide +kernel
theorem d10_48 : decode prog_8_method_31_code 48 = .ok (.sipush 128, 3) := by decide +kernel
theorem d10_51 : decode prog_8_method_31_code 51 = .ok (.if_icmp .ge 6, 3) := by decide +kernel
theorem d10_54 : decode prog_8_method_31_code 54 = .ok (.iload_n 3, 1) := by decide +kernel
theorem d10_55 : decode prog_8_method_31_code 55 = .ok (.i2l, 1) := by decide +kernel
theorem d10_56 : decode prog_8_method_31_code 56 = .ok (.lreturn, 1) := by decide +kernel
theorem pn_10 : plainFor (⟨"io/keyvouch/der/DerReader", "readLengthField", "(Ljava/lang/String;I)J"⟩ : MethodName) = true := by first | exact plainFor_of_name (by first | (simp [plainName, overriddenIn]; done) | decide +kernel) | decide +kernel
set_option maxRecDepth 65536 in
set_option maxHeartbeats 4000000 in
theorem rm_lf (l : Launch) (Z : State) (a0 : Array Value) (hw : ∀ d ∈ tables_1, d.before a0 Z = true) (a tx d : Addr) (u0 po po1 en x0 : Int32) (i : Nat) (vs : List Value) (h0 : Heap) (E : Exa Z h0 a "io/keyvouch/der/DerReader") (nda : d ≠ a) (Fd : Fld Z h0 a "io/keyvouch/der/DerReader" "der" "[B" (.ref d)) (Fp : Fld Z h0 a "io/keyvouch/der/DerReader" "pos" "I" (.int po)) (Fn : Fld Z h0 a "io/keyvouch/der/DerReader" "end" "I" (.int en)) (A : Ary Z h0 d .byte vs) (hpe : ¬ po = en) (hj : ¬ po < 0) (hi : po.toNatClampNeg = i) (hv : vs[i]? = some (.int x0)) (hb8 : x0 &&& 255 < 128) (hpo : po + 1 = po1) :
    Met l Z (⟨"io/keyvouch/der/DerReader", "readLengthField", "(Ljava/lang/String;I)J"⟩ : MethodName) prog_8_method_31_code 8 (some .long) [] ({ frames := 0, cells := 0, slots := 0, locals := 0 } : Room) #[(.ref a), (.ref tx), (.int u0)] h0 [a] (fun v h => v = some (.long (x0 &&& 255).toInt64) ∧ Fld Z h a "io/keyvouch/der/DerReader" "der" "[B" (.ref d) ∧ Fld Z h a "io/keyvouch/der/DerReader" "pos" "I" (.int po1) ∧ Fld Z h a "io/keyvouch/der/DerReader" "end" "I" (.int en) ∧ Ary Z h d .byte vs) := by
  refine Met.walk pn_10 (Ls := #[.val (.ref a), .val (.ref tx), .val (.int u0), .unset, .unset, .unset, .unset, .unset]) (fun m => by first | (simp [entryFrame, mkF, argsToLocals, Value.category, maxLocals]; done) | rfl) ?_
  intro p e s m below meth c B
  refine B.aloadN 1 rfl d10_0 rfl rfl ?_
  refine B.getF 4 rfl d10_1 (wd hw 20 rfl) Fp ?_
  refine B.aloadN 5 rfl d10_4 rfl rfl ?_
  refine B.getF 8 rfl d10_5 (wd hw 22 rfl) Fn ?_
  refine B.icmp_ne 26 11 rfl (by decide) rfl d10_8 (fun c8 => ?_) (fun c8 => ?_)
  · refine B.aloadN 27 rfl d10_26 rfl rfl ?_
    refine B.getF 30 rfl d10_27 (wd hw 18 rfl) Fd ?_
    refine B.aloadN 31 rfl d10_30 rfl rfl ?_
    refine B.dup 32 rfl d10_31 rfl ?_
    refine B.getF 35 rfl d10_32 (wd hw 20 rfl) Fp ?_
    refine B.dupX1 36 rfl d10_35 rfl rfl ?_
    refine B.iconst 37 rfl (1 : Int32) d10_36 rfl ?_
    refine B.iadd 38 rfl d10_37 ?_
    refine B.topI po1 hpo ?_
    refine B.putF 41 rfl d10_38 (wd hw 20 rfl) Fp E (Or.inl (wd hw 21 rfl)) (wd hw 7 rfl) (ty := .int) (by decide) rfl rfl (Or.inl (by simp)) ?_
    intro h1 W1
    have E1 := E.wr W1
    have Fd1 := Fd.other W1 (Or.inr (slot_ne (Or.inr (wd hw 19 rfl)) (Or.inl (wd hw 21 rfl)) (by decide) (t := (.array .byte)) (t' := .int) (by decide) (by decide)))
    have Fp1 := Fp.same W1
    have Fn1 := Fn.other W1 (Or.inr (slot_ne (Or.inr (wd hw 23 rfl)) (Or.inl (wd hw 21 rfl)) (by decide) (t := .int) (t' := .int) (by decide) (by decide)))
    have A1 := A.other W1 nda
    refine B.baload 42 rfl d10_41 A1 hj i hi (.int x0) hv ?_
    refine B.sipush 45 rfl (255 : Int32) d10_42 rfl ?_
    refine B.iand 46 rfl d10_45 ?_
    refine B.istoreN 47 rfl d10_46 #[.val (.ref a), .val (.ref tx), .val (.int u0), .val (.int (x0 &&& (255 : Int32))), .unset, .unset, .unset, .unset] rfl ?_
    refine B.iloadN 48 rfl d10_47 rfl ?_
    refine B.sipush 51 rfl (128 : Int32) d10_48 rfl ?_
    refine B.icmp_ge 57 54 rfl (by decide) rfl d10_51 (fun c51 => ?_) (fun c51 => ?_)
    · exact absurd hb8 c51
    · refine B.iloadN 55 rfl d10_54 rfl ?_
      refine B.i2l 56 rfl d10_55 ?_
      refine B.retL d10_56 (by decide) (by decide) ?_
      exact ⟨rfl, Fd1, Fp1, Fn1, A1⟩
  · exact absurd c8 hpe
theorem d9_0 : decode prog_8_method_30_code 0 = .ok (.aload_n 0, 1) := by decide +kernel
theorem d9_1 : decode prog_8_method_30_code 1 = .ok (.aload_n 1, 1) := by decide +kernel
theorem d9_2 : decode prog_8_method_30_code 2 = .ok (.iload_n 2, 1) := by decide +kernel
theorem d9_3 : decode prog_8_method_30_code 3 = .ok (.invokevirtual 170, 3) := by decide +kernel
theorem d9_6 : decode prog_8_method_30_code 6 = .ok (.lstore_n 3, 1) := by decide +kernel
theorem d9_7 : decode prog_8_method_30_code 7 = .ok (.lload_n 3, 1) := by decide +kernel
theorem d9_8 : decode prog_8_method_30_code 8 = .ok (.aload_n 0, 1) := by decide +kernel
theorem d9_9 : decode prog_8_method_30_code 9 = .ok (.getfield 20, 3) := by decide +kernel
theorem d9_12 : decode prog_8_method_30_code 12 = .ok (.aload_n 0, 1) := by decide +kernel
theorem d9_13 : decode prog_8_method_30_code 13 = .ok (.getfield 16, 3) := by decide +kernel
theorem d9_16 : decode prog_8_method_30_code 16 = .ok (.isub, 1) := by decide +kernel
theorem d9_17 : decode prog_8_method_30_code 17 = .ok (.i2l, 1) := by decide +kernel
theorem d9_18 : decode prog_8_method_30_code 18 = .ok (.lcmp, 1) := by decide +kernel
theorem d9_19 : decode prog_8_method_30_code 19 = .ok (.ifCond .le 28, 3) := by decide +kernel
theorem d9_47 : decode prog_8_method_30_code 47 = .ok (.lload_n 3, 1) := by decide +kernel
theorem d9_48 : decode prog_8_method_30_code 48 = .ok (.l2i, 1) := by decide +kernel
theorem d9_49 : decode prog_8_method_30_code 49 = .ok (.ireturn, 1) := by decide +kernel
theorem pn_9 : plainFor (⟨"io/keyvouch/der/DerReader", "readLength", "(Ljava/lang/String;I)I"⟩ : MethodName) = true := by first | exact plainFor_of_name (by first | (simp [plainName, overriddenIn]; done) | decide +kernel) | decide +kernel
set_option maxRecDepth 65536 in
set_option maxHeartbeats 4000000 in
theorem rm_rl (l : Launch) (Z : State) (a0 : Array Value) (hw : ∀ d ∈ tables_1, d.before a0 Z = true) (a tx d : Addr) (u0 po po1 en x0 len : Int32) (i : Nat) (vs : List Value) (h0 : Heap) (E : Exa Z h0 a "io/keyvouch/der/DerReader") (nda : d ≠ a) (Fd : Fld Z h0 a "io/keyvouch/der/DerReader" "der" "[B" (.ref d)) (Fp : Fld Z h0 a "io/keyvouch/der/DerReader" "pos" "I" (.int po)) (Fn : Fld Z h0 a "io/keyvouch/der/DerReader" "end" "I" (.int en)) (A : Ary Z h0 d .byte vs) (hpe : ¬ po = en) (hj : ¬ po < 0) (hi : po.toNatClampNeg = i) (hv : vs[i]? = some (.int x0)) (hb8 : x0 &&& 255 < 128) (hpo : po + 1 = po1) (hle : ¬ (en - po1).toInt64 < (x0 &&& 255).toInt64) (hlen : (x0 &&& 255).toInt64.toInt32 = len) :
    Met l Z (⟨"io/keyvouch/der/DerReader", "readLength", "(Ljava/lang/String;I)I"⟩ : MethodName) prog_8_method_30_code 5 (some .int) [] ({ frames := 1, cells := 0, slots := 0, locals := 19 } : Room) #[(.ref a), (.ref tx), (.int u0)] h0 [a] (fun v h => v = some (.int len) ∧ Fld Z h a "io/keyvouch/der/DerReader" "der" "[B" (.ref d) ∧ Fld Z h a "io/keyvouch/der/DerReader" "pos" "I" (.int po1) ∧ Fld Z h a "io/keyvouch/der/DerReader" "end" "I" (.int en) ∧ Ary Z h d .byte vs) := by
  refine Met.walk pn_9 (Ls := #[.val (.ref a), .val (.ref tx), .val (.int u0), .unset, .unset]) (fun m => by first | (simp [entryFrame, mkF, argsToLocals, Value.category, maxLocals]; done) | rfl) ?_
  intro p e s m below meth c B
  refine B.aloadN 1 rfl d9_0 rfl rfl ?_
  refine B.aloadN 2 rfl d9_1 rfl rfl ?_
  refine B.iloadN 3 rfl d9_2 rfl ?_
  refine B.callP 6 rfl d9_3 (wd hw 52 rfl) (wd hw 54 rfl) (wd hw 53 rfl) (wd hw 27 rfl) rfl (wd hw 8 rfl) (wd hw 55 rfl) (by decide) E [(.ref tx), (.int u0)] [] (rm_lf l Z a0 hw a tx d u0 po po1 en x0 i vs h0 E nda Fd Fp Fn A hpe hj hi hv hb8 hpo) rfl rfl pd__Ljava_lang_String_I_J rfl rfl 0 rfl (by decide) (by decide) (by decide) (by decide) (fun x z => Or.inl z) ?_
  rintro _ h1 K1 ⟨rfl, Fd1, Fp1, Fn1, A1⟩
  show B.G h1 0 0 (mkF m 6 #[.val (.ref a), .val (.ref tx), .val (.int u0), .unset, .unset] [(.long (x0 &&& (255 : Int32)).toInt64)])
  refine B.lstoreN 7 rfl d9_6 #[.val (.ref a), .val (.ref tx), .val (.int u0), .val (.long (x0 &&& (255 : Int32)).toInt64), .second] rfl ?_
  refine B.lloadN 8 rfl d9_7 rfl ?_
  refine B.aloadN 9 rfl d9_8 rfl rfl ?_
  refine B.getF 12 rfl d9_9 (wd hw 22 rfl) Fn1 ?_
  refine B.aloadN 13 rfl d9_12 rfl rfl ?_
  refine B.getF 16 rfl d9_13 (wd hw 20 rfl) Fp1 ?_
  refine B.isub 17 rfl d9_16 ?_
  refine B.i2l 18 rfl d9_17 ?_
  refine B.lcmp 19 rfl d9_18 ?_
  refine B.lif_le 47 22 rfl (by decide) rfl d9_19 (fun c19 => ?_) (fun c19 => ?_)
  · refine B.lloadN 48 rfl d9_47 rfl ?_
    refine B.l2i 49 rfl d9_48 ?_
    refine B.retI d9_49 (by decide) (by decide) ?_
    exact ⟨by rw [← hlen], Fd1, Fp1, Fn1, A1⟩
  · exact absurd c19 hle
theorem d7_0 : decode prog_8_method_26_code 0 = .ok (.aload_n 0, 1) := by decide +kernel
theorem d7_1 : decode prog_8_method_26_code 1 = .ok (.getfield 16, 3) := by decide +kernel
theorem d7_4 : decode prog_8_method_26_code 4 = .ok (.istore_n 3, 1) := by decide +kernel
theorem d7_5 : decode prog_8_method_26_code 5 = .ok (.aload_n 0, 1) := by decide +kernel
theorem d7_6 : decode prog_8_method_26_code 6 = .ok (.aload_n 2, 1) := by decide +kernel
theorem d7_7 : decode prog_8_method_26_code 7 = .ok (.invokevirtual 33, 3) := by decide +kernel
theorem d7_10 : decode prog_8_method_26_code 10 = .ok (.istore 4, 2) := by decide +kernel
theorem d7_12 : decode prog_8_method_26_code 12 = .ok (.iload 4, 2) := by decide +kernel
theorem d7_14 : decode prog_8_method_26_code 14 = .ok (.iload_n 1, 1) := by decide +kernel
theorem d7_15 : decode prog_8_method_26_code 15 = .ok (.if_icmp .eq 11, 3) := by decide +kernel
theorem d7_26 : decode prog_8_method_26_code 26 = .ok (.aload_n 0, 1) := by decide +kernel
theorem d7_27 : decode prog_8_method_26_code 27 = .ok (.dup, 1) := by decide +kernel
theorem d7_28 : decode prog_8_method_26_code 28 = .ok (.getfield 16, 3) := by decide +kernel
theorem d7_31 : decode prog_8_method_26_code 31 = .ok (.iconst 1, 1) := by decide +kernel
theorem d7_32 : decode prog_8_method_26_code 32 = .ok (.iadd, 1) := by decide +kernel
theorem d7_33 : decode prog_8_method_26_code 33 = .ok (.putfield 16, 3) := by decide +kernel
theorem d7_36 : decode prog_8_method_26_code 36 = .ok (.aload_n 0, 1) := by decide +kernel
theorem d7_37 : decode prog_8_method_26_code 37 = .ok (.aload_n 2, 1) := by decide +kernel
theorem d7_38 : decode prog_8_method_26_code 38 = .ok (.iload_n 3, 1) := by decide +kernel
theorem d7_39 : decode prog_8_method_26_code 39 = .ok (.invokevirtual 47, 3) := by decide +kernel
theorem d7_42 : decode prog_8_method_26_code 42 = .ok (.ireturn, 1) := by decide +kernel
theorem pn_7 : plainFor (⟨"io/keyvouch/der/DerReader", "readHeader", "(ILjava/lang/String;)I"⟩ : MethodName) = true := by first | exact plainFor_of_name (by first | (simp [plainName, overriddenIn]; done) | decide +kernel) | decide +kernel
set_option maxRecDepth 65536 in
set_option maxHeartbeats 4000000 in
theorem rm_rh (l : Launch) (Z : State) (a0 : Array Value) (hw : ∀ d ∈ tables_1, d.before a0 Z = true) (a tx d : Addr) (tg po po1 po2 en xt x0 len : Int32) (j i : Nat) (vs : List Value) (h0 : Heap) (E : Exa Z h0 a "io/keyvouch/der/DerReader") (nda : d ≠ a) (Fd : Fld Z h0 a "io/keyvouch/der/DerReader" "der" "[B" (.ref d)) (Fp : Fld Z h0 a "io/keyvouch/der/DerReader" "pos" "I" (.int po)) (Fn : Fld Z h0 a "io/keyvouch/der/DerReader" "end" "I" (.int en)) (A : Ary Z h0 d .byte vs) (hpe : ¬ po = en) (hjt : ¬ po < 0) (hit : po.toNatClampNeg = j) (hvt : vs[j]? = some (.int xt)) (htag : xt &&& 255 = tg) (hpo : po + 1 = po1) (hpe1 : ¬ po1 = en) (hj : ¬ po1 < 0) (hi : po1.toNatClampNeg = i) (hv : vs[i]? = some (.int x0)) (hb8 : x0 &&& 255 < 128) (hpo2 : po1 + 1 = po2) (hle : ¬ (en - po2).toInt64 < (x0 &&& 255).toInt64) (hlen : (x0 &&& 255).toInt64.toInt32 = len) :
    Met l Z (⟨"io/keyvouch/der/DerReader", "readHeader", "(ILjava/lang/String;)I"⟩ : MethodName) prog_8_method_26_code 5 (some .int) [] ({ frames := 2, cells := 0, slots := 0, locals := 35 } : Room) #[(.ref a), (.int tg), (.ref tx)] h0 [a] (fun v h => v = some (.int len) ∧ Fld Z h a "io/keyvouch/der/DerReader" "der" "[B" (.ref d) ∧ Fld Z h a "io/keyvouch/der/DerReader" "pos" "I" (.int po2) ∧ Fld Z h a "io/keyvouch/der/DerReader" "end" "I" (.int en) ∧ Ary Z h d .byte vs) := by
  refine Met.walk pn_7 (Ls := #[.val (.ref a), .val (.int tg), .val (.ref tx), .unset, .unset]) (fun m => by first | (simp [entryFrame, mkF, argsToLocals, Value.category, maxLocals]; done) | rfl) ?_
  intro p e s m below meth c B
  refine B.aloadN 1 rfl d7_0 rfl rfl ?_
  refine B.getF 4 rfl d7_1 (wd hw 20 rfl) Fp ?_
  refine B.istoreN 5 rfl d7_4 #[.val (.ref a), .val (.int tg), .val (.ref tx), .val (.int po), .unset] rfl ?_
  refine B.aloadN 6 rfl d7_5 rfl rfl ?_
  refine B.aloadN 7 rfl d7_6 rfl rfl ?_
  refine B.callP 10 rfl d7_7 (wd hw 44 rfl) (wd hw 46 rfl) (wd hw 45 rfl) (wd hw 27 rfl) rfl (wd hw 8 rfl) (wd hw 47 rfl) (by decide) E [(.ref tx)] [] (rm_peek l Z a0 hw a tx d po en xt j vs h0 Fd Fp Fn A hpe hjt hit hvt) rfl rfl pd__Ljava_lang_String__I rfl rfl 0 rfl (by decide) (by decide) (by decide) (by decide) (fun _ q => nomatch q) ?_
  rintro _ _ - ⟨rfl, rfl⟩
  show B.G h0 0 0 (mkF m 10 #[.val (.ref a), .val (.int tg), .val (.ref tx), .val (.int po), .unset] [(.int (xt &&& (255 : Int32)))])
  refine B.istore 12 rfl d7_10 #[.val (.ref a), .val (.int tg), .val (.ref tx), .val (.int po), .val (.int (xt &&& (255 : Int32)))] rfl ?_
  refine B.iload 14 rfl d7_12 rfl ?_
  refine B.iloadN 15 rfl d7_14 rfl ?_
  refine B.icmp_eq 26 18 rfl (by decide) rfl d7_15 (fun c15 => ?_) (fun c15 => ?_)
  · refine B.aloadN 27 rfl d7_26 rfl rfl ?_
    refine B.dup 28 rfl d7_27 rfl ?_
    refine B.getF 31 rfl d7_28 (wd hw 20 rfl) Fp ?_
    refine B.iconst 32 rfl (1 : Int32) d7_31 rfl ?_
    refine B.iadd 33 rfl d7_32 ?_
    refine B.topI po1 hpo ?_
    refine B.putF 36 rfl d7_33 (wd hw 20 rfl) Fp E (Or.inl (wd hw 21 rfl)) (wd hw 7 rfl) (ty := .int) (by decide) rfl rfl (Or.inl (by simp)) ?_
    intro h1 W1
    have E1 := E.wr W1
    have Fd1 := Fd.other W1 (Or.inr (slot_ne (Or.inr (wd hw 19 rfl)) (Or.inl (wd hw 21 rfl)) (by decide) (t := (.array .byte)) (t' := .int) (by decide) (by decide)))
    have Fp1 := Fp.same W1
    have Fn1 := Fn.other W1 (Or.inr (slot_ne (Or.inr (wd hw 23 rfl)) (Or.inl (wd hw 21 rfl)) (by decide) (t := .int) (t' := .int) (by decide) (by decide)))
    have A1 := A.other W1 nda
    refine B.aloadN 37 rfl d7_36 rfl rfl ?_
    refine B.aloadN 38 rfl d7_37 rfl rfl ?_
    refine B.iloadN 39 rfl d7_38 rfl ?_
    refine B.callP 42 rfl d7_39 (wd hw 48 rfl) (wd hw 50 rfl) (wd hw 49 rfl) (wd hw 27 rfl) rfl (wd hw 8 rfl) (wd hw 51 rfl) (by decide) E1 [(.ref tx), (.int po)] [] (rm_rl l Z a0 hw a tx d po po1 po2 en x0 len i vs h1 E1 nda Fd1 Fp1 Fn1 A1 hpe1 hj hi hv hb8 hpo2 hle hlen) rfl rfl pd__Ljava_lang_String_I_I rfl rfl 0 rfl (by decide) (by decide) (by decide) (by decide) (fun x z => Or.inl z) ?_
    rintro _ h2 K2 ⟨rfl, q⟩
    show B.G h2 0 0 (mkF m 42 #[.val (.ref a), .val (.int tg), .val (.ref tx), .val (.int po), .val (.int (xt &&& (255 : Int32)))] [(.int len)])
    refine B.retI d7_42 (by decide) (by decide) ?_
    exact ⟨rfl, q⟩
  · exact absurd htag c15
theorem d11_0 : decode prog_8_method_25_code 0 = .ok (.new 1, 3) := by decide +kernel
theorem d11_3 : decode prog_8_method_25_code 3 = .ok (.dup, 1) := by decide +kernel
theorem d11_4 : decode prog_8_method_25_code 4 = .ok (.aload_n 0, 1) := by decide +kernel
theorem d11_5 : decode prog_8_method_25_code 5 = .ok (.getfield 12, 3) := by decide +kernel
theorem d11_8 : decode prog_8_method_25_code 8 = .ok (.aload_n 0, 1) := by decide +kernel
theorem d11_9 : decode prog_8_method_25_code 9 = .ok (.getfield 16, 3) := by decide +kernel
theorem d11_12 : decode prog_8_method_25_code 12 = .ok (.aload_n 0, 1) := by decide +kernel
theorem d11_13 : decode prog_8_method_25_code 13 = .ok (.getfield 16, 3) := by decide +kernel
theorem d11_16 : decode prog_8_method_25_code 16 = .ok (.iload_n 1, 1) := by decide +kernel
theorem d11_17 : decode prog_8_method_25_code 17 = .ok (.iadd, 1) := by decide +kernel
theorem d11_18 : decode prog_8_method_25_code 18 = .ok (.invokespecial 3, 3) := by decide +kernel
theorem d11_21 : decode prog_8_method_25_code 21 = .ok (.astore_n 2, 1) := by decide +kernel
theorem d11_22 : decode prog_8_method_25_code 22 = .ok (.aload_n 0, 1) := by decide +kernel
theorem d11_23 : decode prog_8_method_25_code 23 = .ok (.dup, 1) := by decide +kernel
theorem d11_24 : decode prog_8_method_25_code 24 = .ok (.getfield 16, 3) := by decide +kernel
theorem d11_27 : decode prog_8_method_25_code 27 = .ok (.iload_n 1, 1) := by decide +kernel
theorem d11_28 : decode prog_8_method_25_code 28 = .ok (.iadd, 1) := by decide +kernel
theorem d11_29 : decode prog_8_method_25_code 29 = .ok (.putfield 16, 3) := by decide +kernel
theorem d11_32 : decode prog_8_method_25_code 32 = .ok (.aload_n 2, 1) := by decide +kernel
theorem d11_33 : decode prog_8_method_25_code 33 = .ok (.areturn, 1) := by decide +kernel
theorem pn_11 : plainFor (⟨"io/keyvouch/der/DerReader", "skipContents", "(I)Lio/keyvouch/der/DerReader;"⟩ : MethodName) = true := by first | exact plainFor_of_name (by first | (simp [plainName, overriddenIn]; done) | decide +kernel) | decide +kernel
set_option maxRecDepth 65536 in
set_option maxHeartbeats 4000000 in
theorem rm_sk (l : Launch) (Z : State) (a0 : Array Value) (hw : ∀ d ∈ tables_1, d.before a0 Z = true) (a d : Addr) (po pe en len : Int32) (vs : List Value) (h0 : Heap) (E : Exa Z h0 a "io/keyvouch/der/DerReader") (nda : d ≠ a) (Fd : Fld Z h0 a "io/keyvouch/der/DerReader" "der" "[B" (.ref d)) (Fp : Fld Z h0 a "io/keyvouch/der/DerReader" "pos" "I" (.int po)) (Fn : Fld Z h0 a "io/keyvouch/der/DerReader" "end" "I" (.int en)) (A : Ary Z h0 d .byte vs) (hpl : po + len = pe) :
    Met l Z (⟨"io/keyvouch/der/DerReader", "skipContents", "(I)Lio/keyvouch/der/DerReader;"⟩ : MethodName) prog_8_method_25_code 3 (some (.object "io/keyvouch/der/DerReader")) [] ({ frames := 2, cells := 1, slots := 3, locals := 28 } : Room) #[(.ref a), (.int len)] h0 [a] (fun v h => ∃ o, v = some (.ref o) ∧ h0.size ≤ o ∧ Exa Z h o "io/keyvouch/der/DerReader" ∧ Fld Z h o "io/keyvouch/der/DerReader" "der" "[B" (.ref d) ∧ Fld Z h o "io/keyvouch/der/DerReader" "pos" "I" (.int po) ∧ Fld Z h o "io/keyvouch/der/DerReader" "end" "I" (.int pe) ∧ Fld Z h a "io/keyvouch/der/DerReader" "der" "[B" (.ref d) ∧ Fld Z h a "io/keyvouch/der/DerReader" "pos" "I" (.int pe) ∧ Fld Z h a "io/keyvouch/der/DerReader" "end" "I" (.int en) ∧ Ary Z h d .byte vs) := by
  refine Met.walk pn_11 (Ls := #[.val (.ref a), .val (.int len), .unset]) (fun m => by first | (simp [entryFrame, mkF, argsToLocals, Value.category, maxLocals]; done) | rfl) ?_
  intro p e s m below meth c B
  refine B.newO 3 rfl d11_0 (wd hw 60 rfl) (wd hw 7 rfl) (wd hw 8 rfl) (by decide) (by decide) ?_
  intro h_o o e_o g_o X_o E_o D_o
  show B.G h_o 1 3 (mkF m 3 #[.val (.ref a), .val (.int len), .unset] [(.ref o)])
  have F0_o : Fld Z h_o o "io/keyvouch/der/DerReader" "der" "[B" .null := D_o (Or.inr (wd hw 19 rfl)) (ty := (.array .byte)) (by decide)
  have F1_o : Fld Z h_o o "io/keyvouch/der/DerReader" "pos" "I" (.int 0) := D_o (Or.inl (wd hw 21 rfl)) (ty := .int) (by decide)
  have F2_o : Fld Z h_o o "io/keyvouch/der/DerReader" "end" "I" (.int 0) := D_o (Or.inr (wd hw 23 rfl)) (ty := .int) (by decide)
  have Ex := E.ext X_o
  have Fdx := Fd.ext X_o
  have Fpx := Fp.ext X_o
  have Fnx := Fn.ext X_o
  have Ax := A.ext X_o
  have nao : a ≠ o := fun q => absurd E.lt (by rw [q, e_o]; exact Nat.lt_irrefl _)
  have ndo : d ≠ o := fun q => absurd A.lt (by rw [q, e_o]; exact Nat.lt_irrefl _)
  refine B.dup 4 rfl d11_3 rfl ?_
  refine B.aloadN 5 rfl d11_4 rfl rfl ?_
  refine B.getF 8 rfl d11_5 (wd hw 18 rfl) Fdx ?_
  refine B.aloadN 9 rfl d11_8 rfl rfl ?_
  refine B.getF 12 rfl d11_9 (wd hw 20 rfl) Fpx ?_
  refine B.aloadN 13 rfl d11_12 rfl rfl ?_
  refine B.getF 16 rfl d11_13 (wd hw 20 rfl) Fpx ?_
  refine B.iloadN 17 rfl d11_16 rfl ?_
  refine B.iadd 18 rfl d11_17 ?_
  refine B.topI pe hpl ?_
  refine B.callI 21 rfl d11_18 rfl (wd hw 12 rfl) (wd hw 13 rfl) (wd hw 8 rfl) (wd hw 14 rfl) (by decide) [(.ref d), (.int po), (.int pe)] [(.ref o)] (rm_i3 l Z a0 hw o d po pe h_o E_o F0_o F1_o F2_o) rfl rfl pd___BII_V rfl rfl 1 rfl (by decide) (by decide) (by decide) (by decide) (fun x z => Or.inr (by cases List.mem_singleton.mp z; exact g_o)) ?_
  rintro _ h2 K2 ⟨rfl, Gd, Gp, Gn⟩
  show B.G h2 1 3 (mkF m 21 #[.val (.ref a), .val (.int len), .unset] [(.ref o)])
  have E2 := Ex.keep K2
  have Fd2 := Fdx.keep K2 (ninS nao nin0)
  have Fp2 := Fpx.keep K2 (ninS nao nin0)
  have Fn2 := Fnx.keep K2 (ninS nao nin0)
  have A2 := Ax.keep K2 (ninS ndo nin0)
  have Eo2 := E_o.keep K2
  refine B.astoreN 22 rfl d11_21 rfl #[.val (.ref a), .val (.int len), .val (.ref o)] rfl ?_
  refine B.aloadN 23 rfl d11_22 rfl rfl ?_
  refine B.dup 24 rfl d11_23 rfl ?_
  refine B.getF 27 rfl d11_24 (wd hw 20 rfl) Fp2 ?_
  refine B.iloadN 28 rfl d11_27 rfl ?_
  refine B.iadd 29 rfl d11_28 ?_
  refine B.topI pe hpl ?_
  refine B.putF 32 rfl d11_29 (wd hw 20 rfl) Fp2 E2 (Or.inl (wd hw 21 rfl)) (wd hw 7 rfl) (ty := .int) (by decide) rfl rfl (Or.inl (by simp)) ?_
  intro h3 W3
  have E3 := E2.wr W3
  have Fd3 := Fd2.other W3 (Or.inr (slot_ne (Or.inr (wd hw 19 rfl)) (Or.inl (wd hw 21 rfl)) (by decide) (t := (.array .byte)) (t' := .int) (by decide) (by decide)))
  have Fp3 := Fp2.same W3
  have Fn3 := Fn2.other W3 (Or.inr (slot_ne (Or.inr (wd hw 23 rfl)) (Or.inl (wd hw 21 rfl)) (by decide) (t := .int) (t' := .int) (by decide) (by decide)))
  refine B.aloadN 33 rfl d11_32 rfl rfl ?_
  refine B.retA rfl rfl d11_33 (by decide) (by decide) ?_
  exact ⟨o, rfl, g_o, Eo2.wr W3, Gd.other W3 (Or.inl (Ne.symm nao)), Gp.other W3 (Or.inl (Ne.symm nao)), Gn.other W3 (Or.inl (Ne.symm nao)), Fd3, Fp3, Fn3, A2.other W3 nda⟩
theorem d6_0 : decode prog_8_method_24_code 0 = .ok (.aload_n 0, 1) := by decide +kernel
theorem d6_1 : decode prog_8_method_24_code 1 = .ok (.aload_n 0, 1) := by decide +kernel
theorem d6_2 : decode prog_8_method_24_code 2 = .ok (.iload_n 1, 1) := by decide +kernel
theorem d6_3 : decode prog_8_method_24_code 3 = .ok (.aload_n 2, 1) := by decide +kernel
theorem d6_4 : decode prog_8_method_24_code 4 = .ok (.invokevirtual 87, 3) := by decide +kernel
theorem d6_7 : decode prog_8_method_24_code 7 = .ok (.invokevirtual 50, 3) := by decide +kernel
theorem d6_10 : decode prog_8_method_24_code 10 = .ok (.areturn, 1) := by decide +kernel
theorem pn_6 : plainFor (⟨"io/keyvouch/der/DerReader", "readContents", "(ILjava/lang/String;)Lio/keyvouch/der/DerReader;"⟩ : MethodName) = true := by first | exact plainFor_of_name (by first | (simp [plainName, overriddenIn]; done) | decide +kernel) | decide +kernel
set_option maxRecDepth 65536 in
set_option maxHeartbeats 4000000 in
theorem rm_rc (l : Launch) (Z : State) (a0 : Array Value) (hw : ∀ d ∈ tables_1, d.before a0 Z = true) (a tx d : Addr) (tg po po1 po2 en xt x0 len : Int32) (j i : Nat) (vs : List Value) (pe : Int32) (h0 : Heap) (E : Exa Z h0 a "io/keyvouch/der/DerReader") (nda : d ≠ a) (Fd : Fld Z h0 a "io/keyvouch/der/DerReader" "der" "[B" (.ref d)) (Fp : Fld Z h0 a "io/keyvouch/der/DerReader" "pos" "I" (.int po)) (Fn : Fld Z h0 a "io/keyvouch/der/DerReader" "end" "I" (.int en)) (A : Ary Z h0 d .byte vs) (hpe : ¬ po = en) (hjt : ¬ po < 0) (hit : po.toNatClampNeg = j) (hvt : vs[j]? = some (.int xt)) (htag : xt &&& 255 = tg) (hpo : po + 1 = po1) (hpe1 : ¬ po1 = en) (hj : ¬ po1 < 0) (hi : po1.toNatClampNeg = i) (hv : vs[i]? = some (.int x0)) (hb8 : x0 &&& 255 < 128) (hpo2 : po1 + 1 = po2) (hle : ¬ (en - po2).toInt64 < (x0 &&& 255).toInt64) (hlen : (x0 &&& 255).toInt64.toInt32 = len) (hpl : po2 + len = pe) :
    Met l Z (⟨"io/keyvouch/der/DerReader", "readContents", "(ILjava/lang/String;)Lio/keyvouch/der/DerReader;"⟩ : MethodName) prog_8_method_24_code 3 (some (.object "io/keyvouch/der/DerReader")) [] ({ frames := 3, cells := 1, slots := 3, locals := 52 } : Room) #[(.ref a), (.int tg), (.ref tx)] h0 [a] (fun v h => ∃ o, v = some (.ref o) ∧ h0.size ≤ o ∧ Exa Z h o "io/keyvouch/der/DerReader" ∧ Fld Z h o "io/keyvouch/der/DerReader" "der" "[B" (.ref d) ∧ Fld Z h o "io/keyvouch/der/DerReader" "pos" "I" (.int po2) ∧ Fld Z h o "io/keyvouch/der/DerReader" "end" "I" (.int pe) ∧ Fld Z h a "io/keyvouch/der/DerReader" "der" "[B" (.ref d) ∧ Fld Z h a "io/keyvouch/der/DerReader" "pos" "I" (.int pe) ∧ Fld Z h a "io/keyvouch/der/DerReader" "end" "I" (.int en) ∧ Ary Z h d .byte vs) := by
  refine Met.walk pn_6 (Ls := #[.val (.ref a), .val (.int tg), .val (.ref tx)]) (fun m => by first | (simp [entryFrame, mkF, argsToLocals, Value.category, maxLocals]; done) | rfl) ?_
  intro p e s m below meth c B
  refine B.aloadN 1 rfl d6_0 rfl rfl ?_
  refine B.aloadN 2 rfl d6_1 rfl rfl ?_
  refine B.iloadN 3 rfl d6_2 rfl ?_
  refine B.aloadN 4 rfl d6_3 rfl rfl ?_
  refine B.callP 7 rfl d6_4 (wd hw 40 rfl) (wd hw 42 rfl) (wd hw 41 rfl) (wd hw 27 rfl) rfl (wd hw 8 rfl) (wd hw 43 rfl) (by decide) E [(.int tg), (.ref tx)] [(.ref a)] (rm_rh l Z a0 hw a tx d tg po po1 po2 en xt x0 len j i vs h0 E nda Fd Fp Fn A hpe hjt hit hvt htag hpo hpe1 hj hi hv hb8 hpo2 hle hlen) rfl rfl pd__ILjava_lang_String__I rfl rfl 1 rfl (by decide) (by decide) (by decide) (by decide) (fun x z => Or.inl z) ?_
  rintro _ h1 K1 ⟨rfl, Fd1, Fp1, Fn1, A1⟩
  show B.G h1 0 0 (mkF m 7 #[.val (.ref a), .val (.int tg), .val (.ref tx)] [(.int len), (.ref a)])
  have E1 := E.keep K1
  refine B.callP 10 rfl d6_7 (wd hw 56 rfl) (wd hw 58 rfl) (wd hw 57 rfl) (wd hw 27 rfl) rfl (wd hw 8 rfl) (wd hw 59 rfl) (by decide) E1 [(.int len)] [] (rm_sk l Z a0 hw a d po2 pe en len vs h1 E1 nda Fd1 Fp1 Fn1 A1 hpl) rfl rfl pd__I_Lio_keyvouch_der_DerReader_ rfl rfl 0 rfl (by decide) (by decide) (by decide) (by decide) (fun x z => Or.inl z) ?_
  rintro _ h2 K2 ⟨o, rfl, g_o, q⟩
  show B.G h2 1 3 (mkF m 10 #[.val (.ref a), .val (.int tg), .val (.ref tx)] [(.ref o)])
  refine B.retA rfl rfl d6_10 (by decide) (by decide) ?_
  exact ⟨o, rfl, Nat.le_trans K1.1 g_o, q⟩
theorem d5_0 : decode prog_8_method_5_code 0 = .ok (.aload_n 0, 1) := by decide +kernel
theorem d5_1 : decode prog_8_method_5_code 1 = .ok (.bipush 48, 2) := by decide +kernel
theorem d5_3 : decode prog_8_method_5_code 3 = .ok (.ldc 23, 2) := by decide +kernel
theorem d5_5 : decode prog_8_method_5_code 5 = .ok (.invokevirtual 25, 3) := by decide +kernel
theorem d5_8 : decode prog_8_method_5_code 8 = .ok (.areturn, 1) := by decide +kernel
theorem pn_5 : plainFor (⟨"io/keyvouch/der/DerReader", "readSequence", "()Lio/keyvouch/der/DerReader;"⟩ : MethodName) = true := by first | exact plainFor_of_name (by first | (simp [plainName, overriddenIn]; done) | decide +kernel) | decide +kernel
set_option maxRecDepth 65536 in
set_option maxHeartbeats 4000000 in
theorem rm_rs (l : Launch) (Z : State) (a0 : Array Value) (hw : ∀ d ∈ tables_1, d.before a0 Z = true) (a d : Addr) (po po1 po2 en xt x0 len : Int32) (j i : Nat) (vs : List Value) (pe : Int32) (h0 : Heap) (E : Exa Z h0 a "io/keyvouch/der/DerReader") (nda : d ≠ a) (Fd : Fld Z h0 a "io/keyvouch/der/DerReader" "der" "[B" (.ref d)) (Fp : Fld Z h0 a "io/keyvouch/der/DerReader" "pos" "I" (.int po)) (Fn : Fld Z h0 a "io/keyvouch/der/DerReader" "end" "I" (.int en)) (A : Ary Z h0 d .byte vs) (hpe : ¬ po = en) (hjt : ¬ po < 0) (hit : po.toNatClampNeg = j) (hvt : vs[j]? = some (.int xt)) (htag : xt &&& 255 = 48) (hpo : po + 1 = po1) (hpe1 : ¬ po1 = en) (hj : ¬ po1 < 0) (hi : po1.toNatClampNeg = i) (hv : vs[i]? = some (.int x0)) (hb8 : x0 &&& 255 < 128) (hpo2 : po1 + 1 = po2) (hle : ¬ (en - po2).toInt64 < (x0 &&& 255).toInt64) (hlen : (x0 &&& 255).toInt64.toInt32 = len) (hpl : po2 + len = pe) :
    MetW l Z (⟨"io/keyvouch/der/DerReader", "readSequence", "()Lio/keyvouch/der/DerReader;"⟩ : MethodName) prog_8_method_5_code 1 (some (.object "io/keyvouch/der/DerReader")) [] ({ frames := 4, cells := 3, slots := 39, locals := 66 } : Room) #[(.ref a)] h0 [a] (fun v h => ∃ o, v = some (.ref o) ∧ h0.size ≤ o ∧ Exa Z h o "io/keyvouch/der/DerReader" ∧ Fld Z h o "io/keyvouch/der/DerReader" "der" "[B" (.ref d) ∧ Fld Z h o "io/keyvouch/der/DerReader" "pos" "I" (.int po2) ∧ Fld Z h o "io/keyvouch/der/DerReader" "end" "I" (.int pe) ∧ Fld Z h a "io/keyvouch/der/DerReader" "der" "[B" (.ref d) ∧ Fld Z h a "io/keyvouch/der/DerReader" "pos" "I" (.int pe) ∧ Fld Z h a "io/keyvouch/der/DerReader" "end" "I" (.int en) ∧ Ary Z h d .byte vs) := by
  refine MetW.walk pn_5 (Ls := #[.val (.ref a)]) (fun m => by first | (simp [entryFrame, mkF, argsToLocals, Value.category, maxLocals]; done) | rfl) ?_
  intro p e s m below meth c B
  refine B.aloadN 1 rfl d5_0 rfl rfl ?_
  refine B.bipush 3 rfl (48 : Int32) d5_1 rfl ?_
  refine B.ldcS 5 rfl d5_3 (wd hw 29 rfl) (fun d q => hw d (own_strs d q)) 32 (by decide) (by decide) (by decide) (by decide) ?_
  intro tx h1 X1
  show B.G h1 2 36 (mkF m 5 #[.val (.ref a)] [(.ref tx), (.int (48 : Int32)), (.ref a)])
  refine B.callP 8 rfl d5_5 (wd hw 36 rfl) (wd hw 38 rfl) (wd hw 37 rfl) (wd hw 27 rfl) rfl (wd hw 8 rfl) (wd hw 39 rfl) (by decide) (E.ext X1) [(.int (48 : Int32)), (.ref tx)] [] (rm_rc l Z a0 hw a tx d (48 : Int32) po po1 po2 en xt x0 len j i vs pe h1 (E.ext X1) nda (Fd.ext X1) (Fp.ext X1) (Fn.ext X1) (A.ext X1) hpe hjt hit hvt htag hpo hpe1 hj hi hv hb8 hpo2 hle hlen hpl) rfl rfl pd__ILjava_lang_String__Lio_keyvouch_der_DerReader_ rfl rfl 0 rfl (by decide) (by decide) (by decide) (by decide) (fun x z => Or.inl z) ?_
  rintro _ h2 K2 ⟨o, rfl, g_o, q⟩
  show B.G h2 3 39 (mkF m 8 #[.val (.ref a)] [(.ref o)])
  refine B.retA rfl rfl d5_8 (by decide) (by decide) ?_
  exact ⟨o, rfl, Nat.le_trans X1.1 g_o, q⟩
theorem d14_0 : decode prog_8_method_20_code 0 = .ok (.iload_n 1, 1) := by decide +kernel
theorem d14_1 : decode prog_8_method_20_code 1 = .ok (.ifCond .eq 18, 3) := by decide +kernel
theorem d14_19 : decode prog_8_method_20_code 19 = .ok (.return_, 1) := by decide +kernel
theorem pn_14 : plainFor (⟨"io/keyvouch/der/DerReader", "checkNull", "(II)V"⟩ : MethodName) = true := by first | exact plainFor_of_name (by first | (simp [plainName, overriddenIn]; done) | decide +kernel) | decide +kernel
set_option maxRecDepth 65536 in
set_option maxHeartbeats 4000000 in
theorem rm_cn (l : Launch) (Z : State) (a0 : Array Value) (hw : ∀ d ∈ tables_1, d.before a0 Z = true) (u0 : Int32) (h0 : Heap)  :
    Met l Z (⟨"io/keyvouch/der/DerReader", "checkNull", "(II)V"⟩ : MethodName) prog_8_method_20_code 2 none [] ({ frames := 0, cells := 0, slots := 0, locals := 0 } : Room) #[(.int u0), (.int (0 : Int32))] h0 [] (fun v h => v = none ∧ h0 = h) := by
  refine Met.walk pn_14 (Ls := #[.val (.int u0), .val (.int (0 : Int32))]) (fun m => by first | (simp [entryFrame, mkF, argsToLocals, Value.category, maxLocals]; done) | rfl) ?_
  intro p e s m below meth c B
  refine B.iloadN 1 rfl d14_0 rfl ?_
  refine B.if0_eq 19 4 rfl (by decide) rfl d14_1 (fun c1 => ?_) (fun c1 => ?_)
  · refine B.ret0 d14_19 (by decide) (by decide) ?_
    exact ⟨rfl, rfl⟩
  · exact absurd c1 (by decide)
theorem d13_0 : decode prog_8_method_12_code 0 = .ok (.aload_n 0, 1) := by decide +kernel
theorem d13_1 : decode prog_8_method_12_code 1 = .ok (.getfield 16, 3) := by decide +kernel
theorem d13_4 : decode prog_8_method_12_code 4 = .ok (.istore_n 1, 1) := by decide +kernel
theorem d13_5 : decode prog_8_method_12_code 5 = .ok (.iload_n 1, 1) := by decide +kernel
theorem d13_6 : decode prog_8_method_12_code 6 = .ok (.aload_n 0, 1) := by decide +kernel
theorem d13_7 : decode prog_8_method_12_code 7 = .ok (.iconst 5, 1) := by decide +kernel
theorem d13_8 : decode prog_8_method_12_code 8 = .ok (.ldc 95, 2) := by decide +kernel
theorem d13_10 : decode prog_8_method_12_code 10 = .ok (.invokevirtual 87, 3) := by decide +kernel
theorem d13_13 : decode prog_8_method_12_code 13 = .ok (.invokestatic 97, 3) := by decide +kernel
theorem d13_16 : decode prog_8_method_12_code 16 = .ok (.return_, 1) := by decide +kernel
theorem pn_13 : plainFor (⟨"io/keyvouch/der/DerReader", "readNull", "()V"⟩ : MethodName) = true := by first | exact plainFor_of_name (by first | (simp [plainName, overriddenIn]; done) | decide +kernel) | decide +kernel
set_option maxRecDepth 65536 in
set_option maxHeartbeats 4000000 in
theorem rm_rn (l : Launch) (Z : State) (a0 : Array Value) (hw : ∀ d ∈ tables_1, d.before a0 Z = true) (a d : Addr) (po po1 po2 en xt x0 : Int32) (j i : Nat) (vs : List Value) (h0 : Heap) (E : Exa Z h0 a "io/keyvouch/der/DerReader") (nda : d ≠ a) (Fd : Fld Z h0 a "io/keyvouch/der/DerReader" "der" "[B" (.ref d)) (Fp : Fld Z h0 a "io/keyvouch/der/DerReader" "pos" "I" (.int po)) (Fn : Fld Z h0 a "io/keyvouch/der/DerReader" "end" "I" (.int en)) (A : Ary Z h0 d .byte vs) (hpe : ¬ po = en) (hjt : ¬ po < 0) (hit : po.toNatClampNeg = j) (hvt : vs[j]? = some (.int xt)) (htag : xt &&& 255 = 5) (hpo : po + 1 = po1) (hpe1 : ¬ po1 = en) (hj : ¬ po1 < 0) (hi : po1.toNatClampNeg = i) (hv : vs[i]? = some (.int x0)) (hb8 : x0 &&& 255 < 128) (hpo2 : po1 + 1 = po2) (hle : ¬ (en - po2).toInt64 < (x0 &&& 255).toInt64) (hlen : (x0 &&& 255).toInt64.toInt32 = 0) :
    MetW l Z (⟨"io/keyvouch/der/DerReader", "readNull", "()V"⟩ : MethodName) prog_8_method_12_code 2 none [] ({ frames := 3, cells := 2, slots := 20, locals := 52 } : Room) #[(.ref a)] h0 [a] (fun v h => v = none ∧ Fld Z h a "io/keyvouch/der/DerReader" "der" "[B" (.ref d) ∧ Fld Z h a "io/keyvouch/der/DerReader" "pos" "I" (.int po2) ∧ Fld Z h a "io/keyvouch/der/DerReader" "end" "I" (.int en) ∧ Ary Z h d .byte vs) := by
  refine MetW.walk pn_13 (Ls := #[.val (.ref a), .unset]) (fun m => by first | (simp [entryFrame, mkF, argsToLocals, Value.category, maxLocals]; done) | rfl) ?_
  intro p e s m below meth c B
  refine B.aloadN 1 rfl d13_0 rfl rfl ?_
  refine B.getF 4 rfl d13_1 (wd hw 20 rfl) Fp ?_
  refine B.istoreN 5 rfl d13_4 #[.val (.ref a), .val (.int po)] rfl ?_
  refine B.iloadN 6 rfl d13_5 rfl ?_
  refine B.aloadN 7 rfl d13_6 rfl rfl ?_
  refine B.iconst 8 rfl (5 : Int32) d13_7 rfl ?_
  refine B.ldcS 10 rfl d13_8 (wd hw 71 rfl) (fun d q => hw d (own_strs d q)) 16 (by decide) (by decide) (by decide) (by decide) ?_
  intro tx h1 X1
  show B.G h1 2 20 (mkF m 10 #[.val (.ref a), .val (.int po)] [(.ref tx), (.int (5 : Int32)), (.ref a), (.int po)])
  refine B.callP 13 rfl d13_10 (wd hw 40 rfl) (wd hw 42 rfl) (wd hw 41 rfl) (wd hw 27 rfl) rfl (wd hw 8 rfl) (wd hw 43 rfl) (by decide) (E.ext X1) [(.int (5 : Int32)), (.ref tx)] [(.int po)] (rm_rh l Z a0 hw a tx d (5 : Int32) po po1 po2 en xt x0 (0 : Int32) j i vs h1 (E.ext X1) nda (Fd.ext X1) (Fp.ext X1) (Fn.ext X1) (A.ext X1) hpe hjt hit hvt htag hpo hpe1 hj hi hv hb8 hpo2 hle hlen) rfl rfl pd__ILjava_lang_String__I rfl rfl 1 rfl (by decide) (by decide) (by decide) (by decide) (fun x z => Or.inl z) ?_
  rintro _ h2 K2 ⟨rfl, q⟩
  show B.G h2 2 20 (mkF m 13 #[.val (.ref a), .val (.int po)] [(.int (0 : Int32)), (.int po)])
  refine B.callS 16 rfl d13_13 (wd hw 72 rfl) (wd hw 73 rfl) (wd hw 8 rfl) (wd hw 74 rfl) (by decide) [(.int po), (.int (0 : Int32))] [] (rm_cn l Z a0 hw po h2) rfl rfl pd__II_V rfl rfl 0 rfl (by decide) (by decide) (by decide) (by decide) (fun _ q => nomatch q) ?_
  rintro _ _ - ⟨rfl, rfl⟩
  show B.G h2 2 20 (mkF m 16 #[.val (.ref a), .val (.int po)] [])
  refine B.ret0 d13_16 (by decide) (by decide) ?_
  exact ⟨rfl, q⟩
theorem d12_0 : decode prog_8_method_3_code 0 = .ok (.aload_n 0, 1) := by decide +kernel
theorem d12_1 : decode prog_8_method_3_code 1 = .ok (.getfield 16, 3) := by decide +kernel
theorem d12_4 : decode prog_8_method_3_code 4 = .ok (.aload_n 0, 1) := by decide +kernel
theorem d12_5 : decode prog_8_method_3_code 5 = .ok (.getfield 20, 3) := by decide +kernel
theorem d12_8 : decode prog_8_method_3_code 8 = .ok (.if_icmp .ge 7, 3) := by decide +kernel
theorem d12_15 : decode prog_8_method_3_code 15 = .ok (.iconst 0, 1) := by decide +kernel
theorem d12_16 : decode prog_8_method_3_code 16 = .ok (.ireturn, 1) := by decide +kernel
theorem pn_12 : plainFor (⟨"io/keyvouch/der/DerReader", "hasMore", "()Z"⟩ : MethodName) = true := by first | exact plainFor_of_name (by first | (simp [plainName, overriddenIn]; done) | decide +kernel) | decide +kernel
set_option maxRecDepth 65536 in
set_option maxHeartbeats 4000000 in
theorem rm_hm0 (l : Launch) (Z : State) (a0 : Array Value) (hw : ∀ d ∈ tables_1, d.before a0 Z = true) (a d : Addr) (po en : Int32) (h0 : Heap) (Fd : Fld Z h0 a "io/keyvouch/der/DerReader" "der" "[B" (.ref d)) (Fp : Fld Z h0 a "io/keyvouch/der/DerReader" "pos" "I" (.int po)) (Fn : Fld Z h0 a "io/keyvouch/der/DerReader" "end" "I" (.int en)) (hm : ¬ po < en) :
    Met l Z (⟨"io/keyvouch/der/DerReader", "hasMore", "()Z"⟩ : MethodName) prog_8_method_3_code 1 (some .boolean) [] ({ frames := 0, cells := 0, slots := 0, locals := 0 } : Room) #[(.ref a)] h0 [] (fun v h => v = some (.int (0 : Int32)) ∧ h0 = h) := by
  refine Met.walk pn_12 (Ls := #[.val (.ref a)]) (fun m => by first | (simp [entryFrame, mkF, argsToLocals, Value.category, maxLocals]; done) | rfl) ?_
  intro p e s m below meth c B
  refine B.aloadN 1 rfl d12_0 rfl rfl ?_
  refine B.getF 4 rfl d12_1 (wd hw 20 rfl) Fp ?_
  refine B.aloadN 5 rfl d12_4 rfl rfl ?_
  refine B.getF 8 rfl d12_5 (wd hw 22 rfl) Fn ?_
  refine B.icmp_ge 15 11 rfl (by decide) rfl d12_8 (fun c8 => ?_) (fun c8 => ?_)
  · refine B.iconst 16 rfl (0 : Int32) d12_15 rfl ?_
    refine B.retN (by simp) d12_16 (by decide) (by decide) ?_
    exact ⟨rfl, rfl⟩
  · exact absurd c8 hm
theorem d12_11 : decode prog_8_method_3_code 11 = .ok (.iconst 1, 1) := by decide +kernel
theorem d12_12 : decode prog_8_method_3_code 12 = .ok (.goto 4, 3) := by decide +kernel
set_option maxRecDepth 65536 in
set_option maxHeartbeats 4000000 in
theorem rm_hm1 (l : Launch) (Z : State) (a0 : Array Value) (hw : ∀ d ∈ tables_1, d.before a0 Z = true) (a d : Addr) (po en : Int32) (h0 : Heap) (Fd : Fld Z h0 a "io/keyvouch/der/DerReader" "der" "[B" (.ref d)) (Fp : Fld Z h0 a "io/keyvouch/der/DerReader" "pos" "I" (.int po)) (Fn : Fld Z h0 a "io/keyvouch/der/DerReader" "end" "I" (.int en)) (hm : po < en) :
    Met l Z (⟨"io/keyvouch/der/DerReader", "hasMore", "()Z"⟩ : MethodName) prog_8_method_3_code 1 (some .boolean) [] ({ frames := 0, cells := 0, slots := 0, locals := 0 } : Room) #[(.ref a)] h0 [] (fun v h => v = some (.int (1 : Int32)) ∧ h0 = h) := by
  refine Met.walk pn_12 (Ls := #[.val (.ref a)]) (fun m => by first | (simp [entryFrame, mkF, argsToLocals, Value.category, maxLocals]; done) | rfl) ?_
  intro p e s m below meth c B
  refine B.aloadN 1 rfl d12_0 rfl rfl ?_
  refine B.getF 4 rfl d12_1 (wd hw 20 rfl) Fp ?_
  refine B.aloadN 5 rfl d12_4 rfl rfl ?_
  refine B.getF 8 rfl d12_5 (wd hw 22 rfl) Fn ?_
  refine B.icmp_ge 15 11 rfl (by decide) rfl d12_8 (fun c8 => ?_) (fun c8 => ?_)
  · exact absurd hm c8
  · refine B.iconst 12 rfl (1 : Int32) d12_11 rfl ?_
    refine B.goto 16 rfl (by decide) d12_12 ?_
    refine B.retN (by simp) d12_16 (by decide) (by decide) ?_
    exact ⟨rfl, rfl⟩
theorem pn_0 : plainFor x = true := by first | exact plainFor_of_name (by first | (simp [plainName, overriddenIn]; done) | decide +kernel) | decide +kernel
set_option maxRecDepth 65536 in
set_option maxHeartbeats 4000000 in
theorem rm0 (l : Launch) (Z : State) (a0 : Array Value) (hw : ∀ d ∈ tables_1, d.before a0 Z = true) (wds : List Jvm.Cond) (p1 p2 p3 p4 : Int32) (h0 : Heap)  :
    MetW l Z x code maxLocals ret wds room_1 #[(.int p1), (.int p2), (.int p3), (.int p4)] h0 [] (fun v _ => v = some (.int 1)) := by
  refine MetW.walk pn_0 (Ls := #[.val (.int p1), .val (.int p2), .val (.int p3), .val (.int p4), .unset, .unset, .unset, .unset, .unset, .unset, .unset, .unset, .unset]) (fun m => by first | (simp [entryFrame, mkF, argsToLocals, Value.category, maxLocals]; done) | rfl) ?_
  intro p e s m below meth c B
  refine B.iloadN 1 rfl at_0 rfl ?_
  refine B.ldcI 3 rfl at_1 (wd hw 0 rfl) ?_
  refine B.iand 4 rfl at_3 ?_
  refine B.iconst 5 rfl (3 : Int32) at_4 rfl ?_
  refine B.irem 6 rfl at_5 (by decide) ?_
  rcases own_3 p1 with qk | qk | qk
  · refine B.topI (0 : Int32) qk ?_
    refine B.istore 8 rfl at_6 #[.val (.int p1), .val (.int p2), .val (.int p3), .val (.int p4), .val (.int (0 : Int32)), .unset, .unset, .unset, .unset, .unset, .unset, .unset, .unset] rfl ?_
    refine B.iloadN 9 rfl at_8 rfl ?_
    refine B.ldcI 11 rfl at_9 (wd hw 0 rfl) ?_
    refine B.iand 12 rfl at_11 ?_
    refine B.iconst 13 rfl (3 : Int32) at_12 rfl ?_
    refine B.irem 14 rfl at_13 (by decide) ?_
    rcases own_3 p2 with qm | qm | qm
    · refine B.topI (0 : Int32) qm ?_
      refine B.istore 16 rfl at_14 #[.val (.int p1), .val (.int p2), .val (.int p3), .val (.int p4), .val (.int (0 : Int32)), .val (.int (0 : Int32)), .unset, .unset, .unset, .unset, .unset, .unset, .unset] rfl ?_
      refine B.iloadN 17 rfl at_16 rfl ?_
      refine B.ldcI 19 rfl at_17 (wd hw 0 rfl) ?_
      refine B.iand 20 rfl at_19 ?_
      refine B.iconst 21 rfl (3 : Int32) at_20 rfl ?_
      refine B.irem 22 rfl at_21 (by decide) ?_
      refine B.iload 24 rfl at_22 rfl ?_
      refine B.callS 27 rfl at_24 (wd hw 1 rfl) (wd hw 2 rfl) (wd hw 3 rfl) (wd hw 4 rfl) (by decide) [(.int ((p3 &&& (2147483647 : Int32)) % (3 : Int32))), (.int (0 : Int32))] [] (rm_min l Z a0 hw ((p3 &&& (2147483647 : Int32)) % (3 : Int32)) (0 : Int32) h0) rfl rfl pd__II_I rfl rfl 0 rfl (by decide) (by decide) (by decide) (by decide) (fun _ q => nomatch q) ?_
      rintro _ _ - ⟨rfl, rfl⟩
      show B.G h0 0 0 (mkF m 27 #[.val (.int p1), .val (.int p2), .val (.int p3), .val (.int p4), .val (.int (0 : Int32)), .val (.int (0 : Int32)), .unset, .unset, .unset, .unset, .unset, .unset, .unset] [(.int (own_min ((p3 &&& (2147483647 : Int32)) % (3 : Int32)) (0 : Int32)))])
      refine B.topI (0 : Int32) (own_r0 p3) ?_
      refine B.istore 29 rfl at_27 #[.val (.int p1), .val (.int p2), .val (.int p3), .val (.int p4), .val (.int (0 : Int32)), .val (.int (0 : Int32)), .val (.int (0 : Int32)), .unset, .unset, .unset, .unset, .unset, .unset] rfl ?_
      refine B.iloadN 30 rfl at_29 rfl ?_
      refine B.ldcI 32 rfl at_30 (wd hw 0 rfl) ?_
      refine B.iand 33 rfl at_32 ?_
      refine B.iconst 34 rfl (3 : Int32) at_33 rfl ?_
      refine B.irem 35 rfl at_34 (by decide) ?_
      refine B.iload 37 rfl at_35 rfl ?_
      refine B.callS 40 rfl at_37 (wd hw 1 rfl) (wd hw 2 rfl) (wd hw 3 rfl) (wd hw 4 rfl) (by decide) [(.int ((p4 &&& (2147483647 : Int32)) % (3 : Int32))), (.int (0 : Int32))] [] (rm_min l Z a0 hw ((p4 &&& (2147483647 : Int32)) % (3 : Int32)) (0 : Int32) h0) rfl rfl pd__II_I rfl rfl 0 rfl (by decide) (by decide) (by decide) (by decide) (fun _ q => nomatch q) ?_
      rintro _ _ - ⟨rfl, rfl⟩
      show B.G h0 0 0 (mkF m 40 #[.val (.int p1), .val (.int p2), .val (.int p3), .val (.int p4), .val (.int (0 : Int32)), .val (.int (0 : Int32)), .val (.int (0 : Int32)), .unset, .unset, .unset, .unset, .unset, .unset] [(.int (own_min ((p4 &&& (2147483647 : Int32)) % (3 : Int32)) (0 : Int32)))])
      refine B.topI (0 : Int32) (own_r0 p4) ?_
      refine B.istore 42 rfl at_40 #[.val (.int p1), .val (.int p2), .val (.int p3), .val (.int p4), .val (.int (0 : Int32)), .val (.int (0 : Int32)), .val (.int (0 : Int32)), .val (.int (0 : Int32)), .unset, .unset, .unset, .unset, .unset] rfl ?_
      refine B.iconst 43 rfl (2 : Int32) at_42 rfl ?_
      refine B.iconst 44 rfl (2 : Int32) at_43 rfl ?_
      refine B.iload 46 rfl at_44 rfl ?_
      refine B.imul 47 rfl at_46 ?_
      refine B.topI (0 : Int32) (by decide) ?_
      refine B.iadd 48 rfl at_47 ?_
      refine B.topI (2 : Int32) (by decide) ?_
      refine B.iconst 49 rfl (2 : Int32) at_48 rfl ?_
      refine B.iload 51 rfl at_49 rfl ?_
      refine B.imul 52 rfl at_51 ?_
      refine B.topI (0 : Int32) (by decide) ?_
      refine B.iadd 53 rfl at_52 ?_
      refine B.topI (2 : Int32) (by decide) ?_
      refine B.istore 55 rfl at_53 #[.val (.int p1), .val (.int p2), .val (.int p3), .val (.int p4), .val (.int (0 : Int32)), .val (.int (0 : Int32)), .val (.int (0 : Int32)), .val (.int (0 : Int32)), .val (.int (2 : Int32)), .unset, .unset, .unset, .unset] rfl ?_
      refine B.iload 57 rfl at_55 rfl ?_
      refine B.newP 59 rfl at_57 (wd hw 5 rfl) (by decide) 2 (by decide) (by decide) (by decide) (by decide) ?_
      intro h_d d e_d g_d X_d A_d
      replace A_d : Ary Z h_d d .byte [(.int (0 : Int32)), (.int (0 : Int32))] := A_d
      show B.G h_d 1 2 (mkF m 59 #[.val (.int p1), .val (.int p2), .val (.int p3), .val (.int p4), .val (.int (0 : Int32)), .val (.int (0 : Int32)), .val (.int (0 : Int32)), .val (.int (0 : Int32)), .val (.int (2 : Int32)), .unset, .unset, .unset, .unset] [(.ref d)])
      refine B.astore 61 rfl at_59 rfl #[.val (.int p1), .val (.int p2), .val (.int p3), .val (.int p4), .val (.int (0 : Int32)), .val (.int (0 : Int32)), .val (.int (0 : Int32)), .val (.int (0 : Int32)), .val (.int (2 : Int32)), .val (.ref d), .unset, .unset, .unset] rfl ?_
      refine B.aload 63 rfl at_61 rfl rfl ?_
      refine B.iconst 64 rfl (0 : Int32) at_63 rfl ?_
      refine B.bipush 66 rfl (48 : Int32) at_64 rfl ?_
      refine B.bastore 67 rfl at_66 A_d (by decide) 0 rfl (by simp) (Or.inr g_d) ?_
      intro hs1 Ws1 As1
      rw [show (((48 : Int32)).toInt8.toInt32) = (48 : Int32) from by decide] at As1
      replace As1 : Ary Z hs1 d .byte [(.int (48 : Int32)), (.int (0 : Int32))] := As1
      refine B.aload 69 rfl at_67 rfl rfl ?_
      refine B.iconst 70 rfl (1 : Int32) at_69 rfl ?_
      refine B.iconst 71 rfl (2 : Int32) at_70 rfl ?_
      refine B.iload 73 rfl at_71 rfl ?_
      refine B.imul 74 rfl at_73 ?_
      refine B.topI (0 : Int32) (by decide) ?_
      refine B.i2b 75 rfl at_74 ?_
      refine B.topI (0 : Int32) (by decide) ?_
      refine B.bastore 76 rfl at_75 As1 (by decide) 1 rfl (by simp) (Or.inr g_d) ?_
      intro hs2 Ws2 As2
      rw [show (((0 : Int32)).toInt8.toInt32) = (0 : Int32) from by decide] at As2
      replace As2 : Ary Z hs2 d .byte [(.int (48 : Int32)), (.int (0 : Int32))] := As2
      refine B.iload 78 rfl at_76 rfl ?_
      refine B.iconst 79 rfl (2 : Int32) at_78 rfl ?_
      refine B.icmp_le 87 82 rfl (by decide) rfl at_79 (fun c79 => ?_) (fun c79 => ?_)
      · refine B.iload 89 rfl at_87 rfl ?_
        refine B.iconst 90 rfl (4 : Int32) at_89 rfl ?_
        refine B.icmp_le 98 93 rfl (by decide) rfl at_90 (fun c90 => ?_) (fun c90 => ?_)
        · refine B.iload 100 rfl at_98 rfl ?_
          refine B.bipush 102 rfl (6 : Int32) at_100 rfl ?_
          refine B.icmp_le 111 105 rfl (by decide) rfl at_102 (fun c102 => ?_) (fun c102 => ?_)
          · refine B.iload 113 rfl at_111 rfl ?_
            refine B.bipush 115 rfl (8 : Int32) at_113 rfl ?_
            refine B.icmp_le 124 118 rfl (by decide) rfl at_115 (fun c115 => ?_) (fun c115 => ?_)
            · refine B.newO 127 rfl at_124 (wd hw 6 rfl) (wd hw 7 rfl) (wd hw 8 rfl) (by decide) (by decide) ?_
              intro h_r r e_r g_r X_r E_r D_r
              show B.G h_r 2 5 (mkF m 127 #[.val (.int p1), .val (.int p2), .val (.int p3), .val (.int p4), .val (.int (0 : Int32)), .val (.int (0 : Int32)), .val (.int (0 : Int32)), .val (.int (0 : Int32)), .val (.int (2 : Int32)), .val (.ref d), .unset, .unset, .unset] [(.ref r)])
              have n_d_r : d ≠ r := fun q => absurd As2.lt (by rw [q, e_r]; exact Nat.lt_irrefl _)
              have A_d_4 := As2.ext X_r
              have F0_r : Fld Z h_r r "io/keyvouch/der/DerReader" "der" "[B" .null := D_r (Or.inr (wd hw 19 rfl)) (ty := (.array .byte)) (by decide)
              have F1_r : Fld Z h_r r "io/keyvouch/der/DerReader" "pos" "I" (.int 0) := D_r (Or.inl (wd hw 21 rfl)) (ty := .int) (by decide)
              have F2_r : Fld Z h_r r "io/keyvouch/der/DerReader" "end" "I" (.int 0) := D_r (Or.inr (wd hw 23 rfl)) (ty := .int) (by decide)
              refine B.dup 128 rfl at_127 rfl ?_
              refine B.aload 130 rfl at_128 rfl rfl ?_
              refine B.callI 133 rfl at_130 rfl (wd hw 9 rfl) (wd hw 10 rfl) (wd hw 8 rfl) (wd hw 11 rfl) (by decide) [(.ref d)] [(.ref r)] (rm_i1 l Z a0 hw r d (2 : Int32) [(.int (48 : Int32)), (.int (0 : Int32))] h_r A_d_4 rfl E_r F0_r F1_r F2_r) rfl rfl pd___B_V rfl rfl 1 rfl (by decide) (by decide) (by decide) (by decide) (fun x z => Or.inr (by cases List.mem_singleton.mp z; exact g_r)) ?_
              rintro _ h_r2 K_r2 ⟨rfl, Fd_r, Fp_r, Fn_r⟩
              show B.G h_r2 2 5 (mkF m 133 #[.val (.int p1), .val (.int p2), .val (.int p3), .val (.int p4), .val (.int (0 : Int32)), .val (.int (0 : Int32)), .val (.int (0 : Int32)), .val (.int (0 : Int32)), .val (.int (2 : Int32)), .val (.ref d), .unset, .unset, .unset] [(.ref r)])
              have A_d_5 := A_d_4.keep K_r2 (ninS n_d_r nin0)
              have E_r_5 := E_r.keep K_r2
              refine B.astore 135 rfl at_133 rfl #[.val (.int p1), .val (.int p2), .val (.int p3), .val (.int p4), .val (.int (0 : Int32)), .val (.int (0 : Int32)), .val (.int (0 : Int32)), .val (.int (0 : Int32)), .val (.int (2 : Int32)), .val (.ref d), .val (.ref r), .unset, .unset] rfl ?_
              refine B.aload 137 rfl at_135 rfl rfl ?_
              refine B.callVW 140 rfl at_137 (wd hw 24 rfl) (wd hw 25 rfl) (wd hw 27 rfl) (wd hw 26 rfl) (wd hw 8 rfl) (wd hw 28 rfl) (by decide) E_r_5 [] [] (rm_rs l Z a0 hw r d (0 : Int32) (1 : Int32) (2 : Int32) (2 : Int32) (48 : Int32) (0 : Int32) (0 : Int32) 0 1 [(.int (48 : Int32)), (.int (0 : Int32))] (2 : Int32) h_r2 E_r_5 n_d_r Fd_r Fp_r Fn_r A_d_5 (by decide) (by decide) (by decide) rfl (by decide) (by decide) (by decide) (by decide) (by decide) rfl (by decide) (by decide) (by decide) (by decide) (by decide)) rfl rfl pd___Lio_keyvouch_der_DerReader_ rfl rfl 0 rfl (by decide) (by decide) (by decide) (by decide) (fun x z => Or.inr (by cases List.mem_singleton.mp z; exact g_r)) ?_
              rintro _ h_s K_s ⟨sq, rfl, g_s, E_s, Fd_s, Fp_s, Fn_s, Fd_r3, Fp_r3, Fn_r3, A_d3⟩
              show B.G h_s 5 44 (mkF m 140 #[.val (.int p1), .val (.int p2), .val (.int p3), .val (.int p4), .val (.int (0 : Int32)), .val (.int (0 : Int32)), .val (.int (0 : Int32)), .val (.int (0 : Int32)), .val (.int (2 : Int32)), .val (.ref d), .val (.ref r), .unset, .unset] [(.ref sq)])
              have n_r_sq : r ≠ sq := fun q => absurd E_r_5.lt (by rw [q]; exact Nat.not_lt.mpr g_s)
              have n_d_sq : d ≠ sq := fun q => absurd A_d_5.lt (by rw [q]; exact Nat.not_lt.mpr g_s)
              have g_s0 : h0.size ≤ sq := Nat.le_trans (Nat.le_trans g_r (Nat.le_of_lt E_r_5.lt)) g_s
              have A_d_6 := A_d_5.keep K_s (ninS n_d_r nin0)
              have E_r_6 := E_r_5.keep K_s
              refine B.astore 142 rfl at_140 rfl #[.val (.int p1), .val (.int p2), .val (.int p3), .val (.int p4), .val (.int (0 : Int32)), .val (.int (0 : Int32)), .val (.int (0 : Int32)), .val (.int (0 : Int32)), .val (.int (2 : Int32)), .val (.ref d), .val (.ref r), .val (.ref sq), .unset] rfl ?_
              refine B.aload 144 rfl at_142 rfl rfl ?_
              refine B.callV 147 rfl at_144 (wd hw 61 rfl) (wd hw 62 rfl) (wd hw 64 rfl) (wd hw 63 rfl) (wd hw 8 rfl) (wd hw 65 rfl) (by decide) E_r_6 [] [] (rm_hm0 l Z a0 hw r d (2 : Int32) (2 : Int32) h_s Fd_r3 Fp_r3 Fn_r3 (by decide)) rfl rfl pd___Z rfl rfl 0 rfl (by decide) (by decide) (by decide) (by decide) (fun _ q => nomatch q) ?_
              rintro _ _ - ⟨rfl, rfl⟩
              show B.G h_s 5 44 (mkF m 147 #[.val (.int p1), .val (.int p2), .val (.int p3), .val (.int p4), .val (.int (0 : Int32)), .val (.int (0 : Int32)), .val (.int (0 : Int32)), .val (.int (0 : Int32)), .val (.int (2 : Int32)), .val (.ref d), .val (.ref r), .val (.ref sq), .unset] [(.int (0 : Int32))])
              refine B.iload 149 rfl at_147 rfl ?_
              refine B.if0_le 156 152 rfl (by decide) rfl at_149 (fun c149 => ?_) (fun c149 => ?_)
              · refine B.iconst 157 rfl (0 : Int32) at_156 rfl ?_
                refine B.icmp_ne 182 160 rfl (by decide) rfl at_157 (fun c157 => ?_) (fun c157 => ?_)
                · exact absurd c157 (by decide)
                · refine B.aload 162 rfl at_160 rfl rfl ?_
                  refine B.callV 165 rfl at_162 (wd hw 61 rfl) (wd hw 62 rfl) (wd hw 64 rfl) (wd hw 63 rfl) (wd hw 8 rfl) (wd hw 65 rfl) (by decide) E_s [] [] (rm_hm0 l Z a0 hw sq d (2 : Int32) (2 : Int32) h_s Fd_s Fp_s Fn_s (by decide)) rfl rfl pd___Z rfl rfl 0 rfl (by decide) (by decide) (by decide) (by decide) (fun _ q => nomatch q) ?_
                  rintro _ _ - ⟨rfl, rfl⟩
                  show B.G h_s 5 44 (mkF m 165 #[.val (.int p1), .val (.int p2), .val (.int p3), .val (.int p4), .val (.int (0 : Int32)), .val (.int (0 : Int32)), .val (.int (0 : Int32)), .val (.int (0 : Int32)), .val (.int (2 : Int32)), .val (.ref d), .val (.ref r), .val (.ref sq), .unset] [(.int (0 : Int32))])
                  refine B.iload 167 rfl at_165 rfl ?_
                  refine B.if0_le 174 170 rfl (by decide) rfl at_167 (fun c167 => ?_) (fun c167 => ?_)
                  · refine B.iconst 175 rfl (0 : Int32) at_174 rfl ?_
                    refine B.icmp_ne 182 178 rfl (by decide) rfl at_175 (fun c175 => ?_) (fun c175 => ?_)
                    · exact absurd c175 (by decide)
                    · refine B.iconst 179 rfl (1 : Int32) at_178 rfl ?_
                      refine B.goto 183 rfl (by decide) at_179 ?_
                      refine B.istore 185 rfl at_183 #[.val (.int p1), .val (.int p2), .val (.int p3), .val (.int p4), .val (.int (0 : Int32)), .val (.int (0 : Int32)), .val (.int (0 : Int32)), .val (.int (0 : Int32)), .val (.int (2 : Int32)), .val (.ref d), .val (.ref r), .val (.ref sq), .val (.int (1 : Int32))] rfl ?_
                      refine B.iload 187 rfl at_185 rfl ?_
                      refine B.iconst 188 rfl (1 : Int32) at_187 rfl ?_
                      refine B.icmp_lt 196 191 rfl (by decide) rfl at_188 (fun c188 => ?_) (fun c188 => ?_)
                      · refine B.iload 198 rfl at_196 rfl ?_
                        refine B.iconst 199 rfl (2 : Int32) at_198 rfl ?_
                        refine B.icmp_lt 207 202 rfl (by decide) rfl at_199 (fun c199 => ?_) (fun c199 => ?_)
                        · refine B.iload 209 rfl at_207 rfl ?_
                          refine B.iconst 210 rfl (1 : Int32) at_209 rfl ?_
                          refine B.icmp_lt 218 213 rfl (by decide) rfl at_210 (fun c210 => ?_) (fun c210 => ?_)
                          · refine B.iload 220 rfl at_218 rfl ?_
                            refine B.iconst 221 rfl (2 : Int32) at_220 rfl ?_
                            refine B.icmp_lt 229 224 rfl (by decide) rfl at_221 (fun c221 => ?_) (fun c221 => ?_)
                            · refine B.iload 231 rfl at_229 rfl ?_
                              refine B.if0_eq 278 234 rfl (by decide) rfl at_231 (fun c231 => ?_) (fun c231 => ?_)
                              · exact absurd c231 (by decide)
                              · refine B.aload 236 rfl at_234 rfl rfl ?_
                                refine B.callV 239 rfl at_236 (wd hw 61 rfl) (wd hw 62 rfl) (wd hw 64 rfl) (wd hw 63 rfl) (wd hw 8 rfl) (wd hw 65 rfl) (by decide) E_s [] [] (rm_hm0 l Z a0 hw sq d (2 : Int32) (2 : Int32) h_s Fd_s Fp_s Fn_s (by decide)) rfl rfl pd___Z rfl rfl 0 rfl (by decide) (by decide) (by decide) (by decide) (fun _ q => nomatch q) ?_
                                rintro _ _ - ⟨rfl, rfl⟩
                                show B.G h_s 5 44 (mkF m 239 #[.val (.int p1), .val (.int p2), .val (.int p3), .val (.int p4), .val (.int (0 : Int32)), .val (.int (0 : Int32)), .val (.int (0 : Int32)), .val (.int (0 : Int32)), .val (.int (2 : Int32)), .val (.ref d), .val (.ref r), .val (.ref sq), .val (.int (1 : Int32))] [(.int (0 : Int32))])
                                refine B.iload 241 rfl at_239 rfl ?_
                                refine B.iload 243 rfl at_241 rfl ?_
                                refine B.icmp_ge 250 246 rfl (by decide) rfl at_243 (fun c243 => ?_) (fun c243 => ?_)
                                · refine B.iconst 251 rfl (0 : Int32) at_250 rfl ?_
                                  refine B.icmp_ne 278 254 rfl (by decide) rfl at_251 (fun c251 => ?_) (fun c251 => ?_)
                                  · exact absurd c251 (by decide)
                                  · refine B.aload 256 rfl at_254 rfl rfl ?_
                                    refine B.callV 259 rfl at_256 (wd hw 61 rfl) (wd hw 62 rfl) (wd hw 64 rfl) (wd hw 63 rfl) (wd hw 8 rfl) (wd hw 65 rfl) (by decide) E_r_6 [] [] (rm_hm0 l Z a0 hw r d (2 : Int32) (2 : Int32) h_s Fd_r3 Fp_r3 Fn_r3 (by decide)) rfl rfl pd___Z rfl rfl 0 rfl (by decide) (by decide) (by decide) (by decide) (fun _ q => nomatch q) ?_
                                    rintro _ _ - ⟨rfl, rfl⟩
                                    show B.G h_s 5 44 (mkF m 259 #[.val (.int p1), .val (.int p2), .val (.int p3), .val (.int p4), .val (.int (0 : Int32)), .val (.int (0 : Int32)), .val (.int (0 : Int32)), .val (.int (0 : Int32)), .val (.int (2 : Int32)), .val (.ref d), .val (.ref r), .val (.ref sq), .val (.int (1 : Int32))] [(.int (0 : Int32))])
                                    refine B.iload 261 rfl at_259 rfl ?_
                                    refine B.iload 263 rfl at_261 rfl ?_
                                    refine B.icmp_ge 270 266 rfl (by decide) rfl at_263 (fun c263 => ?_) (fun c263 => ?_)
                                    · refine B.iconst 271 rfl (0 : Int32) at_270 rfl ?_
                                      refine B.icmp_ne 278 274 rfl (by decide) rfl at_271 (fun c271 => ?_) (fun c271 => ?_)
                                      · exact absurd c271 (by decide)
                                      · refine B.iconst 275 rfl (1 : Int32) at_274 rfl ?_
                                        refine B.goto 279 rfl (by decide) at_275 ?_
                                        refine B.istore 281 rfl at_279 #[.val (.int p1), .val (.int p2), .val (.int p3), .val (.int p4), .val (.int (0 : Int32)), .val (.int (0 : Int32)), .val (.int (0 : Int32)), .val (.int (0 : Int32)), .val (.int (2 : Int32)), .val (.ref d), .val (.ref r), .val (.ref sq), .val (.int (1 : Int32))] rfl ?_
                                        refine B.iload 283 rfl at_281 rfl ?_
                                        refine B.retN (by simp) at_283 (by decide) (by decide) ?_
                                        exact rfl
                                    · exact absurd c263 (by decide)
                                · exact absurd c243 (by decide)
                            · exact absurd c221 (by decide)
                          · exact absurd c210 (by decide)
                        · exact absurd c199 (by decide)
                      · exact absurd c188 (by decide)
                  · exact absurd c167 (by decide)
              · exact absurd c149 (by decide)
            · exact absurd c115 (by decide)
          · exact absurd c102 (by decide)
        · exact absurd c90 (by decide)
      · exact absurd c79 (by decide)
    · refine B.topI (1 : Int32) qm ?_
      refine B.istore 16 rfl at_14 #[.val (.int p1), .val (.int p2), .val (.int p3), .val (.int p4), .val (.int (0 : Int32)), .val (.int (1 : Int32)), .unset, .unset, .unset, .unset, .unset, .unset, .unset] rfl ?_
      refine B.iloadN 17 rfl at_16 rfl ?_
      refine B.ldcI 19 rfl at_17 (wd hw 0 rfl) ?_
      refine B.iand 20 rfl at_19 ?_
      refine B.iconst 21 rfl (3 : Int32) at_20 rfl ?_
      refine B.irem 22 rfl at_21 (by decide) ?_
      refine B.iload 24 rfl at_22 rfl ?_
      refine B.callS 27 rfl at_24 (wd hw 1 rfl) (wd hw 2 rfl) (wd hw 3 rfl) (wd hw 4 rfl) (by decide) [(.int ((p3 &&& (2147483647 : Int32)) % (3 : Int32))), (.int (0 : Int32))] [] (rm_min l Z a0 hw ((p3 &&& (2147483647 : Int32)) % (3 : Int32)) (0 : Int32) h0) rfl rfl pd__II_I rfl rfl 0 rfl (by decide) (by decide) (by decide) (by decide) (fun _ q => nomatch q) ?_
      rintro _ _ - ⟨rfl, rfl⟩
      show B.G h0 0 0 (mkF m 27 #[.val (.int p1), .val (.int p2), .val (.int p3), .val (.int p4), .val (.int (0 : Int32)), .val (.int (1 : Int32)), .unset, .unset, .unset, .unset, .unset, .unset, .unset] [(.int (own_min ((p3 &&& (2147483647 : Int32)) % (3 : Int32)) (0 : Int32)))])
      refine B.topI (0 : Int32) (own_r0 p3) ?_
      refine B.istore 29 rfl at_27 #[.val (.int p1), .val (.int p2), .val (.int p3), .val (.int p4), .val (.int (0 : Int32)), .val (.int (1 : Int32)), .val (.int (0 : Int32)), .unset, .unset, .unset, .unset, .unset, .unset] rfl ?_
      refine B.iloadN 30 rfl at_29 rfl ?_
      refine B.ldcI 32 rfl at_30 (wd hw 0 rfl) ?_
      refine B.iand 33 rfl at_32 ?_
      refine B.iconst 34 rfl (3 : Int32) at_33 rfl ?_
      refine B.irem 35 rfl at_34 (by decide) ?_
      refine B.iload 37 rfl at_35 rfl ?_
      refine B.callS 40 rfl at_37 (wd hw 1 rfl) (wd hw 2 rfl) (wd hw 3 rfl) (wd hw 4 rfl) (by decide) [(.int ((p4 &&& (2147483647 : Int32)) % (3 : Int32))), (.int (1 : Int32))] [] (rm_min l Z a0 hw ((p4 &&& (2147483647 : Int32)) % (3 : Int32)) (1 : Int32) h0) rfl rfl pd__II_I rfl rfl 0 rfl (by decide) (by decide) (by decide) (by decide) (fun _ q => nomatch q) ?_
      rintro _ _ - ⟨rfl, rfl⟩
      show B.G h0 0 0 (mkF m 40 #[.val (.int p1), .val (.int p2), .val (.int p3), .val (.int p4), .val (.int (0 : Int32)), .val (.int (1 : Int32)), .val (.int (0 : Int32)), .unset, .unset, .unset, .unset, .unset, .unset] [(.int (own_min ((p4 &&& (2147483647 : Int32)) % (3 : Int32)) (1 : Int32)))])
      obtain ⟨rr, err, hrr⟩ : ∃ z : Int32, own_min ((p4 &&& 2147483647) % 3) 1 = z ∧ (z = 0 ∨ z = 1) := ⟨_, rfl, own_r1 p4⟩
      refine B.topI rr err ?_
      refine B.istore 42 rfl at_40 #[.val (.int p1), .val (.int p2), .val (.int p3), .val (.int p4), .val (.int (0 : Int32)), .val (.int (1 : Int32)), .val (.int (0 : Int32)), .val (.int rr), .unset, .unset, .unset, .unset, .unset] rfl ?_
      refine B.iconst 43 rfl (2 : Int32) at_42 rfl ?_
      refine B.iconst 44 rfl (2 : Int32) at_43 rfl ?_
      refine B.iload 46 rfl at_44 rfl ?_
      refine B.imul 47 rfl at_46 ?_
      refine B.topI (0 : Int32) (by decide) ?_
      refine B.iadd 48 rfl at_47 ?_
      refine B.topI (2 : Int32) (by decide) ?_
      refine B.iconst 49 rfl (2 : Int32) at_48 rfl ?_
      refine B.iload 51 rfl at_49 rfl ?_
      refine B.imul 52 rfl at_51 ?_
      refine B.topI (2 : Int32) (by decide) ?_
      refine B.iadd 53 rfl at_52 ?_
      refine B.topI (4 : Int32) (by decide) ?_
      refine B.istore 55 rfl at_53 #[.val (.int p1), .val (.int p2), .val (.int p3), .val (.int p4), .val (.int (0 : Int32)), .val (.int (1 : Int32)), .val (.int (0 : Int32)), .val (.int rr), .val (.int (4 : Int32)), .unset, .unset, .unset, .unset] rfl ?_
      refine B.iload 57 rfl at_55 rfl ?_
      refine B.newP 59 rfl at_57 (wd hw 5 rfl) (by decide) 4 (by decide) (by decide) (by decide) (by decide) ?_
      intro h_d d e_d g_d X_d A_d
      replace A_d : Ary Z h_d d .byte [(.int (0 : Int32)), (.int (0 : Int32)), (.int (0 : Int32)), (.int (0 : Int32))] := A_d
      show B.G h_d 1 4 (mkF m 59 #[.val (.int p1), .val (.int p2), .val (.int p3), .val (.int p4), .val (.int (0 : Int32)), .val (.int (1 : Int32)), .val (.int (0 : Int32)), .val (.int rr), .val (.int (4 : Int32)), .unset, .unset, .unset, .unset] [(.ref d)])
      refine B.astore 61 rfl at_59 rfl #[.val (.int p1), .val (.int p2), .val (.int p3), .val (.int p4), .val (.int (0 : Int32)), .val (.int (1 : Int32)), .val (.int (0 : Int32)), .val (.int rr), .val (.int (4 : Int32)), .val (.ref d), .unset, .unset, .unset] rfl ?_
      refine B.aload 63 rfl at_61 rfl rfl ?_
      refine B.iconst 64 rfl (0 : Int32) at_63 rfl ?_
      refine B.bipush 66 rfl (48 : Int32) at_64 rfl ?_
      refine B.bastore 67 rfl at_66 A_d (by decide) 0 rfl (by simp) (Or.inr g_d) ?_
      intro hs3 Ws3 As3
      rw [show (((48 : Int32)).toInt8.toInt32) = (48 : Int32) from by decide] at As3
      replace As3 : Ary Z hs3 d .byte [(.int (48 : Int32)), (.int (0 : Int32)), (.int (0 : Int32)), (.int (0 : Int32))] := As3
      refine B.aload 69 rfl at_67 rfl rfl ?_
      refine B.iconst 70 rfl (1 : Int32) at_69 rfl ?_
      refine B.iconst 71 rfl (2 : Int32) at_70 rfl ?_
      refine B.iload 73 rfl at_71 rfl ?_
      refine B.imul 74 rfl at_73 ?_
      refine B.topI (0 : Int32) (by decide) ?_
      refine B.i2b 75 rfl at_74 ?_
      refine B.topI (0 : Int32) (by decide) ?_
      refine B.bastore 76 rfl at_75 As3 (by decide) 1 rfl (by simp) (Or.inr g_d) ?_
      intro hs4 Ws4 As4
      rw [show (((0 : Int32)).toInt8.toInt32) = (0 : Int32) from by decide] at As4
      replace As4 : Ary Z hs4 d .byte [(.int (48 : Int32)), (.int (0 : Int32)), (.int (0 : Int32)), (.int (0 : Int32))] := As4
      refine B.iload 78 rfl at_76 rfl ?_
      refine B.iconst 79 rfl (2 : Int32) at_78 rfl ?_
      refine B.icmp_le 87 82 rfl (by decide) rfl at_79 (fun c79 => ?_) (fun c79 => ?_)
      · exact absurd c79 (by decide)
      · refine B.aload 84 rfl at_82 rfl rfl ?_
        refine B.iconst 85 rfl (2 : Int32) at_84 rfl ?_
        refine B.iconst 86 rfl (5 : Int32) at_85 rfl ?_
        refine B.bastore 87 rfl at_86 As4 (by decide) 2 rfl (by simp) (Or.inr g_d) ?_
        intro hs5 Ws5 As5
        rw [show (((5 : Int32)).toInt8.toInt32) = (5 : Int32) from by decide] at As5
        replace As5 : Ary Z hs5 d .byte [(.int (48 : Int32)), (.int (0 : Int32)), (.int (5 : Int32)), (.int (0 : Int32))] := As5
        refine B.iload 89 rfl at_87 rfl ?_
        refine B.iconst 90 rfl (4 : Int32) at_89 rfl ?_
        refine B.icmp_le 98 93 rfl (by decide) rfl at_90 (fun c90 => ?_) (fun c90 => ?_)
        · refine B.iload 100 rfl at_98 rfl ?_
          refine B.bipush 102 rfl (6 : Int32) at_100 rfl ?_
          refine B.icmp_le 111 105 rfl (by decide) rfl at_102 (fun c102 => ?_) (fun c102 => ?_)
          · refine B.iload 113 rfl at_111 rfl ?_
            refine B.bipush 115 rfl (8 : Int32) at_113 rfl ?_
            refine B.icmp_le 124 118 rfl (by decide) rfl at_115 (fun c115 => ?_) (fun c115 => ?_)
            · refine B.newO 127 rfl at_124 (wd hw 6 rfl) (wd hw 7 rfl) (wd hw 8 rfl) (by decide) (by decide) ?_
              intro h_r r e_r g_r X_r E_r D_r
              show B.G h_r 2 7 (mkF m 127 #[.val (.int p1), .val (.int p2), .val (.int p3), .val (.int p4), .val (.int (0 : Int32)), .val (.int (1 : Int32)), .val (.int (0 : Int32)), .val (.int rr), .val (.int (4 : Int32)), .val (.ref d), .unset, .unset, .unset] [(.ref r)])
              have n_d_r : d ≠ r := fun q => absurd As5.lt (by rw [q, e_r]; exact Nat.lt_irrefl _)
              have A_d_5 := As5.ext X_r
              have F0_r : Fld Z h_r r "io/keyvouch/der/DerReader" "der" "[B" .null := D_r (Or.inr (wd hw 19 rfl)) (ty := (.array .byte)) (by decide)
              have F1_r : Fld Z h_r r "io/keyvouch/der/DerReader" "pos" "I" (.int 0) := D_r (Or.inl (wd hw 21 rfl)) (ty := .int) (by decide)
              have F2_r : Fld Z h_r r "io/keyvouch/der/DerReader" "end" "I" (.int 0) := D_r (Or.inr (wd hw 23 rfl)) (ty := .int) (by decide)
              refine B.dup 128 rfl at_127 rfl ?_
              refine B.aload 130 rfl at_128 rfl rfl ?_
              refine B.callI 133 rfl at_130 rfl (wd hw 9 rfl) (wd hw 10 rfl) (wd hw 8 rfl) (wd hw 11 rfl) (by decide) [(.ref d)] [(.ref r)] (rm_i1 l Z a0 hw r d (4 : Int32) [(.int (48 : Int32)), (.int (0 : Int32)), (.int (5 : Int32)), (.int (0 : Int32))] h_r A_d_5 rfl E_r F0_r F1_r F2_r) rfl rfl pd___B_V rfl rfl 1 rfl (by decide) (by decide) (by decide) (by decide) (fun x z => Or.inr (by cases List.mem_singleton.mp z; exact g_r)) ?_
              rintro _ h_r2 K_r2 ⟨rfl, Fd_r, Fp_r, Fn_r⟩
              show B.G h_r2 2 7 (mkF m 133 #[.val (.int p1), .val (.int p2), .val (.int p3), .val (.int p4), .val (.int (0 : Int32)), .val (.int (1 : Int32)), .val (.int (0 : Int32)), .val (.int rr), .val (.int (4 : Int32)), .val (.ref d), .unset, .unset, .unset] [(.ref r)])
              have A_d_6 := A_d_5.keep K_r2 (ninS n_d_r nin0)
              have E_r_6 := E_r.keep K_r2
              refine B.astore 135 rfl at_133 rfl #[.val (.int p1), .val (.int p2), .val (.int p3), .val (.int p4), .val (.int (0 : Int32)), .val (.int (1 : Int32)), .val (.int (0 : Int32)), .val (.int rr), .val (.int (4 : Int32)), .val (.ref d), .val (.ref r), .unset, .unset] rfl ?_
              refine B.aload 137 rfl at_135 rfl rfl ?_
              refine B.callVW 140 rfl at_137 (wd hw 24 rfl) (wd hw 25 rfl) (wd hw 27 rfl) (wd hw 26 rfl) (wd hw 8 rfl) (wd hw 28 rfl) (by decide) E_r_6 [] [] (rm_rs l Z a0 hw r d (0 : Int32) (1 : Int32) (2 : Int32) (4 : Int32) (48 : Int32) (0 : Int32) (0 : Int32) 0 1 [(.int (48 : Int32)), (.int (0 : Int32)), (.int (5 : Int32)), (.int (0 : Int32))] (2 : Int32) h_r2 E_r_6 n_d_r Fd_r Fp_r Fn_r A_d_6 (by decide) (by decide) (by decide) rfl (by decide) (by decide) (by decide) (by decide) (by decide) rfl (by decide) (by decide) (by decide) (by decide) (by decide)) rfl rfl pd___Lio_keyvouch_der_DerReader_ rfl rfl 0 rfl (by decide) (by decide) (by decide) (by decide) (fun x z => Or.inr (by cases List.mem_singleton.mp z; exact g_r)) ?_
              rintro _ h_s K_s ⟨sq, rfl, g_s, E_s, Fd_s, Fp_s, Fn_s, Fd_r3, Fp_r3, Fn_r3, A_d3⟩
              show B.G h_s 5 46 (mkF m 140 #[.val (.int p1), .val (.int p2), .val (.int p3), .val (.int p4), .val (.int (0 : Int32)), .val (.int (1 : Int32)), .val (.int (0 : Int32)), .val (.int rr), .val (.int (4 : Int32)), .val (.ref d), .val (.ref r), .unset, .unset] [(.ref sq)])
              have n_r_sq : r ≠ sq := fun q => absurd E_r_6.lt (by rw [q]; exact Nat.not_lt.mpr g_s)
              have n_d_sq : d ≠ sq := fun q => absurd A_d_6.lt (by rw [q]; exact Nat.not_lt.mpr g_s)
              have g_s0 : h0.size ≤ sq := Nat.le_trans (Nat.le_trans g_r (Nat.le_of_lt E_r_6.lt)) g_s
              have A_d_7 := A_d_6.keep K_s (ninS n_d_r nin0)
              have E_r_7 := E_r_6.keep K_s
              refine B.astore 142 rfl at_140 rfl #[.val (.int p1), .val (.int p2), .val (.int p3), .val (.int p4), .val (.int (0 : Int32)), .val (.int (1 : Int32)), .val (.int (0 : Int32)), .val (.int rr), .val (.int (4 : Int32)), .val (.ref d), .val (.ref r), .val (.ref sq), .unset] rfl ?_
              refine B.aload 144 rfl at_142 rfl rfl ?_
              refine B.callV 147 rfl at_144 (wd hw 61 rfl) (wd hw 62 rfl) (wd hw 64 rfl) (wd hw 63 rfl) (wd hw 8 rfl) (wd hw 65 rfl) (by decide) E_r_7 [] [] (rm_hm1 l Z a0 hw r d (2 : Int32) (4 : Int32) h_s Fd_r3 Fp_r3 Fn_r3 (by decide)) rfl rfl pd___Z rfl rfl 0 rfl (by decide) (by decide) (by decide) (by decide) (fun _ q => nomatch q) ?_
              rintro _ _ - ⟨rfl, rfl⟩
              show B.G h_s 5 46 (mkF m 147 #[.val (.int p1), .val (.int p2), .val (.int p3), .val (.int p4), .val (.int (0 : Int32)), .val (.int (1 : Int32)), .val (.int (0 : Int32)), .val (.int rr), .val (.int (4 : Int32)), .val (.ref d), .val (.ref r), .val (.ref sq), .unset] [(.int (1 : Int32))])
              refine B.iload 149 rfl at_147 rfl ?_
              refine B.if0_le 156 152 rfl (by decide) rfl at_149 (fun c149 => ?_) (fun c149 => ?_)
              · exact absurd c149 (by decide)
              · refine B.iconst 153 rfl (1 : Int32) at_152 rfl ?_
                refine B.goto 157 rfl (by decide) at_153 ?_
                refine B.icmp_ne 182 160 rfl (by decide) rfl at_157 (fun c157 => ?_) (fun c157 => ?_)
                · exact absurd c157 (by decide)
                · refine B.aload 162 rfl at_160 rfl rfl ?_
                  refine B.callV 165 rfl at_162 (wd hw 61 rfl) (wd hw 62 rfl) (wd hw 64 rfl) (wd hw 63 rfl) (wd hw 8 rfl) (wd hw 65 rfl) (by decide) E_s [] [] (rm_hm0 l Z a0 hw sq d (2 : Int32) (2 : Int32) h_s Fd_s Fp_s Fn_s (by decide)) rfl rfl pd___Z rfl rfl 0 rfl (by decide) (by decide) (by decide) (by decide) (fun _ q => nomatch q) ?_
                  rintro _ _ - ⟨rfl, rfl⟩
                  show B.G h_s 5 46 (mkF m 165 #[.val (.int p1), .val (.int p2), .val (.int p3), .val (.int p4), .val (.int (0 : Int32)), .val (.int (1 : Int32)), .val (.int (0 : Int32)), .val (.int rr), .val (.int (4 : Int32)), .val (.ref d), .val (.ref r), .val (.ref sq), .unset] [(.int (0 : Int32))])
                  refine B.iload 167 rfl at_165 rfl ?_
                  refine B.if0_le 174 170 rfl (by decide) rfl at_167 (fun c167 => ?_) (fun c167 => ?_)
                  · refine B.iconst 175 rfl (0 : Int32) at_174 rfl ?_
                    refine B.icmp_ne 182 178 rfl (by decide) rfl at_175 (fun c175 => ?_) (fun c175 => ?_)
                    · exact absurd c175 (by decide)
                    · refine B.iconst 179 rfl (1 : Int32) at_178 rfl ?_
                      refine B.goto 183 rfl (by decide) at_179 ?_
                      refine B.istore 185 rfl at_183 #[.val (.int p1), .val (.int p2), .val (.int p3), .val (.int p4), .val (.int (0 : Int32)), .val (.int (1 : Int32)), .val (.int (0 : Int32)), .val (.int rr), .val (.int (4 : Int32)), .val (.ref d), .val (.ref r), .val (.ref sq), .val (.int (1 : Int32))] rfl ?_
                      rcases hrr with rfl | rfl
                      · refine B.iload 187 rfl at_185 rfl ?_
                        refine B.iconst 188 rfl (1 : Int32) at_187 rfl ?_
                        refine B.icmp_lt 196 191 rfl (by decide) rfl at_188 (fun c188 => ?_) (fun c188 => ?_)
                        · refine B.iload 198 rfl at_196 rfl ?_
                          refine B.iconst 199 rfl (2 : Int32) at_198 rfl ?_
                          refine B.icmp_lt 207 202 rfl (by decide) rfl at_199 (fun c199 => ?_) (fun c199 => ?_)
                          · refine B.iload 209 rfl at_207 rfl ?_
                            refine B.iconst 210 rfl (1 : Int32) at_209 rfl ?_
                            refine B.icmp_lt 218 213 rfl (by decide) rfl at_210 (fun c210 => ?_) (fun c210 => ?_)
                            · refine B.iload 220 rfl at_218 rfl ?_
                              refine B.iconst 221 rfl (2 : Int32) at_220 rfl ?_
                              refine B.icmp_lt 229 224 rfl (by decide) rfl at_221 (fun c221 => ?_) (fun c221 => ?_)
                              · refine B.iload 231 rfl at_229 rfl ?_
                                refine B.if0_eq 278 234 rfl (by decide) rfl at_231 (fun c231 => ?_) (fun c231 => ?_)
                                · exact absurd c231 (by decide)
                                · refine B.aload 236 rfl at_234 rfl rfl ?_
                                  refine B.callV 239 rfl at_236 (wd hw 61 rfl) (wd hw 62 rfl) (wd hw 64 rfl) (wd hw 63 rfl) (wd hw 8 rfl) (wd hw 65 rfl) (by decide) E_s [] [] (rm_hm0 l Z a0 hw sq d (2 : Int32) (2 : Int32) h_s Fd_s Fp_s Fn_s (by decide)) rfl rfl pd___Z rfl rfl 0 rfl (by decide) (by decide) (by decide) (by decide) (fun _ q => nomatch q) ?_
                                  rintro _ _ - ⟨rfl, rfl⟩
                                  show B.G h_s 5 46 (mkF m 239 #[.val (.int p1), .val (.int p2), .val (.int p3), .val (.int p4), .val (.int (0 : Int32)), .val (.int (1 : Int32)), .val (.int (0 : Int32)), .val (.int (0 : Int32)), .val (.int (4 : Int32)), .val (.ref d), .val (.ref r), .val (.ref sq), .val (.int (1 : Int32))] [(.int (0 : Int32))])
                                  refine B.iload 241 rfl at_239 rfl ?_
                                  refine B.iload 243 rfl at_241 rfl ?_
                                  refine B.icmp_ge 250 246 rfl (by decide) rfl at_243 (fun c243 => ?_) (fun c243 => ?_)
                                  · refine B.iconst 251 rfl (0 : Int32) at_250 rfl ?_
                                    refine B.icmp_ne 278 254 rfl (by decide) rfl at_251 (fun c251 => ?_) (fun c251 => ?_)
                                    · exact absurd c251 (by decide)
                                    · refine B.aload 256 rfl at_254 rfl rfl ?_
                                      refine B.callV 259 rfl at_256 (wd hw 61 rfl) (wd hw 62 rfl) (wd hw 64 rfl) (wd hw 63 rfl) (wd hw 8 rfl) (wd hw 65 rfl) (by decide) E_r_7 [] [] (rm_hm1 l Z a0 hw r d (2 : Int32) (4 : Int32) h_s Fd_r3 Fp_r3 Fn_r3 (by decide)) rfl rfl pd___Z rfl rfl 0 rfl (by decide) (by decide) (by decide) (by decide) (fun _ q => nomatch q) ?_
                                      rintro _ _ - ⟨rfl, rfl⟩
                                      show B.G h_s 5 46 (mkF m 259 #[.val (.int p1), .val (.int p2), .val (.int p3), .val (.int p4), .val (.int (0 : Int32)), .val (.int (1 : Int32)), .val (.int (0 : Int32)), .val (.int (0 : Int32)), .val (.int (4 : Int32)), .val (.ref d), .val (.ref r), .val (.ref sq), .val (.int (1 : Int32))] [(.int (1 : Int32))])
                                      refine B.iload 261 rfl at_259 rfl ?_
                                      refine B.iload 263 rfl at_261 rfl ?_
                                      refine B.icmp_ge 270 266 rfl (by decide) rfl at_263 (fun c263 => ?_) (fun c263 => ?_)
                                      · exact absurd c263 (by decide)
                                      · refine B.iconst 267 rfl (1 : Int32) at_266 rfl ?_
                                        refine B.goto 271 rfl (by decide) at_267 ?_
                                        refine B.icmp_ne 278 274 rfl (by decide) rfl at_271 (fun c271 => ?_) (fun c271 => ?_)
                                        · exact absurd c271 (by decide)
                                        · refine B.iconst 275 rfl (1 : Int32) at_274 rfl ?_
                                          refine B.goto 279 rfl (by decide) at_275 ?_
                                          refine B.istore 281 rfl at_279 #[.val (.int p1), .val (.int p2), .val (.int p3), .val (.int p4), .val (.int (0 : Int32)), .val (.int (1 : Int32)), .val (.int (0 : Int32)), .val (.int (0 : Int32)), .val (.int (4 : Int32)), .val (.ref d), .val (.ref r), .val (.ref sq), .val (.int (1 : Int32))] rfl ?_
                                          refine B.iload 283 rfl at_281 rfl ?_
                                          refine B.retN (by simp) at_283 (by decide) (by decide) ?_
                                          exact rfl
                                  · exact absurd c243 (by decide)
                              · exact absurd c221 (by decide)
                            · exact absurd c210 (by decide)
                          · exact absurd c199 (by decide)
                        · exact absurd c188 (by decide)
                      · refine B.iload 187 rfl at_185 rfl ?_
                        refine B.iconst 188 rfl (1 : Int32) at_187 rfl ?_
                        refine B.icmp_lt 196 191 rfl (by decide) rfl at_188 (fun c188 => ?_) (fun c188 => ?_)
                        · refine B.iload 198 rfl at_196 rfl ?_
                          refine B.iconst 199 rfl (2 : Int32) at_198 rfl ?_
                          refine B.icmp_lt 207 202 rfl (by decide) rfl at_199 (fun c199 => ?_) (fun c199 => ?_)
                          · refine B.iload 209 rfl at_207 rfl ?_
                            refine B.iconst 210 rfl (1 : Int32) at_209 rfl ?_
                            refine B.icmp_lt 218 213 rfl (by decide) rfl at_210 (fun c210 => ?_) (fun c210 => ?_)
                            · exact absurd c210 (by decide)
                            · refine B.aload 215 rfl at_213 rfl rfl ?_
                              refine B.callVW 218 rfl at_215 (wd hw 66 rfl) (wd hw 67 rfl) (wd hw 69 rfl) (wd hw 68 rfl) (wd hw 8 rfl) (wd hw 70 rfl) (by decide) E_r_7 [] [] (rm_rn l Z a0 hw r d (2 : Int32) (3 : Int32) (4 : Int32) (4 : Int32) (5 : Int32) (0 : Int32) 2 3 [(.int (48 : Int32)), (.int (0 : Int32)), (.int (5 : Int32)), (.int (0 : Int32))] h_s E_r_7 n_d_r Fd_r3 Fp_r3 Fn_r3 A_d3 (by decide) (by decide) (by decide) rfl (by decide) (by decide) (by decide) (by decide) (by decide) rfl (by decide) (by decide) (by decide) (by decide)) rfl rfl pd___V rfl rfl 0 rfl (by decide) (by decide) (by decide) (by decide) (fun x z => Or.inr (by cases List.mem_singleton.mp z; exact g_r)) ?_
                              rintro _ h_n6 K_n6 ⟨rfl, Fd_n6, Fp_n6, Fn_n6, A_n6⟩
                              show B.G h_n6 7 66 (mkF m 218 #[.val (.int p1), .val (.int p2), .val (.int p3), .val (.int p4), .val (.int (0 : Int32)), .val (.int (1 : Int32)), .val (.int (0 : Int32)), .val (.int (1 : Int32)), .val (.int (4 : Int32)), .val (.ref d), .val (.ref r), .val (.ref sq), .val (.int (1 : Int32))] [])
                              have A_d_8 := A_d3.keep K_n6 (ninS n_d_r nin0)
                              have E_r_8 := E_r_7.keep K_n6
                              have Fd_sq_8 := Fd_s.keep K_n6 (ninS (Ne.symm n_r_sq) nin0)
                              have Fp_sq_8 := Fp_s.keep K_n6 (ninS (Ne.symm n_r_sq) nin0)
                              have Fn_sq_8 := Fn_s.keep K_n6 (ninS (Ne.symm n_r_sq) nin0)
                              have E_sq_8 := E_s.keep K_n6
                              refine B.iload 220 rfl at_218 rfl ?_
                              refine B.iconst 221 rfl (2 : Int32) at_220 rfl ?_
                              refine B.icmp_lt 229 224 rfl (by decide) rfl at_221 (fun c221 => ?_) (fun c221 => ?_)
                              · refine B.iload 231 rfl at_229 rfl ?_
                                refine B.if0_eq 278 234 rfl (by decide) rfl at_231 (fun c231 => ?_) (fun c231 => ?_)
                                · exact absurd c231 (by decide)
                                · refine B.aload 236 rfl at_234 rfl rfl ?_
                                  refine B.callV 239 rfl at_236 (wd hw 61 rfl) (wd hw 62 rfl) (wd hw 64 rfl) (wd hw 63 rfl) (wd hw 8 rfl) (wd hw 65 rfl) (by decide) E_sq_8 [] [] (rm_hm0 l Z a0 hw sq d (2 : Int32) (2 : Int32) h_n6 Fd_sq_8 Fp_sq_8 Fn_sq_8 (by decide)) rfl rfl pd___Z rfl rfl 0 rfl (by decide) (by decide) (by decide) (by decide) (fun _ q => nomatch q) ?_
                                  rintro _ _ - ⟨rfl, rfl⟩
                                  show B.G h_n6 7 66 (mkF m 239 #[.val (.int p1), .val (.int p2), .val (.int p3), .val (.int p4), .val (.int (0 : Int32)), .val (.int (1 : Int32)), .val (.int (0 : Int32)), .val (.int (1 : Int32)), .val (.int (4 : Int32)), .val (.ref d), .val (.ref r), .val (.ref sq), .val (.int (1 : Int32))] [(.int (0 : Int32))])
                                  refine B.iload 241 rfl at_239 rfl ?_
                                  refine B.iload 243 rfl at_241 rfl ?_
                                  refine B.icmp_ge 250 246 rfl (by decide) rfl at_243 (fun c243 => ?_) (fun c243 => ?_)
                                  · refine B.iconst 251 rfl (0 : Int32) at_250 rfl ?_
                                    refine B.icmp_ne 278 254 rfl (by decide) rfl at_251 (fun c251 => ?_) (fun c251 => ?_)
                                    · exact absurd c251 (by decide)
                                    · refine B.aload 256 rfl at_254 rfl rfl ?_
                                      refine B.callV 259 rfl at_256 (wd hw 61 rfl) (wd hw 62 rfl) (wd hw 64 rfl) (wd hw 63 rfl) (wd hw 8 rfl) (wd hw 65 rfl) (by decide) E_r_8 [] [] (rm_hm0 l Z a0 hw r d (4 : Int32) (4 : Int32) h_n6 Fd_n6 Fp_n6 Fn_n6 (by decide)) rfl rfl pd___Z rfl rfl 0 rfl (by decide) (by decide) (by decide) (by decide) (fun _ q => nomatch q) ?_
                                      rintro _ _ - ⟨rfl, rfl⟩
                                      show B.G h_n6 7 66 (mkF m 259 #[.val (.int p1), .val (.int p2), .val (.int p3), .val (.int p4), .val (.int (0 : Int32)), .val (.int (1 : Int32)), .val (.int (0 : Int32)), .val (.int (1 : Int32)), .val (.int (4 : Int32)), .val (.ref d), .val (.ref r), .val (.ref sq), .val (.int (1 : Int32))] [(.int (0 : Int32))])
                                      refine B.iload 261 rfl at_259 rfl ?_
                                      refine B.iload 263 rfl at_261 rfl ?_
                                      refine B.icmp_ge 270 266 rfl (by decide) rfl at_263 (fun c263 => ?_) (fun c263 => ?_)
                                      · refine B.iconst 271 rfl (0 : Int32) at_270 rfl ?_
                                        refine B.icmp_ne 278 274 rfl (by decide) rfl at_271 (fun c271 => ?_) (fun c271 => ?_)
                                        · exact absurd c271 (by decide)
                                        · refine B.iconst 275 rfl (1 : Int32) at_274 rfl ?_
                                          refine B.goto 279 rfl (by decide) at_275 ?_
                                          refine B.istore 281 rfl at_279 #[.val (.int p1), .val (.int p2), .val (.int p3), .val (.int p4), .val (.int (0 : Int32)), .val (.int (1 : Int32)), .val (.int (0 : Int32)), .val (.int (1 : Int32)), .val (.int (4 : Int32)), .val (.ref d), .val (.ref r), .val (.ref sq), .val (.int (1 : Int32))] rfl ?_
                                          refine B.iload 283 rfl at_281 rfl ?_
                                          refine B.retN (by simp) at_283 (by decide) (by decide) ?_
                                          exact rfl
                                      · exact absurd c263 (by decide)
                                  · exact absurd c243 (by decide)
                              · exact absurd c221 (by decide)
                          · exact absurd c199 (by decide)
                        · exact absurd c188 (by decide)
                  · exact absurd c167 (by decide)
            · exact absurd c115 (by decide)
          · exact absurd c102 (by decide)
        · exact absurd c90 (by decide)
    · refine B.topI (2 : Int32) qm ?_
      refine B.istore 16 rfl at_14 #[.val (.int p1), .val (.int p2), .val (.int p3), .val (.int p4), .val (.int (0 : Int32)), .val (.int (2 : Int32)), .unset, .unset, .unset, .unset, .unset, .unset, .unset] rfl ?_
      refine B.iloadN 17 rfl at_16 rfl ?_
      refine B.ldcI 19 rfl at_17 (wd hw 0 rfl) ?_
      refine B.iand 20 rfl at_19 ?_
      refine B.iconst 21 rfl (3 : Int32) at_20 rfl ?_
      refine B.irem 22 rfl at_21 (by decide) ?_
      refine B.iload 24 rfl at_22 rfl ?_
      refine B.callS 27 rfl at_24 (wd hw 1 rfl) (wd hw 2 rfl) (wd hw 3 rfl) (wd hw 4 rfl) (by decide) [(.int ((p3 &&& (2147483647 : Int32)) % (3 : Int32))), (.int (0 : Int32))] [] (rm_min l Z a0 hw ((p3 &&& (2147483647 : Int32)) % (3 : Int32)) (0 : Int32) h0) rfl rfl pd__II_I rfl rfl 0 rfl (by decide) (by decide) (by decide) (by decide) (fun _ q => nomatch q) ?_
      rintro _ _ - ⟨rfl, rfl⟩
      show B.G h0 0 0 (mkF m 27 #[.val (.int p1), .val (.int p2), .val (.int p3), .val (.int p4), .val (.int (0 : Int32)), .val (.int (2 : Int32)), .unset, .unset, .unset, .unset, .unset, .unset, .unset] [(.int (own_min ((p3 &&& (2147483647 : Int32)) % (3 : Int32)) (0 : Int32)))])
      refine B.topI (0 : Int32) (own_r0 p3) ?_
      refine B.istore 29 rfl at_27 #[.val (.int p1), .val (.int p2), .val (.int p3), .val (.int p4), .val (.int (0 : Int32)), .val (.int (2 : Int32)), .val (.int (0 : Int32)), .unset, .unset, .unset, .unset, .unset, .unset] rfl ?_
      refine B.iloadN 30 rfl at_29 rfl ?_
      refine B.ldcI 32 rfl at_30 (wd hw 0 rfl) ?_
      refine B.iand 33 rfl at_32 ?_
      refine B.iconst 34 rfl (3 : Int32) at_33 rfl ?_
      refine B.irem 35 rfl at_34 (by decide) ?_
      refine B.iload 37 rfl at_35 rfl ?_
      refine B.callS 40 rfl at_37 (wd hw 1 rfl) (wd hw 2 rfl) (wd hw 3 rfl) (wd hw 4 rfl) (by decide) [(.int ((p4 &&& (2147483647 : Int32)) % (3 : Int32))), (.int (2 : Int32))] [] (rm_min l Z a0 hw ((p4 &&& (2147483647 : Int32)) % (3 : Int32)) (2 : Int32) h0) rfl rfl pd__II_I rfl rfl 0 rfl (by decide) (by decide) (by decide) (by decide) (fun _ q => nomatch q) ?_
      rintro _ _ - ⟨rfl, rfl⟩
      show B.G h0 0 0 (mkF m 40 #[.val (.int p1), .val (.int p2), .val (.int p3), .val (.int p4), .val (.int (0 : Int32)), .val (.int (2 : Int32)), .val (.int (0 : Int32)), .unset, .unset, .unset, .unset, .unset, .unset] [(.int (own_min ((p4 &&& (2147483647 : Int32)) % (3 : Int32)) (2 : Int32)))])
      obtain ⟨rr, err, hrr⟩ : ∃ z : Int32, own_min ((p4 &&& 2147483647) % 3) 2 = z ∧ (z = 0 ∨ z = 1 ∨ z = 2) := ⟨_, rfl, own_r2 p4⟩
      refine B.topI rr err ?_
      refine B.istore 42 rfl at_40 #[.val (.int p1), .val (.int p2), .val (.int p3), .val (.int p4), .val (.int (0 : Int32)), .val (.int (2 : Int32)), .val (.int (0 : Int32)), .val (.int rr), .unset, .unset, .unset, .unset, .unset] rfl ?_
      refine B.iconst 43 rfl (2 : Int32) at_42 rfl ?_
      refine B.iconst 44 rfl (2 : Int32) at_43 rfl ?_
      refine B.iload 46 rfl at_44 rfl ?_
      refine B.imul 47 rfl at_46 ?_
      refine B.topI (0 : Int32) (by decide) ?_
      refine B.iadd 48 rfl at_47 ?_
      refine B.topI (2 : Int32) (by decide) ?_
      refine B.iconst 49 rfl (2 : Int32) at_48 rfl ?_
      refine B.iload 51 rfl at_49 rfl ?_
      refine B.imul 52 rfl at_51 ?_
      refine B.topI (4 : Int32) (by decide) ?_
      refine B.iadd 53 rfl at_52 ?_
      refine B.topI (6 : Int32) (by decide) ?_
      refine B.istore 55 rfl at_53 #[.val (.int p1), .val (.int p2), .val (.int p3), .val (.int p4), .val (.int (0 : Int32)), .val (.int (2 : Int32)), .val (.int (0 : Int32)), .val (.int rr), .val (.int (6 : Int32)), .unset, .unset, .unset, .unset] rfl ?_
      refine B.iload 57 rfl at_55 rfl ?_
      refine B.newP 59 rfl at_57 (wd hw 5 rfl) (by decide) 6 (by decide) (by decide) (by decide) (by decide) ?_
      intro h_d d e_d g_d X_d A_d
      replace A_d : Ary Z h_d d .byte [(.int (0 : Int32)), (.int (0 : Int32)), (.int (0 : Int32)), (.int (0 : Int32)), (.int (0 : Int32)), (.int (0 : Int32))] := A_d
      show B.G h_d 1 6 (mkF m 59 #[.val (.int p1), .val (.int p2), .val (.int p3), .val (.int p4), .val (.int (0 : Int32)), .val (.int (2 : Int32)), .val (.int (0 : Int32)), .val (.int rr), .val (.int (6 : Int32)), .unset, .unset, .unset, .unset] [(.ref d)])
      refine B.astore 61 rfl at_59 rfl #[.val (.int p1), .val (.int p2), .val (.int p3), .val (.int p4), .val (.int (0 : Int32)), .val (.int (2 : Int32)), .val (.int (0 : Int32)), .val (.int rr), .val (.int (6 : Int32)), .val (.ref d), .unset, .unset, .unset] rfl ?_
      refine B.aload 63 rfl at_61 rfl rfl ?_
      refine B.iconst 64 rfl (0 : Int32) at_63 rfl ?_
      refine B.bipush 66 rfl (48 : Int32) at_64 rfl ?_
      refine B.bastore 67 rfl at_66 A_d (by decide) 0 rfl (by simp) (Or.inr g_d) ?_
      intro hs7 Ws7 As7
      rw [show (((48 : Int32)).toInt8.toInt32) = (48 : Int32) from by decide] at As7
      replace As7 : Ary Z hs7 d .byte [(.int (48 : Int32)), (.int (0 : Int32)), (.int (0 : Int32)), (.int (0 : Int32)), (.int (0 : Int32)), (.int (0 : Int32))] := As7
      refine B.aload 69 rfl at_67 rfl rfl ?_
      refine B.iconst 70 rfl (1 : Int32) at_69 rfl ?_
      refine B.iconst 71 rfl (2 : Int32) at_70 rfl ?_
      refine B.iload 73 rfl at_71 rfl ?_
      refine B.imul 74 rfl at_73 ?_
      refine B.topI (0 : Int32) (by decide) ?_
      refine B.i2b 75 rfl at_74 ?_
      refine B.topI (0 : Int32) (by decide) ?_
      refine B.bastore 76 rfl at_75 As7 (by decide) 1 rfl (by simp) (Or.inr g_d) ?_
      intro hs8 Ws8 As8
      rw [show (((0 : Int32)).toInt8.toInt32) = (0 : Int32) from by decide] at As8
      replace As8 : Ary Z hs8 d .byte [(.int (48 : Int32)), (.int (0 : Int32)), (.int (0 : Int32)), (.int (0 : Int32)), (.int (0 : Int32)), (.int (0 : Int32))] := As8
      refine B.iload 78 rfl at_76 rfl ?_
      refine B.iconst 79 rfl (2 : Int32) at_78 rfl ?_
      refine B.icmp_le 87 82 rfl (by decide) rfl at_79 (fun c79 => ?_) (fun c79 => ?_)
      · exact absurd c79 (by decide)
      · refine B.aload 84 rfl at_82 rfl rfl ?_
        refine B.iconst 85 rfl (2 : Int32) at_84 rfl ?_
        refine B.iconst 86 rfl (5 : Int32) at_85 rfl ?_
        refine B.bastore 87 rfl at_86 As8 (by decide) 2 rfl (by simp) (Or.inr g_d) ?_
        intro hs9 Ws9 As9
        rw [show (((5 : Int32)).toInt8.toInt32) = (5 : Int32) from by decide] at As9
        replace As9 : Ary Z hs9 d .byte [(.int (48 : Int32)), (.int (0 : Int32)), (.int (5 : Int32)), (.int (0 : Int32)), (.int (0 : Int32)), (.int (0 : Int32))] := As9
        refine B.iload 89 rfl at_87 rfl ?_
        refine B.iconst 90 rfl (4 : Int32) at_89 rfl ?_
        refine B.icmp_le 98 93 rfl (by decide) rfl at_90 (fun c90 => ?_) (fun c90 => ?_)
        · exact absurd c90 (by decide)
        · refine B.aload 95 rfl at_93 rfl rfl ?_
          refine B.iconst 96 rfl (4 : Int32) at_95 rfl ?_
          refine B.iconst 97 rfl (5 : Int32) at_96 rfl ?_
          refine B.bastore 98 rfl at_97 As9 (by decide) 4 rfl (by simp) (Or.inr g_d) ?_
          intro hs10 Ws10 As10
          rw [show (((5 : Int32)).toInt8.toInt32) = (5 : Int32) from by decide] at As10
          replace As10 : Ary Z hs10 d .byte [(.int (48 : Int32)), (.int (0 : Int32)), (.int (5 : Int32)), (.int (0 : Int32)), (.int (5 : Int32)), (.int (0 : Int32))] := As10
          refine B.iload 100 rfl at_98 rfl ?_
          refine B.bipush 102 rfl (6 : Int32) at_100 rfl ?_
          refine B.icmp_le 111 105 rfl (by decide) rfl at_102 (fun c102 => ?_) (fun c102 => ?_)
          · refine B.iload 113 rfl at_111 rfl ?_
            refine B.bipush 115 rfl (8 : Int32) at_113 rfl ?_
            refine B.icmp_le 124 118 rfl (by decide) rfl at_115 (fun c115 => ?_) (fun c115 => ?_)
            · refine B.newO 127 rfl at_124 (wd hw 6 rfl) (wd hw 7 rfl) (wd hw 8 rfl) (by decide) (by decide) ?_
              intro h_r r e_r g_r X_r E_r D_r
              show B.G h_r 2 9 (mkF m 127 #[.val (.int p1), .val (.int p2), .val (.int p3), .val (.int p4), .val (.int (0 : Int32)), .val (.int (2 : Int32)), .val (.int (0 : Int32)), .val (.int rr), .val (.int (6 : Int32)), .val (.ref d), .unset, .unset, .unset] [(.ref r)])
              have n_d_r : d ≠ r := fun q => absurd As10.lt (by rw [q, e_r]; exact Nat.lt_irrefl _)
              have A_d_6 := As10.ext X_r
              have F0_r : Fld Z h_r r "io/keyvouch/der/DerReader" "der" "[B" .null := D_r (Or.inr (wd hw 19 rfl)) (ty := (.array .byte)) (by decide)
              have F1_r : Fld Z h_r r "io/keyvouch/der/DerReader" "pos" "I" (.int 0) := D_r (Or.inl (wd hw 21 rfl)) (ty := .int) (by decide)
              have F2_r : Fld Z h_r r "io/keyvouch/der/DerReader" "end" "I" (.int 0) := D_r (Or.inr (wd hw 23 rfl)) (ty := .int) (by decide)
              refine B.dup 128 rfl at_127 rfl ?_
              refine B.aload 130 rfl at_128 rfl rfl ?_
              refine B.callI 133 rfl at_130 rfl (wd hw 9 rfl) (wd hw 10 rfl) (wd hw 8 rfl) (wd hw 11 rfl) (by decide) [(.ref d)] [(.ref r)] (rm_i1 l Z a0 hw r d (6 : Int32) [(.int (48 : Int32)), (.int (0 : Int32)), (.int (5 : Int32)), (.int (0 : Int32)), (.int (5 : Int32)), (.int (0 : Int32))] h_r A_d_6 rfl E_r F0_r F1_r F2_r) rfl rfl pd___B_V rfl rfl 1 rfl (by decide) (by decide) (by decide) (by decide) (fun x z => Or.inr (by cases List.mem_singleton.mp z; exact g_r)) ?_
              rintro _ h_r2 K_r2 ⟨rfl, Fd_r, Fp_r, Fn_r⟩
              show B.G h_r2 2 9 (mkF m 133 #[.val (.int p1), .val (.int p2), .val (.int p3), .val (.int p4), .val (.int (0 : Int32)), .val (.int (2 : Int32)), .val (.int (0 : Int32)), .val (.int rr), .val (.int (6 : Int32)), .val (.ref d), .unset, .unset, .unset] [(.ref r)])
              have A_d_7 := A_d_6.keep K_r2 (ninS n_d_r nin0)
              have E_r_7 := E_r.keep K_r2
              refine B.astore 135 rfl at_133 rfl #[.val (.int p1), .val (.int p2), .val (.int p3), .val (.int p4), .val (.int (0 : Int32)), .val (.int (2 : Int32)), .val (.int (0 : Int32)), .val (.int rr), .val (.int (6 : Int32)), .val (.ref d), .val (.ref r), .unset, .unset] rfl ?_
              refine B.aload 137 rfl at_135 rfl rfl ?_
              refine B.callVW 140 rfl at_137 (wd hw 24 rfl) (wd hw 25 rfl) (wd hw 27 rfl) (wd hw 26 rfl) (wd hw 8 rfl) (wd hw 28 rfl) (by decide) E_r_7 [] [] (rm_rs l Z a0 hw r d (0 : Int32) (1 : Int32) (2 : Int32) (6 : Int32) (48 : Int32) (0 : Int32) (0 : Int32) 0 1 [(.int (48 : Int32)), (.int (0 : Int32)), (.int (5 : Int32)), (.int (0 : Int32)), (.int (5 : Int32)), (.int (0 : Int32))] (2 : Int32) h_r2 E_r_7 n_d_r Fd_r Fp_r Fn_r A_d_7 (by decide) (by decide) (by decide) rfl (by decide) (by decide) (by decide) (by decide) (by decide) rfl (by decide) (by decide) (by decide) (by decide) (by decide)) rfl rfl pd___Lio_keyvouch_der_DerReader_ rfl rfl 0 rfl (by decide) (by decide) (by decide) (by decide) (fun x z => Or.inr (by cases List.mem_singleton.mp z; exact g_r)) ?_
              rintro _ h_s K_s ⟨sq, rfl, g_s, E_s, Fd_s, Fp_s, Fn_s, Fd_r3, Fp_r3, Fn_r3, A_d3⟩
              show B.G h_s 5 48 (mkF m 140 #[.val (.int p1), .val (.int p2), .val (.int p3), .val (.int p4), .val (.int (0 : Int32)), .val (.int (2 : Int32)), .val (.int (0 : Int32)), .val (.int rr), .val (.int (6 : Int32)), .val (.ref d), .val (.ref r), .unset, .unset] [(.ref sq)])
              have n_r_sq : r ≠ sq := fun q => absurd E_r_7.lt (by rw [q]; exact Nat.not_lt.mpr g_s)
              have n_d_sq : d ≠ sq := fun q => absurd A_d_7.lt (by rw [q]; exact Nat.not_lt.mpr g_s)
              have g_s0 : h0.size ≤ sq := Nat.le_trans (Nat.le_trans g_r (Nat.le_of_lt E_r_7.lt)) g_s
              have A_d_8 := A_d_7.keep K_s (ninS n_d_r nin0)
              have E_r_8 := E_r_7.keep K_s
              refine B.astore 142 rfl at_140 rfl #[.val (.int p1), .val (.int p2), .val (.int p3), .val (.int p4), .val (.int (0 : Int32)), .val (.int (2 : Int32)), .val (.int (0 : Int32)), .val (.int rr), .val (.int (6 : Int32)), .val (.ref d), .val (.ref r), .val (.ref sq), .unset] rfl ?_
              refine B.aload 144 rfl at_142 rfl rfl ?_
              refine B.callV 147 rfl at_144 (wd hw 61 rfl) (wd hw 62 rfl) (wd hw 64 rfl) (wd hw 63 rfl) (wd hw 8 rfl) (wd hw 65 rfl) (by decide) E_r_8 [] [] (rm_hm1 l Z a0 hw r d (2 : Int32) (6 : Int32) h_s Fd_r3 Fp_r3 Fn_r3 (by decide)) rfl rfl pd___Z rfl rfl 0 rfl (by decide) (by decide) (by decide) (by decide) (fun _ q => nomatch q) ?_
              rintro _ _ - ⟨rfl, rfl⟩
              show B.G h_s 5 48 (mkF m 147 #[.val (.int p1), .val (.int p2), .val (.int p3), .val (.int p4), .val (.int (0 : Int32)), .val (.int (2 : Int32)), .val (.int (0 : Int32)), .val (.int rr), .val (.int (6 : Int32)), .val (.ref d), .val (.ref r), .val (.ref sq), .unset] [(.int (1 : Int32))])
              refine B.iload 149 rfl at_147 rfl ?_
              refine B.if0_le 156 152 rfl (by decide) rfl at_149 (fun c149 => ?_) (fun c149 => ?_)
              · exact absurd c149 (by decide)
              · refine B.iconst 153 rfl (1 : Int32) at_152 rfl ?_
                refine B.goto 157 rfl (by decide) at_153 ?_
                refine B.icmp_ne 182 160 rfl (by decide) rfl at_157 (fun c157 => ?_) (fun c157 => ?_)
                · exact absurd c157 (by decide)
                · refine B.aload 162 rfl at_160 rfl rfl ?_
                  refine B.callV 165 rfl at_162 (wd hw 61 rfl) (wd hw 62 rfl) (wd hw 64 rfl) (wd hw 63 rfl) (wd hw 8 rfl) (wd hw 65 rfl) (by decide) E_s [] [] (rm_hm0 l Z a0 hw sq d (2 : Int32) (2 : Int32) h_s Fd_s Fp_s Fn_s (by decide)) rfl rfl pd___Z rfl rfl 0 rfl (by decide) (by decide) (by decide) (by decide) (fun _ q => nomatch q) ?_
                  rintro _ _ - ⟨rfl, rfl⟩
                  show B.G h_s 5 48 (mkF m 165 #[.val (.int p1), .val (.int p2), .val (.int p3), .val (.int p4), .val (.int (0 : Int32)), .val (.int (2 : Int32)), .val (.int (0 : Int32)), .val (.int rr), .val (.int (6 : Int32)), .val (.ref d), .val (.ref r), .val (.ref sq), .unset] [(.int (0 : Int32))])
                  refine B.iload 167 rfl at_165 rfl ?_
                  refine B.if0_le 174 170 rfl (by decide) rfl at_167 (fun c167 => ?_) (fun c167 => ?_)
                  · refine B.iconst 175 rfl (0 : Int32) at_174 rfl ?_
                    refine B.icmp_ne 182 178 rfl (by decide) rfl at_175 (fun c175 => ?_) (fun c175 => ?_)
                    · exact absurd c175 (by decide)
                    · refine B.iconst 179 rfl (1 : Int32) at_178 rfl ?_
                      refine B.goto 183 rfl (by decide) at_179 ?_
                      refine B.istore 185 rfl at_183 #[.val (.int p1), .val (.int p2), .val (.int p3), .val (.int p4), .val (.int (0 : Int32)), .val (.int (2 : Int32)), .val (.int (0 : Int32)), .val (.int rr), .val (.int (6 : Int32)), .val (.ref d), .val (.ref r), .val (.ref sq), .val (.int (1 : Int32))] rfl ?_
                      rcases hrr with rfl | rfl | rfl
                      · refine B.iload 187 rfl at_185 rfl ?_
                        refine B.iconst 188 rfl (1 : Int32) at_187 rfl ?_
                        refine B.icmp_lt 196 191 rfl (by decide) rfl at_188 (fun c188 => ?_) (fun c188 => ?_)
                        · refine B.iload 198 rfl at_196 rfl ?_
                          refine B.iconst 199 rfl (2 : Int32) at_198 rfl ?_
                          refine B.icmp_lt 207 202 rfl (by decide) rfl at_199 (fun c199 => ?_) (fun c199 => ?_)
                          · refine B.iload 209 rfl at_207 rfl ?_
                            refine B.iconst 210 rfl (1 : Int32) at_209 rfl ?_
                            refine B.icmp_lt 218 213 rfl (by decide) rfl at_210 (fun c210 => ?_) (fun c210 => ?_)
                            · refine B.iload 220 rfl at_218 rfl ?_
                              refine B.iconst 221 rfl (2 : Int32) at_220 rfl ?_
                              refine B.icmp_lt 229 224 rfl (by decide) rfl at_221 (fun c221 => ?_) (fun c221 => ?_)
                              · refine B.iload 231 rfl at_229 rfl ?_
                                refine B.if0_eq 278 234 rfl (by decide) rfl at_231 (fun c231 => ?_) (fun c231 => ?_)
                                · exact absurd c231 (by decide)
                                · refine B.aload 236 rfl at_234 rfl rfl ?_
                                  refine B.callV 239 rfl at_236 (wd hw 61 rfl) (wd hw 62 rfl) (wd hw 64 rfl) (wd hw 63 rfl) (wd hw 8 rfl) (wd hw 65 rfl) (by decide) E_s [] [] (rm_hm0 l Z a0 hw sq d (2 : Int32) (2 : Int32) h_s Fd_s Fp_s Fn_s (by decide)) rfl rfl pd___Z rfl rfl 0 rfl (by decide) (by decide) (by decide) (by decide) (fun _ q => nomatch q) ?_
                                  rintro _ _ - ⟨rfl, rfl⟩
                                  show B.G h_s 5 48 (mkF m 239 #[.val (.int p1), .val (.int p2), .val (.int p3), .val (.int p4), .val (.int (0 : Int32)), .val (.int (2 : Int32)), .val (.int (0 : Int32)), .val (.int (0 : Int32)), .val (.int (6 : Int32)), .val (.ref d), .val (.ref r), .val (.ref sq), .val (.int (1 : Int32))] [(.int (0 : Int32))])
                                  refine B.iload 241 rfl at_239 rfl ?_
                                  refine B.iload 243 rfl at_241 rfl ?_
                                  refine B.icmp_ge 250 246 rfl (by decide) rfl at_243 (fun c243 => ?_) (fun c243 => ?_)
                                  · refine B.iconst 251 rfl (0 : Int32) at_250 rfl ?_
                                    refine B.icmp_ne 278 254 rfl (by decide) rfl at_251 (fun c251 => ?_) (fun c251 => ?_)
                                    · exact absurd c251 (by decide)
                                    · refine B.aload 256 rfl at_254 rfl rfl ?_
                                      refine B.callV 259 rfl at_256 (wd hw 61 rfl) (wd hw 62 rfl) (wd hw 64 rfl) (wd hw 63 rfl) (wd hw 8 rfl) (wd hw 65 rfl) (by decide) E_r_8 [] [] (rm_hm1 l Z a0 hw r d (2 : Int32) (6 : Int32) h_s Fd_r3 Fp_r3 Fn_r3 (by decide)) rfl rfl pd___Z rfl rfl 0 rfl (by decide) (by decide) (by decide) (by decide) (fun _ q => nomatch q) ?_
                                      rintro _ _ - ⟨rfl, rfl⟩
                                      show B.G h_s 5 48 (mkF m 259 #[.val (.int p1), .val (.int p2), .val (.int p3), .val (.int p4), .val (.int (0 : Int32)), .val (.int (2 : Int32)), .val (.int (0 : Int32)), .val (.int (0 : Int32)), .val (.int (6 : Int32)), .val (.ref d), .val (.ref r), .val (.ref sq), .val (.int (1 : Int32))] [(.int (1 : Int32))])
                                      refine B.iload 261 rfl at_259 rfl ?_
                                      refine B.iload 263 rfl at_261 rfl ?_
                                      refine B.icmp_ge 270 266 rfl (by decide) rfl at_263 (fun c263 => ?_) (fun c263 => ?_)
                                      · exact absurd c263 (by decide)
                                      · refine B.iconst 267 rfl (1 : Int32) at_266 rfl ?_
                                        refine B.goto 271 rfl (by decide) at_267 ?_
                                        refine B.icmp_ne 278 274 rfl (by decide) rfl at_271 (fun c271 => ?_) (fun c271 => ?_)
                                        · exact absurd c271 (by decide)
                                        · refine B.iconst 275 rfl (1 : Int32) at_274 rfl ?_
                                          refine B.goto 279 rfl (by decide) at_275 ?_
                                          refine B.istore 281 rfl at_279 #[.val (.int p1), .val (.int p2), .val (.int p3), .val (.int p4), .val (.int (0 : Int32)), .val (.int (2 : Int32)), .val (.int (0 : Int32)), .val (.int (0 : Int32)), .val (.int (6 : Int32)), .val (.ref d), .val (.ref r), .val (.ref sq), .val (.int (1 : Int32))] rfl ?_
                                          refine B.iload 283 rfl at_281 rfl ?_
                                          refine B.retN (by simp) at_283 (by decide) (by decide) ?_
                                          exact rfl
                                  · exact absurd c243 (by decide)
                              · exact absurd c221 (by decide)
                            · exact absurd c210 (by decide)
                          · exact absurd c199 (by decide)
                        · exact absurd c188 (by decide)
                      · refine B.iload 187 rfl at_185 rfl ?_
                        refine B.iconst 188 rfl (1 : Int32) at_187 rfl ?_
                        refine B.icmp_lt 196 191 rfl (by decide) rfl at_188 (fun c188 => ?_) (fun c188 => ?_)
                        · refine B.iload 198 rfl at_196 rfl ?_
                          refine B.iconst 199 rfl (2 : Int32) at_198 rfl ?_
                          refine B.icmp_lt 207 202 rfl (by decide) rfl at_199 (fun c199 => ?_) (fun c199 => ?_)
                          · refine B.iload 209 rfl at_207 rfl ?_
                            refine B.iconst 210 rfl (1 : Int32) at_209 rfl ?_
                            refine B.icmp_lt 218 213 rfl (by decide) rfl at_210 (fun c210 => ?_) (fun c210 => ?_)
                            · exact absurd c210 (by decide)
                            · refine B.aload 215 rfl at_213 rfl rfl ?_
                              refine B.callVW 218 rfl at_215 (wd hw 66 rfl) (wd hw 67 rfl) (wd hw 69 rfl) (wd hw 68 rfl) (wd hw 8 rfl) (wd hw 70 rfl) (by decide) E_r_8 [] [] (rm_rn l Z a0 hw r d (2 : Int32) (3 : Int32) (4 : Int32) (6 : Int32) (5 : Int32) (0 : Int32) 2 3 [(.int (48 : Int32)), (.int (0 : Int32)), (.int (5 : Int32)), (.int (0 : Int32)), (.int (5 : Int32)), (.int (0 : Int32))] h_s E_r_8 n_d_r Fd_r3 Fp_r3 Fn_r3 A_d3 (by decide) (by decide) (by decide) rfl (by decide) (by decide) (by decide) (by decide) (by decide) rfl (by decide) (by decide) (by decide) (by decide)) rfl rfl pd___V rfl rfl 0 rfl (by decide) (by decide) (by decide) (by decide) (fun x z => Or.inr (by cases List.mem_singleton.mp z; exact g_r)) ?_
                              rintro _ h_n11 K_n11 ⟨rfl, Fd_n11, Fp_n11, Fn_n11, A_n11⟩
                              show B.G h_n11 7 68 (mkF m 218 #[.val (.int p1), .val (.int p2), .val (.int p3), .val (.int p4), .val (.int (0 : Int32)), .val (.int (2 : Int32)), .val (.int (0 : Int32)), .val (.int (1 : Int32)), .val (.int (6 : Int32)), .val (.ref d), .val (.ref r), .val (.ref sq), .val (.int (1 : Int32))] [])
                              have A_d_9 := A_d3.keep K_n11 (ninS n_d_r nin0)
                              have E_r_9 := E_r_8.keep K_n11
                              have Fd_sq_9 := Fd_s.keep K_n11 (ninS (Ne.symm n_r_sq) nin0)
                              have Fp_sq_9 := Fp_s.keep K_n11 (ninS (Ne.symm n_r_sq) nin0)
                              have Fn_sq_9 := Fn_s.keep K_n11 (ninS (Ne.symm n_r_sq) nin0)
                              have E_sq_9 := E_s.keep K_n11
                              refine B.iload 220 rfl at_218 rfl ?_
                              refine B.iconst 221 rfl (2 : Int32) at_220 rfl ?_
                              refine B.icmp_lt 229 224 rfl (by decide) rfl at_221 (fun c221 => ?_) (fun c221 => ?_)
                              · refine B.iload 231 rfl at_229 rfl ?_
                                refine B.if0_eq 278 234 rfl (by decide) rfl at_231 (fun c231 => ?_) (fun c231 => ?_)
                                · exact absurd c231 (by decide)
                                · refine B.aload 236 rfl at_234 rfl rfl ?_
                                  refine B.callV 239 rfl at_236 (wd hw 61 rfl) (wd hw 62 rfl) (wd hw 64 rfl) (wd hw 63 rfl) (wd hw 8 rfl) (wd hw 65 rfl) (by decide) E_sq_9 [] [] (rm_hm0 l Z a0 hw sq d (2 : Int32) (2 : Int32) h_n11 Fd_sq_9 Fp_sq_9 Fn_sq_9 (by decide)) rfl rfl pd___Z rfl rfl 0 rfl (by decide) (by decide) (by decide) (by decide) (fun _ q => nomatch q) ?_
                                  rintro _ _ - ⟨rfl, rfl⟩
                                  show B.G h_n11 7 68 (mkF m 239 #[.val (.int p1), .val (.int p2), .val (.int p3), .val (.int p4), .val (.int (0 : Int32)), .val (.int (2 : Int32)), .val (.int (0 : Int32)), .val (.int (1 : Int32)), .val (.int (6 : Int32)), .val (.ref d), .val (.ref r), .val (.ref sq), .val (.int (1 : Int32))] [(.int (0 : Int32))])
                                  refine B.iload 241 rfl at_239 rfl ?_
                                  refine B.iload 243 rfl at_241 rfl ?_
                                  refine B.icmp_ge 250 246 rfl (by decide) rfl at_243 (fun c243 => ?_) (fun c243 => ?_)
                                  · refine B.iconst 251 rfl (0 : Int32) at_250 rfl ?_
                                    refine B.icmp_ne 278 254 rfl (by decide) rfl at_251 (fun c251 => ?_) (fun c251 => ?_)
                                    · exact absurd c251 (by decide)
                                    · refine B.aload 256 rfl at_254 rfl rfl ?_
                                      refine B.callV 259 rfl at_256 (wd hw 61 rfl) (wd hw 62 rfl) (wd hw 64 rfl) (wd hw 63 rfl) (wd hw 8 rfl) (wd hw 65 rfl) (by decide) E_r_9 [] [] (rm_hm1 l Z a0 hw r d (4 : Int32) (6 : Int32) h_n11 Fd_n11 Fp_n11 Fn_n11 (by decide)) rfl rfl pd___Z rfl rfl 0 rfl (by decide) (by decide) (by decide) (by decide) (fun _ q => nomatch q) ?_
                                      rintro _ _ - ⟨rfl, rfl⟩
                                      show B.G h_n11 7 68 (mkF m 259 #[.val (.int p1), .val (.int p2), .val (.int p3), .val (.int p4), .val (.int (0 : Int32)), .val (.int (2 : Int32)), .val (.int (0 : Int32)), .val (.int (1 : Int32)), .val (.int (6 : Int32)), .val (.ref d), .val (.ref r), .val (.ref sq), .val (.int (1 : Int32))] [(.int (1 : Int32))])
                                      refine B.iload 261 rfl at_259 rfl ?_
                                      refine B.iload 263 rfl at_261 rfl ?_
                                      refine B.icmp_ge 270 266 rfl (by decide) rfl at_263 (fun c263 => ?_) (fun c263 => ?_)
                                      · exact absurd c263 (by decide)
                                      · refine B.iconst 267 rfl (1 : Int32) at_266 rfl ?_
                                        refine B.goto 271 rfl (by decide) at_267 ?_
                                        refine B.icmp_ne 278 274 rfl (by decide) rfl at_271 (fun c271 => ?_) (fun c271 => ?_)
                                        · exact absurd c271 (by decide)
                                        · refine B.iconst 275 rfl (1 : Int32) at_274 rfl ?_
                                          refine B.goto 279 rfl (by decide) at_275 ?_
                                          refine B.istore 281 rfl at_279 #[.val (.int p1), .val (.int p2), .val (.int p3), .val (.int p4), .val (.int (0 : Int32)), .val (.int (2 : Int32)), .val (.int (0 : Int32)), .val (.int (1 : Int32)), .val (.int (6 : Int32)), .val (.ref d), .val (.ref r), .val (.ref sq), .val (.int (1 : Int32))] rfl ?_
                                          refine B.iload 283 rfl at_281 rfl ?_
                                          refine B.retN (by simp) at_283 (by decide) (by decide) ?_
                                          exact rfl
                                  · exact absurd c243 (by decide)
                              · exact absurd c221 (by decide)
                          · exact absurd c199 (by decide)
                        · exact absurd c188 (by decide)
                      · refine B.iload 187 rfl at_185 rfl ?_
                        refine B.iconst 188 rfl (1 : Int32) at_187 rfl ?_
                        refine B.icmp_lt 196 191 rfl (by decide) rfl at_188 (fun c188 => ?_) (fun c188 => ?_)
                        · refine B.iload 198 rfl at_196 rfl ?_
                          refine B.iconst 199 rfl (2 : Int32) at_198 rfl ?_
                          refine B.icmp_lt 207 202 rfl (by decide) rfl at_199 (fun c199 => ?_) (fun c199 => ?_)
                          · refine B.iload 209 rfl at_207 rfl ?_
                            refine B.iconst 210 rfl (1 : Int32) at_209 rfl ?_
                            refine B.icmp_lt 218 213 rfl (by decide) rfl at_210 (fun c210 => ?_) (fun c210 => ?_)
                            · exact absurd c210 (by decide)
                            · refine B.aload 215 rfl at_213 rfl rfl ?_
                              refine B.callVW 218 rfl at_215 (wd hw 66 rfl) (wd hw 67 rfl) (wd hw 69 rfl) (wd hw 68 rfl) (wd hw 8 rfl) (wd hw 70 rfl) (by decide) E_r_8 [] [] (rm_rn l Z a0 hw r d (2 : Int32) (3 : Int32) (4 : Int32) (6 : Int32) (5 : Int32) (0 : Int32) 2 3 [(.int (48 : Int32)), (.int (0 : Int32)), (.int (5 : Int32)), (.int (0 : Int32)), (.int (5 : Int32)), (.int (0 : Int32))] h_s E_r_8 n_d_r Fd_r3 Fp_r3 Fn_r3 A_d3 (by decide) (by decide) (by decide) rfl (by decide) (by decide) (by decide) (by decide) (by decide) rfl (by decide) (by decide) (by decide) (by decide)) rfl rfl pd___V rfl rfl 0 rfl (by decide) (by decide) (by decide) (by decide) (fun x z => Or.inr (by cases List.mem_singleton.mp z; exact g_r)) ?_
                              rintro _ h_n12 K_n12 ⟨rfl, Fd_n12, Fp_n12, Fn_n12, A_n12⟩
                              show B.G h_n12 7 68 (mkF m 218 #[.val (.int p1), .val (.int p2), .val (.int p3), .val (.int p4), .val (.int (0 : Int32)), .val (.int (2 : Int32)), .val (.int (0 : Int32)), .val (.int (2 : Int32)), .val (.int (6 : Int32)), .val (.ref d), .val (.ref r), .val (.ref sq), .val (.int (1 : Int32))] [])
                              have A_d_9 := A_d3.keep K_n12 (ninS n_d_r nin0)
                              have E_r_9 := E_r_8.keep K_n12
                              have Fd_sq_9 := Fd_s.keep K_n12 (ninS (Ne.symm n_r_sq) nin0)
                              have Fp_sq_9 := Fp_s.keep K_n12 (ninS (Ne.symm n_r_sq) nin0)
                              have Fn_sq_9 := Fn_s.keep K_n12 (ninS (Ne.symm n_r_sq) nin0)
                              have E_sq_9 := E_s.keep K_n12
                              refine B.iload 220 rfl at_218 rfl ?_
                              refine B.iconst 221 rfl (2 : Int32) at_220 rfl ?_
                              refine B.icmp_lt 229 224 rfl (by decide) rfl at_221 (fun c221 => ?_) (fun c221 => ?_)
                              · exact absurd c221 (by decide)
                              · refine B.aload 226 rfl at_224 rfl rfl ?_
                                refine B.callVW 229 rfl at_226 (wd hw 66 rfl) (wd hw 67 rfl) (wd hw 69 rfl) (wd hw 68 rfl) (wd hw 8 rfl) (wd hw 70 rfl) (by decide) E_r_9 [] [] (rm_rn l Z a0 hw r d (4 : Int32) (5 : Int32) (6 : Int32) (6 : Int32) (5 : Int32) (0 : Int32) 4 5 [(.int (48 : Int32)), (.int (0 : Int32)), (.int (5 : Int32)), (.int (0 : Int32)), (.int (5 : Int32)), (.int (0 : Int32))] h_n12 E_r_9 n_d_r Fd_n12 Fp_n12 Fn_n12 A_n12 (by decide) (by decide) (by decide) rfl (by decide) (by decide) (by decide) (by decide) (by decide) rfl (by decide) (by decide) (by decide) (by decide)) rfl rfl pd___V rfl rfl 0 rfl (by decide) (by decide) (by decide) (by decide) (fun x z => Or.inr (by cases List.mem_singleton.mp z; exact g_r)) ?_
                                rintro _ h_n13 K_n13 ⟨rfl, Fd_n13, Fp_n13, Fn_n13, A_n13⟩
                                show B.G h_n13 9 88 (mkF m 229 #[.val (.int p1), .val (.int p2), .val (.int p3), .val (.int p4), .val (.int (0 : Int32)), .val (.int (2 : Int32)), .val (.int (0 : Int32)), .val (.int (2 : Int32)), .val (.int (6 : Int32)), .val (.ref d), .val (.ref r), .val (.ref sq), .val (.int (1 : Int32))] [])
                                have A_d_10 := A_n12.keep K_n13 (ninS n_d_r nin0)
                                have E_r_10 := E_r_9.keep K_n13
                                have Fd_sq_10 := Fd_sq_9.keep K_n13 (ninS (Ne.symm n_r_sq) nin0)
                                have Fp_sq_10 := Fp_sq_9.keep K_n13 (ninS (Ne.symm n_r_sq) nin0)
                                have Fn_sq_10 := Fn_sq_9.keep K_n13 (ninS (Ne.symm n_r_sq) nin0)
                                have E_sq_10 := E_sq_9.keep K_n13
                                refine B.iload 231 rfl at_229 rfl ?_
                                refine B.if0_eq 278 234 rfl (by decide) rfl at_231 (fun c231 => ?_) (fun c231 => ?_)
                                · exact absurd c231 (by decide)
                                · refine B.aload 236 rfl at_234 rfl rfl ?_
                                  refine B.callV 239 rfl at_236 (wd hw 61 rfl) (wd hw 62 rfl) (wd hw 64 rfl) (wd hw 63 rfl) (wd hw 8 rfl) (wd hw 65 rfl) (by decide) E_sq_10 [] [] (rm_hm0 l Z a0 hw sq d (2 : Int32) (2 : Int32) h_n13 Fd_sq_10 Fp_sq_10 Fn_sq_10 (by decide)) rfl rfl pd___Z rfl rfl 0 rfl (by decide) (by decide) (by decide) (by decide) (fun _ q => nomatch q) ?_
                                  rintro _ _ - ⟨rfl, rfl⟩
                                  show B.G h_n13 9 88 (mkF m 239 #[.val (.int p1), .val (.int p2), .val (.int p3), .val (.int p4), .val (.int (0 : Int32)), .val (.int (2 : Int32)), .val (.int (0 : Int32)), .val (.int (2 : Int32)), .val (.int (6 : Int32)), .val (.ref d), .val (.ref r), .val (.ref sq), .val (.int (1 : Int32))] [(.int (0 : Int32))])
                                  refine B.iload 241 rfl at_239 rfl ?_
                                  refine B.iload 243 rfl at_241 rfl ?_
                                  refine B.icmp_ge 250 246 rfl (by decide) rfl at_243 (fun c243 => ?_) (fun c243 => ?_)
                                  · refine B.iconst 251 rfl (0 : Int32) at_250 rfl ?_
                                    refine B.icmp_ne 278 254 rfl (by decide) rfl at_251 (fun c251 => ?_) (fun c251 => ?_)
                                    · exact absurd c251 (by decide)
                                    · refine B.aload 256 rfl at_254 rfl rfl ?_
                                      refine B.callV 259 rfl at_256 (wd hw 61 rfl) (wd hw 62 rfl) (wd hw 64 rfl) (wd hw 63 rfl) (wd hw 8 rfl) (wd hw 65 rfl) (by decide) E_r_10 [] [] (rm_hm0 l Z a0 hw r d (6 : Int32) (6 : Int32) h_n13 Fd_n13 Fp_n13 Fn_n13 (by decide)) rfl rfl pd___Z rfl rfl 0 rfl (by decide) (by decide) (by decide) (by decide) (fun _ q => nomatch q) ?_
                                      rintro _ _ - ⟨rfl, rfl⟩
                                      show B.G h_n13 9 88 (mkF m 259 #[.val (.int p1), .val (.int p2), .val (.int p3), .val (.int p4), .val (.int (0 : Int32)), .val (.int (2 : Int32)), .val (.int (0 : Int32)), .val (.int (2 : Int32)), .val (.int (6 : Int32)), .val (.ref d), .val (.ref r), .val (.ref sq), .val (.int (1 : Int32))] [(.int (0 : Int32))])
                                      refine B.iload 261 rfl at_259 rfl ?_
                                      refine B.iload 263 rfl at_261 rfl ?_
                                      refine B.icmp_ge 270 266 rfl (by decide) rfl at_263 (fun c263 => ?_) (fun c263 => ?_)
                                      · refine B.iconst 271 rfl (0 : Int32) at_270 rfl ?_
                                        refine B.icmp_ne 278 274 rfl (by decide) rfl at_271 (fun c271 => ?_) (fun c271 => ?_)
                                        · exact absurd c271 (by decide)
                                        · refine B.iconst 275 rfl (1 : Int32) at_274 rfl ?_
                                          refine B.goto 279 rfl (by decide) at_275 ?_
                                          refine B.istore 281 rfl at_279 #[.val (.int p1), .val (.int p2), .val (.int p3), .val (.int p4), .val (.int (0 : Int32)), .val (.int (2 : Int32)), .val (.int (0 : Int32)), .val (.int (2 : Int32)), .val (.int (6 : Int32)), .val (.ref d), .val (.ref r), .val (.ref sq), .val (.int (1 : Int32))] rfl ?_
                                          refine B.iload 283 rfl at_281 rfl ?_
                                          refine B.retN (by simp) at_283 (by decide) (by decide) ?_
                                          exact rfl
                                      · exact absurd c263 (by decide)
                                  · exact absurd c243 (by decide)
                          · exact absurd c199 (by decide)
                        · exact absurd c188 (by decide)
                  · exact absurd c167 (by decide)
            · exact absurd c115 (by decide)
          · exact absurd c102 (by decide)
  · refine B.topI (1 : Int32) qk ?_
    refine B.istore 8 rfl at_6 #[.val (.int p1), .val (.int p2), .val (.int p3), .val (.int p4), .val (.int (1 : Int32)), .unset, .unset, .unset, .unset, .unset, .unset, .unset, .unset] rfl ?_
    refine B.iloadN 9 rfl at_8 rfl ?_
    refine B.ldcI 11 rfl at_9 (wd hw 0 rfl) ?_
    refine B.iand 12 rfl at_11 ?_
    refine B.iconst 13 rfl (3 : Int32) at_12 rfl ?_
    refine B.irem 14 rfl at_13 (by decide) ?_
    rcases own_3 p2 with qm | qm | qm
    · refine B.topI (0 : Int32) qm ?_
      refine B.istore 16 rfl at_14 #[.val (.int p1), .val (.int p2), .val (.int p3), .val (.int p4), .val (.int (1 : Int32)), .val (.int (0 : Int32)), .unset, .unset, .unset, .unset, .unset, .unset, .unset] rfl ?_
      refine B.iloadN 17 rfl at_16 rfl ?_
      refine B.ldcI 19 rfl at_17 (wd hw 0 rfl) ?_
      refine B.iand 20 rfl at_19 ?_
      refine B.iconst 21 rfl (3 : Int32) at_20 rfl ?_
      refine B.irem 22 rfl at_21 (by decide) ?_
      refine B.iload 24 rfl at_22 rfl ?_
      refine B.callS 27 rfl at_24 (wd hw 1 rfl) (wd hw 2 rfl) (wd hw 3 rfl) (wd hw 4 rfl) (by decide) [(.int ((p3 &&& (2147483647 : Int32)) % (3 : Int32))), (.int (1 : Int32))] [] (rm_min l Z a0 hw ((p3 &&& (2147483647 : Int32)) % (3 : Int32)) (1 : Int32) h0) rfl rfl pd__II_I rfl rfl 0 rfl (by decide) (by decide) (by decide) (by decide) (fun _ q => nomatch q) ?_
      rintro _ _ - ⟨rfl, rfl⟩
      show B.G h0 0 0 (mkF m 27 #[.val (.int p1), .val (.int p2), .val (.int p3), .val (.int p4), .val (.int (1 : Int32)), .val (.int (0 : Int32)), .unset, .unset, .unset, .unset, .unset, .unset, .unset] [(.int (own_min ((p3 &&& (2147483647 : Int32)) % (3 : Int32)) (1 : Int32)))])
      obtain ⟨rs, ers, hrs⟩ : ∃ z : Int32, own_min ((p3 &&& 2147483647) % 3) 1 = z ∧ (z = 0 ∨ z = 1) := ⟨_, rfl, own_r1 p3⟩
      refine B.topI rs ers ?_
      refine B.istore 29 rfl at_27 #[.val (.int p1), .val (.int p2), .val (.int p3), .val (.int p4), .val (.int (1 : Int32)), .val (.int (0 : Int32)), .val (.int rs), .unset, .unset, .unset, .unset, .unset, .unset] rfl ?_
      refine B.iloadN 30 rfl at_29 rfl ?_
      refine B.ldcI 32 rfl at_30 (wd hw 0 rfl) ?_
      refine B.iand 33 rfl at_32 ?_
      refine B.iconst 34 rfl (3 : Int32) at_33 rfl ?_
      refine B.irem 35 rfl at_34 (by decide) ?_
      refine B.iload 37 rfl at_35 rfl ?_
      refine B.callS 40 rfl at_37 (wd hw 1 rfl) (wd hw 2 rfl) (wd hw 3 rfl) (wd hw 4 rfl) (by decide) [(.int ((p4 &&& (2147483647 : Int32)) % (3 : Int32))), (.int (0 : Int32))] [] (rm_min l Z a0 hw ((p4 &&& (2147483647 : Int32)) % (3 : Int32)) (0 : Int32) h0) rfl rfl pd__II_I rfl rfl 0 rfl (by decide) (by decide) (by decide) (by decide) (fun _ q => nomatch q) ?_
      rintro _ _ - ⟨rfl, rfl⟩
      show B.G h0 0 0 (mkF m 40 #[.val (.int p1), .val (.int p2), .val (.int p3), .val (.int p4), .val (.int (1 : Int32)), .val (.int (0 : Int32)), .val (.int rs), .unset, .unset, .unset, .unset, .unset, .unset] [(.int (own_min ((p4 &&& (2147483647 : Int32)) % (3 : Int32)) (0 : Int32)))])
      refine B.topI (0 : Int32) (own_r0 p4) ?_
      refine B.istore 42 rfl at_40 #[.val (.int p1), .val (.int p2), .val (.int p3), .val (.int p4), .val (.int (1 : Int32)), .val (.int (0 : Int32)), .val (.int rs), .val (.int (0 : Int32)), .unset, .unset, .unset, .unset, .unset] rfl ?_
      refine B.iconst 43 rfl (2 : Int32) at_42 rfl ?_
      refine B.iconst 44 rfl (2 : Int32) at_43 rfl ?_
      refine B.iload 46 rfl at_44 rfl ?_
      refine B.imul 47 rfl at_46 ?_
      refine B.topI (2 : Int32) (by decide) ?_
      refine B.iadd 48 rfl at_47 ?_
      refine B.topI (4 : Int32) (by decide) ?_
      refine B.iconst 49 rfl (2 : Int32) at_48 rfl ?_
      refine B.iload 51 rfl at_49 rfl ?_
      refine B.imul 52 rfl at_51 ?_
      refine B.topI (0 : Int32) (by decide) ?_
      refine B.iadd 53 rfl at_52 ?_
      refine B.topI (4 : Int32) (by decide) ?_
      refine B.istore 55 rfl at_53 #[.val (.int p1), .val (.int p2), .val (.int p3), .val (.int p4), .val (.int (1 : Int32)), .val (.int (0 : Int32)), .val (.int rs), .val (.int (0 : Int32)), .val (.int (4 : Int32)), .unset, .unset, .unset, .unset] rfl ?_
      refine B.iload 57 rfl at_55 rfl ?_
      refine B.newP 59 rfl at_57 (wd hw 5 rfl) (by decide) 4 (by decide) (by decide) (by decide) (by decide) ?_
      intro h_d d e_d g_d X_d A_d
      replace A_d : Ary Z h_d d .byte [(.int (0 : Int32)), (.int (0 : Int32)), (.int (0 : Int32)), (.int (0 : Int32))] := A_d
      show B.G h_d 1 4 (mkF m 59 #[.val (.int p1), .val (.int p2), .val (.int p3), .val (.int p4), .val (.int (1 : Int32)), .val (.int (0 : Int32)), .val (.int rs), .val (.int (0 : Int32)), .val (.int (4 : Int32)), .unset, .unset, .unset, .unset] [(.ref d)])
      refine B.astore 61 rfl at_59 rfl #[.val (.int p1), .val (.int p2), .val (.int p3), .val (.int p4), .val (.int (1 : Int32)), .val (.int (0 : Int32)), .val (.int rs), .val (.int (0 : Int32)), .val (.int (4 : Int32)), .val (.ref d), .unset, .unset, .unset] rfl ?_
      refine B.aload 63 rfl at_61 rfl rfl ?_
      refine B.iconst 64 rfl (0 : Int32) at_63 rfl ?_
      refine B.bipush 66 rfl (48 : Int32) at_64 rfl ?_
      refine B.bastore 67 rfl at_66 A_d (by decide) 0 rfl (by simp) (Or.inr g_d) ?_
      intro hs14 Ws14 As14
      rw [show (((48 : Int32)).toInt8.toInt32) = (48 : Int32) from by decide] at As14
      replace As14 : Ary Z hs14 d .byte [(.int (48 : Int32)), (.int (0 : Int32)), (.int (0 : Int32)), (.int (0 : Int32))] := As14
      refine B.aload 69 rfl at_67 rfl rfl ?_
      refine B.iconst 70 rfl (1 : Int32) at_69 rfl ?_
      refine B.iconst 71 rfl (2 : Int32) at_70 rfl ?_
      refine B.iload 73 rfl at_71 rfl ?_
      refine B.imul 74 rfl at_73 ?_
      refine B.topI (2 : Int32) (by decide) ?_
      refine B.i2b 75 rfl at_74 ?_
      refine B.topI (2 : Int32) (by decide) ?_
      refine B.bastore 76 rfl at_75 As14 (by decide) 1 rfl (by simp) (Or.inr g_d) ?_
      intro hs15 Ws15 As15
      rw [show (((2 : Int32)).toInt8.toInt32) = (2 : Int32) from by decide] at As15
      replace As15 : Ary Z hs15 d .byte [(.int (48 : Int32)), (.int (2 : Int32)), (.int (0 : Int32)), (.int (0 : Int32))] := As15
      refine B.iload 78 rfl at_76 rfl ?_
      refine B.iconst 79 rfl (2 : Int32) at_78 rfl ?_
      refine B.icmp_le 87 82 rfl (by decide) rfl at_79 (fun c79 => ?_) (fun c79 => ?_)
      · exact absurd c79 (by decide)
      · refine B.aload 84 rfl at_82 rfl rfl ?_
        refine B.iconst 85 rfl (2 : Int32) at_84 rfl ?_
        refine B.iconst 86 rfl (5 : Int32) at_85 rfl ?_
        refine B.bastore 87 rfl at_86 As15 (by decide) 2 rfl (by simp) (Or.inr g_d) ?_
        intro hs16 Ws16 As16
        rw [show (((5 : Int32)).toInt8.toInt32) = (5 : Int32) from by decide] at As16
        replace As16 : Ary Z hs16 d .byte [(.int (48 : Int32)), (.int (2 : Int32)), (.int (5 : Int32)), (.int (0 : Int32))] := As16
        refine B.iload 89 rfl at_87 rfl ?_
        refine B.iconst 90 rfl (4 : Int32) at_89 rfl ?_
        refine B.icmp_le 98 93 rfl (by decide) rfl at_90 (fun c90 => ?_) (fun c90 => ?_)
        · refine B.iload 100 rfl at_98 rfl ?_
          refine B.bipush 102 rfl (6 : Int32) at_100 rfl ?_
          refine B.icmp_le 111 105 rfl (by decide) rfl at_102 (fun c102 => ?_) (fun c102 => ?_)
          · refine B.iload 113 rfl at_111 rfl ?_
            refine B.bipush 115 rfl (8 : Int32) at_113 rfl ?_
            refine B.icmp_le 124 118 rfl (by decide) rfl at_115 (fun c115 => ?_) (fun c115 => ?_)
            · refine B.newO 127 rfl at_124 (wd hw 6 rfl) (wd hw 7 rfl) (wd hw 8 rfl) (by decide) (by decide) ?_
              intro h_r r e_r g_r X_r E_r D_r
              show B.G h_r 2 7 (mkF m 127 #[.val (.int p1), .val (.int p2), .val (.int p3), .val (.int p4), .val (.int (1 : Int32)), .val (.int (0 : Int32)), .val (.int rs), .val (.int (0 : Int32)), .val (.int (4 : Int32)), .val (.ref d), .unset, .unset, .unset] [(.ref r)])
              have n_d_r : d ≠ r := fun q => absurd As16.lt (by rw [q, e_r]; exact Nat.lt_irrefl _)
              have A_d_5 := As16.ext X_r
              have F0_r : Fld Z h_r r "io/keyvouch/der/DerReader" "der" "[B" .null := D_r (Or.inr (wd hw 19 rfl)) (ty := (.array .byte)) (by decide)
              have F1_r : Fld Z h_r r "io/keyvouch/der/DerReader" "pos" "I" (.int 0) := D_r (Or.inl (wd hw 21 rfl)) (ty := .int) (by decide)
              have F2_r : Fld Z h_r r "io/keyvouch/der/DerReader" "end" "I" (.int 0) := D_r (Or.inr (wd hw 23 rfl)) (ty := .int) (by decide)
              refine B.dup 128 rfl at_127 rfl ?_
              refine B.aload 130 rfl at_128 rfl rfl ?_
              refine B.callI 133 rfl at_130 rfl (wd hw 9 rfl) (wd hw 10 rfl) (wd hw 8 rfl) (wd hw 11 rfl) (by decide) [(.ref d)] [(.ref r)] (rm_i1 l Z a0 hw r d (4 : Int32) [(.int (48 : Int32)), (.int (2 : Int32)), (.int (5 : Int32)), (.int (0 : Int32))] h_r A_d_5 rfl E_r F0_r F1_r F2_r) rfl rfl pd___B_V rfl rfl 1 rfl (by decide) (by decide) (by decide) (by decide) (fun x z => Or.inr (by cases List.mem_singleton.mp z; exact g_r)) ?_
              rintro _ h_r2 K_r2 ⟨rfl, Fd_r, Fp_r, Fn_r⟩
              show B.G h_r2 2 7 (mkF m 133 #[.val (.int p1), .val (.int p2), .val (.int p3), .val (.int p4), .val (.int (1 : Int32)), .val (.int (0 : Int32)), .val (.int rs), .val (.int (0 : Int32)), .val (.int (4 : Int32)), .val (.ref d), .unset, .unset, .unset] [(.ref r)])
              have A_d_6 := A_d_5.keep K_r2 (ninS n_d_r nin0)
              have E_r_6 := E_r.keep K_r2
              refine B.astore 135 rfl at_133 rfl #[.val (.int p1), .val (.int p2), .val (.int p3), .val (.int p4), .val (.int (1 : Int32)), .val (.int (0 : Int32)), .val (.int rs), .val (.int (0 : Int32)), .val (.int (4 : Int32)), .val (.ref d), .val (.ref r), .unset, .unset] rfl ?_
              refine B.aload 137 rfl at_135 rfl rfl ?_
              refine B.callVW 140 rfl at_137 (wd hw 24 rfl) (wd hw 25 rfl) (wd hw 27 rfl) (wd hw 26 rfl) (wd hw 8 rfl) (wd hw 28 rfl) (by decide) E_r_6 [] [] (rm_rs l Z a0 hw r d (0 : Int32) (1 : Int32) (2 : Int32) (4 : Int32) (48 : Int32) (2 : Int32) (2 : Int32) 0 1 [(.int (48 : Int32)), (.int (2 : Int32)), (.int (5 : Int32)), (.int (0 : Int32))] (4 : Int32) h_r2 E_r_6 n_d_r Fd_r Fp_r Fn_r A_d_6 (by decide) (by decide) (by decide) rfl (by decide) (by decide) (by decide) (by decide) (by decide) rfl (by decide) (by decide) (by decide) (by decide) (by decide)) rfl rfl pd___Lio_keyvouch_der_DerReader_ rfl rfl 0 rfl (by decide) (by decide) (by decide) (by decide) (fun x z => Or.inr (by cases List.mem_singleton.mp z; exact g_r)) ?_
              rintro _ h_s K_s ⟨sq, rfl, g_s, E_s, Fd_s, Fp_s, Fn_s, Fd_r3, Fp_r3, Fn_r3, A_d3⟩
              show B.G h_s 5 46 (mkF m 140 #[.val (.int p1), .val (.int p2), .val (.int p3), .val (.int p4), .val (.int (1 : Int32)), .val (.int (0 : Int32)), .val (.int rs), .val (.int (0 : Int32)), .val (.int (4 : Int32)), .val (.ref d), .val (.ref r), .unset, .unset] [(.ref sq)])
              have n_r_sq : r ≠ sq := fun q => absurd E_r_6.lt (by rw [q]; exact Nat.not_lt.mpr g_s)
              have n_d_sq : d ≠ sq := fun q => absurd A_d_6.lt (by rw [q]; exact Nat.not_lt.mpr g_s)
              have g_s0 : h0.size ≤ sq := Nat.le_trans (Nat.le_trans g_r (Nat.le_of_lt E_r_6.lt)) g_s
              have A_d_7 := A_d_6.keep K_s (ninS n_d_r nin0)
              have E_r_7 := E_r_6.keep K_s
              refine B.astore 142 rfl at_140 rfl #[.val (.int p1), .val (.int p2), .val (.int p3), .val (.int p4), .val (.int (1 : Int32)), .val (.int (0 : Int32)), .val (.int rs), .val (.int (0 : Int32)), .val (.int (4 : Int32)), .val (.ref d), .val (.ref r), .val (.ref sq), .unset] rfl ?_
              refine B.aload 144 rfl at_142 rfl rfl ?_
              refine B.callV 147 rfl at_144 (wd hw 61 rfl) (wd hw 62 rfl) (wd hw 64 rfl) (wd hw 63 rfl) (wd hw 8 rfl) (wd hw 65 rfl) (by decide) E_r_7 [] [] (rm_hm0 l Z a0 hw r d (4 : Int32) (4 : Int32) h_s Fd_r3 Fp_r3 Fn_r3 (by decide)) rfl rfl pd___Z rfl rfl 0 rfl (by decide) (by decide) (by decide) (by decide) (fun _ q => nomatch q) ?_
              rintro _ _ - ⟨rfl, rfl⟩
              show B.G h_s 5 46 (mkF m 147 #[.val (.int p1), .val (.int p2), .val (.int p3), .val (.int p4), .val (.int (1 : Int32)), .val (.int (0 : Int32)), .val (.int rs), .val (.int (0 : Int32)), .val (.int (4 : Int32)), .val (.ref d), .val (.ref r), .val (.ref sq), .unset] [(.int (0 : Int32))])
              refine B.iload 149 rfl at_147 rfl ?_
              refine B.if0_le 156 152 rfl (by decide) rfl at_149 (fun c149 => ?_) (fun c149 => ?_)
              · refine B.iconst 157 rfl (0 : Int32) at_156 rfl ?_
                refine B.icmp_ne 182 160 rfl (by decide) rfl at_157 (fun c157 => ?_) (fun c157 => ?_)
                · exact absurd c157 (by decide)
                · refine B.aload 162 rfl at_160 rfl rfl ?_
                  refine B.callV 165 rfl at_162 (wd hw 61 rfl) (wd hw 62 rfl) (wd hw 64 rfl) (wd hw 63 rfl) (wd hw 8 rfl) (wd hw 65 rfl) (by decide) E_s [] [] (rm_hm1 l Z a0 hw sq d (2 : Int32) (4 : Int32) h_s Fd_s Fp_s Fn_s (by decide)) rfl rfl pd___Z rfl rfl 0 rfl (by decide) (by decide) (by decide) (by decide) (fun _ q => nomatch q) ?_
                  rintro _ _ - ⟨rfl, rfl⟩
                  show B.G h_s 5 46 (mkF m 165 #[.val (.int p1), .val (.int p2), .val (.int p3), .val (.int p4), .val (.int (1 : Int32)), .val (.int (0 : Int32)), .val (.int rs), .val (.int (0 : Int32)), .val (.int (4 : Int32)), .val (.ref d), .val (.ref r), .val (.ref sq), .unset] [(.int (1 : Int32))])
                  refine B.iload 167 rfl at_165 rfl ?_
                  refine B.if0_le 174 170 rfl (by decide) rfl at_167 (fun c167 => ?_) (fun c167 => ?_)
                  · exact absurd c167 (by decide)
                  · refine B.iconst 171 rfl (1 : Int32) at_170 rfl ?_
                    refine B.goto 175 rfl (by decide) at_171 ?_
                    refine B.icmp_ne 182 178 rfl (by decide) rfl at_175 (fun c175 => ?_) (fun c175 => ?_)
                    · exact absurd c175 (by decide)
                    · refine B.iconst 179 rfl (1 : Int32) at_178 rfl ?_
                      refine B.goto 183 rfl (by decide) at_179 ?_
                      refine B.istore 185 rfl at_183 #[.val (.int p1), .val (.int p2), .val (.int p3), .val (.int p4), .val (.int (1 : Int32)), .val (.int (0 : Int32)), .val (.int rs), .val (.int (0 : Int32)), .val (.int (4 : Int32)), .val (.ref d), .val (.ref r), .val (.ref sq), .val (.int (1 : Int32))] rfl ?_
                      rcases hrs with rfl | rfl
                      · refine B.iload 187 rfl at_185 rfl ?_
                        refine B.iconst 188 rfl (1 : Int32) at_187 rfl ?_
                        refine B.icmp_lt 196 191 rfl (by decide) rfl at_188 (fun c188 => ?_) (fun c188 => ?_)
                        · refine B.iload 198 rfl at_196 rfl ?_
                          refine B.iconst 199 rfl (2 : Int32) at_198 rfl ?_
                          refine B.icmp_lt 207 202 rfl (by decide) rfl at_199 (fun c199 => ?_) (fun c199 => ?_)
                          · refine B.iload 209 rfl at_207 rfl ?_
                            refine B.iconst 210 rfl (1 : Int32) at_209 rfl ?_
                            refine B.icmp_lt 218 213 rfl (by decide) rfl at_210 (fun c210 => ?_) (fun c210 => ?_)
                            · refine B.iload 220 rfl at_218 rfl ?_
                              refine B.iconst 221 rfl (2 : Int32) at_220 rfl ?_
                              refine B.icmp_lt 229 224 rfl (by decide) rfl at_221 (fun c221 => ?_) (fun c221 => ?_)
                              · refine B.iload 231 rfl at_229 rfl ?_
                                refine B.if0_eq 278 234 rfl (by decide) rfl at_231 (fun c231 => ?_) (fun c231 => ?_)
                                · exact absurd c231 (by decide)
                                · refine B.aload 236 rfl at_234 rfl rfl ?_
                                  refine B.callV 239 rfl at_236 (wd hw 61 rfl) (wd hw 62 rfl) (wd hw 64 rfl) (wd hw 63 rfl) (wd hw 8 rfl) (wd hw 65 rfl) (by decide) E_s [] [] (rm_hm1 l Z a0 hw sq d (2 : Int32) (4 : Int32) h_s Fd_s Fp_s Fn_s (by decide)) rfl rfl pd___Z rfl rfl 0 rfl (by decide) (by decide) (by decide) (by decide) (fun _ q => nomatch q) ?_
                                  rintro _ _ - ⟨rfl, rfl⟩
                                  show B.G h_s 5 46 (mkF m 239 #[.val (.int p1), .val (.int p2), .val (.int p3), .val (.int p4), .val (.int (1 : Int32)), .val (.int (0 : Int32)), .val (.int (0 : Int32)), .val (.int (0 : Int32)), .val (.int (4 : Int32)), .val (.ref d), .val (.ref r), .val (.ref sq), .val (.int (1 : Int32))] [(.int (1 : Int32))])
                                  refine B.iload 241 rfl at_239 rfl ?_
                                  refine B.iload 243 rfl at_241 rfl ?_
                                  refine B.icmp_ge 250 246 rfl (by decide) rfl at_243 (fun c243 => ?_) (fun c243 => ?_)
                                  · exact absurd c243 (by decide)
                                  · refine B.iconst 247 rfl (1 : Int32) at_246 rfl ?_
                                    refine B.goto 251 rfl (by decide) at_247 ?_
                                    refine B.icmp_ne 278 254 rfl (by decide) rfl at_251 (fun c251 => ?_) (fun c251 => ?_)
                                    · exact absurd c251 (by decide)
                                    · refine B.aload 256 rfl at_254 rfl rfl ?_
                                      refine B.callV 259 rfl at_256 (wd hw 61 rfl) (wd hw 62 rfl) (wd hw 64 rfl) (wd hw 63 rfl) (wd hw 8 rfl) (wd hw 65 rfl) (by decide) E_r_7 [] [] (rm_hm0 l Z a0 hw r d (4 : Int32) (4 : Int32) h_s Fd_r3 Fp_r3 Fn_r3 (by decide)) rfl rfl pd___Z rfl rfl 0 rfl (by decide) (by decide) (by decide) (by decide) (fun _ q => nomatch q) ?_
                                      rintro _ _ - ⟨rfl, rfl⟩
                                      show B.G h_s 5 46 (mkF m 259 #[.val (.int p1), .val (.int p2), .val (.int p3), .val (.int p4), .val (.int (1 : Int32)), .val (.int (0 : Int32)), .val (.int (0 : Int32)), .val (.int (0 : Int32)), .val (.int (4 : Int32)), .val (.ref d), .val (.ref r), .val (.ref sq), .val (.int (1 : Int32))] [(.int (0 : Int32))])
                                      refine B.iload 261 rfl at_259 rfl ?_
                                      refine B.iload 263 rfl at_261 rfl ?_
                                      refine B.icmp_ge 270 266 rfl (by decide) rfl at_263 (fun c263 => ?_) (fun c263 => ?_)
                                      · refine B.iconst 271 rfl (0 : Int32) at_270 rfl ?_
                                        refine B.icmp_ne 278 274 rfl (by decide) rfl at_271 (fun c271 => ?_) (fun c271 => ?_)
                                        · exact absurd c271 (by decide)
                                        · refine B.iconst 275 rfl (1 : Int32) at_274 rfl ?_
                                          refine B.goto 279 rfl (by decide) at_275 ?_
                                          refine B.istore 281 rfl at_279 #[.val (.int p1), .val (.int p2), .val (.int p3), .val (.int p4), .val (.int (1 : Int32)), .val (.int (0 : Int32)), .val (.int (0 : Int32)), .val (.int (0 : Int32)), .val (.int (4 : Int32)), .val (.ref d), .val (.ref r), .val (.ref sq), .val (.int (1 : Int32))] rfl ?_
                                          refine B.iload 283 rfl at_281 rfl ?_
                                          refine B.retN (by simp) at_283 (by decide) (by decide) ?_
                                          exact rfl
                                      · exact absurd c263 (by decide)
                              · exact absurd c221 (by decide)
                            · exact absurd c210 (by decide)
                          · exact absurd c199 (by decide)
                        · exact absurd c188 (by decide)
                      · refine B.iload 187 rfl at_185 rfl ?_
                        refine B.iconst 188 rfl (1 : Int32) at_187 rfl ?_
                        refine B.icmp_lt 196 191 rfl (by decide) rfl at_188 (fun c188 => ?_) (fun c188 => ?_)
                        · exact absurd c188 (by decide)
                        · refine B.aload 193 rfl at_191 rfl rfl ?_
                          refine B.callVW 196 rfl at_193 (wd hw 66 rfl) (wd hw 67 rfl) (wd hw 69 rfl) (wd hw 68 rfl) (wd hw 8 rfl) (wd hw 70 rfl) (by decide) E_s [] [] (rm_rn l Z a0 hw sq d (2 : Int32) (3 : Int32) (4 : Int32) (4 : Int32) (5 : Int32) (0 : Int32) 2 3 [(.int (48 : Int32)), (.int (2 : Int32)), (.int (5 : Int32)), (.int (0 : Int32))] h_s E_s n_d_sq Fd_s Fp_s Fn_s A_d3 (by decide) (by decide) (by decide) rfl (by decide) (by decide) (by decide) (by decide) (by decide) rfl (by decide) (by decide) (by decide) (by decide)) rfl rfl pd___V rfl rfl 0 rfl (by decide) (by decide) (by decide) (by decide) (fun x z => Or.inr (by cases List.mem_singleton.mp z; exact g_s0)) ?_
                          rintro _ h_n17 K_n17 ⟨rfl, Fd_n17, Fp_n17, Fn_n17, A_n17⟩
                          show B.G h_n17 7 66 (mkF m 196 #[.val (.int p1), .val (.int p2), .val (.int p3), .val (.int p4), .val (.int (1 : Int32)), .val (.int (0 : Int32)), .val (.int (1 : Int32)), .val (.int (0 : Int32)), .val (.int (4 : Int32)), .val (.ref d), .val (.ref r), .val (.ref sq), .val (.int (1 : Int32))] [])
                          have A_d_8 := A_d3.keep K_n17 (ninS n_d_sq nin0)
                          have E_r_8 := E_r_7.keep K_n17
                          have Fd_r_8 := Fd_r3.keep K_n17 (ninS n_r_sq nin0)
                          have Fp_r_8 := Fp_r3.keep K_n17 (ninS n_r_sq nin0)
                          have Fn_r_8 := Fn_r3.keep K_n17 (ninS n_r_sq nin0)
                          have E_sq_8 := E_s.keep K_n17
                          refine B.iload 198 rfl at_196 rfl ?_
                          refine B.iconst 199 rfl (2 : Int32) at_198 rfl ?_
                          refine B.icmp_lt 207 202 rfl (by decide) rfl at_199 (fun c199 => ?_) (fun c199 => ?_)
                          · refine B.iload 209 rfl at_207 rfl ?_
                            refine B.iconst 210 rfl (1 : Int32) at_209 rfl ?_
                            refine B.icmp_lt 218 213 rfl (by decide) rfl at_210 (fun c210 => ?_) (fun c210 => ?_)
                            · refine B.iload 220 rfl at_218 rfl ?_
                              refine B.iconst 221 rfl (2 : Int32) at_220 rfl ?_
                              refine B.icmp_lt 229 224 rfl (by decide) rfl at_221 (fun c221 => ?_) (fun c221 => ?_)
                              · refine B.iload 231 rfl at_229 rfl ?_
                                refine B.if0_eq 278 234 rfl (by decide) rfl at_231 (fun c231 => ?_) (fun c231 => ?_)
                                · exact absurd c231 (by decide)
                                · refine B.aload 236 rfl at_234 rfl rfl ?_
                                  refine B.callV 239 rfl at_236 (wd hw 61 rfl) (wd hw 62 rfl) (wd hw 64 rfl) (wd hw 63 rfl) (wd hw 8 rfl) (wd hw 65 rfl) (by decide) E_sq_8 [] [] (rm_hm0 l Z a0 hw sq d (4 : Int32) (4 : Int32) h_n17 Fd_n17 Fp_n17 Fn_n17 (by decide)) rfl rfl pd___Z rfl rfl 0 rfl (by decide) (by decide) (by decide) (by decide) (fun _ q => nomatch q) ?_
                                  rintro _ _ - ⟨rfl, rfl⟩
                                  show B.G h_n17 7 66 (mkF m 239 #[.val (.int p1), .val (.int p2), .val (.int p3), .val (.int p4), .val (.int (1 : Int32)), .val (.int (0 : Int32)), .val (.int (1 : Int32)), .val (.int (0 : Int32)), .val (.int (4 : Int32)), .val (.ref d), .val (.ref r), .val (.ref sq), .val (.int (1 : Int32))] [(.int (0 : Int32))])
                                  refine B.iload 241 rfl at_239 rfl ?_
                                  refine B.iload 243 rfl at_241 rfl ?_
                                  refine B.icmp_ge 250 246 rfl (by decide) rfl at_243 (fun c243 => ?_) (fun c243 => ?_)
                                  · refine B.iconst 251 rfl (0 : Int32) at_250 rfl ?_
                                    refine B.icmp_ne 278 254 rfl (by decide) rfl at_251 (fun c251 => ?_) (fun c251 => ?_)
                                    · exact absurd c251 (by decide)
                                    · refine B.aload 256 rfl at_254 rfl rfl ?_
                                      refine B.callV 259 rfl at_256 (wd hw 61 rfl) (wd hw 62 rfl) (wd hw 64 rfl) (wd hw 63 rfl) (wd hw 8 rfl) (wd hw 65 rfl) (by decide) E_r_8 [] [] (rm_hm0 l Z a0 hw r d (4 : Int32) (4 : Int32) h_n17 Fd_r_8 Fp_r_8 Fn_r_8 (by decide)) rfl rfl pd___Z rfl rfl 0 rfl (by decide) (by decide) (by decide) (by decide) (fun _ q => nomatch q) ?_
                                      rintro _ _ - ⟨rfl, rfl⟩
                                      show B.G h_n17 7 66 (mkF m 259 #[.val (.int p1), .val (.int p2), .val (.int p3), .val (.int p4), .val (.int (1 : Int32)), .val (.int (0 : Int32)), .val (.int (1 : Int32)), .val (.int (0 : Int32)), .val (.int (4 : Int32)), .val (.ref d), .val (.ref r), .val (.ref sq), .val (.int (1 : Int32))] [(.int (0 : Int32))])
                                      refine B.iload 261 rfl at_259 rfl ?_
                                      refine B.iload 263 rfl at_261 rfl ?_
                                      refine B.icmp_ge 270 266 rfl (by decide) rfl at_263 (fun c263 => ?_) (fun c263 => ?_)
                                      · refine B.iconst 271 rfl (0 : Int32) at_270 rfl ?_
                                        refine B.icmp_ne 278 274 rfl (by decide) rfl at_271 (fun c271 => ?_) (fun c271 => ?_)
                                        · exact absurd c271 (by decide)
                                        · refine B.iconst 275 rfl (1 : Int32) at_274 rfl ?_
                                          refine B.goto 279 rfl (by decide) at_275 ?_
                                          refine B.istore 281 rfl at_279 #[.val (.int p1), .val (.int p2), .val (.int p3), .val (.int p4), .val (.int (1 : Int32)), .val (.int (0 : Int32)), .val (.int (1 : Int32)), .val (.int (0 : Int32)), .val (.int (4 : Int32)), .val (.ref d), .val (.ref r), .val (.ref sq), .val (.int (1 : Int32))] rfl ?_
                                          refine B.iload 283 rfl at_281 rfl ?_
                                          refine B.retN (by simp) at_283 (by decide) (by decide) ?_
                                          exact rfl
                                      · exact absurd c263 (by decide)
                                  · exact absurd c243 (by decide)
                              · exact absurd c221 (by decide)
                            · exact absurd c210 (by decide)
                          · exact absurd c199 (by decide)
              · exact absurd c149 (by decide)
            · exact absurd c115 (by decide)
          · exact absurd c102 (by decide)
        · exact absurd c90 (by decide)
    · refine B.topI (1 : Int32) qm ?_
      refine B.istore 16 rfl at_14 #[.val (.int p1), .val (.int p2), .val (.int p3), .val (.int p4), .val (.int (1 : Int32)), .val (.int (1 : Int32)), .unset, .unset, .unset, .unset, .unset, .unset, .unset] rfl ?_
      refine B.iloadN 17 rfl at_16 rfl ?_
      refine B.ldcI 19 rfl at_17 (wd hw 0 rfl) ?_
      refine B.iand 20 rfl at_19 ?_
      refine B.iconst 21 rfl (3 : Int32) at_20 rfl ?_
      refine B.irem 22 rfl at_21 (by decide) ?_
      refine B.iload 24 rfl at_22 rfl ?_
      refine B.callS 27 rfl at_24 (wd hw 1 rfl) (wd hw 2 rfl) (wd hw 3 rfl) (wd hw 4 rfl) (by decide) [(.int ((p3 &&& (2147483647 : Int32)) % (3 : Int32))), (.int (1 : Int32))] [] (rm_min l Z a0 hw ((p3 &&& (2147483647 : Int32)) % (3 : Int32)) (1 : Int32) h0) rfl rfl pd__II_I rfl rfl 0 rfl (by decide) (by decide) (by decide) (by decide) (fun _ q => nomatch q) ?_
      rintro _ _ - ⟨rfl, rfl⟩
      show B.G h0 0 0 (mkF m 27 #[.val (.int p1), .val (.int p2), .val (.int p3), .val (.int p4), .val (.int (1 : Int32)), .val (.int (1 : Int32)), .unset, .unset, .unset, .unset, .unset, .unset, .unset] [(.int (own_min ((p3 &&& (2147483647 : Int32)) % (3 : Int32)) (1 : Int32)))])
      obtain ⟨rs, ers, hrs⟩ : ∃ z : Int32, own_min ((p3 &&& 2147483647) % 3) 1 = z ∧ (z = 0 ∨ z = 1) := ⟨_, rfl, own_r1 p3⟩
      refine B.topI rs ers ?_
      refine B.istore 29 rfl at_27 #[.val (.int p1), .val (.int p2), .val (.int p3), .val (.int p4), .val (.int (1 : Int32)), .val (.int (1 : Int32)), .val (.int rs), .unset, .unset, .unset, .unset, .unset, .unset] rfl ?_
      refine B.iloadN 30 rfl at_29 rfl ?_
      refine B.ldcI 32 rfl at_30 (wd hw 0 rfl) ?_
      refine B.iand 33 rfl at_32 ?_
      refine B.iconst 34 rfl (3 : Int32) at_33 rfl ?_
      refine B.irem 35 rfl at_34 (by decide) ?_
      refine B.iload 37 rfl at_35 rfl ?_
      refine B.callS 40 rfl at_37 (wd hw 1 rfl) (wd hw 2 rfl) (wd hw 3 rfl) (wd hw 4 rfl) (by decide) [(.int ((p4 &&& (2147483647 : Int32)) % (3 : Int32))), (.int (1 : Int32))] [] (rm_min l Z a0 hw ((p4 &&& (2147483647 : Int32)) % (3 : Int32)) (1 : Int32) h0) rfl rfl pd__II_I rfl rfl 0 rfl (by decide) (by decide) (by decide) (by decide) (fun _ q => nomatch q) ?_
      rintro _ _ - ⟨rfl, rfl⟩
      show B.G h0 0 0 (mkF m 40 #[.val (.int p1), .val (.int p2), .val (.int p3), .val (.int p4), .val (.int (1 : Int32)), .val (.int (1 : Int32)), .val (.int rs), .unset, .unset, .unset, .unset, .unset, .unset] [(.int (own_min ((p4 &&& (2147483647 : Int32)) % (3 : Int32)) (1 : Int32)))])
      obtain ⟨rr, err, hrr⟩ : ∃ z : Int32, own_min ((p4 &&& 2147483647) % 3) 1 = z ∧ (z = 0 ∨ z = 1) := ⟨_, rfl, own_r1 p4⟩
      refine B.topI rr err ?_
      refine B.istore 42 rfl at_40 #[.val (.int p1), .val (.int p2), .val (.int p3), .val (.int p4), .val (.int (1 : Int32)), .val (.int (1 : Int32)), .val (.int rs), .val (.int rr), .unset, .unset, .unset, .unset, .unset] rfl ?_
      refine B.iconst 43 rfl (2 : Int32) at_42 rfl ?_
      refine B.iconst 44 rfl (2 : Int32) at_43 rfl ?_
      refine B.iload 46 rfl at_44 rfl ?_
      refine B.imul 47 rfl at_46 ?_
      refine B.topI (2 : Int32) (by decide) ?_
      refine B.iadd 48 rfl at_47 ?_
      refine B.topI (4 : Int32) (by decide) ?_
      refine B.iconst 49 rfl (2 : Int32) at_48 rfl ?_
      refine B.iload 51 rfl at_49 rfl ?_
      refine B.imul 52 rfl at_51 ?_
      refine B.topI (2 : Int32) (by decide) ?_
      refine B.iadd 53 rfl at_52 ?_
      refine B.topI (6 : Int32) (by decide) ?_
      refine B.istore 55 rfl at_53 #[.val (.int p1), .val (.int p2), .val (.int p3), .val (.int p4), .val (.int (1 : Int32)), .val (.int (1 : Int32)), .val (.int rs), .val (.int rr), .val (.int (6 : Int32)), .unset, .unset, .unset, .unset] rfl ?_
      refine B.iload 57 rfl at_55 rfl ?_
      refine B.newP 59 rfl at_57 (wd hw 5 rfl) (by decide) 6 (by decide) (by decide) (by decide) (by decide) ?_
      intro h_d d e_d g_d X_d A_d
      replace A_d : Ary Z h_d d .byte [(.int (0 : Int32)), (.int (0 : Int32)), (.int (0 : Int32)), (.int (0 : Int32)), (.int (0 : Int32)), (.int (0 : Int32))] := A_d
      show B.G h_d 1 6 (mkF m 59 #[.val (.int p1), .val (.int p2), .val (.int p3), .val (.int p4), .val (.int (1 : Int32)), .val (.int (1 : Int32)), .val (.int rs), .val (.int rr), .val (.int (6 : Int32)), .unset, .unset, .unset, .unset] [(.ref d)])
      refine B.astore 61 rfl at_59 rfl #[.val (.int p1), .val (.int p2), .val (.int p3), .val (.int p4), .val (.int (1 : Int32)), .val (.int (1 : Int32)), .val (.int rs), .val (.int rr), .val (.int (6 : Int32)), .val (.ref d), .unset, .unset, .unset] rfl ?_
      refine B.aload 63 rfl at_61 rfl rfl ?_
      refine B.iconst 64 rfl (0 : Int32) at_63 rfl ?_
      refine B.bipush 66 rfl (48 : Int32) at_64 rfl ?_
      refine B.bastore 67 rfl at_66 A_d (by decide) 0 rfl (by simp) (Or.inr g_d) ?_
      intro hs18 Ws18 As18
      rw [show (((48 : Int32)).toInt8.toInt32) = (48 : Int32) from by decide] at As18
      replace As18 : Ary Z hs18 d .byte [(.int (48 : Int32)), (.int (0 : Int32)), (.int (0 : Int32)), (.int (0 : Int32)), (.int (0 : Int32)), (.int (0 : Int32))] := As18
      refine B.aload 69 rfl at_67 rfl rfl ?_
      refine B.iconst 70 rfl (1 : Int32) at_69 rfl ?_
      refine B.iconst 71 rfl (2 : Int32) at_70 rfl ?_
      refine B.iload 73 rfl at_71 rfl ?_
      refine B.imul 74 rfl at_73 ?_
      refine B.topI (2 : Int32) (by decide) ?_
      refine B.i2b 75 rfl at_74 ?_
      refine B.topI (2 : Int32) (by decide) ?_
      refine B.bastore 76 rfl at_75 As18 (by decide) 1 rfl (by simp) (Or.inr g_d) ?_
      intro hs19 Ws19 As19
      rw [show (((2 : Int32)).toInt8.toInt32) = (2 : Int32) from by decide] at As19
      replace As19 : Ary Z hs19 d .byte [(.int (48 : Int32)), (.int (2 : Int32)), (.int (0 : Int32)), (.int (0 : Int32)), (.int (0 : Int32)), (.int (0 : Int32))] := As19
      refine B.iload 78 rfl at_76 rfl ?_
      refine B.iconst 79 rfl (2 : Int32) at_78 rfl ?_
      refine B.icmp_le 87 82 rfl (by decide) rfl at_79 (fun c79 => ?_) (fun c79 => ?_)
      · exact absurd c79 (by decide)
      · refine B.aload 84 rfl at_82 rfl rfl ?_
        refine B.iconst 85 rfl (2 : Int32) at_84 rfl ?_
        refine B.iconst 86 rfl (5 : Int32) at_85 rfl ?_
        refine B.bastore 87 rfl at_86 As19 (by decide) 2 rfl (by simp) (Or.inr g_d) ?_
        intro hs20 Ws20 As20
        rw [show (((5 : Int32)).toInt8.toInt32) = (5 : Int32) from by decide] at As20
        replace As20 : Ary Z hs20 d .byte [(.int (48 : Int32)), (.int (2 : Int32)), (.int (5 : Int32)), (.int (0 : Int32)), (.int (0 : Int32)), (.int (0 : Int32))] := As20
        refine B.iload 89 rfl at_87 rfl ?_
        refine B.iconst 90 rfl (4 : Int32) at_89 rfl ?_
        refine B.icmp_le 98 93 rfl (by decide) rfl at_90 (fun c90 => ?_) (fun c90 => ?_)
        · exact absurd c90 (by decide)
        · refine B.aload 95 rfl at_93 rfl rfl ?_
          refine B.iconst 96 rfl (4 : Int32) at_95 rfl ?_
          refine B.iconst 97 rfl (5 : Int32) at_96 rfl ?_
          refine B.bastore 98 rfl at_97 As20 (by decide) 4 rfl (by simp) (Or.inr g_d) ?_
          intro hs21 Ws21 As21
          rw [show (((5 : Int32)).toInt8.toInt32) = (5 : Int32) from by decide] at As21
          replace As21 : Ary Z hs21 d .byte [(.int (48 : Int32)), (.int (2 : Int32)), (.int (5 : Int32)), (.int (0 : Int32)), (.int (5 : Int32)), (.int (0 : Int32))] := As21
          refine B.iload 100 rfl at_98 rfl ?_
          refine B.bipush 102 rfl (6 : Int32) at_100 rfl ?_
          refine B.icmp_le 111 105 rfl (by decide) rfl at_102 (fun c102 => ?_) (fun c102 => ?_)
          · refine B.iload 113 rfl at_111 rfl ?_
            refine B.bipush 115 rfl (8 : Int32) at_113 rfl ?_
            refine B.icmp_le 124 118 rfl (by decide) rfl at_115 (fun c115 => ?_) (fun c115 => ?_)
            · refine B.newO 127 rfl at_124 (wd hw 6 rfl) (wd hw 7 rfl) (wd hw 8 rfl) (by decide) (by decide) ?_
              intro h_r r e_r g_r X_r E_r D_r
              show B.G h_r 2 9 (mkF m 127 #[.val (.int p1), .val (.int p2), .val (.int p3), .val (.int p4), .val (.int (1 : Int32)), .val (.int (1 : Int32)), .val (.int rs), .val (.int rr), .val (.int (6 : Int32)), .val (.ref d), .unset, .unset, .unset] [(.ref r)])
              have n_d_r : d ≠ r := fun q => absurd As21.lt (by rw [q, e_r]; exact Nat.lt_irrefl _)
              have A_d_6 := As21.ext X_r
              have F0_r : Fld Z h_r r "io/keyvouch/der/DerReader" "der" "[B" .null := D_r (Or.inr (wd hw 19 rfl)) (ty := (.array .byte)) (by decide)
              have F1_r : Fld Z h_r r "io/keyvouch/der/DerReader" "pos" "I" (.int 0) := D_r (Or.inl (wd hw 21 rfl)) (ty := .int) (by decide)
              have F2_r : Fld Z h_r r "io/keyvouch/der/DerReader" "end" "I" (.int 0) := D_r (Or.inr (wd hw 23 rfl)) (ty := .int) (by decide)
              refine B.dup 128 rfl at_127 rfl ?_
              refine B.aload 130 rfl at_128 rfl rfl ?_
              refine B.callI 133 rfl at_130 rfl (wd hw 9 rfl) (wd hw 10 rfl) (wd hw 8 rfl) (wd hw 11 rfl) (by decide) [(.ref d)] [(.ref r)] (rm_i1 l Z a0 hw r d (6 : Int32) [(.int (48 : Int32)), (.int (2 : Int32)), (.int (5 : Int32)), (.int (0 : Int32)), (.int (5 : Int32)), (.int (0 : Int32))] h_r A_d_6 rfl E_r F0_r F1_r F2_r) rfl rfl pd___B_V rfl rfl 1 rfl (by decide) (by decide) (by decide) (by decide) (fun x z => Or.inr (by cases List.mem_singleton.mp z; exact g_r)) ?_
              rintro _ h_r2 K_r2 ⟨rfl, Fd_r, Fp_r, Fn_r⟩
              show B.G h_r2 2 9 (mkF m 133 #[.val (.int p1), .val (.int p2), .val (.int p3), .val (.int p4), .val (.int (1 : Int32)), .val (.int (1 : Int32)), .val (.int rs), .val (.int rr), .val (.int (6 : Int32)), .val (.ref d), .unset, .unset, .unset] [(.ref r)])
              have A_d_7 := A_d_6.keep K_r2 (ninS n_d_r nin0)
              have E_r_7 := E_r.keep K_r2
              refine B.astore 135 rfl at_133 rfl #[.val (.int p1), .val (.int p2), .val (.int p3), .val (.int p4), .val (.int (1 : Int32)), .val (.int (1 : Int32)), .val (.int rs), .val (.int rr), .val (.int (6 : Int32)), .val (.ref d), .val (.ref r), .unset, .unset] rfl ?_
              refine B.aload 137 rfl at_135 rfl rfl ?_
              refine B.callVW 140 rfl at_137 (wd hw 24 rfl) (wd hw 25 rfl) (wd hw 27 rfl) (wd hw 26 rfl) (wd hw 8 rfl) (wd hw 28 rfl) (by decide) E_r_7 [] [] (rm_rs l Z a0 hw r d (0 : Int32) (1 : Int32) (2 : Int32) (6 : Int32) (48 : Int32) (2 : Int32) (2 : Int32) 0 1 [(.int (48 : Int32)), (.int (2 : Int32)), (.int (5 : Int32)), (.int (0 : Int32)), (.int (5 : Int32)), (.int (0 : Int32))] (4 : Int32) h_r2 E_r_7 n_d_r Fd_r Fp_r Fn_r A_d_7 (by decide) (by decide) (by decide) rfl (by decide) (by decide) (by decide) (by decide) (by decide) rfl (by decide) (by decide) (by decide) (by decide) (by decide)) rfl rfl pd___Lio_keyvouch_der_DerReader_ rfl rfl 0 rfl (by decide) (by decide) (by decide) (by decide) (fun x z => Or.inr (by cases List.mem_singleton.mp z; exact g_r)) ?_
              rintro _ h_s K_s ⟨sq, rfl, g_s, E_s, Fd_s, Fp_s, Fn_s, Fd_r3, Fp_r3, Fn_r3, A_d3⟩
              show B.G h_s 5 48 (mkF m 140 #[.val (.int p1), .val (.int p2), .val (.int p3), .val (.int p4), .val (.int (1 : Int32)), .val (.int (1 : Int32)), .val (.int rs), .val (.int rr), .val (.int (6 : Int32)), .val (.ref d), .val (.ref r), .unset, .unset] [(.ref sq)])
              have n_r_sq : r ≠ sq := fun q => absurd E_r_7.lt (by rw [q]; exact Nat.not_lt.mpr g_s)
              have n_d_sq : d ≠ sq := fun q => absurd A_d_7.lt (by rw [q]; exact Nat.not_lt.mpr g_s)
              have g_s0 : h0.size ≤ sq := Nat.le_trans (Nat.le_trans g_r (Nat.le_of_lt E_r_7.lt)) g_s
              have A_d_8 := A_d_7.keep K_s (ninS n_d_r nin0)
              have E_r_8 := E_r_7.keep K_s
              refine B.astore 142 rfl at_140 rfl #[.val (.int p1), .val (.int p2), .val (.int p3), .val (.int p4), .val (.int (1 : Int32)), .val (.int (1 : Int32)), .val (.int rs), .val (.int rr), .val (.int (6 : Int32)), .val (.ref d), .val (.ref r), .val (.ref sq), .unset] rfl ?_
              refine B.aload 144 rfl at_142 rfl rfl ?_
              refine B.callV 147 rfl at_144 (wd hw 61 rfl) (wd hw 62 rfl) (wd hw 64 rfl) (wd hw 63 rfl) (wd hw 8 rfl) (wd hw 65 rfl) (by decide) E_r_8 [] [] (rm_hm1 l Z a0 hw r d (4 : Int32) (6 : Int32) h_s Fd_r3 Fp_r3 Fn_r3 (by decide)) rfl rfl pd___Z rfl rfl 0 rfl (by decide) (by decide) (by decide) (by decide) (fun _ q => nomatch q) ?_
              rintro _ _ - ⟨rfl, rfl⟩
              show B.G h_s 5 48 (mkF m 147 #[.val (.int p1), .val (.int p2), .val (.int p3), .val (.int p4), .val (.int (1 : Int32)), .val (.int (1 : Int32)), .val (.int rs), .val (.int rr), .val (.int (6 : Int32)), .val (.ref d), .val (.ref r), .val (.ref sq), .unset] [(.int (1 : Int32))])
              refine B.iload 149 rfl at_147 rfl ?_
              refine B.if0_le 156 152 rfl (by decide) rfl at_149 (fun c149 => ?_) (fun c149 => ?_)
              · exact absurd c149 (by decide)
              · refine B.iconst 153 rfl (1 : Int32) at_152 rfl ?_
                refine B.goto 157 rfl (by decide) at_153 ?_
                refine B.icmp_ne 182 160 rfl (by decide) rfl at_157 (fun c157 => ?_) (fun c157 => ?_)
                · exact absurd c157 (by decide)
                · refine B.aload 162 rfl at_160 rfl rfl ?_
                  refine B.callV 165 rfl at_162 (wd hw 61 rfl) (wd hw 62 rfl) (wd hw 64 rfl) (wd hw 63 rfl) (wd hw 8 rfl) (wd hw 65 rfl) (by decide) E_s [] [] (rm_hm1 l Z a0 hw sq d (2 : Int32) (4 : Int32) h_s Fd_s Fp_s Fn_s (by decide)) rfl rfl pd___Z rfl rfl 0 rfl (by decide) (by decide) (by decide) (by decide) (fun _ q => nomatch q) ?_
                  rintro _ _ - ⟨rfl, rfl⟩
                  show B.G h_s 5 48 (mkF m 165 #[.val (.int p1), .val (.int p2), .val (.int p3), .val (.int p4), .val (.int (1 : Int32)), .val (.int (1 : Int32)), .val (.int rs), .val (.int rr), .val (.int (6 : Int32)), .val (.ref d), .val (.ref r), .val (.ref sq), .unset] [(.int (1 : Int32))])
                  refine B.iload 167 rfl at_165 rfl ?_
                  refine B.if0_le 174 170 rfl (by decide) rfl at_167 (fun c167 => ?_) (fun c167 => ?_)
                  · exact absurd c167 (by decide)
                  · refine B.iconst 171 rfl (1 : Int32) at_170 rfl ?_
                    refine B.goto 175 rfl (by decide) at_171 ?_
                    refine B.icmp_ne 182 178 rfl (by decide) rfl at_175 (fun c175 => ?_) (fun c175 => ?_)
                    · exact absurd c175 (by decide)
                    · refine B.iconst 179 rfl (1 : Int32) at_178 rfl ?_
                      refine B.goto 183 rfl (by decide) at_179 ?_
                      refine B.istore 185 rfl at_183 #[.val (.int p1), .val (.int p2), .val (.int p3), .val (.int p4), .val (.int (1 : Int32)), .val (.int (1 : Int32)), .val (.int rs), .val (.int rr), .val (.int (6 : Int32)), .val (.ref d), .val (.ref r), .val (.ref sq), .val (.int (1 : Int32))] rfl ?_
                      rcases hrs with rfl | rfl
                      · rcases hrr with rfl | rfl
                        · refine B.iload 187 rfl at_185 rfl ?_
                          refine B.iconst 188 rfl (1 : Int32) at_187 rfl ?_
                          refine B.icmp_lt 196 191 rfl (by decide) rfl at_188 (fun c188 => ?_) (fun c188 => ?_)
                          · refine B.iload 198 rfl at_196 rfl ?_
                            refine B.iconst 199 rfl (2 : Int32) at_198 rfl ?_
                            refine B.icmp_lt 207 202 rfl (by decide) rfl at_199 (fun c199 => ?_) (fun c199 => ?_)
                            · refine B.iload 209 rfl at_207 rfl ?_
                              refine B.iconst 210 rfl (1 : Int32) at_209 rfl ?_
                              refine B.icmp_lt 218 213 rfl (by decide) rfl at_210 (fun c210 => ?_) (fun c210 => ?_)
                              · refine B.iload 220 rfl at_218 rfl ?_
                                refine B.iconst 221 rfl (2 : Int32) at_220 rfl ?_
                                refine B.icmp_lt 229 224 rfl (by decide) rfl at_221 (fun c221 => ?_) (fun c221 => ?_)
                                · refine B.iload 231 rfl at_229 rfl ?_
                                  refine B.if0_eq 278 234 rfl (by decide) rfl at_231 (fun c231 => ?_) (fun c231 => ?_)
                                  · exact absurd c231 (by decide)
                                  · refine B.aload 236 rfl at_234 rfl rfl ?_
                                    refine B.callV 239 rfl at_236 (wd hw 61 rfl) (wd hw 62 rfl) (wd hw 64 rfl) (wd hw 63 rfl) (wd hw 8 rfl) (wd hw 65 rfl) (by decide) E_s [] [] (rm_hm1 l Z a0 hw sq d (2 : Int32) (4 : Int32) h_s Fd_s Fp_s Fn_s (by decide)) rfl rfl pd___Z rfl rfl 0 rfl (by decide) (by decide) (by decide) (by decide) (fun _ q => nomatch q) ?_
                                    rintro _ _ - ⟨rfl, rfl⟩
                                    show B.G h_s 5 48 (mkF m 239 #[.val (.int p1), .val (.int p2), .val (.int p3), .val (.int p4), .val (.int (1 : Int32)), .val (.int (1 : Int32)), .val (.int (0 : Int32)), .val (.int (0 : Int32)), .val (.int (6 : Int32)), .val (.ref d), .val (.ref r), .val (.ref sq), .val (.int (1 : Int32))] [(.int (1 : Int32))])
                                    refine B.iload 241 rfl at_239 rfl ?_
                                    refine B.iload 243 rfl at_241 rfl ?_
                                    refine B.icmp_ge 250 246 rfl (by decide) rfl at_243 (fun c243 => ?_) (fun c243 => ?_)
                                    · exact absurd c243 (by decide)
                                    · refine B.iconst 247 rfl (1 : Int32) at_246 rfl ?_
                                      refine B.goto 251 rfl (by decide) at_247 ?_
                                      refine B.icmp_ne 278 254 rfl (by decide) rfl at_251 (fun c251 => ?_) (fun c251 => ?_)
                                      · exact absurd c251 (by decide)
                                      · refine B.aload 256 rfl at_254 rfl rfl ?_
                                        refine B.callV 259 rfl at_256 (wd hw 61 rfl) (wd hw 62 rfl) (wd hw 64 rfl) (wd hw 63 rfl) (wd hw 8 rfl) (wd hw 65 rfl) (by decide) E_r_8 [] [] (rm_hm1 l Z a0 hw r d (4 : Int32) (6 : Int32) h_s Fd_r3 Fp_r3 Fn_r3 (by decide)) rfl rfl pd___Z rfl rfl 0 rfl (by decide) (by decide) (by decide) (by decide) (fun _ q => nomatch q) ?_
                                        rintro _ _ - ⟨rfl, rfl⟩
                                        show B.G h_s 5 48 (mkF m 259 #[.val (.int p1), .val (.int p2), .val (.int p3), .val (.int p4), .val (.int (1 : Int32)), .val (.int (1 : Int32)), .val (.int (0 : Int32)), .val (.int (0 : Int32)), .val (.int (6 : Int32)), .val (.ref d), .val (.ref r), .val (.ref sq), .val (.int (1 : Int32))] [(.int (1 : Int32))])
                                        refine B.iload 261 rfl at_259 rfl ?_
                                        refine B.iload 263 rfl at_261 rfl ?_
                                        refine B.icmp_ge 270 266 rfl (by decide) rfl at_263 (fun c263 => ?_) (fun c263 => ?_)
                                        · exact absurd c263 (by decide)
                                        · refine B.iconst 267 rfl (1 : Int32) at_266 rfl ?_
                                          refine B.goto 271 rfl (by decide) at_267 ?_
                                          refine B.icmp_ne 278 274 rfl (by decide) rfl at_271 (fun c271 => ?_) (fun c271 => ?_)
                                          · exact absurd c271 (by decide)
                                          · refine B.iconst 275 rfl (1 : Int32) at_274 rfl ?_
                                            refine B.goto 279 rfl (by decide) at_275 ?_
                                            refine B.istore 281 rfl at_279 #[.val (.int p1), .val (.int p2), .val (.int p3), .val (.int p4), .val (.int (1 : Int32)), .val (.int (1 : Int32)), .val (.int (0 : Int32)), .val (.int (0 : Int32)), .val (.int (6 : Int32)), .val (.ref d), .val (.ref r), .val (.ref sq), .val (.int (1 : Int32))] rfl ?_
                                            refine B.iload 283 rfl at_281 rfl ?_
                                            refine B.retN (by simp) at_283 (by decide) (by decide) ?_
                                            exact rfl
                                · exact absurd c221 (by decide)
                              · exact absurd c210 (by decide)
                            · exact absurd c199 (by decide)
                          · exact absurd c188 (by decide)
                        · refine B.iload 187 rfl at_185 rfl ?_
                          refine B.iconst 188 rfl (1 : Int32) at_187 rfl ?_
                          refine B.icmp_lt 196 191 rfl (by decide) rfl at_188 (fun c188 => ?_) (fun c188 => ?_)
                          · refine B.iload 198 rfl at_196 rfl ?_
                            refine B.iconst 199 rfl (2 : Int32) at_198 rfl ?_
                            refine B.icmp_lt 207 202 rfl (by decide) rfl at_199 (fun c199 => ?_) (fun c199 => ?_)
                            · refine B.iload 209 rfl at_207 rfl ?_
                              refine B.iconst 210 rfl (1 : Int32) at_209 rfl ?_
                              refine B.icmp_lt 218 213 rfl (by decide) rfl at_210 (fun c210 => ?_) (fun c210 => ?_)
                              · exact absurd c210 (by decide)
                              · refine B.aload 215 rfl at_213 rfl rfl ?_
                                refine B.callVW 218 rfl at_215 (wd hw 66 rfl) (wd hw 67 rfl) (wd hw 69 rfl) (wd hw 68 rfl) (wd hw 8 rfl) (wd hw 70 rfl) (by decide) E_r_8 [] [] (rm_rn l Z a0 hw r d (4 : Int32) (5 : Int32) (6 : Int32) (6 : Int32) (5 : Int32) (0 : Int32) 4 5 [(.int (48 : Int32)), (.int (2 : Int32)), (.int (5 : Int32)), (.int (0 : Int32)), (.int (5 : Int32)), (.int (0 : Int32))] h_s E_r_8 n_d_r Fd_r3 Fp_r3 Fn_r3 A_d3 (by decide) (by decide) (by decide) rfl (by decide) (by decide) (by decide) (by decide) (by decide) rfl (by decide) (by decide) (by decide) (by decide)) rfl rfl pd___V rfl rfl 0 rfl (by decide) (by decide) (by decide) (by decide) (fun x z => Or.inr (by cases List.mem_singleton.mp z; exact g_r)) ?_
                                rintro _ h_n22 K_n22 ⟨rfl, Fd_n22, Fp_n22, Fn_n22, A_n22⟩
                                show B.G h_n22 7 68 (mkF m 218 #[.val (.int p1), .val (.int p2), .val (.int p3), .val (.int p4), .val (.int (1 : Int32)), .val (.int (1 : Int32)), .val (.int (0 : Int32)), .val (.int (1 : Int32)), .val (.int (6 : Int32)), .val (.ref d), .val (.ref r), .val (.ref sq), .val (.int (1 : Int32))] [])
                                have A_d_9 := A_d3.keep K_n22 (ninS n_d_r nin0)
                                have E_r_9 := E_r_8.keep K_n22
                                have Fd_sq_9 := Fd_s.keep K_n22 (ninS (Ne.symm n_r_sq) nin0)
                                have Fp_sq_9 := Fp_s.keep K_n22 (ninS (Ne.symm n_r_sq) nin0)
                                have Fn_sq_9 := Fn_s.keep K_n22 (ninS (Ne.symm n_r_sq) nin0)
                                have E_sq_9 := E_s.keep K_n22
                                refine B.iload 220 rfl at_218 rfl ?_
                                refine B.iconst 221 rfl (2 : Int32) at_220 rfl ?_
                                refine B.icmp_lt 229 224 rfl (by decide) rfl at_221 (fun c221 => ?_) (fun c221 => ?_)
                                · refine B.iload 231 rfl at_229 rfl ?_
                                  refine B.if0_eq 278 234 rfl (by decide) rfl at_231 (fun c231 => ?_) (fun c231 => ?_)
                                  · exact absurd c231 (by decide)
                                  · refine B.aload 236 rfl at_234 rfl rfl ?_
                                    refine B.callV 239 rfl at_236 (wd hw 61 rfl) (wd hw 62 rfl) (wd hw 64 rfl) (wd hw 63 rfl) (wd hw 8 rfl) (wd hw 65 rfl) (by decide) E_sq_9 [] [] (rm_hm1 l Z a0 hw sq d (2 : Int32) (4 : Int32) h_n22 Fd_sq_9 Fp_sq_9 Fn_sq_9 (by decide)) rfl rfl pd___Z rfl rfl 0 rfl (by decide) (by decide) (by decide) (by decide) (fun _ q => nomatch q) ?_
                                    rintro _ _ - ⟨rfl, rfl⟩
                                    show B.G h_n22 7 68 (mkF m 239 #[.val (.int p1), .val (.int p2), .val (.int p3), .val (.int p4), .val (.int (1 : Int32)), .val (.int (1 : Int32)), .val (.int (0 : Int32)), .val (.int (1 : Int32)), .val (.int (6 : Int32)), .val (.ref d), .val (.ref r), .val (.ref sq), .val (.int (1 : Int32))] [(.int (1 : Int32))])
                                    refine B.iload 241 rfl at_239 rfl ?_
                                    refine B.iload 243 rfl at_241 rfl ?_
                                    refine B.icmp_ge 250 246 rfl (by decide) rfl at_243 (fun c243 => ?_) (fun c243 => ?_)
                                    · exact absurd c243 (by decide)
                                    · refine B.iconst 247 rfl (1 : Int32) at_246 rfl ?_
                                      refine B.goto 251 rfl (by decide) at_247 ?_
                                      refine B.icmp_ne 278 254 rfl (by decide) rfl at_251 (fun c251 => ?_) (fun c251 => ?_)
                                      · exact absurd c251 (by decide)
                                      · refine B.aload 256 rfl at_254 rfl rfl ?_
                                        refine B.callV 259 rfl at_256 (wd hw 61 rfl) (wd hw 62 rfl) (wd hw 64 rfl) (wd hw 63 rfl) (wd hw 8 rfl) (wd hw 65 rfl) (by decide) E_r_9 [] [] (rm_hm0 l Z a0 hw r d (6 : Int32) (6 : Int32) h_n22 Fd_n22 Fp_n22 Fn_n22 (by decide)) rfl rfl pd___Z rfl rfl 0 rfl (by decide) (by decide) (by decide) (by decide) (fun _ q => nomatch q) ?_
                                        rintro _ _ - ⟨rfl, rfl⟩
                                        show B.G h_n22 7 68 (mkF m 259 #[.val (.int p1), .val (.int p2), .val (.int p3), .val (.int p4), .val (.int (1 : Int32)), .val (.int (1 : Int32)), .val (.int (0 : Int32)), .val (.int (1 : Int32)), .val (.int (6 : Int32)), .val (.ref d), .val (.ref r), .val (.ref sq), .val (.int (1 : Int32))] [(.int (0 : Int32))])
                                        refine B.iload 261 rfl at_259 rfl ?_
                                        refine B.iload 263 rfl at_261 rfl ?_
                                        refine B.icmp_ge 270 266 rfl (by decide) rfl at_263 (fun c263 => ?_) (fun c263 => ?_)
                                        · refine B.iconst 271 rfl (0 : Int32) at_270 rfl ?_
                                          refine B.icmp_ne 278 274 rfl (by decide) rfl at_271 (fun c271 => ?_) (fun c271 => ?_)
                                          · exact absurd c271 (by decide)
                                          · refine B.iconst 275 rfl (1 : Int32) at_274 rfl ?_
                                            refine B.goto 279 rfl (by decide) at_275 ?_
                                            refine B.istore 281 rfl at_279 #[.val (.int p1), .val (.int p2), .val (.int p3), .val (.int p4), .val (.int (1 : Int32)), .val (.int (1 : Int32)), .val (.int (0 : Int32)), .val (.int (1 : Int32)), .val (.int (6 : Int32)), .val (.ref d), .val (.ref r), .val (.ref sq), .val (.int (1 : Int32))] rfl ?_
                                            refine B.iload 283 rfl at_281 rfl ?_
                                            refine B.retN (by simp) at_283 (by decide) (by decide) ?_
                                            exact rfl
                                        · exact absurd c263 (by decide)
                                · exact absurd c221 (by decide)
                            · exact absurd c199 (by decide)
                          · exact absurd c188 (by decide)
                      · rcases hrr with rfl | rfl
                        · refine B.iload 187 rfl at_185 rfl ?_
                          refine B.iconst 188 rfl (1 : Int32) at_187 rfl ?_
                          refine B.icmp_lt 196 191 rfl (by decide) rfl at_188 (fun c188 => ?_) (fun c188 => ?_)
                          · exact absurd c188 (by decide)
                          · refine B.aload 193 rfl at_191 rfl rfl ?_
                            refine B.callVW 196 rfl at_193 (wd hw 66 rfl) (wd hw 67 rfl) (wd hw 69 rfl) (wd hw 68 rfl) (wd hw 8 rfl) (wd hw 70 rfl) (by decide) E_s [] [] (rm_rn l Z a0 hw sq d (2 : Int32) (3 : Int32) (4 : Int32) (4 : Int32) (5 : Int32) (0 : Int32) 2 3 [(.int (48 : Int32)), (.int (2 : Int32)), (.int (5 : Int32)), (.int (0 : Int32)), (.int (5 : Int32)), (.int (0 : Int32))] h_s E_s n_d_sq Fd_s Fp_s Fn_s A_d3 (by decide) (by decide) (by decide) rfl (by decide) (by decide) (by decide) (by decide) (by decide) rfl (by decide) (by decide) (by decide) (by decide)) rfl rfl pd___V rfl rfl 0 rfl (by decide) (by decide) (by decide) (by decide) (fun x z => Or.inr (by cases List.mem_singleton.mp z; exact g_s0)) ?_
                            rintro _ h_n23 K_n23 ⟨rfl, Fd_n23, Fp_n23, Fn_n23, A_n23⟩
                            show B.G h_n23 7 68 (mkF m 196 #[.val (.int p1), .val (.int p2), .val (.int p3), .val (.int p4), .val (.int (1 : Int32)), .val (.int (1 : Int32)), .val (.int (1 : Int32)), .val (.int (0 : Int32)), .val (.int (6 : Int32)), .val (.ref d), .val (.ref r), .val (.ref sq), .val (.int (1 : Int32))] [])
                            have A_d_9 := A_d3.keep K_n23 (ninS n_d_sq nin0)
                            have E_r_9 := E_r_8.keep K_n23
                            have Fd_r_9 := Fd_r3.keep K_n23 (ninS n_r_sq nin0)
                            have Fp_r_9 := Fp_r3.keep K_n23 (ninS n_r_sq nin0)
                            have Fn_r_9 := Fn_r3.keep K_n23 (ninS n_r_sq nin0)
                            have E_sq_9 := E_s.keep K_n23
                            refine B.iload 198 rfl at_196 rfl ?_
                            refine B.iconst 199 rfl (2 : Int32) at_198 rfl ?_
                            refine B.icmp_lt 207 202 rfl (by decide) rfl at_199 (fun c199 => ?_) (fun c199 => ?_)
                            · refine B.iload 209 rfl at_207 rfl ?_
                              refine B.iconst 210 rfl (1 : Int32) at_209 rfl ?_
                              refine B.icmp_lt 218 213 rfl (by decide) rfl at_210 (fun c210 => ?_) (fun c210 => ?_)
                              · refine B.iload 220 rfl at_218 rfl ?_
                                refine B.iconst 221 rfl (2 : Int32) at_220 rfl ?_
                                refine B.icmp_lt 229 224 rfl (by decide) rfl at_221 (fun c221 => ?_) (fun c221 => ?_)
                                · refine B.iload 231 rfl at_229 rfl ?_
                                  refine B.if0_eq 278 234 rfl (by decide) rfl at_231 (fun c231 => ?_) (fun c231 => ?_)
                                  · exact absurd c231 (by decide)
                                  · refine B.aload 236 rfl at_234 rfl rfl ?_
                                    refine B.callV 239 rfl at_236 (wd hw 61 rfl) (wd hw 62 rfl) (wd hw 64 rfl) (wd hw 63 rfl) (wd hw 8 rfl) (wd hw 65 rfl) (by decide) E_sq_9 [] [] (rm_hm0 l Z a0 hw sq d (4 : Int32) (4 : Int32) h_n23 Fd_n23 Fp_n23 Fn_n23 (by decide)) rfl rfl pd___Z rfl rfl 0 rfl (by decide) (by decide) (by decide) (by decide) (fun _ q => nomatch q) ?_
                                    rintro _ _ - ⟨rfl, rfl⟩
                                    show B.G h_n23 7 68 (mkF m 239 #[.val (.int p1), .val (.int p2), .val (.int p3), .val (.int p4), .val (.int (1 : Int32)), .val (.int (1 : Int32)), .val (.int (1 : Int32)), .val (.int (0 : Int32)), .val (.int (6 : Int32)), .val (.ref d), .val (.ref r), .val (.ref sq), .val (.int (1 : Int32))] [(.int (0 : Int32))])
                                    refine B.iload 241 rfl at_239 rfl ?_
                                    refine B.iload 243 rfl at_241 rfl ?_
                                    refine B.icmp_ge 250 246 rfl (by decide) rfl at_243 (fun c243 => ?_) (fun c243 => ?_)
                                    · refine B.iconst 251 rfl (0 : Int32) at_250 rfl ?_
                                      refine B.icmp_ne 278 254 rfl (by decide) rfl at_251 (fun c251 => ?_) (fun c251 => ?_)
                                      · exact absurd c251 (by decide)
                                      · refine B.aload 256 rfl at_254 rfl rfl ?_
                                        refine B.callV 259 rfl at_256 (wd hw 61 rfl) (wd hw 62 rfl) (wd hw 64 rfl) (wd hw 63 rfl) (wd hw 8 rfl) (wd hw 65 rfl) (by decide) E_r_9 [] [] (rm_hm1 l Z a0 hw r d (4 : Int32) (6 : Int32) h_n23 Fd_r_9 Fp_r_9 Fn_r_9 (by decide)) rfl rfl pd___Z rfl rfl 0 rfl (by decide) (by decide) (by decide) (by decide) (fun _ q => nomatch q) ?_
                                        rintro _ _ - ⟨rfl, rfl⟩
                                        show B.G h_n23 7 68 (mkF m 259 #[.val (.int p1), .val (.int p2), .val (.int p3), .val (.int p4), .val (.int (1 : Int32)), .val (.int (1 : Int32)), .val (.int (1 : Int32)), .val (.int (0 : Int32)), .val (.int (6 : Int32)), .val (.ref d), .val (.ref r), .val (.ref sq), .val (.int (1 : Int32))] [(.int (1 : Int32))])
                                        refine B.iload 261 rfl at_259 rfl ?_
                                        refine B.iload 263 rfl at_261 rfl ?_
                                        refine B.icmp_ge 270 266 rfl (by decide) rfl at_263 (fun c263 => ?_) (fun c263 => ?_)
                                        · exact absurd c263 (by decide)
                                        · refine B.iconst 267 rfl (1 : Int32) at_266 rfl ?_
                                          refine B.goto 271 rfl (by decide) at_267 ?_
                                          refine B.icmp_ne 278 274 rfl (by decide) rfl at_271 (fun c271 => ?_) (fun c271 => ?_)
                                          · exact absurd c271 (by decide)
                                          · refine B.iconst 275 rfl (1 : Int32) at_274 rfl ?_
                                            refine B.goto 279 rfl (by decide) at_275 ?_
                                            refine B.istore 281 rfl at_279 #[.val (.int p1), .val (.int p2), .val (.int p3), .val (.int p4), .val (.int (1 : Int32)), .val (.int (1 : Int32)), .val (.int (1 : Int32)), .val (.int (0 : Int32)), .val (.int (6 : Int32)), .val (.ref d), .val (.ref r), .val (.ref sq), .val (.int (1 : Int32))] rfl ?_
                                            refine B.iload 283 rfl at_281 rfl ?_
                                            refine B.retN (by simp) at_283 (by decide) (by decide) ?_
                                            exact rfl
                                    · exact absurd c243 (by decide)
                                · exact absurd c221 (by decide)
                              · exact absurd c210 (by decide)
                            · exact absurd c199 (by decide)
                        · refine B.iload 187 rfl at_185 rfl ?_
                          refine B.iconst 188 rfl (1 : Int32) at_187 rfl ?_
                          refine B.icmp_lt 196 191 rfl (by decide) rfl at_188 (fun c188 => ?_) (fun c188 => ?_)
                          · exact absurd c188 (by decide)
                          · refine B.aload 193 rfl at_191 rfl rfl ?_
                            refine B.callVW 196 rfl at_193 (wd hw 66 rfl) (wd hw 67 rfl) (wd hw 69 rfl) (wd hw 68 rfl) (wd hw 8 rfl) (wd hw 70 rfl) (by decide) E_s [] [] (rm_rn l Z a0 hw sq d (2 : Int32) (3 : Int32) (4 : Int32) (4 : Int32) (5 : Int32) (0 : Int32) 2 3 [(.int (48 : Int32)), (.int (2 : Int32)), (.int (5 : Int32)), (.int (0 : Int32)), (.int (5 : Int32)), (.int (0 : Int32))] h_s E_s n_d_sq Fd_s Fp_s Fn_s A_d3 (by decide) (by decide) (by decide) rfl (by decide) (by decide) (by decide) (by decide) (by decide) rfl (by decide) (by decide) (by decide) (by decide)) rfl rfl pd___V rfl rfl 0 rfl (by decide) (by decide) (by decide) (by decide) (fun x z => Or.inr (by cases List.mem_singleton.mp z; exact g_s0)) ?_
                            rintro _ h_n24 K_n24 ⟨rfl, Fd_n24, Fp_n24, Fn_n24, A_n24⟩
                            show B.G h_n24 7 68 (mkF m 196 #[.val (.int p1), .val (.int p2), .val (.int p3), .val (.int p4), .val (.int (1 : Int32)), .val (.int (1 : Int32)), .val (.int (1 : Int32)), .val (.int (1 : Int32)), .val (.int (6 : Int32)), .val (.ref d), .val (.ref r), .val (.ref sq), .val (.int (1 : Int32))] [])
                            have A_d_9 := A_d3.keep K_n24 (ninS n_d_sq nin0)
                            have E_r_9 := E_r_8.keep K_n24
                            have Fd_r_9 := Fd_r3.keep K_n24 (ninS n_r_sq nin0)
                            have Fp_r_9 := Fp_r3.keep K_n24 (ninS n_r_sq nin0)
                            have Fn_r_9 := Fn_r3.keep K_n24 (ninS n_r_sq nin0)
                            have E_sq_9 := E_s.keep K_n24
                            refine B.iload 198 rfl at_196 rfl ?_
                            refine B.iconst 199 rfl (2 : Int32) at_198 rfl ?_
                            refine B.icmp_lt 207 202 rfl (by decide) rfl at_199 (fun c199 => ?_) (fun c199 => ?_)
                            · refine B.iload 209 rfl at_207 rfl ?_
                              refine B.iconst 210 rfl (1 : Int32) at_209 rfl ?_
                              refine B.icmp_lt 218 213 rfl (by decide) rfl at_210 (fun c210 => ?_) (fun c210 => ?_)
                              · exact absurd c210 (by decide)
                              · refine B.aload 215 rfl at_213 rfl rfl ?_
                                refine B.callVW 218 rfl at_215 (wd hw 66 rfl) (wd hw 67 rfl) (wd hw 69 rfl) (wd hw 68 rfl) (wd hw 8 rfl) (wd hw 70 rfl) (by decide) E_r_9 [] [] (rm_rn l Z a0 hw r d (4 : Int32) (5 : Int32) (6 : Int32) (6 : Int32) (5 : Int32) (0 : Int32) 4 5 [(.int (48 : Int32)), (.int (2 : Int32)), (.int (5 : Int32)), (.int (0 : Int32)), (.int (5 : Int32)), (.int (0 : Int32))] h_n24 E_r_9 n_d_r Fd_r_9 Fp_r_9 Fn_r_9 A_n24 (by decide) (by decide) (by decide) rfl (by decide) (by decide) (by decide) (by decide) (by decide) rfl (by decide) (by decide) (by decide) (by decide)) rfl rfl pd___V rfl rfl 0 rfl (by decide) (by decide) (by decide) (by decide) (fun x z => Or.inr (by cases List.mem_singleton.mp z; exact g_r)) ?_
                                rintro _ h_n25 K_n25 ⟨rfl, Fd_n25, Fp_n25, Fn_n25, A_n25⟩
                                show B.G h_n25 9 88 (mkF m 218 #[.val (.int p1), .val (.int p2), .val (.int p3), .val (.int p4), .val (.int (1 : Int32)), .val (.int (1 : Int32)), .val (.int (1 : Int32)), .val (.int (1 : Int32)), .val (.int (6 : Int32)), .val (.ref d), .val (.ref r), .val (.ref sq), .val (.int (1 : Int32))] [])
                                have A_d_10 := A_n24.keep K_n25 (ninS n_d_r nin0)
                                have E_r_10 := E_r_9.keep K_n25
                                have E_sq_10 := E_sq_9.keep K_n25
                                have Fd_sq_10 := Fd_n24.keep K_n25 (ninS (Ne.symm n_r_sq) nin0)
                                have Fp_sq_10 := Fp_n24.keep K_n25 (ninS (Ne.symm n_r_sq) nin0)
                                have Fn_sq_10 := Fn_n24.keep K_n25 (ninS (Ne.symm n_r_sq) nin0)
                                refine B.iload 220 rfl at_218 rfl ?_
                                refine B.iconst 221 rfl (2 : Int32) at_220 rfl ?_
                                refine B.icmp_lt 229 224 rfl (by decide) rfl at_221 (fun c221 => ?_) (fun c221 => ?_)
                                · refine B.iload 231 rfl at_229 rfl ?_
                                  refine B.if0_eq 278 234 rfl (by decide) rfl at_231 (fun c231 => ?_) (fun c231 => ?_)
                                  · exact absurd c231 (by decide)
                                  · refine B.aload 236 rfl at_234 rfl rfl ?_
                                    refine B.callV 239 rfl at_236 (wd hw 61 rfl) (wd hw 62 rfl) (wd hw 64 rfl) (wd hw 63 rfl) (wd hw 8 rfl) (wd hw 65 rfl) (by decide) E_sq_10 [] [] (rm_hm0 l Z a0 hw sq d (4 : Int32) (4 : Int32) h_n25 Fd_sq_10 Fp_sq_10 Fn_sq_10 (by decide)) rfl rfl pd___Z rfl rfl 0 rfl (by decide) (by decide) (by decide) (by decide) (fun _ q => nomatch q) ?_
                                    rintro _ _ - ⟨rfl, rfl⟩
                                    show B.G h_n25 9 88 (mkF m 239 #[.val (.int p1), .val (.int p2), .val (.int p3), .val (.int p4), .val (.int (1 : Int32)), .val (.int (1 : Int32)), .val (.int (1 : Int32)), .val (.int (1 : Int32)), .val (.int (6 : Int32)), .val (.ref d), .val (.ref r), .val (.ref sq), .val (.int (1 : Int32))] [(.int (0 : Int32))])
                                    refine B.iload 241 rfl at_239 rfl ?_
                                    refine B.iload 243 rfl at_241 rfl ?_
                                    refine B.icmp_ge 250 246 rfl (by decide) rfl at_243 (fun c243 => ?_) (fun c243 => ?_)
                                    · refine B.iconst 251 rfl (0 : Int32) at_250 rfl ?_
                                      refine B.icmp_ne 278 254 rfl (by decide) rfl at_251 (fun c251 => ?_) (fun c251 => ?_)
                                      · exact absurd c251 (by decide)
                                      · refine B.aload 256 rfl at_254 rfl rfl ?_
                                        refine B.callV 259 rfl at_256 (wd hw 61 rfl) (wd hw 62 rfl) (wd hw 64 rfl) (wd hw 63 rfl) (wd hw 8 rfl) (wd hw 65 rfl) (by decide) E_r_10 [] [] (rm_hm0 l Z a0 hw r d (6 : Int32) (6 : Int32) h_n25 Fd_n25 Fp_n25 Fn_n25 (by decide)) rfl rfl pd___Z rfl rfl 0 rfl (by decide) (by decide) (by decide) (by decide) (fun _ q => nomatch q) ?_
                                        rintro _ _ - ⟨rfl, rfl⟩
                                        show B.G h_n25 9 88 (mkF m 259 #[.val (.int p1), .val (.int p2), .val (.int p3), .val (.int p4), .val (.int (1 : Int32)), .val (.int (1 : Int32)), .val (.int (1 : Int32)), .val (.int (1 : Int32)), .val (.int (6 : Int32)), .val (.ref d), .val (.ref r), .val (.ref sq), .val (.int (1 : Int32))] [(.int (0 : Int32))])
                                        refine B.iload 261 rfl at_259 rfl ?_
                                        refine B.iload 263 rfl at_261 rfl ?_
                                        refine B.icmp_ge 270 266 rfl (by decide) rfl at_263 (fun c263 => ?_) (fun c263 => ?_)
                                        · refine B.iconst 271 rfl (0 : Int32) at_270 rfl ?_
                                          refine B.icmp_ne 278 274 rfl (by decide) rfl at_271 (fun c271 => ?_) (fun c271 => ?_)
                                          · exact absurd c271 (by decide)
                                          · refine B.iconst 275 rfl (1 : Int32) at_274 rfl ?_
                                            refine B.goto 279 rfl (by decide) at_275 ?_
                                            refine B.istore 281 rfl at_279 #[.val (.int p1), .val (.int p2), .val (.int p3), .val (.int p4), .val (.int (1 : Int32)), .val (.int (1 : Int32)), .val (.int (1 : Int32)), .val (.int (1 : Int32)), .val (.int (6 : Int32)), .val (.ref d), .val (.ref r), .val (.ref sq), .val (.int (1 : Int32))] rfl ?_
                                            refine B.iload 283 rfl at_281 rfl ?_
                                            refine B.retN (by simp) at_283 (by decide) (by decide) ?_
                                            exact rfl
                                        · exact absurd c263 (by decide)
                                    · exact absurd c243 (by decide)
                                · exact absurd c221 (by decide)
                            · exact absurd c199 (by decide)
            · exact absurd c115 (by decide)
          · exact absurd c102 (by decide)
    · refine B.topI (2 : Int32) qm ?_
      refine B.istore 16 rfl at_14 #[.val (.int p1), .val (.int p2), .val (.int p3), .val (.int p4), .val (.int (1 : Int32)), .val (.int (2 : Int32)), .unset, .unset, .unset, .unset, .unset, .unset, .unset] rfl ?_
      refine B.iloadN 17 rfl at_16 rfl ?_
      refine B.ldcI 19 rfl at_17 (wd hw 0 rfl) ?_
      refine B.iand 20 rfl at_19 ?_
      refine B.iconst 21 rfl (3 : Int32) at_20 rfl ?_
      refine B.irem 22 rfl at_21 (by decide) ?_
      refine B.iload 24 rfl at_22 rfl ?_
      refine B.callS 27 rfl at_24 (wd hw 1 rfl) (wd hw 2 rfl) (wd hw 3 rfl) (wd hw 4 rfl) (by decide) [(.int ((p3 &&& (2147483647 : Int32)) % (3 : Int32))), (.int (1 : Int32))] [] (rm_min l Z a0 hw ((p3 &&& (2147483647 : Int32)) % (3 : Int32)) (1 : Int32) h0) rfl rfl pd__II_I rfl rfl 0 rfl (by decide) (by decide) (by decide) (by decide) (fun _ q => nomatch q) ?_
      rintro _ _ - ⟨rfl, rfl⟩
      show B.G h0 0 0 (mkF m 27 #[.val (.int p1), .val (.int p2), .val (.int p3), .val (.int p4), .val (.int (1 : Int32)), .val (.int (2 : Int32)), .unset, .unset, .unset, .unset, .unset, .unset, .unset] [(.int (own_min ((p3 &&& (2147483647 : Int32)) % (3 : Int32)) (1 : Int32)))])
      obtain ⟨rs, ers, hrs⟩ : ∃ z : Int32, own_min ((p3 &&& 2147483647) % 3) 1 = z ∧ (z = 0 ∨ z = 1) := ⟨_, rfl, own_r1 p3⟩
      refine B.topI rs ers ?_
      refine B.istore 29 rfl at_27 #[.val (.int p1), .val (.int p2), .val (.int p3), .val (.int p4), .val (.int (1 : Int32)), .val (.int (2 : Int32)), .val (.int rs), .unset, .unset, .unset, .unset, .unset, .unset] rfl ?_
      refine B.iloadN 30 rfl at_29 rfl ?_
      refine B.ldcI 32 rfl at_30 (wd hw 0 rfl) ?_
      refine B.iand 33 rfl at_32 ?_
      refine B.iconst 34 rfl (3 : Int32) at_33 rfl ?_
      refine B.irem 35 rfl at_34 (by decide) ?_
      refine B.iload 37 rfl at_35 rfl ?_
      refine B.callS 40 rfl at_37 (wd hw 1 rfl) (wd hw 2 rfl) (wd hw 3 rfl) (wd hw 4 rfl) (by decide) [(.int ((p4 &&& (2147483647 : Int32)) % (3 : Int32))), (.int (2 : Int32))] [] (rm_min l Z a0 hw ((p4 &&& (2147483647 : Int32)) % (3 : Int32)) (2 : Int32) h0) rfl rfl pd__II_I rfl rfl 0 rfl (by decide) (by decide) (by decide) (by decide) (fun _ q => nomatch q) ?_
      rintro _ _ - ⟨rfl, rfl⟩
      show B.G h0 0 0 (mkF m 40 #[.val (.int p1), .val (.int p2), .val (.int p3), .val (.int p4), .val (.int (1 : Int32)), .val (.int (2 : Int32)), .val (.int rs), .unset, .unset, .unset, .unset, .unset, .unset] [(.int (own_min ((p4 &&& (2147483647 : Int32)) % (3 : Int32)) (2 : Int32)))])
      obtain ⟨rr, err, hrr⟩ : ∃ z : Int32, own_min ((p4 &&& 2147483647) % 3) 2 = z ∧ (z = 0 ∨ z = 1 ∨ z = 2) := ⟨_, rfl, own_r2 p4⟩
      refine B.topI rr err ?_
      refine B.istore 42 rfl at_40 #[.val (.int p1), .val (.int p2), .val (.int p3), .val (.int p4), .val (.int (1 : Int32)), .val (.int (2 : Int32)), .val (.int rs), .val (.int rr), .unset, .unset, .unset, .unset, .unset] rfl ?_
      refine B.iconst 43 rfl (2 : Int32) at_42 rfl ?_
      refine B.iconst 44 rfl (2 : Int32) at_43 rfl ?_
      refine B.iload 46 rfl at_44 rfl ?_
      refine B.imul 47 rfl at_46 ?_
      refine B.topI (2 : Int32) (by decide) ?_
      refine B.iadd 48 rfl at_47 ?_
      refine B.topI (4 : Int32) (by decide) ?_
      refine B.iconst 49 rfl (2 : Int32) at_48 rfl ?_
      refine B.iload 51 rfl at_49 rfl ?_
      refine B.imul 52 rfl at_51 ?_
      refine B.topI (4 : Int32) (by decide) ?_
      refine B.iadd 53 rfl at_52 ?_
      refine B.topI (8 : Int32) (by decide) ?_
      refine B.istore 55 rfl at_53 #[.val (.int p1), .val (.int p2), .val (.int p3), .val (.int p4), .val (.int (1 : Int32)), .val (.int (2 : Int32)), .val (.int rs), .val (.int rr), .val (.int (8 : Int32)), .unset, .unset, .unset, .unset] rfl ?_
      refine B.iload 57 rfl at_55 rfl ?_
      refine B.newP 59 rfl at_57 (wd hw 5 rfl) (by decide) 8 (by decide) (by decide) (by decide) (by decide) ?_
      intro h_d d e_d g_d X_d A_d
      replace A_d : Ary Z h_d d .byte [(.int (0 : Int32)), (.int (0 : Int32)), (.int (0 : Int32)), (.int (0 : Int32)), (.int (0 : Int32)), (.int (0 : Int32)), (.int (0 : Int32)), (.int (0 : Int32))] := A_d
      show B.G h_d 1 8 (mkF m 59 #[.val (.int p1), .val (.int p2), .val (.int p3), .val (.int p4), .val (.int (1 : Int32)), .val (.int (2 : Int32)), .val (.int rs), .val (.int rr), .val (.int (8 : Int32)), .unset, .unset, .unset, .unset] [(.ref d)])
      refine B.astore 61 rfl at_59 rfl #[.val (.int p1), .val (.int p2), .val (.int p3), .val (.int p4), .val (.int (1 : Int32)), .val (.int (2 : Int32)), .val (.int rs), .val (.int rr), .val (.int (8 : Int32)), .val (.ref d), .unset, .unset, .unset] rfl ?_
      refine B.aload 63 rfl at_61 rfl rfl ?_
      refine B.iconst 64 rfl (0 : Int32) at_63 rfl ?_
      refine B.bipush 66 rfl (48 : Int32) at_64 rfl ?_
      refine B.bastore 67 rfl at_66 A_d (by decide) 0 rfl (by simp) (Or.inr g_d) ?_
      intro hs26 Ws26 As26
      rw [show (((48 : Int32)).toInt8.toInt32) = (48 : Int32) from by decide] at As26
      replace As26 : Ary Z hs26 d .byte [(.int (48 : Int32)), (.int (0 : Int32)), (.int (0 : Int32)), (.int (0 : Int32)), (.int (0 : Int32)), (.int (0 : Int32)), (.int (0 : Int32)), (.int (0 : Int32))] := As26
      refine B.aload 69 rfl at_67 rfl rfl ?_
      refine B.iconst 70 rfl (1 : Int32) at_69 rfl ?_
      refine B.iconst 71 rfl (2 : Int32) at_70 rfl ?_
      refine B.iload 73 rfl at_71 rfl ?_
      refine B.imul 74 rfl at_73 ?_
      refine B.topI (2 : Int32) (by decide) ?_
      refine B.i2b 75 rfl at_74 ?_
      refine B.topI (2 : Int32) (by decide) ?_
      refine B.bastore 76 rfl at_75 As26 (by decide) 1 rfl (by simp) (Or.inr g_d) ?_
      intro hs27 Ws27 As27
      rw [show (((2 : Int32)).toInt8.toInt32) = (2 : Int32) from by decide] at As27
      replace As27 : Ary Z hs27 d .byte [(.int (48 : Int32)), (.int (2 : Int32)), (.int (0 : Int32)), (.int (0 : Int32)), (.int (0 : Int32)), (.int (0 : Int32)), (.int (0 : Int32)), (.int (0 : Int32))] := As27
      refine B.iload 78 rfl at_76 rfl ?_
      refine B.iconst 79 rfl (2 : Int32) at_78 rfl ?_
      refine B.icmp_le 87 82 rfl (by decide) rfl at_79 (fun c79 => ?_) (fun c79 => ?_)
      · exact absurd c79 (by decide)
      · refine B.aload 84 rfl at_82 rfl rfl ?_
        refine B.iconst 85 rfl (2 : Int32) at_84 rfl ?_
        refine B.iconst 86 rfl (5 : Int32) at_85 rfl ?_
        refine B.bastore 87 rfl at_86 As27 (by decide) 2 rfl (by simp) (Or.inr g_d) ?_
        intro hs28 Ws28 As28
        rw [show (((5 : Int32)).toInt8.toInt32) = (5 : Int32) from by decide] at As28
        replace As28 : Ary Z hs28 d .byte [(.int (48 : Int32)), (.int (2 : Int32)), (.int (5 : Int32)), (.int (0 : Int32)), (.int (0 : Int32)), (.int (0 : Int32)), (.int (0 : Int32)), (.int (0 : Int32))] := As28
        refine B.iload 89 rfl at_87 rfl ?_
        refine B.iconst 90 rfl (4 : Int32) at_89 rfl ?_
        refine B.icmp_le 98 93 rfl (by decide) rfl at_90 (fun c90 => ?_) (fun c90 => ?_)
        · exact absurd c90 (by decide)
        · refine B.aload 95 rfl at_93 rfl rfl ?_
          refine B.iconst 96 rfl (4 : Int32) at_95 rfl ?_
          refine B.iconst 97 rfl (5 : Int32) at_96 rfl ?_
          refine B.bastore 98 rfl at_97 As28 (by decide) 4 rfl (by simp) (Or.inr g_d) ?_
          intro hs29 Ws29 As29
          rw [show (((5 : Int32)).toInt8.toInt32) = (5 : Int32) from by decide] at As29
          replace As29 : Ary Z hs29 d .byte [(.int (48 : Int32)), (.int (2 : Int32)), (.int (5 : Int32)), (.int (0 : Int32)), (.int (5 : Int32)), (.int (0 : Int32)), (.int (0 : Int32)), (.int (0 : Int32))] := As29
          refine B.iload 100 rfl at_98 rfl ?_
          refine B.bipush 102 rfl (6 : Int32) at_100 rfl ?_
          refine B.icmp_le 111 105 rfl (by decide) rfl at_102 (fun c102 => ?_) (fun c102 => ?_)
          · exact absurd c102 (by decide)
          · refine B.aload 107 rfl at_105 rfl rfl ?_
            refine B.bipush 109 rfl (6 : Int32) at_107 rfl ?_
            refine B.iconst 110 rfl (5 : Int32) at_109 rfl ?_
            refine B.bastore 111 rfl at_110 As29 (by decide) 6 rfl (by simp) (Or.inr g_d) ?_
            intro hs30 Ws30 As30
            rw [show (((5 : Int32)).toInt8.toInt32) = (5 : Int32) from by decide] at As30
            replace As30 : Ary Z hs30 d .byte [(.int (48 : Int32)), (.int (2 : Int32)), (.int (5 : Int32)), (.int (0 : Int32)), (.int (5 : Int32)), (.int (0 : Int32)), (.int (5 : Int32)), (.int (0 : Int32))] := As30
            refine B.iload 113 rfl at_111 rfl ?_
            refine B.bipush 115 rfl (8 : Int32) at_113 rfl ?_
            refine B.icmp_le 124 118 rfl (by decide) rfl at_115 (fun c115 => ?_) (fun c115 => ?_)
            · refine B.newO 127 rfl at_124 (wd hw 6 rfl) (wd hw 7 rfl) (wd hw 8 rfl) (by decide) (by decide) ?_
              intro h_r r e_r g_r X_r E_r D_r
              show B.G h_r 2 11 (mkF m 127 #[.val (.int p1), .val (.int p2), .val (.int p3), .val (.int p4), .val (.int (1 : Int32)), .val (.int (2 : Int32)), .val (.int rs), .val (.int rr), .val (.int (8 : Int32)), .val (.ref d), .unset, .unset, .unset] [(.ref r)])
              have n_d_r : d ≠ r := fun q => absurd As30.lt (by rw [q, e_r]; exact Nat.lt_irrefl _)
              have A_d_7 := As30.ext X_r
              have F0_r : Fld Z h_r r "io/keyvouch/der/DerReader" "der" "[B" .null := D_r (Or.inr (wd hw 19 rfl)) (ty := (.array .byte)) (by decide)
              have F1_r : Fld Z h_r r "io/keyvouch/der/DerReader" "pos" "I" (.int 0) := D_r (Or.inl (wd hw 21 rfl)) (ty := .int) (by decide)
              have F2_r : Fld Z h_r r "io/keyvouch/der/DerReader" "end" "I" (.int 0) := D_r (Or.inr (wd hw 23 rfl)) (ty := .int) (by decide)
              refine B.dup 128 rfl at_127 rfl ?_
              refine B.aload 130 rfl at_128 rfl rfl ?_
              refine B.callI 133 rfl at_130 rfl (wd hw 9 rfl) (wd hw 10 rfl) (wd hw 8 rfl) (wd hw 11 rfl) (by decide) [(.ref d)] [(.ref r)] (rm_i1 l Z a0 hw r d (8 : Int32) [(.int (48 : Int32)), (.int (2 : Int32)), (.int (5 : Int32)), (.int (0 : Int32)), (.int (5 : Int32)), (.int (0 : Int32)), (.int (5 : Int32)), (.int (0 : Int32))] h_r A_d_7 rfl E_r F0_r F1_r F2_r) rfl rfl pd___B_V rfl rfl 1 rfl (by decide) (by decide) (by decide) (by decide) (fun x z => Or.inr (by cases List.mem_singleton.mp z; exact g_r)) ?_
              rintro _ h_r2 K_r2 ⟨rfl, Fd_r, Fp_r, Fn_r⟩
              show B.G h_r2 2 11 (mkF m 133 #[.val (.int p1), .val (.int p2), .val (.int p3), .val (.int p4), .val (.int (1 : Int32)), .val (.int (2 : Int32)), .val (.int rs), .val (.int rr), .val (.int (8 : Int32)), .val (.ref d), .unset, .unset, .unset] [(.ref r)])
              have A_d_8 := A_d_7.keep K_r2 (ninS n_d_r nin0)
              have E_r_8 := E_r.keep K_r2
              refine B.astore 135 rfl at_133 rfl #[.val (.int p1), .val (.int p2), .val (.int p3), .val (.int p4), .val (.int (1 : Int32)), .val (.int (2 : Int32)), .val (.int rs), .val (.int rr), .val (.int (8 : Int32)), .val (.ref d), .val (.ref r), .unset, .unset] rfl ?_
              refine B.aload 137 rfl at_135 rfl rfl ?_
              refine B.callVW 140 rfl at_137 (wd hw 24 rfl) (wd hw 25 rfl) (wd hw 27 rfl) (wd hw 26 rfl) (wd hw 8 rfl) (wd hw 28 rfl) (by decide) E_r_8 [] [] (rm_rs l Z a0 hw r d (0 : Int32) (1 : Int32) (2 : Int32) (8 : Int32) (48 : Int32) (2 : Int32) (2 : Int32) 0 1 [(.int (48 : Int32)), (.int (2 : Int32)), (.int (5 : Int32)), (.int (0 : Int32)), (.int (5 : Int32)), (.int (0 : Int32)), (.int (5 : Int32)), (.int (0 : Int32))] (4 : Int32) h_r2 E_r_8 n_d_r Fd_r Fp_r Fn_r A_d_8 (by decide) (by decide) (by decide) rfl (by decide) (by decide) (by decide) (by decide) (by decide) rfl (by decide) (by decide) (by decide) (by decide) (by decide)) rfl rfl pd___Lio_keyvouch_der_DerReader_ rfl rfl 0 rfl (by decide) (by decide) (by decide) (by decide) (fun x z => Or.inr (by cases List.mem_singleton.mp z; exact g_r)) ?_
              rintro _ h_s K_s ⟨sq, rfl, g_s, E_s, Fd_s, Fp_s, Fn_s, Fd_r3, Fp_r3, Fn_r3, A_d3⟩
              show B.G h_s 5 50 (mkF m 140 #[.val (.int p1), .val (.int p2), .val (.int p3), .val (.int p4), .val (.int (1 : Int32)), .val (.int (2 : Int32)), .val (.int rs), .val (.int rr), .val (.int (8 : Int32)), .val (.ref d), .val (.ref r), .unset, .unset] [(.ref sq)])
              have n_r_sq : r ≠ sq := fun q => absurd E_r_8.lt (by rw [q]; exact Nat.not_lt.mpr g_s)
              have n_d_sq : d ≠ sq := fun q => absurd A_d_8.lt (by rw [q]; exact Nat.not_lt.mpr g_s)
              have g_s0 : h0.size ≤ sq := Nat.le_trans (Nat.le_trans g_r (Nat.le_of_lt E_r_8.lt)) g_s
              have A_d_9 := A_d_8.keep K_s (ninS n_d_r nin0)
              have E_r_9 := E_r_8.keep K_s
              refine B.astore 142 rfl at_140 rfl #[.val (.int p1), .val (.int p2), .val (.int p3), .val (.int p4), .val (.int (1 : Int32)), .val (.int (2 : Int32)), .val (.int rs), .val (.int rr), .val (.int (8 : Int32)), .val (.ref d), .val (.ref r), .val (.ref sq), .unset] rfl ?_
              refine B.aload 144 rfl at_142 rfl rfl ?_
              refine B.callV 147 rfl at_144 (wd hw 61 rfl) (wd hw 62 rfl) (wd hw 64 rfl) (wd hw 63 rfl) (wd hw 8 rfl) (wd hw 65 rfl) (by decide) E_r_9 [] [] (rm_hm1 l Z a0 hw r d (4 : Int32) (8 : Int32) h_s Fd_r3 Fp_r3 Fn_r3 (by decide)) rfl rfl pd___Z rfl rfl 0 rfl (by decide) (by decide) (by decide) (by decide) (fun _ q => nomatch q) ?_
              rintro _ _ - ⟨rfl, rfl⟩
              show B.G h_s 5 50 (mkF m 147 #[.val (.int p1), .val (.int p2), .val (.int p3), .val (.int p4), .val (.int (1 : Int32)), .val (.int (2 : Int32)), .val (.int rs), .val (.int rr), .val (.int (8 : Int32)), .val (.ref d), .val (.ref r), .val (.ref sq), .unset] [(.int (1 : Int32))])
              refine B.iload 149 rfl at_147 rfl ?_
              refine B.if0_le 156 152 rfl (by decide) rfl at_149 (fun c149 => ?_) (fun c149 => ?_)
              · exact absurd c149 (by decide)
              · refine B.iconst 153 rfl (1 : Int32) at_152 rfl ?_
                refine B.goto 157 rfl (by decide) at_153 ?_
                refine B.icmp_ne 182 160 rfl (by decide) rfl at_157 (fun c157 => ?_) (fun c157 => ?_)
                · exact absurd c157 (by decide)
                · refine B.aload 162 rfl at_160 rfl rfl ?_
                  refine B.callV 165 rfl at_162 (wd hw 61 rfl) (wd hw 62 rfl) (wd hw 64 rfl) (wd hw 63 rfl) (wd hw 8 rfl) (wd hw 65 rfl) (by decide) E_s [] [] (rm_hm1 l Z a0 hw sq d (2 : Int32) (4 : Int32) h_s Fd_s Fp_s Fn_s (by decide)) rfl rfl pd___Z rfl rfl 0 rfl (by decide) (by decide) (by decide) (by decide) (fun _ q => nomatch q) ?_
                  rintro _ _ - ⟨rfl, rfl⟩
                  show B.G h_s 5 50 (mkF m 165 #[.val (.int p1), .val (.int p2), .val (.int p3), .val (.int p4), .val (.int (1 : Int32)), .val (.int (2 : Int32)), .val (.int rs), .val (.int rr), .val (.int (8 : Int32)), .val (.ref d), .val (.ref r), .val (.ref sq), .unset] [(.int (1 : Int32))])
                  refine B.iload 167 rfl at_165 rfl ?_
                  refine B.if0_le 174 170 rfl (by decide) rfl at_167 (fun c167 => ?_) (fun c167 => ?_)
                  · exact absurd c167 (by decide)
                  · refine B.iconst 171 rfl (1 : Int32) at_170 rfl ?_
                    refine B.goto 175 rfl (by decide) at_171 ?_
                    refine B.icmp_ne 182 178 rfl (by decide) rfl at_175 (fun c175 => ?_) (fun c175 => ?_)
                    · exact absurd c175 (by decide)
                    · refine B.iconst 179 rfl (1 : Int32) at_178 rfl ?_
                      refine B.goto 183 rfl (by decide) at_179 ?_
                      refine B.istore 185 rfl at_183 #[.val (.int p1), .val (.int p2), .val (.int p3), .val (.int p4), .val (.int (1 : Int32)), .val (.int (2 : Int32)), .val (.int rs), .val (.int rr), .val (.int (8 : Int32)), .val (.ref d), .val (.ref r), .val (.ref sq), .val (.int (1 : Int32))] rfl ?_
                      rcases hrs with rfl | rfl
                      · rcases hrr with rfl | rfl | rfl
                        · refine B.iload 187 rfl at_185 rfl ?_
                          refine B.iconst 188 rfl (1 : Int32) at_187 rfl ?_
                          refine B.icmp_lt 196 191 rfl (by decide) rfl at_188 (fun c188 => ?_) (fun c188 => ?_)
                          · refine B.iload 198 rfl at_196 rfl ?_
                            refine B.iconst 199 rfl (2 : Int32) at_198 rfl ?_
                            refine B.icmp_lt 207 202 rfl (by decide) rfl at_199 (fun c199 => ?_) (fun c199 => ?_)
                            · refine B.iload 209 rfl at_207 rfl ?_
                              refine B.iconst 210 rfl (1 : Int32) at_209 rfl ?_
                              refine B.icmp_lt 218 213 rfl (by decide) rfl at_210 (fun c210 => ?_) (fun c210 => ?_)
                              · refine B.iload 220 rfl at_218 rfl ?_
                                refine B.iconst 221 rfl (2 : Int32) at_220 rfl ?_
                                refine B.icmp_lt 229 224 rfl (by decide) rfl at_221 (fun c221 => ?_) (fun c221 => ?_)
                                · refine B.iload 231 rfl at_229 rfl ?_
                                  refine B.if0_eq 278 234 rfl (by decide) rfl at_231 (fun c231 => ?_) (fun c231 => ?_)
                                  · exact absurd c231 (by decide)
                                  · refine B.aload 236 rfl at_234 rfl rfl ?_
                                    refine B.callV 239 rfl at_236 (wd hw 61 rfl) (wd hw 62 rfl) (wd hw 64 rfl) (wd hw 63 rfl) (wd hw 8 rfl) (wd hw 65 rfl) (by decide) E_s [] [] (rm_hm1 l Z a0 hw sq d (2 : Int32) (4 : Int32) h_s Fd_s Fp_s Fn_s (by decide)) rfl rfl pd___Z rfl rfl 0 rfl (by decide) (by decide) (by decide) (by decide) (fun _ q => nomatch q) ?_
                                    rintro _ _ - ⟨rfl, rfl⟩
                                    show B.G h_s 5 50 (mkF m 239 #[.val (.int p1), .val (.int p2), .val (.int p3), .val (.int p4), .val (.int (1 : Int32)), .val (.int (2 : Int32)), .val (.int (0 : Int32)), .val (.int (0 : Int32)), .val (.int (8 : Int32)), .val (.ref d), .val (.ref r), .val (.ref sq), .val (.int (1 : Int32))] [(.int (1 : Int32))])
                                    refine B.iload 241 rfl at_239 rfl ?_
                                    refine B.iload 243 rfl at_241 rfl ?_
                                    refine B.icmp_ge 250 246 rfl (by decide) rfl at_243 (fun c243 => ?_) (fun c243 => ?_)
                                    · exact absurd c243 (by decide)
                                    · refine B.iconst 247 rfl (1 : Int32) at_246 rfl ?_
                                      refine B.goto 251 rfl (by decide) at_247 ?_
                                      refine B.icmp_ne 278 254 rfl (by decide) rfl at_251 (fun c251 => ?_) (fun c251 => ?_)
                                      · exact absurd c251 (by decide)
                                      · refine B.aload 256 rfl at_254 rfl rfl ?_
                                        refine B.callV 259 rfl at_256 (wd hw 61 rfl) (wd hw 62 rfl) (wd hw 64 rfl) (wd hw 63 rfl) (wd hw 8 rfl) (wd hw 65 rfl) (by decide) E_r_9 [] [] (rm_hm1 l Z a0 hw r d (4 : Int32) (8 : Int32) h_s Fd_r3 Fp_r3 Fn_r3 (by decide)) rfl rfl pd___Z rfl rfl 0 rfl (by decide) (by decide) (by decide) (by decide) (fun _ q => nomatch q) ?_
                                        rintro _ _ - ⟨rfl, rfl⟩
                                        show B.G h_s 5 50 (mkF m 259 #[.val (.int p1), .val (.int p2), .val (.int p3), .val (.int p4), .val (.int (1 : Int32)), .val (.int (2 : Int32)), .val (.int (0 : Int32)), .val (.int (0 : Int32)), .val (.int (8 : Int32)), .val (.ref d), .val (.ref r), .val (.ref sq), .val (.int (1 : Int32))] [(.int (1 : Int32))])
                                        refine B.iload 261 rfl at_259 rfl ?_
                                        refine B.iload 263 rfl at_261 rfl ?_
                                        refine B.icmp_ge 270 266 rfl (by decide) rfl at_263 (fun c263 => ?_) (fun c263 => ?_)
                                        · exact absurd c263 (by decide)
                                        · refine B.iconst 267 rfl (1 : Int32) at_266 rfl ?_
                                          refine B.goto 271 rfl (by decide) at_267 ?_
                                          refine B.icmp_ne 278 274 rfl (by decide) rfl at_271 (fun c271 => ?_) (fun c271 => ?_)
                                          · exact absurd c271 (by decide)
                                          · refine B.iconst 275 rfl (1 : Int32) at_274 rfl ?_
                                            refine B.goto 279 rfl (by decide) at_275 ?_
                                            refine B.istore 281 rfl at_279 #[.val (.int p1), .val (.int p2), .val (.int p3), .val (.int p4), .val (.int (1 : Int32)), .val (.int (2 : Int32)), .val (.int (0 : Int32)), .val (.int (0 : Int32)), .val (.int (8 : Int32)), .val (.ref d), .val (.ref r), .val (.ref sq), .val (.int (1 : Int32))] rfl ?_
                                            refine B.iload 283 rfl at_281 rfl ?_
                                            refine B.retN (by simp) at_283 (by decide) (by decide) ?_
                                            exact rfl
                                · exact absurd c221 (by decide)
                              · exact absurd c210 (by decide)
                            · exact absurd c199 (by decide)
                          · exact absurd c188 (by decide)
                        · refine B.iload 187 rfl at_185 rfl ?_
                          refine B.iconst 188 rfl (1 : Int32) at_187 rfl ?_
                          refine B.icmp_lt 196 191 rfl (by decide) rfl at_188 (fun c188 => ?_) (fun c188 => ?_)
                          · refine B.iload 198 rfl at_196 rfl ?_
                            refine B.iconst 199 rfl (2 : Int32) at_198 rfl ?_
                            refine B.icmp_lt 207 202 rfl (by decide) rfl at_199 (fun c199 => ?_) (fun c199 => ?_)
                            · refine B.iload 209 rfl at_207 rfl ?_
                              refine B.iconst 210 rfl (1 : Int32) at_209 rfl ?_
                              refine B.icmp_lt 218 213 rfl (by decide) rfl at_210 (fun c210 => ?_) (fun c210 => ?_)
                              · exact absurd c210 (by decide)
                              · refine B.aload 215 rfl at_213 rfl rfl ?_
                                refine B.callVW 218 rfl at_215 (wd hw 66 rfl) (wd hw 67 rfl) (wd hw 69 rfl) (wd hw 68 rfl) (wd hw 8 rfl) (wd hw 70 rfl) (by decide) E_r_9 [] [] (rm_rn l Z a0 hw r d (4 : Int32) (5 : Int32) (6 : Int32) (8 : Int32) (5 : Int32) (0 : Int32) 4 5 [(.int (48 : Int32)), (.int (2 : Int32)), (.int (5 : Int32)), (.int (0 : Int32)), (.int (5 : Int32)), (.int (0 : Int32)), (.int (5 : Int32)), (.int (0 : Int32))] h_s E_r_9 n_d_r Fd_r3 Fp_r3 Fn_r3 A_d3 (by decide) (by decide) (by decide) rfl (by decide) (by decide) (by decide) (by decide) (by decide) rfl (by decide) (by decide) (by decide) (by decide)) rfl rfl pd___V rfl rfl 0 rfl (by decide) (by decide) (by decide) (by decide) (fun x z => Or.inr (by cases List.mem_singleton.mp z; exact g_r)) ?_
                                rintro _ h_n31 K_n31 ⟨rfl, Fd_n31, Fp_n31, Fn_n31, A_n31⟩
                                show B.G h_n31 7 70 (mkF m 218 #[.val (.int p1), .val (.int p2), .val (.int p3), .val (.int p4), .val (.int (1 : Int32)), .val (.int (2 : Int32)), .val (.int (0 : Int32)), .val (.int (1 : Int32)), .val (.int (8 : Int32)), .val (.ref d), .val (.ref r), .val (.ref sq), .val (.int (1 : Int32))] [])
                                have A_d_10 := A_d3.keep K_n31 (ninS n_d_r nin0)
                                have E_r_10 := E_r_9.keep K_n31
                                have Fd_sq_10 := Fd_s.keep K_n31 (ninS (Ne.symm n_r_sq) nin0)
                                have Fp_sq_10 := Fp_s.keep K_n31 (ninS (Ne.symm n_r_sq) nin0)
                                have Fn_sq_10 := Fn_s.keep K_n31 (ninS (Ne.symm n_r_sq) nin0)
                                have E_sq_10 := E_s.keep K_n31
                                refine B.iload 220 rfl at_218 rfl ?_
                                refine B.iconst 221 rfl (2 : Int32) at_220 rfl ?_
                                refine B.icmp_lt 229 224 rfl (by decide) rfl at_221 (fun c221 => ?_) (fun c221 => ?_)
                                · refine B.iload 231 rfl at_229 rfl ?_
                                  refine B.if0_eq 278 234 rfl (by decide) rfl at_231 (fun c231 => ?_) (fun c231 => ?_)
                                  · exact absurd c231 (by decide)
                                  · refine B.aload 236 rfl at_234 rfl rfl ?_
                                    refine B.callV 239 rfl at_236 (wd hw 61 rfl) (wd hw 62 rfl) (wd hw 64 rfl) (wd hw 63 rfl) (wd hw 8 rfl) (wd hw 65 rfl) (by decide) E_sq_10 [] [] (rm_hm1 l Z a0 hw sq d (2 : Int32) (4 : Int32) h_n31 Fd_sq_10 Fp_sq_10 Fn_sq_10 (by decide)) rfl rfl pd___Z rfl rfl 0 rfl (by decide) (by decide) (by decide) (by decide) (fun _ q => nomatch q) ?_
                                    rintro _ _ - ⟨rfl, rfl⟩
                                    show B.G h_n31 7 70 (mkF m 239 #[.val (.int p1), .val (.int p2), .val (.int p3), .val (.int p4), .val (.int (1 : Int32)), .val (.int (2 : Int32)), .val (.int (0 : Int32)), .val (.int (1 : Int32)), .val (.int (8 : Int32)), .val (.ref d), .val (.ref r), .val (.ref sq), .val (.int (1 : Int32))] [(.int (1 : Int32))])
                                    refine B.iload 241 rfl at_239 rfl ?_
                                    refine B.iload 243 rfl at_241 rfl ?_
                                    refine B.icmp_ge 250 246 rfl (by decide) rfl at_243 (fun c243 => ?_) (fun c243 => ?_)
                                    · exact absurd c243 (by decide)
                                    · refine B.iconst 247 rfl (1 : Int32) at_246 rfl ?_
                                      refine B.goto 251 rfl (by decide) at_247 ?_
                                      refine B.icmp_ne 278 254 rfl (by decide) rfl at_251 (fun c251 => ?_) (fun c251 => ?_)
                                      · exact absurd c251 (by decide)
                                      · refine B.aload 256 rfl at_254 rfl rfl ?_
                                        refine B.callV 259 rfl at_256 (wd hw 61 rfl) (wd hw 62 rfl) (wd hw 64 rfl) (wd hw 63 rfl) (wd hw 8 rfl) (wd hw 65 rfl) (by decide) E_r_10 [] [] (rm_hm1 l Z a0 hw r d (6 : Int32) (8 : Int32) h_n31 Fd_n31 Fp_n31 Fn_n31 (by decide)) rfl rfl pd___Z rfl rfl 0 rfl (by decide) (by decide) (by decide) (by decide) (fun _ q => nomatch q) ?_
                                        rintro _ _ - ⟨rfl, rfl⟩
                                        show B.G h_n31 7 70 (mkF m 259 #[.val (.int p1), .val (.int p2), .val (.int p3), .val (.int p4), .val (.int (1 : Int32)), .val (.int (2 : Int32)), .val (.int (0 : Int32)), .val (.int (1 : Int32)), .val (.int (8 : Int32)), .val (.ref d), .val (.ref r), .val (.ref sq), .val (.int (1 : Int32))] [(.int (1 : Int32))])
                                        refine B.iload 261 rfl at_259 rfl ?_
                                        refine B.iload 263 rfl at_261 rfl ?_
                                        refine B.icmp_ge 270 266 rfl (by decide) rfl at_263 (fun c263 => ?_) (fun c263 => ?_)
                                        · exact absurd c263 (by decide)
                                        · refine B.iconst 267 rfl (1 : Int32) at_266 rfl ?_
                                          refine B.goto 271 rfl (by decide) at_267 ?_
                                          refine B.icmp_ne 278 274 rfl (by decide) rfl at_271 (fun c271 => ?_) (fun c271 => ?_)
                                          · exact absurd c271 (by decide)
                                          · refine B.iconst 275 rfl (1 : Int32) at_274 rfl ?_
                                            refine B.goto 279 rfl (by decide) at_275 ?_
                                            refine B.istore 281 rfl at_279 #[.val (.int p1), .val (.int p2), .val (.int p3), .val (.int p4), .val (.int (1 : Int32)), .val (.int (2 : Int32)), .val (.int (0 : Int32)), .val (.int (1 : Int32)), .val (.int (8 : Int32)), .val (.ref d), .val (.ref r), .val (.ref sq), .val (.int (1 : Int32))] rfl ?_
                                            refine B.iload 283 rfl at_281 rfl ?_
                                            refine B.retN (by simp) at_283 (by decide) (by decide) ?_
                                            exact rfl
                                · exact absurd c221 (by decide)
                            · exact absurd c199 (by decide)
                          · exact absurd c188 (by decide)
                        · refine B.iload 187 rfl at_185 rfl ?_
                          refine B.iconst 188 rfl (1 : Int32) at_187 rfl ?_
                          refine B.icmp_lt 196 191 rfl (by decide) rfl at_188 (fun c188 => ?_) (fun c188 => ?_)
                          · refine B.iload 198 rfl at_196 rfl ?_
                            refine B.iconst 199 rfl (2 : Int32) at_198 rfl ?_
                            refine B.icmp_lt 207 202 rfl (by decide) rfl at_199 (fun c199 => ?_) (fun c199 => ?_)
                            · refine B.iload 209 rfl at_207 rfl ?_
                              refine B.iconst 210 rfl (1 : Int32) at_209 rfl ?_
                              refine B.icmp_lt 218 213 rfl (by decide) rfl at_210 (fun c210 => ?_) (fun c210 => ?_)
                              · exact absurd c210 (by decide)
                              · refine B.aload 215 rfl at_213 rfl rfl ?_
                                refine B.callVW 218 rfl at_215 (wd hw 66 rfl) (wd hw 67 rfl) (wd hw 69 rfl) (wd hw 68 rfl) (wd hw 8 rfl) (wd hw 70 rfl) (by decide) E_r_9 [] [] (rm_rn l Z a0 hw r d (4 : Int32) (5 : Int32) (6 : Int32) (8 : Int32) (5 : Int32) (0 : Int32) 4 5 [(.int (48 : Int32)), (.int (2 : Int32)), (.int (5 : Int32)), (.int (0 : Int32)), (.int (5 : Int32)), (.int (0 : Int32)), (.int (5 : Int32)), (.int (0 : Int32))] h_s E_r_9 n_d_r Fd_r3 Fp_r3 Fn_r3 A_d3 (by decide) (by decide) (by decide) rfl (by decide) (by decide) (by decide) (by decide) (by decide) rfl (by decide) (by decide) (by decide) (by decide)) rfl rfl pd___V rfl rfl 0 rfl (by decide) (by decide) (by decide) (by decide) (fun x z => Or.inr (by cases List.mem_singleton.mp z; exact g_r)) ?_
                                rintro _ h_n32 K_n32 ⟨rfl, Fd_n32, Fp_n32, Fn_n32, A_n32⟩
                                show B.G h_n32 7 70 (mkF m 218 #[.val (.int p1), .val (.int p2), .val (.int p3), .val (.int p4), .val (.int (1 : Int32)), .val (.int (2 : Int32)), .val (.int (0 : Int32)), .val (.int (2 : Int32)), .val (.int (8 : Int32)), .val (.ref d), .val (.ref r), .val (.ref sq), .val (.int (1 : Int32))] [])
                                have A_d_10 := A_d3.keep K_n32 (ninS n_d_r nin0)
                                have E_r_10 := E_r_9.keep K_n32
                                have Fd_sq_10 := Fd_s.keep K_n32 (ninS (Ne.symm n_r_sq) nin0)
                                have Fp_sq_10 := Fp_s.keep K_n32 (ninS (Ne.symm n_r_sq) nin0)
                                have Fn_sq_10 := Fn_s.keep K_n32 (ninS (Ne.symm n_r_sq) nin0)
                                have E_sq_10 := E_s.keep K_n32
                                refine B.iload 220 rfl at_218 rfl ?_
                                refine B.iconst 221 rfl (2 : Int32) at_220 rfl ?_
                                refine B.icmp_lt 229 224 rfl (by decide) rfl at_221 (fun c221 => ?_) (fun c221 => ?_)
                                · exact absurd c221 (by decide)
                                · refine B.aload 226 rfl at_224 rfl rfl ?_
                                  refine B.callVW 229 rfl at_226 (wd hw 66 rfl) (wd hw 67 rfl) (wd hw 69 rfl) (wd hw 68 rfl) (wd hw 8 rfl) (wd hw 70 rfl) (by decide) E_r_10 [] [] (rm_rn l Z a0 hw r d (6 : Int32) (7 : Int32) (8 : Int32) (8 : Int32) (5 : Int32) (0 : Int32) 6 7 [(.int (48 : Int32)), (.int (2 : Int32)), (.int (5 : Int32)), (.int (0 : Int32)), (.int (5 : Int32)), (.int (0 : Int32)), (.int (5 : Int32)), (.int (0 : Int32))] h_n32 E_r_10 n_d_r Fd_n32 Fp_n32 Fn_n32 A_n32 (by decide) (by decide) (by decide) rfl (by decide) (by decide) (by decide) (by decide) (by decide) rfl (by decide) (by decide) (by decide) (by decide)) rfl rfl pd___V rfl rfl 0 rfl (by decide) (by decide) (by decide) (by decide) (fun x z => Or.inr (by cases List.mem_singleton.mp z; exact g_r)) ?_
                                  rintro _ h_n33 K_n33 ⟨rfl, Fd_n33, Fp_n33, Fn_n33, A_n33⟩
                                  show B.G h_n33 9 90 (mkF m 229 #[.val (.int p1), .val (.int p2), .val (.int p3), .val (.int p4), .val (.int (1 : Int32)), .val (.int (2 : Int32)), .val (.int (0 : Int32)), .val (.int (2 : Int32)), .val (.int (8 : Int32)), .val (.ref d), .val (.ref r), .val (.ref sq), .val (.int (1 : Int32))] [])
                                  have A_d_11 := A_n32.keep K_n33 (ninS n_d_r nin0)
                                  have E_r_11 := E_r_10.keep K_n33
                                  have Fd_sq_11 := Fd_sq_10.keep K_n33 (ninS (Ne.symm n_r_sq) nin0)
                                  have Fp_sq_11 := Fp_sq_10.keep K_n33 (ninS (Ne.symm n_r_sq) nin0)
                                  have Fn_sq_11 := Fn_sq_10.keep K_n33 (ninS (Ne.symm n_r_sq) nin0)
                                  have E_sq_11 := E_sq_10.keep K_n33
                                  refine B.iload 231 rfl at_229 rfl ?_
                                  refine B.if0_eq 278 234 rfl (by decide) rfl at_231 (fun c231 => ?_) (fun c231 => ?_)
                                  · exact absurd c231 (by decide)
                                  · refine B.aload 236 rfl at_234 rfl rfl ?_
                                    refine B.callV 239 rfl at_236 (wd hw 61 rfl) (wd hw 62 rfl) (wd hw 64 rfl) (wd hw 63 rfl) (wd hw 8 rfl) (wd hw 65 rfl) (by decide) E_sq_11 [] [] (rm_hm1 l Z a0 hw sq d (2 : Int32) (4 : Int32) h_n33 Fd_sq_11 Fp_sq_11 Fn_sq_11 (by decide)) rfl rfl pd___Z rfl rfl 0 rfl (by decide) (by decide) (by decide) (by decide) (fun _ q => nomatch q) ?_
                                    rintro _ _ - ⟨rfl, rfl⟩
                                    show B.G h_n33 9 90 (mkF m 239 #[.val (.int p1), .val (.int p2), .val (.int p3), .val (.int p4), .val (.int (1 : Int32)), .val (.int (2 : Int32)), .val (.int (0 : Int32)), .val (.int (2 : Int32)), .val (.int (8 : Int32)), .val (.ref d), .val (.ref r), .val (.ref sq), .val (.int (1 : Int32))] [(.int (1 : Int32))])
                                    refine B.iload 241 rfl at_239 rfl ?_
                                    refine B.iload 243 rfl at_241 rfl ?_
                                    refine B.icmp_ge 250 246 rfl (by decide) rfl at_243 (fun c243 => ?_) (fun c243 => ?_)
                                    · exact absurd c243 (by decide)
                                    · refine B.iconst 247 rfl (1 : Int32) at_246 rfl ?_
                                      refine B.goto 251 rfl (by decide) at_247 ?_
                                      refine B.icmp_ne 278 254 rfl (by decide) rfl at_251 (fun c251 => ?_) (fun c251 => ?_)
                                      · exact absurd c251 (by decide)
                                      · refine B.aload 256 rfl at_254 rfl rfl ?_
                                        refine B.callV 259 rfl at_256 (wd hw 61 rfl) (wd hw 62 rfl) (wd hw 64 rfl) (wd hw 63 rfl) (wd hw 8 rfl) (wd hw 65 rfl) (by decide) E_r_11 [] [] (rm_hm0 l Z a0 hw r d (8 : Int32) (8 : Int32) h_n33 Fd_n33 Fp_n33 Fn_n33 (by decide)) rfl rfl pd___Z rfl rfl 0 rfl (by decide) (by decide) (by decide) (by decide) (fun _ q => nomatch q) ?_
                                        rintro _ _ - ⟨rfl, rfl⟩
                                        show B.G h_n33 9 90 (mkF m 259 #[.val (.int p1), .val (.int p2), .val (.int p3), .val (.int p4), .val (.int (1 : Int32)), .val (.int (2 : Int32)), .val (.int (0 : Int32)), .val (.int (2 : Int32)), .val (.int (8 : Int32)), .val (.ref d), .val (.ref r), .val (.ref sq), .val (.int (1 : Int32))] [(.int (0 : Int32))])
                                        refine B.iload 261 rfl at_259 rfl ?_
                                        refine B.iload 263 rfl at_261 rfl ?_
                                        refine B.icmp_ge 270 266 rfl (by decide) rfl at_263 (fun c263 => ?_) (fun c263 => ?_)
                                        · refine B.iconst 271 rfl (0 : Int32) at_270 rfl ?_
                                          refine B.icmp_ne 278 274 rfl (by decide) rfl at_271 (fun c271 => ?_) (fun c271 => ?_)
                                          · exact absurd c271 (by decide)
                                          · refine B.iconst 275 rfl (1 : Int32) at_274 rfl ?_
                                            refine B.goto 279 rfl (by decide) at_275 ?_
                                            refine B.istore 281 rfl at_279 #[.val (.int p1), .val (.int p2), .val (.int p3), .val (.int p4), .val (.int (1 : Int32)), .val (.int (2 : Int32)), .val (.int (0 : Int32)), .val (.int (2 : Int32)), .val (.int (8 : Int32)), .val (.ref d), .val (.ref r), .val (.ref sq), .val (.int (1 : Int32))] rfl ?_
                                            refine B.iload 283 rfl at_281 rfl ?_
                                            refine B.retN (by simp) at_283 (by decide) (by decide) ?_
                                            exact rfl
                                        · exact absurd c263 (by decide)
                            · exact absurd c199 (by decide)
                          · exact absurd c188 (by decide)
                      · rcases hrr with rfl | rfl | rfl
                        · refine B.iload 187 rfl at_185 rfl ?_
                          refine B.iconst 188 rfl (1 : Int32) at_187 rfl ?_
                          refine B.icmp_lt 196 191 rfl (by decide) rfl at_188 (fun c188 => ?_) (fun c188 => ?_)
                          · exact absurd c188 (by decide)
                          · refine B.aload 193 rfl at_191 rfl rfl ?_
                            refine B.callVW 196 rfl at_193 (wd hw 66 rfl) (wd hw 67 rfl) (wd hw 69 rfl) (wd hw 68 rfl) (wd hw 8 rfl) (wd hw 70 rfl) (by decide) E_s [] [] (rm_rn l Z a0 hw sq d (2 : Int32) (3 : Int32) (4 : Int32) (4 : Int32) (5 : Int32) (0 : Int32) 2 3 [(.int (48 : Int32)), (.int (2 : Int32)), (.int (5 : Int32)), (.int (0 : Int32)), (.int (5 : Int32)), (.int (0 : Int32)), (.int (5 : Int32)), (.int (0 : Int32))] h_s E_s n_d_sq Fd_s Fp_s Fn_s A_d3 (by decide) (by decide) (by decide) rfl (by decide) (by decide) (by decide) (by decide) (by decide) rfl (by decide) (by decide) (by decide) (by decide)) rfl rfl pd___V rfl rfl 0 rfl (by decide) (by decide) (by decide) (by decide) (fun x z => Or.inr (by cases List.mem_singleton.mp z; exact g_s0)) ?_
                            rintro _ h_n34 K_n34 ⟨rfl, Fd_n34, Fp_n34, Fn_n34, A_n34⟩
                            show B.G h_n34 7 70 (mkF m 196 #[.val (.int p1), .val (.int p2), .val (.int p3), .val (.int p4), .val (.int (1 : Int32)), .val (.int (2 : Int32)), .val (.int (1 : Int32)), .val (.int (0 : Int32)), .val (.int (8 : Int32)), .val (.ref d), .val (.ref r), .val (.ref sq), .val (.int (1 : Int32))] [])
                            have A_d_10 := A_d3.keep K_n34 (ninS n_d_sq nin0)
                            have E_r_10 := E_r_9.keep K_n34
                            have Fd_r_10 := Fd_r3.keep K_n34 (ninS n_r_sq nin0)
                            have Fp_r_10 := Fp_r3.keep K_n34 (ninS n_r_sq nin0)
                            have Fn_r_10 := Fn_r3.keep K_n34 (ninS n_r_sq nin0)
                            have E_sq_10 := E_s.keep K_n34
                            refine B.iload 198 rfl at_196 rfl ?_
                            refine B.iconst 199 rfl (2 : Int32) at_198 rfl ?_
                            refine B.icmp_lt 207 202 rfl (by decide) rfl at_199 (fun c199 => ?_) (fun c199 => ?_)
                            · refine B.iload 209 rfl at_207 rfl ?_
                              refine B.iconst 210 rfl (1 : Int32) at_209 rfl ?_
                              refine B.icmp_lt 218 213 rfl (by decide) rfl at_210 (fun c210 => ?_) (fun c210 => ?_)
                              · refine B.iload 220 rfl at_218 rfl ?_
                                refine B.iconst 221 rfl (2 : Int32) at_220 rfl ?_
                                refine B.icmp_lt 229 224 rfl (by decide) rfl at_221 (fun c221 => ?_) (fun c221 => ?_)
                                · refine B.iload 231 rfl at_229 rfl ?_
                                  refine B.if0_eq 278 234 rfl (by decide) rfl at_231 (fun c231 => ?_) (fun c231 => ?_)
                                  · exact absurd c231 (by decide)
                                  · refine B.aload 236 rfl at_234 rfl rfl ?_
                                    refine B.callV 239 rfl at_236 (wd hw 61 rfl) (wd hw 62 rfl) (wd hw 64 rfl) (wd hw 63 rfl) (wd hw 8 rfl) (wd hw 65 rfl) (by decide) E_sq_10 [] [] (rm_hm0 l Z a0 hw sq d (4 : Int32) (4 : Int32) h_n34 Fd_n34 Fp_n34 Fn_n34 (by decide)) rfl rfl pd___Z rfl rfl 0 rfl (by decide) (by decide) (by decide) (by decide) (fun _ q => nomatch q) ?_
                                    rintro _ _ - ⟨rfl, rfl⟩
                                    show B.G h_n34 7 70 (mkF m 239 #[.val (.int p1), .val (.int p2), .val (.int p3), .val (.int p4), .val (.int (1 : Int32)), .val (.int (2 : Int32)), .val (.int (1 : Int32)), .val (.int (0 : Int32)), .val (.int (8 : Int32)), .val (.ref d), .val (.ref r), .val (.ref sq), .val (.int (1 : Int32))] [(.int (0 : Int32))])
                                    refine B.iload 241 rfl at_239 rfl ?_
                                    refine B.iload 243 rfl at_241 rfl ?_
                                    refine B.icmp_ge 250 246 rfl (by decide) rfl at_243 (fun c243 => ?_) (fun c243 => ?_)
                                    · refine B.iconst 251 rfl (0 : Int32) at_250 rfl ?_
                                      refine B.icmp_ne 278 254 rfl (by decide) rfl at_251 (fun c251 => ?_) (fun c251 => ?_)
                                      · exact absurd c251 (by decide)
                                      · refine B.aload 256 rfl at_254 rfl rfl ?_
                                        refine B.callV 259 rfl at_256 (wd hw 61 rfl) (wd hw 62 rfl) (wd hw 64 rfl) (wd hw 63 rfl) (wd hw 8 rfl) (wd hw 65 rfl) (by decide) E_r_10 [] [] (rm_hm1 l Z a0 hw r d (4 : Int32) (8 : Int32) h_n34 Fd_r_10 Fp_r_10 Fn_r_10 (by decide)) rfl rfl pd___Z rfl rfl 0 rfl (by decide) (by decide) (by decide) (by decide) (fun _ q => nomatch q) ?_
                                        rintro _ _ - ⟨rfl, rfl⟩
                                        show B.G h_n34 7 70 (mkF m 259 #[.val (.int p1), .val (.int p2), .val (.int p3), .val (.int p4), .val (.int (1 : Int32)), .val (.int (2 : Int32)), .val (.int (1 : Int32)), .val (.int (0 : Int32)), .val (.int (8 : Int32)), .val (.ref d), .val (.ref r), .val (.ref sq), .val (.int (1 : Int32))] [(.int (1 : Int32))])
                                        refine B.iload 261 rfl at_259 rfl ?_
                                        refine B.iload 263 rfl at_261 rfl ?_
                                        refine B.icmp_ge 270 266 rfl (by decide) rfl at_263 (fun c263 => ?_) (fun c263 => ?_)
                                        · exact absurd c263 (by decide)
                                        · refine B.iconst 267 rfl (1 : Int32) at_266 rfl ?_
                                          refine B.goto 271 rfl (by decide) at_267 ?_
                                          refine B.icmp_ne 278 274 rfl (by decide) rfl at_271 (fun c271 => ?_) (fun c271 => ?_)
                                          · exact absurd c271 (by decide)
                                          · refine B.iconst 275 rfl (1 : Int32) at_274 rfl ?_
                                            refine B.goto 279 rfl (by decide) at_275 ?_
                                            refine B.istore 281 rfl at_279 #[.val (.int p1), .val (.int p2), .val (.int p3), .val (.int p4), .val (.int (1 : Int32)), .val (.int (2 : Int32)), .val (.int (1 : Int32)), .val (.int (0 : Int32)), .val (.int (8 : Int32)), .val (.ref d), .val (.ref r), .val (.ref sq), .val (.int (1 : Int32))] rfl ?_
                                            refine B.iload 283 rfl at_281 rfl ?_
                                            refine B.retN (by simp) at_283 (by decide) (by decide) ?_
                                            exact rfl
                                    · exact absurd c243 (by decide)
                                · exact absurd c221 (by decide)
                              · exact absurd c210 (by decide)
                            · exact absurd c199 (by decide)
                        · refine B.iload 187 rfl at_185 rfl ?_
                          refine B.iconst 188 rfl (1 : Int32) at_187 rfl ?_
                          refine B.icmp_lt 196 191 rfl (by decide) rfl at_188 (fun c188 => ?_) (fun c188 => ?_)
                          · exact absurd c188 (by decide)
                          · refine B.aload 193 rfl at_191 rfl rfl ?_
                            refine B.callVW 196 rfl at_193 (wd hw 66 rfl) (wd hw 67 rfl) (wd hw 69 rfl) (wd hw 68 rfl) (wd hw 8 rfl) (wd hw 70 rfl) (by decide) E_s [] [] (rm_rn l Z a0 hw sq d (2 : Int32) (3 : Int32) (4 : Int32) (4 : Int32) (5 : Int32) (0 : Int32) 2 3 [(.int (48 : Int32)), (.int (2 : Int32)), (.int (5 : Int32)), (.int (0 : Int32)), (.int (5 : Int32)), (.int (0 : Int32)), (.int (5 : Int32)), (.int (0 : Int32))] h_s E_s n_d_sq Fd_s Fp_s Fn_s A_d3 (by decide) (by decide) (by decide) rfl (by decide) (by decide) (by decide) (by decide) (by decide) rfl (by decide) (by decide) (by decide) (by decide)) rfl rfl pd___V rfl rfl 0 rfl (by decide) (by decide) (by decide) (by decide) (fun x z => Or.inr (by cases List.mem_singleton.mp z; exact g_s0)) ?_
                            rintro _ h_n35 K_n35 ⟨rfl, Fd_n35, Fp_n35, Fn_n35, A_n35⟩
                            show B.G h_n35 7 70 (mkF m 196 #[.val (.int p1), .val (.int p2), .val (.int p3), .val (.int p4), .val (.int (1 : Int32)), .val (.int (2 : Int32)), .val (.int (1 : Int32)), .val (.int (1 : Int32)), .val (.int (8 : Int32)), .val (.ref d), .val (.ref r), .val (.ref sq), .val (.int (1 : Int32))] [])
                            have A_d_10 := A_d3.keep K_n35 (ninS n_d_sq nin0)
                            have E_r_10 := E_r_9.keep K_n35
                            have Fd_r_10 := Fd_r3.keep K_n35 (ninS n_r_sq nin0)
                            have Fp_r_10 := Fp_r3.keep K_n35 (ninS n_r_sq nin0)
                            have Fn_r_10 := Fn_r3.keep K_n35 (ninS n_r_sq nin0)
                            have E_sq_10 := E_s.keep K_n35
                            refine B.iload 198 rfl at_196 rfl ?_
                            refine B.iconst 199 rfl (2 : Int32) at_198 rfl ?_
                            refine B.icmp_lt 207 202 rfl (by decide) rfl at_199 (fun c199 => ?_) (fun c199 => ?_)
                            · refine B.iload 209 rfl at_207 rfl ?_
                              refine B.iconst 210 rfl (1 : Int32) at_209 rfl ?_
                              refine B.icmp_lt 218 213 rfl (by decide) rfl at_210 (fun c210 => ?_) (fun c210 => ?_)
                              · exact absurd c210 (by decide)
                              · refine B.aload 215 rfl at_213 rfl rfl ?_
                                refine B.callVW 218 rfl at_215 (wd hw 66 rfl) (wd hw 67 rfl) (wd hw 69 rfl) (wd hw 68 rfl) (wd hw 8 rfl) (wd hw 70 rfl) (by decide) E_r_10 [] [] (rm_rn l Z a0 hw r d (4 : Int32) (5 : Int32) (6 : Int32) (8 : Int32) (5 : Int32) (0 : Int32) 4 5 [(.int (48 : Int32)), (.int (2 : Int32)), (.int (5 : Int32)), (.int (0 : Int32)), (.int (5 : Int32)), (.int (0 : Int32)), (.int (5 : Int32)), (.int (0 : Int32))] h_n35 E_r_10 n_d_r Fd_r_10 Fp_r_10 Fn_r_10 A_n35 (by decide) (by decide) (by decide) rfl (by decide) (by decide) (by decide) (by decide) (by decide) rfl (by decide) (by decide) (by decide) (by decide)) rfl rfl pd___V rfl rfl 0 rfl (by decide) (by decide) (by decide) (by decide) (fun x z => Or.inr (by cases List.mem_singleton.mp z; exact g_r)) ?_
                                rintro _ h_n36 K_n36 ⟨rfl, Fd_n36, Fp_n36, Fn_n36, A_n36⟩
                                show B.G h_n36 9 90 (mkF m 218 #[.val (.int p1), .val (.int p2), .val (.int p3), .val (.int p4), .val (.int (1 : Int32)), .val (.int (2 : Int32)), .val (.int (1 : Int32)), .val (.int (1 : Int32)), .val (.int (8 : Int32)), .val (.ref d), .val (.ref r), .val (.ref sq), .val (.int (1 : Int32))] [])
                                have A_d_11 := A_n35.keep K_n36 (ninS n_d_r nin0)
                                have E_r_11 := E_r_10.keep K_n36
                                have E_sq_11 := E_sq_10.keep K_n36
                                have Fd_sq_11 := Fd_n35.keep K_n36 (ninS (Ne.symm n_r_sq) nin0)
                                have Fp_sq_11 := Fp_n35.keep K_n36 (ninS (Ne.symm n_r_sq) nin0)
                                have Fn_sq_11 := Fn_n35.keep K_n36 (ninS (Ne.symm n_r_sq) nin0)
                                refine B.iload 220 rfl at_218 rfl ?_
                                refine B.iconst 221 rfl (2 : Int32) at_220 rfl ?_
                                refine B.icmp_lt 229 224 rfl (by decide) rfl at_221 (fun c221 => ?_) (fun c221 => ?_)
                                · refine B.iload 231 rfl at_229 rfl ?_
                                  refine B.if0_eq 278 234 rfl (by decide) rfl at_231 (fun c231 => ?_) (fun c231 => ?_)
                                  · exact absurd c231 (by decide)
                                  · refine B.aload 236 rfl at_234 rfl rfl ?_
                                    refine B.callV 239 rfl at_236 (wd hw 61 rfl) (wd hw 62 rfl) (wd hw 64 rfl) (wd hw 63 rfl) (wd hw 8 rfl) (wd hw 65 rfl) (by decide) E_sq_11 [] [] (rm_hm0 l Z a0 hw sq d (4 : Int32) (4 : Int32) h_n36 Fd_sq_11 Fp_sq_11 Fn_sq_11 (by decide)) rfl rfl pd___Z rfl rfl 0 rfl (by decide) (by decide) (by decide) (by decide) (fun _ q => nomatch q) ?_
                                    rintro _ _ - ⟨rfl, rfl⟩
                                    show B.G h_n36 9 90 (mkF m 239 #[.val (.int p1), .val (.int p2), .val (.int p3), .val (.int p4), .val (.int (1 : Int32)), .val (.int (2 : Int32)), .val (.int (1 : Int32)), .val (.int (1 : Int32)), .val (.int (8 : Int32)), .val (.ref d), .val (.ref r), .val (.ref sq), .val (.int (1 : Int32))] [(.int (0 : Int32))])
                                    refine B.iload 241 rfl at_239 rfl ?_
                                    refine B.iload 243 rfl at_241 rfl ?_
                                    refine B.icmp_ge 250 246 rfl (by decide) rfl at_243 (fun c243 => ?_) (fun c243 => ?_)
                                    · refine B.iconst 251 rfl (0 : Int32) at_250 rfl ?_
                                      refine B.icmp_ne 278 254 rfl (by decide) rfl at_251 (fun c251 => ?_) (fun c251 => ?_)
                                      · exact absurd c251 (by decide)
                                      · refine B.aload 256 rfl at_254 rfl rfl ?_
                                        refine B.callV 259 rfl at_256 (wd hw 61 rfl) (wd hw 62 rfl) (wd hw 64 rfl) (wd hw 63 rfl) (wd hw 8 rfl) (wd hw 65 rfl) (by decide) E_r_11 [] [] (rm_hm1 l Z a0 hw r d (6 : Int32) (8 : Int32) h_n36 Fd_n36 Fp_n36 Fn_n36 (by decide)) rfl rfl pd___Z rfl rfl 0 rfl (by decide) (by decide) (by decide) (by decide) (fun _ q => nomatch q) ?_
                                        rintro _ _ - ⟨rfl, rfl⟩
                                        show B.G h_n36 9 90 (mkF m 259 #[.val (.int p1), .val (.int p2), .val (.int p3), .val (.int p4), .val (.int (1 : Int32)), .val (.int (2 : Int32)), .val (.int (1 : Int32)), .val (.int (1 : Int32)), .val (.int (8 : Int32)), .val (.ref d), .val (.ref r), .val (.ref sq), .val (.int (1 : Int32))] [(.int (1 : Int32))])
                                        refine B.iload 261 rfl at_259 rfl ?_
                                        refine B.iload 263 rfl at_261 rfl ?_
                                        refine B.icmp_ge 270 266 rfl (by decide) rfl at_263 (fun c263 => ?_) (fun c263 => ?_)
                                        · exact absurd c263 (by decide)
                                        · refine B.iconst 267 rfl (1 : Int32) at_266 rfl ?_
                                          refine B.goto 271 rfl (by decide) at_267 ?_
                                          refine B.icmp_ne 278 274 rfl (by decide) rfl at_271 (fun c271 => ?_) (fun c271 => ?_)
                                          · exact absurd c271 (by decide)
                                          · refine B.iconst 275 rfl (1 : Int32) at_274 rfl ?_
                                            refine B.goto 279 rfl (by decide) at_275 ?_
                                            refine B.istore 281 rfl at_279 #[.val (.int p1), .val (.int p2), .val (.int p3), .val (.int p4), .val (.int (1 : Int32)), .val (.int (2 : Int32)), .val (.int (1 : Int32)), .val (.int (1 : Int32)), .val (.int (8 : Int32)), .val (.ref d), .val (.ref r), .val (.ref sq), .val (.int (1 : Int32))] rfl ?_
                                            refine B.iload 283 rfl at_281 rfl ?_
                                            refine B.retN (by simp) at_283 (by decide) (by decide) ?_
                                            exact rfl
                                    · exact absurd c243 (by decide)
                                · exact absurd c221 (by decide)
                            · exact absurd c199 (by decide)
                        · refine B.iload 187 rfl at_185 rfl ?_
                          refine B.iconst 188 rfl (1 : Int32) at_187 rfl ?_
                          refine B.icmp_lt 196 191 rfl (by decide) rfl at_188 (fun c188 => ?_) (fun c188 => ?_)
                          · exact absurd c188 (by decide)
                          · refine B.aload 193 rfl at_191 rfl rfl ?_
                            refine B.callVW 196 rfl at_193 (wd hw 66 rfl) (wd hw 67 rfl) (wd hw 69 rfl) (wd hw 68 rfl) (wd hw 8 rfl) (wd hw 70 rfl) (by decide) E_s [] [] (rm_rn l Z a0 hw sq d (2 : Int32) (3 : Int32) (4 : Int32) (4 : Int32) (5 : Int32) (0 : Int32) 2 3 [(.int (48 : Int32)), (.int (2 : Int32)), (.int (5 : Int32)), (.int (0 : Int32)), (.int (5 : Int32)), (.int (0 : Int32)), (.int (5 : Int32)), (.int (0 : Int32))] h_s E_s n_d_sq Fd_s Fp_s Fn_s A_d3 (by decide) (by decide) (by decide) rfl (by decide) (by decide) (by decide) (by decide) (by decide) rfl (by decide) (by decide) (by decide) (by decide)) rfl rfl pd___V rfl rfl 0 rfl (by decide) (by decide) (by decide) (by decide) (fun x z => Or.inr (by cases List.mem_singleton.mp z; exact g_s0)) ?_
                            rintro _ h_n37 K_n37 ⟨rfl, Fd_n37, Fp_n37, Fn_n37, A_n37⟩
                            show B.G h_n37 7 70 (mkF m 196 #[.val (.int p1), .val (.int p2), .val (.int p3), .val (.int p4), .val (.int (1 : Int32)), .val (.int (2 : Int32)), .val (.int (1 : Int32)), .val (.int (2 : Int32)), .val (.int (8 : Int32)), .val (.ref d), .val (.ref r), .val (.ref sq), .val (.int (1 : Int32))] [])
                            have A_d_10 := A_d3.keep K_n37 (ninS n_d_sq nin0)
                            have E_r_10 := E_r_9.keep K_n37
                            have Fd_r_10 := Fd_r3.keep K_n37 (ninS n_r_sq nin0)
                            have Fp_r_10 := Fp_r3.keep K_n37 (ninS n_r_sq nin0)
                            have Fn_r_10 := Fn_r3.keep K_n37 (ninS n_r_sq nin0)
                            have E_sq_10 := E_s.keep K_n37
                            refine B.iload 198 rfl at_196 rfl ?_
                            refine B.iconst 199 rfl (2 : Int32) at_198 rfl ?_
                            refine B.icmp_lt 207 202 rfl (by decide) rfl at_199 (fun c199 => ?_) (fun c199 => ?_)
                            · refine B.iload 209 rfl at_207 rfl ?_
                              refine B.iconst 210 rfl (1 : Int32) at_209 rfl ?_
                              refine B.icmp_lt 218 213 rfl (by decide) rfl at_210 (fun c210 => ?_) (fun c210 => ?_)
                              · exact absurd c210 (by decide)
                              · refine B.aload 215 rfl at_213 rfl rfl ?_
                                refine B.callVW 218 rfl at_215 (wd hw 66 rfl) (wd hw 67 rfl) (wd hw 69 rfl) (wd hw 68 rfl) (wd hw 8 rfl) (wd hw 70 rfl) (by decide) E_r_10 [] [] (rm_rn l Z a0 hw r d (4 : Int32) (5 : Int32) (6 : Int32) (8 : Int32) (5 : Int32) (0 : Int32) 4 5 [(.int (48 : Int32)), (.int (2 : Int32)), (.int (5 : Int32)), (.int (0 : Int32)), (.int (5 : Int32)), (.int (0 : Int32)), (.int (5 : Int32)), (.int (0 : Int32))] h_n37 E_r_10 n_d_r Fd_r_10 Fp_r_10 Fn_r_10 A_n37 (by decide) (by decide) (by decide) rfl (by decide) (by decide) (by decide) (by decide) (by decide) rfl (by decide) (by decide) (by decide) (by decide)) rfl rfl pd___V rfl rfl 0 rfl (by decide) (by decide) (by decide) (by decide) (fun x z => Or.inr (by cases List.mem_singleton.mp z; exact g_r)) ?_
                                rintro _ h_n38 K_n38 ⟨rfl, Fd_n38, Fp_n38, Fn_n38, A_n38⟩
                                show B.G h_n38 9 90 (mkF m 218 #[.val (.int p1), .val (.int p2), .val (.int p3), .val (.int p4), .val (.int (1 : Int32)), .val (.int (2 : Int32)), .val (.int (1 : Int32)), .val (.int (2 : Int32)), .val (.int (8 : Int32)), .val (.ref d), .val (.ref r), .val (.ref sq), .val (.int (1 : Int32))] [])
                                have A_d_11 := A_n37.keep K_n38 (ninS n_d_r nin0)
                                have E_r_11 := E_r_10.keep K_n38
                                have E_sq_11 := E_sq_10.keep K_n38
                                have Fd_sq_11 := Fd_n37.keep K_n38 (ninS (Ne.symm n_r_sq) nin0)
                                have Fp_sq_11 := Fp_n37.keep K_n38 (ninS (Ne.symm n_r_sq) nin0)
                                have Fn_sq_11 := Fn_n37.keep K_n38 (ninS (Ne.symm n_r_sq) nin0)
                                refine B.iload 220 rfl at_218 rfl ?_
                                refine B.iconst 221 rfl (2 : Int32) at_220 rfl ?_
                                refine B.icmp_lt 229 224 rfl (by decide) rfl at_221 (fun c221 => ?_) (fun c221 => ?_)
                                · exact absurd c221 (by decide)
                                · refine B.aload 226 rfl at_224 rfl rfl ?_
                                  refine B.callVW 229 rfl at_226 (wd hw 66 rfl) (wd hw 67 rfl) (wd hw 69 rfl) (wd hw 68 rfl) (wd hw 8 rfl) (wd hw 70 rfl) (by decide) E_r_11 [] [] (rm_rn l Z a0 hw r d (6 : Int32) (7 : Int32) (8 : Int32) (8 : Int32) (5 : Int32) (0 : Int32) 6 7 [(.int (48 : Int32)), (.int (2 : Int32)), (.int (5 : Int32)), (.int (0 : Int32)), (.int (5 : Int32)), (.int (0 : Int32)), (.int (5 : Int32)), (.int (0 : Int32))] h_n38 E_r_11 n_d_r Fd_n38 Fp_n38 Fn_n38 A_n38 (by decide) (by decide) (by decide) rfl (by decide) (by decide) (by decide) (by decide) (by decide) rfl (by decide) (by decide) (by decide) (by decide)) rfl rfl pd___V rfl rfl 0 rfl (by decide) (by decide) (by decide) (by decide) (fun x z => Or.inr (by cases List.mem_singleton.mp z; exact g_r)) ?_
                                  rintro _ h_n39 K_n39 ⟨rfl, Fd_n39, Fp_n39, Fn_n39, A_n39⟩
                                  show B.G h_n39 11 110 (mkF m 229 #[.val (.int p1), .val (.int p2), .val (.int p3), .val (.int p4), .val (.int (1 : Int32)), .val (.int (2 : Int32)), .val (.int (1 : Int32)), .val (.int (2 : Int32)), .val (.int (8 : Int32)), .val (.ref d), .val (.ref r), .val (.ref sq), .val (.int (1 : Int32))] [])
                                  have A_d_12 := A_n38.keep K_n39 (ninS n_d_r nin0)
                                  have E_r_12 := E_r_11.keep K_n39
                                  have E_sq_12 := E_sq_11.keep K_n39
                                  have Fd_sq_12 := Fd_sq_11.keep K_n39 (ninS (Ne.symm n_r_sq) nin0)
                                  have Fp_sq_12 := Fp_sq_11.keep K_n39 (ninS (Ne.symm n_r_sq) nin0)
                                  have Fn_sq_12 := Fn_sq_11.keep K_n39 (ninS (Ne.symm n_r_sq) nin0)
                                  refine B.iload 231 rfl at_229 rfl ?_
                                  refine B.if0_eq 278 234 rfl (by decide) rfl at_231 (fun c231 => ?_) (fun c231 => ?_)
                                  · exact absurd c231 (by decide)
                                  · refine B.aload 236 rfl at_234 rfl rfl ?_
                                    refine B.callV 239 rfl at_236 (wd hw 61 rfl) (wd hw 62 rfl) (wd hw 64 rfl) (wd hw 63 rfl) (wd hw 8 rfl) (wd hw 65 rfl) (by decide) E_sq_12 [] [] (rm_hm0 l Z a0 hw sq d (4 : Int32) (4 : Int32) h_n39 Fd_sq_12 Fp_sq_12 Fn_sq_12 (by decide)) rfl rfl pd___Z rfl rfl 0 rfl (by decide) (by decide) (by decide) (by decide) (fun _ q => nomatch q) ?_
                                    rintro _ _ - ⟨rfl, rfl⟩
                                    show B.G h_n39 11 110 (mkF m 239 #[.val (.int p1), .val (.int p2), .val (.int p3), .val (.int p4), .val (.int (1 : Int32)), .val (.int (2 : Int32)), .val (.int (1 : Int32)), .val (.int (2 : Int32)), .val (.int (8 : Int32)), .val (.ref d), .val (.ref r), .val (.ref sq), .val (.int (1 : Int32))] [(.int (0 : Int32))])
                                    refine B.iload 241 rfl at_239 rfl ?_
                                    refine B.iload 243 rfl at_241 rfl ?_
                                    refine B.icmp_ge 250 246 rfl (by decide) rfl at_243 (fun c243 => ?_) (fun c243 => ?_)
                                    · refine B.iconst 251 rfl (0 : Int32) at_250 rfl ?_
                                      refine B.icmp_ne 278 254 rfl (by decide) rfl at_251 (fun c251 => ?_) (fun c251 => ?_)
                                      · exact absurd c251 (by decide)
                                      · refine B.aload 256 rfl at_254 rfl rfl ?_
                                        refine B.callV 259 rfl at_256 (wd hw 61 rfl) (wd hw 62 rfl) (wd hw 64 rfl) (wd hw 63 rfl) (wd hw 8 rfl) (wd hw 65 rfl) (by decide) E_r_12 [] [] (rm_hm0 l Z a0 hw r d (8 : Int32) (8 : Int32) h_n39 Fd_n39 Fp_n39 Fn_n39 (by decide)) rfl rfl pd___Z rfl rfl 0 rfl (by decide) (by decide) (by decide) (by decide) (fun _ q => nomatch q) ?_
                                        rintro _ _ - ⟨rfl, rfl⟩
                                        show B.G h_n39 11 110 (mkF m 259 #[.val (.int p1), .val (.int p2), .val (.int p3), .val (.int p4), .val (.int (1 : Int32)), .val (.int (2 : Int32)), .val (.int (1 : Int32)), .val (.int (2 : Int32)), .val (.int (8 : Int32)), .val (.ref d), .val (.ref r), .val (.ref sq), .val (.int (1 : Int32))] [(.int (0 : Int32))])
                                        refine B.iload 261 rfl at_259 rfl ?_
                                        refine B.iload 263 rfl at_261 rfl ?_
                                        refine B.icmp_ge 270 266 rfl (by decide) rfl at_263 (fun c263 => ?_) (fun c263 => ?_)
                                        · refine B.iconst 271 rfl (0 : Int32) at_270 rfl ?_
                                          refine B.icmp_ne 278 274 rfl (by decide) rfl at_271 (fun c271 => ?_) (fun c271 => ?_)
                                          · exact absurd c271 (by decide)
                                          · refine B.iconst 275 rfl (1 : Int32) at_274 rfl ?_
                                            refine B.goto 279 rfl (by decide) at_275 ?_
                                            refine B.istore 281 rfl at_279 #[.val (.int p1), .val (.int p2), .val (.int p3), .val (.int p4), .val (.int (1 : Int32)), .val (.int (2 : Int32)), .val (.int (1 : Int32)), .val (.int (2 : Int32)), .val (.int (8 : Int32)), .val (.ref d), .val (.ref r), .val (.ref sq), .val (.int (1 : Int32))] rfl ?_
                                            refine B.iload 283 rfl at_281 rfl ?_
                                            refine B.retN (by simp) at_283 (by decide) (by decide) ?_
                                            exact rfl
                                        · exact absurd c263 (by decide)
                                    · exact absurd c243 (by decide)
                            · exact absurd c199 (by decide)
            · exact absurd c115 (by decide)
  · refine B.topI (2 : Int32) qk ?_
    refine B.istore 8 rfl at_6 #[.val (.int p1), .val (.int p2), .val (.int p3), .val (.int p4), .val (.int (2 : Int32)), .unset, .unset, .unset, .unset, .unset, .unset, .unset, .unset] rfl ?_
    refine B.iloadN 9 rfl at_8 rfl ?_
    refine B.ldcI 11 rfl at_9 (wd hw 0 rfl) ?_
    refine B.iand 12 rfl at_11 ?_
    refine B.iconst 13 rfl (3 : Int32) at_12 rfl ?_
    refine B.irem 14 rfl at_13 (by decide) ?_
    rcases own_3 p2 with qm | qm | qm
    · refine B.topI (0 : Int32) qm ?_
      refine B.istore 16 rfl at_14 #[.val (.int p1), .val (.int p2), .val (.int p3), .val (.int p4), .val (.int (2 : Int32)), .val (.int (0 : Int32)), .unset, .unset, .unset, .unset, .unset, .unset, .unset] rfl ?_
      refine B.iloadN 17 rfl at_16 rfl ?_
      refine B.ldcI 19 rfl at_17 (wd hw 0 rfl) ?_
      refine B.iand 20 rfl at_19 ?_
      refine B.iconst 21 rfl (3 : Int32) at_20 rfl ?_
      refine B.irem 22 rfl at_21 (by decide) ?_
      refine B.iload 24 rfl at_22 rfl ?_
      refine B.callS 27 rfl at_24 (wd hw 1 rfl) (wd hw 2 rfl) (wd hw 3 rfl) (wd hw 4 rfl) (by decide) [(.int ((p3 &&& (2147483647 : Int32)) % (3 : Int32))), (.int (2 : Int32))] [] (rm_min l Z a0 hw ((p3 &&& (2147483647 : Int32)) % (3 : Int32)) (2 : Int32) h0) rfl rfl pd__II_I rfl rfl 0 rfl (by decide) (by decide) (by decide) (by decide) (fun _ q => nomatch q) ?_
      rintro _ _ - ⟨rfl, rfl⟩
      show B.G h0 0 0 (mkF m 27 #[.val (.int p1), .val (.int p2), .val (.int p3), .val (.int p4), .val (.int (2 : Int32)), .val (.int (0 : Int32)), .unset, .unset, .unset, .unset, .unset, .unset, .unset] [(.int (own_min ((p3 &&& (2147483647 : Int32)) % (3 : Int32)) (2 : Int32)))])
      obtain ⟨rs, ers, hrs⟩ : ∃ z : Int32, own_min ((p3 &&& 2147483647) % 3) 2 = z ∧ (z = 0 ∨ z = 1 ∨ z = 2) := ⟨_, rfl, own_r2 p3⟩
      refine B.topI rs ers ?_
      refine B.istore 29 rfl at_27 #[.val (.int p1), .val (.int p2), .val (.int p3), .val (.int p4), .val (.int (2 : Int32)), .val (.int (0 : Int32)), .val (.int rs), .unset, .unset, .unset, .unset, .unset, .unset] rfl ?_
      refine B.iloadN 30 rfl at_29 rfl ?_
      refine B.ldcI 32 rfl at_30 (wd hw 0 rfl) ?_
      refine B.iand 33 rfl at_32 ?_
      refine B.iconst 34 rfl (3 : Int32) at_33 rfl ?_
      refine B.irem 35 rfl at_34 (by decide) ?_
      refine B.iload 37 rfl at_35 rfl ?_
      refine B.callS 40 rfl at_37 (wd hw 1 rfl) (wd hw 2 rfl) (wd hw 3 rfl) (wd hw 4 rfl) (by decide) [(.int ((p4 &&& (2147483647 : Int32)) % (3 : Int32))), (.int (0 : Int32))] [] (rm_min l Z a0 hw ((p4 &&& (2147483647 : Int32)) % (3 : Int32)) (0 : Int32) h0) rfl rfl pd__II_I rfl rfl 0 rfl (by decide) (by decide) (by decide) (by decide) (fun _ q => nomatch q) ?_
      rintro _ _ - ⟨rfl, rfl⟩
      show B.G h0 0 0 (mkF m 40 #[.val (.int p1), .val (.int p2), .val (.int p3), .val (.int p4), .val (.int (2 : Int32)), .val (.int (0 : Int32)), .val (.int rs), .unset, .unset, .unset, .unset, .unset, .unset] [(.int (own_min ((p4 &&& (2147483647 : Int32)) % (3 : Int32)) (0 : Int32)))])
      refine B.topI (0 : Int32) (own_r0 p4) ?_
      refine B.istore 42 rfl at_40 #[.val (.int p1), .val (.int p2), .val (.int p3), .val (.int p4), .val (.int (2 : Int32)), .val (.int (0 : Int32)), .val (.int rs), .val (.int (0 : Int32)), .unset, .unset, .unset, .unset, .unset] rfl ?_
      refine B.iconst 43 rfl (2 : Int32) at_42 rfl ?_
      refine B.iconst 44 rfl (2 : Int32) at_43 rfl ?_
      refine B.iload 46 rfl at_44 rfl ?_
      refine B.imul 47 rfl at_46 ?_
      refine B.topI (4 : Int32) (by decide) ?_
      refine B.iadd 48 rfl at_47 ?_
      refine B.topI (6 : Int32) (by decide) ?_
      refine B.iconst 49 rfl (2 : Int32) at_48 rfl ?_
      refine B.iload 51 rfl at_49 rfl ?_
      refine B.imul 52 rfl at_51 ?_
      refine B.topI (0 : Int32) (by decide) ?_
      refine B.iadd 53 rfl at_52 ?_
      refine B.topI (6 : Int32) (by decide) ?_
      refine B.istore 55 rfl at_53 #[.val (.int p1), .val (.int p2), .val (.int p3), .val (.int p4), .val (.int (2 : Int32)), .val (.int (0 : Int32)), .val (.int rs), .val (.int (0 : Int32)), .val (.int (6 : Int32)), .unset, .unset, .unset, .unset] rfl ?_
      refine B.iload 57 rfl at_55 rfl ?_
      refine B.newP 59 rfl at_57 (wd hw 5 rfl) (by decide) 6 (by decide) (by decide) (by decide) (by decide) ?_
      intro h_d d e_d g_d X_d A_d
      replace A_d : Ary Z h_d d .byte [(.int (0 : Int32)), (.int (0 : Int32)), (.int (0 : Int32)), (.int (0 : Int32)), (.int (0 : Int32)), (.int (0 : Int32))] := A_d
      show B.G h_d 1 6 (mkF m 59 #[.val (.int p1), .val (.int p2), .val (.int p3), .val (.int p4), .val (.int (2 : Int32)), .val (.int (0 : Int32)), .val (.int rs), .val (.int (0 : Int32)), .val (.int (6 : Int32)), .unset, .unset, .unset, .unset] [(.ref d)])
      refine B.astore 61 rfl at_59 rfl #[.val (.int p1), .val (.int p2), .val (.int p3), .val (.int p4), .val (.int (2 : Int32)), .val (.int (0 : Int32)), .val (.int rs), .val (.int (0 : Int32)), .val (.int (6 : Int32)), .val (.ref d), .unset, .unset, .unset] rfl ?_
      refine B.aload 63 rfl at_61 rfl rfl ?_
      refine B.iconst 64 rfl (0 : Int32) at_63 rfl ?_
      refine B.bipush 66 rfl (48 : Int32) at_64 rfl ?_
      refine B.bastore 67 rfl at_66 A_d (by decide) 0 rfl (by simp) (Or.inr g_d) ?_
      intro hs40 Ws40 As40
      rw [show (((48 : Int32)).toInt8.toInt32) = (48 : Int32) from by decide] at As40
      replace As40 : Ary Z hs40 d .byte [(.int (48 : Int32)), (.int (0 : Int32)), (.int (0 : Int32)), (.int (0 : Int32)), (.int (0 : Int32)), (.int (0 : Int32))] := As40
      refine B.aload 69 rfl at_67 rfl rfl ?_
      refine B.iconst 70 rfl (1 : Int32) at_69 rfl ?_
      refine B.iconst 71 rfl (2 : Int32) at_70 rfl ?_
      refine B.iload 73 rfl at_71 rfl ?_
      refine B.imul 74 rfl at_73 ?_
      refine B.topI (4 : Int32) (by decide) ?_
      refine B.i2b 75 rfl at_74 ?_
      refine B.topI (4 : Int32) (by decide) ?_
      refine B.bastore 76 rfl at_75 As40 (by decide) 1 rfl (by simp) (Or.inr g_d) ?_
      intro hs41 Ws41 As41
      rw [show (((4 : Int32)).toInt8.toInt32) = (4 : Int32) from by decide] at As41
      replace As41 : Ary Z hs41 d .byte [(.int (48 : Int32)), (.int (4 : Int32)), (.int (0 : Int32)), (.int (0 : Int32)), (.int (0 : Int32)), (.int (0 : Int32))] := As41
      refine B.iload 78 rfl at_76 rfl ?_
      refine B.iconst 79 rfl (2 : Int32) at_78 rfl ?_
      refine B.icmp_le 87 82 rfl (by decide) rfl at_79 (fun c79 => ?_) (fun c79 => ?_)
      · exact absurd c79 (by decide)
      · refine B.aload 84 rfl at_82 rfl rfl ?_
        refine B.iconst 85 rfl (2 : Int32) at_84 rfl ?_
        refine B.iconst 86 rfl (5 : Int32) at_85 rfl ?_
        refine B.bastore 87 rfl at_86 As41 (by decide) 2 rfl (by simp) (Or.inr g_d) ?_
        intro hs42 Ws42 As42
        rw [show (((5 : Int32)).toInt8.toInt32) = (5 : Int32) from by decide] at As42
        replace As42 : Ary Z hs42 d .byte [(.int (48 : Int32)), (.int (4 : Int32)), (.int (5 : Int32)), (.int (0 : Int32)), (.int (0 : Int32)), (.int (0 : Int32))] := As42
        refine B.iload 89 rfl at_87 rfl ?_
        refine B.iconst 90 rfl (4 : Int32) at_89 rfl ?_
        refine B.icmp_le 98 93 rfl (by decide) rfl at_90 (fun c90 => ?_) (fun c90 => ?_)
        · exact absurd c90 (by decide)
        · refine B.aload 95 rfl at_93 rfl rfl ?_
          refine B.iconst 96 rfl (4 : Int32) at_95 rfl ?_
          refine B.iconst 97 rfl (5 : Int32) at_96 rfl ?_
          refine B.bastore 98 rfl at_97 As42 (by decide) 4 rfl (by simp) (Or.inr g_d) ?_
          intro hs43 Ws43 As43
          rw [show (((5 : Int32)).toInt8.toInt32) = (5 : Int32) from by decide] at As43
          replace As43 : Ary Z hs43 d .byte [(.int (48 : Int32)), (.int (4 : Int32)), (.int (5 : Int32)), (.int (0 : Int32)), (.int (5 : Int32)), (.int (0 : Int32))] := As43
          refine B.iload 100 rfl at_98 rfl ?_
          refine B.bipush 102 rfl (6 : Int32) at_100 rfl ?_
          refine B.icmp_le 111 105 rfl (by decide) rfl at_102 (fun c102 => ?_) (fun c102 => ?_)
          · refine B.iload 113 rfl at_111 rfl ?_
            refine B.bipush 115 rfl (8 : Int32) at_113 rfl ?_
            refine B.icmp_le 124 118 rfl (by decide) rfl at_115 (fun c115 => ?_) (fun c115 => ?_)
            · refine B.newO 127 rfl at_124 (wd hw 6 rfl) (wd hw 7 rfl) (wd hw 8 rfl) (by decide) (by decide) ?_
              intro h_r r e_r g_r X_r E_r D_r
              show B.G h_r 2 9 (mkF m 127 #[.val (.int p1), .val (.int p2), .val (.int p3), .val (.int p4), .val (.int (2 : Int32)), .val (.int (0 : Int32)), .val (.int rs), .val (.int (0 : Int32)), .val (.int (6 : Int32)), .val (.ref d), .unset, .unset, .unset] [(.ref r)])
              have n_d_r : d ≠ r := fun q => absurd As43.lt (by rw [q, e_r]; exact Nat.lt_irrefl _)
              have A_d_6 := As43.ext X_r
              have F0_r : Fld Z h_r r "io/keyvouch/der/DerReader" "der" "[B" .null := D_r (Or.inr (wd hw 19 rfl)) (ty := (.array .byte)) (by decide)
              have F1_r : Fld Z h_r r "io/keyvouch/der/DerReader" "pos" "I" (.int 0) := D_r (Or.inl (wd hw 21 rfl)) (ty := .int) (by decide)
              have F2_r : Fld Z h_r r "io/keyvouch/der/DerReader" "end" "I" (.int 0) := D_r (Or.inr (wd hw 23 rfl)) (ty := .int) (by decide)
              refine B.dup 128 rfl at_127 rfl ?_
              refine B.aload 130 rfl at_128 rfl rfl ?_
              refine B.callI 133 rfl at_130 rfl (wd hw 9 rfl) (wd hw 10 rfl) (wd hw 8 rfl) (wd hw 11 rfl) (by decide) [(.ref d)] [(.ref r)] (rm_i1 l Z a0 hw r d (6 : Int32) [(.int (48 : Int32)), (.int (4 : Int32)), (.int (5 : Int32)), (.int (0 : Int32)), (.int (5 : Int32)), (.int (0 : Int32))] h_r A_d_6 rfl E_r F0_r F1_r F2_r) rfl rfl pd___B_V rfl rfl 1 rfl (by decide) (by decide) (by decide) (by decide) (fun x z => Or.inr (by cases List.mem_singleton.mp z; exact g_r)) ?_
              rintro _ h_r2 K_r2 ⟨rfl, Fd_r, Fp_r, Fn_r⟩
              show B.G h_r2 2 9 (mkF m 133 #[.val (.int p1), .val (.int p2), .val (.int p3), .val (.int p4), .val (.int (2 : Int32)), .val (.int (0 : Int32)), .val (.int rs), .val (.int (0 : Int32)), .val (.int (6 : Int32)), .val (.ref d), .unset, .unset, .unset] [(.ref r)])
              have A_d_7 := A_d_6.keep K_r2 (ninS n_d_r nin0)
              have E_r_7 := E_r.keep K_r2
              refine B.astore 135 rfl at_133 rfl #[.val (.int p1), .val (.int p2), .val (.int p3), .val (.int p4), .val (.int (2 : Int32)), .val (.int (0 : Int32)), .val (.int rs), .val (.int (0 : Int32)), .val (.int (6 : Int32)), .val (.ref d), .val (.ref r), .unset, .unset] rfl ?_
              refine B.aload 137 rfl at_135 rfl rfl ?_
              refine B.callVW 140 rfl at_137 (wd hw 24 rfl) (wd hw 25 rfl) (wd hw 27 rfl) (wd hw 26 rfl) (wd hw 8 rfl) (wd hw 28 rfl) (by decide) E_r_7 [] [] (rm_rs l Z a0 hw r d (0 : Int32) (1 : Int32) (2 : Int32) (6 : Int32) (48 : Int32) (4 : Int32) (4 : Int32) 0 1 [(.int (48 : Int32)), (.int (4 : Int32)), (.int (5 : Int32)), (.int (0 : Int32)), (.int (5 : Int32)), (.int (0 : Int32))] (6 : Int32) h_r2 E_r_7 n_d_r Fd_r Fp_r Fn_r A_d_7 (by decide) (by decide) (by decide) rfl (by decide) (by decide) (by decide) (by decide) (by decide) rfl (by decide) (by decide) (by decide) (by decide) (by decide)) rfl rfl pd___Lio_keyvouch_der_DerReader_ rfl rfl 0 rfl (by decide) (by decide) (by decide) (by decide) (fun x z => Or.inr (by cases List.mem_singleton.mp z; exact g_r)) ?_
              rintro _ h_s K_s ⟨sq, rfl, g_s, E_s, Fd_s, Fp_s, Fn_s, Fd_r3, Fp_r3, Fn_r3, A_d3⟩
              show B.G h_s 5 48 (mkF m 140 #[.val (.int p1), .val (.int p2), .val (.int p3), .val (.int p4), .val (.int (2 : Int32)), .val (.int (0 : Int32)), .val (.int rs), .val (.int (0 : Int32)), .val (.int (6 : Int32)), .val (.ref d), .val (.ref r), .unset, .unset] [(.ref sq)])
              have n_r_sq : r ≠ sq := fun q => absurd E_r_7.lt (by rw [q]; exact Nat.not_lt.mpr g_s)
              have n_d_sq : d ≠ sq := fun q => absurd A_d_7.lt (by rw [q]; exact Nat.not_lt.mpr g_s)
              have g_s0 : h0.size ≤ sq := Nat.le_trans (Nat.le_trans g_r (Nat.le_of_lt E_r_7.lt)) g_s
              have A_d_8 := A_d_7.keep K_s (ninS n_d_r nin0)
              have E_r_8 := E_r_7.keep K_s
              refine B.astore 142 rfl at_140 rfl #[.val (.int p1), .val (.int p2), .val (.int p3), .val (.int p4), .val (.int (2 : Int32)), .val (.int (0 : Int32)), .val (.int rs), .val (.int (0 : Int32)), .val (.int (6 : Int32)), .val (.ref d), .val (.ref r), .val (.ref sq), .unset] rfl ?_
              refine B.aload 144 rfl at_142 rfl rfl ?_
              refine B.callV 147 rfl at_144 (wd hw 61 rfl) (wd hw 62 rfl) (wd hw 64 rfl) (wd hw 63 rfl) (wd hw 8 rfl) (wd hw 65 rfl) (by decide) E_r_8 [] [] (rm_hm0 l Z a0 hw r d (6 : Int32) (6 : Int32) h_s Fd_r3 Fp_r3 Fn_r3 (by decide)) rfl rfl pd___Z rfl rfl 0 rfl (by decide) (by decide) (by decide) (by decide) (fun _ q => nomatch q) ?_
              rintro _ _ - ⟨rfl, rfl⟩
              show B.G h_s 5 48 (mkF m 147 #[.val (.int p1), .val (.int p2), .val (.int p3), .val (.int p4), .val (.int (2 : Int32)), .val (.int (0 : Int32)), .val (.int rs), .val (.int (0 : Int32)), .val (.int (6 : Int32)), .val (.ref d), .val (.ref r), .val (.ref sq), .unset] [(.int (0 : Int32))])
              refine B.iload 149 rfl at_147 rfl ?_
              refine B.if0_le 156 152 rfl (by decide) rfl at_149 (fun c149 => ?_) (fun c149 => ?_)
              · refine B.iconst 157 rfl (0 : Int32) at_156 rfl ?_
                refine B.icmp_ne 182 160 rfl (by decide) rfl at_157 (fun c157 => ?_) (fun c157 => ?_)
                · exact absurd c157 (by decide)
                · refine B.aload 162 rfl at_160 rfl rfl ?_
                  refine B.callV 165 rfl at_162 (wd hw 61 rfl) (wd hw 62 rfl) (wd hw 64 rfl) (wd hw 63 rfl) (wd hw 8 rfl) (wd hw 65 rfl) (by decide) E_s [] [] (rm_hm1 l Z a0 hw sq d (2 : Int32) (6 : Int32) h_s Fd_s Fp_s Fn_s (by decide)) rfl rfl pd___Z rfl rfl 0 rfl (by decide) (by decide) (by decide) (by decide) (fun _ q => nomatch q) ?_
                  rintro _ _ - ⟨rfl, rfl⟩
                  show B.G h_s 5 48 (mkF m 165 #[.val (.int p1), .val (.int p2), .val (.int p3), .val (.int p4), .val (.int (2 : Int32)), .val (.int (0 : Int32)), .val (.int rs), .val (.int (0 : Int32)), .val (.int (6 : Int32)), .val (.ref d), .val (.ref r), .val (.ref sq), .unset] [(.int (1 : Int32))])
                  refine B.iload 167 rfl at_165 rfl ?_
                  refine B.if0_le 174 170 rfl (by decide) rfl at_167 (fun c167 => ?_) (fun c167 => ?_)
                  · exact absurd c167 (by decide)
                  · refine B.iconst 171 rfl (1 : Int32) at_170 rfl ?_
                    refine B.goto 175 rfl (by decide) at_171 ?_
                    refine B.icmp_ne 182 178 rfl (by decide) rfl at_175 (fun c175 => ?_) (fun c175 => ?_)
                    · exact absurd c175 (by decide)
                    · refine B.iconst 179 rfl (1 : Int32) at_178 rfl ?_
                      refine B.goto 183 rfl (by decide) at_179 ?_
                      refine B.istore 185 rfl at_183 #[.val (.int p1), .val (.int p2), .val (.int p3), .val (.int p4), .val (.int (2 : Int32)), .val (.int (0 : Int32)), .val (.int rs), .val (.int (0 : Int32)), .val (.int (6 : Int32)), .val (.ref d), .val (.ref r), .val (.ref sq), .val (.int (1 : Int32))] rfl ?_
                      rcases hrs with rfl | rfl | rfl
                      · refine B.iload 187 rfl at_185 rfl ?_
                        refine B.iconst 188 rfl (1 : Int32) at_187 rfl ?_
                        refine B.icmp_lt 196 191 rfl (by decide) rfl at_188 (fun c188 => ?_) (fun c188 => ?_)
                        · refine B.iload 198 rfl at_196 rfl ?_
                          refine B.iconst 199 rfl (2 : Int32) at_198 rfl ?_
                          refine B.icmp_lt 207 202 rfl (by decide) rfl at_199 (fun c199 => ?_) (fun c199 => ?_)
                          · refine B.iload 209 rfl at_207 rfl ?_
                            refine B.iconst 210 rfl (1 : Int32) at_209 rfl ?_
                            refine B.icmp_lt 218 213 rfl (by decide) rfl at_210 (fun c210 => ?_) (fun c210 => ?_)
                            · refine B.iload 220 rfl at_218 rfl ?_
                              refine B.iconst 221 rfl (2 : Int32) at_220 rfl ?_
                              refine B.icmp_lt 229 224 rfl (by decide) rfl at_221 (fun c221 => ?_) (fun c221 => ?_)
                              · refine B.iload 231 rfl at_229 rfl ?_
                                refine B.if0_eq 278 234 rfl (by decide) rfl at_231 (fun c231 => ?_) (fun c231 => ?_)
                                · exact absurd c231 (by decide)
                                · refine B.aload 236 rfl at_234 rfl rfl ?_
                                  refine B.callV 239 rfl at_236 (wd hw 61 rfl) (wd hw 62 rfl) (wd hw 64 rfl) (wd hw 63 rfl) (wd hw 8 rfl) (wd hw 65 rfl) (by decide) E_s [] [] (rm_hm1 l Z a0 hw sq d (2 : Int32) (6 : Int32) h_s Fd_s Fp_s Fn_s (by decide)) rfl rfl pd___Z rfl rfl 0 rfl (by decide) (by decide) (by decide) (by decide) (fun _ q => nomatch q) ?_
                                  rintro _ _ - ⟨rfl, rfl⟩
                                  show B.G h_s 5 48 (mkF m 239 #[.val (.int p1), .val (.int p2), .val (.int p3), .val (.int p4), .val (.int (2 : Int32)), .val (.int (0 : Int32)), .val (.int (0 : Int32)), .val (.int (0 : Int32)), .val (.int (6 : Int32)), .val (.ref d), .val (.ref r), .val (.ref sq), .val (.int (1 : Int32))] [(.int (1 : Int32))])
                                  refine B.iload 241 rfl at_239 rfl ?_
                                  refine B.iload 243 rfl at_241 rfl ?_
                                  refine B.icmp_ge 250 246 rfl (by decide) rfl at_243 (fun c243 => ?_) (fun c243 => ?_)
                                  · exact absurd c243 (by decide)
                                  · refine B.iconst 247 rfl (1 : Int32) at_246 rfl ?_
                                    refine B.goto 251 rfl (by decide) at_247 ?_
                                    refine B.icmp_ne 278 254 rfl (by decide) rfl at_251 (fun c251 => ?_) (fun c251 => ?_)
                                    · exact absurd c251 (by decide)
                                    · refine B.aload 256 rfl at_254 rfl rfl ?_
                                      refine B.callV 259 rfl at_256 (wd hw 61 rfl) (wd hw 62 rfl) (wd hw 64 rfl) (wd hw 63 rfl) (wd hw 8 rfl) (wd hw 65 rfl) (by decide) E_r_8 [] [] (rm_hm0 l Z a0 hw r d (6 : Int32) (6 : Int32) h_s Fd_r3 Fp_r3 Fn_r3 (by decide)) rfl rfl pd___Z rfl rfl 0 rfl (by decide) (by decide) (by decide) (by decide) (fun _ q => nomatch q) ?_
                                      rintro _ _ - ⟨rfl, rfl⟩
                                      show B.G h_s 5 48 (mkF m 259 #[.val (.int p1), .val (.int p2), .val (.int p3), .val (.int p4), .val (.int (2 : Int32)), .val (.int (0 : Int32)), .val (.int (0 : Int32)), .val (.int (0 : Int32)), .val (.int (6 : Int32)), .val (.ref d), .val (.ref r), .val (.ref sq), .val (.int (1 : Int32))] [(.int (0 : Int32))])
                                      refine B.iload 261 rfl at_259 rfl ?_
                                      refine B.iload 263 rfl at_261 rfl ?_
                                      refine B.icmp_ge 270 266 rfl (by decide) rfl at_263 (fun c263 => ?_) (fun c263 => ?_)
                                      · refine B.iconst 271 rfl (0 : Int32) at_270 rfl ?_
                                        refine B.icmp_ne 278 274 rfl (by decide) rfl at_271 (fun c271 => ?_) (fun c271 => ?_)
                                        · exact absurd c271 (by decide)
                                        · refine B.iconst 275 rfl (1 : Int32) at_274 rfl ?_
                                          refine B.goto 279 rfl (by decide) at_275 ?_
                                          refine B.istore 281 rfl at_279 #[.val (.int p1), .val (.int p2), .val (.int p3), .val (.int p4), .val (.int (2 : Int32)), .val (.int (0 : Int32)), .val (.int (0 : Int32)), .val (.int (0 : Int32)), .val (.int (6 : Int32)), .val (.ref d), .val (.ref r), .val (.ref sq), .val (.int (1 : Int32))] rfl ?_
                                          refine B.iload 283 rfl at_281 rfl ?_
                                          refine B.retN (by simp) at_283 (by decide) (by decide) ?_
                                          exact rfl
                                      · exact absurd c263 (by decide)
                              · exact absurd c221 (by decide)
                            · exact absurd c210 (by decide)
                          · exact absurd c199 (by decide)
                        · exact absurd c188 (by decide)
                      · refine B.iload 187 rfl at_185 rfl ?_
                        refine B.iconst 188 rfl (1 : Int32) at_187 rfl ?_
                        refine B.icmp_lt 196 191 rfl (by decide) rfl at_188 (fun c188 => ?_) (fun c188 => ?_)
                        · exact absurd c188 (by decide)
                        · refine B.aload 193 rfl at_191 rfl rfl ?_
                          refine B.callVW 196 rfl at_193 (wd hw 66 rfl) (wd hw 67 rfl) (wd hw 69 rfl) (wd hw 68 rfl) (wd hw 8 rfl) (wd hw 70 rfl) (by decide) E_s [] [] (rm_rn l Z a0 hw sq d (2 : Int32) (3 : Int32) (4 : Int32) (6 : Int32) (5 : Int32) (0 : Int32) 2 3 [(.int (48 : Int32)), (.int (4 : Int32)), (.int (5 : Int32)), (.int (0 : Int32)), (.int (5 : Int32)), (.int (0 : Int32))] h_s E_s n_d_sq Fd_s Fp_s Fn_s A_d3 (by decide) (by decide) (by decide) rfl (by decide) (by decide) (by decide) (by decide) (by decide) rfl (by decide) (by decide) (by decide) (by decide)) rfl rfl pd___V rfl rfl 0 rfl (by decide) (by decide) (by decide) (by decide) (fun x z => Or.inr (by cases List.mem_singleton.mp z; exact g_s0)) ?_
                          rintro _ h_n44 K_n44 ⟨rfl, Fd_n44, Fp_n44, Fn_n44, A_n44⟩
                          show B.G h_n44 7 68 (mkF m 196 #[.val (.int p1), .val (.int p2), .val (.int p3), .val (.int p4), .val (.int (2 : Int32)), .val (.int (0 : Int32)), .val (.int (1 : Int32)), .val (.int (0 : Int32)), .val (.int (6 : Int32)), .val (.ref d), .val (.ref r), .val (.ref sq), .val (.int (1 : Int32))] [])
                          have A_d_9 := A_d3.keep K_n44 (ninS n_d_sq nin0)
                          have E_r_9 := E_r_8.keep K_n44
                          have Fd_r_9 := Fd_r3.keep K_n44 (ninS n_r_sq nin0)
                          have Fp_r_9 := Fp_r3.keep K_n44 (ninS n_r_sq nin0)
                          have Fn_r_9 := Fn_r3.keep K_n44 (ninS n_r_sq nin0)
                          have E_sq_9 := E_s.keep K_n44
                          refine B.iload 198 rfl at_196 rfl ?_
                          refine B.iconst 199 rfl (2 : Int32) at_198 rfl ?_
                          refine B.icmp_lt 207 202 rfl (by decide) rfl at_199 (fun c199 => ?_) (fun c199 => ?_)
                          · refine B.iload 209 rfl at_207 rfl ?_
                            refine B.iconst 210 rfl (1 : Int32) at_209 rfl ?_
                            refine B.icmp_lt 218 213 rfl (by decide) rfl at_210 (fun c210 => ?_) (fun c210 => ?_)
                            · refine B.iload 220 rfl at_218 rfl ?_
                              refine B.iconst 221 rfl (2 : Int32) at_220 rfl ?_
                              refine B.icmp_lt 229 224 rfl (by decide) rfl at_221 (fun c221 => ?_) (fun c221 => ?_)
                              · refine B.iload 231 rfl at_229 rfl ?_
                                refine B.if0_eq 278 234 rfl (by decide) rfl at_231 (fun c231 => ?_) (fun c231 => ?_)
                                · exact absurd c231 (by decide)
                                · refine B.aload 236 rfl at_234 rfl rfl ?_
                                  refine B.callV 239 rfl at_236 (wd hw 61 rfl) (wd hw 62 rfl) (wd hw 64 rfl) (wd hw 63 rfl) (wd hw 8 rfl) (wd hw 65 rfl) (by decide) E_sq_9 [] [] (rm_hm1 l Z a0 hw sq d (4 : Int32) (6 : Int32) h_n44 Fd_n44 Fp_n44 Fn_n44 (by decide)) rfl rfl pd___Z rfl rfl 0 rfl (by decide) (by decide) (by decide) (by decide) (fun _ q => nomatch q) ?_
                                  rintro _ _ - ⟨rfl, rfl⟩
                                  show B.G h_n44 7 68 (mkF m 239 #[.val (.int p1), .val (.int p2), .val (.int p3), .val (.int p4), .val (.int (2 : Int32)), .val (.int (0 : Int32)), .val (.int (1 : Int32)), .val (.int (0 : Int32)), .val (.int (6 : Int32)), .val (.ref d), .val (.ref r), .val (.ref sq), .val (.int (1 : Int32))] [(.int (1 : Int32))])
                                  refine B.iload 241 rfl at_239 rfl ?_
                                  refine B.iload 243 rfl at_241 rfl ?_
                                  refine B.icmp_ge 250 246 rfl (by decide) rfl at_243 (fun c243 => ?_) (fun c243 => ?_)
                                  · exact absurd c243 (by decide)
                                  · refine B.iconst 247 rfl (1 : Int32) at_246 rfl ?_
                                    refine B.goto 251 rfl (by decide) at_247 ?_
                                    refine B.icmp_ne 278 254 rfl (by decide) rfl at_251 (fun c251 => ?_) (fun c251 => ?_)
                                    · exact absurd c251 (by decide)
                                    · refine B.aload 256 rfl at_254 rfl rfl ?_
                                      refine B.callV 259 rfl at_256 (wd hw 61 rfl) (wd hw 62 rfl) (wd hw 64 rfl) (wd hw 63 rfl) (wd hw 8 rfl) (wd hw 65 rfl) (by decide) E_r_9 [] [] (rm_hm0 l Z a0 hw r d (6 : Int32) (6 : Int32) h_n44 Fd_r_9 Fp_r_9 Fn_r_9 (by decide)) rfl rfl pd___Z rfl rfl 0 rfl (by decide) (by decide) (by decide) (by decide) (fun _ q => nomatch q) ?_
                                      rintro _ _ - ⟨rfl, rfl⟩
                                      show B.G h_n44 7 68 (mkF m 259 #[.val (.int p1), .val (.int p2), .val (.int p3), .val (.int p4), .val (.int (2 : Int32)), .val (.int (0 : Int32)), .val (.int (1 : Int32)), .val (.int (0 : Int32)), .val (.int (6 : Int32)), .val (.ref d), .val (.ref r), .val (.ref sq), .val (.int (1 : Int32))] [(.int (0 : Int32))])
                                      refine B.iload 261 rfl at_259 rfl ?_
                                      refine B.iload 263 rfl at_261 rfl ?_
                                      refine B.icmp_ge 270 266 rfl (by decide) rfl at_263 (fun c263 => ?_) (fun c263 => ?_)
                                      · refine B.iconst 271 rfl (0 : Int32) at_270 rfl ?_
                                        refine B.icmp_ne 278 274 rfl (by decide) rfl at_271 (fun c271 => ?_) (fun c271 => ?_)
                                        · exact absurd c271 (by decide)
                                        · refine B.iconst 275 rfl (1 : Int32) at_274 rfl ?_
                                          refine B.goto 279 rfl (by decide) at_275 ?_
                                          refine B.istore 281 rfl at_279 #[.val (.int p1), .val (.int p2), .val (.int p3), .val (.int p4), .val (.int (2 : Int32)), .val (.int (0 : Int32)), .val (.int (1 : Int32)), .val (.int (0 : Int32)), .val (.int (6 : Int32)), .val (.ref d), .val (.ref r), .val (.ref sq), .val (.int (1 : Int32))] rfl ?_
                                          refine B.iload 283 rfl at_281 rfl ?_
                                          refine B.retN (by simp) at_283 (by decide) (by decide) ?_
                                          exact rfl
                                      · exact absurd c263 (by decide)
                              · exact absurd c221 (by decide)
                            · exact absurd c210 (by decide)
                          · exact absurd c199 (by decide)
                      · refine B.iload 187 rfl at_185 rfl ?_
                        refine B.iconst 188 rfl (1 : Int32) at_187 rfl ?_
                        refine B.icmp_lt 196 191 rfl (by decide) rfl at_188 (fun c188 => ?_) (fun c188 => ?_)
                        · exact absurd c188 (by decide)
                        · refine B.aload 193 rfl at_191 rfl rfl ?_
                          refine B.callVW 196 rfl at_193 (wd hw 66 rfl) (wd hw 67 rfl) (wd hw 69 rfl) (wd hw 68 rfl) (wd hw 8 rfl) (wd hw 70 rfl) (by decide) E_s [] [] (rm_rn l Z a0 hw sq d (2 : Int32) (3 : Int32) (4 : Int32) (6 : Int32) (5 : Int32) (0 : Int32) 2 3 [(.int (48 : Int32)), (.int (4 : Int32)), (.int (5 : Int32)), (.int (0 : Int32)), (.int (5 : Int32)), (.int (0 : Int32))] h_s E_s n_d_sq Fd_s Fp_s Fn_s A_d3 (by decide) (by decide) (by decide) rfl (by decide) (by decide) (by decide) (by decide) (by decide) rfl (by decide) (by decide) (by decide) (by decide)) rfl rfl pd___V rfl rfl 0 rfl (by decide) (by decide) (by decide) (by decide) (fun x z => Or.inr (by cases List.mem_singleton.mp z; exact g_s0)) ?_
                          rintro _ h_n45 K_n45 ⟨rfl, Fd_n45, Fp_n45, Fn_n45, A_n45⟩
                          show B.G h_n45 7 68 (mkF m 196 #[.val (.int p1), .val (.int p2), .val (.int p3), .val (.int p4), .val (.int (2 : Int32)), .val (.int (0 : Int32)), .val (.int (2 : Int32)), .val (.int (0 : Int32)), .val (.int (6 : Int32)), .val (.ref d), .val (.ref r), .val (.ref sq), .val (.int (1 : Int32))] [])
                          have A_d_9 := A_d3.keep K_n45 (ninS n_d_sq nin0)
                          have E_r_9 := E_r_8.keep K_n45
                          have Fd_r_9 := Fd_r3.keep K_n45 (ninS n_r_sq nin0)
                          have Fp_r_9 := Fp_r3.keep K_n45 (ninS n_r_sq nin0)
                          have Fn_r_9 := Fn_r3.keep K_n45 (ninS n_r_sq nin0)
                          have E_sq_9 := E_s.keep K_n45
                          refine B.iload 198 rfl at_196 rfl ?_
                          refine B.iconst 199 rfl (2 : Int32) at_198 rfl ?_
                          refine B.icmp_lt 207 202 rfl (by decide) rfl at_199 (fun c199 => ?_) (fun c199 => ?_)
                          · exact absurd c199 (by decide)
                          · refine B.aload 204 rfl at_202 rfl rfl ?_
                            refine B.callVW 207 rfl at_204 (wd hw 66 rfl) (wd hw 67 rfl) (wd hw 69 rfl) (wd hw 68 rfl) (wd hw 8 rfl) (wd hw 70 rfl) (by decide) E_sq_9 [] [] (rm_rn l Z a0 hw sq d (4 : Int32) (5 : Int32) (6 : Int32) (6 : Int32) (5 : Int32) (0 : Int32) 4 5 [(.int (48 : Int32)), (.int (4 : Int32)), (.int (5 : Int32)), (.int (0 : Int32)), (.int (5 : Int32)), (.int (0 : Int32))] h_n45 E_sq_9 n_d_sq Fd_n45 Fp_n45 Fn_n45 A_n45 (by decide) (by decide) (by decide) rfl (by decide) (by decide) (by decide) (by decide) (by decide) rfl (by decide) (by decide) (by decide) (by decide)) rfl rfl pd___V rfl rfl 0 rfl (by decide) (by decide) (by decide) (by decide) (fun x z => Or.inr (by cases List.mem_singleton.mp z; exact g_s0)) ?_
                            rintro _ h_n46 K_n46 ⟨rfl, Fd_n46, Fp_n46, Fn_n46, A_n46⟩
                            show B.G h_n46 9 88 (mkF m 207 #[.val (.int p1), .val (.int p2), .val (.int p3), .val (.int p4), .val (.int (2 : Int32)), .val (.int (0 : Int32)), .val (.int (2 : Int32)), .val (.int (0 : Int32)), .val (.int (6 : Int32)), .val (.ref d), .val (.ref r), .val (.ref sq), .val (.int (1 : Int32))] [])
                            have A_d_10 := A_n45.keep K_n46 (ninS n_d_sq nin0)
                            have E_r_10 := E_r_9.keep K_n46
                            have Fd_r_10 := Fd_r_9.keep K_n46 (ninS n_r_sq nin0)
                            have Fp_r_10 := Fp_r_9.keep K_n46 (ninS n_r_sq nin0)
                            have Fn_r_10 := Fn_r_9.keep K_n46 (ninS n_r_sq nin0)
                            have E_sq_10 := E_sq_9.keep K_n46
                            refine B.iload 209 rfl at_207 rfl ?_
                            refine B.iconst 210 rfl (1 : Int32) at_209 rfl ?_
                            refine B.icmp_lt 218 213 rfl (by decide) rfl at_210 (fun c210 => ?_) (fun c210 => ?_)
                            · refine B.iload 220 rfl at_218 rfl ?_
                              refine B.iconst 221 rfl (2 : Int32) at_220 rfl ?_
                              refine B.icmp_lt 229 224 rfl (by decide) rfl at_221 (fun c221 => ?_) (fun c221 => ?_)
                              · refine B.iload 231 rfl at_229 rfl ?_
                                refine B.if0_eq 278 234 rfl (by decide) rfl at_231 (fun c231 => ?_) (fun c231 => ?_)
                                · exact absurd c231 (by decide)
                                · refine B.aload 236 rfl at_234 rfl rfl ?_
                                  refine B.callV 239 rfl at_236 (wd hw 61 rfl) (wd hw 62 rfl) (wd hw 64 rfl) (wd hw 63 rfl) (wd hw 8 rfl) (wd hw 65 rfl) (by decide) E_sq_10 [] [] (rm_hm0 l Z a0 hw sq d (6 : Int32) (6 : Int32) h_n46 Fd_n46 Fp_n46 Fn_n46 (by decide)) rfl rfl pd___Z rfl rfl 0 rfl (by decide) (by decide) (by decide) (by decide) (fun _ q => nomatch q) ?_
                                  rintro _ _ - ⟨rfl, rfl⟩
                                  show B.G h_n46 9 88 (mkF m 239 #[.val (.int p1), .val (.int p2), .val (.int p3), .val (.int p4), .val (.int (2 : Int32)), .val (.int (0 : Int32)), .val (.int (2 : Int32)), .val (.int (0 : Int32)), .val (.int (6 : Int32)), .val (.ref d), .val (.ref r), .val (.ref sq), .val (.int (1 : Int32))] [(.int (0 : Int32))])
                                  refine B.iload 241 rfl at_239 rfl ?_
                                  refine B.iload 243 rfl at_241 rfl ?_
                                  refine B.icmp_ge 250 246 rfl (by decide) rfl at_243 (fun c243 => ?_) (fun c243 => ?_)
                                  · refine B.iconst 251 rfl (0 : Int32) at_250 rfl ?_
                                    refine B.icmp_ne 278 254 rfl (by decide) rfl at_251 (fun c251 => ?_) (fun c251 => ?_)
                                    · exact absurd c251 (by decide)
                                    · refine B.aload 256 rfl at_254 rfl rfl ?_
                                      refine B.callV 259 rfl at_256 (wd hw 61 rfl) (wd hw 62 rfl) (wd hw 64 rfl) (wd hw 63 rfl) (wd hw 8 rfl) (wd hw 65 rfl) (by decide) E_r_10 [] [] (rm_hm0 l Z a0 hw r d (6 : Int32) (6 : Int32) h_n46 Fd_r_10 Fp_r_10 Fn_r_10 (by decide)) rfl rfl pd___Z rfl rfl 0 rfl (by decide) (by decide) (by decide) (by decide) (fun _ q => nomatch q) ?_
                                      rintro _ _ - ⟨rfl, rfl⟩
                                      show B.G h_n46 9 88 (mkF m 259 #[.val (.int p1), .val (.int p2), .val (.int p3), .val (.int p4), .val (.int (2 : Int32)), .val (.int (0 : Int32)), .val (.int (2 : Int32)), .val (.int (0 : Int32)), .val (.int (6 : Int32)), .val (.ref d), .val (.ref r), .val (.ref sq), .val (.int (1 : Int32))] [(.int (0 : Int32))])
                                      refine B.iload 261 rfl at_259 rfl ?_
                                      refine B.iload 263 rfl at_261 rfl ?_
                                      refine B.icmp_ge 270 266 rfl (by decide) rfl at_263 (fun c263 => ?_) (fun c263 => ?_)
                                      · refine B.iconst 271 rfl (0 : Int32) at_270 rfl ?_
                                        refine B.icmp_ne 278 274 rfl (by decide) rfl at_271 (fun c271 => ?_) (fun c271 => ?_)
                                        · exact absurd c271 (by decide)
                                        · refine B.iconst 275 rfl (1 : Int32) at_274 rfl ?_
                                          refine B.goto 279 rfl (by decide) at_275 ?_
                                          refine B.istore 281 rfl at_279 #[.val (.int p1), .val (.int p2), .val (.int p3), .val (.int p4), .val (.int (2 : Int32)), .val (.int (0 : Int32)), .val (.int (2 : Int32)), .val (.int (0 : Int32)), .val (.int (6 : Int32)), .val (.ref d), .val (.ref r), .val (.ref sq), .val (.int (1 : Int32))] rfl ?_
                                          refine B.iload 283 rfl at_281 rfl ?_
                                          refine B.retN (by simp) at_283 (by decide) (by decide) ?_
                                          exact rfl
                                      · exact absurd c263 (by decide)
                                  · exact absurd c243 (by decide)
                              · exact absurd c221 (by decide)
                            · exact absurd c210 (by decide)
              · exact absurd c149 (by decide)
            · exact absurd c115 (by decide)
          · exact absurd c102 (by decide)
    · refine B.topI (1 : Int32) qm ?_
      refine B.istore 16 rfl at_14 #[.val (.int p1), .val (.int p2), .val (.int p3), .val (.int p4), .val (.int (2 : Int32)), .val (.int (1 : Int32)), .unset, .unset, .unset, .unset, .unset, .unset, .unset] rfl ?_
      refine B.iloadN 17 rfl at_16 rfl ?_
      refine B.ldcI 19 rfl at_17 (wd hw 0 rfl) ?_
      refine B.iand 20 rfl at_19 ?_
      refine B.iconst 21 rfl (3 : Int32) at_20 rfl ?_
      refine B.irem 22 rfl at_21 (by decide) ?_
      refine B.iload 24 rfl at_22 rfl ?_
      refine B.callS 27 rfl at_24 (wd hw 1 rfl) (wd hw 2 rfl) (wd hw 3 rfl) (wd hw 4 rfl) (by decide) [(.int ((p3 &&& (2147483647 : Int32)) % (3 : Int32))), (.int (2 : Int32))] [] (rm_min l Z a0 hw ((p3 &&& (2147483647 : Int32)) % (3 : Int32)) (2 : Int32) h0) rfl rfl pd__II_I rfl rfl 0 rfl (by decide) (by decide) (by decide) (by decide) (fun _ q => nomatch q) ?_
      rintro _ _ - ⟨rfl, rfl⟩
      show B.G h0 0 0 (mkF m 27 #[.val (.int p1), .val (.int p2), .val (.int p3), .val (.int p4), .val (.int (2 : Int32)), .val (.int (1 : Int32)), .unset, .unset, .unset, .unset, .unset, .unset, .unset] [(.int (own_min ((p3 &&& (2147483647 : Int32)) % (3 : Int32)) (2 : Int32)))])
      obtain ⟨rs, ers, hrs⟩ : ∃ z : Int32, own_min ((p3 &&& 2147483647) % 3) 2 = z ∧ (z = 0 ∨ z = 1 ∨ z = 2) := ⟨_, rfl, own_r2 p3⟩
      refine B.topI rs ers ?_
      refine B.istore 29 rfl at_27 #[.val (.int p1), .val (.int p2), .val (.int p3), .val (.int p4), .val (.int (2 : Int32)), .val (.int (1 : Int32)), .val (.int rs), .unset, .unset, .unset, .unset, .unset, .unset] rfl ?_
      refine B.iloadN 30 rfl at_29 rfl ?_
      refine B.ldcI 32 rfl at_30 (wd hw 0 rfl) ?_
      refine B.iand 33 rfl at_32 ?_
      refine B.iconst 34 rfl (3 : Int32) at_33 rfl ?_
      refine B.irem 35 rfl at_34 (by decide) ?_
      refine B.iload 37 rfl at_35 rfl ?_
      refine B.callS 40 rfl at_37 (wd hw 1 rfl) (wd hw 2 rfl) (wd hw 3 rfl) (wd hw 4 rfl) (by decide) [(.int ((p4 &&& (2147483647 : Int32)) % (3 : Int32))), (.int (1 : Int32))] [] (rm_min l Z a0 hw ((p4 &&& (2147483647 : Int32)) % (3 : Int32)) (1 : Int32) h0) rfl rfl pd__II_I rfl rfl 0 rfl (by decide) (by decide) (by decide) (by decide) (fun _ q => nomatch q) ?_
      rintro _ _ - ⟨rfl, rfl⟩
      show B.G h0 0 0 (mkF m 40 #[.val (.int p1), .val (.int p2), .val (.int p3), .val (.int p4), .val (.int (2 : Int32)), .val (.int (1 : Int32)), .val (.int rs), .unset, .unset, .unset, .unset, .unset, .unset] [(.int (own_min ((p4 &&& (2147483647 : Int32)) % (3 : Int32)) (1 : Int32)))])
      obtain ⟨rr, err, hrr⟩ : ∃ z : Int32, own_min ((p4 &&& 2147483647) % 3) 1 = z ∧ (z = 0 ∨ z = 1) := ⟨_, rfl, own_r1 p4⟩
      refine B.topI rr err ?_
      refine B.istore 42 rfl at_40 #[.val (.int p1), .val (.int p2), .val (.int p3), .val (.int p4), .val (.int (2 : Int32)), .val (.int (1 : Int32)), .val (.int rs), .val (.int rr), .unset, .unset, .unset, .unset, .unset] rfl ?_
      refine B.iconst 43 rfl (2 : Int32) at_42 rfl ?_
      refine B.iconst 44 rfl (2 : Int32) at_43 rfl ?_
      refine B.iload 46 rfl at_44 rfl ?_
      refine B.imul 47 rfl at_46 ?_
      refine B.topI (4 : Int32) (by decide) ?_
      refine B.iadd 48 rfl at_47 ?_
      refine B.topI (6 : Int32) (by decide) ?_
      refine B.iconst 49 rfl (2 : Int32) at_48 rfl ?_
      refine B.iload 51 rfl at_49 rfl ?_
      refine B.imul 52 rfl at_51 ?_
      refine B.topI (2 : Int32) (by decide) ?_
      refine B.iadd 53 rfl at_52 ?_
      refine B.topI (8 : Int32) (by decide) ?_
      refine B.istore 55 rfl at_53 #[.val (.int p1), .val (.int p2), .val (.int p3), .val (.int p4), .val (.int (2 : Int32)), .val (.int (1 : Int32)), .val (.int rs), .val (.int rr), .val (.int (8 : Int32)), .unset, .unset, .unset, .unset] rfl ?_
      refine B.iload 57 rfl at_55 rfl ?_
      refine B.newP 59 rfl at_57 (wd hw 5 rfl) (by decide) 8 (by decide) (by decide) (by decide) (by decide) ?_
      intro h_d d e_d g_d X_d A_d
      replace A_d : Ary Z h_d d .byte [(.int (0 : Int32)), (.int (0 : Int32)), (.int (0 : Int32)), (.int (0 : Int32)), (.int (0 : Int32)), (.int (0 : Int32)), (.int (0 : Int32)), (.int (0 : Int32))] := A_d
      show B.G h_d 1 8 (mkF m 59 #[.val (.int p1), .val (.int p2), .val (.int p3), .val (.int p4), .val (.int (2 : Int32)), .val (.int (1 : Int32)), .val (.int rs), .val (.int rr), .val (.int (8 : Int32)), .unset, .unset, .unset, .unset] [(.ref d)])
      refine B.astore 61 rfl at_59 rfl #[.val (.int p1), .val (.int p2), .val (.int p3), .val (.int p4), .val (.int (2 : Int32)), .val (.int (1 : Int32)), .val (.int rs), .val (.int rr), .val (.int (8 : Int32)), .val (.ref d), .unset, .unset, .unset] rfl ?_
      refine B.aload 63 rfl at_61 rfl rfl ?_
      refine B.iconst 64 rfl (0 : Int32) at_63 rfl ?_
      refine B.bipush 66 rfl (48 : Int32) at_64 rfl ?_
      refine B.bastore 67 rfl at_66 A_d (by decide) 0 rfl (by simp) (Or.inr g_d) ?_
      intro hs47 Ws47 As47
      rw [show (((48 : Int32)).toInt8.toInt32) = (48 : Int32) from by decide] at As47
      replace As47 : Ary Z hs47 d .byte [(.int (48 : Int32)), (.int (0 : Int32)), (.int (0 : Int32)), (.int (0 : Int32)), (.int (0 : Int32)), (.int (0 : Int32)), (.int (0 : Int32)), (.int (0 : Int32))] := As47
      refine B.aload 69 rfl at_67 rfl rfl ?_
      refine B.iconst 70 rfl (1 : Int32) at_69 rfl ?_
      refine B.iconst 71 rfl (2 : Int32) at_70 rfl ?_
      refine B.iload 73 rfl at_71 rfl ?_
      refine B.imul 74 rfl at_73 ?_
      refine B.topI (4 : Int32) (by decide) ?_
      refine B.i2b 75 rfl at_74 ?_
      refine B.topI (4 : Int32) (by decide) ?_
      refine B.bastore 76 rfl at_75 As47 (by decide) 1 rfl (by simp) (Or.inr g_d) ?_
      intro hs48 Ws48 As48
      rw [show (((4 : Int32)).toInt8.toInt32) = (4 : Int32) from by decide] at As48
      replace As48 : Ary Z hs48 d .byte [(.int (48 : Int32)), (.int (4 : Int32)), (.int (0 : Int32)), (.int (0 : Int32)), (.int (0 : Int32)), (.int (0 : Int32)), (.int (0 : Int32)), (.int (0 : Int32))] := As48
      refine B.iload 78 rfl at_76 rfl ?_
      refine B.iconst 79 rfl (2 : Int32) at_78 rfl ?_
      refine B.icmp_le 87 82 rfl (by decide) rfl at_79 (fun c79 => ?_) (fun c79 => ?_)
      · exact absurd c79 (by decide)
      · refine B.aload 84 rfl at_82 rfl rfl ?_
        refine B.iconst 85 rfl (2 : Int32) at_84 rfl ?_
        refine B.iconst 86 rfl (5 : Int32) at_85 rfl ?_
        refine B.bastore 87 rfl at_86 As48 (by decide) 2 rfl (by simp) (Or.inr g_d) ?_
        intro hs49 Ws49 As49
        rw [show (((5 : Int32)).toInt8.toInt32) = (5 : Int32) from by decide] at As49
        replace As49 : Ary Z hs49 d .byte [(.int (48 : Int32)), (.int (4 : Int32)), (.int (5 : Int32)), (.int (0 : Int32)), (.int (0 : Int32)), (.int (0 : Int32)), (.int (0 : Int32)), (.int (0 : Int32))] := As49
        refine B.iload 89 rfl at_87 rfl ?_
        refine B.iconst 90 rfl (4 : Int32) at_89 rfl ?_
        refine B.icmp_le 98 93 rfl (by decide) rfl at_90 (fun c90 => ?_) (fun c90 => ?_)
        · exact absurd c90 (by decide)
        · refine B.aload 95 rfl at_93 rfl rfl ?_
          refine B.iconst 96 rfl (4 : Int32) at_95 rfl ?_
          refine B.iconst 97 rfl (5 : Int32) at_96 rfl ?_
          refine B.bastore 98 rfl at_97 As49 (by decide) 4 rfl (by simp) (Or.inr g_d) ?_
          intro hs50 Ws50 As50
          rw [show (((5 : Int32)).toInt8.toInt32) = (5 : Int32) from by decide] at As50
          replace As50 : Ary Z hs50 d .byte [(.int (48 : Int32)), (.int (4 : Int32)), (.int (5 : Int32)), (.int (0 : Int32)), (.int (5 : Int32)), (.int (0 : Int32)), (.int (0 : Int32)), (.int (0 : Int32))] := As50
          refine B.iload 100 rfl at_98 rfl ?_
          refine B.bipush 102 rfl (6 : Int32) at_100 rfl ?_
          refine B.icmp_le 111 105 rfl (by decide) rfl at_102 (fun c102 => ?_) (fun c102 => ?_)
          · exact absurd c102 (by decide)
          · refine B.aload 107 rfl at_105 rfl rfl ?_
            refine B.bipush 109 rfl (6 : Int32) at_107 rfl ?_
            refine B.iconst 110 rfl (5 : Int32) at_109 rfl ?_
            refine B.bastore 111 rfl at_110 As50 (by decide) 6 rfl (by simp) (Or.inr g_d) ?_
            intro hs51 Ws51 As51
            rw [show (((5 : Int32)).toInt8.toInt32) = (5 : Int32) from by decide] at As51
            replace As51 : Ary Z hs51 d .byte [(.int (48 : Int32)), (.int (4 : Int32)), (.int (5 : Int32)), (.int (0 : Int32)), (.int (5 : Int32)), (.int (0 : Int32)), (.int (5 : Int32)), (.int (0 : Int32))] := As51
            refine B.iload 113 rfl at_111 rfl ?_
            refine B.bipush 115 rfl (8 : Int32) at_113 rfl ?_
            refine B.icmp_le 124 118 rfl (by decide) rfl at_115 (fun c115 => ?_) (fun c115 => ?_)
            · refine B.newO 127 rfl at_124 (wd hw 6 rfl) (wd hw 7 rfl) (wd hw 8 rfl) (by decide) (by decide) ?_
              intro h_r r e_r g_r X_r E_r D_r
              show B.G h_r 2 11 (mkF m 127 #[.val (.int p1), .val (.int p2), .val (.int p3), .val (.int p4), .val (.int (2 : Int32)), .val (.int (1 : Int32)), .val (.int rs), .val (.int rr), .val (.int (8 : Int32)), .val (.ref d), .unset, .unset, .unset] [(.ref r)])
              have n_d_r : d ≠ r := fun q => absurd As51.lt (by rw [q, e_r]; exact Nat.lt_irrefl _)
              have A_d_7 := As51.ext X_r
              have F0_r : Fld Z h_r r "io/keyvouch/der/DerReader" "der" "[B" .null := D_r (Or.inr (wd hw 19 rfl)) (ty := (.array .byte)) (by decide)
              have F1_r : Fld Z h_r r "io/keyvouch/der/DerReader" "pos" "I" (.int 0) := D_r (Or.inl (wd hw 21 rfl)) (ty := .int) (by decide)
              have F2_r : Fld Z h_r r "io/keyvouch/der/DerReader" "end" "I" (.int 0) := D_r (Or.inr (wd hw 23 rfl)) (ty := .int) (by decide)
              refine B.dup 128 rfl at_127 rfl ?_
              refine B.aload 130 rfl at_128 rfl rfl ?_
              refine B.callI 133 rfl at_130 rfl (wd hw 9 rfl) (wd hw 10 rfl) (wd hw 8 rfl) (wd hw 11 rfl) (by decide) [(.ref d)] [(.ref r)] (rm_i1 l Z a0 hw r d (8 : Int32) [(.int (48 : Int32)), (.int (4 : Int32)), (.int (5 : Int32)), (.int (0 : Int32)), (.int (5 : Int32)), (.int (0 : Int32)), (.int (5 : Int32)), (.int (0 : Int32))] h_r A_d_7 rfl E_r F0_r F1_r F2_r) rfl rfl pd___B_V rfl rfl 1 rfl (by decide) (by decide) (by decide) (by decide) (fun x z => Or.inr (by cases List.mem_singleton.mp z; exact g_r)) ?_
              rintro _ h_r2 K_r2 ⟨rfl, Fd_r, Fp_r, Fn_r⟩
              show B.G h_r2 2 11 (mkF m 133 #[.val (.int p1), .val (.int p2), .val (.int p3), .val (.int p4), .val (.int (2 : Int32)), .val (.int (1 : Int32)), .val (.int rs), .val (.int rr), .val (.int (8 : Int32)), .val (.ref d), .unset, .unset, .unset] [(.ref r)])
              have A_d_8 := A_d_7.keep K_r2 (ninS n_d_r nin0)
              have E_r_8 := E_r.keep K_r2
              refine B.astore 135 rfl at_133 rfl #[.val (.int p1), .val (.int p2), .val (.int p3), .val (.int p4), .val (.int (2 : Int32)), .val (.int (1 : Int32)), .val (.int rs), .val (.int rr), .val (.int (8 : Int32)), .val (.ref d), .val (.ref r), .unset, .unset] rfl ?_
              refine B.aload 137 rfl at_135 rfl rfl ?_
              refine B.callVW 140 rfl at_137 (wd hw 24 rfl) (wd hw 25 rfl) (wd hw 27 rfl) (wd hw 26 rfl) (wd hw 8 rfl) (wd hw 28 rfl) (by decide) E_r_8 [] [] (rm_rs l Z a0 hw r d (0 : Int32) (1 : Int32) (2 : Int32) (8 : Int32) (48 : Int32) (4 : Int32) (4 : Int32) 0 1 [(.int (48 : Int32)), (.int (4 : Int32)), (.int (5 : Int32)), (.int (0 : Int32)), (.int (5 : Int32)), (.int (0 : Int32)), (.int (5 : Int32)), (.int (0 : Int32))] (6 : Int32) h_r2 E_r_8 n_d_r Fd_r Fp_r Fn_r A_d_8 (by decide) (by decide) (by decide) rfl (by decide) (by decide) (by decide) (by decide) (by decide) rfl (by decide) (by decide) (by decide) (by decide) (by decide)) rfl rfl pd___Lio_keyvouch_der_DerReader_ rfl rfl 0 rfl (by decide) (by decide) (by decide) (by decide) (fun x z => Or.inr (by cases List.mem_singleton.mp z; exact g_r)) ?_
              rintro _ h_s K_s ⟨sq, rfl, g_s, E_s, Fd_s, Fp_s, Fn_s, Fd_r3, Fp_r3, Fn_r3, A_d3⟩
              show B.G h_s 5 50 (mkF m 140 #[.val (.int p1), .val (.int p2), .val (.int p3), .val (.int p4), .val (.int (2 : Int32)), .val (.int (1 : Int32)), .val (.int rs), .val (.int rr), .val (.int (8 : Int32)), .val (.ref d), .val (.ref r), .unset, .unset] [(.ref sq)])
              have n_r_sq : r ≠ sq := fun q => absurd E_r_8.lt (by rw [q]; exact Nat.not_lt.mpr g_s)
              have n_d_sq : d ≠ sq := fun q => absurd A_d_8.lt (by rw [q]; exact Nat.not_lt.mpr g_s)
              have g_s0 : h0.size ≤ sq := Nat.le_trans (Nat.le_trans g_r (Nat.le_of_lt E_r_8.lt)) g_s
              have A_d_9 := A_d_8.keep K_s (ninS n_d_r nin0)
              have E_r_9 := E_r_8.keep K_s
              refine B.astore 142 rfl at_140 rfl #[.val (.int p1), .val (.int p2), .val (.int p3), .val (.int p4), .val (.int (2 : Int32)), .val (.int (1 : Int32)), .val (.int rs), .val (.int rr), .val (.int (8 : Int32)), .val (.ref d), .val (.ref r), .val (.ref sq), .unset] rfl ?_
              refine B.aload 144 rfl at_142 rfl rfl ?_
              refine B.callV 147 rfl at_144 (wd hw 61 rfl) (wd hw 62 rfl) (wd hw 64 rfl) (wd hw 63 rfl) (wd hw 8 rfl) (wd hw 65 rfl) (by decide) E_r_9 [] [] (rm_hm1 l Z a0 hw r d (6 : Int32) (8 : Int32) h_s Fd_r3 Fp_r3 Fn_r3 (by decide)) rfl rfl pd___Z rfl rfl 0 rfl (by decide) (by decide) (by decide) (by decide) (fun _ q => nomatch q) ?_
              rintro _ _ - ⟨rfl, rfl⟩
              show B.G h_s 5 50 (mkF m 147 #[.val (.int p1), .val (.int p2), .val (.int p3), .val (.int p4), .val (.int (2 : Int32)), .val (.int (1 : Int32)), .val (.int rs), .val (.int rr), .val (.int (8 : Int32)), .val (.ref d), .val (.ref r), .val (.ref sq), .unset] [(.int (1 : Int32))])
              refine B.iload 149 rfl at_147 rfl ?_
              refine B.if0_le 156 152 rfl (by decide) rfl at_149 (fun c149 => ?_) (fun c149 => ?_)
              · exact absurd c149 (by decide)
              · refine B.iconst 153 rfl (1 : Int32) at_152 rfl ?_
                refine B.goto 157 rfl (by decide) at_153 ?_
                refine B.icmp_ne 182 160 rfl (by decide) rfl at_157 (fun c157 => ?_) (fun c157 => ?_)
                · exact absurd c157 (by decide)
                · refine B.aload 162 rfl at_160 rfl rfl ?_
                  refine B.callV 165 rfl at_162 (wd hw 61 rfl) (wd hw 62 rfl) (wd hw 64 rfl) (wd hw 63 rfl) (wd hw 8 rfl) (wd hw 65 rfl) (by decide) E_s [] [] (rm_hm1 l Z a0 hw sq d (2 : Int32) (6 : Int32) h_s Fd_s Fp_s Fn_s (by decide)) rfl rfl pd___Z rfl rfl 0 rfl (by decide) (by decide) (by decide) (by decide) (fun _ q => nomatch q) ?_
                  rintro _ _ - ⟨rfl, rfl⟩
                  show B.G h_s 5 50 (mkF m 165 #[.val (.int p1), .val (.int p2), .val (.int p3), .val (.int p4), .val (.int (2 : Int32)), .val (.int (1 : Int32)), .val (.int rs), .val (.int rr), .val (.int (8 : Int32)), .val (.ref d), .val (.ref r), .val (.ref sq), .unset] [(.int (1 : Int32))])
                  refine B.iload 167 rfl at_165 rfl ?_
                  refine B.if0_le 174 170 rfl (by decide) rfl at_167 (fun c167 => ?_) (fun c167 => ?_)
                  · exact absurd c167 (by decide)
                  · refine B.iconst 171 rfl (1 : Int32) at_170 rfl ?_
                    refine B.goto 175 rfl (by decide) at_171 ?_
                    refine B.icmp_ne 182 178 rfl (by decide) rfl at_175 (fun c175 => ?_) (fun c175 => ?_)
                    · exact absurd c175 (by decide)
                    · refine B.iconst 179 rfl (1 : Int32) at_178 rfl ?_
                      refine B.goto 183 rfl (by decide) at_179 ?_
                      refine B.istore 185 rfl at_183 #[.val (.int p1), .val (.int p2), .val (.int p3), .val (.int p4), .val (.int (2 : Int32)), .val (.int (1 : Int32)), .val (.int rs), .val (.int rr), .val (.int (8 : Int32)), .val (.ref d), .val (.ref r), .val (.ref sq), .val (.int (1 : Int32))] rfl ?_
                      rcases hrs with rfl | rfl | rfl
                      · rcases hrr with rfl | rfl
                        · refine B.iload 187 rfl at_185 rfl ?_
                          refine B.iconst 188 rfl (1 : Int32) at_187 rfl ?_
                          refine B.icmp_lt 196 191 rfl (by decide) rfl at_188 (fun c188 => ?_) (fun c188 => ?_)
                          · refine B.iload 198 rfl at_196 rfl ?_
                            refine B.iconst 199 rfl (2 : Int32) at_198 rfl ?_
                            refine B.icmp_lt 207 202 rfl (by decide) rfl at_199 (fun c199 => ?_) (fun c199 => ?_)
                            · refine B.iload 209 rfl at_207 rfl ?_
                              refine B.iconst 210 rfl (1 : Int32) at_209 rfl ?_
                              refine B.icmp_lt 218 213 rfl (by decide) rfl at_210 (fun c210 => ?_) (fun c210 => ?_)
                              · refine B.iload 220 rfl at_218 rfl ?_
                                refine B.iconst 221 rfl (2 : Int32) at_220 rfl ?_
                                refine B.icmp_lt 229 224 rfl (by decide) rfl at_221 (fun c221 => ?_) (fun c221 => ?_)
                                · refine B.iload 231 rfl at_229 rfl ?_
                                  refine B.if0_eq 278 234 rfl (by decide) rfl at_231 (fun c231 => ?_) (fun c231 => ?_)
                                  · exact absurd c231 (by decide)
                                  · refine B.aload 236 rfl at_234 rfl rfl ?_
                                    refine B.callV 239 rfl at_236 (wd hw 61 rfl) (wd hw 62 rfl) (wd hw 64 rfl) (wd hw 63 rfl) (wd hw 8 rfl) (wd hw 65 rfl) (by decide) E_s [] [] (rm_hm1 l Z a0 hw sq d (2 : Int32) (6 : Int32) h_s Fd_s Fp_s Fn_s (by decide)) rfl rfl pd___Z rfl rfl 0 rfl (by decide) (by decide) (by decide) (by decide) (fun _ q => nomatch q) ?_
                                    rintro _ _ - ⟨rfl, rfl⟩
                                    show B.G h_s 5 50 (mkF m 239 #[.val (.int p1), .val (.int p2), .val (.int p3), .val (.int p4), .val (.int (2 : Int32)), .val (.int (1 : Int32)), .val (.int (0 : Int32)), .val (.int (0 : Int32)), .val (.int (8 : Int32)), .val (.ref d), .val (.ref r), .val (.ref sq), .val (.int (1 : Int32))] [(.int (1 : Int32))])
                                    refine B.iload 241 rfl at_239 rfl ?_
                                    refine B.iload 243 rfl at_241 rfl ?_
                                    refine B.icmp_ge 250 246 rfl (by decide) rfl at_243 (fun c243 => ?_) (fun c243 => ?_)
                                    · exact absurd c243 (by decide)
                                    · refine B.iconst 247 rfl (1 : Int32) at_246 rfl ?_
                                      refine B.goto 251 rfl (by decide) at_247 ?_
                                      refine B.icmp_ne 278 254 rfl (by decide) rfl at_251 (fun c251 => ?_) (fun c251 => ?_)
                                      · exact absurd c251 (by decide)
                                      · refine B.aload 256 rfl at_254 rfl rfl ?_
                                        refine B.callV 259 rfl at_256 (wd hw 61 rfl) (wd hw 62 rfl) (wd hw 64 rfl) (wd hw 63 rfl) (wd hw 8 rfl) (wd hw 65 rfl) (by decide) E_r_9 [] [] (rm_hm1 l Z a0 hw r d (6 : Int32) (8 : Int32) h_s Fd_r3 Fp_r3 Fn_r3 (by decide)) rfl rfl pd___Z rfl rfl 0 rfl (by decide) (by decide) (by decide) (by decide) (fun _ q => nomatch q) ?_
                                        rintro _ _ - ⟨rfl, rfl⟩
                                        show B.G h_s 5 50 (mkF m 259 #[.val (.int p1), .val (.int p2), .val (.int p3), .val (.int p4), .val (.int (2 : Int32)), .val (.int (1 : Int32)), .val (.int (0 : Int32)), .val (.int (0 : Int32)), .val (.int (8 : Int32)), .val (.ref d), .val (.ref r), .val (.ref sq), .val (.int (1 : Int32))] [(.int (1 : Int32))])
                                        refine B.iload 261 rfl at_259 rfl ?_
                                        refine B.iload 263 rfl at_261 rfl ?_
                                        refine B.icmp_ge 270 266 rfl (by decide) rfl at_263 (fun c263 => ?_) (fun c263 => ?_)
                                        · exact absurd c263 (by decide)
                                        · refine B.iconst 267 rfl (1 : Int32) at_266 rfl ?_
                                          refine B.goto 271 rfl (by decide) at_267 ?_
                                          refine B.icmp_ne 278 274 rfl (by decide) rfl at_271 (fun c271 => ?_) (fun c271 => ?_)
                                          · exact absurd c271 (by decide)
                                          · refine B.iconst 275 rfl (1 : Int32) at_274 rfl ?_
                                            refine B.goto 279 rfl (by decide) at_275 ?_
                                            refine B.istore 281 rfl at_279 #[.val (.int p1), .val (.int p2), .val (.int p3), .val (.int p4), .val (.int (2 : Int32)), .val (.int (1 : Int32)), .val (.int (0 : Int32)), .val (.int (0 : Int32)), .val (.int (8 : Int32)), .val (.ref d), .val (.ref r), .val (.ref sq), .val (.int (1 : Int32))] rfl ?_
                                            refine B.iload 283 rfl at_281 rfl ?_
                                            refine B.retN (by simp) at_283 (by decide) (by decide) ?_
                                            exact rfl
                                · exact absurd c221 (by decide)
                              · exact absurd c210 (by decide)
                            · exact absurd c199 (by decide)
                          · exact absurd c188 (by decide)
                        · refine B.iload 187 rfl at_185 rfl ?_
                          refine B.iconst 188 rfl (1 : Int32) at_187 rfl ?_
                          refine B.icmp_lt 196 191 rfl (by decide) rfl at_188 (fun c188 => ?_) (fun c188 => ?_)
                          · refine B.iload 198 rfl at_196 rfl ?_
                            refine B.iconst 199 rfl (2 : Int32) at_198 rfl ?_
                            refine B.icmp_lt 207 202 rfl (by decide) rfl at_199 (fun c199 => ?_) (fun c199 => ?_)
                            · refine B.iload 209 rfl at_207 rfl ?_
                              refine B.iconst 210 rfl (1 : Int32) at_209 rfl ?_
                              refine B.icmp_lt 218 213 rfl (by decide) rfl at_210 (fun c210 => ?_) (fun c210 => ?_)
                              · exact absurd c210 (by decide)
                              · refine B.aload 215 rfl at_213 rfl rfl ?_
                                refine B.callVW 218 rfl at_215 (wd hw 66 rfl) (wd hw 67 rfl) (wd hw 69 rfl) (wd hw 68 rfl) (wd hw 8 rfl) (wd hw 70 rfl) (by decide) E_r_9 [] [] (rm_rn l Z a0 hw r d (6 : Int32) (7 : Int32) (8 : Int32) (8 : Int32) (5 : Int32) (0 : Int32) 6 7 [(.int (48 : Int32)), (.int (4 : Int32)), (.int (5 : Int32)), (.int (0 : Int32)), (.int (5 : Int32)), (.int (0 : Int32)), (.int (5 : Int32)), (.int (0 : Int32))] h_s E_r_9 n_d_r Fd_r3 Fp_r3 Fn_r3 A_d3 (by decide) (by decide) (by decide) rfl (by decide) (by decide) (by decide) (by decide) (by decide) rfl (by decide) (by decide) (by decide) (by decide)) rfl rfl pd___V rfl rfl 0 rfl (by decide) (by decide) (by decide) (by decide) (fun x z => Or.inr (by cases List.mem_singleton.mp z; exact g_r)) ?_
                                rintro _ h_n52 K_n52 ⟨rfl, Fd_n52, Fp_n52, Fn_n52, A_n52⟩
                                show B.G h_n52 7 70 (mkF m 218 #[.val (.int p1), .val (.int p2), .val (.int p3), .val (.int p4), .val (.int (2 : Int32)), .val (.int (1 : Int32)), .val (.int (0 : Int32)), .val (.int (1 : Int32)), .val (.int (8 : Int32)), .val (.ref d), .val (.ref r), .val (.ref sq), .val (.int (1 : Int32))] [])
                                have A_d_10 := A_d3.keep K_n52 (ninS n_d_r nin0)
                                have E_r_10 := E_r_9.keep K_n52
                                have Fd_sq_10 := Fd_s.keep K_n52 (ninS (Ne.symm n_r_sq) nin0)
                                have Fp_sq_10 := Fp_s.keep K_n52 (ninS (Ne.symm n_r_sq) nin0)
                                have Fn_sq_10 := Fn_s.keep K_n52 (ninS (Ne.symm n_r_sq) nin0)
                                have E_sq_10 := E_s.keep K_n52
                                refine B.iload 220 rfl at_218 rfl ?_
                                refine B.iconst 221 rfl (2 : Int32) at_220 rfl ?_
                                refine B.icmp_lt 229 224 rfl (by decide) rfl at_221 (fun c221 => ?_) (fun c221 => ?_)
                                · refine B.iload 231 rfl at_229 rfl ?_
                                  refine B.if0_eq 278 234 rfl (by decide) rfl at_231 (fun c231 => ?_) (fun c231 => ?_)
                                  · exact absurd c231 (by decide)
                                  · refine B.aload 236 rfl at_234 rfl rfl ?_
                                    refine B.callV 239 rfl at_236 (wd hw 61 rfl) (wd hw 62 rfl) (wd hw 64 rfl) (wd hw 63 rfl) (wd hw 8 rfl) (wd hw 65 rfl) (by decide) E_sq_10 [] [] (rm_hm1 l Z a0 hw sq d (2 : Int32) (6 : Int32) h_n52 Fd_sq_10 Fp_sq_10 Fn_sq_10 (by decide)) rfl rfl pd___Z rfl rfl 0 rfl (by decide) (by decide) (by decide) (by decide) (fun _ q => nomatch q) ?_
                                    rintro _ _ - ⟨rfl, rfl⟩
                                    show B.G h_n52 7 70 (mkF m 239 #[.val (.int p1), .val (.int p2), .val (.int p3), .val (.int p4), .val (.int (2 : Int32)), .val (.int (1 : Int32)), .val (.int (0 : Int32)), .val (.int (1 : Int32)), .val (.int (8 : Int32)), .val (.ref d), .val (.ref r), .val (.ref sq), .val (.int (1 : Int32))] [(.int (1 : Int32))])
                                    refine B.iload 241 rfl at_239 rfl ?_
                                    refine B.iload 243 rfl at_241 rfl ?_
                                    refine B.icmp_ge 250 246 rfl (by decide) rfl at_243 (fun c243 => ?_) (fun c243 => ?_)
                                    · exact absurd c243 (by decide)
                                    · refine B.iconst 247 rfl (1 : Int32) at_246 rfl ?_
                                      refine B.goto 251 rfl (by decide) at_247 ?_
                                      refine B.icmp_ne 278 254 rfl (by decide) rfl at_251 (fun c251 => ?_) (fun c251 => ?_)
                                      · exact absurd c251 (by decide)
                                      · refine B.aload 256 rfl at_254 rfl rfl ?_
                                        refine B.callV 259 rfl at_256 (wd hw 61 rfl) (wd hw 62 rfl) (wd hw 64 rfl) (wd hw 63 rfl) (wd hw 8 rfl) (wd hw 65 rfl) (by decide) E_r_10 [] [] (rm_hm0 l Z a0 hw r d (8 : Int32) (8 : Int32) h_n52 Fd_n52 Fp_n52 Fn_n52 (by decide)) rfl rfl pd___Z rfl rfl 0 rfl (by decide) (by decide) (by decide) (by decide) (fun _ q => nomatch q) ?_
                                        rintro _ _ - ⟨rfl, rfl⟩
                                        show B.G h_n52 7 70 (mkF m 259 #[.val (.int p1), .val (.int p2), .val (.int p3), .val (.int p4), .val (.int (2 : Int32)), .val (.int (1 : Int32)), .val (.int (0 : Int32)), .val (.int (1 : Int32)), .val (.int (8 : Int32)), .val (.ref d), .val (.ref r), .val (.ref sq), .val (.int (1 : Int32))] [(.int (0 : Int32))])
                                        refine B.iload 261 rfl at_259 rfl ?_
                                        refine B.iload 263 rfl at_261 rfl ?_
                                        refine B.icmp_ge 270 266 rfl (by decide) rfl at_263 (fun c263 => ?_) (fun c263 => ?_)
                                        · refine B.iconst 271 rfl (0 : Int32) at_270 rfl ?_
                                          refine B.icmp_ne 278 274 rfl (by decide) rfl at_271 (fun c271 => ?_) (fun c271 => ?_)
                                          · exact absurd c271 (by decide)
                                          · refine B.iconst 275 rfl (1 : Int32) at_274 rfl ?_
                                            refine B.goto 279 rfl (by decide) at_275 ?_
                                            refine B.istore 281 rfl at_279 #[.val (.int p1), .val (.int p2), .val (.int p3), .val (.int p4), .val (.int (2 : Int32)), .val (.int (1 : Int32)), .val (.int (0 : Int32)), .val (.int (1 : Int32)), .val (.int (8 : Int32)), .val (.ref d), .val (.ref r), .val (.ref sq), .val (.int (1 : Int32))] rfl ?_
                                            refine B.iload 283 rfl at_281 rfl ?_
                                            refine B.retN (by simp) at_283 (by decide) (by decide) ?_
                                            exact rfl
                                        · exact absurd c263 (by decide)
                                · exact absurd c221 (by decide)
                            · exact absurd c199 (by decide)
                          · exact absurd c188 (by decide)
                      · rcases hrr with rfl | rfl
                        · refine B.iload 187 rfl at_185 rfl ?_
                          refine B.iconst 188 rfl (1 : Int32) at_187 rfl ?_
                          refine B.icmp_lt 196 191 rfl (by decide) rfl at_188 (fun c188 => ?_) (fun c188 => ?_)
                          · exact absurd c188 (by decide)
                          · refine B.aload 193 rfl at_191 rfl rfl ?_
                            refine B.callVW 196 rfl at_193 (wd hw 66 rfl) (wd hw 67 rfl) (wd hw 69 rfl) (wd hw 68 rfl) (wd hw 8 rfl) (wd hw 70 rfl) (by decide) E_s [] [] (rm_rn l Z a0 hw sq d (2 : Int32) (3 : Int32) (4 : Int32) (6 : Int32) (5 : Int32) (0 : Int32) 2 3 [(.int (48 : Int32)), (.int (4 : Int32)), (.int (5 : Int32)), (.int (0 : Int32)), (.int (5 : Int32)), (.int (0 : Int32)), (.int (5 : Int32)), (.int (0 : Int32))] h_s E_s n_d_sq Fd_s Fp_s Fn_s A_d3 (by decide) (by decide) (by decide) rfl (by decide) (by decide) (by decide) (by decide) (by decide) rfl (by decide) (by decide) (by decide) (by decide)) rfl rfl pd___V rfl rfl 0 rfl (by decide) (by decide) (by decide) (by decide) (fun x z => Or.inr (by cases List.mem_singleton.mp z; exact g_s0)) ?_
                            rintro _ h_n53 K_n53 ⟨rfl, Fd_n53, Fp_n53, Fn_n53, A_n53⟩
                            show B.G h_n53 7 70 (mkF m 196 #[.val (.int p1), .val (.int p2), .val (.int p3), .val (.int p4), .val (.int (2 : Int32)), .val (.int (1 : Int32)), .val (.int (1 : Int32)), .val (.int (0 : Int32)), .val (.int (8 : Int32)), .val (.ref d), .val (.ref r), .val (.ref sq), .val (.int (1 : Int32))] [])
                            have A_d_10 := A_d3.keep K_n53 (ninS n_d_sq nin0)
                            have E_r_10 := E_r_9.keep K_n53
                            have Fd_r_10 := Fd_r3.keep K_n53 (ninS n_r_sq nin0)
                            have Fp_r_10 := Fp_r3.keep K_n53 (ninS n_r_sq nin0)
                            have Fn_r_10 := Fn_r3.keep K_n53 (ninS n_r_sq nin0)
                            have E_sq_10 := E_s.keep K_n53
                            refine B.iload 198 rfl at_196 rfl ?_
                            refine B.iconst 199 rfl (2 : Int32) at_198 rfl ?_
                            refine B.icmp_lt 207 202 rfl (by decide) rfl at_199 (fun c199 => ?_) (fun c199 => ?_)
                            · refine B.iload 209 rfl at_207 rfl ?_
                              refine B.iconst 210 rfl (1 : Int32) at_209 rfl ?_
                              refine B.icmp_lt 218 213 rfl (by decide) rfl at_210 (fun c210 => ?_) (fun c210 => ?_)
                              · refine B.iload 220 rfl at_218 rfl ?_
                                refine B.iconst 221 rfl (2 : Int32) at_220 rfl ?_
                                refine B.icmp_lt 229 224 rfl (by decide) rfl at_221 (fun c221 => ?_) (fun c221 => ?_)
                                · refine B.iload 231 rfl at_229 rfl ?_
                                  refine B.if0_eq 278 234 rfl (by decide) rfl at_231 (fun c231 => ?_) (fun c231 => ?_)
                                  · exact absurd c231 (by decide)
                                  · refine B.aload 236 rfl at_234 rfl rfl ?_
                                    refine B.callV 239 rfl at_236 (wd hw 61 rfl) (wd hw 62 rfl) (wd hw 64 rfl) (wd hw 63 rfl) (wd hw 8 rfl) (wd hw 65 rfl) (by decide) E_sq_10 [] [] (rm_hm1 l Z a0 hw sq d (4 : Int32) (6 : Int32) h_n53 Fd_n53 Fp_n53 Fn_n53 (by decide)) rfl rfl pd___Z rfl rfl 0 rfl (by decide) (by decide) (by decide) (by decide) (fun _ q => nomatch q) ?_
                                    rintro _ _ - ⟨rfl, rfl⟩
                                    show B.G h_n53 7 70 (mkF m 239 #[.val (.int p1), .val (.int p2), .val (.int p3), .val (.int p4), .val (.int (2 : Int32)), .val (.int (1 : Int32)), .val (.int (1 : Int32)), .val (.int (0 : Int32)), .val (.int (8 : Int32)), .val (.ref d), .val (.ref r), .val (.ref sq), .val (.int (1 : Int32))] [(.int (1 : Int32))])
                                    refine B.iload 241 rfl at_239 rfl ?_
                                    refine B.iload 243 rfl at_241 rfl ?_
                                    refine B.icmp_ge 250 246 rfl (by decide) rfl at_243 (fun c243 => ?_) (fun c243 => ?_)
                                    · exact absurd c243 (by decide)
                                    · refine B.iconst 247 rfl (1 : Int32) at_246 rfl ?_
                                      refine B.goto 251 rfl (by decide) at_247 ?_
                                      refine B.icmp_ne 278 254 rfl (by decide) rfl at_251 (fun c251 => ?_) (fun c251 => ?_)
                                      · exact absurd c251 (by decide)
                                      · refine B.aload 256 rfl at_254 rfl rfl ?_
                                        refine B.callV 259 rfl at_256 (wd hw 61 rfl) (wd hw 62 rfl) (wd hw 64 rfl) (wd hw 63 rfl) (wd hw 8 rfl) (wd hw 65 rfl) (by decide) E_r_10 [] [] (rm_hm1 l Z a0 hw r d (6 : Int32) (8 : Int32) h_n53 Fd_r_10 Fp_r_10 Fn_r_10 (by decide)) rfl rfl pd___Z rfl rfl 0 rfl (by decide) (by decide) (by decide) (by decide) (fun _ q => nomatch q) ?_
                                        rintro _ _ - ⟨rfl, rfl⟩
                                        show B.G h_n53 7 70 (mkF m 259 #[.val (.int p1), .val (.int p2), .val (.int p3), .val (.int p4), .val (.int (2 : Int32)), .val (.int (1 : Int32)), .val (.int (1 : Int32)), .val (.int (0 : Int32)), .val (.int (8 : Int32)), .val (.ref d), .val (.ref r), .val (.ref sq), .val (.int (1 : Int32))] [(.int (1 : Int32))])
                                        refine B.iload 261 rfl at_259 rfl ?_
                                        refine B.iload 263 rfl at_261 rfl ?_
                                        refine B.icmp_ge 270 266 rfl (by decide) rfl at_263 (fun c263 => ?_) (fun c263 => ?_)
                                        · exact absurd c263 (by decide)
                                        · refine B.iconst 267 rfl (1 : Int32) at_266 rfl ?_
                                          refine B.goto 271 rfl (by decide) at_267 ?_
                                          refine B.icmp_ne 278 274 rfl (by decide) rfl at_271 (fun c271 => ?_) (fun c271 => ?_)
                                          · exact absurd c271 (by decide)
                                          · refine B.iconst 275 rfl (1 : Int32) at_274 rfl ?_
                                            refine B.goto 279 rfl (by decide) at_275 ?_
                                            refine B.istore 281 rfl at_279 #[.val (.int p1), .val (.int p2), .val (.int p3), .val (.int p4), .val (.int (2 : Int32)), .val (.int (1 : Int32)), .val (.int (1 : Int32)), .val (.int (0 : Int32)), .val (.int (8 : Int32)), .val (.ref d), .val (.ref r), .val (.ref sq), .val (.int (1 : Int32))] rfl ?_
                                            refine B.iload 283 rfl at_281 rfl ?_
                                            refine B.retN (by simp) at_283 (by decide) (by decide) ?_
                                            exact rfl
                                · exact absurd c221 (by decide)
                              · exact absurd c210 (by decide)
                            · exact absurd c199 (by decide)
                        · refine B.iload 187 rfl at_185 rfl ?_
                          refine B.iconst 188 rfl (1 : Int32) at_187 rfl ?_
                          refine B.icmp_lt 196 191 rfl (by decide) rfl at_188 (fun c188 => ?_) (fun c188 => ?_)
                          · exact absurd c188 (by decide)
                          · refine B.aload 193 rfl at_191 rfl rfl ?_
                            refine B.callVW 196 rfl at_193 (wd hw 66 rfl) (wd hw 67 rfl) (wd hw 69 rfl) (wd hw 68 rfl) (wd hw 8 rfl) (wd hw 70 rfl) (by decide) E_s [] [] (rm_rn l Z a0 hw sq d (2 : Int32) (3 : Int32) (4 : Int32) (6 : Int32) (5 : Int32) (0 : Int32) 2 3 [(.int (48 : Int32)), (.int (4 : Int32)), (.int (5 : Int32)), (.int (0 : Int32)), (.int (5 : Int32)), (.int (0 : Int32)), (.int (5 : Int32)), (.int (0 : Int32))] h_s E_s n_d_sq Fd_s Fp_s Fn_s A_d3 (by decide) (by decide) (by decide) rfl (by decide) (by decide) (by decide) (by decide) (by decide) rfl (by decide) (by decide) (by decide) (by decide)) rfl rfl pd___V rfl rfl 0 rfl (by decide) (by decide) (by decide) (by decide) (fun x z => Or.inr (by cases List.mem_singleton.mp z; exact g_s0)) ?_
                            rintro _ h_n54 K_n54 ⟨rfl, Fd_n54, Fp_n54, Fn_n54, A_n54⟩
                            show B.G h_n54 7 70 (mkF m 196 #[.val (.int p1), .val (.int p2), .val (.int p3), .val (.int p4), .val (.int (2 : Int32)), .val (.int (1 : Int32)), .val (.int (1 : Int32)), .val (.int (1 : Int32)), .val (.int (8 : Int32)), .val (.ref d), .val (.ref r), .val (.ref sq), .val (.int (1 : Int32))] [])
                            have A_d_10 := A_d3.keep K_n54 (ninS n_d_sq nin0)
                            have E_r_10 := E_r_9.keep K_n54
                            have Fd_r_10 := Fd_r3.keep K_n54 (ninS n_r_sq nin0)
                            have Fp_r_10 := Fp_r3.keep K_n54 (ninS n_r_sq nin0)
                            have Fn_r_10 := Fn_r3.keep K_n54 (ninS n_r_sq nin0)
                            have E_sq_10 := E_s.keep K_n54
                            refine B.iload 198 rfl at_196 rfl ?_
                            refine B.iconst 199 rfl (2 : Int32) at_198 rfl ?_
                            refine B.icmp_lt 207 202 rfl (by decide) rfl at_199 (fun c199 => ?_) (fun c199 => ?_)
                            · refine B.iload 209 rfl at_207 rfl ?_
                              refine B.iconst 210 rfl (1 : Int32) at_209 rfl ?_
                              refine B.icmp_lt 218 213 rfl (by decide) rfl at_210 (fun c210 => ?_) (fun c210 => ?_)
                              · exact absurd c210 (by decide)
                              · refine B.aload 215 rfl at_213 rfl rfl ?_
                                refine B.callVW 218 rfl at_215 (wd hw 66 rfl) (wd hw 67 rfl) (wd hw 69 rfl) (wd hw 68 rfl) (wd hw 8 rfl) (wd hw 70 rfl) (by decide) E_r_10 [] [] (rm_rn l Z a0 hw r d (6 : Int32) (7 : Int32) (8 : Int32) (8 : Int32) (5 : Int32) (0 : Int32) 6 7 [(.int (48 : Int32)), (.int (4 : Int32)), (.int (5 : Int32)), (.int (0 : Int32)), (.int (5 : Int32)), (.int (0 : Int32)), (.int (5 : Int32)), (.int (0 : Int32))] h_n54 E_r_10 n_d_r Fd_r_10 Fp_r_10 Fn_r_10 A_n54 (by decide) (by decide) (by decide) rfl (by decide) (by decide) (by decide) (by decide) (by decide) rfl (by decide) (by decide) (by decide) (by decide)) rfl rfl pd___V rfl rfl 0 rfl (by decide) (by decide) (by decide) (by decide) (fun x z => Or.inr (by cases List.mem_singleton.mp z; exact g_r)) ?_
                                rintro _ h_n55 K_n55 ⟨rfl, Fd_n55, Fp_n55, Fn_n55, A_n55⟩
                                show B.G h_n55 9 90 (mkF m 218 #[.val (.int p1), .val (.int p2), .val (.int p3), .val (.int p4), .val (.int (2 : Int32)), .val (.int (1 : Int32)), .val (.int (1 : Int32)), .val (.int (1 : Int32)), .val (.int (8 : Int32)), .val (.ref d), .val (.ref r), .val (.ref sq), .val (.int (1 : Int32))] [])
                                have A_d_11 := A_n54.keep K_n55 (ninS n_d_r nin0)
                                have E_r_11 := E_r_10.keep K_n55
                                have E_sq_11 := E_sq_10.keep K_n55
                                have Fd_sq_11 := Fd_n54.keep K_n55 (ninS (Ne.symm n_r_sq) nin0)
                                have Fp_sq_11 := Fp_n54.keep K_n55 (ninS (Ne.symm n_r_sq) nin0)
                                have Fn_sq_11 := Fn_n54.keep K_n55 (ninS (Ne.symm n_r_sq) nin0)
                                refine B.iload 220 rfl at_218 rfl ?_
                                refine B.iconst 221 rfl (2 : Int32) at_220 rfl ?_
                                refine B.icmp_lt 229 224 rfl (by decide) rfl at_221 (fun c221 => ?_) (fun c221 => ?_)
                                · refine B.iload 231 rfl at_229 rfl ?_
                                  refine B.if0_eq 278 234 rfl (by decide) rfl at_231 (fun c231 => ?_) (fun c231 => ?_)
                                  · exact absurd c231 (by decide)
                                  · refine B.aload 236 rfl at_234 rfl rfl ?_
                                    refine B.callV 239 rfl at_236 (wd hw 61 rfl) (wd hw 62 rfl) (wd hw 64 rfl) (wd hw 63 rfl) (wd hw 8 rfl) (wd hw 65 rfl) (by decide) E_sq_11 [] [] (rm_hm1 l Z a0 hw sq d (4 : Int32) (6 : Int32) h_n55 Fd_sq_11 Fp_sq_11 Fn_sq_11 (by decide)) rfl rfl pd___Z rfl rfl 0 rfl (by decide) (by decide) (by decide) (by decide) (fun _ q => nomatch q) ?_
                                    rintro _ _ - ⟨rfl, rfl⟩
                                    show B.G h_n55 9 90 (mkF m 239 #[.val (.int p1), .val (.int p2), .val (.int p3), .val (.int p4), .val (.int (2 : Int32)), .val (.int (1 : Int32)), .val (.int (1 : Int32)), .val (.int (1 : Int32)), .val (.int (8 : Int32)), .val (.ref d), .val (.ref r), .val (.ref sq), .val (.int (1 : Int32))] [(.int (1 : Int32))])
                                    refine B.iload 241 rfl at_239 rfl ?_
                                    refine B.iload 243 rfl at_241 rfl ?_
                                    refine B.icmp_ge 250 246 rfl (by decide) rfl at_243 (fun c243 => ?_) (fun c243 => ?_)
                                    · exact absurd c243 (by decide)
                                    · refine B.iconst 247 rfl (1 : Int32) at_246 rfl ?_
                                      refine B.goto 251 rfl (by decide) at_247 ?_
                                      refine B.icmp_ne 278 254 rfl (by decide) rfl at_251 (fun c251 => ?_) (fun c251 => ?_)
                                      · exact absurd c251 (by decide)
                                      · refine B.aload 256 rfl at_254 rfl rfl ?_
                                        refine B.callV 259 rfl at_256 (wd hw 61 rfl) (wd hw 62 rfl) (wd hw 64 rfl) (wd hw 63 rfl) (wd hw 8 rfl) (wd hw 65 rfl) (by decide) E_r_11 [] [] (rm_hm0 l Z a0 hw r d (8 : Int32) (8 : Int32) h_n55 Fd_n55 Fp_n55 Fn_n55 (by decide)) rfl rfl pd___Z rfl rfl 0 rfl (by decide) (by decide) (by decide) (by decide) (fun _ q => nomatch q) ?_
                                        rintro _ _ - ⟨rfl, rfl⟩
                                        show B.G h_n55 9 90 (mkF m 259 #[.val (.int p1), .val (.int p2), .val (.int p3), .val (.int p4), .val (.int (2 : Int32)), .val (.int (1 : Int32)), .val (.int (1 : Int32)), .val (.int (1 : Int32)), .val (.int (8 : Int32)), .val (.ref d), .val (.ref r), .val (.ref sq), .val (.int (1 : Int32))] [(.int (0 : Int32))])
                                        refine B.iload 261 rfl at_259 rfl ?_
                                        refine B.iload 263 rfl at_261 rfl ?_
                                        refine B.icmp_ge 270 266 rfl (by decide) rfl at_263 (fun c263 => ?_) (fun c263 => ?_)
                                        · refine B.iconst 271 rfl (0 : Int32) at_270 rfl ?_
                                          refine B.icmp_ne 278 274 rfl (by decide) rfl at_271 (fun c271 => ?_) (fun c271 => ?_)
                                          · exact absurd c271 (by decide)
                                          · refine B.iconst 275 rfl (1 : Int32) at_274 rfl ?_
                                            refine B.goto 279 rfl (by decide) at_275 ?_
                                            refine B.istore 281 rfl at_279 #[.val (.int p1), .val (.int p2), .val (.int p3), .val (.int p4), .val (.int (2 : Int32)), .val (.int (1 : Int32)), .val (.int (1 : Int32)), .val (.int (1 : Int32)), .val (.int (8 : Int32)), .val (.ref d), .val (.ref r), .val (.ref sq), .val (.int (1 : Int32))] rfl ?_
                                            refine B.iload 283 rfl at_281 rfl ?_
                                            refine B.retN (by simp) at_283 (by decide) (by decide) ?_
                                            exact rfl
                                        · exact absurd c263 (by decide)
                                · exact absurd c221 (by decide)
                            · exact absurd c199 (by decide)
                      · rcases hrr with rfl | rfl
                        · refine B.iload 187 rfl at_185 rfl ?_
                          refine B.iconst 188 rfl (1 : Int32) at_187 rfl ?_
                          refine B.icmp_lt 196 191 rfl (by decide) rfl at_188 (fun c188 => ?_) (fun c188 => ?_)
                          · exact absurd c188 (by decide)
                          · refine B.aload 193 rfl at_191 rfl rfl ?_
                            refine B.callVW 196 rfl at_193 (wd hw 66 rfl) (wd hw 67 rfl) (wd hw 69 rfl) (wd hw 68 rfl) (wd hw 8 rfl) (wd hw 70 rfl) (by decide) E_s [] [] (rm_rn l Z a0 hw sq d (2 : Int32) (3 : Int32) (4 : Int32) (6 : Int32) (5 : Int32) (0 : Int32) 2 3 [(.int (48 : Int32)), (.int (4 : Int32)), (.int (5 : Int32)), (.int (0 : Int32)), (.int (5 : Int32)), (.int (0 : Int32)), (.int (5 : Int32)), (.int (0 : Int32))] h_s E_s n_d_sq Fd_s Fp_s Fn_s A_d3 (by decide) (by decide) (by decide) rfl (by decide) (by decide) (by decide) (by decide) (by decide) rfl (by decide) (by decide) (by decide) (by decide)) rfl rfl pd___V rfl rfl 0 rfl (by decide) (by decide) (by decide) (by decide) (fun x z => Or.inr (by cases List.mem_singleton.mp z; exact g_s0)) ?_
                            rintro _ h_n56 K_n56 ⟨rfl, Fd_n56, Fp_n56, Fn_n56, A_n56⟩
                            show B.G h_n56 7 70 (mkF m 196 #[.val (.int p1), .val (.int p2), .val (.int p3), .val (.int p4), .val (.int (2 : Int32)), .val (.int (1 : Int32)), .val (.int (2 : Int32)), .val (.int (0 : Int32)), .val (.int (8 : Int32)), .val (.ref d), .val (.ref r), .val (.ref sq), .val (.int (1 : Int32))] [])
                            have A_d_10 := A_d3.keep K_n56 (ninS n_d_sq nin0)
                            have E_r_10 := E_r_9.keep K_n56
                            have Fd_r_10 := Fd_r3.keep K_n56 (ninS n_r_sq nin0)
                            have Fp_r_10 := Fp_r3.keep K_n56 (ninS n_r_sq nin0)
                            have Fn_r_10 := Fn_r3.keep K_n56 (ninS n_r_sq nin0)
                            have E_sq_10 := E_s.keep K_n56
                            refine B.iload 198 rfl at_196 rfl ?_
                            refine B.iconst 199 rfl (2 : Int32) at_198 rfl ?_
                            refine B.icmp_lt 207 202 rfl (by decide) rfl at_199 (fun c199 => ?_) (fun c199 => ?_)
                            · exact absurd c199 (by decide)
                            · refine B.aload 204 rfl at_202 rfl rfl ?_
                              refine B.callVW 207 rfl at_204 (wd hw 66 rfl) (wd hw 67 rfl) (wd hw 69 rfl) (wd hw 68 rfl) (wd hw 8 rfl) (wd hw 70 rfl) (by decide) E_sq_10 [] [] (rm_rn l Z a0 hw sq d (4 : Int32) (5 : Int32) (6 : Int32) (6 : Int32) (5 : Int32) (0 : Int32) 4 5 [(.int (48 : Int32)), (.int (4 : Int32)), (.int (5 : Int32)), (.int (0 : Int32)), (.int (5 : Int32)), (.int (0 : Int32)), (.int (5 : Int32)), (.int (0 : Int32))] h_n56 E_sq_10 n_d_sq Fd_n56 Fp_n56 Fn_n56 A_n56 (by decide) (by decide) (by decide) rfl (by decide) (by decide) (by decide) (by decide) (by decide) rfl (by decide) (by decide) (by decide) (by decide)) rfl rfl pd___V rfl rfl 0 rfl (by decide) (by decide) (by decide) (by decide) (fun x z => Or.inr (by cases List.mem_singleton.mp z; exact g_s0)) ?_
                              rintro _ h_n57 K_n57 ⟨rfl, Fd_n57, Fp_n57, Fn_n57, A_n57⟩
                              show B.G h_n57 9 90 (mkF m 207 #[.val (.int p1), .val (.int p2), .val (.int p3), .val (.int p4), .val (.int (2 : Int32)), .val (.int (1 : Int32)), .val (.int (2 : Int32)), .val (.int (0 : Int32)), .val (.int (8 : Int32)), .val (.ref d), .val (.ref r), .val (.ref sq), .val (.int (1 : Int32))] [])
                              have A_d_11 := A_n56.keep K_n57 (ninS n_d_sq nin0)
                              have E_r_11 := E_r_10.keep K_n57
                              have Fd_r_11 := Fd_r_10.keep K_n57 (ninS n_r_sq nin0)
                              have Fp_r_11 := Fp_r_10.keep K_n57 (ninS n_r_sq nin0)
                              have Fn_r_11 := Fn_r_10.keep K_n57 (ninS n_r_sq nin0)
                              have E_sq_11 := E_sq_10.keep K_n57
                              refine B.iload 209 rfl at_207 rfl ?_
                              refine B.iconst 210 rfl (1 : Int32) at_209 rfl ?_
                              refine B.icmp_lt 218 213 rfl (by decide) rfl at_210 (fun c210 => ?_) (fun c210 => ?_)
                              · refine B.iload 220 rfl at_218 rfl ?_
                                refine B.iconst 221 rfl (2 : Int32) at_220 rfl ?_
                                refine B.icmp_lt 229 224 rfl (by decide) rfl at_221 (fun c221 => ?_) (fun c221 => ?_)
                                · refine B.iload 231 rfl at_229 rfl ?_
                                  refine B.if0_eq 278 234 rfl (by decide) rfl at_231 (fun c231 => ?_) (fun c231 => ?_)
                                  · exact absurd c231 (by decide)
                                  · refine B.aload 236 rfl at_234 rfl rfl ?_
                                    refine B.callV 239 rfl at_236 (wd hw 61 rfl) (wd hw 62 rfl) (wd hw 64 rfl) (wd hw 63 rfl) (wd hw 8 rfl) (wd hw 65 rfl) (by decide) E_sq_11 [] [] (rm_hm0 l Z a0 hw sq d (6 : Int32) (6 : Int32) h_n57 Fd_n57 Fp_n57 Fn_n57 (by decide)) rfl rfl pd___Z rfl rfl 0 rfl (by decide) (by decide) (by decide) (by decide) (fun _ q => nomatch q) ?_
                                    rintro _ _ - ⟨rfl, rfl⟩
                                    show B.G h_n57 9 90 (mkF m 239 #[.val (.int p1), .val (.int p2), .val (.int p3), .val (.int p4), .val (.int (2 : Int32)), .val (.int (1 : Int32)), .val (.int (2 : Int32)), .val (.int (0 : Int32)), .val (.int (8 : Int32)), .val (.ref d), .val (.ref r), .val (.ref sq), .val (.int (1 : Int32))] [(.int (0 : Int32))])
                                    refine B.iload 241 rfl at_239 rfl ?_
                                    refine B.iload 243 rfl at_241 rfl ?_
                                    refine B.icmp_ge 250 246 rfl (by decide) rfl at_243 (fun c243 => ?_) (fun c243 => ?_)
                                    · refine B.iconst 251 rfl (0 : Int32) at_250 rfl ?_
                                      refine B.icmp_ne 278 254 rfl (by decide) rfl at_251 (fun c251 => ?_) (fun c251 => ?_)
                                      · exact absurd c251 (by decide)
                                      · refine B.aload 256 rfl at_254 rfl rfl ?_
                                        refine B.callV 259 rfl at_256 (wd hw 61 rfl) (wd hw 62 rfl) (wd hw 64 rfl) (wd hw 63 rfl) (wd hw 8 rfl) (wd hw 65 rfl) (by decide) E_r_11 [] [] (rm_hm1 l Z a0 hw r d (6 : Int32) (8 : Int32) h_n57 Fd_r_11 Fp_r_11 Fn_r_11 (by decide)) rfl rfl pd___Z rfl rfl 0 rfl (by decide) (by decide) (by decide) (by decide) (fun _ q => nomatch q) ?_
                                        rintro _ _ - ⟨rfl, rfl⟩
                                        show B.G h_n57 9 90 (mkF m 259 #[.val (.int p1), .val (.int p2), .val (.int p3), .val (.int p4), .val (.int (2 : Int32)), .val (.int (1 : Int32)), .val (.int (2 : Int32)), .val (.int (0 : Int32)), .val (.int (8 : Int32)), .val (.ref d), .val (.ref r), .val (.ref sq), .val (.int (1 : Int32))] [(.int (1 : Int32))])
                                        refine B.iload 261 rfl at_259 rfl ?_
                                        refine B.iload 263 rfl at_261 rfl ?_
                                        refine B.icmp_ge 270 266 rfl (by decide) rfl at_263 (fun c263 => ?_) (fun c263 => ?_)
                                        · exact absurd c263 (by decide)
                                        · refine B.iconst 267 rfl (1 : Int32) at_266 rfl ?_
                                          refine B.goto 271 rfl (by decide) at_267 ?_
                                          refine B.icmp_ne 278 274 rfl (by decide) rfl at_271 (fun c271 => ?_) (fun c271 => ?_)
                                          · exact absurd c271 (by decide)
                                          · refine B.iconst 275 rfl (1 : Int32) at_274 rfl ?_
                                            refine B.goto 279 rfl (by decide) at_275 ?_
                                            refine B.istore 281 rfl at_279 #[.val (.int p1), .val (.int p2), .val (.int p3), .val (.int p4), .val (.int (2 : Int32)), .val (.int (1 : Int32)), .val (.int (2 : Int32)), .val (.int (0 : Int32)), .val (.int (8 : Int32)), .val (.ref d), .val (.ref r), .val (.ref sq), .val (.int (1 : Int32))] rfl ?_
                                            refine B.iload 283 rfl at_281 rfl ?_
                                            refine B.retN (by simp) at_283 (by decide) (by decide) ?_
                                            exact rfl
                                    · exact absurd c243 (by decide)
                                · exact absurd c221 (by decide)
                              · exact absurd c210 (by decide)
                        · refine B.iload 187 rfl at_185 rfl ?_
                          refine B.iconst 188 rfl (1 : Int32) at_187 rfl ?_
                          refine B.icmp_lt 196 191 rfl (by decide) rfl at_188 (fun c188 => ?_) (fun c188 => ?_)
                          · exact absurd c188 (by decide)
                          · refine B.aload 193 rfl at_191 rfl rfl ?_
                            refine B.callVW 196 rfl at_193 (wd hw 66 rfl) (wd hw 67 rfl) (wd hw 69 rfl) (wd hw 68 rfl) (wd hw 8 rfl) (wd hw 70 rfl) (by decide) E_s [] [] (rm_rn l Z a0 hw sq d (2 : Int32) (3 : Int32) (4 : Int32) (6 : Int32) (5 : Int32) (0 : Int32) 2 3 [(.int (48 : Int32)), (.int (4 : Int32)), (.int (5 : Int32)), (.int (0 : Int32)), (.int (5 : Int32)), (.int (0 : Int32)), (.int (5 : Int32)), (.int (0 : Int32))] h_s E_s n_d_sq Fd_s Fp_s Fn_s A_d3 (by decide) (by decide) (by decide) rfl (by decide) (by decide) (by decide) (by decide) (by decide) rfl (by decide) (by decide) (by decide) (by decide)) rfl rfl pd___V rfl rfl 0 rfl (by decide) (by decide) (by decide) (by decide) (fun x z => Or.inr (by cases List.mem_singleton.mp z; exact g_s0)) ?_
                            rintro _ h_n58 K_n58 ⟨rfl, Fd_n58, Fp_n58, Fn_n58, A_n58⟩
                            show B.G h_n58 7 70 (mkF m 196 #[.val (.int p1), .val (.int p2), .val (.int p3), .val (.int p4), .val (.int (2 : Int32)), .val (.int (1 : Int32)), .val (.int (2 : Int32)), .val (.int (1 : Int32)), .val (.int (8 : Int32)), .val (.ref d), .val (.ref r), .val (.ref sq), .val (.int (1 : Int32))] [])
                            have A_d_10 := A_d3.keep K_n58 (ninS n_d_sq nin0)
                            have E_r_10 := E_r_9.keep K_n58
                            have Fd_r_10 := Fd_r3.keep K_n58 (ninS n_r_sq nin0)
                            have Fp_r_10 := Fp_r3.keep K_n58 (ninS n_r_sq nin0)
                            have Fn_r_10 := Fn_r3.keep K_n58 (ninS n_r_sq nin0)
                            have E_sq_10 := E_s.keep K_n58
                            refine B.iload 198 rfl at_196 rfl ?_
                            refine B.iconst 199 rfl (2 : Int32) at_198 rfl ?_
                            refine B.icmp_lt 207 202 rfl (by decide) rfl at_199 (fun c199 => ?_) (fun c199 => ?_)
                            · exact absurd c199 (by decide)
                            · refine B.aload 204 rfl at_202 rfl rfl ?_
                              refine B.callVW 207 rfl at_204 (wd hw 66 rfl) (wd hw 67 rfl) (wd hw 69 rfl) (wd hw 68 rfl) (wd hw 8 rfl) (wd hw 70 rfl) (by decide) E_sq_10 [] [] (rm_rn l Z a0 hw sq d (4 : Int32) (5 : Int32) (6 : Int32) (6 : Int32) (5 : Int32) (0 : Int32) 4 5 [(.int (48 : Int32)), (.int (4 : Int32)), (.int (5 : Int32)), (.int (0 : Int32)), (.int (5 : Int32)), (.int (0 : Int32)), (.int (5 : Int32)), (.int (0 : Int32))] h_n58 E_sq_10 n_d_sq Fd_n58 Fp_n58 Fn_n58 A_n58 (by decide) (by decide) (by decide) rfl (by decide) (by decide) (by decide) (by decide) (by decide) rfl (by decide) (by decide) (by decide) (by decide)) rfl rfl pd___V rfl rfl 0 rfl (by decide) (by decide) (by decide) (by decide) (fun x z => Or.inr (by cases List.mem_singleton.mp z; exact g_s0)) ?_
                              rintro _ h_n59 K_n59 ⟨rfl, Fd_n59, Fp_n59, Fn_n59, A_n59⟩
                              show B.G h_n59 9 90 (mkF m 207 #[.val (.int p1), .val (.int p2), .val (.int p3), .val (.int p4), .val (.int (2 : Int32)), .val (.int (1 : Int32)), .val (.int (2 : Int32)), .val (.int (1 : Int32)), .val (.int (8 : Int32)), .val (.ref d), .val (.ref r), .val (.ref sq), .val (.int (1 : Int32))] [])
                              have A_d_11 := A_n58.keep K_n59 (ninS n_d_sq nin0)
                              have E_r_11 := E_r_10.keep K_n59
                              have Fd_r_11 := Fd_r_10.keep K_n59 (ninS n_r_sq nin0)
                              have Fp_r_11 := Fp_r_10.keep K_n59 (ninS n_r_sq nin0)
                              have Fn_r_11 := Fn_r_10.keep K_n59 (ninS n_r_sq nin0)
                              have E_sq_11 := E_sq_10.keep K_n59
                              refine B.iload 209 rfl at_207 rfl ?_
                              refine B.iconst 210 rfl (1 : Int32) at_209 rfl ?_
                              refine B.icmp_lt 218 213 rfl (by decide) rfl at_210 (fun c210 => ?_) (fun c210 => ?_)
                              · exact absurd c210 (by decide)
                              · refine B.aload 215 rfl at_213 rfl rfl ?_
                                refine B.callVW 218 rfl at_215 (wd hw 66 rfl) (wd hw 67 rfl) (wd hw 69 rfl) (wd hw 68 rfl) (wd hw 8 rfl) (wd hw 70 rfl) (by decide) E_r_11 [] [] (rm_rn l Z a0 hw r d (6 : Int32) (7 : Int32) (8 : Int32) (8 : Int32) (5 : Int32) (0 : Int32) 6 7 [(.int (48 : Int32)), (.int (4 : Int32)), (.int (5 : Int32)), (.int (0 : Int32)), (.int (5 : Int32)), (.int (0 : Int32)), (.int (5 : Int32)), (.int (0 : Int32))] h_n59 E_r_11 n_d_r Fd_r_11 Fp_r_11 Fn_r_11 A_n59 (by decide) (by decide) (by decide) rfl (by decide) (by decide) (by decide) (by decide) (by decide) rfl (by decide) (by decide) (by decide) (by decide)) rfl rfl pd___V rfl rfl 0 rfl (by decide) (by decide) (by decide) (by decide) (fun x z => Or.inr (by cases List.mem_singleton.mp z; exact g_r)) ?_
                                rintro _ h_n60 K_n60 ⟨rfl, Fd_n60, Fp_n60, Fn_n60, A_n60⟩
                                show B.G h_n60 11 110 (mkF m 218 #[.val (.int p1), .val (.int p2), .val (.int p3), .val (.int p4), .val (.int (2 : Int32)), .val (.int (1 : Int32)), .val (.int (2 : Int32)), .val (.int (1 : Int32)), .val (.int (8 : Int32)), .val (.ref d), .val (.ref r), .val (.ref sq), .val (.int (1 : Int32))] [])
                                have A_d_12 := A_n59.keep K_n60 (ninS n_d_r nin0)
                                have E_r_12 := E_r_11.keep K_n60
                                have E_sq_12 := E_sq_11.keep K_n60
                                have Fd_sq_12 := Fd_n59.keep K_n60 (ninS (Ne.symm n_r_sq) nin0)
                                have Fp_sq_12 := Fp_n59.keep K_n60 (ninS (Ne.symm n_r_sq) nin0)
                                have Fn_sq_12 := Fn_n59.keep K_n60 (ninS (Ne.symm n_r_sq) nin0)
                                refine B.iload 220 rfl at_218 rfl ?_
                                refine B.iconst 221 rfl (2 : Int32) at_220 rfl ?_
                                refine B.icmp_lt 229 224 rfl (by decide) rfl at_221 (fun c221 => ?_) (fun c221 => ?_)
                                · refine B.iload 231 rfl at_229 rfl ?_
                                  refine B.if0_eq 278 234 rfl (by decide) rfl at_231 (fun c231 => ?_) (fun c231 => ?_)
                                  · exact absurd c231 (by decide)
                                  · refine B.aload 236 rfl at_234 rfl rfl ?_
                                    refine B.callV 239 rfl at_236 (wd hw 61 rfl) (wd hw 62 rfl) (wd hw 64 rfl) (wd hw 63 rfl) (wd hw 8 rfl) (wd hw 65 rfl) (by decide) E_sq_12 [] [] (rm_hm0 l Z a0 hw sq d (6 : Int32) (6 : Int32) h_n60 Fd_sq_12 Fp_sq_12 Fn_sq_12 (by decide)) rfl rfl pd___Z rfl rfl 0 rfl (by decide) (by decide) (by decide) (by decide) (fun _ q => nomatch q) ?_
                                    rintro _ _ - ⟨rfl, rfl⟩
                                    show B.G h_n60 11 110 (mkF m 239 #[.val (.int p1), .val (.int p2), .val (.int p3), .val (.int p4), .val (.int (2 : Int32)), .val (.int (1 : Int32)), .val (.int (2 : Int32)), .val (.int (1 : Int32)), .val (.int (8 : Int32)), .val (.ref d), .val (.ref r), .val (.ref sq), .val (.int (1 : Int32))] [(.int (0 : Int32))])
                                    refine B.iload 241 rfl at_239 rfl ?_
                                    refine B.iload 243 rfl at_241 rfl ?_
                                    refine B.icmp_ge 250 246 rfl (by decide) rfl at_243 (fun c243 => ?_) (fun c243 => ?_)
                                    · refine B.iconst 251 rfl (0 : Int32) at_250 rfl ?_
                                      refine B.icmp_ne 278 254 rfl (by decide) rfl at_251 (fun c251 => ?_) (fun c251 => ?_)
                                      · exact absurd c251 (by decide)
                                      · refine B.aload 256 rfl at_254 rfl rfl ?_
                                        refine B.callV 259 rfl at_256 (wd hw 61 rfl) (wd hw 62 rfl) (wd hw 64 rfl) (wd hw 63 rfl) (wd hw 8 rfl) (wd hw 65 rfl) (by decide) E_r_12 [] [] (rm_hm0 l Z a0 hw r d (8 : Int32) (8 : Int32) h_n60 Fd_n60 Fp_n60 Fn_n60 (by decide)) rfl rfl pd___Z rfl rfl 0 rfl (by decide) (by decide) (by decide) (by decide) (fun _ q => nomatch q) ?_
                                        rintro _ _ - ⟨rfl, rfl⟩
                                        show B.G h_n60 11 110 (mkF m 259 #[.val (.int p1), .val (.int p2), .val (.int p3), .val (.int p4), .val (.int (2 : Int32)), .val (.int (1 : Int32)), .val (.int (2 : Int32)), .val (.int (1 : Int32)), .val (.int (8 : Int32)), .val (.ref d), .val (.ref r), .val (.ref sq), .val (.int (1 : Int32))] [(.int (0 : Int32))])
                                        refine B.iload 261 rfl at_259 rfl ?_
                                        refine B.iload 263 rfl at_261 rfl ?_
                                        refine B.icmp_ge 270 266 rfl (by decide) rfl at_263 (fun c263 => ?_) (fun c263 => ?_)
                                        · refine B.iconst 271 rfl (0 : Int32) at_270 rfl ?_
                                          refine B.icmp_ne 278 274 rfl (by decide) rfl at_271 (fun c271 => ?_) (fun c271 => ?_)
                                          · exact absurd c271 (by decide)
                                          · refine B.iconst 275 rfl (1 : Int32) at_274 rfl ?_
                                            refine B.goto 279 rfl (by decide) at_275 ?_
                                            refine B.istore 281 rfl at_279 #[.val (.int p1), .val (.int p2), .val (.int p3), .val (.int p4), .val (.int (2 : Int32)), .val (.int (1 : Int32)), .val (.int (2 : Int32)), .val (.int (1 : Int32)), .val (.int (8 : Int32)), .val (.ref d), .val (.ref r), .val (.ref sq), .val (.int (1 : Int32))] rfl ?_
                                            refine B.iload 283 rfl at_281 rfl ?_
                                            refine B.retN (by simp) at_283 (by decide) (by decide) ?_
                                            exact rfl
                                        · exact absurd c263 (by decide)
                                    · exact absurd c243 (by decide)
                                · exact absurd c221 (by decide)
            · exact absurd c115 (by decide)
    · refine B.topI (2 : Int32) qm ?_
      refine B.istore 16 rfl at_14 #[.val (.int p1), .val (.int p2), .val (.int p3), .val (.int p4), .val (.int (2 : Int32)), .val (.int (2 : Int32)), .unset, .unset, .unset, .unset, .unset, .unset, .unset] rfl ?_
      refine B.iloadN 17 rfl at_16 rfl ?_
      refine B.ldcI 19 rfl at_17 (wd hw 0 rfl) ?_
      refine B.iand 20 rfl at_19 ?_
      refine B.iconst 21 rfl (3 : Int32) at_20 rfl ?_
      refine B.irem 22 rfl at_21 (by decide) ?_
      refine B.iload 24 rfl at_22 rfl ?_
      refine B.callS 27 rfl at_24 (wd hw 1 rfl) (wd hw 2 rfl) (wd hw 3 rfl) (wd hw 4 rfl) (by decide) [(.int ((p3 &&& (2147483647 : Int32)) % (3 : Int32))), (.int (2 : Int32))] [] (rm_min l Z a0 hw ((p3 &&& (2147483647 : Int32)) % (3 : Int32)) (2 : Int32) h0) rfl rfl pd__II_I rfl rfl 0 rfl (by decide) (by decide) (by decide) (by decide) (fun _ q => nomatch q) ?_
      rintro _ _ - ⟨rfl, rfl⟩
      show B.G h0 0 0 (mkF m 27 #[.val (.int p1), .val (.int p2), .val (.int p3), .val (.int p4), .val (.int (2 : Int32)), .val (.int (2 : Int32)), .unset, .unset, .unset, .unset, .unset, .unset, .unset] [(.int (own_min ((p3 &&& (2147483647 : Int32)) % (3 : Int32)) (2 : Int32)))])
      obtain ⟨rs, ers, hrs⟩ : ∃ z : Int32, own_min ((p3 &&& 2147483647) % 3) 2 = z ∧ (z = 0 ∨ z = 1 ∨ z = 2) := ⟨_, rfl, own_r2 p3⟩
      refine B.topI rs ers ?_
      refine B.istore 29 rfl at_27 #[.val (.int p1), .val (.int p2), .val (.int p3), .val (.int p4), .val (.int (2 : Int32)), .val (.int (2 : Int32)), .val (.int rs), .unset, .unset, .unset, .unset, .unset, .unset] rfl ?_
      refine B.iloadN 30 rfl at_29 rfl ?_
      refine B.ldcI 32 rfl at_30 (wd hw 0 rfl) ?_
      refine B.iand 33 rfl at_32 ?_
      refine B.iconst 34 rfl (3 : Int32) at_33 rfl ?_
      refine B.irem 35 rfl at_34 (by decide) ?_
      refine B.iload 37 rfl at_35 rfl ?_
      refine B.callS 40 rfl at_37 (wd hw 1 rfl) (wd hw 2 rfl) (wd hw 3 rfl) (wd hw 4 rfl) (by decide) [(.int ((p4 &&& (2147483647 : Int32)) % (3 : Int32))), (.int (2 : Int32))] [] (rm_min l Z a0 hw ((p4 &&& (2147483647 : Int32)) % (3 : Int32)) (2 : Int32) h0) rfl rfl pd__II_I rfl rfl 0 rfl (by decide) (by decide) (by decide) (by decide) (fun _ q => nomatch q) ?_
      rintro _ _ - ⟨rfl, rfl⟩
      show B.G h0 0 0 (mkF m 40 #[.val (.int p1), .val (.int p2), .val (.int p3), .val (.int p4), .val (.int (2 : Int32)), .val (.int (2 : Int32)), .val (.int rs), .unset, .unset, .unset, .unset, .unset, .unset] [(.int (own_min ((p4 &&& (2147483647 : Int32)) % (3 : Int32)) (2 : Int32)))])
      obtain ⟨rr, err, hrr⟩ : ∃ z : Int32, own_min ((p4 &&& 2147483647) % 3) 2 = z ∧ (z = 0 ∨ z = 1 ∨ z = 2) := ⟨_, rfl, own_r2 p4⟩
      refine B.topI rr err ?_
      refine B.istore 42 rfl at_40 #[.val (.int p1), .val (.int p2), .val (.int p3), .val (.int p4), .val (.int (2 : Int32)), .val (.int (2 : Int32)), .val (.int rs), .val (.int rr), .unset, .unset, .unset, .unset, .unset] rfl ?_
      refine B.iconst 43 rfl (2 : Int32) at_42 rfl ?_
      refine B.iconst 44 rfl (2 : Int32) at_43 rfl ?_
      refine B.iload 46 rfl at_44 rfl ?_
      refine B.imul 47 rfl at_46 ?_
      refine B.topI (4 : Int32) (by decide) ?_
      refine B.iadd 48 rfl at_47 ?_
      refine B.topI (6 : Int32) (by decide) ?_
      refine B.iconst 49 rfl (2 : Int32) at_48 rfl ?_
      refine B.iload 51 rfl at_49 rfl ?_
      refine B.imul 52 rfl at_51 ?_
      refine B.topI (4 : Int32) (by decide) ?_
      refine B.iadd 53 rfl at_52 ?_
      refine B.topI (10 : Int32) (by decide) ?_
      refine B.istore 55 rfl at_53 #[.val (.int p1), .val (.int p2), .val (.int p3), .val (.int p4), .val (.int (2 : Int32)), .val (.int (2 : Int32)), .val (.int rs), .val (.int rr), .val (.int (10 : Int32)), .unset, .unset, .unset, .unset] rfl ?_
      refine B.iload 57 rfl at_55 rfl ?_
      refine B.newP 59 rfl at_57 (wd hw 5 rfl) (by decide) 10 (by decide) (by decide) (by decide) (by decide) ?_
      intro h_d d e_d g_d X_d A_d
      replace A_d : Ary Z h_d d .byte [(.int (0 : Int32)), (.int (0 : Int32)), (.int (0 : Int32)), (.int (0 : Int32)), (.int (0 : Int32)), (.int (0 : Int32)), (.int (0 : Int32)), (.int (0 : Int32)), (.int (0 : Int32)), (.int (0 : Int32))] := A_d
      show B.G h_d 1 10 (mkF m 59 #[.val (.int p1), .val (.int p2), .val (.int p3), .val (.int p4), .val (.int (2 : Int32)), .val (.int (2 : Int32)), .val (.int rs), .val (.int rr), .val (.int (10 : Int32)), .unset, .unset, .unset, .unset] [(.ref d)])
      refine B.astore 61 rfl at_59 rfl #[.val (.int p1), .val (.int p2), .val (.int p3), .val (.int p4), .val (.int (2 : Int32)), .val (.int (2 : Int32)), .val (.int rs), .val (.int rr), .val (.int (10 : Int32)), .val (.ref d), .unset, .unset, .unset] rfl ?_
      refine B.aload 63 rfl at_61 rfl rfl ?_
      refine B.iconst 64 rfl (0 : Int32) at_63 rfl ?_
      refine B.bipush 66 rfl (48 : Int32) at_64 rfl ?_
      refine B.bastore 67 rfl at_66 A_d (by decide) 0 rfl (by simp) (Or.inr g_d) ?_
      intro hs61 Ws61 As61
      rw [show (((48 : Int32)).toInt8.toInt32) = (48 : Int32) from by decide] at As61
      replace As61 : Ary Z hs61 d .byte [(.int (48 : Int32)), (.int (0 : Int32)), (.int (0 : Int32)), (.int (0 : Int32)), (.int (0 : Int32)), (.int (0 : Int32)), (.int (0 : Int32)), (.int (0 : Int32)), (.int (0 : Int32)), (.int (0 : Int32))] := As61
      refine B.aload 69 rfl at_67 rfl rfl ?_
      refine B.iconst 70 rfl (1 : Int32) at_69 rfl ?_
      refine B.iconst 71 rfl (2 : Int32) at_70 rfl ?_
      refine B.iload 73 rfl at_71 rfl ?_
      refine B.imul 74 rfl at_73 ?_
      refine B.topI (4 : Int32) (by decide) ?_
      refine B.i2b 75 rfl at_74 ?_
      refine B.topI (4 : Int32) (by decide) ?_
      refine B.bastore 76 rfl at_75 As61 (by decide) 1 rfl (by simp) (Or.inr g_d) ?_
      intro hs62 Ws62 As62
      rw [show (((4 : Int32)).toInt8.toInt32) = (4 : Int32) from by decide] at As62
      replace As62 : Ary Z hs62 d .byte [(.int (48 : Int32)), (.int (4 : Int32)), (.int (0 : Int32)), (.int (0 : Int32)), (.int (0 : Int32)), (.int (0 : Int32)), (.int (0 : Int32)), (.int (0 : Int32)), (.int (0 : Int32)), (.int (0 : Int32))] := As62
      refine B.iload 78 rfl at_76 rfl ?_
      refine B.iconst 79 rfl (2 : Int32) at_78 rfl ?_
      refine B.icmp_le 87 82 rfl (by decide) rfl at_79 (fun c79 => ?_) (fun c79 => ?_)
      · exact absurd c79 (by decide)
      · refine B.aload 84 rfl at_82 rfl rfl ?_
        refine B.iconst 85 rfl (2 : Int32) at_84 rfl ?_
        refine B.iconst 86 rfl (5 : Int32) at_85 rfl ?_
        refine B.bastore 87 rfl at_86 As62 (by decide) 2 rfl (by simp) (Or.inr g_d) ?_
        intro hs63 Ws63 As63
        rw [show (((5 : Int32)).toInt8.toInt32) = (5 : Int32) from by decide] at As63
        replace As63 : Ary Z hs63 d .byte [(.int (48 : Int32)), (.int (4 : Int32)), (.int (5 : Int32)), (.int (0 : Int32)), (.int (0 : Int32)), (.int (0 : Int32)), (.int (0 : Int32)), (.int (0 : Int32)), (.int (0 : Int32)), (.int (0 : Int32))] := As63
        refine B.iload 89 rfl at_87 rfl ?_
        refine B.iconst 90 rfl (4 : Int32) at_89 rfl ?_
        refine B.icmp_le 98 93 rfl (by decide) rfl at_90 (fun c90 => ?_) (fun c90 => ?_)
        · exact absurd c90 (by decide)
        · refine B.aload 95 rfl at_93 rfl rfl ?_
          refine B.iconst 96 rfl (4 : Int32) at_95 rfl ?_
          refine B.iconst 97 rfl (5 : Int32) at_96 rfl ?_
          refine B.bastore 98 rfl at_97 As63 (by decide) 4 rfl (by simp) (Or.inr g_d) ?_
          intro hs64 Ws64 As64
          rw [show (((5 : Int32)).toInt8.toInt32) = (5 : Int32) from by decide] at As64
          replace As64 : Ary Z hs64 d .byte [(.int (48 : Int32)), (.int (4 : Int32)), (.int (5 : Int32)), (.int (0 : Int32)), (.int (5 : Int32)), (.int (0 : Int32)), (.int (0 : Int32)), (.int (0 : Int32)), (.int (0 : Int32)), (.int (0 : Int32))] := As64
          refine B.iload 100 rfl at_98 rfl ?_
          refine B.bipush 102 rfl (6 : Int32) at_100 rfl ?_
          refine B.icmp_le 111 105 rfl (by decide) rfl at_102 (fun c102 => ?_) (fun c102 => ?_)
          · exact absurd c102 (by decide)
          · refine B.aload 107 rfl at_105 rfl rfl ?_
            refine B.bipush 109 rfl (6 : Int32) at_107 rfl ?_
            refine B.iconst 110 rfl (5 : Int32) at_109 rfl ?_
            refine B.bastore 111 rfl at_110 As64 (by decide) 6 rfl (by simp) (Or.inr g_d) ?_
            intro hs65 Ws65 As65
            rw [show (((5 : Int32)).toInt8.toInt32) = (5 : Int32) from by decide] at As65
            replace As65 : Ary Z hs65 d .byte [(.int (48 : Int32)), (.int (4 : Int32)), (.int (5 : Int32)), (.int (0 : Int32)), (.int (5 : Int32)), (.int (0 : Int32)), (.int (5 : Int32)), (.int (0 : Int32)), (.int (0 : Int32)), (.int (0 : Int32))] := As65
            refine B.iload 113 rfl at_111 rfl ?_
            refine B.bipush 115 rfl (8 : Int32) at_113 rfl ?_
            refine B.icmp_le 124 118 rfl (by decide) rfl at_115 (fun c115 => ?_) (fun c115 => ?_)
            · exact absurd c115 (by decide)
            · refine B.aload 120 rfl at_118 rfl rfl ?_
              refine B.bipush 122 rfl (8 : Int32) at_120 rfl ?_
              refine B.iconst 123 rfl (5 : Int32) at_122 rfl ?_
              refine B.bastore 124 rfl at_123 As65 (by decide) 8 rfl (by simp) (Or.inr g_d) ?_
              intro hs66 Ws66 As66
              rw [show (((5 : Int32)).toInt8.toInt32) = (5 : Int32) from by decide] at As66
              replace As66 : Ary Z hs66 d .byte [(.int (48 : Int32)), (.int (4 : Int32)), (.int (5 : Int32)), (.int (0 : Int32)), (.int (5 : Int32)), (.int (0 : Int32)), (.int (5 : Int32)), (.int (0 : Int32)), (.int (5 : Int32)), (.int (0 : Int32))] := As66
              refine B.newO 127 rfl at_124 (wd hw 6 rfl) (wd hw 7 rfl) (wd hw 8 rfl) (by decide) (by decide) ?_
              intro h_r r e_r g_r X_r E_r D_r
              show B.G h_r 2 13 (mkF m 127 #[.val (.int p1), .val (.int p2), .val (.int p3), .val (.int p4), .val (.int (2 : Int32)), .val (.int (2 : Int32)), .val (.int rs), .val (.int rr), .val (.int (10 : Int32)), .val (.ref d), .unset, .unset, .unset] [(.ref r)])
              have n_d_r : d ≠ r := fun q => absurd As66.lt (by rw [q, e_r]; exact Nat.lt_irrefl _)
              have A_d_8 := As66.ext X_r
              have F0_r : Fld Z h_r r "io/keyvouch/der/DerReader" "der" "[B" .null := D_r (Or.inr (wd hw 19 rfl)) (ty := (.array .byte)) (by decide)
              have F1_r : Fld Z h_r r "io/keyvouch/der/DerReader" "pos" "I" (.int 0) := D_r (Or.inl (wd hw 21 rfl)) (ty := .int) (by decide)
              have F2_r : Fld Z h_r r "io/keyvouch/der/DerReader" "end" "I" (.int 0) := D_r (Or.inr (wd hw 23 rfl)) (ty := .int) (by decide)
              refine B.dup 128 rfl at_127 rfl ?_
              refine B.aload 130 rfl at_128 rfl rfl ?_
              refine B.callI 133 rfl at_130 rfl (wd hw 9 rfl) (wd hw 10 rfl) (wd hw 8 rfl) (wd hw 11 rfl) (by decide) [(.ref d)] [(.ref r)] (rm_i1 l Z a0 hw r d (10 : Int32) [(.int (48 : Int32)), (.int (4 : Int32)), (.int (5 : Int32)), (.int (0 : Int32)), (.int (5 : Int32)), (.int (0 : Int32)), (.int (5 : Int32)), (.int (0 : Int32)), (.int (5 : Int32)), (.int (0 : Int32))] h_r A_d_8 rfl E_r F0_r F1_r F2_r) rfl rfl pd___B_V rfl rfl 1 rfl (by decide) (by decide) (by decide) (by decide) (fun x z => Or.inr (by cases List.mem_singleton.mp z; exact g_r)) ?_
              rintro _ h_r2 K_r2 ⟨rfl, Fd_r, Fp_r, Fn_r⟩
              show B.G h_r2 2 13 (mkF m 133 #[.val (.int p1), .val (.int p2), .val (.int p3), .val (.int p4), .val (.int (2 : Int32)), .val (.int (2 : Int32)), .val (.int rs), .val (.int rr), .val (.int (10 : Int32)), .val (.ref d), .unset, .unset, .unset] [(.ref r)])
              have A_d_9 := A_d_8.keep K_r2 (ninS n_d_r nin0)
              have E_r_9 := E_r.keep K_r2
              refine B.astore 135 rfl at_133 rfl #[.val (.int p1), .val (.int p2), .val (.int p3), .val (.int p4), .val (.int (2 : Int32)), .val (.int (2 : Int32)), .val (.int rs), .val (.int rr), .val (.int (10 : Int32)), .val (.ref d), .val (.ref r), .unset, .unset] rfl ?_
              refine B.aload 137 rfl at_135 rfl rfl ?_
              refine B.callVW 140 rfl at_137 (wd hw 24 rfl) (wd hw 25 rfl) (wd hw 27 rfl) (wd hw 26 rfl) (wd hw 8 rfl) (wd hw 28 rfl) (by decide) E_r_9 [] [] (rm_rs l Z a0 hw r d (0 : Int32) (1 : Int32) (2 : Int32) (10 : Int32) (48 : Int32) (4 : Int32) (4 : Int32) 0 1 [(.int (48 : Int32)), (.int (4 : Int32)), (.int (5 : Int32)), (.int (0 : Int32)), (.int (5 : Int32)), (.int (0 : Int32)), (.int (5 : Int32)), (.int (0 : Int32)), (.int (5 : Int32)), (.int (0 : Int32))] (6 : Int32) h_r2 E_r_9 n_d_r Fd_r Fp_r Fn_r A_d_9 (by decide) (by decide) (by decide) rfl (by decide) (by decide) (by decide) (by decide) (by decide) rfl (by decide) (by decide) (by decide) (by decide) (by decide)) rfl rfl pd___Lio_keyvouch_der_DerReader_ rfl rfl 0 rfl (by decide) (by decide) (by decide) (by decide) (fun x z => Or.inr (by cases List.mem_singleton.mp z; exact g_r)) ?_
              rintro _ h_s K_s ⟨sq, rfl, g_s, E_s, Fd_s, Fp_s, Fn_s, Fd_r3, Fp_r3, Fn_r3, A_d3⟩
              show B.G h_s 5 52 (mkF m 140 #[.val (.int p1), .val (.int p2), .val (.int p3), .val (.int p4), .val (.int (2 : Int32)), .val (.int (2 : Int32)), .val (.int rs), .val (.int rr), .val (.int (10 : Int32)), .val (.ref d), .val (.ref r), .unset, .unset] [(.ref sq)])
              have n_r_sq : r ≠ sq := fun q => absurd E_r_9.lt (by rw [q]; exact Nat.not_lt.mpr g_s)
              have n_d_sq : d ≠ sq := fun q => absurd A_d_9.lt (by rw [q]; exact Nat.not_lt.mpr g_s)
              have g_s0 : h0.size ≤ sq := Nat.le_trans (Nat.le_trans g_r (Nat.le_of_lt E_r_9.lt)) g_s
              have A_d_10 := A_d_9.keep K_s (ninS n_d_r nin0)
              have E_r_10 := E_r_9.keep K_s
              refine B.astore 142 rfl at_140 rfl #[.val (.int p1), .val (.int p2), .val (.int p3), .val (.int p4), .val (.int (2 : Int32)), .val (.int (2 : Int32)), .val (.int rs), .val (.int rr), .val (.int (10 : Int32)), .val (.ref d), .val (.ref r), .val (.ref sq), .unset] rfl ?_
              refine B.aload 144 rfl at_142 rfl rfl ?_
              refine B.callV 147 rfl at_144 (wd hw 61 rfl) (wd hw 62 rfl) (wd hw 64 rfl) (wd hw 63 rfl) (wd hw 8 rfl) (wd hw 65 rfl) (by decide) E_r_10 [] [] (rm_hm1 l Z a0 hw r d (6 : Int32) (10 : Int32) h_s Fd_r3 Fp_r3 Fn_r3 (by decide)) rfl rfl pd___Z rfl rfl 0 rfl (by decide) (by decide) (by decide) (by decide) (fun _ q => nomatch q) ?_
              rintro _ _ - ⟨rfl, rfl⟩
              show B.G h_s 5 52 (mkF m 147 #[.val (.int p1), .val (.int p2), .val (.int p3), .val (.int p4), .val (.int (2 : Int32)), .val (.int (2 : Int32)), .val (.int rs), .val (.int rr), .val (.int (10 : Int32)), .val (.ref d), .val (.ref r), .val (.ref sq), .unset] [(.int (1 : Int32))])
              refine B.iload 149 rfl at_147 rfl ?_
              refine B.if0_le 156 152 rfl (by decide) rfl at_149 (fun c149 => ?_) (fun c149 => ?_)
              · exact absurd c149 (by decide)
              · refine B.iconst 153 rfl (1 : Int32) at_152 rfl ?_
                refine B.goto 157 rfl (by decide) at_153 ?_
                refine B.icmp_ne 182 160 rfl (by decide) rfl at_157 (fun c157 => ?_) (fun c157 => ?_)
                · exact absurd c157 (by decide)
                · refine B.aload 162 rfl at_160 rfl rfl ?_
                  refine B.callV 165 rfl at_162 (wd hw 61 rfl) (wd hw 62 rfl) (wd hw 64 rfl) (wd hw 63 rfl) (wd hw 8 rfl) (wd hw 65 rfl) (by decide) E_s [] [] (rm_hm1 l Z a0 hw sq d (2 : Int32) (6 : Int32) h_s Fd_s Fp_s Fn_s (by decide)) rfl rfl pd___Z rfl rfl 0 rfl (by decide) (by decide) (by decide) (by decide) (fun _ q => nomatch q) ?_
                  rintro _ _ - ⟨rfl, rfl⟩
                  show B.G h_s 5 52 (mkF m 165 #[.val (.int p1), .val (.int p2), .val (.int p3), .val (.int p4), .val (.int (2 : Int32)), .val (.int (2 : Int32)), .val (.int rs), .val (.int rr), .val (.int (10 : Int32)), .val (.ref d), .val (.ref r), .val (.ref sq), .unset] [(.int (1 : Int32))])
                  refine B.iload 167 rfl at_165 rfl ?_
                  refine B.if0_le 174 170 rfl (by decide) rfl at_167 (fun c167 => ?_) (fun c167 => ?_)
                  · exact absurd c167 (by decide)
                  · refine B.iconst 171 rfl (1 : Int32) at_170 rfl ?_
                    refine B.goto 175 rfl (by decide) at_171 ?_
                    refine B.icmp_ne 182 178 rfl (by decide) rfl at_175 (fun c175 => ?_) (fun c175 => ?_)
                    · exact absurd c175 (by decide)
                    · refine B.iconst 179 rfl (1 : Int32) at_178 rfl ?_
                      refine B.goto 183 rfl (by decide) at_179 ?_
                      refine B.istore 185 rfl at_183 #[.val (.int p1), .val (.int p2), .val (.int p3), .val (.int p4), .val (.int (2 : Int32)), .val (.int (2 : Int32)), .val (.int rs), .val (.int rr), .val (.int (10 : Int32)), .val (.ref d), .val (.ref r), .val (.ref sq), .val (.int (1 : Int32))] rfl ?_
                      rcases hrs with rfl | rfl | rfl
                      · rcases hrr with rfl | rfl | rfl
                        · refine B.iload 187 rfl at_185 rfl ?_
                          refine B.iconst 188 rfl (1 : Int32) at_187 rfl ?_
                          refine B.icmp_lt 196 191 rfl (by decide) rfl at_188 (fun c188 => ?_) (fun c188 => ?_)
                          · refine B.iload 198 rfl at_196 rfl ?_
                            refine B.iconst 199 rfl (2 : Int32) at_198 rfl ?_
                            refine B.icmp_lt 207 202 rfl (by decide) rfl at_199 (fun c199 => ?_) (fun c199 => ?_)
                            · refine B.iload 209 rfl at_207 rfl ?_
                              refine B.iconst 210 rfl (1 : Int32) at_209 rfl ?_
                              refine B.icmp_lt 218 213 rfl (by decide) rfl at_210 (fun c210 => ?_) (fun c210 => ?_)
                              · refine B.iload 220 rfl at_218 rfl ?_
                                refine B.iconst 221 rfl (2 : Int32) at_220 rfl ?_
                                refine B.icmp_lt 229 224 rfl (by decide) rfl at_221 (fun c221 => ?_) (fun c221 => ?_)
                                · refine B.iload 231 rfl at_229 rfl ?_
                                  refine B.if0_eq 278 234 rfl (by decide) rfl at_231 (fun c231 => ?_) (fun c231 => ?_)
                                  · exact absurd c231 (by decide)
                                  · refine B.aload 236 rfl at_234 rfl rfl ?_
                                    refine B.callV 239 rfl at_236 (wd hw 61 rfl) (wd hw 62 rfl) (wd hw 64 rfl) (wd hw 63 rfl) (wd hw 8 rfl) (wd hw 65 rfl) (by decide) E_s [] [] (rm_hm1 l Z a0 hw sq d (2 : Int32) (6 : Int32) h_s Fd_s Fp_s Fn_s (by decide)) rfl rfl pd___Z rfl rfl 0 rfl (by decide) (by decide) (by decide) (by decide) (fun _ q => nomatch q) ?_
                                    rintro _ _ - ⟨rfl, rfl⟩
                                    show B.G h_s 5 52 (mkF m 239 #[.val (.int p1), .val (.int p2), .val (.int p3), .val (.int p4), .val (.int (2 : Int32)), .val (.int (2 : Int32)), .val (.int (0 : Int32)), .val (.int (0 : Int32)), .val (.int (10 : Int32)), .val (.ref d), .val (.ref r), .val (.ref sq), .val (.int (1 : Int32))] [(.int (1 : Int32))])
                                    refine B.iload 241 rfl at_239 rfl ?_
                                    refine B.iload 243 rfl at_241 rfl ?_
                                    refine B.icmp_ge 250 246 rfl (by decide) rfl at_243 (fun c243 => ?_) (fun c243 => ?_)
                                    · exact absurd c243 (by decide)
                                    · refine B.iconst 247 rfl (1 : Int32) at_246 rfl ?_
                                      refine B.goto 251 rfl (by decide) at_247 ?_
                                      refine B.icmp_ne 278 254 rfl (by decide) rfl at_251 (fun c251 => ?_) (fun c251 => ?_)
                                      · exact absurd c251 (by decide)
                                      · refine B.aload 256 rfl at_254 rfl rfl ?_
                                        refine B.callV 259 rfl at_256 (wd hw 61 rfl) (wd hw 62 rfl) (wd hw 64 rfl) (wd hw 63 rfl) (wd hw 8 rfl) (wd hw 65 rfl) (by decide) E_r_10 [] [] (rm_hm1 l Z a0 hw r d (6 : Int32) (10 : Int32) h_s Fd_r3 Fp_r3 Fn_r3 (by decide)) rfl rfl pd___Z rfl rfl 0 rfl (by decide) (by decide) (by decide) (by decide) (fun _ q => nomatch q) ?_
                                        rintro _ _ - ⟨rfl, rfl⟩
                                        show B.G h_s 5 52 (mkF m 259 #[.val (.int p1), .val (.int p2), .val (.int p3), .val (.int p4), .val (.int (2 : Int32)), .val (.int (2 : Int32)), .val (.int (0 : Int32)), .val (.int (0 : Int32)), .val (.int (10 : Int32)), .val (.ref d), .val (.ref r), .val (.ref sq), .val (.int (1 : Int32))] [(.int (1 : Int32))])
                                        refine B.iload 261 rfl at_259 rfl ?_
                                        refine B.iload 263 rfl at_261 rfl ?_
                                        refine B.icmp_ge 270 266 rfl (by decide) rfl at_263 (fun c263 => ?_) (fun c263 => ?_)
                                        · exact absurd c263 (by decide)
                                        · refine B.iconst 267 rfl (1 : Int32) at_266 rfl ?_
                                          refine B.goto 271 rfl (by decide) at_267 ?_
                                          refine B.icmp_ne 278 274 rfl (by decide) rfl at_271 (fun c271 => ?_) (fun c271 => ?_)
                                          · exact absurd c271 (by decide)
                                          · refine B.iconst 275 rfl (1 : Int32) at_274 rfl ?_
                                            refine B.goto 279 rfl (by decide) at_275 ?_
                                            refine B.istore 281 rfl at_279 #[.val (.int p1), .val (.int p2), .val (.int p3), .val (.int p4), .val (.int (2 : Int32)), .val (.int (2 : Int32)), .val (.int (0 : Int32)), .val (.int (0 : Int32)), .val (.int (10 : Int32)), .val (.ref d), .val (.ref r), .val (.ref sq), .val (.int (1 : Int32))] rfl ?_
                                            refine B.iload 283 rfl at_281 rfl ?_
                                            refine B.retN (by simp) at_283 (by decide) (by decide) ?_
                                            exact rfl
                                · exact absurd c221 (by decide)
                              · exact absurd c210 (by decide)
                            · exact absurd c199 (by decide)
                          · exact absurd c188 (by decide)
                        · refine B.iload 187 rfl at_185 rfl ?_
                          refine B.iconst 188 rfl (1 : Int32) at_187 rfl ?_
                          refine B.icmp_lt 196 191 rfl (by decide) rfl at_188 (fun c188 => ?_) (fun c188 => ?_)
                          · refine B.iload 198 rfl at_196 rfl ?_
                            refine B.iconst 199 rfl (2 : Int32) at_198 rfl ?_
                            refine B.icmp_lt 207 202 rfl (by decide) rfl at_199 (fun c199 => ?_) (fun c199 => ?_)
                            · refine B.iload 209 rfl at_207 rfl ?_
                              refine B.iconst 210 rfl (1 : Int32) at_209 rfl ?_
                              refine B.icmp_lt 218 213 rfl (by decide) rfl at_210 (fun c210 => ?_) (fun c210 => ?_)
                              · exact absurd c210 (by decide)
                              · refine B.aload 215 rfl at_213 rfl rfl ?_
                                refine B.callVW 218 rfl at_215 (wd hw 66 rfl) (wd hw 67 rfl) (wd hw 69 rfl) (wd hw 68 rfl) (wd hw 8 rfl) (wd hw 70 rfl) (by decide) E_r_10 [] [] (rm_rn l Z a0 hw r d (6 : Int32) (7 : Int32) (8 : Int32) (10 : Int32) (5 : Int32) (0 : Int32) 6 7 [(.int (48 : Int32)), (.int (4 : Int32)), (.int (5 : Int32)), (.int (0 : Int32)), (.int (5 : Int32)), (.int (0 : Int32)), (.int (5 : Int32)), (.int (0 : Int32)), (.int (5 : Int32)), (.int (0 : Int32))] h_s E_r_10 n_d_r Fd_r3 Fp_r3 Fn_r3 A_d3 (by decide) (by decide) (by decide) rfl (by decide) (by decide) (by decide) (by decide) (by decide) rfl (by decide) (by decide) (by decide) (by decide)) rfl rfl pd___V rfl rfl 0 rfl (by decide) (by decide) (by decide) (by decide) (fun x z => Or.inr (by cases List.mem_singleton.mp z; exact g_r)) ?_
                                rintro _ h_n67 K_n67 ⟨rfl, Fd_n67, Fp_n67, Fn_n67, A_n67⟩
                                show B.G h_n67 7 72 (mkF m 218 #[.val (.int p1), .val (.int p2), .val (.int p3), .val (.int p4), .val (.int (2 : Int32)), .val (.int (2 : Int32)), .val (.int (0 : Int32)), .val (.int (1 : Int32)), .val (.int (10 : Int32)), .val (.ref d), .val (.ref r), .val (.ref sq), .val (.int (1 : Int32))] [])
                                have A_d_11 := A_d3.keep K_n67 (ninS n_d_r nin0)
                                have E_r_11 := E_r_10.keep K_n67
                                have Fd_sq_11 := Fd_s.keep K_n67 (ninS (Ne.symm n_r_sq) nin0)
                                have Fp_sq_11 := Fp_s.keep K_n67 (ninS (Ne.symm n_r_sq) nin0)
                                have Fn_sq_11 := Fn_s.keep K_n67 (ninS (Ne.symm n_r_sq) nin0)
                                have E_sq_11 := E_s.keep K_n67
                                refine B.iload 220 rfl at_218 rfl ?_
                                refine B.iconst 221 rfl (2 : Int32) at_220 rfl ?_
                                refine B.icmp_lt 229 224 rfl (by decide) rfl at_221 (fun c221 => ?_) (fun c221 => ?_)
                                · refine B.iload 231 rfl at_229 rfl ?_
                                  refine B.if0_eq 278 234 rfl (by decide) rfl at_231 (fun c231 => ?_) (fun c231 => ?_)
                                  · exact absurd c231 (by decide)
                                  · refine B.aload 236 rfl at_234 rfl rfl ?_
                                    refine B.callV 239 rfl at_236 (wd hw 61 rfl) (wd hw 62 rfl) (wd hw 64 rfl) (wd hw 63 rfl) (wd hw 8 rfl) (wd hw 65 rfl) (by decide) E_sq_11 [] [] (rm_hm1 l Z a0 hw sq d (2 : Int32) (6 : Int32) h_n67 Fd_sq_11 Fp_sq_11 Fn_sq_11 (by decide)) rfl rfl pd___Z rfl rfl 0 rfl (by decide) (by decide) (by decide) (by decide) (fun _ q => nomatch q) ?_
                                    rintro _ _ - ⟨rfl, rfl⟩
                                    show B.G h_n67 7 72 (mkF m 239 #[.val (.int p1), .val (.int p2), .val (.int p3), .val (.int p4), .val (.int (2 : Int32)), .val (.int (2 : Int32)), .val (.int (0 : Int32)), .val (.int (1 : Int32)), .val (.int (10 : Int32)), .val (.ref d), .val (.ref r), .val (.ref sq), .val (.int (1 : Int32))] [(.int (1 : Int32))])
                                    refine B.iload 241 rfl at_239 rfl ?_
                                    refine B.iload 243 rfl at_241 rfl ?_
                                    refine B.icmp_ge 250 246 rfl (by decide) rfl at_243 (fun c243 => ?_) (fun c243 => ?_)
                                    · exact absurd c243 (by decide)
                                    · refine B.iconst 247 rfl (1 : Int32) at_246 rfl ?_
                                      refine B.goto 251 rfl (by decide) at_247 ?_
                                      refine B.icmp_ne 278 254 rfl (by decide) rfl at_251 (fun c251 => ?_) (fun c251 => ?_)
                                      · exact absurd c251 (by decide)
                                      · refine B.aload 256 rfl at_254 rfl rfl ?_
                                        refine B.callV 259 rfl at_256 (wd hw 61 rfl) (wd hw 62 rfl) (wd hw 64 rfl) (wd hw 63 rfl) (wd hw 8 rfl) (wd hw 65 rfl) (by decide) E_r_11 [] [] (rm_hm1 l Z a0 hw r d (8 : Int32) (10 : Int32) h_n67 Fd_n67 Fp_n67 Fn_n67 (by decide)) rfl rfl pd___Z rfl rfl 0 rfl (by decide) (by decide) (by decide) (by decide) (fun _ q => nomatch q) ?_
                                        rintro _ _ - ⟨rfl, rfl⟩
                                        show B.G h_n67 7 72 (mkF m 259 #[.val (.int p1), .val (.int p2), .val (.int p3), .val (.int p4), .val (.int (2 : Int32)), .val (.int (2 : Int32)), .val (.int (0 : Int32)), .val (.int (1 : Int32)), .val (.int (10 : Int32)), .val (.ref d), .val (.ref r), .val (.ref sq), .val (.int (1 : Int32))] [(.int (1 : Int32))])
                                        refine B.iload 261 rfl at_259 rfl ?_
                                        refine B.iload 263 rfl at_261 rfl ?_
                                        refine B.icmp_ge 270 266 rfl (by decide) rfl at_263 (fun c263 => ?_) (fun c263 => ?_)
                                        · exact absurd c263 (by decide)
                                        · refine B.iconst 267 rfl (1 : Int32) at_266 rfl ?_
                                          refine B.goto 271 rfl (by decide) at_267 ?_
                                          refine B.icmp_ne 278 274 rfl (by decide) rfl at_271 (fun c271 => ?_) (fun c271 => ?_)
                                          · exact absurd c271 (by decide)
                                          · refine B.iconst 275 rfl (1 : Int32) at_274 rfl ?_
                                            refine B.goto 279 rfl (by decide) at_275 ?_
                                            refine B.istore 281 rfl at_279 #[.val (.int p1), .val (.int p2), .val (.int p3), .val (.int p4), .val (.int (2 : Int32)), .val (.int (2 : Int32)), .val (.int (0 : Int32)), .val (.int (1 : Int32)), .val (.int (10 : Int32)), .val (.ref d), .val (.ref r), .val (.ref sq), .val (.int (1 : Int32))] rfl ?_
                                            refine B.iload 283 rfl at_281 rfl ?_
                                            refine B.retN (by simp) at_283 (by decide) (by decide) ?_
                                            exact rfl
                                · exact absurd c221 (by decide)
                            · exact absurd c199 (by decide)
                          · exact absurd c188 (by decide)
                        · refine B.iload 187 rfl at_185 rfl ?_
                          refine B.iconst 188 rfl (1 : Int32) at_187 rfl ?_
                          refine B.icmp_lt 196 191 rfl (by decide) rfl at_188 (fun c188 => ?_) (fun c188 => ?_)
                          · refine B.iload 198 rfl at_196 rfl ?_
                            refine B.iconst 199 rfl (2 : Int32) at_198 rfl ?_
                            refine B.icmp_lt 207 202 rfl (by decide) rfl at_199 (fun c199 => ?_) (fun c199 => ?_)
                            · refine B.iload 209 rfl at_207 rfl ?_
                              refine B.iconst 210 rfl (1 : Int32) at_209 rfl ?_
                              refine B.icmp_lt 218 213 rfl (by decide) rfl at_210 (fun c210 => ?_) (fun c210 => ?_)
                              · exact absurd c210 (by decide)
                              · refine B.aload 215 rfl at_213 rfl rfl ?_
                                refine B.callVW 218 rfl at_215 (wd hw 66 rfl) (wd hw 67 rfl) (wd hw 69 rfl) (wd hw 68 rfl) (wd hw 8 rfl) (wd hw 70 rfl) (by decide) E_r_10 [] [] (rm_rn l Z a0 hw r d (6 : Int32) (7 : Int32) (8 : Int32) (10 : Int32) (5 : Int32) (0 : Int32) 6 7 [(.int (48 : Int32)), (.int (4 : Int32)), (.int (5 : Int32)), (.int (0 : Int32)), (.int (5 : Int32)), (.int (0 : Int32)), (.int (5 : Int32)), (.int (0 : Int32)), (.int (5 : Int32)), (.int (0 : Int32))] h_s E_r_10 n_d_r Fd_r3 Fp_r3 Fn_r3 A_d3 (by decide) (by decide) (by decide) rfl (by decide) (by decide) (by decide) (by decide) (by decide) rfl (by decide) (by decide) (by decide) (by decide)) rfl rfl pd___V rfl rfl 0 rfl (by decide) (by decide) (by decide) (by decide) (fun x z => Or.inr (by cases List.mem_singleton.mp z; exact g_r)) ?_
                                rintro _ h_n68 K_n68 ⟨rfl, Fd_n68, Fp_n68, Fn_n68, A_n68⟩
                                show B.G h_n68 7 72 (mkF m 218 #[.val (.int p1), .val (.int p2), .val (.int p3), .val (.int p4), .val (.int (2 : Int32)), .val (.int (2 : Int32)), .val (.int (0 : Int32)), .val (.int (2 : Int32)), .val (.int (10 : Int32)), .val (.ref d), .val (.ref r), .val (.ref sq), .val (.int (1 : Int32))] [])
                                have A_d_11 := A_d3.keep K_n68 (ninS n_d_r nin0)
                                have E_r_11 := E_r_10.keep K_n68
                                have Fd_sq_11 := Fd_s.keep K_n68 (ninS (Ne.symm n_r_sq) nin0)
                                have Fp_sq_11 := Fp_s.keep K_n68 (ninS (Ne.symm n_r_sq) nin0)
                                have Fn_sq_11 := Fn_s.keep K_n68 (ninS (Ne.symm n_r_sq) nin0)
                                have E_sq_11 := E_s.keep K_n68
                                refine B.iload 220 rfl at_218 rfl ?_
                                refine B.iconst 221 rfl (2 : Int32) at_220 rfl ?_
                                refine B.icmp_lt 229 224 rfl (by decide) rfl at_221 (fun c221 => ?_) (fun c221 => ?_)
                                · exact absurd c221 (by decide)
                                · refine B.aload 226 rfl at_224 rfl rfl ?_
                                  refine B.callVW 229 rfl at_226 (wd hw 66 rfl) (wd hw 67 rfl) (wd hw 69 rfl) (wd hw 68 rfl) (wd hw 8 rfl) (wd hw 70 rfl) (by decide) E_r_11 [] [] (rm_rn l Z a0 hw r d (8 : Int32) (9 : Int32) (10 : Int32) (10 : Int32) (5 : Int32) (0 : Int32) 8 9 [(.int (48 : Int32)), (.int (4 : Int32)), (.int (5 : Int32)), (.int (0 : Int32)), (.int (5 : Int32)), (.int (0 : Int32)), (.int (5 : Int32)), (.int (0 : Int32)), (.int (5 : Int32)), (.int (0 : Int32))] h_n68 E_r_11 n_d_r Fd_n68 Fp_n68 Fn_n68 A_n68 (by decide) (by decide) (by decide) rfl (by decide) (by decide) (by decide) (by decide) (by decide) rfl (by decide) (by decide) (by decide) (by decide)) rfl rfl pd___V rfl rfl 0 rfl (by decide) (by decide) (by decide) (by decide) (fun x z => Or.inr (by cases List.mem_singleton.mp z; exact g_r)) ?_
                                  rintro _ h_n69 K_n69 ⟨rfl, Fd_n69, Fp_n69, Fn_n69, A_n69⟩
                                  show B.G h_n69 9 92 (mkF m 229 #[.val (.int p1), .val (.int p2), .val (.int p3), .val (.int p4), .val (.int (2 : Int32)), .val (.int (2 : Int32)), .val (.int (0 : Int32)), .val (.int (2 : Int32)), .val (.int (10 : Int32)), .val (.ref d), .val (.ref r), .val (.ref sq), .val (.int (1 : Int32))] [])
                                  have A_d_12 := A_n68.keep K_n69 (ninS n_d_r nin0)
                                  have E_r_12 := E_r_11.keep K_n69
                                  have Fd_sq_12 := Fd_sq_11.keep K_n69 (ninS (Ne.symm n_r_sq) nin0)
                                  have Fp_sq_12 := Fp_sq_11.keep K_n69 (ninS (Ne.symm n_r_sq) nin0)
                                  have Fn_sq_12 := Fn_sq_11.keep K_n69 (ninS (Ne.symm n_r_sq) nin0)
                                  have E_sq_12 := E_sq_11.keep K_n69
                                  refine B.iload 231 rfl at_229 rfl ?_
                                  refine B.if0_eq 278 234 rfl (by decide) rfl at_231 (fun c231 => ?_) (fun c231 => ?_)
                                  · exact absurd c231 (by decide)
                                  · refine B.aload 236 rfl at_234 rfl rfl ?_
                                    refine B.callV 239 rfl at_236 (wd hw 61 rfl) (wd hw 62 rfl) (wd hw 64 rfl) (wd hw 63 rfl) (wd hw 8 rfl) (wd hw 65 rfl) (by decide) E_sq_12 [] [] (rm_hm1 l Z a0 hw sq d (2 : Int32) (6 : Int32) h_n69 Fd_sq_12 Fp_sq_12 Fn_sq_12 (by decide)) rfl rfl pd___Z rfl rfl 0 rfl (by decide) (by decide) (by decide) (by decide) (fun _ q => nomatch q) ?_
                                    rintro _ _ - ⟨rfl, rfl⟩
                                    show B.G h_n69 9 92 (mkF m 239 #[.val (.int p1), .val (.int p2), .val (.int p3), .val (.int p4), .val (.int (2 : Int32)), .val (.int (2 : Int32)), .val (.int (0 : Int32)), .val (.int (2 : Int32)), .val (.int (10 : Int32)), .val (.ref d), .val (.ref r), .val (.ref sq), .val (.int (1 : Int32))] [(.int (1 : Int32))])
                                    refine B.iload 241 rfl at_239 rfl ?_
                                    refine B.iload 243 rfl at_241 rfl ?_
                                    refine B.icmp_ge 250 246 rfl (by decide) rfl at_243 (fun c243 => ?_) (fun c243 => ?_)
                                    · exact absurd c243 (by decide)
                                    · refine B.iconst 247 rfl (1 : Int32) at_246 rfl ?_
                                      refine B.goto 251 rfl (by decide) at_247 ?_
                                      refine B.icmp_ne 278 254 rfl (by decide) rfl at_251 (fun c251 => ?_) (fun c251 => ?_)
                                      · exact absurd c251 (by decide)
                                      · refine B.aload 256 rfl at_254 rfl rfl ?_
                                        refine B.callV 259 rfl at_256 (wd hw 61 rfl) (wd hw 62 rfl) (wd hw 64 rfl) (wd hw 63 rfl) (wd hw 8 rfl) (wd hw 65 rfl) (by decide) E_r_12 [] [] (rm_hm0 l Z a0 hw r d (10 : Int32) (10 : Int32) h_n69 Fd_n69 Fp_n69 Fn_n69 (by decide)) rfl rfl pd___Z rfl rfl 0 rfl (by decide) (by decide) (by decide) (by decide) (fun _ q => nomatch q) ?_
                                        rintro _ _ - ⟨rfl, rfl⟩
                                        show B.G h_n69 9 92 (mkF m 259 #[.val (.int p1), .val (.int p2), .val (.int p3), .val (.int p4), .val (.int (2 : Int32)), .val (.int (2 : Int32)), .val (.int (0 : Int32)), .val (.int (2 : Int32)), .val (.int (10 : Int32)), .val (.ref d), .val (.ref r), .val (.ref sq), .val (.int (1 : Int32))] [(.int (0 : Int32))])
                                        refine B.iload 261 rfl at_259 rfl ?_
                                        refine B.iload 263 rfl at_261 rfl ?_
                                        refine B.icmp_ge 270 266 rfl (by decide) rfl at_263 (fun c263 => ?_) (fun c263 => ?_)
                                        · refine B.iconst 271 rfl (0 : Int32) at_270 rfl ?_
                                          refine B.icmp_ne 278 274 rfl (by decide) rfl at_271 (fun c271 => ?_) (fun c271 => ?_)
                                          · exact absurd c271 (by decide)
                                          · refine B.iconst 275 rfl (1 : Int32) at_274 rfl ?_
                                            refine B.goto 279 rfl (by decide) at_275 ?_
                                            refine B.istore 281 rfl at_279 #[.val (.int p1), .val (.int p2), .val (.int p3), .val (.int p4), .val (.int (2 : Int32)), .val (.int (2 : Int32)), .val (.int (0 : Int32)), .val (.int (2 : Int32)), .val (.int (10 : Int32)), .val (.ref d), .val (.ref r), .val (.ref sq), .val (.int (1 : Int32))] rfl ?_
                                            refine B.iload 283 rfl at_281 rfl ?_
                                            refine B.retN (by simp) at_283 (by decide) (by decide) ?_
                                            exact rfl
                                        · exact absurd c263 (by decide)
                            · exact absurd c199 (by decide)
                          · exact absurd c188 (by decide)
                      · rcases hrr with rfl | rfl | rfl
                        · refine B.iload 187 rfl at_185 rfl ?_
                          refine B.iconst 188 rfl (1 : Int32) at_187 rfl ?_
                          refine B.icmp_lt 196 191 rfl (by decide) rfl at_188 (fun c188 => ?_) (fun c188 => ?_)
                          · exact absurd c188 (by decide)
                          · refine B.aload 193 rfl at_191 rfl rfl ?_
                            refine B.callVW 196 rfl at_193 (wd hw 66 rfl) (wd hw 67 rfl) (wd hw 69 rfl) (wd hw 68 rfl) (wd hw 8 rfl) (wd hw 70 rfl) (by decide) E_s [] [] (rm_rn l Z a0 hw sq d (2 : Int32) (3 : Int32) (4 : Int32) (6 : Int32) (5 : Int32) (0 : Int32) 2 3 [(.int (48 : Int32)), (.int (4 : Int32)), (.int (5 : Int32)), (.int (0 : Int32)), (.int (5 : Int32)), (.int (0 : Int32)), (.int (5 : Int32)), (.int (0 : Int32)), (.int (5 : Int32)), (.int (0 : Int32))] h_s E_s n_d_sq Fd_s Fp_s Fn_s A_d3 (by decide) (by decide) (by decide) rfl (by decide) (by decide) (by decide) (by decide) (by decide) rfl (by decide) (by decide) (by decide) (by decide)) rfl rfl pd___V rfl rfl 0 rfl (by decide) (by decide) (by decide) (by decide) (fun x z => Or.inr (by cases List.mem_singleton.mp z; exact g_s0)) ?_
                            rintro _ h_n70 K_n70 ⟨rfl, Fd_n70, Fp_n70, Fn_n70, A_n70⟩
                            show B.G h_n70 7 72 (mkF m 196 #[.val (.int p1), .val (.int p2), .val (.int p3), .val (.int p4), .val (.int (2 : Int32)), .val (.int (2 : Int32)), .val (.int (1 : Int32)), .val (.int (0 : Int32)), .val (.int (10 : Int32)), .val (.ref d), .val (.ref r), .val (.ref sq), .val (.int (1 : Int32))] [])
                            have A_d_11 := A_d3.keep K_n70 (ninS n_d_sq nin0)
                            have E_r_11 := E_r_10.keep K_n70
                            have Fd_r_11 := Fd_r3.keep K_n70 (ninS n_r_sq nin0)
                            have Fp_r_11 := Fp_r3.keep K_n70 (ninS n_r_sq nin0)
                            have Fn_r_11 := Fn_r3.keep K_n70 (ninS n_r_sq nin0)
                            have E_sq_11 := E_s.keep K_n70
                            refine B.iload 198 rfl at_196 rfl ?_
                            refine B.iconst 199 rfl (2 : Int32) at_198 rfl ?_
                            refine B.icmp_lt 207 202 rfl (by decide) rfl at_199 (fun c199 => ?_) (fun c199 => ?_)
                            · refine B.iload 209 rfl at_207 rfl ?_
                              refine B.iconst 210 rfl (1 : Int32) at_209 rfl ?_
                              refine B.icmp_lt 218 213 rfl (by decide) rfl at_210 (fun c210 => ?_) (fun c210 => ?_)
                              · refine B.iload 220 rfl at_218 rfl ?_
                                refine B.iconst 221 rfl (2 : Int32) at_220 rfl ?_
                                refine B.icmp_lt 229 224 rfl (by decide) rfl at_221 (fun c221 => ?_) (fun c221 => ?_)
                                · refine B.iload 231 rfl at_229 rfl ?_
                                  refine B.if0_eq 278 234 rfl (by decide) rfl at_231 (fun c231 => ?_) (fun c231 => ?_)
                                  · exact absurd c231 (by decide)
                                  · refine B.aload 236 rfl at_234 rfl rfl ?_
                                    refine B.callV 239 rfl at_236 (wd hw 61 rfl) (wd hw 62 rfl) (wd hw 64 rfl) (wd hw 63 rfl) (wd hw 8 rfl) (wd hw 65 rfl) (by decide) E_sq_11 [] [] (rm_hm1 l Z a0 hw sq d (4 : Int32) (6 : Int32) h_n70 Fd_n70 Fp_n70 Fn_n70 (by decide)) rfl rfl pd___Z rfl rfl 0 rfl (by decide) (by decide) (by decide) (by decide) (fun _ q => nomatch q) ?_
                                    rintro _ _ - ⟨rfl, rfl⟩
                                    show B.G h_n70 7 72 (mkF m 239 #[.val (.int p1), .val (.int p2), .val (.int p3), .val (.int p4), .val (.int (2 : Int32)), .val (.int (2 : Int32)), .val (.int (1 : Int32)), .val (.int (0 : Int32)), .val (.int (10 : Int32)), .val (.ref d), .val (.ref r), .val (.ref sq), .val (.int (1 : Int32))] [(.int (1 : Int32))])
                                    refine B.iload 241 rfl at_239 rfl ?_
                                    refine B.iload 243 rfl at_241 rfl ?_
                                    refine B.icmp_ge 250 246 rfl (by decide) rfl at_243 (fun c243 => ?_) (fun c243 => ?_)
                                    · exact absurd c243 (by decide)
                                    · refine B.iconst 247 rfl (1 : Int32) at_246 rfl ?_
                                      refine B.goto 251 rfl (by decide) at_247 ?_
                                      refine B.icmp_ne 278 254 rfl (by decide) rfl at_251 (fun c251 => ?_) (fun c251 => ?_)
                                      · exact absurd c251 (by decide)
                                      · refine B.aload 256 rfl at_254 rfl rfl ?_
                                        refine B.callV 259 rfl at_256 (wd hw 61 rfl) (wd hw 62 rfl) (wd hw 64 rfl) (wd hw 63 rfl) (wd hw 8 rfl) (wd hw 65 rfl) (by decide) E_r_11 [] [] (rm_hm1 l Z a0 hw r d (6 : Int32) (10 : Int32) h_n70 Fd_r_11 Fp_r_11 Fn_r_11 (by decide)) rfl rfl pd___Z rfl rfl 0 rfl (by decide) (by decide) (by decide) (by decide) (fun _ q => nomatch q) ?_
                                        rintro _ _ - ⟨rfl, rfl⟩
                                        show B.G h_n70 7 72 (mkF m 259 #[.val (.int p1), .val (.int p2), .val (.int p3), .val (.int p4), .val (.int (2 : Int32)), .val (.int (2 : Int32)), .val (.int (1 : Int32)), .val (.int (0 : Int32)), .val (.int (10 : Int32)), .val (.ref d), .val (.ref r), .val (.ref sq), .val (.int (1 : Int32))] [(.int (1 : Int32))])
                                        refine B.iload 261 rfl at_259 rfl ?_
                                        refine B.iload 263 rfl at_261 rfl ?_
                                        refine B.icmp_ge 270 266 rfl (by decide) rfl at_263 (fun c263 => ?_) (fun c263 => ?_)
                                        · exact absurd c263 (by decide)
                                        · refine B.iconst 267 rfl (1 : Int32) at_266 rfl ?_
                                          refine B.goto 271 rfl (by decide) at_267 ?_
                                          refine B.icmp_ne 278 274 rfl (by decide) rfl at_271 (fun c271 => ?_) (fun c271 => ?_)
                                          · exact absurd c271 (by decide)
                                          · refine B.iconst 275 rfl (1 : Int32) at_274 rfl ?_
                                            refine B.goto 279 rfl (by decide) at_275 ?_
                                            refine B.istore 281 rfl at_279 #[.val (.int p1), .val (.int p2), .val (.int p3), .val (.int p4), .val (.int (2 : Int32)), .val (.int (2 : Int32)), .val (.int (1 : Int32)), .val (.int (0 : Int32)), .val (.int (10 : Int32)), .val (.ref d), .val (.ref r), .val (.ref sq), .val (.int (1 : Int32))] rfl ?_
                                            refine B.iload 283 rfl at_281 rfl ?_
                                            refine B.retN (by simp) at_283 (by decide) (by decide) ?_
                                            exact rfl
                                · exact absurd c221 (by decide)
                              · exact absurd c210 (by decide)
                            · exact absurd c199 (by decide)
                        · refine B.iload 187 rfl at_185 rfl ?_
                          refine B.iconst 188 rfl (1 : Int32) at_187 rfl ?_
                          refine B.icmp_lt 196 191 rfl (by decide) rfl at_188 (fun c188 => ?_) (fun c188 => ?_)
                          · exact absurd c188 (by decide)
                          · refine B.aload 193 rfl at_191 rfl rfl ?_
                            refine B.callVW 196 rfl at_193 (wd hw 66 rfl) (wd hw 67 rfl) (wd hw 69 rfl) (wd hw 68 rfl) (wd hw 8 rfl) (wd hw 70 rfl) (by decide) E_s [] [] (rm_rn l Z a0 hw sq d (2 : Int32) (3 : Int32) (4 : Int32) (6 : Int32) (5 : Int32) (0 : Int32) 2 3 [(.int (48 : Int32)), (.int (4 : Int32)), (.int (5 : Int32)), (.int (0 : Int32)), (.int (5 : Int32)), (.int (0 : Int32)), (.int (5 : Int32)), (.int (0 : Int32)), (.int (5 : Int32)), (.int (0 : Int32))] h_s E_s n_d_sq Fd_s Fp_s Fn_s A_d3 (by decide) (by decide) (by decide) rfl (by decide) (by decide) (by decide) (by decide) (by decide) rfl (by decide) (by decide) (by decide) (by decide)) rfl rfl pd___V rfl rfl 0 rfl (by decide) (by decide) (by decide) (by decide) (fun x z => Or.inr (by cases List.mem_singleton.mp z; exact g_s0)) ?_
                            rintro _ h_n71 K_n71 ⟨rfl, Fd_n71, Fp_n71, Fn_n71, A_n71⟩
                            show B.G h_n71 7 72 (mkF m 196 #[.val (.int p1), .val (.int p2), .val (.int p3), .val (.int p4), .val (.int (2 : Int32)), .val (.int (2 : Int32)), .val (.int (1 : Int32)), .val (.int (1 : Int32)), .val (.int (10 : Int32)), .val (.ref d), .val (.ref r), .val (.ref sq), .val (.int (1 : Int32))] [])
                            have A_d_11 := A_d3.keep K_n71 (ninS n_d_sq nin0)
                            have E_r_11 := E_r_10.keep K_n71
                            have Fd_r_11 := Fd_r3.keep K_n71 (ninS n_r_sq nin0)
                            have Fp_r_11 := Fp_r3.keep K_n71 (ninS n_r_sq nin0)
                            have Fn_r_11 := Fn_r3.keep K_n71 (ninS n_r_sq nin0)
                            have E_sq_11 := E_s.keep K_n71
                            refine B.iload 198 rfl at_196 rfl ?_
                            refine B.iconst 199 rfl (2 : Int32) at_198 rfl ?_
                            refine B.icmp_lt 207 202 rfl (by decide) rfl at_199 (fun c199 => ?_) (fun c199 => ?_)
                            · refine B.iload 209 rfl at_207 rfl ?_
                              refine B.iconst 210 rfl (1 : Int32) at_209 rfl ?_
                              refine B.icmp_lt 218 213 rfl (by decide) rfl at_210 (fun c210 => ?_) (fun c210 => ?_)
                              · exact absurd c210 (by decide)
                              · refine B.aload 215 rfl at_213 rfl rfl ?_
                                refine B.callVW 218 rfl at_215 (wd hw 66 rfl) (wd hw 67 rfl) (wd hw 69 rfl) (wd hw 68 rfl) (wd hw 8 rfl) (wd hw 70 rfl) (by decide) E_r_11 [] [] (rm_rn l Z a0 hw r d (6 : Int32) (7 : Int32) (8 : Int32) (10 : Int32) (5 : Int32) (0 : Int32) 6 7 [(.int (48 : Int32)), (.int (4 : Int32)), (.int (5 : Int32)), (.int (0 : Int32)), (.int (5 : Int32)), (.int (0 : Int32)), (.int (5 : Int32)), (.int (0 : Int32)), (.int (5 : Int32)), (.int (0 : Int32))] h_n71 E_r_11 n_d_r Fd_r_11 Fp_r_11 Fn_r_11 A_n71 (by decide) (by decide) (by decide) rfl (by decide) (by decide) (by decide) (by decide) (by decide) rfl (by decide) (by decide) (by decide) (by decide)) rfl rfl pd___V rfl rfl 0 rfl (by decide) (by decide) (by decide) (by decide) (fun x z => Or.inr (by cases List.mem_singleton.mp z; exact g_r)) ?_
                                rintro _ h_n72 K_n72 ⟨rfl, Fd_n72, Fp_n72, Fn_n72, A_n72⟩
                                show B.G h_n72 9 92 (mkF m 218 #[.val (.int p1), .val (.int p2), .val (.int p3), .val (.int p4), .val (.int (2 : Int32)), .val (.int (2 : Int32)), .val (.int (1 : Int32)), .val (.int (1 : Int32)), .val (.int (10 : Int32)), .val (.ref d), .val (.ref r), .val (.ref sq), .val (.int (1 : Int32))] [])
                                have A_d_12 := A_n71.keep K_n72 (ninS n_d_r nin0)
                                have E_r_12 := E_r_11.keep K_n72
                                have E_sq_12 := E_sq_11.keep K_n72
                                have Fd_sq_12 := Fd_n71.keep K_n72 (ninS (Ne.symm n_r_sq) nin0)
                                have Fp_sq_12 := Fp_n71.keep K_n72 (ninS (Ne.symm n_r_sq) nin0)
                                have Fn_sq_12 := Fn_n71.keep K_n72 (ninS (Ne.symm n_r_sq) nin0)
                                refine B.iload 220 rfl at_218 rfl ?_
                                refine B.iconst 221 rfl (2 : Int32) at_220 rfl ?_
                                refine B.icmp_lt 229 224 rfl (by decide) rfl at_221 (fun c221 => ?_) (fun c221 => ?_)
                                · refine B.iload 231 rfl at_229 rfl ?_
                                  refine B.if0_eq 278 234 rfl (by decide) rfl at_231 (fun c231 => ?_) (fun c231 => ?_)
                                  · exact absurd c231 (by decide)
                                  · refine B.aload 236 rfl at_234 rfl rfl ?_
                                    refine B.callV 239 rfl at_236 (wd hw 61 rfl) (wd hw 62 rfl) (wd hw 64 rfl) (wd hw 63 rfl) (wd hw 8 rfl) (wd hw 65 rfl) (by decide) E_sq_12 [] [] (rm_hm1 l Z a0 hw sq d (4 : Int32) (6 : Int32) h_n72 Fd_sq_12 Fp_sq_12 Fn_sq_12 (by decide)) rfl rfl pd___Z rfl rfl 0 rfl (by decide) (by decide) (by decide) (by decide) (fun _ q => nomatch q) ?_
                                    rintro _ _ - ⟨rfl, rfl⟩
                                    show B.G h_n72 9 92 (mkF m 239 #[.val (.int p1), .val (.int p2), .val (.int p3), .val (.int p4), .val (.int (2 : Int32)), .val (.int (2 : Int32)), .val (.int (1 : Int32)), .val (.int (1 : Int32)), .val (.int (10 : Int32)), .val (.ref d), .val (.ref r), .val (.ref sq), .val (.int (1 : Int32))] [(.int (1 : Int32))])
                                    refine B.iload 241 rfl at_239 rfl ?_
                                    refine B.iload 243 rfl at_241 rfl ?_
                                    refine B.icmp_ge 250 246 rfl (by decide) rfl at_243 (fun c243 => ?_) (fun c243 => ?_)
                                    · exact absurd c243 (by decide)
                                    · refine B.iconst 247 rfl (1 : Int32) at_246 rfl ?_
                                      refine B.goto 251 rfl (by decide) at_247 ?_
                                      refine B.icmp_ne 278 254 rfl (by decide) rfl at_251 (fun c251 => ?_) (fun c251 => ?_)
                                      · exact absurd c251 (by decide)
                                      · refine B.aload 256 rfl at_254 rfl rfl ?_
                                        refine B.callV 259 rfl at_256 (wd hw 61 rfl) (wd hw 62 rfl) (wd hw 64 rfl) (wd hw 63 rfl) (wd hw 8 rfl) (wd hw 65 rfl) (by decide) E_r_12 [] [] (rm_hm1 l Z a0 hw r d (8 : Int32) (10 : Int32) h_n72 Fd_n72 Fp_n72 Fn_n72 (by decide)) rfl rfl pd___Z rfl rfl 0 rfl (by decide) (by decide) (by decide) (by decide) (fun _ q => nomatch q) ?_
                                        rintro _ _ - ⟨rfl, rfl⟩
                                        show B.G h_n72 9 92 (mkF m 259 #[.val (.int p1), .val (.int p2), .val (.int p3), .val (.int p4), .val (.int (2 : Int32)), .val (.int (2 : Int32)), .val (.int (1 : Int32)), .val (.int (1 : Int32)), .val (.int (10 : Int32)), .val (.ref d), .val (.ref r), .val (.ref sq), .val (.int (1 : Int32))] [(.int (1 : Int32))])
                                        refine B.iload 261 rfl at_259 rfl ?_
                                        refine B.iload 263 rfl at_261 rfl ?_
                                        refine B.icmp_ge 270 266 rfl (by decide) rfl at_263 (fun c263 => ?_) (fun c263 => ?_)
                                        · exact absurd c263 (by decide)
                                        · refine B.iconst 267 rfl (1 : Int32) at_266 rfl ?_
                                          refine B.goto 271 rfl (by decide) at_267 ?_
                                          refine B.icmp_ne 278 274 rfl (by decide) rfl at_271 (fun c271 => ?_) (fun c271 => ?_)
                                          · exact absurd c271 (by decide)
                                          · refine B.iconst 275 rfl (1 : Int32) at_274 rfl ?_
                                            refine B.goto 279 rfl (by decide) at_275 ?_
                                            refine B.istore 281 rfl at_279 #[.val (.int p1), .val (.int p2), .val (.int p3), .val (.int p4), .val (.int (2 : Int32)), .val (.int (2 : Int32)), .val (.int (1 : Int32)), .val (.int (1 : Int32)), .val (.int (10 : Int32)), .val (.ref d), .val (.ref r), .val (.ref sq), .val (.int (1 : Int32))] rfl ?_
                                            refine B.iload 283 rfl at_281 rfl ?_
                                            refine B.retN (by simp) at_283 (by decide) (by decide) ?_
                                            exact rfl
                                · exact absurd c221 (by decide)
                            · exact absurd c199 (by decide)
                        · refine B.iload 187 rfl at_185 rfl ?_
                          refine B.iconst 188 rfl (1 : Int32) at_187 rfl ?_
                          refine B.icmp_lt 196 191 rfl (by decide) rfl at_188 (fun c188 => ?_) (fun c188 => ?_)
                          · exact absurd c188 (by decide)
                          · refine B.aload 193 rfl at_191 rfl rfl ?_
                            refine B.callVW 196 rfl at_193 (wd hw 66 rfl) (wd hw 67 rfl) (wd hw 69 rfl) (wd hw 68 rfl) (wd hw 8 rfl) (wd hw 70 rfl) (by decide) E_s [] [] (rm_rn l Z a0 hw sq d (2 : Int32) (3 : Int32) (4 : Int32) (6 : Int32) (5 : Int32) (0 : Int32) 2 3 [(.int (48 : Int32)), (.int (4 : Int32)), (.int (5 : Int32)), (.int (0 : Int32)), (.int (5 : Int32)), (.int (0 : Int32)), (.int (5 : Int32)), (.int (0 : Int32)), (.int (5 : Int32)), (.int (0 : Int32))] h_s E_s n_d_sq Fd_s Fp_s Fn_s A_d3 (by decide) (by decide) (by decide) rfl (by decide) (by decide) (by decide) (by decide) (by decide) rfl (by decide) (by decide) (by decide) (by decide)) rfl rfl pd___V rfl rfl 0 rfl (by decide) (by decide) (by decide) (by decide) (fun x z => Or.inr (by cases List.mem_singleton.mp z; exact g_s0)) ?_
                            rintro _ h_n73 K_n73 ⟨rfl, Fd_n73, Fp_n73, Fn_n73, A_n73⟩
                            show B.G h_n73 7 72 (mkF m 196 #[.val (.int p1), .val (.int p2), .val (.int p3), .val (.int p4), .val (.int (2 : Int32)), .val (.int (2 : Int32)), .val (.int (1 : Int32)), .val (.int (2 : Int32)), .val (.int (10 : Int32)), .val (.ref d), .val (.ref r), .val (.ref sq), .val (.int (1 : Int32))] [])
                            have A_d_11 := A_d3.keep K_n73 (ninS n_d_sq nin0)
                            have E_r_11 := E_r_10.keep K_n73
                            have Fd_r_11 := Fd_r3.keep K_n73 (ninS n_r_sq nin0)
                            have Fp_r_11 := Fp_r3.keep K_n73 (ninS n_r_sq nin0)
                            have Fn_r_11 := Fn_r3.keep K_n73 (ninS n_r_sq nin0)
                            have E_sq_11 := E_s.keep K_n73
                            refine B.iload 198 rfl at_196 rfl ?_
                            refine B.iconst 199 rfl (2 : Int32) at_198 rfl ?_
                            refine B.icmp_lt 207 202 rfl (by decide) rfl at_199 (fun c199 => ?_) (fun c199 => ?_)
                            · refine B.iload 209 rfl at_207 rfl ?_
                              refine B.iconst 210 rfl (1 : Int32) at_209 rfl ?_
                              refine B.icmp_lt 218 213 rfl (by decide) rfl at_210 (fun c210 => ?_) (fun c210 => ?_)
                              · exact absurd c210 (by decide)
                              · refine B.aload 215 rfl at_213 rfl rfl ?_
                                refine B.callVW 218 rfl at_215 (wd hw 66 rfl) (wd hw 67 rfl) (wd hw 69 rfl) (wd hw 68 rfl) (wd hw 8 rfl) (wd hw 70 rfl) (by decide) E_r_11 [] [] (rm_rn l Z a0 hw r d (6 : Int32) (7 : Int32) (8 : Int32) (10 : Int32) (5 : Int32) (0 : Int32) 6 7 [(.int (48 : Int32)), (.int (4 : Int32)), (.int (5 : Int32)), (.int (0 : Int32)), (.int (5 : Int32)), (.int (0 : Int32)), (.int (5 : Int32)), (.int (0 : Int32)), (.int (5 : Int32)), (.int (0 : Int32))] h_n73 E_r_11 n_d_r Fd_r_11 Fp_r_11 Fn_r_11 A_n73 (by decide) (by decide) (by decide) rfl (by decide) (by decide) (by decide) (by decide) (by decide) rfl (by decide) (by decide) (by decide) (by decide)) rfl rfl pd___V rfl rfl 0 rfl (by decide) (by decide) (by decide) (by decide) (fun x z => Or.inr (by cases List.mem_singleton.mp z; exact g_r)) ?_
                                rintro _ h_n74 K_n74 ⟨rfl, Fd_n74, Fp_n74, Fn_n74, A_n74⟩
                                show B.G h_n74 9 92 (mkF m 218 #[.val (.int p1), .val (.int p2), .val (.int p3), .val (.int p4), .val (.int (2 : Int32)), .val (.int (2 : Int32)), .val (.int (1 : Int32)), .val (.int (2 : Int32)), .val (.int (10 : Int32)), .val (.ref d), .val (.ref r), .val (.ref sq), .val (.int (1 : Int32))] [])
                                have A_d_12 := A_n73.keep K_n74 (ninS n_d_r nin0)
                                have E_r_12 := E_r_11.keep K_n74
                                have E_sq_12 := E_sq_11.keep K_n74
                                have Fd_sq_12 := Fd_n73.keep K_n74 (ninS (Ne.symm n_r_sq) nin0)
                                have Fp_sq_12 := Fp_n73.keep K_n74 (ninS (Ne.symm n_r_sq) nin0)
                                have Fn_sq_12 := Fn_n73.keep K_n74 (ninS (Ne.symm n_r_sq) nin0)
                                refine B.iload 220 rfl at_218 rfl ?_
                                refine B.iconst 221 rfl (2 : Int32) at_220 rfl ?_
                                refine B.icmp_lt 229 224 rfl (by decide) rfl at_221 (fun c221 => ?_) (fun c221 => ?_)
                                · exact absurd c221 (by decide)
                                · refine B.aload 226 rfl at_224 rfl rfl ?_
                                  refine B.callVW 229 rfl at_226 (wd hw 66 rfl) (wd hw 67 rfl) (wd hw 69 rfl) (wd hw 68 rfl) (wd hw 8 rfl) (wd hw 70 rfl) (by decide) E_r_12 [] [] (rm_rn l Z a0 hw r d (8 : Int32) (9 : Int32) (10 : Int32) (10 : Int32) (5 : Int32) (0 : Int32) 8 9 [(.int (48 : Int32)), (.int (4 : Int32)), (.int (5 : Int32)), (.int (0 : Int32)), (.int (5 : Int32)), (.int (0 : Int32)), (.int (5 : Int32)), (.int (0 : Int32)), (.int (5 : Int32)), (.int (0 : Int32))] h_n74 E_r_12 n_d_r Fd_n74 Fp_n74 Fn_n74 A_n74 (by decide) (by decide) (by decide) rfl (by decide) (by decide) (by decide) (by decide) (by decide) rfl (by decide) (by decide) (by decide) (by decide)) rfl rfl pd___V rfl rfl 0 rfl (by decide) (by decide) (by decide) (by decide) (fun x z => Or.inr (by cases List.mem_singleton.mp z; exact g_r)) ?_
                                  rintro _ h_n75 K_n75 ⟨rfl, Fd_n75, Fp_n75, Fn_n75, A_n75⟩
                                  show B.G h_n75 11 112 (mkF m 229 #[.val (.int p1), .val (.int p2), .val (.int p3), .val (.int p4), .val (.int (2 : Int32)), .val (.int (2 : Int32)), .val (.int (1 : Int32)), .val (.int (2 : Int32)), .val (.int (10 : Int32)), .val (.ref d), .val (.ref r), .val (.ref sq), .val (.int (1 : Int32))] [])
                                  have A_d_13 := A_n74.keep K_n75 (ninS n_d_r nin0)
                                  have E_r_13 := E_r_12.keep K_n75
                                  have E_sq_13 := E_sq_12.keep K_n75
                                  have Fd_sq_13 := Fd_sq_12.keep K_n75 (ninS (Ne.symm n_r_sq) nin0)
                                  have Fp_sq_13 := Fp_sq_12.keep K_n75 (ninS (Ne.symm n_r_sq) nin0)
                                  have Fn_sq_13 := Fn_sq_12.keep K_n75 (ninS (Ne.symm n_r_sq) nin0)
                                  refine B.iload 231 rfl at_229 rfl ?_
                                  refine B.if0_eq 278 234 rfl (by decide) rfl at_231 (fun c231 => ?_) (fun c231 => ?_)
                                  · exact absurd c231 (by decide)
                                  · refine B.aload 236 rfl at_234 rfl rfl ?_
                                    refine B.callV 239 rfl at_236 (wd hw 61 rfl) (wd hw 62 rfl) (wd hw 64 rfl) (wd hw 63 rfl) (wd hw 8 rfl) (wd hw 65 rfl) (by decide) E_sq_13 [] [] (rm_hm1 l Z a0 hw sq d (4 : Int32) (6 : Int32) h_n75 Fd_sq_13 Fp_sq_13 Fn_sq_13 (by decide)) rfl rfl pd___Z rfl rfl 0 rfl (by decide) (by decide) (by decide) (by decide) (fun _ q => nomatch q) ?_
                                    rintro _ _ - ⟨rfl, rfl⟩
                                    show B.G h_n75 11 112 (mkF m 239 #[.val (.int p1), .val (.int p2), .val (.int p3), .val (.int p4), .val (.int (2 : Int32)), .val (.int (2 : Int32)), .val (.int (1 : Int32)), .val (.int (2 : Int32)), .val (.int (10 : Int32)), .val (.ref d), .val (.ref r), .val (.ref sq), .val (.int (1 : Int32))] [(.int (1 : Int32))])
                                    refine B.iload 241 rfl at_239 rfl ?_
                                    refine B.iload 243 rfl at_241 rfl ?_
                                    refine B.icmp_ge 250 246 rfl (by decide) rfl at_243 (fun c243 => ?_) (fun c243 => ?_)
                                    · exact absurd c243 (by decide)
                                    · refine B.iconst 247 rfl (1 : Int32) at_246 rfl ?_
                                      refine B.goto 251 rfl (by decide) at_247 ?_
                                      refine B.icmp_ne 278 254 rfl (by decide) rfl at_251 (fun c251 => ?_) (fun c251 => ?_)
                                      · exact absurd c251 (by decide)
                                      · refine B.aload 256 rfl at_254 rfl rfl ?_
                                        refine B.callV 259 rfl at_256 (wd hw 61 rfl) (wd hw 62 rfl) (wd hw 64 rfl) (wd hw 63 rfl) (wd hw 8 rfl) (wd hw 65 rfl) (by decide) E_r_13 [] [] (rm_hm0 l Z a0 hw r d (10 : Int32) (10 : Int32) h_n75 Fd_n75 Fp_n75 Fn_n75 (by decide)) rfl rfl pd___Z rfl rfl 0 rfl (by decide) (by decide) (by decide) (by decide) (fun _ q => nomatch q) ?_
                                        rintro _ _ - ⟨rfl, rfl⟩
                                        show B.G h_n75 11 112 (mkF m 259 #[.val (.int p1), .val (.int p2), .val (.int p3), .val (.int p4), .val (.int (2 : Int32)), .val (.int (2 : Int32)), .val (.int (1 : Int32)), .val (.int (2 : Int32)), .val (.int (10 : Int32)), .val (.ref d), .val (.ref r), .val (.ref sq), .val (.int (1 : Int32))] [(.int (0 : Int32))])
                                        refine B.iload 261 rfl at_259 rfl ?_
                                        refine B.iload 263 rfl at_261 rfl ?_
                                        refine B.icmp_ge 270 266 rfl (by decide) rfl at_263 (fun c263 => ?_) (fun c263 => ?_)
                                        · refine B.iconst 271 rfl (0 : Int32) at_270 rfl ?_
                                          refine B.icmp_ne 278 274 rfl (by decide) rfl at_271 (fun c271 => ?_) (fun c271 => ?_)
                                          · exact absurd c271 (by decide)
                                          · refine B.iconst 275 rfl (1 : Int32) at_274 rfl ?_
                                            refine B.goto 279 rfl (by decide) at_275 ?_
                                            refine B.istore 281 rfl at_279 #[.val (.int p1), .val (.int p2), .val (.int p3), .val (.int p4), .val (.int (2 : Int32)), .val (.int (2 : Int32)), .val (.int (1 : Int32)), .val (.int (2 : Int32)), .val (.int (10 : Int32)), .val (.ref d), .val (.ref r), .val (.ref sq), .val (.int (1 : Int32))] rfl ?_
                                            refine B.iload 283 rfl at_281 rfl ?_
                                            refine B.retN (by simp) at_283 (by decide) (by decide) ?_
                                            exact rfl
                                        · exact absurd c263 (by decide)
                            · exact absurd c199 (by decide)
                      · rcases hrr with rfl | rfl | rfl
                        · refine B.iload 187 rfl at_185 rfl ?_
                          refine B.iconst 188 rfl (1 : Int32) at_187 rfl ?_
                          refine B.icmp_lt 196 191 rfl (by decide) rfl at_188 (fun c188 => ?_) (fun c188 => ?_)
                          · exact absurd c188 (by decide)
                          · refine B.aload 193 rfl at_191 rfl rfl ?_
                            refine B.callVW 196 rfl at_193 (wd hw 66 rfl) (wd hw 67 rfl) (wd hw 69 rfl) (wd hw 68 rfl) (wd hw 8 rfl) (wd hw 70 rfl) (by decide) E_s [] [] (rm_rn l Z a0 hw sq d (2 : Int32) (3 : Int32) (4 : Int32) (6 : Int32) (5 : Int32) (0 : Int32) 2 3 [(.int (48 : Int32)), (.int (4 : Int32)), (.int (5 : Int32)), (.int (0 : Int32)), (.int (5 : Int32)), (.int (0 : Int32)), (.int (5 : Int32)), (.int (0 : Int32)), (.int (5 : Int32)), (.int (0 : Int32))] h_s E_s n_d_sq Fd_s Fp_s Fn_s A_d3 (by decide) (by decide) (by decide) rfl (by decide) (by decide) (by decide) (by decide) (by decide) rfl (by decide) (by decide) (by decide) (by decide)) rfl rfl pd___V rfl rfl 0 rfl (by decide) (by decide) (by decide) (by decide) (fun x z => Or.inr (by cases List.mem_singleton.mp z; exact g_s0)) ?_
                            rintro _ h_n76 K_n76 ⟨rfl, Fd_n76, Fp_n76, Fn_n76, A_n76⟩
                            show B.G h_n76 7 72 (mkF m 196 #[.val (.int p1), .val (.int p2), .val (.int p3), .val (.int p4), .val (.int (2 : Int32)), .val (.int (2 : Int32)), .val (.int (2 : Int32)), .val (.int (0 : Int32)), .val (.int (10 : Int32)), .val (.ref d), .val (.ref r), .val (.ref sq), .val (.int (1 : Int32))] [])
                            have A_d_11 := A_d3.keep K_n76 (ninS n_d_sq nin0)
                            have E_r_11 := E_r_10.keep K_n76
                            have Fd_r_11 := Fd_r3.keep K_n76 (ninS n_r_sq nin0)
                            have Fp_r_11 := Fp_r3.keep K_n76 (ninS n_r_sq nin0)
                            have Fn_r_11 := Fn_r3.keep K_n76 (ninS n_r_sq nin0)
                            have E_sq_11 := E_s.keep K_n76
                            refine B.iload 198 rfl at_196 rfl ?_
                            refine B.iconst 199 rfl (2 : Int32) at_198 rfl ?_
                            refine B.icmp_lt 207 202 rfl (by decide) rfl at_199 (fun c199 => ?_) (fun c199 => ?_)
                            · exact absurd c199 (by decide)
                            · refine B.aload 204 rfl at_202 rfl rfl ?_
                              refine B.callVW 207 rfl at_204 (wd hw 66 rfl) (wd hw 67 rfl) (wd hw 69 rfl) (wd hw 68 rfl) (wd hw 8 rfl) (wd hw 70 rfl) (by decide) E_sq_11 [] [] (rm_rn l Z a0 hw sq d (4 : Int32) (5 : Int32) (6 : Int32) (6 : Int32) (5 : Int32) (0 : Int32) 4 5 [(.int (48 : Int32)), (.int (4 : Int32)), (.int (5 : Int32)), (.int (0 : Int32)), (.int (5 : Int32)), (.int (0 : Int32)), (.int (5 : Int32)), (.int (0 : Int32)), (.int (5 : Int32)), (.int (0 : Int32))] h_n76 E_sq_11 n_d_sq Fd_n76 Fp_n76 Fn_n76 A_n76 (by decide) (by decide) (by decide) rfl (by decide) (by decide) (by decide) (by decide) (by decide) rfl (by decide) (by decide) (by decide) (by decide)) rfl rfl pd___V rfl rfl 0 rfl (by decide) (by decide) (by decide) (by decide) (fun x z => Or.inr (by cases List.mem_singleton.mp z; exact g_s0)) ?_
                              rintro _ h_n77 K_n77 ⟨rfl, Fd_n77, Fp_n77, Fn_n77, A_n77⟩
                              show B.G h_n77 9 92 (mkF m 207 #[.val (.int p1), .val (.int p2), .val (.int p3), .val (.int p4), .val (.int (2 : Int32)), .val (.int (2 : Int32)), .val (.int (2 : Int32)), .val (.int (0 : Int32)), .val (.int (10 : Int32)), .val (.ref d), .val (.ref r), .val (.ref sq), .val (.int (1 : Int32))] [])
                              have A_d_12 := A_n76.keep K_n77 (ninS n_d_sq nin0)
                              have E_r_12 := E_r_11.keep K_n77
                              have Fd_r_12 := Fd_r_11.keep K_n77 (ninS n_r_sq nin0)
                              have Fp_r_12 := Fp_r_11.keep K_n77 (ninS n_r_sq nin0)
                              have Fn_r_12 := Fn_r_11.keep K_n77 (ninS n_r_sq nin0)
                              have E_sq_12 := E_sq_11.keep K_n77
                              refine B.iload 209 rfl at_207 rfl ?_
                              refine B.iconst 210 rfl (1 : Int32) at_209 rfl ?_
                              refine B.icmp_lt 218 213 rfl (by decide) rfl at_210 (fun c210 => ?_) (fun c210 => ?_)
                              · refine B.iload 220 rfl at_218 rfl ?_
                                refine B.iconst 221 rfl (2 : Int32) at_220 rfl ?_
                                refine B.icmp_lt 229 224 rfl (by decide) rfl at_221 (fun c221 => ?_) (fun c221 => ?_)
                                · refine B.iload 231 rfl at_229 rfl ?_
                                  refine B.if0_eq 278 234 rfl (by decide) rfl at_231 (fun c231 => ?_) (fun c231 => ?_)
                                  · exact absurd c231 (by decide)
                                  · refine B.aload 236 rfl at_234 rfl rfl ?_
                                    refine B.callV 239 rfl at_236 (wd hw 61 rfl) (wd hw 62 rfl) (wd hw 64 rfl) (wd hw 63 rfl) (wd hw 8 rfl) (wd hw 65 rfl) (by decide) E_sq_12 [] [] (rm_hm0 l Z a0 hw sq d (6 : Int32) (6 : Int32) h_n77 Fd_n77 Fp_n77 Fn_n77 (by decide)) rfl rfl pd___Z rfl rfl 0 rfl (by decide) (by decide) (by decide) (by decide) (fun _ q => nomatch q) ?_
                                    rintro _ _ - ⟨rfl, rfl⟩
                                    show B.G h_n77 9 92 (mkF m 239 #[.val (.int p1), .val (.int p2), .val (.int p3), .val (.int p4), .val (.int (2 : Int32)), .val (.int (2 : Int32)), .val (.int (2 : Int32)), .val (.int (0 : Int32)), .val (.int (10 : Int32)), .val (.ref d), .val (.ref r), .val (.ref sq), .val (.int (1 : Int32))] [(.int (0 : Int32))])
                                    refine B.iload 241 rfl at_239 rfl ?_
                                    refine B.iload 243 rfl at_241 rfl ?_
                                    refine B.icmp_ge 250 246 rfl (by decide) rfl at_243 (fun c243 => ?_) (fun c243 => ?_)
                                    · refine B.iconst 251 rfl (0 : Int32) at_250 rfl ?_
                                      refine B.icmp_ne 278 254 rfl (by decide) rfl at_251 (fun c251 => ?_) (fun c251 => ?_)
                                      · exact absurd c251 (by decide)
                                      · refine B.aload 256 rfl at_254 rfl rfl ?_
                                        refine B.callV 259 rfl at_256 (wd hw 61 rfl) (wd hw 62 rfl) (wd hw 64 rfl) (wd hw 63 rfl) (wd hw 8 rfl) (wd hw 65 rfl) (by decide) E_r_12 [] [] (rm_hm1 l Z a0 hw r d (6 : Int32) (10 : Int32) h_n77 Fd_r_12 Fp_r_12 Fn_r_12 (by decide)) rfl rfl pd___Z rfl rfl 0 rfl (by decide) (by decide) (by decide) (by decide) (fun _ q => nomatch q) ?_
                                        rintro _ _ - ⟨rfl, rfl⟩
                                        show B.G h_n77 9 92 (mkF m 259 #[.val (.int p1), .val (.int p2), .val (.int p3), .val (.int p4), .val (.int (2 : Int32)), .val (.int (2 : Int32)), .val (.int (2 : Int32)), .val (.int (0 : Int32)), .val (.int (10 : Int32)), .val (.ref d), .val (.ref r), .val (.ref sq), .val (.int (1 : Int32))] [(.int (1 : Int32))])
                                        refine B.iload 261 rfl at_259 rfl ?_
                                        refine B.iload 263 rfl at_261 rfl ?_
                                        refine B.icmp_ge 270 266 rfl (by decide) rfl at_263 (fun c263 => ?_) (fun c263 => ?_)
                                        · exact absurd c263 (by decide)
                                        · refine B.iconst 267 rfl (1 : Int32) at_266 rfl ?_
                                          refine B.goto 271 rfl (by decide) at_267 ?_
                                          refine B.icmp_ne 278 274 rfl (by decide) rfl at_271 (fun c271 => ?_) (fun c271 => ?_)
                                          · exact absurd c271 (by decide)
                                          · refine B.iconst 275 rfl (1 : Int32) at_274 rfl ?_
                                            refine B.goto 279 rfl (by decide) at_275 ?_
                                            refine B.istore 281 rfl at_279 #[.val (.int p1), .val (.int p2), .val (.int p3), .val (.int p4), .val (.int (2 : Int32)), .val (.int (2 : Int32)), .val (.int (2 : Int32)), .val (.int (0 : Int32)), .val (.int (10 : Int32)), .val (.ref d), .val (.ref r), .val (.ref sq), .val (.int (1 : Int32))] rfl ?_
                                            refine B.iload 283 rfl at_281 rfl ?_
                                            refine B.retN (by simp) at_283 (by decide) (by decide) ?_
                                            exact rfl
                                    · exact absurd c243 (by decide)
                                · exact absurd c221 (by decide)
                              · exact absurd c210 (by decide)
                        · refine B.iload 187 rfl at_185 rfl ?_
                          refine B.iconst 188 rfl (1 : Int32) at_187 rfl ?_
                          refine B.icmp_lt 196 191 rfl (by decide) rfl at_188 (fun c188 => ?_) (fun c188 => ?_)
                          · exact absurd c188 (by decide)
                          · refine B.aload 193 rfl at_191 rfl rfl ?_
                            refine B.callVW 196 rfl at_193 (wd hw 66 rfl) (wd hw 67 rfl) (wd hw 69 rfl) (wd hw 68 rfl) (wd hw 8 rfl) (wd hw 70 rfl) (by decide) E_s [] [] (rm_rn l Z a0 hw sq d (2 : Int32) (3 : Int32) (4 : Int32) (6 : Int32) (5 : Int32) (0 : Int32) 2 3 [(.int (48 : Int32)), (.int (4 : Int32)), (.int (5 : Int32)), (.int (0 : Int32)), (.int (5 : Int32)), (.int (0 : Int32)), (.int (5 : Int32)), (.int (0 : Int32)), (.int (5 : Int32)), (.int (0 : Int32))] h_s E_s n_d_sq Fd_s Fp_s Fn_s A_d3 (by decide) (by decide) (by decide) rfl (by decide) (by decide) (by decide) (by decide) (by decide) rfl (by decide) (by decide) (by decide) (by decide)) rfl rfl pd___V rfl rfl 0 rfl (by decide) (by decide) (by decide) (by decide) (fun x z => Or.inr (by cases List.mem_singleton.mp z; exact g_s0)) ?_
                            rintro _ h_n78 K_n78 ⟨rfl, Fd_n78, Fp_n78, Fn_n78, A_n78⟩
                            show B.G h_n78 7 72 (mkF m 196 #[.val (.int p1), .val (.int p2), .val (.int p3), .val (.int p4), .val (.int (2 : Int32)), .val (.int (2 : Int32)), .val (.int (2 : Int32)), .val (.int (1 : Int32)), .val (.int (10 : Int32)), .val (.ref d), .val (.ref r), .val (.ref sq), .val (.int (1 : Int32))] [])
                            have A_d_11 := A_d3.keep K_n78 (ninS n_d_sq nin0)
                            have E_r_11 := E_r_10.keep K_n78
                            have Fd_r_11 := Fd_r3.keep K_n78 (ninS n_r_sq nin0)
                            have Fp_r_11 := Fp_r3.keep K_n78 (ninS n_r_sq nin0)
                            have Fn_r_11 := Fn_r3.keep K_n78 (ninS n_r_sq nin0)
                            have E_sq_11 := E_s.keep K_n78
                            refine B.iload 198 rfl at_196 rfl ?_
                            refine B.iconst 199 rfl (2 : Int32) at_198 rfl ?_
                            refine B.icmp_lt 207 202 rfl (by decide) rfl at_199 (fun c199 => ?_) (fun c199 => ?_)
                            · exact absurd c199 (by decide)
                            · refine B.aload 204 rfl at_202 rfl rfl ?_
                              refine B.callVW 207 rfl at_204 (wd hw 66 rfl) (wd hw 67 rfl) (wd hw 69 rfl) (wd hw 68 rfl) (wd hw 8 rfl) (wd hw 70 rfl) (by decide) E_sq_11 [] [] (rm_rn l Z a0 hw sq d (4 : Int32) (5 : Int32) (6 : Int32) (6 : Int32) (5 : Int32) (0 : Int32) 4 5 [(.int (48 : Int32)), (.int (4 : Int32)), (.int (5 : Int32)), (.int (0 : Int32)), (.int (5 : Int32)), (.int (0 : Int32)), (.int (5 : Int32)), (.int (0 : Int32)), (.int (5 : Int32)), (.int (0 : Int32))] h_n78 E_sq_11 n_d_sq Fd_n78 Fp_n78 Fn_n78 A_n78 (by decide) (by decide) (by decide) rfl (by decide) (by decide) (by decide) (by decide) (by decide) rfl (by decide) (by decide) (by decide) (by decide)) rfl rfl pd___V rfl rfl 0 rfl (by decide) (by decide) (by decide) (by decide) (fun x z => Or.inr (by cases List.mem_singleton.mp z; exact g_s0)) ?_
                              rintro _ h_n79 K_n79 ⟨rfl, Fd_n79, Fp_n79, Fn_n79, A_n79⟩
                              show B.G h_n79 9 92 (mkF m 207 #[.val (.int p1), .val (.int p2), .val (.int p3), .val (.int p4), .val (.int (2 : Int32)), .val (.int (2 : Int32)), .val (.int (2 : Int32)), .val (.int (1 : Int32)), .val (.int (10 : Int32)), .val (.ref d), .val (.ref r), .val (.ref sq), .val (.int (1 : Int32))] [])
                              have A_d_12 := A_n78.keep K_n79 (ninS n_d_sq nin0)
                              have E_r_12 := E_r_11.keep K_n79
                              have Fd_r_12 := Fd_r_11.keep K_n79 (ninS n_r_sq nin0)
                              have Fp_r_12 := Fp_r_11.keep K_n79 (ninS n_r_sq nin0)
                              have Fn_r_12 := Fn_r_11.keep K_n79 (ninS n_r_sq nin0)
                              have E_sq_12 := E_sq_11.keep K_n79
                              refine B.iload 209 rfl at_207 rfl ?_
                              refine B.iconst 210 rfl (1 : Int32) at_209 rfl ?_
                              refine B.icmp_lt 218 213 rfl (by decide) rfl at_210 (fun c210 => ?_) (fun c210 => ?_)
                              · exact absurd c210 (by decide)
                              · refine B.aload 215 rfl at_213 rfl rfl ?_
                                refine B.callVW 218 rfl at_215 (wd hw 66 rfl) (wd hw 67 rfl) (wd hw 69 rfl) (wd hw 68 rfl) (wd hw 8 rfl) (wd hw 70 rfl) (by decide) E_r_12 [] [] (rm_rn l Z a0 hw r d (6 : Int32) (7 : Int32) (8 : Int32) (10 : Int32) (5 : Int32) (0 : Int32) 6 7 [(.int (48 : Int32)), (.int (4 : Int32)), (.int (5 : Int32)), (.int (0 : Int32)), (.int (5 : Int32)), (.int (0 : Int32)), (.int (5 : Int32)), (.int (0 : Int32)), (.int (5 : Int32)), (.int (0 : Int32))] h_n79 E_r_12 n_d_r Fd_r_12 Fp_r_12 Fn_r_12 A_n79 (by decide) (by decide) (by decide) rfl (by decide) (by decide) (by decide) (by decide) (by decide) rfl (by decide) (by decide) (by decide) (by decide)) rfl rfl pd___V rfl rfl 0 rfl (by decide) (by decide) (by decide) (by decide) (fun x z => Or.inr (by cases List.mem_singleton.mp z; exact g_r)) ?_
                                rintro _ h_n80 K_n80 ⟨rfl, Fd_n80, Fp_n80, Fn_n80, A_n80⟩
                                show B.G h_n80 11 112 (mkF m 218 #[.val (.int p1), .val (.int p2), .val (.int p3), .val (.int p4), .val (.int (2 : Int32)), .val (.int (2 : Int32)), .val (.int (2 : Int32)), .val (.int (1 : Int32)), .val (.int (10 : Int32)), .val (.ref d), .val (.ref r), .val (.ref sq), .val (.int (1 : Int32))] [])
                                have A_d_13 := A_n79.keep K_n80 (ninS n_d_r nin0)
                                have E_r_13 := E_r_12.keep K_n80
                                have E_sq_13 := E_sq_12.keep K_n80
                                have Fd_sq_13 := Fd_n79.keep K_n80 (ninS (Ne.symm n_r_sq) nin0)
                                have Fp_sq_13 := Fp_n79.keep K_n80 (ninS (Ne.symm n_r_sq) nin0)
                                have Fn_sq_13 := Fn_n79.keep K_n80 (ninS (Ne.symm n_r_sq) nin0)
                                refine B.iload 220 rfl at_218 rfl ?_
                                refine B.iconst 221 rfl (2 : Int32) at_220 rfl ?_
                                refine B.icmp_lt 229 224 rfl (by decide) rfl at_221 (fun c221 => ?_) (fun c221 => ?_)
                                · refine B.iload 231 rfl at_229 rfl ?_
                                  refine B.if0_eq 278 234 rfl (by decide) rfl at_231 (fun c231 => ?_) (fun c231 => ?_)
                                  · exact absurd c231 (by decide)
                                  · refine B.aload 236 rfl at_234 rfl rfl ?_
                                    refine B.callV 239 rfl at_236 (wd hw 61 rfl) (wd hw 62 rfl) (wd hw 64 rfl) (wd hw 63 rfl) (wd hw 8 rfl) (wd hw 65 rfl) (by decide) E_sq_13 [] [] (rm_hm0 l Z a0 hw sq d (6 : Int32) (6 : Int32) h_n80 Fd_sq_13 Fp_sq_13 Fn_sq_13 (by decide)) rfl rfl pd___Z rfl rfl 0 rfl (by decide) (by decide) (by decide) (by decide) (fun _ q => nomatch q) ?_
                                    rintro _ _ - ⟨rfl, rfl⟩
                                    show B.G h_n80 11 112 (mkF m 239 #[.val (.int p1), .val (.int p2), .val (.int p3), .val (.int p4), .val (.int (2 : Int32)), .val (.int (2 : Int32)), .val (.int (2 : Int32)), .val (.int (1 : Int32)), .val (.int (10 : Int32)), .val (.ref d), .val (.ref r), .val (.ref sq), .val (.int (1 : Int32))] [(.int (0 : Int32))])
                                    refine B.iload 241 rfl at_239 rfl ?_
                                    refine B.iload 243 rfl at_241 rfl ?_
                                    refine B.icmp_ge 250 246 rfl (by decide) rfl at_243 (fun c243 => ?_) (fun c243 => ?_)
                                    · refine B.iconst 251 rfl (0 : Int32) at_250 rfl ?_
                                      refine B.icmp_ne 278 254 rfl (by decide) rfl at_251 (fun c251 => ?_) (fun c251 => ?_)
                                      · exact absurd c251 (by decide)
                                      · refine B.aload 256 rfl at_254 rfl rfl ?_
                                        refine B.callV 259 rfl at_256 (wd hw 61 rfl) (wd hw 62 rfl) (wd hw 64 rfl) (wd hw 63 rfl) (wd hw 8 rfl) (wd hw 65 rfl) (by decide) E_r_13 [] [] (rm_hm1 l Z a0 hw r d (8 : Int32) (10 : Int32) h_n80 Fd_n80 Fp_n80 Fn_n80 (by decide)) rfl rfl pd___Z rfl rfl 0 rfl (by decide) (by decide) (by decide) (by decide) (fun _ q => nomatch q) ?_
                                        rintro _ _ - ⟨rfl, rfl⟩
                                        show B.G h_n80 11 112 (mkF m 259 #[.val (.int p1), .val (.int p2), .val (.int p3), .val (.int p4), .val (.int (2 : Int32)), .val (.int (2 : Int32)), .val (.int (2 : Int32)), .val (.int (1 : Int32)), .val (.int (10 : Int32)), .val (.ref d), .val (.ref r), .val (.ref sq), .val (.int (1 : Int32))] [(.int (1 : Int32))])
                                        refine B.iload 261 rfl at_259 rfl ?_
                                        refine B.iload 263 rfl at_261 rfl ?_
                                        refine B.icmp_ge 270 266 rfl (by decide) rfl at_263 (fun c263 => ?_) (fun c263 => ?_)
                                        · exact absurd c263 (by decide)
                                        · refine B.iconst 267 rfl (1 : Int32) at_266 rfl ?_
                                          refine B.goto 271 rfl (by decide) at_267 ?_
                                          refine B.icmp_ne 278 274 rfl (by decide) rfl at_271 (fun c271 => ?_) (fun c271 => ?_)
                                          · exact absurd c271 (by decide)
                                          · refine B.iconst 275 rfl (1 : Int32) at_274 rfl ?_
                                            refine B.goto 279 rfl (by decide) at_275 ?_
                                            refine B.istore 281 rfl at_279 #[.val (.int p1), .val (.int p2), .val (.int p3), .val (.int p4), .val (.int (2 : Int32)), .val (.int (2 : Int32)), .val (.int (2 : Int32)), .val (.int (1 : Int32)), .val (.int (10 : Int32)), .val (.ref d), .val (.ref r), .val (.ref sq), .val (.int (1 : Int32))] rfl ?_
                                            refine B.iload 283 rfl at_281 rfl ?_
                                            refine B.retN (by simp) at_283 (by decide) (by decide) ?_
                                            exact rfl
                                    · exact absurd c243 (by decide)
                                · exact absurd c221 (by decide)
                        · refine B.iload 187 rfl at_185 rfl ?_
                          refine B.iconst 188 rfl (1 : Int32) at_187 rfl ?_
                          refine B.icmp_lt 196 191 rfl (by decide) rfl at_188 (fun c188 => ?_) (fun c188 => ?_)
                          · exact absurd c188 (by decide)
                          · refine B.aload 193 rfl at_191 rfl rfl ?_
                            refine B.callVW 196 rfl at_193 (wd hw 66 rfl) (wd hw 67 rfl) (wd hw 69 rfl) (wd hw 68 rfl) (wd hw 8 rfl) (wd hw 70 rfl) (by decide) E_s [] [] (rm_rn l Z a0 hw sq d (2 : Int32) (3 : Int32) (4 : Int32) (6 : Int32) (5 : Int32) (0 : Int32) 2 3 [(.int (48 : Int32)), (.int (4 : Int32)), (.int (5 : Int32)), (.int (0 : Int32)), (.int (5 : Int32)), (.int (0 : Int32)), (.int (5 : Int32)), (.int (0 : Int32)), (.int (5 : Int32)), (.int (0 : Int32))] h_s E_s n_d_sq Fd_s Fp_s Fn_s A_d3 (by decide) (by decide) (by decide) rfl (by decide) (by decide) (by decide) (by decide) (by decide) rfl (by decide) (by decide) (by decide) (by decide)) rfl rfl pd___V rfl rfl 0 rfl (by decide) (by decide) (by decide) (by decide) (fun x z => Or.inr (by cases List.mem_singleton.mp z; exact g_s0)) ?_
                            rintro _ h_n81 K_n81 ⟨rfl, Fd_n81, Fp_n81, Fn_n81, A_n81⟩
                            show B.G h_n81 7 72 (mkF m 196 #[.val (.int p1), .val (.int p2), .val (.int p3), .val (.int p4), .val (.int (2 : Int32)), .val (.int (2 : Int32)), .val (.int (2 : Int32)), .val (.int (2 : Int32)), .val (.int (10 : Int32)), .val (.ref d), .val (.ref r), .val (.ref sq), .val (.int (1 : Int32))] [])
                            have A_d_11 := A_d3.keep K_n81 (ninS n_d_sq nin0)
                            have E_r_11 := E_r_10.keep K_n81
                            have Fd_r_11 := Fd_r3.keep K_n81 (ninS n_r_sq nin0)
                            have Fp_r_11 := Fp_r3.keep K_n81 (ninS n_r_sq nin0)
                            have Fn_r_11 := Fn_r3.keep K_n81 (ninS n_r_sq nin0)
                            have E_sq_11 := E_s.keep K_n81
                            refine B.iload 198 rfl at_196 rfl ?_
                            refine B.iconst 199 rfl (2 : Int32) at_198 rfl ?_
                            refine B.icmp_lt 207 202 rfl (by decide) rfl at_199 (fun c199 => ?_) (fun c199 => ?_)
                            · exact absurd c199 (by decide)
                            · refine B.aload 204 rfl at_202 rfl rfl ?_
                              refine B.callVW 207 rfl at_204 (wd hw 66 rfl) (wd hw 67 rfl) (wd hw 69 rfl) (wd hw 68 rfl) (wd hw 8 rfl) (wd hw 70 rfl) (by decide) E_sq_11 [] [] (rm_rn l Z a0 hw sq d (4 : Int32) (5 : Int32) (6 : Int32) (6 : Int32) (5 : Int32) (0 : Int32) 4 5 [(.int (48 : Int32)), (.int (4 : Int32)), (.int (5 : Int32)), (.int (0 : Int32)), (.int (5 : Int32)), (.int (0 : Int32)), (.int (5 : Int32)), (.int (0 : Int32)), (.int (5 : Int32)), (.int (0 : Int32))] h_n81 E_sq_11 n_d_sq Fd_n81 Fp_n81 Fn_n81 A_n81 (by decide) (by decide) (by decide) rfl (by decide) (by decide) (by decide) (by decide) (by decide) rfl (by decide) (by decide) (by decide) (by decide)) rfl rfl pd___V rfl rfl 0 rfl (by decide) (by decide) (by decide) (by decide) (fun x z => Or.inr (by cases List.mem_singleton.mp z; exact g_s0)) ?_
                              rintro _ h_n82 K_n82 ⟨rfl, Fd_n82, Fp_n82, Fn_n82, A_n82⟩
                              show B.G h_n82 9 92 (mkF m 207 #[.val (.int p1), .val (.int p2), .val (.int p3), .val (.int p4), .val (.int (2 : Int32)), .val (.int (2 : Int32)), .val (.int (2 : Int32)), .val (.int (2 : Int32)), .val (.int (10 : Int32)), .val (.ref d), .val (.ref r), .val (.ref sq), .val (.int (1 : Int32))] [])
                              have A_d_12 := A_n81.keep K_n82 (ninS n_d_sq nin0)
                              have E_r_12 := E_r_11.keep K_n82
                              have Fd_r_12 := Fd_r_11.keep K_n82 (ninS n_r_sq nin0)
                              have Fp_r_12 := Fp_r_11.keep K_n82 (ninS n_r_sq nin0)
                              have Fn_r_12 := Fn_r_11.keep K_n82 (ninS n_r_sq nin0)
                              have E_sq_12 := E_sq_11.keep K_n82
                              refine B.iload 209 rfl at_207 rfl ?_
                              refine B.iconst 210 rfl (1 : Int32) at_209 rfl ?_
                              refine B.icmp_lt 218 213 rfl (by decide) rfl at_210 (fun c210 => ?_) (fun c210 => ?_)
                              · exact absurd c210 (by decide)
                              · refine B.aload 215 rfl at_213 rfl rfl ?_
                                refine B.callVW 218 rfl at_215 (wd hw 66 rfl) (wd hw 67 rfl) (wd hw 69 rfl) (wd hw 68 rfl) (wd hw 8 rfl) (wd hw 70 rfl) (by decide) E_r_12 [] [] (rm_rn l Z a0 hw r d (6 : Int32) (7 : Int32) (8 : Int32) (10 : Int32) (5 : Int32) (0 : Int32) 6 7 [(.int (48 : Int32)), (.int (4 : Int32)), (.int (5 : Int32)), (.int (0 : Int32)), (.int (5 : Int32)), (.int (0 : Int32)), (.int (5 : Int32)), (.int (0 : Int32)), (.int (5 : Int32)), (.int (0 : Int32))] h_n82 E_r_12 n_d_r Fd_r_12 Fp_r_12 Fn_r_12 A_n82 (by decide) (by decide) (by decide) rfl (by decide) (by decide) (by decide) (by decide) (by decide) rfl (by decide) (by decide) (by decide) (by decide)) rfl rfl pd___V rfl rfl 0 rfl (by decide) (by decide) (by decide) (by decide) (fun x z => Or.inr (by cases List.mem_singleton.mp z; exact g_r)) ?_
                                rintro _ h_n83 K_n83 ⟨rfl, Fd_n83, Fp_n83, Fn_n83, A_n83⟩
                                show B.G h_n83 11 112 (mkF m 218 #[.val (.int p1), .val (.int p2), .val (.int p3), .val (.int p4), .val (.int (2 : Int32)), .val (.int (2 : Int32)), .val (.int (2 : Int32)), .val (.int (2 : Int32)), .val (.int (10 : Int32)), .val (.ref d), .val (.ref r), .val (.ref sq), .val (.int (1 : Int32))] [])
                                have A_d_13 := A_n82.keep K_n83 (ninS n_d_r nin0)
                                have E_r_13 := E_r_12.keep K_n83
                                have E_sq_13 := E_sq_12.keep K_n83
                                have Fd_sq_13 := Fd_n82.keep K_n83 (ninS (Ne.symm n_r_sq) nin0)
                                have Fp_sq_13 := Fp_n82.keep K_n83 (ninS (Ne.symm n_r_sq) nin0)
                                have Fn_sq_13 := Fn_n82.keep K_n83 (ninS (Ne.symm n_r_sq) nin0)
                                refine B.iload 220 rfl at_218 rfl ?_
                                refine B.iconst 221 rfl (2 : Int32) at_220 rfl ?_
                                refine B.icmp_lt 229 224 rfl (by decide) rfl at_221 (fun c221 => ?_) (fun c221 => ?_)
                                · exact absurd c221 (by decide)
                                · refine B.aload 226 rfl at_224 rfl rfl ?_
                                  refine B.callVW 229 rfl at_226 (wd hw 66 rfl) (wd hw 67 rfl) (wd hw 69 rfl) (wd hw 68 rfl) (wd hw 8 rfl) (wd hw 70 rfl) (by decide) E_r_13 [] [] (rm_rn l Z a0 hw r d (8 : Int32) (9 : Int32) (10 : Int32) (10 : Int32) (5 : Int32) (0 : Int32) 8 9 [(.int (48 : Int32)), (.int (4 : Int32)), (.int (5 : Int32)), (.int (0 : Int32)), (.int (5 : Int32)), (.int (0 : Int32)), (.int (5 : Int32)), (.int (0 : Int32)), (.int (5 : Int32)), (.int (0 : Int32))] h_n83 E_r_13 n_d_r Fd_n83 Fp_n83 Fn_n83 A_n83 (by decide) (by decide) (by decide) rfl (by decide) (by decide) (by decide) (by decide) (by decide) rfl (by decide) (by decide) (by decide) (by decide)) rfl rfl pd___V rfl rfl 0 rfl (by decide) (by decide) (by decide) (by decide) (fun x z => Or.inr (by cases List.mem_singleton.mp z; exact g_r)) ?_
                                  rintro _ h_n84 K_n84 ⟨rfl, Fd_n84, Fp_n84, Fn_n84, A_n84⟩
                                  show B.G h_n84 13 132 (mkF m 229 #[.val (.int p1), .val (.int p2), .val (.int p3), .val (.int p4), .val (.int (2 : Int32)), .val (.int (2 : Int32)), .val (.int (2 : Int32)), .val (.int (2 : Int32)), .val (.int (10 : Int32)), .val (.ref d), .val (.ref r), .val (.ref sq), .val (.int (1 : Int32))] [])
                                  have A_d_14 := A_n83.keep K_n84 (ninS n_d_r nin0)
                                  have E_r_14 := E_r_13.keep K_n84
                                  have E_sq_14 := E_sq_13.keep K_n84
                                  have Fd_sq_14 := Fd_sq_13.keep K_n84 (ninS (Ne.symm n_r_sq) nin0)
                                  have Fp_sq_14 := Fp_sq_13.keep K_n84 (ninS (Ne.symm n_r_sq) nin0)
                                  have Fn_sq_14 := Fn_sq_13.keep K_n84 (ninS (Ne.symm n_r_sq) nin0)
                                  refine B.iload 231 rfl at_229 rfl ?_
                                  refine B.if0_eq 278 234 rfl (by decide) rfl at_231 (fun c231 => ?_) (fun c231 => ?_)
                                  · exact absurd c231 (by decide)
                                  · refine B.aload 236 rfl at_234 rfl rfl ?_
                                    refine B.callV 239 rfl at_236 (wd hw 61 rfl) (wd hw 62 rfl) (wd hw 64 rfl) (wd hw 63 rfl) (wd hw 8 rfl) (wd hw 65 rfl) (by decide) E_sq_14 [] [] (rm_hm0 l Z a0 hw sq d (6 : Int32) (6 : Int32) h_n84 Fd_sq_14 Fp_sq_14 Fn_sq_14 (by decide)) rfl rfl pd___Z rfl rfl 0 rfl (by decide) (by decide) (by decide) (by decide) (fun _ q => nomatch q) ?_
                                    rintro _ _ - ⟨rfl, rfl⟩
                                    show B.G h_n84 13 132 (mkF m 239 #[.val (.int p1), .val (.int p2), .val (.int p3), .val (.int p4), .val (.int (2 : Int32)), .val (.int (2 : Int32)), .val (.int (2 : Int32)), .val (.int (2 : Int32)), .val (.int (10 : Int32)), .val (.ref d), .val (.ref r), .val (.ref sq), .val (.int (1 : Int32))] [(.int (0 : Int32))])
                                    refine B.iload 241 rfl at_239 rfl ?_
                                    refine B.iload 243 rfl at_241 rfl ?_
                                    refine B.icmp_ge 250 246 rfl (by decide) rfl at_243 (fun c243 => ?_) (fun c243 => ?_)
                                    · refine B.iconst 251 rfl (0 : Int32) at_250 rfl ?_
                                      refine B.icmp_ne 278 254 rfl (by decide) rfl at_251 (fun c251 => ?_) (fun c251 => ?_)
                                      · exact absurd c251 (by decide)
                                      · refine B.aload 256 rfl at_254 rfl rfl ?_
                                        refine B.callV 259 rfl at_256 (wd hw 61 rfl) (wd hw 62 rfl) (wd hw 64 rfl) (wd hw 63 rfl) (wd hw 8 rfl) (wd hw 65 rfl) (by decide) E_r_14 [] [] (rm_hm0 l Z a0 hw r d (10 : Int32) (10 : Int32) h_n84 Fd_n84 Fp_n84 Fn_n84 (by decide)) rfl rfl pd___Z rfl rfl 0 rfl (by decide) (by decide) (by decide) (by decide) (fun _ q => nomatch q) ?_
                                        rintro _ _ - ⟨rfl, rfl⟩
                                        show B.G h_n84 13 132 (mkF m 259 #[.val (.int p1), .val (.int p2), .val (.int p3), .val (.int p4), .val (.int (2 : Int32)), .val (.int (2 : Int32)), .val (.int (2 : Int32)), .val (.int (2 : Int32)), .val (.int (10 : Int32)), .val (.ref d), .val (.ref r), .val (.ref sq), .val (.int (1 : Int32))] [(.int (0 : Int32))])
                                        refine B.iload 261 rfl at_259 rfl ?_
                                        refine B.iload 263 rfl at_261 rfl ?_
                                        refine B.icmp_ge 270 266 rfl (by decide) rfl at_263 (fun c263 => ?_) (fun c263 => ?_)
                                        · refine B.iconst 271 rfl (0 : Int32) at_270 rfl ?_
                                          refine B.icmp_ne 278 274 rfl (by decide) rfl at_271 (fun c271 => ?_) (fun c271 => ?_)
                                          · exact absurd c271 (by decide)
                                          · refine B.iconst 275 rfl (1 : Int32) at_274 rfl ?_
                                            refine B.goto 279 rfl (by decide) at_275 ?_
                                            refine B.istore 281 rfl at_279 #[.val (.int p1), .val (.int p2), .val (.int p3), .val (.int p4), .val (.int (2 : Int32)), .val (.int (2 : Int32)), .val (.int (2 : Int32)), .val (.int (2 : Int32)), .val (.int (10 : Int32)), .val (.ref d), .val (.ref r), .val (.ref sq), .val (.int (1 : Int32))] rfl ?_
                                            refine B.iload 283 rfl at_281 rfl ?_
                                            refine B.retN (by simp) at_283 (by decide) (by decide) ?_
                                            exact rfl
                                        · exact absurd c263 (by decide)
                                    · exact absurd c243 (by decide)
set_option maxRecDepth 65536 in
set_option maxHeartbeats 4000000 in
theorem comes_1 {Post : Tables → Env → Array Value → State → Outcome → State → Prop} (hpost : ∀ tb e args s v u, (limb_1_1.after args s (.returned v) u = true ∧ limb_1_2.after args s (.returned v) u = true ∧ True) → FramedW s (.returned v) u (Jvm.fieldLocs frame_1_writes args s ++ Jvm.arrayLocs frame_1_arrays args s ++ Jvm.staticLocs frame_1_statics s) 24 2176 → Post tb e args s (.returned v) u) :
    ArmFor flags0 classFile x code maxLocals ret World_1 tables_1 room_1 Calls_1 rest_1 Pre_1 Post := by
  intro l hfl _ _ p e ha hc hk s m args below hf hA hF happ hP
  obtain ⟨hcalls, hrest, hpre⟩ := hP
  obtain ⟨-, -, -, hnamed, -, -, -, hat⟩ := (Spec.applies_iff hf).mp happ
  obtain ⟨hg, hn⟩ := and_e (Cond.before_iff.mp (show (Jvm.Cond.and given_1 narrow_1).before args s = true from hpre))
  obtain ⟨g0, gg0⟩ := and_e hg
  obtain ⟨k0, gg1⟩ := and_e gg0
  obtain ⟨k1, gg2⟩ := and_e gg1
  obtain ⟨k2, gg3⟩ := and_e gg2
  obtain ⟨w0, w1, w2, w3, rfl⟩ : ∃ w0 w1 w2 w3 : Value, args = #[w0, w1, w2, w3] := by
    have hs : args.size = 4 := by simpa [Cond.value, given_1] using g0
    obtain ⟨L⟩ := args
    match L, hs with
    | [w0, w1, w2, w3], _ => exact ⟨w0, w1, w2, w3, rfl⟩
  have hw := fun d (hd : d ∈ tables_1) => atoms_spec (ws := Jvm.Cond.code x code maxLocals ret :: tables_1) hat d (List.mem_cons_of_mem _ hd)
  obtain ⟨i0, ei0⟩ := is_v k0
  obtain rfl : w0 = (.int i0) := Option.some.inj ei0
  obtain ⟨i1, ei1⟩ := is_v k1
  obtain rfl : w1 = (.int i1) := Option.some.inj ei1
  obtain ⟨i2, ei2⟩ := is_v k2
  obtain rfl : w2 = (.int i2) := Option.some.inj ei2
  obtain ⟨i3, ei3⟩ := is_v gg3
  obtain rfl : w3 = (.int i3) := Option.some.inj ei3
  obtain ⟨n, o, h1, h2, h3, _, L, rfl, ⟨rfl, N, -⟩, hq⟩ := rm0 l s _ hw tables_1 i0 i1 i2 i3 s.heap  p e ha hc hk s m _ below hf ((Spec.applies_iff_loose hf).mp happ).1 ⟨rfl, State.Warmed39.refl s, rfl⟩ trivial
  refine ⟨n, _, h1, h2, h3, hpost _ _ _ _ _ _ ⟨Cond.after_iff.mpr rfl, Cond.after_iff.mpr (eq_i res_at (Term.int_eval (1)) rfl), trivial⟩ ⟨hq.1, hq.2.1, hq.2.2.1, (hq.2.2.2.sift fun y hy => Or.inr ((N y hy).resolve_left (by simp))).mono (by decide) (by decide)⟩⟩
theorem main_1_1 : Claimed_1_1 := comes_1 fun _ _ _ _ _ _ h hF => ⟨h.1, hF⟩
theorem main_1_2 : Claimed_1_2 := comes_1 fun _ _ _ _ _ _ h hF => ⟨h.2.1, hF⟩
end Jvm.Pilot.@@N@@
namespace Jvm.Pilot.@@N@@
open Jvm Jvm.ClassFile Sem Op Lib Jvm.Free Jvm.Stand Jvm.Pilot.@@N@@.Jvm.D
/-! MADE BY PROGRAM (witnessworld.py) out of the Statement's table words and the real class files: 15 classes; the members and pool entries that the words name. The judged class is class 1, her method 1. -/
namespace start1
open Jvm.ClassFile
def u (s : String) : CpInfo := .utf8 (stringToUtf16 s)
/-- a pool by its gaps: so many unusable entries, then the entry; so many at the end -/
def gap : Nat → List CpInfo → List CpInfo
  | 0, r => r
  | n + 1, r => .unusable :: gap n r
def poolList (es : List (Nat × CpInfo)) (last : Nat) : List CpInfo := es.foldr (fun e r => gap e.1 (e.2 :: r)) (gap last [])
def pool (es : List (Nat × CpInfo)) (last : Nat) : Array CpInfo := ⟨poolList es last⟩
def fileOf (pool : Array CpInfo) (this : Nat) (attrs : Array Attribute := #[]) (ms : Array MethodInfo := #[]) (fl : Nat := 33) (sup : Nat := 0) (ifs : Array Nat := #[]) (fds : Array FieldInfo := #[]) : ClassFile where
  minorVersion := 0
  majorVersion := 65
  constantPool := pool
  accessFlags := fl
  thisClass := this
  superClass := sup
  interfaces := ifs
  fields := fds
  methods := ms
  attributes := attrs
def plain (name : String) (sup : Option ClassId) : Class where
  name := name
  kind := .ordinary
  loader := none
  accessFlags := 33
  super := sup
  interfaces := #[]
  cf := none
  fields := #[]
  methods := #[]
  instanceTypes := #[]
  staticTypes := #[]
  resolved := #[]
  callSites := []
  init := .initialized
  statics := none
  mirror := none

def pool0 : Array CpInfo := pool [(5, u "<init>"), (0, u "()V"), (1, .class_ 10), (1, u "java/lang/Object")] 113

def k0c0 : Code := { maxStack := 0, maxLocals := 1, code := object_method_1_code, exceptionTable := #[], attributes := #[] }
def k0m0 : Method := { name := "<init>", desc := "()V", sig := { parameters := [], returnType := none }, accessFlags := 1, code := some k0c0 }
/-- java/lang/Object -/
def k0 : Class := { plain "java/lang/Object" none with
  accessFlags := 33
  interfaces := #[]
  cf := some (fileOf pool0 8 #[] #[{ accessFlags := 1, nameIndex := 5, descriptorIndex := 6, attributes := #[] }] 33 0 #[] #[])
  fields := #[]
  methods := #[k0m0]
  instanceTypes := #[]
  staticTypes := #[]
  resolved := Array.replicate 124 none
  statics := none }

def pool1 : Array CpInfo := pool [(2, .class_ 4), (1, u "java/lang/Object"), (0, u "<init>"), (0, u "()V"), (0, .integer 2147483647), (0, .methodref 9 10), (0, .class_ 11), (0, .nameAndType 12 13), (0, u "java/lang/Math"), (0, u "min"), (0, u "(II)I"), (0, .class_ 15), (0, u "io/keyvouch/der/DerReader"), (0, .methodref 14 17), (0, .nameAndType 5 18), (0, u "([B)V"), (0, .methodref 14 20), (0, .nameAndType 21 22), (0, u "readSequence"), (0, u "()Lio/keyvouch/der/DerReader;"), (0, .methodref 14 24), (0, .nameAndType 25 26), (0, u "hasMore"), (0, u "()Z"), (0, .methodref 14 28), (0, .nameAndType 29 6), (0, u "readNull"), (0, .class_ 31), (0, u "io/keyvouch/der/DerReaderHasMorePinLaw"), (2, u "law"), (0, u "(IIII)Z")] 8

def k1m0 : Method := { name := "<init>", desc := "()V", sig := { parameters := [], returnType := none }, accessFlags := 1, code := none }
def k1c1 : Code := { maxStack := 4, maxLocals := 13, code := code, exceptionTable := #[], attributes := #[] }
def k1m1 : Method := { name := "law", desc := "(IIII)Z", sig := { parameters := [.int, .int, .int, .int], returnType := some .boolean }, accessFlags := 9, code := some k1c1 }
/-- io/keyvouch/der/DerReaderHasMorePinLaw -/
def k1 : Class := { plain "io/keyvouch/der/DerReaderHasMorePinLaw" (some 0) with
  accessFlags := 49
  interfaces := #[]
  cf := some (fileOf pool1 30 #[] #[{ accessFlags := 1, nameIndex := 5, descriptorIndex := 6, attributes := #[] }, { accessFlags := 9, nameIndex := 34, descriptorIndex := 35, attributes := #[] }] 49 2 #[] #[])
  fields := #[]
  methods := #[k1m0, k1m1]
  instanceTypes := #[]
  staticTypes := #[]
  resolved := Array.replicate 44 none
  statics := none }

def pool2 : Array CpInfo := pool [(1, .class_ 2), (0, u "java/lang/Math"), (1, .class_ 6), (1, u "java/lang/Object"), (0, u "<init>"), (0, u "()V"), (89, .class_ 100), (1, u "java/lang/Math$RandomNumberGeneratorHolder"), (71, u "negativeZeroFloatBits"), (0, u "J"), (2, u "negativeZeroDoubleBits"), (24, u "min"), (43, u "$assertionsDisabled"), (0, u "Z"), (88, u "(II)I"), (2, u "twoToTheDoubleScaleDown"), (0, u "D"), (4, u "twoToTheDoubleScaleUp"), (9, u "E"), (3, u "PI"), (2, u "TAU"), (2, u "DEGREES_TO_RADIANS"), (0, u "RADIANS_TO_DEGREES")] 94

def k2m0 : Method := { name := "<init>", desc := "()V", sig := { parameters := [], returnType := none }, accessFlags := 2, code := none }
def k2c1 : Code := { maxStack := 2, maxLocals := 2, code := jdk_29_method_69_code, exceptionTable := #[], attributes := #[] }
def k2m1 : Method := { name := "min", desc := "(II)I", sig := { parameters := [.int, .int], returnType := some .int }, accessFlags := 9, code := some k2c1 }
/-- java/lang/Math -/
def k2 : Class := { plain "java/lang/Math" (some 0) with
  accessFlags := 49
  interfaces := #[]
  cf := some (fileOf pool2 1 #[.nestMembers #[98]] #[{ accessFlags := 2, nameIndex := 7, descriptorIndex := 8, attributes := #[] }, { accessFlags := 9, nameIndex := 201, descriptorIndex := 335, attributes := #[] }] 49 4 #[] #[{ accessFlags := 25, nameIndex := 354, descriptorIndex := 339, attributes := #[] }, { accessFlags := 25, nameIndex := 358, descriptorIndex := 339, attributes := #[] }, { accessFlags := 25, nameIndex := 361, descriptorIndex := 339, attributes := #[] }, { accessFlags := 26, nameIndex := 364, descriptorIndex := 339, attributes := #[] }, { accessFlags := 26, nameIndex := 365, descriptorIndex := 339, attributes := #[] }, { accessFlags := 26, nameIndex := 172, descriptorIndex := 173, attributes := #[] }, { accessFlags := 26, nameIndex := 176, descriptorIndex := 173, attributes := #[] }, { accessFlags := 8, nameIndex := 344, descriptorIndex := 339, attributes := #[] }, { accessFlags := 8, nameIndex := 338, descriptorIndex := 339, attributes := #[] }, { accessFlags := 4120, nameIndex := 245, descriptorIndex := 246, attributes := #[] }])
  fields := #[{ name := "E", type := .double, accessFlags := 25, slot := 0, constantValue := 0 }, { name := "PI", type := .double, accessFlags := 25, slot := 1, constantValue := 0 }, { name := "TAU", type := .double, accessFlags := 25, slot := 2, constantValue := 0 }, { name := "DEGREES_TO_RADIANS", type := .double, accessFlags := 26, slot := 3, constantValue := 0 }, { name := "RADIANS_TO_DEGREES", type := .double, accessFlags := 26, slot := 4, constantValue := 0 }, { name := "negativeZeroFloatBits", type := .long, accessFlags := 26, slot := 5, constantValue := 0 }, { name := "negativeZeroDoubleBits", type := .long, accessFlags := 26, slot := 6, constantValue := 0 }, { name := "twoToTheDoubleScaleUp", type := .double, accessFlags := 8, slot := 7, constantValue := 0 }, { name := "twoToTheDoubleScaleDown", type := .double, accessFlags := 8, slot := 8, constantValue := 0 }, { name := "$assertionsDisabled", type := .boolean, accessFlags := 4120, slot := 9, constantValue := 0 }]
  methods := #[k2m0, k2m1]
  instanceTypes := #[]
  staticTypes := #[.double, .double, .double, .double, .double, .long, .long, .double, .double, .boolean]
  resolved := Array.replicate 460 none
  statics := none }

def pool3 : Array CpInfo := pool [(1, .class_ 2), (0, u "io/keyvouch/der/DerReader"), (0, .methodref 1 4), (0, .nameAndType 5 6), (0, u "<init>"), (0, u "([BII)V"), (0, .methodref 8 9), (0, .class_ 10), (0, .nameAndType 5 11), (0, u "java/lang/Object"), (0, u "()V"), (0, .fieldref 1 13), (0, .nameAndType 14 15), (0, u "der"), (0, u "[B"), (0, .fieldref 1 17), (0, .nameAndType 18 19), (0, u "pos"), (0, u "I"), (0, .fieldref 1 21), (0, .nameAndType 22 19), (0, u "end"), (0, .string 24), (0, u "SEQUENCE"), (0, .methodref 1 26), (0, .nameAndType 27 28), (0, u "readContents"), (0, u "(ILjava/lang/String;)Lio/keyvouch/der/DerReader;"), (1, u "SET"), (2, .methodref 1 34), (0, .nameAndType 35 36), (0, u "peekIdentifier"), (0, u "(Ljava/lang/String;)I"), (7, u "(Ljava/lang/String;I)I"), (0, .class_ 46), (0, u "io/keyvouch/der/DerReader$Tagged"), (0, .methodref 1 48), (0, .nameAndType 49 44), (0, u "readLength"), (0, .methodref 1 51), (0, .nameAndType 52 53), (0, u "skipContents"), (0, u "(I)Lio/keyvouch/der/DerReader;"), (24, u "INTEGER"), (5, u "ENUMERATED"), (1, u "BOOLEAN"), (0, .methodref 1 88), (0, .nameAndType 89 90), (0, u "readHeader"), (0, u "(ILjava/lang/String;)I"), (3, u "(II)V"), (0, .string 96), (0, u "NULL"), (0, .methodref 1 98), (0, .nameAndType 99 94), (0, u "checkNull"), (25, u "PRIMITIVE_TYPES"), (0, u "J"), (2, u "CONSTRUCTED_TYPES"), (40, .methodref 1 171), (0, .nameAndType 172 173), (0, u "readLengthField"), (0, u "(Ljava/lang/String;I)J"), (8, .long 128), (9, u "BIT_STRING"), (1, u "OCTET_STRING"), (2, u "OBJECT_IDENTIFIER"), (2, u "RELATIVE_OID"), (3, u "CLASS"), (1, u "UNIVERSAL"), (1, u "CONSTRUCTED"), (1, u "CLASS_AND_FORM"), (1, u "CONTEXT_SPECIFIC_CONSTRUCTED"), (1, u "HIGH_TAG_NUMBER_FORM"), (1, u "MAX_LENGTH_BYTES"), (0, u "([B)V"), (2, u "hasMore"), (0, u "()Z"), (3, u "readSequence"), (0, u "()Lio/keyvouch/der/DerReader;"), (15, u "readNull")] 69

def k3c0 : Code := { maxStack := 4, maxLocals := 2, code := prog_8_method_1_code, exceptionTable := #[], attributes := #[] }
def k3m0 : Method := { name := "<init>", desc := "([B)V", sig := { parameters := [(.array .byte)], returnType := none }, accessFlags := 0, code := some k3c0 }
def k3c1 : Code := { maxStack := 2, maxLocals := 4, code := prog_8_method_2_code, exceptionTable := #[], attributes := #[] }
def k3m1 : Method := { name := "<init>", desc := "([BII)V", sig := { parameters := [(.array .byte), .int, .int], returnType := none }, accessFlags := 2, code := some k3c1 }
def k3c2 : Code := { maxStack := 2, maxLocals := 1, code := prog_8_method_3_code, exceptionTable := #[], attributes := #[] }
def k3m2 : Method := { name := "hasMore", desc := "()Z", sig := { parameters := [], returnType := some .boolean }, accessFlags := 0, code := some k3c2 }
def k3c3 : Code := { maxStack := 3, maxLocals := 1, code := prog_8_method_5_code, exceptionTable := #[], attributes := #[] }
def k3m3 : Method := { name := "readSequence", desc := "()Lio/keyvouch/der/DerReader;", sig := { parameters := [], returnType := some (.object "io/keyvouch/der/DerReader") }, accessFlags := 0, code := some k3c3 }
def k3c4 : Code := { maxStack := 4, maxLocals := 2, code := prog_8_method_12_code, exceptionTable := #[], attributes := #[] }
def k3m4 : Method := { name := "readNull", desc := "()V", sig := { parameters := [], returnType := none }, accessFlags := 0, code := some k3c4 }
def k3c5 : Code := { maxStack := 4, maxLocals := 2, code := prog_8_method_20_code, exceptionTable := #[], attributes := #[] }
def k3m5 : Method := { name := "checkNull", desc := "(II)V", sig := { parameters := [.int, .int], returnType := none }, accessFlags := 10, code := some k3c5 }
def k3c6 : Code := { maxStack := 4, maxLocals := 3, code := prog_8_method_24_code, exceptionTable := #[], attributes := #[] }
def k3m6 : Method := { name := "readContents", desc := "(ILjava/lang/String;)Lio/keyvouch/der/DerReader;", sig := { parameters := [.int, (.object "java/lang/String")], returnType := some (.object "io/keyvouch/der/DerReader") }, accessFlags := 2, code := some k3c6 }
def k3c7 : Code := { maxStack := 6, maxLocals := 3, code := prog_8_method_25_code, exceptionTable := #[], attributes := #[] }
def k3m7 : Method := { name := "skipContents", desc := "(I)Lio/keyvouch/der/DerReader;", sig := { parameters := [.int], returnType := some (.object "io/keyvouch/der/DerReader") }, accessFlags := 2, code := some k3c7 }
def k3c8 : Code := { maxStack := 3, maxLocals := 5, code := prog_8_method_26_code, exceptionTable := #[], attributes := #[] }
def k3m8 : Method := { name := "readHeader", desc := "(ILjava/lang/String;)I", sig := { parameters := [.int, (.object "java/lang/String")], returnType := some .int }, accessFlags := 2, code := some k3c8 }
def k3c9 : Code := { maxStack := 4, maxLocals := 2, code := prog_8_method_28_code, exceptionTable := #[], attributes := #[] }
def k3m9 : Method := { name := "peekIdentifier", desc := "(Ljava/lang/String;)I", sig := { parameters := [(.object "java/lang/String")], returnType := some .int }, accessFlags := 2, code := some k3c9 }
def k3c10 : Code := { maxStack := 8, maxLocals := 5, code := prog_8_method_30_code, exceptionTable := #[], attributes := #[] }
def k3m10 : Method := { name := "readLength", desc := "(Ljava/lang/String;I)I", sig := { parameters := [(.object "java/lang/String"), .int], returnType := some .int }, accessFlags := 2, code := some k3c10 }
def k3c11 : Code := { maxStack := 5, maxLocals := 8, code := prog_8_method_31_code, exceptionTable := #[], attributes := #[] }
def k3m11 : Method := { name := "readLengthField", desc := "(Ljava/lang/String;I)J", sig := { parameters := [(.object "java/lang/String"), .int], returnType := some .long }, accessFlags := 2, code := some k3c11 }
/-- io/keyvouch/der/DerReader -/
def k3 : Class := { plain "io/keyvouch/der/DerReader" (some 0) with
  accessFlags := 48
  interfaces := #[]
  cf := some (fileOf pool3 1 #[.nestMembers #[45]] #[{ accessFlags := 0, nameIndex := 5, descriptorIndex := 217, attributes := #[] }, { accessFlags := 2, nameIndex := 5, descriptorIndex := 6, attributes := #[] }, { accessFlags := 0, nameIndex := 220, descriptorIndex := 221, attributes := #[] }, { accessFlags := 0, nameIndex := 225, descriptorIndex := 226, attributes := #[] }, { accessFlags := 0, nameIndex := 242, descriptorIndex := 11, attributes := #[] }, { accessFlags := 10, nameIndex := 99, descriptorIndex := 94, attributes := #[] }, { accessFlags := 2, nameIndex := 27, descriptorIndex := 28, attributes := #[] }, { accessFlags := 2, nameIndex := 52, descriptorIndex := 53, attributes := #[] }, { accessFlags := 2, nameIndex := 89, descriptorIndex := 90, attributes := #[] }, { accessFlags := 2, nameIndex := 35, descriptorIndex := 36, attributes := #[] }, { accessFlags := 2, nameIndex := 49, descriptorIndex := 44, attributes := #[] }, { accessFlags := 2, nameIndex := 172, descriptorIndex := 173, attributes := #[] }] 48 8 #[] #[{ accessFlags := 26, nameIndex := 86, descriptorIndex := 19, attributes := #[] }, { accessFlags := 26, nameIndex := 78, descriptorIndex := 19, attributes := #[] }, { accessFlags := 26, nameIndex := 192, descriptorIndex := 19, attributes := #[] }, { accessFlags := 26, nameIndex := 194, descriptorIndex := 19, attributes := #[] }, { accessFlags := 26, nameIndex := 96, descriptorIndex := 19, attributes := #[] }, { accessFlags := 26, nameIndex := 197, descriptorIndex := 19, attributes := #[] }, { accessFlags := 26, nameIndex := 84, descriptorIndex := 19, attributes := #[] }, { accessFlags := 26, nameIndex := 200, descriptorIndex := 19, attributes := #[] }, { accessFlags := 26, nameIndex := 24, descriptorIndex := 19, attributes := #[] }, { accessFlags := 26, nameIndex := 30, descriptorIndex := 19, attributes := #[] }, { accessFlags := 26, nameIndex := 204, descriptorIndex := 19, attributes := #[] }, { accessFlags := 26, nameIndex := 206, descriptorIndex := 19, attributes := #[] }, { accessFlags := 26, nameIndex := 208, descriptorIndex := 19, attributes := #[] }, { accessFlags := 26, nameIndex := 125, descriptorIndex := 126, attributes := #[] }, { accessFlags := 26, nameIndex := 129, descriptorIndex := 126, attributes := #[] }, { accessFlags := 26, nameIndex := 210, descriptorIndex := 19, attributes := #[] }, { accessFlags := 26, nameIndex := 212, descriptorIndex := 19, attributes := #[] }, { accessFlags := 26, nameIndex := 214, descriptorIndex := 19, attributes := #[] }, { accessFlags := 26, nameIndex := 216, descriptorIndex := 19, attributes := #[] }, { accessFlags := 18, nameIndex := 14, descriptorIndex := 15, attributes := #[] }, { accessFlags := 18, nameIndex := 22, descriptorIndex := 19, attributes := #[] }, { accessFlags := 2, nameIndex := 18, descriptorIndex := 19, attributes := #[] }])
  fields := #[{ name := "BOOLEAN", type := .int, accessFlags := 26, slot := 0, constantValue := 0 }, { name := "INTEGER", type := .int, accessFlags := 26, slot := 1, constantValue := 0 }, { name := "BIT_STRING", type := .int, accessFlags := 26, slot := 2, constantValue := 0 }, { name := "OCTET_STRING", type := .int, accessFlags := 26, slot := 3, constantValue := 0 }, { name := "NULL", type := .int, accessFlags := 26, slot := 4, constantValue := 0 }, { name := "OBJECT_IDENTIFIER", type := .int, accessFlags := 26, slot := 5, constantValue := 0 }, { name := "ENUMERATED", type := .int, accessFlags := 26, slot := 6, constantValue := 0 }, { name := "RELATIVE_OID", type := .int, accessFlags := 26, slot := 7, constantValue := 0 }, { name := "SEQUENCE", type := .int, accessFlags := 26, slot := 8, constantValue := 0 }, { name := "SET", type := .int, accessFlags := 26, slot := 9, constantValue := 0 }, { name := "CLASS", type := .int, accessFlags := 26, slot := 10, constantValue := 0 }, { name := "UNIVERSAL", type := .int, accessFlags := 26, slot := 11, constantValue := 0 }, { name := "CONSTRUCTED", type := .int, accessFlags := 26, slot := 12, constantValue := 0 }, { name := "PRIMITIVE_TYPES", type := .long, accessFlags := 26, slot := 13, constantValue := 0 }, { name := "CONSTRUCTED_TYPES", type := .long, accessFlags := 26, slot := 14, constantValue := 0 }, { name := "CLASS_AND_FORM", type := .int, accessFlags := 26, slot := 15, constantValue := 0 }, { name := "CONTEXT_SPECIFIC_CONSTRUCTED", type := .int, accessFlags := 26, slot := 16, constantValue := 0 }, { name := "HIGH_TAG_NUMBER_FORM", type := .int, accessFlags := 26, slot := 17, constantValue := 0 }, { name := "MAX_LENGTH_BYTES", type := .int, accessFlags := 26, slot := 18, constantValue := 0 }, { name := "der", type := (.array .byte), accessFlags := 18, slot := 0, constantValue := 0 }, { name := "end", type := .int, accessFlags := 18, slot := 1, constantValue := 0 }, { name := "pos", type := .int, accessFlags := 2, slot := 2, constantValue := 0 }]
  methods := #[k3m0, k3m1, k3m2, k3m3, k3m4, k3m5, k3m6, k3m7, k3m8, k3m9, k3m10, k3m11]
  instanceTypes := #[(.array .byte), .int, .int]
  staticTypes := #[.int, .int, .int, .int, .int, .int, .int, .int, .int, .int, .int, .int, .int, .long, .long, .int, .int, .int, .int]
  resolved := Array.replicate 312 none
  statics := none }

def pool4 : Array CpInfo := pool [(1, .class_ 2), (0, u "java/io/Serializable"), (0, .class_ 4), (0, u "java/lang/Object")] 2

/-- java/io/Serializable -/
def k4 : Class := { plain "java/io/Serializable" (some 0) with
  accessFlags := 1537
  interfaces := #[]
  cf := some (fileOf pool4 1 #[] #[] 1537 3 #[] #[])
  fields := #[]
  methods := #[]
  instanceTypes := #[]
  staticTypes := #[]
  resolved := Array.replicate 7 none
  statics := none }

def pool5 : Array CpInfo := pool [(1, .class_ 2), (0, u "java/lang/Comparable"), (0, .class_ 4), (0, u "java/lang/Object")] 7

/-- java/lang/Comparable -/
def k5 : Class := { plain "java/lang/Comparable" (some 0) with
  accessFlags := 1537
  interfaces := #[]
  cf := some (fileOf pool5 1 #[] #[] 1537 3 #[] #[])
  fields := #[]
  methods := #[]
  instanceTypes := #[]
  staticTypes := #[]
  resolved := Array.replicate 12 none
  statics := none }

def pool6 : Array CpInfo := pool [(2, .class_ 4), (1, u "java/lang/CharSequence"), (42, .class_ 48), (0, u "java/lang/CharSequence$1CodePointIterator"), (10, .class_ 60), (0, u "java/lang/CharSequence$1CharIterator"), (5, .class_ 67), (0, u "java/lang/Object")] 63

/-- java/lang/CharSequence -/
def k6 : Class := { plain "java/lang/CharSequence" (some 0) with
  accessFlags := 1537
  interfaces := #[]
  cf := some (fileOf pool6 2 #[.nestMembers #[47, 59]] #[] 1537 66 #[] #[])
  fields := #[]
  methods := #[]
  instanceTypes := #[]
  staticTypes := #[]
  resolved := Array.replicate 131 none
  statics := none }

def pool7 : Array CpInfo := pool [(1, .class_ 2), (0, u "java/lang/constant/Constable"), (0, .class_ 4), (0, u "java/lang/Object")] 6

/-- java/lang/constant/Constable -/
def k7 : Class := { plain "java/lang/constant/Constable" (some 0) with
  accessFlags := 1537
  interfaces := #[]
  cf := some (fileOf pool7 1 #[] #[] 1537 3 #[] #[])
  fields := #[]
  methods := #[]
  instanceTypes := #[]
  staticTypes := #[]
  resolved := Array.replicate 11 none
  statics := none }

def pool8 : Array CpInfo := pool [(1, .class_ 2), (0, u "java/lang/constant/ConstantDesc"), (0, .class_ 4), (0, u "java/lang/Object")] 32

/-- java/lang/constant/ConstantDesc -/
def k8 : Class := { plain "java/lang/constant/ConstantDesc" (some 0) with
  accessFlags := 1537
  interfaces := #[]
  cf := some (fileOf pool8 1 #[] #[] 1537 3 #[] #[])
  fields := #[]
  methods := #[]
  instanceTypes := #[]
  staticTypes := #[]
  resolved := Array.replicate 37 none
  statics := none }

def pool9 : Array CpInfo := pool [(2, .class_ 4), (1, u "java/lang/Object"), (0, u "<init>"), (0, u "()V"), (3, .class_ 12), (1, u "java/lang/String"), (0, u "value"), (0, u "[B"), (2, u "coder"), (0, u "B"), (2, u "hash"), (0, u "I"), (2, u "hashIsZero"), (0, u "Z"), (13, u "COMPACT_STRINGS"), (534, .class_ 576), (0, u "java/lang/CharSequence"), (22, u "CASE_INSENSITIVE_ORDER"), (0, u "Ljava/util/Comparator;"), (500, u "serialPersistentFields"), (0, u "[Ljava/io/ObjectStreamField;"), (0, .class_ 1104), (0, u "java/lang/String$CaseInsensitiveComparator"), (1, .class_ 1107), (0, u "java/io/Serializable"), (0, .class_ 1109), (0, u "java/lang/Comparable"), (0, .class_ 1111), (0, u "java/lang/constant/Constable"), (0, .class_ 1113), (0, u "java/lang/constant/ConstantDesc"), (2, u "serialVersionUID"), (0, u "J"), (3, u "REPL"), (0, u "C"), (2, u "LATIN1"), (1, u "UTF16")] 323

def k9m0 : Method := { name := "<init>", desc := "()V", sig := { parameters := [], returnType := none }, accessFlags := 1, code := none }
/-- java/lang/String -/
def k9 : Class := { plain "java/lang/String" (some 0) with
  accessFlags := 49
  interfaces := #[4, 5, 6, 7, 8]
  cf := some (fileOf pool9 10 #[.nestMembers #[1103]] #[{ accessFlags := 1, nameIndex := 5, descriptorIndex := 6, attributes := #[] }] 49 2 #[1106, 1108, 575, 1110, 1112] #[{ accessFlags := 18, nameIndex := 13, descriptorIndex := 14, attributes := #[] }, { accessFlags := 18, nameIndex := 17, descriptorIndex := 18, attributes := #[] }, { accessFlags := 2, nameIndex := 21, descriptorIndex := 22, attributes := #[] }, { accessFlags := 2, nameIndex := 25, descriptorIndex := 26, attributes := #[] }, { accessFlags := 26, nameIndex := 1116, descriptorIndex := 1117, attributes := #[] }, { accessFlags := 24, nameIndex := 40, descriptorIndex := 26, attributes := #[] }, { accessFlags := 26, nameIndex := 1101, descriptorIndex := 1102, attributes := #[] }, { accessFlags := 26, nameIndex := 1121, descriptorIndex := 1122, attributes := #[] }, { accessFlags := 25, nameIndex := 599, descriptorIndex := 600, attributes := #[] }, { accessFlags := 24, nameIndex := 1125, descriptorIndex := 18, attributes := #[] }, { accessFlags := 24, nameIndex := 1127, descriptorIndex := 18, attributes := #[] }])
  fields := #[{ name := "value", type := (.array .byte), accessFlags := 18, slot := 0, constantValue := 0 }, { name := "coder", type := .byte, accessFlags := 18, slot := 1, constantValue := 0 }, { name := "hash", type := .int, accessFlags := 2, slot := 2, constantValue := 0 }, { name := "hashIsZero", type := .boolean, accessFlags := 2, slot := 3, constantValue := 0 }, { name := "serialVersionUID", type := .long, accessFlags := 26, slot := 0, constantValue := 0 }, { name := "COMPACT_STRINGS", type := .boolean, accessFlags := 24, slot := 1, constantValue := 0 }, { name := "serialPersistentFields", type := (.array (.object "java/io/ObjectStreamField")), accessFlags := 26, slot := 2, constantValue := 0 }, { name := "REPL", type := .char, accessFlags := 26, slot := 3, constantValue := 0 }, { name := "CASE_INSENSITIVE_ORDER", type := (.object "java/util/Comparator"), accessFlags := 25, slot := 4, constantValue := 0 }, { name := "LATIN1", type := .byte, accessFlags := 24, slot := 5, constantValue := 0 }, { name := "UTF16", type := .byte, accessFlags := 24, slot := 6, constantValue := 0 }]
  methods := #[k9m0]
  instanceTypes := #[(.array .byte), .byte, .int, .boolean]
  staticTypes := #[.long, .boolean, (.array (.object "java/io/ObjectStreamField")), .char, (.object "java/util/Comparator"), .byte, .byte]
  resolved := Array.replicate 1451 none
  statics := none }

def pool10 : Array CpInfo := pool [(1, u "java/lang/Cloneable"), (0, .class_ 1), (0, u "java/lang/Object"), (0, .class_ 3)] 3

/-- java/lang/Cloneable -/
def k10 : Class := { plain "java/lang/Cloneable" (some 0) with
  accessFlags := 1537
  interfaces := #[]
  cf := some (fileOf pool10 2 #[] #[] 1537 4 #[] #[])
  fields := #[]
  methods := #[]
  instanceTypes := #[]
  staticTypes := #[]
  resolved := Array.replicate 8 none
  statics := none }

/-- the primitive byte -/
def k11 : Class := { plain "byte" none with kind := .primitive 'B', accessFlags := 0x411 }
/-- [B -/
def k12 : Class := { plain "[B" (some 0) with kind := .array 11 .byte, interfaces := #[10, 4], accessFlags := 1041 }

/-- the primitive int -/
def k13 : Class := { plain "int" none with kind := .primitive 'I', accessFlags := 0x411 }
/-- [I -/
def k14 : Class := { plain "[I" (some 0) with kind := .array 13 .int, interfaces := #[10, 4], accessFlags := 1041 }

def heap : Heap := #[]
def classes : Array Class := #[k0, k1, k2, k3, k4, k5, k6, k7, k8, k9, k10, k11, k12, k13, k14]
def interned : List (Array UInt16 × Addr) := []
def slotsUsed : Nat := 0
def theMethod : MethodId := ⟨1, 1⟩
def args0 : Array Value := #[.int 5, .int 6, .int 7, .int 8]
def aboutOver (below : List Frame) : State where
  vm := { classes := classes, interned := interned.toArray }
  heap := heap
  slotsUsed := slotsUsed
  threads := #[{ frames := .invoking theMethod args0 :: below }]
def below0 : List Frame := [.native { method := ⟨0, 0⟩, args := #[] }]
def about1 : State := aboutOver below0
def p0 : Program := .bare "" "" ""
def e0 : Env := launch0.env 0 0 0
theorem w_frames : about1.frames = Frame.invoking theMethod args0 :: below0 := rfl
set_option maxRecDepth 65536 in
theorem w_args : argsFit about1.vm theMethod args0 = true := by decide +kernel
set_option maxRecDepth 65536 in
theorem w_heap : heapFits about1 = true := by decide +kernel
set_option maxRecDepth 65536 in
theorem w_runnable : about1.curStatus? = some .runnable := by decide +kernel
set_option maxRecDepth 65536 in
theorem w_alone : about1.alone = true := by decide +kernel
set_option maxRecDepth 65536 in
theorem w_named : about1.methodNamed? x = some theMethod := by decide +kernel
set_option maxRecDepth 65536 in
theorem w_hears : about1.hears theMethod below0 = true := by decide +kernel
set_option maxRecDepth 65536 in
theorem w_ripe : about1.ripe theMethod args0 below0 = true := by decide +kernel
theorem w_running : about1.status = .running := rfl
set_option maxRecDepth 65536 in
theorem w_room : about1.hasRoom e0.platform room_1 = true :=
  launch0.hasRoom_least _ room_1 (by decide +kernel) (by decide +kernel) (by decide +kernel) (by decide +kernel) (by decide +kernel) (by decide +kernel)
theorem allAtoms_all (ts : List Jvm.Cond) (a : Array Jvm.Value) (st : Jvm.State) : (allAtoms ts).before a st = ts.all (fun c => c.before a st) := by
  induction ts with
  | nil => rfl
  | cons c t ih =>
    show (Jvm.Cond.and c (allAtoms t)).before a st = _
    rw [Jvm.Cond.before_and, ih, List.all_cons]
def words1 : List Jvm.Cond := Jvm.Cond.code x code maxLocals ret :: tables_1
/-- a 'code' word, met by the world's own term for the bytes: nothing is compared byte by byte -/
theorem code_word {y : MethodName} {bytes : ByteArray} {mx : Nat} {rt : Option FieldType} {a : Array Value} {s : State} {m : MethodId} {meth : Method} {c : Code} (h1 : s.methodNamed? y = some m) (h2 : s.vm.method? m = some meth) (h3 : meth.code = some c) (h4 : c.code = bytes)
    (h5 : (c.maxLocals == mx && c.exceptionTable.isEmpty && decide (c.maxStack ≤ mostOperands) && decide (meth.sig.returnType = rt) && !meth.locks && decide (parseMethodDescriptor y.desc = some meth.sig)) = true) : (Jvm.Cond.code y bytes mx rt).before a s = true := by
  simp only [Bool.and_eq_true, beq_iff_eq, Bool.not_eq_true', decide_eq_true_eq] at h5
  obtain ⟨⟨⟨⟨⟨g1, g2⟩, g3⟩, g4⟩, g5⟩, g6⟩ := h5
  simp [Cond.before, Cond.holds, Cond.value, h1, h2, h3, h4, g1, g2, g3, g4, g5, g6]
def isCode : Jvm.Cond → Bool
  | .code _ _ _ _ => true
  | _ => false
theorem all_split {L : List Jvm.Cond} {P : Jvm.Cond → Bool} (h1 : L.all (fun c => isCode c || P c) = true) (h2 : ∀ c ∈ L.filter isCode, P c = true) : L.all P = true := by
  refine List.all_eq_true.mpr fun c hc => ?_
  have h := List.all_eq_true.mp h1 c hc
  rcases Bool.eq_false_or_eq_true (isCode c) with hi | hi
  · exact h2 c (List.mem_filter.mpr ⟨hc, hi⟩)
  · simpa [hi] using h
set_option maxRecDepth 65536 in
theorem w_c0 : (Jvm.Cond.code x code maxLocals ret).before args0 about1 = true := code_word (m := ⟨1, 1⟩) (meth := k1m1) (c := k1c1) (by decide +kernel) rfl rfl rfl (by decide +kernel)
set_option maxRecDepth 65536 in
theorem w_c1 : (Jvm.Cond.code ({ cls := "java/lang/Math", name := "min", desc := "(II)I" } : Jvm.MethodName) jdk_29_method_69_code (2 : Nat) (Option.some Jvm.ClassFile.FieldType.int)).before args0 about1 = true := code_word (m := ⟨2, 1⟩) (meth := k2m1) (c := k2c1) (by decide +kernel) rfl rfl rfl (by decide +kernel)
set_option maxRecDepth 65536 in
theorem w_c2 : (Jvm.Cond.code ({ cls := "io/keyvouch/der/DerReader", name := "<init>", desc := "([B)V" } : Jvm.MethodName) prog_8_method_1_code (2 : Nat) (Option.none : Option Jvm.ClassFile.FieldType)).before args0 about1 = true := code_word (m := ⟨3, 0⟩) (meth := k3m0) (c := k3c0) (by decide +kernel) rfl rfl rfl (by decide +kernel)
set_option maxRecDepth 65536 in
theorem w_c3 : (Jvm.Cond.code ({ cls := "io/keyvouch/der/DerReader", name := "<init>", desc := "([BII)V" } : Jvm.MethodName) prog_8_method_2_code (4 : Nat) (Option.none : Option Jvm.ClassFile.FieldType)).before args0 about1 = true := code_word (m := ⟨3, 1⟩) (meth := k3m1) (c := k3c1) (by decide +kernel) rfl rfl rfl (by decide +kernel)
set_option maxRecDepth 65536 in
theorem w_c4 : (Jvm.Cond.code ({ cls := "java/lang/Object", name := "<init>", desc := "()V" } : Jvm.MethodName) object_method_1_code (1 : Nat) (Option.none : Option Jvm.ClassFile.FieldType)).before args0 about1 = true := code_word (m := ⟨0, 0⟩) (meth := k0m0) (c := k0c0) (by decide +kernel) rfl rfl rfl (by decide +kernel)
set_option maxRecDepth 65536 in
theorem w_c5 : (Jvm.Cond.code ({ cls := "io/keyvouch/der/DerReader", name := "readSequence", desc := "()Lio/keyvouch/der/DerReader;" } : Jvm.MethodName) prog_8_method_5_code (1 : Nat) (Option.some (Jvm.ClassFile.FieldType.object "io/keyvouch/der/DerReader"))).before args0 about1 = true := code_word (m := ⟨3, 3⟩) (meth := k3m3) (c := k3c3) (by decide +kernel) rfl rfl rfl (by decide +kernel)
set_option maxRecDepth 65536 in
theorem w_c6 : (Jvm.Cond.code ({ cls := "io/keyvouch/der/DerReader", name := "readContents", desc := "(ILjava/lang/String;)Lio/keyvouch/der/DerReader;" } : Jvm.MethodName) prog_8_method_24_code (3 : Nat) (Option.some (Jvm.ClassFile.FieldType.object "io/keyvouch/der/DerReader"))).before args0 about1 = true := code_word (m := ⟨3, 6⟩) (meth := k3m6) (c := k3c6) (by decide +kernel) rfl rfl rfl (by decide +kernel)
set_option maxRecDepth 65536 in
theorem w_c7 : (Jvm.Cond.code ({ cls := "io/keyvouch/der/DerReader", name := "readHeader", desc := "(ILjava/lang/String;)I" } : Jvm.MethodName) prog_8_method_26_code (5 : Nat) (Option.some Jvm.ClassFile.FieldType.int)).before args0 about1 = true := code_word (m := ⟨3, 8⟩) (meth := k3m8) (c := k3c8) (by decide +kernel) rfl rfl rfl (by decide +kernel)
set_option maxRecDepth 65536 in
theorem w_c8 : (Jvm.Cond.code ({ cls := "io/keyvouch/der/DerReader", name := "peekIdentifier", desc := "(Ljava/lang/String;)I" } : Jvm.MethodName) prog_8_method_28_code (2 : Nat) (Option.some Jvm.ClassFile.FieldType.int)).before args0 about1 = true := code_word (m := ⟨3, 9⟩) (meth := k3m9) (c := k3c9) (by decide +kernel) rfl rfl rfl (by decide +kernel)
set_option maxRecDepth 65536 in
theorem w_c9 : (Jvm.Cond.code ({ cls := "io/keyvouch/der/DerReader", name := "readLength", desc := "(Ljava/lang/String;I)I" } : Jvm.MethodName) prog_8_method_30_code (5 : Nat) (Option.some Jvm.ClassFile.FieldType.int)).before args0 about1 = true := code_word (m := ⟨3, 10⟩) (meth := k3m10) (c := k3c10) (by decide +kernel) rfl rfl rfl (by decide +kernel)
set_option maxRecDepth 65536 in
theorem w_c10 : (Jvm.Cond.code ({ cls := "io/keyvouch/der/DerReader", name := "readLengthField", desc := "(Ljava/lang/String;I)J" } : Jvm.MethodName) prog_8_method_31_code (8 : Nat) (Option.some Jvm.ClassFile.FieldType.long)).before args0 about1 = true := code_word (m := ⟨3, 11⟩) (meth := k3m11) (c := k3c11) (by decide +kernel) rfl rfl rfl (by decide +kernel)
set_option maxRecDepth 65536 in
theorem w_c11 : (Jvm.Cond.code ({ cls := "io/keyvouch/der/DerReader", name := "skipContents", desc := "(I)Lio/keyvouch/der/DerReader;" } : Jvm.MethodName) prog_8_method_25_code (3 : Nat) (Option.some (Jvm.ClassFile.FieldType.object "io/keyvouch/der/DerReader"))).before args0 about1 = true := code_word (m := ⟨3, 7⟩) (meth := k3m7) (c := k3c7) (by decide +kernel) rfl rfl rfl (by decide +kernel)
set_option maxRecDepth 65536 in
theorem w_c12 : (Jvm.Cond.code ({ cls := "io/keyvouch/der/DerReader", name := "hasMore", desc := "()Z" } : Jvm.MethodName) prog_8_method_3_code (1 : Nat) (Option.some Jvm.ClassFile.FieldType.boolean)).before args0 about1 = true := code_word (m := ⟨3, 2⟩) (meth := k3m2) (c := k3c2) (by decide +kernel) rfl rfl rfl (by decide +kernel)
set_option maxRecDepth 65536 in
theorem w_c13 : (Jvm.Cond.code ({ cls := "io/keyvouch/der/DerReader", name := "readNull", desc := "()V" } : Jvm.MethodName) prog_8_method_12_code (2 : Nat) (Option.none : Option Jvm.ClassFile.FieldType)).before args0 about1 = true := code_word (m := ⟨3, 4⟩) (meth := k3m4) (c := k3c4) (by decide +kernel) rfl rfl rfl (by decide +kernel)
set_option maxRecDepth 65536 in
theorem w_c14 : (Jvm.Cond.code ({ cls := "io/keyvouch/der/DerReader", name := "checkNull", desc := "(II)V" } : Jvm.MethodName) prog_8_method_20_code (2 : Nat) (Option.none : Option Jvm.ClassFile.FieldType)).before args0 about1 = true := code_word (m := ⟨3, 5⟩) (meth := k3m5) (c := k3c5) (by decide +kernel) rfl rfl rfl (by decide +kernel)
def codes1 : List Jvm.Cond := [Jvm.Cond.code x code maxLocals ret, Jvm.Cond.code ({ cls := "java/lang/Math", name := "min", desc := "(II)I" } : Jvm.MethodName) jdk_29_method_69_code (2 : Nat) (Option.some Jvm.ClassFile.FieldType.int), Jvm.Cond.code ({ cls := "io/keyvouch/der/DerReader", name := "<init>", desc := "([B)V" } : Jvm.MethodName) prog_8_method_1_code (2 : Nat) (Option.none : Option Jvm.ClassFile.FieldType), Jvm.Cond.code ({ cls := "io/keyvouch/der/DerReader", name := "<init>", desc := "([BII)V" } : Jvm.MethodName) prog_8_method_2_code (4 : Nat) (Option.none : Option Jvm.ClassFile.FieldType), Jvm.Cond.code ({ cls := "java/lang/Object", name := "<init>", desc := "()V" } : Jvm.MethodName) object_method_1_code (1 : Nat) (Option.none : Option Jvm.ClassFile.FieldType), Jvm.Cond.code ({ cls := "io/keyvouch/der/DerReader", name := "readSequence", desc := "()Lio/keyvouch/der/DerReader;" } : Jvm.MethodName) prog_8_method_5_code (1 : Nat) (Option.some (Jvm.ClassFile.FieldType.object "io/keyvouch/der/DerReader")), Jvm.Cond.code ({ cls := "io/keyvouch/der/DerReader", name := "readContents", desc := "(ILjava/lang/String;)Lio/keyvouch/der/DerReader;" } : Jvm.MethodName) prog_8_method_24_code (3 : Nat) (Option.some (Jvm.ClassFile.FieldType.object "io/keyvouch/der/DerReader")), Jvm.Cond.code ({ cls := "io/keyvouch/der/DerReader", name := "readHeader", desc := "(ILjava/lang/String;)I" } : Jvm.MethodName) prog_8_method_26_code (5 : Nat) (Option.some Jvm.ClassFile.FieldType.int), Jvm.Cond.code ({ cls := "io/keyvouch/der/DerReader", name := "peekIdentifier", desc := "(Ljava/lang/String;)I" } : Jvm.MethodName) prog_8_method_28_code (2 : Nat) (Option.some Jvm.ClassFile.FieldType.int), Jvm.Cond.code ({ cls := "io/keyvouch/der/DerReader", name := "readLength", desc := "(Ljava/lang/String;I)I" } : Jvm.MethodName) prog_8_method_30_code (5 : Nat) (Option.some Jvm.ClassFile.FieldType.int), Jvm.Cond.code ({ cls := "io/keyvouch/der/DerReader", name := "readLengthField", desc := "(Ljava/lang/String;I)J" } : Jvm.MethodName) prog_8_method_31_code (8 : Nat) (Option.some Jvm.ClassFile.FieldType.long), Jvm.Cond.code ({ cls := "io/keyvouch/der/DerReader", name := "skipContents", desc := "(I)Lio/keyvouch/der/DerReader;" } : Jvm.MethodName) prog_8_method_25_code (3 : Nat) (Option.some (Jvm.ClassFile.FieldType.object "io/keyvouch/der/DerReader")), Jvm.Cond.code ({ cls := "io/keyvouch/der/DerReader", name := "hasMore", desc := "()Z" } : Jvm.MethodName) prog_8_method_3_code (1 : Nat) (Option.some Jvm.ClassFile.FieldType.boolean), Jvm.Cond.code ({ cls := "io/keyvouch/der/DerReader", name := "readNull", desc := "()V" } : Jvm.MethodName) prog_8_method_12_code (2 : Nat) (Option.none : Option Jvm.ClassFile.FieldType), Jvm.Cond.code ({ cls := "io/keyvouch/der/DerReader", name := "checkNull", desc := "(II)V" } : Jvm.MethodName) prog_8_method_20_code (2 : Nat) (Option.none : Option Jvm.ClassFile.FieldType)]
set_option maxRecDepth 65536 in
theorem codes_eq : words1.filter isCode = codes1 := rfl
theorem w_codes : ∀ c ∈ words1.filter isCode, c.before args0 about1 = true := by
  rw [codes_eq]
  intro c hc
  simp only [codes1, List.mem_cons, List.not_mem_nil, or_false] at hc
  rcases hc with rfl | rfl | rfl | rfl | rfl | rfl | rfl | rfl | rfl | rfl | rfl | rfl | rfl | rfl | rfl
  · exact w_c0
  · exact w_c1
  · exact w_c2
  · exact w_c3
  · exact w_c4
  · exact w_c5
  · exact w_c6
  · exact w_c7
  · exact w_c8
  · exact w_c9
  · exact w_c10
  · exact w_c11
  · exact w_c12
  · exact w_c13
  · exact w_c14
set_option maxRecDepth 65536 in
theorem w_t1 : (words1.take 24).all (fun c => isCode c || c.before args0 about1) = true := by decide +kernel
set_option maxRecDepth 65536 in
theorem w_t2 : ((words1.drop 24).take 24).all (fun c => isCode c || c.before args0 about1) = true := by decide +kernel
set_option maxRecDepth 65536 in
theorem w_t3 : (((words1.drop 24).drop 24).take 24).all (fun c => isCode c || c.before args0 about1) = true := by decide +kernel
set_option maxRecDepth 65536 in
theorem w_t4 : (((words1.drop 24).drop 24).drop 24).all (fun c => isCode c || c.before args0 about1) = true := by decide +kernel
theorem w_tables : (allAtoms (Jvm.Cond.code x code maxLocals ret :: tables_1)).before args0 about1 = true := by
  rw [allAtoms_all]
  show words1.all (fun c => c.before args0 about1) = true
  refine all_split ?_ w_codes
  rw [← List.take_append_drop 24 words1, List.all_append, w_t1, ← List.take_append_drop 24 (words1.drop 24), List.all_append, w_t2, ← List.take_append_drop 24 ((words1.drop 24).drop 24), List.all_append, w_t3, w_t4]
  rfl
set_option maxRecDepth 65536 in
theorem w_case : (Jvm.Cond.and given_1 narrow_1).before args0 about1 = true := by decide +kernel
theorem w_applies : (headSpec (Jvm.Cond.code x code maxLocals ret :: tables_1) room_1).applies x e0.platform about1 = true :=
  (Spec.applies_iff w_frames).mpr ⟨w_running, w_runnable, w_alone, w_named, w_hears, w_ripe, w_room, w_tables⟩
theorem atStart : AtStart classFile x code maxLocals ret World_1 tables_1 room_1 Calls_1 rest_1 Pre_1 launch0 p0 e0 about1 theMethod args0 below0 :=
  ⟨lists_1, trivial, launch0.admits_env _ _ _, launch0.least_env, fairChoices_fair.cas, fairChoices_fair.clock, w_frames, w_args, w_heap, w_applies, trivial, trivial, w_case⟩
end start1
theorem witness_1 : WitnessClaimed_1 := ⟨start1.p0, start1.e0, start1.about1, start1.theMethod, start1.args0, start1.below0, start1.atStart⟩
end Jvm.Pilot.@@N@@
