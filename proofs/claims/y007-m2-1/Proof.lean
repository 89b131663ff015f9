import JvmDerived
import JvmDerived.Pilot.@@N@@Statement
import JvmDerived.Pilot.@@N@@Code
set_option linter.unusedVariables false
set_option linter.unusedSimpArgs false
@@BLOCK:NumsL.lean.txt@@
namespace Jvm.Own
open Jvm Jvm.ClassFile Sem Op Lib Jvm.Free Jvm.Stand Jvm.LawKit Jvm.RoadKit
/-! THE WALKER's LAYER: 'B.G h cl sl g': from every place where the walk stands over the heap h with the frame g (cl cells, sl slots made), the method returns as its contract says. One law a step, backwards. -/
/-- written places lie in cells of ws or in new cells -/
def Frw (ws : List Addr) (k : Nat) (L : List Loc) : Prop := ∀ y ∈ L, y.base ∈ ws ∨ k ≤ y.base
/-- what a contract says at the end -/
def Qw (C : Option Value → Heap → Prop) (ws : List Addr) (h0 : Heap) (v : Option Value) (h : Heap) (L : List Loc) : Prop := C v h ∧ Frw ws h0.size L ∧ Keep h0 h ws
/-- a contract: called with the arguments as over the heap h0, it returns, as C says, writing in ws or in new cells alone -/
def Met (l : Launch) (Z : State) (y : MethodName) (bytes : ByteArray) (maxL : Nat) (ret : Option FieldType) (wds : List Jvm.Cond) (rm : Room) (as : Array Value) (h0 : Heap) (ws : List Addr) (C : Option Value → Heap → Prop) : Prop :=
  MetFree l y (head1 (Jvm.Cond.code y bytes maxL ret :: wds) rm) (fun a U => a = as ∧ Z.Warmed39 U.vm ∧ U.heap = h0) (fun _ _ _ _ _ => True) (fun _ U o U' => ∃ v L, o = .returned v ∧ Qw C ws h0 v U'.heap L ∧ FrameEnd U o U' L rm.cells rm.slots)
/-- what stands still through a body's walk -/
def Base (p : Program) (l : Launch) (e : Env) (R : Room) (s : State) (m : MethodId) (args : Array Value) (below : List Frame) (meth : Method) (c : Code) (Z : State) (y : MethodName) (bytes : ByteArray) (maxL : Nat) (ret : Option FieldType) (h0 : Heap) (ws : List Addr) (C : Option Value → Heap → Prop) : Prop :=
  p.tables.exec = Jvm.exec ∧ c.code = bytes ∧ c.maxLocals = maxL ∧ Z.Warmed39 s.vm ∧ s.vm.findClass y.cls = some m.cls ∧ meth.sig.returnType = ret ∧ meth.locks = false ∧ meth.name = y.name ∧ s.heap = h0
section Walk
variable {p : Program} {l : Launch} {e : Env} {R : Room} {s : State} {m : MethodId} {args : Array Value} {below : List Frame} {meth : Method} {c : Code} {Z : State} {a0 : Array Value} {y : MethodName} {bytes : ByteArray} {maxL : Nat} {ret : Option FieldType} {h0 : Heap} {ws : List Addr} {C : Option Value → Heap → Prop}
/-- from here the method returns as its contract says -/
def Base.G (B : Base p l e R s m args below meth c Z y bytes maxL ret h0 ws C) (h : Heap) (cl sl : Nat) (g : JFrame) : Prop :=
  ∀ (T : State) (locs : List Loc), Stand p l e R s m args below meth c T locs cl sl → Frw ws h0.size locs → T.heap = h → ∃ (t : State) (o : Outcome), Steps p.tables e below (T.setTop g) t ∧ t.status = .running ∧ Ended t below o ∧ ∃ v L, o = .returned v ∧ Qw C ws h0 v t.heap L ∧ FrameEnd s o t L R.cells R.slots
variable {h : Heap} {cl sl : Nat} {g g' : JFrame} {pc : Nat} {Ls : Array Slot} {st : List Value}
theorem Base.via (B : Base p l e R s m args below meth c Z y bytes maxL ret h0 ws C) (st : ∀ (T t : State), At T m c below → Steps p.tables e below (T.setTop g') t → Steps p.tables e below (T.setTop g) t) (k : B.G h cl sl g') : B.G h cl sl g := fun T locs X N eT => by
  obtain ⟨t, o, q, r⟩ := k T locs X N eT
  exact ⟨t, o, st T t X.here q, r⟩
theorem Base.viaX (B : Base p l e R s m args below meth c Z y bytes maxL ret h0 ws C) (st : ∀ (T t : State) (locs : List Loc), Stand p l e R s m args below meth c T locs cl sl → T.heap = h → Steps p.tables e below (T.setTop g') t → Steps p.tables e below (T.setTop g) t) (k : B.G h cl sl g') : B.G h cl sl g := fun T locs X N eT => by
  obtain ⟨t, o, q, r⟩ := k T locs X N eT
  exact ⟨t, o, st T t locs X eT q, r⟩
theorem Frw.nil (ws : List Addr) (k : Nat) : Frw ws k [] := fun _ q => nomatch q
theorem Frw.app {k : Nat} {L L' : List Loc} (N : Frw ws k L) (N' : Frw ws k L') : Frw ws k (L ++ L') := fun y q => (List.mem_append.mp q).elim (N y) (N' y)
theorem Frw.one {k : Nat} {L : List Loc} {a : Addr} {i : Nat} (N : Frw ws k L) (q : a ∈ ws ∨ k ≤ a) : Frw ws k (L ++ [⟨a, i⟩]) := N.app fun y hy => by cases List.mem_singleton.mp hy; exact q
theorem keep_of {T : State} {locs : List Loc} (X : Stand p l e R s m args below meth c T locs cl sl) (N : Frw ws s.heap.size locs) : Keep s.heap T.heap ws := by
  obtain ⟨-, h1, -, -, -, h2⟩ := X.same
  refine ⟨h1, fun x cc hc hn => ?_, fun x cc hc => ?_⟩
  · obtain ⟨c', e1, e2, e3, e4⟩ := h2 x cc hc
    have hlt := (Array.getElem?_eq_some_iff.mp hc).1
    have q : c'.slots = cc.slots := Array.ext_getElem? fun i => e4 i fun hm => by
      rcases N _ hm with z | z
      · exact hn z
      · exact absurd hlt (Nat.not_lt.mpr z)
    have e1' : T.heap[x]? = some c' := e1
    rw [e1', e2, q]
  · obtain ⟨c', e1, e2, e3, -⟩ := h2 x cc hc
    exact ⟨c', e1, by rw [e2], by rw [e2], e3⟩
theorem Met.walk (hpn : plainFor y = true) {as : Array Value} {rm : Room} {wds : List Jvm.Cond} (hef : ∀ m, entryFrame m as maxL = mkF m 0 Ls [])
    (body : ∀ (p : Program) (e : Env) (s : State) (m : MethodId) (below : List Frame) (meth : Method) (c : Code) (B : Base p l e rm s m as below meth c Z y bytes maxL ret h0 ws C), B.G h0 0 0 (mkF m 0 Ls [])) : Met l Z y bytes maxL ret wds rm as h0 ws C := by
  refine MetFree.of_bodySF hpn hisR ?_
  intro p e s m args below meth c s₁ Bd hml0 hP hK
  obtain ⟨rfl, hZ, hh⟩ := hP
  have X0 : Stand p l e rm s m args below meth c s₁ [] 0 0 := Stand.of_body Bd
  have e0 : s₁.heap = h0 := by rw [← hh, Bd.state]; rfl
  obtain ⟨t, o, q, r⟩ := body p e s m below meth c ⟨Bd.exec, Bd.bytes, hml0, hZ, findClass_of_methodNamed Bd.named, Bd.returns, Bd.notSynchronized, (name_of_methodNamed Bd.named Bd.method).1, hh⟩ s₁ [] X0 (Frw.nil _ _) e0
  exact ⟨t, o, castTop (hef m) q, r⟩
theorem Met.mono {as : Array Value} {rm : Room} {wds : List Jvm.Cond} {C' : Option Value → Heap → Prop} (M : Met l Z y bytes maxL ret wds rm as h0 ws C) (q : ∀ v h, C v h → C' v h) : Met l Z y bytes maxL ret wds rm as h0 ws C' := by
  intro p e ha hc hk s m args below hf happ hP hK
  obtain ⟨n, o, q1, q2, q3, v, L, q4, ⟨r1, r2⟩, q5⟩ := M p e ha hc hk s m args below hf happ hP hK
  exact ⟨n, o, q1, q2, q3, v, L, q4, ⟨q _ _ r1, r2⟩, q5⟩
/-! 1. steps that touch no heap -/
theorem Base.aloadN (B : Base p l e R s m args below meth c Z y bytes maxL ret h0 ws C) (pc' : Nat) (hp : pc' = pc + 1) {i : Fin 4} (hd : decode bytes pc = .ok (.aload_n i, 1)) {v : Value} (hl : Ls[i.val]? = some (.val v)) (hv : v.isRef = true) (k : B.G h cl sl (mkF m pc' Ls (v :: st))) : B.G h cl sl (mkF m pc Ls st) := by
  subst hp; exact B.via (fun T t X r => XS.aloadN X B.1 rfl (hb B.2.1 hd) hl hv r) k
theorem Base.aload (B : Base p l e R s m args below meth c Z y bytes maxL ret h0 ws C) (pc' : Nat) (hp : pc' = pc + 2) {i : Nat} (hd : decode bytes pc = .ok (.aload i, 2)) {v : Value} (hl : Ls[i]? = some (.val v)) (hv : v.isRef = true) (k : B.G h cl sl (mkF m pc' Ls (v :: st))) : B.G h cl sl (mkF m pc Ls st) := by
  subst hp; exact B.via (fun T t X r => XS.aload X B.1 rfl (hb B.2.1 hd) hl hv r) k
theorem Base.iloadN (B : Base p l e R s m args below meth c Z y bytes maxL ret h0 ws C) (pc' : Nat) (hp : pc' = pc + 1) {i : Fin 4} (hd : decode bytes pc = .ok (.iload_n i, 1)) {v : Int32} (hl : Ls[i.val]? = some (.val (.int v))) (k : B.G h cl sl (mkF m pc' Ls (.int v :: st))) : B.G h cl sl (mkF m pc Ls st) := by
  subst hp; exact B.via (fun T t X r => XS.iloadN X B.1 rfl (hb B.2.1 hd) hl r) k
theorem Base.iload (B : Base p l e R s m args below meth c Z y bytes maxL ret h0 ws C) (pc' : Nat) (hp : pc' = pc + 2) {i : Nat} (hd : decode bytes pc = .ok (.iload i, 2)) {v : Int32} (hl : Ls[i]? = some (.val (.int v))) (k : B.G h cl sl (mkF m pc' Ls (.int v :: st))) : B.G h cl sl (mkF m pc Ls st) := by
  subst hp; exact B.via (fun T t X r => XS.iload X B.1 rfl (hb B.2.1 hd) hl r) k
theorem Base.lloadN (B : Base p l e R s m args below meth c Z y bytes maxL ret h0 ws C) (pc' : Nat) (hp : pc' = pc + 1) {i : Fin 4} (hd : decode bytes pc = .ok (.lload_n i, 1)) {v : Int64} (hl : Ls[i.val]? = some (.val (.long v))) (k : B.G h cl sl (mkF m pc' Ls (.long v :: st))) : B.G h cl sl (mkF m pc Ls st) := by
  subst hp; exact B.via (fun T t X r => XT.lloadN X B.1 rfl (hb B.2.1 hd) hl r) k
theorem Base.lload (B : Base p l e R s m args below meth c Z y bytes maxL ret h0 ws C) (pc' : Nat) (hp : pc' = pc + 2) {i : Nat} (hd : decode bytes pc = .ok (.lload i, 2)) {v : Int64} (hl : Ls[i]? = some (.val (.long v))) (k : B.G h cl sl (mkF m pc' Ls (.long v :: st))) : B.G h cl sl (mkF m pc Ls st) := by
  subst hp; exact B.via (fun T t X r => XT.lload X B.1 rfl (hb B.2.1 hd) hl r) k
theorem Base.istoreN (B : Base p l e R s m args below meth c Z y bytes maxL ret h0 ws C) (pc' : Nat) (hp : pc' = pc + 1) {i : Fin 4} {x : Int32} (hd : decode bytes pc = .ok (.istore_n i, 1)) (Ls' : Array Slot) (hl : storeLocals Ls i.val (.int x) = some Ls') (k : B.G h cl sl (mkF m pc' Ls' st)) : B.G h cl sl (mkF m pc Ls (.int x :: st)) := by
  subst hp; exact B.via (fun T t X r => XS.istoreN X B.1 rfl (hb B.2.1 hd) rfl hl r) k
theorem Base.istore (B : Base p l e R s m args below meth c Z y bytes maxL ret h0 ws C) (pc' : Nat) (hp : pc' = pc + 2) {i : Nat} {x : Int32} (hd : decode bytes pc = .ok (.istore i, 2)) (Ls' : Array Slot) (hl : storeLocals Ls i (.int x) = some Ls') (k : B.G h cl sl (mkF m pc' Ls' st)) : B.G h cl sl (mkF m pc Ls (.int x :: st)) := by
  subst hp; exact B.via (fun T t X r => XS.istore X B.1 rfl (hb B.2.1 hd) rfl hl r) k
theorem Base.lstoreN (B : Base p l e R s m args below meth c Z y bytes maxL ret h0 ws C) (pc' : Nat) (hp : pc' = pc + 1) {i : Fin 4} {x : Int64} (hd : decode bytes pc = .ok (.lstore_n i, 1)) (Ls' : Array Slot) (hl : storeLocals Ls i.val (.long x) = some Ls') (k : B.G h cl sl (mkF m pc' Ls' st)) : B.G h cl sl (mkF m pc Ls (.long x :: st)) := by
  subst hp; exact B.via (fun T t X r => XT.lstoreN X B.1 rfl (hb B.2.1 hd) rfl hl r) k
theorem Base.lstore (B : Base p l e R s m args below meth c Z y bytes maxL ret h0 ws C) (pc' : Nat) (hp : pc' = pc + 2) {i : Nat} {x : Int64} (hd : decode bytes pc = .ok (.lstore i, 2)) (Ls' : Array Slot) (hl : storeLocals Ls i (.long x) = some Ls') (k : B.G h cl sl (mkF m pc' Ls' st)) : B.G h cl sl (mkF m pc Ls (.long x :: st)) := by
  subst hp; exact B.via (fun T t X r => XT.lstore X B.1 rfl (hb B.2.1 hd) rfl hl r) k
theorem Base.astoreN (B : Base p l e R s m args below meth c Z y bytes maxL ret h0 ws C) (pc' : Nat) (hp : pc' = pc + 1) {i : Fin 4} {x : Value} (hd : decode bytes pc = .ok (.astore_n i, 1)) (hv : x.isRef = true) (Ls' : Array Slot) (hl : storeLocals Ls i.val x = some Ls') (k : B.G h cl sl (mkF m pc' Ls' st)) : B.G h cl sl (mkF m pc Ls (x :: st)) := by
  subst hp; exact B.via (fun T t X r => XS.astoreN X B.1 rfl (hb B.2.1 hd) rfl hv hl r) k
theorem Base.astore (B : Base p l e R s m args below meth c Z y bytes maxL ret h0 ws C) (pc' : Nat) (hp : pc' = pc + 2) {i : Nat} {x : Value} (hd : decode bytes pc = .ok (.astore i, 2)) (hv : x.isRef = true) (Ls' : Array Slot) (hl : storeLocals Ls i x = some Ls') (k : B.G h cl sl (mkF m pc' Ls' st)) : B.G h cl sl (mkF m pc Ls (x :: st)) := by
  subst hp; exact B.via (fun T t X r => XS.astore X B.1 rfl (hb B.2.1 hd) rfl hv hl r) k
theorem Base.iinc (B : Base p l e R s m args below meth c Z y bytes maxL ret h0 ws C) (pc' : Nat) (hp : pc' = pc + 3) {i : Nat} {cst : Int} (v : Int32) {x : Int32} (hd : decode bytes pc = .ok (.iinc i cst, 3)) (hv : Int32.ofInt cst = v) (hl : Ls[i]? = some (.val (.int x))) (Ls' : Array Slot) (hl' : storeLocals Ls i (.int (x + v)) = some Ls') (k : B.G h cl sl (mkF m pc' Ls' st)) : B.G h cl sl (mkF m pc Ls st) := by
  subst hp hv; exact B.via (fun T t X r => XS.iinc X B.1 rfl (hb B.2.1 hd) hl hl' r) k
theorem Base.iconst (B : Base p l e R s m args below meth c Z y bytes maxL ret h0 ws C) (pc' : Nat) (hp : pc' = pc + 1) {i : Int} (v : Int32) (hd : decode bytes pc = .ok (.iconst i, 1)) (hv : Int32.ofInt i = v) (k : B.G h cl sl (mkF m pc' Ls (.int v :: st))) : B.G h cl sl (mkF m pc Ls st) := by
  subst hp hv; exact B.via (fun T t X r => XS.iconst X B.1 rfl (hb B.2.1 hd) r) k
theorem Base.bipush (B : Base p l e R s m args below meth c Z y bytes maxL ret h0 ws C) (pc' : Nat) (hp : pc' = pc + 2) {i : Int} (v : Int32) (hd : decode bytes pc = .ok (.bipush i, 2)) (hv : (Int8.ofInt i).toInt32 = v) (k : B.G h cl sl (mkF m pc' Ls (.int v :: st))) : B.G h cl sl (mkF m pc Ls st) := by
  subst hp hv; exact B.via (fun T t X r => XS.bipush X B.1 rfl (hb B.2.1 hd) r) k
theorem Base.sipush (B : Base p l e R s m args below meth c Z y bytes maxL ret h0 ws C) (pc' : Nat) (hp : pc' = pc + 3) {i : Int} (v : Int32) (hd : decode bytes pc = .ok (.sipush i, 3)) (hv : (Int16.ofInt i).toInt32 = v) (k : B.G h cl sl (mkF m pc' Ls (.int v :: st))) : B.G h cl sl (mkF m pc Ls st) := by
  subst hp hv; exact B.via (fun T t X r => XS.sipush X B.1 rfl (hb B.2.1 hd) r) k
theorem Base.lconst (B : Base p l e R s m args below meth c Z y bytes maxL ret h0 ws C) (pc' : Nat) (hp : pc' = pc + 1) {i : Fin 2} (v : Int64) (hd : decode bytes pc = .ok (.lconst i, 1)) (hv : Int64.ofNat i = v) (k : B.G h cl sl (mkF m pc' Ls (.long v :: st))) : B.G h cl sl (mkF m pc Ls st) := by
  subst hp hv; exact B.via (fun T t X r => XT.lconst X B.1 rfl (hb B.2.1 hd) r) k
theorem Base.aconstNull (B : Base p l e R s m args below meth c Z y bytes maxL ret h0 ws C) (pc' : Nat) (hp : pc' = pc + 1) (hd : decode bytes pc = .ok (.aconst_null, 1)) (k : B.G h cl sl (mkF m pc' Ls (.null :: st))) : B.G h cl sl (mkF m pc Ls st) := by
  subst hp; exact B.via (fun T t X r => XS.aconstNull X B.1 rfl (hb B.2.1 hd) r) k
theorem Base.ldcI (B : Base p l e R s m args below meth c Z y bytes maxL ret h0 ws C) (pc' : Nat) (hp : pc' = pc + 2) {i : Nat} {v : Int32} (hd : decode bytes pc = .ok (.ldc i, 2)) (w : (Cond.constant y.cls i v).before a0 Z = true) (k : B.G h cl sl (mkF m pc' Ls (.int v :: st))) : B.G h cl sl (mkF m pc Ls st) := by
  subst hp; exact B.viaX (fun T t L X _ r => X.ldcI B.1 B.2.2.2.2.1 (mv B.2.2.2.1 w) rfl (hb B.2.1 hd) r) k
theorem Base.ldcWI (B : Base p l e R s m args below meth c Z y bytes maxL ret h0 ws C) (pc' : Nat) (hp : pc' = pc + 3) {i : Nat} {v : Int32} (hd : decode bytes pc = .ok (.ldc_w i, 3)) (w : (Cond.constant y.cls i v).before a0 Z = true) (k : B.G h cl sl (mkF m pc' Ls (.int v :: st))) : B.G h cl sl (mkF m pc Ls st) := by
  subst hp; exact B.viaX (fun T t L X _ r => X.ldcWI B.1 B.2.2.2.2.1 (mv B.2.2.2.1 w) rfl (hb B.2.1 hd) r) k
theorem Base.ldc2J (B : Base p l e R s m args below meth c Z y bytes maxL ret h0 ws C) (pc' : Nat) (hp : pc' = pc + 3) {i : Nat} {v : Int64} (hd : decode bytes pc = .ok (.ldc2_w i, 3)) (w : (Cond.constantLong y.cls i v).before a0 Z = true) (k : B.G h cl sl (mkF m pc' Ls (.long v :: st))) : B.G h cl sl (mkF m pc Ls st) := by
  subst hp; exact B.viaX (fun T t L X _ r => X.ldc2J B.1 B.2.2.2.2.1 (mv B.2.2.2.1 w) rfl (hb B.2.1 hd) r) k
theorem Base.goto (B : Base p l e R s m args below meth c Z y bytes maxL ret h0 ws C) (pc' : Nat) {o : Int} (hp : ((pc : Int) + o).toNat = pc') (ho : 0 ≤ (pc : Int) + o) (hd : decode bytes pc = .ok (.goto o, 3)) (k : B.G h cl sl (mkF m pc' Ls st)) : B.G h cl sl (mkF m pc Ls st) :=
  B.via (fun T t X r => XS.goto X B.1 rfl rfl (hb B.2.1 hd) ho hp r) k
theorem Base.dup (B : Base p l e R s m args below meth c Z y bytes maxL ret h0 ws C) (pc' : Nat) (hp : pc' = pc + 1) {x : Value} (hd : decode bytes pc = .ok (.dup, 1)) (hc : x.category = 1) (k : B.G h cl sl (mkF m pc' Ls (x :: x :: st))) : B.G h cl sl (mkF m pc Ls (x :: st)) := by
  subst hp; exact B.via (fun T t X r => XS.dup X B.1 rfl (hb B.2.1 hd) rfl hc r) k
theorem Base.pop (B : Base p l e R s m args below meth c Z y bytes maxL ret h0 ws C) (pc' : Nat) (hp : pc' = pc + 1) {x : Value} (hd : decode bytes pc = .ok (.pop, 1)) (hc : x.category = 1) (k : B.G h cl sl (mkF m pc' Ls st)) : B.G h cl sl (mkF m pc Ls (x :: st)) := by
  subst hp; exact B.via (fun T t X r => XT.pop X B.1 rfl (hb B.2.1 hd) rfl hc r) k
theorem Base.dupX1 (B : Base p l e R s m args below meth c Z y bytes maxL ret h0 ws C) (pc' : Nat) (hp : pc' = pc + 1) {x z : Value} (hd : decode bytes pc = .ok (.dup_x1, 1)) (hc : x.category = 1) (hc' : z.category = 1) (k : B.G h cl sl (mkF m pc' Ls (x :: z :: x :: st))) : B.G h cl sl (mkF m pc Ls (x :: z :: st)) := by
  subst hp; exact B.via (fun T t X r => XT.dupX1 X B.1 rfl (hb B.2.1 hd) rfl hc hc' r) k
theorem Base.dup2 (B : Base p l e R s m args below meth c Z y bytes maxL ret h0 ws C) (pc' : Nat) (hp : pc' = pc + 1) {x z : Value} (hd : decode bytes pc = .ok (.dup2, 1)) (hc : x.category = 1) (hc' : z.category = 1) (k : B.G h cl sl (mkF m pc' Ls (x :: z :: x :: z :: st))) : B.G h cl sl (mkF m pc Ls (x :: z :: st)) := by
  subst hp; exact B.via (fun T t X r => XT.dup2 X B.1 rfl (hb B.2.1 hd) rfl hc hc' r) k
theorem Base.iadd (B : Base p l e R s m args below meth c Z y bytes maxL ret h0 ws C) (pc' : Nat) (hp : pc' = pc + 1) {x : Int32} {z : Int32} (hd : decode bytes pc = .ok (.iadd, 1)) (k : B.G h cl sl (mkF m pc' Ls (.int (x + z) :: st))) : B.G h cl sl (mkF m pc Ls (.int z :: .int x :: st)) := by
  subst hp; exact B.via (fun T t X r => XS.iadd X B.1 rfl (hb B.2.1 hd) rfl r) k
theorem Base.isub (B : Base p l e R s m args below meth c Z y bytes maxL ret h0 ws C) (pc' : Nat) (hp : pc' = pc + 1) {x : Int32} {z : Int32} (hd : decode bytes pc = .ok (.isub, 1)) (k : B.G h cl sl (mkF m pc' Ls (.int (x - z) :: st))) : B.G h cl sl (mkF m pc Ls (.int z :: .int x :: st)) := by
  subst hp; exact B.via (fun T t X r => XS.isub X B.1 rfl (hb B.2.1 hd) rfl r) k
theorem Base.iand (B : Base p l e R s m args below meth c Z y bytes maxL ret h0 ws C) (pc' : Nat) (hp : pc' = pc + 1) {x : Int32} {z : Int32} (hd : decode bytes pc = .ok (.iand, 1)) (k : B.G h cl sl (mkF m pc' Ls (.int (x &&& z) :: st))) : B.G h cl sl (mkF m pc Ls (.int z :: .int x :: st)) := by
  subst hp; exact B.via (fun T t X r => XS.iand X B.1 rfl (hb B.2.1 hd) rfl r) k
theorem Base.imul (B : Base p l e R s m args below meth c Z y bytes maxL ret h0 ws C) (pc' : Nat) (hp : pc' = pc + 1) {x : Int32} {z : Int32} (hd : decode bytes pc = .ok (.imul, 1)) (k : B.G h cl sl (mkF m pc' Ls (.int (x * z) :: st))) : B.G h cl sl (mkF m pc Ls (.int z :: .int x :: st)) := by
  subst hp; exact B.via (fun T t X r => XS.imul X B.1 rfl (hb B.2.1 hd) rfl r) k
theorem Base.ixor (B : Base p l e R s m args below meth c Z y bytes maxL ret h0 ws C) (pc' : Nat) (hp : pc' = pc + 1) {x : Int32} {z : Int32} (hd : decode bytes pc = .ok (.ixor, 1)) (k : B.G h cl sl (mkF m pc' Ls (.int (x ^^^ z) :: st))) : B.G h cl sl (mkF m pc Ls (.int z :: .int x :: st)) := by
  subst hp; exact B.via (fun T t X r => XT.ixor X B.1 rfl (hb B.2.1 hd) rfl r) k
theorem Base.ior (B : Base p l e R s m args below meth c Z y bytes maxL ret h0 ws C) (pc' : Nat) (hp : pc' = pc + 1) {x : Int32} {z : Int32} (hd : decode bytes pc = .ok (.ior, 1)) (k : B.G h cl sl (mkF m pc' Ls (.int (x ||| z) :: st))) : B.G h cl sl (mkF m pc Ls (.int z :: .int x :: st)) := by
  subst hp; exact B.via (fun T t X r => XT.ior X B.1 rfl (hb B.2.1 hd) rfl r) k
theorem Base.ishl (B : Base p l e R s m args below meth c Z y bytes maxL ret h0 ws C) (pc' : Nat) (hp : pc' = pc + 1) {x : Int32} {z : Int32} (hd : decode bytes pc = .ok (.ishl, 1)) (k : B.G h cl sl (mkF m pc' Ls (.int (x <<< (z &&& 31)) :: st))) : B.G h cl sl (mkF m pc Ls (.int z :: .int x :: st)) := by
  subst hp; exact B.via (fun T t X r => XT.ishl X B.1 rfl (hb B.2.1 hd) rfl r) k
theorem Base.ishr (B : Base p l e R s m args below meth c Z y bytes maxL ret h0 ws C) (pc' : Nat) (hp : pc' = pc + 1) {x : Int32} {z : Int32} (hd : decode bytes pc = .ok (.ishr, 1)) (k : B.G h cl sl (mkF m pc' Ls (.int (x >>> (z &&& 31)) :: st))) : B.G h cl sl (mkF m pc Ls (.int z :: .int x :: st)) := by
  subst hp; exact B.via (fun T t X r => XT.ishr X B.1 rfl (hb B.2.1 hd) rfl r) k
theorem Base.iushr (B : Base p l e R s m args below meth c Z y bytes maxL ret h0 ws C) (pc' : Nat) (hp : pc' = pc + 1) {x : Int32} {z : Int32} (hd : decode bytes pc = .ok (.iushr, 1)) (k : B.G h cl sl (mkF m pc' Ls (.int (XT.ushr x z) :: st))) : B.G h cl sl (mkF m pc Ls (.int z :: .int x :: st)) := by
  subst hp; exact B.via (fun T t X r => XT.iushr X B.1 rfl (hb B.2.1 hd) rfl r) k
theorem Base.ladd (B : Base p l e R s m args below meth c Z y bytes maxL ret h0 ws C) (pc' : Nat) (hp : pc' = pc + 1) {x : Int64} {z : Int64} (hd : decode bytes pc = .ok (.ladd, 1)) (k : B.G h cl sl (mkF m pc' Ls (.long (x + z) :: st))) : B.G h cl sl (mkF m pc Ls (.long z :: .long x :: st)) := by
  subst hp; exact B.via (fun T t X r => XT.ladd X B.1 rfl (hb B.2.1 hd) rfl r) k
theorem Base.lsub (B : Base p l e R s m args below meth c Z y bytes maxL ret h0 ws C) (pc' : Nat) (hp : pc' = pc + 1) {x : Int64} {z : Int64} (hd : decode bytes pc = .ok (.lsub, 1)) (k : B.G h cl sl (mkF m pc' Ls (.long (x - z) :: st))) : B.G h cl sl (mkF m pc Ls (.long z :: .long x :: st)) := by
  subst hp; exact B.via (fun T t X r => XT.lsub X B.1 rfl (hb B.2.1 hd) rfl r) k
theorem Base.lmul (B : Base p l e R s m args below meth c Z y bytes maxL ret h0 ws C) (pc' : Nat) (hp : pc' = pc + 1) {x : Int64} {z : Int64} (hd : decode bytes pc = .ok (.lmul, 1)) (k : B.G h cl sl (mkF m pc' Ls (.long (x * z) :: st))) : B.G h cl sl (mkF m pc Ls (.long z :: .long x :: st)) := by
  subst hp; exact B.via (fun T t X r => XT.lmul X B.1 rfl (hb B.2.1 hd) rfl r) k
theorem Base.land (B : Base p l e R s m args below meth c Z y bytes maxL ret h0 ws C) (pc' : Nat) (hp : pc' = pc + 1) {x : Int64} {z : Int64} (hd : decode bytes pc = .ok (.land, 1)) (k : B.G h cl sl (mkF m pc' Ls (.long (x &&& z) :: st))) : B.G h cl sl (mkF m pc Ls (.long z :: .long x :: st)) := by
  subst hp; exact B.via (fun T t X r => XT.land X B.1 rfl (hb B.2.1 hd) rfl r) k
theorem Base.lor (B : Base p l e R s m args below meth c Z y bytes maxL ret h0 ws C) (pc' : Nat) (hp : pc' = pc + 1) {x : Int64} {z : Int64} (hd : decode bytes pc = .ok (.lor, 1)) (k : B.G h cl sl (mkF m pc' Ls (.long (x ||| z) :: st))) : B.G h cl sl (mkF m pc Ls (.long z :: .long x :: st)) := by
  subst hp; exact B.via (fun T t X r => XT.lor X B.1 rfl (hb B.2.1 hd) rfl r) k
theorem Base.lxor (B : Base p l e R s m args below meth c Z y bytes maxL ret h0 ws C) (pc' : Nat) (hp : pc' = pc + 1) {x : Int64} {z : Int64} (hd : decode bytes pc = .ok (.lxor, 1)) (k : B.G h cl sl (mkF m pc' Ls (.long (x ^^^ z) :: st))) : B.G h cl sl (mkF m pc Ls (.long z :: .long x :: st)) := by
  subst hp; exact B.via (fun T t X r => XT.lxor X B.1 rfl (hb B.2.1 hd) rfl r) k
theorem Base.lshl (B : Base p l e R s m args below meth c Z y bytes maxL ret h0 ws C) (pc' : Nat) (hp : pc' = pc + 1) {x : Int64} {z : Int32} (hd : decode bytes pc = .ok (.lshl, 1)) (k : B.G h cl sl (mkF m pc' Ls (.long (x <<< (z.toInt64 &&& 63)) :: st))) : B.G h cl sl (mkF m pc Ls (.int z :: .long x :: st)) := by
  subst hp; exact B.via (fun T t X r => XT.lshl X B.1 rfl (hb B.2.1 hd) rfl r) k
theorem Base.lshr (B : Base p l e R s m args below meth c Z y bytes maxL ret h0 ws C) (pc' : Nat) (hp : pc' = pc + 1) {x : Int64} {z : Int32} (hd : decode bytes pc = .ok (.lshr, 1)) (k : B.G h cl sl (mkF m pc' Ls (.long (x >>> (z.toInt64 &&& 63)) :: st))) : B.G h cl sl (mkF m pc Ls (.int z :: .long x :: st)) := by
  subst hp; exact B.via (fun T t X r => XT.lshr X B.1 rfl (hb B.2.1 hd) rfl r) k
theorem Base.lushr (B : Base p l e R s m args below meth c Z y bytes maxL ret h0 ws C) (pc' : Nat) (hp : pc' = pc + 1) {x : Int64} {z : Int32} (hd : decode bytes pc = .ok (.lushr, 1)) (k : B.G h cl sl (mkF m pc' Ls (.long (XT.ushrL x z) :: st))) : B.G h cl sl (mkF m pc Ls (.int z :: .long x :: st)) := by
  subst hp; exact B.via (fun T t X r => XT.lushr X B.1 rfl (hb B.2.1 hd) rfl r) k
theorem Base.lcmp (B : Base p l e R s m args below meth c Z y bytes maxL ret h0 ws C) (pc' : Nat) (hp : pc' = pc + 1) {x : Int64} {z : Int64} (hd : decode bytes pc = .ok (.lcmp, 1)) (k : B.G h cl sl (mkF m pc' Ls (.int (XT.cmpL x z) :: st))) : B.G h cl sl (mkF m pc Ls (.long z :: .long x :: st)) := by
  subst hp; exact B.via (fun T t X r => XT.lcmp X B.1 rfl (hb B.2.1 hd) rfl r) k
theorem Base.idiv (B : Base p l e R s m args below meth c Z y bytes maxL ret h0 ws C) (pc' : Nat) (hp : pc' = pc + 1) {x : Int32} {z : Int32} (hd : decode bytes pc = .ok (.idiv, 1)) (hz : z ≠ 0) (k : B.G h cl sl (mkF m pc' Ls (.int (x / z) :: st))) : B.G h cl sl (mkF m pc Ls (.int z :: .int x :: st)) := by
  subst hp; exact B.via (fun T t X r => XS.idiv X B.1 rfl (hb B.2.1 hd) rfl hz r) k
theorem Base.ldiv (B : Base p l e R s m args below meth c Z y bytes maxL ret h0 ws C) (pc' : Nat) (hp : pc' = pc + 1) {x : Int64} {z : Int64} (hd : decode bytes pc = .ok (.ldiv, 1)) (hz : z ≠ 0) (k : B.G h cl sl (mkF m pc' Ls (.long (x / z) :: st))) : B.G h cl sl (mkF m pc Ls (.long z :: .long x :: st)) := by
  subst hp; exact B.via (fun T t X r => XT.ldiv X B.1 rfl (hb B.2.1 hd) rfl hz r) k
theorem Base.irem (B : Base p l e R s m args below meth c Z y bytes maxL ret h0 ws C) (pc' : Nat) (hp : pc' = pc + 1) {x z : Int32} (hd : decode bytes pc = .ok (.irem, 1)) (hz : z ≠ 0) (k : B.G h cl sl (mkF m pc' Ls (.int (x % z) :: st))) : B.G h cl sl (mkF m pc Ls (.int z :: .int x :: st)) := by
  subst hp; exact B.viaX (fun T t L X _ r => iremM X B.1 rfl (hb B.2.1 hd) rfl hz r) k
theorem Base.ineg (B : Base p l e R s m args below meth c Z y bytes maxL ret h0 ws C) (pc' : Nat) (hp : pc' = pc + 1) {x : Int32} (hd : decode bytes pc = .ok (.ineg, 1)) (k : B.G h cl sl (mkF m pc' Ls (.int (-x) :: st))) : B.G h cl sl (mkF m pc Ls (.int x :: st)) := by
  subst hp; exact B.via (fun T t X r => XS.ineg X B.1 rfl (hb B.2.1 hd) rfl r) k
theorem Base.lneg (B : Base p l e R s m args below meth c Z y bytes maxL ret h0 ws C) (pc' : Nat) (hp : pc' = pc + 1) {x : Int64} (hd : decode bytes pc = .ok (.lneg, 1)) (k : B.G h cl sl (mkF m pc' Ls (.long (-x) :: st))) : B.G h cl sl (mkF m pc Ls (.long x :: st)) := by
  subst hp; exact B.via (fun T t X r => XT.lneg X B.1 rfl (hb B.2.1 hd) rfl r) k
theorem Base.i2l (B : Base p l e R s m args below meth c Z y bytes maxL ret h0 ws C) (pc' : Nat) (hp : pc' = pc + 1) {x : Int32} (hd : decode bytes pc = .ok (.i2l, 1)) (k : B.G h cl sl (mkF m pc' Ls (.long (x.toInt64) :: st))) : B.G h cl sl (mkF m pc Ls (.int x :: st)) := by
  subst hp; exact B.via (fun T t X r => XT.i2l X B.1 rfl (hb B.2.1 hd) rfl r) k
theorem Base.l2i (B : Base p l e R s m args below meth c Z y bytes maxL ret h0 ws C) (pc' : Nat) (hp : pc' = pc + 1) {x : Int64} (hd : decode bytes pc = .ok (.l2i, 1)) (k : B.G h cl sl (mkF m pc' Ls (.int (x.toInt32) :: st))) : B.G h cl sl (mkF m pc Ls (.long x :: st)) := by
  subst hp; exact B.via (fun T t X r => XT.l2i X B.1 rfl (hb B.2.1 hd) rfl r) k
theorem Base.i2b (B : Base p l e R s m args below meth c Z y bytes maxL ret h0 ws C) (pc' : Nat) (hp : pc' = pc + 1) {x : Int32} (hd : decode bytes pc = .ok (.i2b, 1)) (k : B.G h cl sl (mkF m pc' Ls (.int (x.toInt8.toInt32) :: st))) : B.G h cl sl (mkF m pc Ls (.int x :: st)) := by
  subst hp; exact B.via (fun T t X r => XT.i2b X B.1 rfl (hb B.2.1 hd) rfl r) k
theorem Base.i2c (B : Base p l e R s m args below meth c Z y bytes maxL ret h0 ws C) (pc' : Nat) (hp : pc' = pc + 1) {x : Int32} (hd : decode bytes pc = .ok (.i2c, 1)) (k : B.G h cl sl (mkF m pc' Ls (.int (x.toUInt32.toUInt16.toUInt32.toInt32) :: st))) : B.G h cl sl (mkF m pc Ls (.int x :: st)) := by
  subst hp; exact B.via (fun T t X r => XT.i2c X B.1 rfl (hb B.2.1 hd) rfl r) k
theorem Base.i2s (B : Base p l e R s m args below meth c Z y bytes maxL ret h0 ws C) (pc' : Nat) (hp : pc' = pc + 1) {x : Int32} (hd : decode bytes pc = .ok (.i2s, 1)) (k : B.G h cl sl (mkF m pc' Ls (.int (x.toInt16.toInt32) :: st))) : B.G h cl sl (mkF m pc Ls (.int x :: st)) := by
  subst hp; exact B.via (fun T t X r => XT.i2s X B.1 rfl (hb B.2.1 hd) rfl r) k
theorem Base.icmp_eq (B : Base p l e R s m args below meth c Z y bytes maxL ret h0 ws C) (pt pf : Nat) {o : Int} (hpt : ((pc : Int) + o).toNat = pt) (ho : 0 ≤ (pc : Int) + o) (hpf : pf = pc + 3) {x z : Int32} (hd : decode bytes pc = .ok (.if_icmp .eq o, 3)) (kt : x = z → B.G h cl sl (mkF m pt Ls st)) (kf : ¬ x = z → B.G h cl sl (mkF m pf Ls st)) : B.G h cl sl (mkF m pc Ls (.int z :: .int x :: st)) := by
  subst hpt hpf
  by_cases q : x = z
  · exact B.via (fun T t X r => XS.icmpYes X B.1 rfl rfl (hb B.2.1 hd) rfl (XT.ii_eq_t q) ho rfl r) (kt q)
  · exact B.via (fun T t X r => XS.icmpNo X B.1 rfl (hb B.2.1 hd) rfl (XT.ii_eq_f q) r) (kf q)
theorem Base.if0_eq (B : Base p l e R s m args below meth c Z y bytes maxL ret h0 ws C) (pt pf : Nat) {o : Int} (hpt : ((pc : Int) + o).toNat = pt) (ho : 0 ≤ (pc : Int) + o) (hpf : pf = pc + 3) {x : Int32} (hd : decode bytes pc = .ok (.ifCond .eq o, 3)) (kt : x = 0 → B.G h cl sl (mkF m pt Ls st)) (kf : ¬ x = 0 → B.G h cl sl (mkF m pf Ls st)) : B.G h cl sl (mkF m pc Ls (.int x :: st)) := by
  subst hpt hpf
  by_cases q : x = 0
  · exact B.via (fun T t X r => XS.ifYes X B.1 rfl rfl (hb B.2.1 hd) rfl (XT.i0_eq_t q) ho rfl r) (kt q)
  · exact B.via (fun T t X r => XS.ifNo X B.1 rfl (hb B.2.1 hd) rfl (XT.i0_eq_f q) r) (kf q)
theorem Base.lif_eq (B : Base p l e R s m args below meth c Z y bytes maxL ret h0 ws C) (pt pf : Nat) {o : Int} (hpt : ((pc : Int) + o).toNat = pt) (ho : 0 ≤ (pc : Int) + o) (hpf : pf = pc + 3) {x z : Int64} (hd : decode bytes pc = .ok (.ifCond .eq o, 3)) (kt : x = z → B.G h cl sl (mkF m pt Ls st)) (kf : ¬ x = z → B.G h cl sl (mkF m pf Ls st)) : B.G h cl sl (mkF m pc Ls (.int (XT.cmpL x z) :: st)) := by
  subst hpt hpf
  by_cases q : x = z
  · exact B.via (fun T t X r => XS.ifYes X B.1 rfl rfl (hb B.2.1 hd) rfl (XT.ll_eq_t q) ho rfl r) (kt q)
  · exact B.via (fun T t X r => XS.ifNo X B.1 rfl (hb B.2.1 hd) rfl (XT.ll_eq_f q) r) (kf q)
theorem Base.icmp_ne (B : Base p l e R s m args below meth c Z y bytes maxL ret h0 ws C) (pt pf : Nat) {o : Int} (hpt : ((pc : Int) + o).toNat = pt) (ho : 0 ≤ (pc : Int) + o) (hpf : pf = pc + 3) {x z : Int32} (hd : decode bytes pc = .ok (.if_icmp .ne o, 3)) (kt : ¬ x = z → B.G h cl sl (mkF m pt Ls st)) (kf : x = z → B.G h cl sl (mkF m pf Ls st)) : B.G h cl sl (mkF m pc Ls (.int z :: .int x :: st)) := by
  subst hpt hpf
  by_cases q : x = z
  · exact B.via (fun T t X r => XS.icmpNo X B.1 rfl (hb B.2.1 hd) rfl (XT.ii_ne_f q) r) (kf q)
  · exact B.via (fun T t X r => XS.icmpYes X B.1 rfl rfl (hb B.2.1 hd) rfl (XT.ii_ne_t q) ho rfl r) (kt q)
theorem Base.if0_ne (B : Base p l e R s m args below meth c Z y bytes maxL ret h0 ws C) (pt pf : Nat) {o : Int} (hpt : ((pc : Int) + o).toNat = pt) (ho : 0 ≤ (pc : Int) + o) (hpf : pf = pc + 3) {x : Int32} (hd : decode bytes pc = .ok (.ifCond .ne o, 3)) (kt : ¬ x = 0 → B.G h cl sl (mkF m pt Ls st)) (kf : x = 0 → B.G h cl sl (mkF m pf Ls st)) : B.G h cl sl (mkF m pc Ls (.int x :: st)) := by
  subst hpt hpf
  by_cases q : x = 0
  · exact B.via (fun T t X r => XS.ifNo X B.1 rfl (hb B.2.1 hd) rfl (XT.i0_ne_f q) r) (kf q)
  · exact B.via (fun T t X r => XS.ifYes X B.1 rfl rfl (hb B.2.1 hd) rfl (XT.i0_ne_t q) ho rfl r) (kt q)
theorem Base.lif_ne (B : Base p l e R s m args below meth c Z y bytes maxL ret h0 ws C) (pt pf : Nat) {o : Int} (hpt : ((pc : Int) + o).toNat = pt) (ho : 0 ≤ (pc : Int) + o) (hpf : pf = pc + 3) {x z : Int64} (hd : decode bytes pc = .ok (.ifCond .ne o, 3)) (kt : ¬ x = z → B.G h cl sl (mkF m pt Ls st)) (kf : x = z → B.G h cl sl (mkF m pf Ls st)) : B.G h cl sl (mkF m pc Ls (.int (XT.cmpL x z) :: st)) := by
  subst hpt hpf
  by_cases q : x = z
  · exact B.via (fun T t X r => XS.ifNo X B.1 rfl (hb B.2.1 hd) rfl (XT.ll_ne_f q) r) (kf q)
  · exact B.via (fun T t X r => XS.ifYes X B.1 rfl rfl (hb B.2.1 hd) rfl (XT.ll_ne_t q) ho rfl r) (kt q)
theorem Base.icmp_lt (B : Base p l e R s m args below meth c Z y bytes maxL ret h0 ws C) (pt pf : Nat) {o : Int} (hpt : ((pc : Int) + o).toNat = pt) (ho : 0 ≤ (pc : Int) + o) (hpf : pf = pc + 3) {x z : Int32} (hd : decode bytes pc = .ok (.if_icmp .lt o, 3)) (kt : x < z → B.G h cl sl (mkF m pt Ls st)) (kf : ¬ x < z → B.G h cl sl (mkF m pf Ls st)) : B.G h cl sl (mkF m pc Ls (.int z :: .int x :: st)) := by
  subst hpt hpf
  by_cases q : x < z
  · exact B.via (fun T t X r => XS.icmpYes X B.1 rfl rfl (hb B.2.1 hd) rfl (XT.ii_lt_t q) ho rfl r) (kt q)
  · exact B.via (fun T t X r => XS.icmpNo X B.1 rfl (hb B.2.1 hd) rfl (XT.ii_lt_f q) r) (kf q)
theorem Base.if0_lt (B : Base p l e R s m args below meth c Z y bytes maxL ret h0 ws C) (pt pf : Nat) {o : Int} (hpt : ((pc : Int) + o).toNat = pt) (ho : 0 ≤ (pc : Int) + o) (hpf : pf = pc + 3) {x : Int32} (hd : decode bytes pc = .ok (.ifCond .lt o, 3)) (kt : x < 0 → B.G h cl sl (mkF m pt Ls st)) (kf : ¬ x < 0 → B.G h cl sl (mkF m pf Ls st)) : B.G h cl sl (mkF m pc Ls (.int x :: st)) := by
  subst hpt hpf
  by_cases q : x < 0
  · exact B.via (fun T t X r => XS.ifYes X B.1 rfl rfl (hb B.2.1 hd) rfl (XT.i0_lt_t q) ho rfl r) (kt q)
  · exact B.via (fun T t X r => XS.ifNo X B.1 rfl (hb B.2.1 hd) rfl (XT.i0_lt_f q) r) (kf q)
theorem Base.lif_lt (B : Base p l e R s m args below meth c Z y bytes maxL ret h0 ws C) (pt pf : Nat) {o : Int} (hpt : ((pc : Int) + o).toNat = pt) (ho : 0 ≤ (pc : Int) + o) (hpf : pf = pc + 3) {x z : Int64} (hd : decode bytes pc = .ok (.ifCond .lt o, 3)) (kt : x < z → B.G h cl sl (mkF m pt Ls st)) (kf : ¬ x < z → B.G h cl sl (mkF m pf Ls st)) : B.G h cl sl (mkF m pc Ls (.int (XT.cmpL x z) :: st)) := by
  subst hpt hpf
  by_cases q : x < z
  · exact B.via (fun T t X r => XS.ifYes X B.1 rfl rfl (hb B.2.1 hd) rfl (XT.ll_lt_t q) ho rfl r) (kt q)
  · exact B.via (fun T t X r => XS.ifNo X B.1 rfl (hb B.2.1 hd) rfl (XT.ll_lt_f q) r) (kf q)
theorem Base.icmp_ge (B : Base p l e R s m args below meth c Z y bytes maxL ret h0 ws C) (pt pf : Nat) {o : Int} (hpt : ((pc : Int) + o).toNat = pt) (ho : 0 ≤ (pc : Int) + o) (hpf : pf = pc + 3) {x z : Int32} (hd : decode bytes pc = .ok (.if_icmp .ge o, 3)) (kt : ¬ x < z → B.G h cl sl (mkF m pt Ls st)) (kf : x < z → B.G h cl sl (mkF m pf Ls st)) : B.G h cl sl (mkF m pc Ls (.int z :: .int x :: st)) := by
  subst hpt hpf
  by_cases q : x < z
  · exact B.via (fun T t X r => XS.icmpNo X B.1 rfl (hb B.2.1 hd) rfl (XT.ii_ge_f q) r) (kf q)
  · exact B.via (fun T t X r => XS.icmpYes X B.1 rfl rfl (hb B.2.1 hd) rfl (XT.ii_ge_t q) ho rfl r) (kt q)
theorem Base.if0_ge (B : Base p l e R s m args below meth c Z y bytes maxL ret h0 ws C) (pt pf : Nat) {o : Int} (hpt : ((pc : Int) + o).toNat = pt) (ho : 0 ≤ (pc : Int) + o) (hpf : pf = pc + 3) {x : Int32} (hd : decode bytes pc = .ok (.ifCond .ge o, 3)) (kt : ¬ x < 0 → B.G h cl sl (mkF m pt Ls st)) (kf : x < 0 → B.G h cl sl (mkF m pf Ls st)) : B.G h cl sl (mkF m pc Ls (.int x :: st)) := by
  subst hpt hpf
  by_cases q : x < 0
  · exact B.via (fun T t X r => XS.ifNo X B.1 rfl (hb B.2.1 hd) rfl (XT.i0_ge_f q) r) (kf q)
  · exact B.via (fun T t X r => XS.ifYes X B.1 rfl rfl (hb B.2.1 hd) rfl (XT.i0_ge_t q) ho rfl r) (kt q)
theorem Base.lif_ge (B : Base p l e R s m args below meth c Z y bytes maxL ret h0 ws C) (pt pf : Nat) {o : Int} (hpt : ((pc : Int) + o).toNat = pt) (ho : 0 ≤ (pc : Int) + o) (hpf : pf = pc + 3) {x z : Int64} (hd : decode bytes pc = .ok (.ifCond .ge o, 3)) (kt : ¬ x < z → B.G h cl sl (mkF m pt Ls st)) (kf : x < z → B.G h cl sl (mkF m pf Ls st)) : B.G h cl sl (mkF m pc Ls (.int (XT.cmpL x z) :: st)) := by
  subst hpt hpf
  by_cases q : x < z
  · exact B.via (fun T t X r => XS.ifNo X B.1 rfl (hb B.2.1 hd) rfl (XT.ll_ge_f q) r) (kf q)
  · exact B.via (fun T t X r => XS.ifYes X B.1 rfl rfl (hb B.2.1 hd) rfl (XT.ll_ge_t q) ho rfl r) (kt q)
theorem Base.icmp_gt (B : Base p l e R s m args below meth c Z y bytes maxL ret h0 ws C) (pt pf : Nat) {o : Int} (hpt : ((pc : Int) + o).toNat = pt) (ho : 0 ≤ (pc : Int) + o) (hpf : pf = pc + 3) {x z : Int32} (hd : decode bytes pc = .ok (.if_icmp .gt o, 3)) (kt : z < x → B.G h cl sl (mkF m pt Ls st)) (kf : ¬ z < x → B.G h cl sl (mkF m pf Ls st)) : B.G h cl sl (mkF m pc Ls (.int z :: .int x :: st)) := by
  subst hpt hpf
  by_cases q : z < x
  · exact B.via (fun T t X r => XS.icmpYes X B.1 rfl rfl (hb B.2.1 hd) rfl (XT.ii_gt_t q) ho rfl r) (kt q)
  · exact B.via (fun T t X r => XS.icmpNo X B.1 rfl (hb B.2.1 hd) rfl (XT.ii_gt_f q) r) (kf q)
theorem Base.if0_gt (B : Base p l e R s m args below meth c Z y bytes maxL ret h0 ws C) (pt pf : Nat) {o : Int} (hpt : ((pc : Int) + o).toNat = pt) (ho : 0 ≤ (pc : Int) + o) (hpf : pf = pc + 3) {x : Int32} (hd : decode bytes pc = .ok (.ifCond .gt o, 3)) (kt : 0 < x → B.G h cl sl (mkF m pt Ls st)) (kf : ¬ 0 < x → B.G h cl sl (mkF m pf Ls st)) : B.G h cl sl (mkF m pc Ls (.int x :: st)) := by
  subst hpt hpf
  by_cases q : 0 < x
  · exact B.via (fun T t X r => XS.ifYes X B.1 rfl rfl (hb B.2.1 hd) rfl (XT.i0_gt_t q) ho rfl r) (kt q)
  · exact B.via (fun T t X r => XS.ifNo X B.1 rfl (hb B.2.1 hd) rfl (XT.i0_gt_f q) r) (kf q)
theorem Base.lif_gt (B : Base p l e R s m args below meth c Z y bytes maxL ret h0 ws C) (pt pf : Nat) {o : Int} (hpt : ((pc : Int) + o).toNat = pt) (ho : 0 ≤ (pc : Int) + o) (hpf : pf = pc + 3) {x z : Int64} (hd : decode bytes pc = .ok (.ifCond .gt o, 3)) (kt : z < x → B.G h cl sl (mkF m pt Ls st)) (kf : ¬ z < x → B.G h cl sl (mkF m pf Ls st)) : B.G h cl sl (mkF m pc Ls (.int (XT.cmpL x z) :: st)) := by
  subst hpt hpf
  by_cases q : z < x
  · exact B.via (fun T t X r => XS.ifYes X B.1 rfl rfl (hb B.2.1 hd) rfl (XT.ll_gt_t q) ho rfl r) (kt q)
  · exact B.via (fun T t X r => XS.ifNo X B.1 rfl (hb B.2.1 hd) rfl (XT.ll_gt_f q) r) (kf q)
theorem Base.icmp_le (B : Base p l e R s m args below meth c Z y bytes maxL ret h0 ws C) (pt pf : Nat) {o : Int} (hpt : ((pc : Int) + o).toNat = pt) (ho : 0 ≤ (pc : Int) + o) (hpf : pf = pc + 3) {x z : Int32} (hd : decode bytes pc = .ok (.if_icmp .le o, 3)) (kt : ¬ z < x → B.G h cl sl (mkF m pt Ls st)) (kf : z < x → B.G h cl sl (mkF m pf Ls st)) : B.G h cl sl (mkF m pc Ls (.int z :: .int x :: st)) := by
  subst hpt hpf
  by_cases q : z < x
  · exact B.via (fun T t X r => XS.icmpNo X B.1 rfl (hb B.2.1 hd) rfl (XT.ii_le_f q) r) (kf q)
  · exact B.via (fun T t X r => XS.icmpYes X B.1 rfl rfl (hb B.2.1 hd) rfl (XT.ii_le_t q) ho rfl r) (kt q)
theorem Base.if0_le (B : Base p l e R s m args below meth c Z y bytes maxL ret h0 ws C) (pt pf : Nat) {o : Int} (hpt : ((pc : Int) + o).toNat = pt) (ho : 0 ≤ (pc : Int) + o) (hpf : pf = pc + 3) {x : Int32} (hd : decode bytes pc = .ok (.ifCond .le o, 3)) (kt : ¬ 0 < x → B.G h cl sl (mkF m pt Ls st)) (kf : 0 < x → B.G h cl sl (mkF m pf Ls st)) : B.G h cl sl (mkF m pc Ls (.int x :: st)) := by
  subst hpt hpf
  by_cases q : 0 < x
  · exact B.via (fun T t X r => XS.ifNo X B.1 rfl (hb B.2.1 hd) rfl (XT.i0_le_f q) r) (kf q)
  · exact B.via (fun T t X r => XS.ifYes X B.1 rfl rfl (hb B.2.1 hd) rfl (XT.i0_le_t q) ho rfl r) (kt q)
theorem Base.lif_le (B : Base p l e R s m args below meth c Z y bytes maxL ret h0 ws C) (pt pf : Nat) {o : Int} (hpt : ((pc : Int) + o).toNat = pt) (ho : 0 ≤ (pc : Int) + o) (hpf : pf = pc + 3) {x z : Int64} (hd : decode bytes pc = .ok (.ifCond .le o, 3)) (kt : ¬ z < x → B.G h cl sl (mkF m pt Ls st)) (kf : z < x → B.G h cl sl (mkF m pf Ls st)) : B.G h cl sl (mkF m pc Ls (.int (XT.cmpL x z) :: st)) := by
  subst hpt hpf
  by_cases q : z < x
  · exact B.via (fun T t X r => XS.ifNo X B.1 rfl (hb B.2.1 hd) rfl (XT.ll_le_f q) r) (kf q)
  · exact B.via (fun T t X r => XS.ifYes X B.1 rfl rfl (hb B.2.1 hd) rfl (XT.ll_le_t q) ho rfl r) (kt q)
theorem Base.acmp_eq (B : Base p l e R s m args below meth c Z y bytes maxL ret h0 ws C) (pt pf : Nat) {o : Int} (hpt : ((pc : Int) + o).toNat = pt) (ho : 0 ≤ (pc : Int) + o) (hpf : pf = pc + 3) {x z : Value} (hd : decode bytes pc = .ok (.if_acmp .eq o, 3)) (hx' : x.isRef = true) (hz' : z.isRef = true) (kt : x = z → B.G h cl sl (mkF m pt Ls st)) (kf : ¬ x = z → B.G h cl sl (mkF m pf Ls st)) : B.G h cl sl (mkF m pc Ls (z :: x :: st)) := by
  subst hpt hpf
  by_cases q : x = z
  · exact B.via (fun T t X r => XT.acmpYes X B.1 rfl rfl (hb B.2.1 hd) rfl hx' hz' (XT.aa_eq_t q) ho rfl r) (kt q)
  · exact B.via (fun T t X r => XT.acmpNo X B.1 rfl (hb B.2.1 hd) rfl hx' hz' (XT.aa_eq_f q) r) (kf q)
theorem Base.acmp_ne (B : Base p l e R s m args below meth c Z y bytes maxL ret h0 ws C) (pt pf : Nat) {o : Int} (hpt : ((pc : Int) + o).toNat = pt) (ho : 0 ≤ (pc : Int) + o) (hpf : pf = pc + 3) {x z : Value} (hd : decode bytes pc = .ok (.if_acmp .ne o, 3)) (hx' : x.isRef = true) (hz' : z.isRef = true) (kt : ¬ x = z → B.G h cl sl (mkF m pt Ls st)) (kf : x = z → B.G h cl sl (mkF m pf Ls st)) : B.G h cl sl (mkF m pc Ls (z :: x :: st)) := by
  subst hpt hpf
  by_cases q : x = z
  · exact B.via (fun T t X r => XT.acmpNo X B.1 rfl (hb B.2.1 hd) rfl hx' hz' (XT.aa_ne_f q) r) (kf q)
  · exact B.via (fun T t X r => XT.acmpYes X B.1 rfl rfl (hb B.2.1 hd) rfl hx' hz' (XT.aa_ne_t q) ho rfl r) (kt q)
theorem Base.ifnull (B : Base p l e R s m args below meth c Z y bytes maxL ret h0 ws C) (pt pf : Nat) {o : Int} (hpt : ((pc : Int) + o).toNat = pt) (ho : 0 ≤ (pc : Int) + o) (hpf : pf = pc + 3) {x : Value} (hd : decode bytes pc = .ok (.ifnull o, 3)) (hx' : x.isRef = true) (kt : x = .null → B.G h cl sl (mkF m pt Ls st)) (kf : ¬ x = .null → B.G h cl sl (mkF m pf Ls st)) : B.G h cl sl (mkF m pc Ls (x :: st)) := by
  subst hpt hpf
  by_cases q : x = .null
  · exact B.via (fun T t X r => XT.nullYes X B.1 rfl rfl (hb B.2.1 hd) rfl q ho rfl r) (kt q)
  · exact B.via (fun T t X r => XT.nullNo X B.1 rfl (hb B.2.1 hd) rfl hx' q r) (kf q)
theorem Base.ifnonnull (B : Base p l e R s m args below meth c Z y bytes maxL ret h0 ws C) (pt pf : Nat) {o : Int} (hpt : ((pc : Int) + o).toNat = pt) (ho : 0 ≤ (pc : Int) + o) (hpf : pf = pc + 3) {x : Value} (hd : decode bytes pc = .ok (.ifnonnull o, 3)) (hx' : x.isRef = true) (kt : ¬ x = .null → B.G h cl sl (mkF m pt Ls st)) (kf : x = .null → B.G h cl sl (mkF m pf Ls st)) : B.G h cl sl (mkF m pc Ls (x :: st)) := by
  subst hpt hpf
  by_cases q : x = .null
  · exact B.via (fun T t X r => XT.nonnullNo X B.1 rfl (hb B.2.1 hd) rfl q r) (kf q)
  · exact B.via (fun T t X r => XT.nonnullYes X B.1 rfl rfl (hb B.2.1 hd) rfl hx' q ho rfl r) (kt q)
theorem Base.topI (B : Base p l e R s m args below meth c Z y bytes maxL ret h0 ws C) {x : Int32} (v : Int32) (q : x = v) (k : B.G h cl sl (mkF m pc Ls (.int v :: st))) : B.G h cl sl (mkF m pc Ls (.int x :: st)) := by subst q; exact k
theorem Base.topL (B : Base p l e R s m args below meth c Z y bytes maxL ret h0 ws C) {x : Int64} (v : Int64) (q : x = v) (k : B.G h cl sl (mkF m pc Ls (.long v :: st))) : B.G h cl sl (mkF m pc Ls (.long x :: st)) := by subst q; exact k
/-! 2. the ends -/
theorem Base.leave (B : Base p l e R s m args below meth c Z y bytes maxL ret h0 ws C) (hcl : cl ≤ R.cells) (hsl : sl ≤ R.slots) {v : Option Value} (hv : meth.sig.returnType = none → v = none) (hC : C v h)
    (st : ∀ (T : State) (locs : List Loc) (fs : List Frame), Stand p l e R s m args below meth c T locs cl sl → (∀ (f : JFrame) (acts : List Action), f.method = m → f.locked = none → f.entered = [] → (doReturn e (T.setTop f) acts v).1 = T.setFrames fs) → Steps p.tables e below (T.setTop g) (T.setFrames fs)) : B.G h cl sl g := fun T locs X N eT => by
  have hlk : meth.locks = false := B.2.2.2.2.2.2.1
  obtain ⟨fs, hr, hrun, hended, hW, hsame⟩ := X.leave (v := v) hv hlk
  have e0 := B.2.2.2.2.2.2.2.2
  refine ⟨_, _, st T locs fs X hr, hrun, hended, _, _, rfl, ⟨?_, N, ?_⟩, ⟨_, rfl⟩, hW, hsame.mono hcl hsl⟩
  · show C v T.heap
    rw [eT]; exact hC
  · show Keep h0 T.heap ws
    rw [← e0] at N ⊢
    exact keep_of X N
theorem Base.ret0 (B : Base p l e R s m args below meth c Z y bytes maxL none h0 ws C) (hd : decode bytes pc = .ok (.return_, 1)) (hcl : cl ≤ R.cells) (hsl : sl ≤ R.slots) (hC : C none h) : B.G h cl sl (mkF m pc Ls []) :=
  B.leave hcl hsl (fun _ => rfl) hC fun T locs fs X hr => X.returnOut B.1 B.2.2.2.2.2.1 (hb B.2.1 hd) hr
theorem Base.retI (B : Base p l e R s m args below meth c Z y bytes maxL (some .int) h0 ws C) {x : Int32} (hd : decode bytes pc = .ok (.ireturn, 1)) (hcl : cl ≤ R.cells) (hsl : sl ≤ R.slots) (hC : C (some (.int x)) h) : B.G h cl sl (mkF m pc Ls (.int x :: st)) :=
  B.leave hcl hsl (fun q => by rw [B.2.2.2.2.2.1] at q; cases q) hC fun T locs fs X hr => retOut X B.1 B.2.2.2.2.2.1 rfl (Or.inl ⟨rfl, Or.inl rfl, _, rfl⟩) (hb B.2.1 hd) hr
theorem Base.retL (B : Base p l e R s m args below meth c Z y bytes maxL (some .long) h0 ws C) {x : Int64} (hd : decode bytes pc = .ok (.lreturn, 1)) (hcl : cl ≤ R.cells) (hsl : sl ≤ R.slots) (hC : C (some (.long x)) h) : B.G h cl sl (mkF m pc Ls (.long x :: st)) :=
  B.leave hcl hsl (fun q => by rw [B.2.2.2.2.2.1] at q; cases q) hC fun T locs fs X hr => retOut X B.1 B.2.2.2.2.2.1 rfl (Or.inr (Or.inl ⟨rfl, rfl, _, rfl⟩)) (hb B.2.1 hd) hr
/-- a boolean, byte, char, short: what comes back is narrowed -/
theorem Base.retN {t : FieldType} (B : Base p l e R s m args below meth c Z y bytes maxL (some t) h0 ws C) {x : Int32} (ht : t = .boolean ∨ t = .byte ∨ t = .char ∨ t = .short) (hd : decode bytes pc = .ok (.ireturn, 1)) (hcl : cl ≤ R.cells) (hsl : sl ≤ R.slots) (hC : C (some (.int (nar t x))) h) : B.G h cl sl (mkF m pc Ls (.int x :: st)) :=
  B.leave hcl hsl (fun q => by rw [B.2.2.2.2.2.1] at q; cases q) hC fun T locs fs X hr => Jvm.RoadKit.retN X B.1 B.2.2.2.2.2.1 ht (hb B.2.1 hd) hr
theorem Base.retA {t : FieldType} (B : Base p l e R s m args below meth c Z y bytes maxL (some t) h0 ws C) {x : Value} (ht : t.isReference = true) (hx' : x.isRef = true) (hd : decode bytes pc = .ok (.areturn, 1)) (hcl : cl ≤ R.cells) (hsl : sl ≤ R.slots) (hC : C (some x) h) : B.G h cl sl (mkF m pc Ls (x :: st)) :=
  B.leave hcl hsl (fun q => by rw [B.2.2.2.2.2.1] at q; cases q) hC fun T locs fs X hr => retOut X B.1 B.2.2.2.2.2.1 (by rcases ref_cases hx' with rfl | ⟨a, rfl⟩ <;> cases t <;> simp_all [narrow, FieldType.isReference]) (Or.inr (Or.inr (Or.inr (Or.inr ⟨rfl, ht, hx'⟩)))) (hb B.2.1 hd) hr
/-! 3. the heap -/
theorem Base.size (B : Base p l e R s m args below meth c Z y bytes maxL ret h0 ws C) {T : State} {locs : List Loc} (X : Stand p l e R s m args below meth c T locs cl sl) : h0.size ≤ T.heap.size := by
  have q := X.same.2.1
  rw [B.2.2.2.2.2.2.2.2] at q; exact q
/-- the heap has only grown -/
theorem Base.grown (B : Base p l e R s m args below meth c Z y bytes maxL ret h0 ws C) (k : h0.size ≤ h.size → B.G h cl sl g) : B.G h cl sl g := fun T locs X N eT => k (by rw [← eT]; exact B.size X) T locs X N eT
theorem Base.getF (B : Base p l e R s m args below meth c Z y bytes maxL ret h0 ws C) (pc' : Nat) (hp : pc' = pc + 3) {i : Nat} {O n d : String} {a : Addr} {v : Value} (hd : decode bytes pc = .ok (.getfield i, 3)) (w : (Cond.fieldLink y.cls i O n d).before a0 Z = true) (F : Fld Z h a O n d v) (k : B.G h cl sl (mkF m pc' Ls (v :: st))) : B.G h cl sl (mkF m pc Ls (.ref a :: st)) := fun T locs X N eT => by
  subst hp
  obtain ⟨T', X', e', stp⟩ := Jvm.RoadKit.getF X B.1 B.2.2.2.1 B.2.2.2.2.1 (host := "") (Or.inl w) Via.refl eT F (g := mkF m pc Ls (.ref a :: st)) rfl rfl (hb B.2.1 hd)
  obtain ⟨t, o, q, r⟩ := k T' locs X' N e'
  exact ⟨t, o, stp _ q, r⟩
theorem Base.getS (B : Base p l e R s m args below meth c Z y bytes maxL ret h0 ws C) (pc' : Nat) (hp : pc' = pc + 3) {i : Nat} {O n d : String} {v : Value} (hd : decode bytes pc = .ok (.getstatic i, 3)) (w : (Cond.fieldLink y.cls i O n d).before a0 Z = true) (F : Sta Z h O n d v) (k : B.G h cl sl (mkF m pc' Ls (v :: st))) : B.G h cl sl (mkF m pc Ls st) := fun T locs X N eT => by
  subst hp
  obtain ⟨T', X', e', stp⟩ := Jvm.RoadKit.getS (host := "") X B.1 B.2.2.2.1 B.2.2.2.2.1 w Via.refl eT F (g := mkF m pc Ls st) rfl (hb B.2.1 hd)
  obtain ⟨t, o, q, r⟩ := k T' locs X' N e'
  exact ⟨t, o, stp _ q, r⟩
theorem Base.putF (B : Base p l e R s m args below meth c Z y bytes maxL ret h0 ws C) (pc' : Nat) (hp : pc' = pc + 3) {i kk : Nat} {O n d CC : String} {a : Addr} {v old : Value} {ty : FieldType} (hd : decode bytes pc = .ok (.putfield i, 3)) (w : (Cond.fieldLink y.cls i O n d).before a0 Z = true) (F : Fld Z h a O n d old) (E : Exa Z h a CC)
    (L : (Cond.lays CC O n d).before a0 Z = true ∨ ((Cond.laysFinal CC O n d).before a0 Z = true ∧ y.cls = O ∧ y.name = "<init>")) (wi : (Cond.instantiable CC kk).before a0 Z = true) (hty : parseFieldDescriptor d = some ty) (hn : narrow ty v = v) (hf : fits ty v = true) (hw : a ∈ ws ∨ h0.size ≤ a)
    (k : ∀ h', Wr h h' a (Jvm.RoadKit.slotOf Z O n d) v → B.G h' cl sl (mkF m pc' Ls st)) : B.G h cl sl (mkF m pc Ls (v :: .ref a :: st)) := fun T locs X N eT => by
  subst hp
  obtain ⟨T', h', X', e', W, stp⟩ := Jvm.RoadKit.putF X B.1 B.2.2.2.1 B.2.2.2.2.1 (host := "") (Or.inl w) Via.refl eT F E (L.imp id fun q => ⟨q.1, q.2.1, B.2.2.2.2.2.2.2.1.trans q.2.2⟩) wi hty hn hf (g := mkF m pc Ls (v :: .ref a :: st)) rfl rfl (hb B.2.1 hd)
  obtain ⟨t, o, q, r⟩ := k h' W T' _ X' (N.one hw) e'
  exact ⟨t, o, stp _ q, r⟩
theorem Base.newO (B : Base p l e R s m args below meth c Z y bytes maxL ret h0 ws C) (pc' : Nat) (hp : pc' = pc + 3) {i n : Nat} {CC : String} (hd : decode bytes pc = .ok (.new i, 3)) (w : (Cond.classLink y.cls i CC).before a0 Z = true) (wi : (Cond.instantiable CC n).before a0 Z = true) (wz : (Cond.initialized CC).before a0 Z = true) (hc : cl + 1 ≤ R.cells) (hs : sl + n ≤ R.slots)
    (k : ∀ h' a, a = h.size → h0.size ≤ a → Ext h h' → Exa Z h' a CC → (∀ {O nm d : String} {ty : FieldType}, Laid Z a0 CC O nm d → parseFieldDescriptor d = some ty → Fld Z h' a O nm d (defaultValue ty)) → B.G h' (cl + 1) (sl + n) (mkF m pc' Ls (.ref a :: st))) : B.G h cl sl (mkF m pc Ls st) := fun T locs X N eT => by
  subst hp
  obtain ⟨T', h', X', e', E, A, D, -, stp⟩ := Jvm.RoadKit.newO X B.1 B.2.2.2.1 B.2.2.2.2.1 w wi wz eT (g := mkF m pc Ls st) rfl (hb B.2.1 hd) hc hs
  obtain ⟨t, o, q, r⟩ := k h' _ rfl (by rw [← eT]; exact B.size X) E A D T' locs X' N e'
  exact ⟨t, o, stp _ q, r⟩
theorem Base.initO (B : Base p l e R s m args below meth c Z y bytes maxL ret h0 ws C) (pc' : Nat) (hp : pc' = pc + 3) {i : Nat} {a : Addr} (hd : decode bytes pc = .ok (.invokespecial i, 3)) (w1 : (Cond.methodLink y.cls i Lib.objectInit).before a0 Z = true) (w2 : (Cond.instanceMethod Lib.objectInit).before a0 Z = true) (w3 : (Cond.code Lib.objectInit ⟨#[0xb1]⟩ 1 none).before a0 Z = true)
    (hLs : Ls.size = maxL) (W : Nat) (hW : (st.map fun v => v.category).sum = W) (hf : 1 ≤ R.frames) (hl : W + 12 ≤ R.locals) (k : B.G h cl sl (mkF m pc' Ls st)) : B.G h cl sl (mkF m pc Ls (.ref a :: st)) := fun T locs X N eT => by
  subst hp
  obtain ⟨T', X', e', stp⟩ := Jvm.RoadKit.initO X B.1 B.2.2.2.1 B.2.2.2.2.1 w1 w2 w3 eT (g := mkF m pc Ls (.ref a :: st)) rfl (hLs.trans B.2.2.1.symm) rfl (hb B.2.1 hd) hf (W := W) (by show 2 * 0 + _ ≤ _; omega) hl
  obtain ⟨t, o, q, r⟩ := k T' locs X' N e'
  exact ⟨t, o, stp _ q, r⟩
/-! 4. calls -/
section Calls
variable {z : MethodName} {i : Nat} {cb : ByteArray} {cm : Nat} {cr : Option FieldType} {rm : Room} {as : Array Value} {ws' : List Addr} {C' : Option Value → Heap → Prop} {argsL rest : List Value} {ps : List FieldType} {rt : Option FieldType} {W : Nat}
theorem Base.callS (B : Base p l e R s m args below meth c Z y bytes maxL ret h0 ws C) (pc' : Nat) (hp : pc' = pc + 3) (hd : decode bytes pc = .ok (.invokestatic i, 3))
    (w1 : (Cond.methodLink y.cls i z).before a0 Z = true) (w2 : (Cond.static z).before a0 Z = true) (w3 : (Cond.initialized z.cls).before a0 Z = true) (w4 : (Cond.code z cb cm cr).before a0 Z = true)
    (hz : z.cls ≠ "java/lang/invoke/MethodHandle" ∧ z.cls ≠ "java/lang/invoke/VarHandle") (argsL rest : List Value) (M : Met l Z z cb cm cr [] rm as h ws' C') (has : argsL.toArray = as) (hst : st = argsL.reverse ++ rest) (hpd : parseMethodDescriptor z.desc = some ⟨ps, rt⟩) (hlen : argsL.length = ps.length) (hLs : Ls.size = maxL)
    (W : Nat) (hW : (rest.map fun v => v.category).sum = W) (hf : rm.frames + 1 ≤ R.frames) (hl : W + (cm + 11) + rm.locals ≤ R.locals) (hc : cl + rm.cells ≤ R.cells) (hs : sl + rm.slots ≤ R.slots) (hws : ∀ x ∈ ws', x ∈ ws ∨ h0.size ≤ x)
    (k : ∀ v h', Keep h h' ws' → C' v h' → B.G h' (cl + rm.cells) (sl + rm.slots) (mkF m pc' Ls (v.toList ++ rest))) : B.G h cl sl (mkF m pc Ls st) := fun T locs X N eT => by
  subst hp
  have hZ := B.2.2.2.1
  obtain ⟨v, _, ⟨T', L', k', n'⟩, -, X', ⟨Lc, hQ, l', y', z'⟩, stp⟩ := Jvm.LawKit.callS X B.1 (y := z) B.2.2.2.2.1 (mvT hZ w1) (mvT hZ w2) (mvT hZ w3) (mvT hZ w4) hz (backOf (W := W) M hZ w4 w3 hf hl) (g := mkF m pc Ls st) rfl (hLs.trans B.2.2.1.symm) (argsL := argsL) (rest := rest) (lenOf hpd hlen) hst (by show 2 * 0 + _ ≤ _; omega) (hb B.2.1 hd) (fun _ _ => ⟨has, eT, hc, hs⟩)
  dsimp only [Pt.U, Pt.locs, Pt.cells, Pt.slots] at X' l' y' z' stp hQ
  subst l' y' z'
  obtain ⟨hC, hN, hK⟩ := hQ
  obtain ⟨t, o, q, r⟩ := k v T'.heap hK hC T' _ X' (N.app fun u hu => (hN u hu).elim (fun q => hws _ q) fun q => Or.inr (Nat.le_trans (by rw [← eT]; exact B.size X) q)) rfl
  exact ⟨t, o, stp _ q, r⟩
theorem Base.callI (B : Base p l e R s m args below meth c Z y bytes maxL ret h0 ws C) (pc' : Nat) (hp : pc' = pc + 3) (hd : decode bytes pc = .ok (.invokespecial i, 3)) (hin : z.name = "<init>")
    (w1 : (Cond.methodLink y.cls i z).before a0 Z = true) (w2 : (Cond.instanceMethod z).before a0 Z = true) (w3 : (Cond.initialized z.cls).before a0 Z = true) (w4 : (Cond.code z cb cm none).before a0 Z = true)
    (hz : z.cls ≠ "java/lang/invoke/MethodHandle" ∧ z.cls ≠ "java/lang/invoke/VarHandle") {a : Addr} (argsL rest : List Value) (M : Met l Z z cb cm none [] rm as h ws' C') (has : (.ref a :: argsL).toArray = as) (hst : st = argsL.reverse ++ .ref a :: rest) (hpd : parseMethodDescriptor z.desc = some ⟨ps, rt⟩) (hlen : argsL.length = ps.length) (hLs : Ls.size = maxL)
    (W : Nat) (hW : (rest.map fun v => v.category).sum = W) (hf : rm.frames + 1 ≤ R.frames) (hl : W + (cm + 11) + rm.locals ≤ R.locals) (hc : cl + rm.cells ≤ R.cells) (hs : sl + rm.slots ≤ R.slots) (hws : ∀ x ∈ ws', x ∈ ws ∨ h0.size ≤ x)
    (k : ∀ v h', Keep h h' ws' → C' v h' → B.G h' (cl + rm.cells) (sl + rm.slots) (mkF m pc' Ls (v.toList ++ rest))) : B.G h cl sl (mkF m pc Ls st) := fun T locs X N eT => by
  subst hp
  have hZ := B.2.2.2.1
  obtain ⟨v, _, ⟨T', L', k', n'⟩, -, X', ⟨Lc, hQ, l', y', z'⟩, stp⟩ := X.specialBack B.1 (y := z) hin B.2.2.2.2.1 (mvT hZ w1) (mvT hZ w2) (mvT hZ w4) hz (backOf (W := W) M hZ w4 w3 hf hl) (g := mkF m pc Ls st) rfl (hLs.trans B.2.2.1.symm) (Steps.refl _) (a := a) (argsL := argsL) (rest := rest) (lenOf hpd hlen) hst (by show 2 * 0 + _ ≤ _; omega) (hb B.2.1 hd) (fun _ _ => ⟨has, eT, hc, hs⟩)
  dsimp only [Pt.U, Pt.locs, Pt.cells, Pt.slots] at X' l' y' z' stp hQ
  subst l' y' z'
  obtain ⟨hC, hN, hK⟩ := hQ
  obtain ⟨t, o, q, r⟩ := k v T'.heap hK hC T' _ X' (N.app fun u hu => (hN u hu).elim (fun q => hws _ q) fun q => Or.inr (Nat.le_trans (by rw [← eT]; exact B.size X) q)) rfl
  exact ⟨t, o, stp.trans q, r⟩
theorem Base.callV (B : Base p l e R s m args below meth c Z y bytes maxL ret h0 ws C) (pc' : Nat) (hp : pc' = pc + 3) (hd : decode bytes pc = .ok (.invokevirtual i, 3)) {CC : String}
    (w1 : (Cond.methodLink y.cls i z).before a0 Z = true) (w2 : (Cond.declares z).before a0 Z = true) (w5 : (Cond.selects CC z z).before a0 Z = true) (w6 : (Cond.instanceMethod z).before a0 Z = true) (w3 : (Cond.initialized z.cls).before a0 Z = true) (w4 : (Cond.code z cb cm cr).before a0 Z = true)
    (hz : z.cls ≠ "java/lang/invoke/MethodHandle" ∧ z.cls ≠ "java/lang/invoke/VarHandle") {a : Addr} (E : Exa Z h a CC) (argsL rest : List Value) (M : Met l Z z cb cm cr [] rm as h ws' C') (has : (.ref a :: argsL).toArray = as) (hst : st = argsL.reverse ++ .ref a :: rest) (hpd : parseMethodDescriptor z.desc = some ⟨ps, rt⟩) (hlen : argsL.length = ps.length) (hLs : Ls.size = maxL)
    (W : Nat) (hW : (rest.map fun v => v.category).sum = W) (hf : rm.frames + 1 ≤ R.frames) (hl : W + (cm + 11) + rm.locals ≤ R.locals) (hc : cl + rm.cells ≤ R.cells) (hs : sl + rm.slots ≤ R.slots) (hws : ∀ x ∈ ws', x ∈ ws ∨ h0.size ≤ x)
    (k : ∀ v h', Keep h h' ws' → C' v h' → B.G h' (cl + rm.cells) (sl + rm.slots) (mkF m pc' Ls (v.toList ++ rest))) : B.G h cl sl (mkF m pc Ls st) := fun T locs X N eT => by
  subst hp
  have hZ := B.2.2.2.1
  obtain ⟨cq, kq, qa, qb, qc⟩ := isOf hZ eT E
  obtain ⟨v, _, ⟨T', L', k', n'⟩, -, X', ⟨Lc, hQ, l', y', z'⟩, stp⟩ := X.virtualBack B.1 (y := z) (z := z) B.2.2.2.2.1 (mvT hZ w1) (mvT hZ w2) (notFace_of_selects (args := args) (mvT hZ w5)) (mvT hZ w5) (mvT hZ w6) hz (backOf (W := W) M hZ w4 w3 hf hl) qa qc (g := mkF m pc Ls st) rfl (hLs.trans B.2.2.1.symm) (Steps.refl _) (argsL := argsL) (rest := rest) (lenOf hpd hlen) hst (by show 2 * 0 + _ ≤ _; omega) (hb B.2.1 hd) (fun _ _ => ⟨has, eT, hc, hs⟩)
  dsimp only [Pt.U, Pt.locs, Pt.cells, Pt.slots] at X' l' y' z' stp hQ
  subst l' y' z'
  obtain ⟨hC, hN, hK⟩ := hQ
  obtain ⟨t, o, q, r⟩ := k v T'.heap hK hC T' _ X' (N.app fun u hu => (hN u hu).elim (fun q => hws _ q) fun q => Or.inr (Nat.le_trans (by rw [← eT]; exact B.size X) q)) rfl
  exact ⟨t, o, stp.trans q, r⟩
theorem Base.callVU (B : Base p l e R s m args below meth c Z y bytes maxL ret h0 ws C) (pc' : Nat) (hp : pc' = pc + 3) (hd : decode bytes pc = .ok (.invokevirtual i, 3)) {x : MethodName} {CC ow : String}
    (w1 : (Cond.methodLink y.cls i x).before a0 Z = true) (w0 : (Cond.sameMethod x.cls ow x.name x.desc).before a0 Z = true) (w2 : (Cond.declares ⟨ow, x.name, x.desc⟩).before a0 Z = true) (w5 : (Cond.selects CC x z).before a0 Z = true) (w6 : (Cond.instanceMethod z).before a0 Z = true) (w3 : (Cond.initialized z.cls).before a0 Z = true) (w4 : (Cond.code z cb cm cr).before a0 Z = true)
    (hz : ow ≠ "java/lang/invoke/MethodHandle" ∧ ow ≠ "java/lang/invoke/VarHandle") {a : Addr} (E : Exa Z h a CC) (argsL rest : List Value) (M : Met l Z z cb cm cr [] rm as h ws' C') (has : (.ref a :: argsL).toArray = as) (hst : st = argsL.reverse ++ .ref a :: rest) (hpd : parseMethodDescriptor x.desc = some ⟨ps, rt⟩) (hlen : argsL.length = ps.length) (hLs : Ls.size = maxL)
    (W : Nat) (hW : (rest.map fun v => v.category).sum = W) (hf : rm.frames + 1 ≤ R.frames) (hl : W + (cm + 11) + rm.locals ≤ R.locals) (hc : cl + rm.cells ≤ R.cells) (hs : sl + rm.slots ≤ R.slots) (hws : ∀ x ∈ ws', x ∈ ws ∨ h0.size ≤ x)
    (k : ∀ v h', Keep h h' ws' → C' v h' → B.G h' (cl + rm.cells) (sl + rm.slots) (mkF m pc' Ls (v.toList ++ rest))) : B.G h cl sl (mkF m pc Ls st) := fun T locs X N eT => by
  subst hp
  have hZ := B.2.2.2.1
  obtain ⟨cq, kq, qa, qb, qc⟩ := isOf hZ eT E
  obtain ⟨v, _, ⟨T', L', k', n'⟩, -, X', ⟨Lc, hQ, l', y', z'⟩, stp⟩ := X.virtualBackUp B.1 (x := x) (y := z) B.2.2.2.2.1 (mvT hZ w1) (mvT hZ w0) (mvT hZ w2) hz (mvT hZ w5) (mvT hZ w6) (backOf (W := W) M hZ w4 w3 hf hl) qa qc (g := mkF m pc Ls st) rfl (hLs.trans B.2.2.1.symm) (Steps.refl _) (argsL := argsL) (rest := rest) (lenOf hpd hlen) hst (by show 2 * 0 + _ ≤ _; omega) (hb B.2.1 hd) (fun _ _ => ⟨has, eT, hc, hs⟩)
  dsimp only [Pt.U, Pt.locs, Pt.cells, Pt.slots] at X' l' y' z' stp hQ
  subst l' y' z'
  obtain ⟨hC, hN, hK⟩ := hQ
  obtain ⟨t, o, q, r⟩ := k v T'.heap hK hC T' _ X' (N.app fun u hu => (hN u hu).elim (fun q => hws _ q) fun q => Or.inr (Nat.le_trans (by rw [← eT]; exact B.size X) q)) rfl
  exact ⟨t, o, stp.trans q, r⟩
theorem Base.callP (B : Base p l e R s m args below meth c Z y bytes maxL ret h0 ws C) (pc' : Nat) (hp : pc' = pc + 3) (hd : decode bytes pc = .ok (.invokevirtual i, 3)) {x : MethodName} {CC : String}
    (w1 : (Cond.methodLink y.cls i z).before a0 Z = true) (w7 : (Cond.privateMethod z).before a0 Z = true) (w6 : (Cond.instanceMethod z).before a0 Z = true) (w5 : (Cond.selects CC x x).before a0 Z = true) (hxc : x.cls = z.cls) (w3 : (Cond.initialized z.cls).before a0 Z = true) (w4 : (Cond.code z cb cm cr).before a0 Z = true)
    (hz : z.cls ≠ "java/lang/invoke/MethodHandle" ∧ z.cls ≠ "java/lang/invoke/VarHandle") {a : Addr} {CE : String} (E : Exa Z h a CE) (argsL rest : List Value) (M : Met l Z z cb cm cr [] rm as h ws' C') (has : (.ref a :: argsL).toArray = as) (hst : st = argsL.reverse ++ .ref a :: rest) (hpd : parseMethodDescriptor z.desc = some ⟨ps, rt⟩) (hlen : argsL.length = ps.length) (hLs : Ls.size = maxL)
    (W : Nat) (hW : (rest.map fun v => v.category).sum = W) (hf : rm.frames + 1 ≤ R.frames) (hl : W + (cm + 11) + rm.locals ≤ R.locals) (hc : cl + rm.cells ≤ R.cells) (hs : sl + rm.slots ≤ R.slots) (hws : ∀ x ∈ ws', x ∈ ws ∨ h0.size ≤ x)
    (k : ∀ v h', Keep h h' ws' → C' v h' → B.G h' (cl + rm.cells) (sl + rm.slots) (mkF m pc' Ls (v.toList ++ rest))) : B.G h cl sl (mkF m pc Ls st) := fun T locs X N eT => by
  subst hp
  have hZ := B.2.2.2.1
  obtain ⟨cq, q1, q2⟩ := E.cell
  have hpr : s.PrivateAt z := Cond.privateMethod_at (mvP hZ w7 (args := args))
  have hi : (Cond.instanceMethod z).before args s = true := mvT hZ w6
  have hsel : (Cond.selects z.cls z z).before args s = true := by
    obtain ⟨c2, r2, m2, -, -, q3, -, kP, hkP, hkPi⟩ := Cond.selects_spec (mvT hZ w5 (args := args))
    have hc2 := findClass_of_methodNamed q3
    rw [hxc] at hc2
    exact selects_self_of_private hc2 hkP hkPi hpr hi hz
  obtain ⟨v, _, ⟨T', L', k', n'⟩, -, X', ⟨Lc, hQ, l', y', z'⟩, stp⟩ := X.privateBack B.1 (y := z) B.2.2.2.2.1 (mvT hZ w1) hi hsel hpr (mvT hZ w4) hz (backOf (W := W) M hZ w4 w3 hf hl) (g := mkF m pc Ls st) rfl (hLs.trans B.2.2.1.symm) (Steps.refl _) (a := a) (by rw [eT]; exact q1) q2 (argsL := argsL) (rest := rest) (lenOf hpd hlen) hst (by show 2 * 0 + _ ≤ _; omega) (hb B.2.1 hd) (fun _ _ => ⟨has, eT, hc, hs⟩)
  dsimp only [Pt.U, Pt.locs, Pt.cells, Pt.slots] at X' l' y' z' stp hQ
  subst l' y' z'
  obtain ⟨hC, hN, hK⟩ := hQ
  obtain ⟨t, o, q, r⟩ := k v T'.heap hK hC T' _ X' (N.app fun u hu => (hN u hu).elim (fun q => hws _ q) fun q => Or.inr (Nat.le_trans (by rw [← eT]; exact B.size X) q)) rfl
  exact ⟨t, o, stp.trans q, r⟩
end Calls
/-- where nothing old is written, all that stood at the start stands -/
theorem Base.olds (B : Base p l e R s m args below meth c Z y bytes maxL ret h0 [] C) (k : Ext h0 h → B.G h cl sl g) : B.G h cl sl g := fun T locs X N eT => by
  refine k ?_ T locs X N eT
  have e0 := B.2.2.2.2.2.2.2.2
  have N' := N
  rw [← e0] at N'
  have q := keep_of X N'
  rw [e0, eT] at q
  exact ⟨q.1, fun a c hc => q.2.1 a c hc (by simp)⟩
end Walk
/-! 3b. arrays: 'Ary': the array at a holds just the list vs -/
def Ary (Z : State) (h : Heap) (a : Addr) (ty : FieldType) (vs : List Value) : Prop := ∃ c : Cell, Arr Z h a c ty ∧ c.slots.toList = vs
section Arrays
variable {p : Program} {l : Launch} {e : Env} {R : Room} {s : State} {m : MethodId} {args : Array Value} {below : List Frame} {meth : Method} {c : Code} {Z : State} {a0 : Array Value} {y : MethodName} {bytes : ByteArray} {maxL : Nat} {ret : Option FieldType} {h0 : Heap} {ws : List Addr} {C : Option Value → Heap → Prop}
variable {h h' : Heap} {cl sl : Nat} {g g' : JFrame} {pc : Nat} {Ls : Array Slot} {st : List Value} {a b : Addr} {ty : FieldType} {vs : List Value} {j : Int32} {i : Nat} {v w : Value} {wl : List Addr}
theorem Ary.lt (A : Ary Z h a ty vs) : a < h.size := by obtain ⟨c, A, -⟩ := A; exact A.lt
theorem Ary.ext (A : Ary Z h a ty vs) (E : Ext h h') : Ary Z h' a ty vs := by obtain ⟨c, A, r⟩ := A; exact ⟨c, A.ext E, r⟩
theorem Ary.other (A : Ary Z h b ty vs) (W : Wr h h' a i v) (q : b ≠ a) : Ary Z h' b ty vs := by obtain ⟨c, A, r⟩ := A; exact ⟨c, A.other W q, r⟩
theorem Ary.keep (A : Ary Z h a ty vs) (K : Keep h h' wl) (q : a ∉ wl) : Ary Z h' a ty vs := by obtain ⟨c, A, r⟩ := A; exact ⟨c, ⟨K.2.1 a c A.1 q, A.2⟩, r⟩
theorem Ary.set (A : Ary Z h a ty vs) (W : Wr h h' a i v) : Ary Z h' a ty (vs.set i v) := by
  obtain ⟨c, A, rfl⟩ := A
  exact ⟨_, A.same W, by simp [Cell.setSlot]⟩
theorem Ary.new {cA : ClassId} {n : Int32} (A : Arr Z h a (newA cA ty n) ty) : Ary Z h a ty (List.replicate n.toNatClampNeg (defaultValue ty)) := ⟨_, A, by simp [newA]⟩
theorem ary_in {c : Cell} (r : c.slots.toList = vs) (hj : ¬ j < 0) (hi : j.toNatClampNeg = i) (hv : vs[i]? = some v) : ¬ (j < 0 ∨ c.slots.size ≤ j.toNatClampNeg) ∧ c.slots[j.toNatClampNeg]? = some v := by
  subst r hi
  rw [Array.getElem?_toList] at hv
  exact ⟨fun q => q.elim hj fun q => absurd (Array.getElem?_eq_some_iff.mp hv).1 (Nat.not_lt.mpr q), hv⟩
theorem ary_lt {c : Cell} (r : c.slots.toList = vs) (hj : ¬ j < 0) (hi : j.toNatClampNeg = i) (hv : i < vs.length) : ¬ (j < 0 ∨ c.slots.size ≤ j.toNatClampNeg) := by
  subst r hi
  rw [Array.length_toList] at hv
  exact fun q => q.elim hj fun q => absurd hv (Nat.not_lt.mpr q)
theorem Base.arrlen (B : Base p l e R s m args below meth c Z y bytes maxL ret h0 ws C) (pc' : Nat) (hp : pc' = pc + 1) (hd : decode bytes pc = .ok (.arraylength, 1)) (A : Ary Z h a ty vs) (n : Int32) (hn : vs.length.toInt32 = n) (k : B.G h cl sl (mkF m pc' Ls (.int n :: st))) : B.G h cl sl (mkF m pc Ls (.ref a :: st)) := by
  subst hp hn
  obtain ⟨c1, A, rfl⟩ := A
  rw [Array.length_toList] at k
  exact B.viaX (fun T t L X eT r => X.arraylength (g := mkF m pc Ls (.ref a :: st)) B.1 (by rw [eT]; exact A.1) (State.isArrayOf_alike (T := s) B.2.2.2.1.alike A.2.1) rfl rfl (hb B.2.1 hd) t r) k
theorem Base.baload (B : Base p l e R s m args below meth c Z y bytes maxL ret h0 ws C) (pc' : Nat) (hp : pc' = pc + 1) (hd : decode bytes pc = .ok (.baload, 1)) (A : Ary Z h a .byte vs) (hj : ¬ j < 0) (i : Nat) (hi : j.toNatClampNeg = i) (v : Value) (hv : vs[i]? = some v) (k : B.G h cl sl (mkF m pc' Ls (v :: st))) : B.G h cl sl (mkF m pc Ls (.int j :: .ref a :: st)) := by
  subst hp
  obtain ⟨c1, A, r⟩ := A
  obtain ⟨q1, q2⟩ := ary_in r hj hi hv
  exact B.viaX (fun T t L X eT r => X.baloadBytes (g := mkF m pc Ls (.int j :: .ref a :: st)) B.1 (by rw [eT]; exact A.1) (State.isArrayOf_alike (T := s) B.2.2.2.1.alike A.2.1) A.2.2 q1 q2 rfl rfl (hb B.2.1 hd) t r) k
theorem Base.iaload (B : Base p l e R s m args below meth c Z y bytes maxL ret h0 ws C) (pc' : Nat) (hp : pc' = pc + 1) (hd : decode bytes pc = .ok (.iaload, 1)) (A : Ary Z h a .int vs) (hj : ¬ j < 0) (i : Nat) (hi : j.toNatClampNeg = i) (v : Value) (hv : vs[i]? = some v) (k : B.G h cl sl (mkF m pc' Ls (v :: st))) : B.G h cl sl (mkF m pc Ls (.int j :: .ref a :: st)) := by
  subst hp
  obtain ⟨c1, A, r⟩ := A
  obtain ⟨q1, q2⟩ := ary_in r hj hi hv
  exact B.viaX (fun T t L X eT r => X.iaload (g := mkF m pc Ls (.int j :: .ref a :: st)) B.1 (by rw [eT]; exact A.1) (State.isArrayOf_alike (T := s) B.2.2.2.1.alike A.2.1) A.2.2 q1 q2 rfl rfl (hb B.2.1 hd) t r) k
theorem Base.laload (B : Base p l e R s m args below meth c Z y bytes maxL ret h0 ws C) (pc' : Nat) (hp : pc' = pc + 1) (hd : decode bytes pc = .ok (.laload, 1)) (A : Ary Z h a .long vs) (hj : ¬ j < 0) (i : Nat) (hi : j.toNatClampNeg = i) (v : Value) (hv : vs[i]? = some v) (k : B.G h cl sl (mkF m pc' Ls (v :: st))) : B.G h cl sl (mkF m pc Ls (.int j :: .ref a :: st)) := by
  subst hp
  obtain ⟨c1, A, r⟩ := A
  obtain ⟨q1, q2⟩ := ary_in r hj hi hv
  exact B.viaX (fun T t L X eT r => X.laload (g := mkF m pc Ls (.int j :: .ref a :: st)) B.1 (by rw [eT]; exact A.1) (State.isArrayOf_alike (T := s) B.2.2.2.1.alike A.2.1) A.2.2 q1 q2 rfl rfl (hb B.2.1 hd) t r) k
theorem Base.newP (B : Base p l e R s m args below meth c Z y bytes maxL ret h0 ws C) (pc' : Nat) (hp : pc' = pc + 2) {aty : ArrayType} (hd : decode bytes pc = .ok (.newarray aty, 2)) (w : (Cond.arrayClass (newarray.typeOf aty)).before a0 Z = true) {n : Int32} (hn : ¬ n < 0) (cap : Nat) (hcap : n.toNatClampNeg ≤ cap) (hb' : cap * 8 ≤ 536870912) (hc : cl + 1 ≤ R.cells) (hs : sl + cap ≤ R.slots)
    (k : ∀ h' a, a = h.size → h0.size ≤ a → Ext h h' → Ary Z h' a (newarray.typeOf aty) (List.replicate n.toNatClampNeg (defaultValue (newarray.typeOf aty))) → B.G h' (cl + 1) (sl + cap) (mkF m pc' Ls (.ref a :: st))) : B.G h cl sl (mkF m pc Ls (.int n :: st)) := fun T locs X N eT => by
  subst hp
  obtain ⟨T', h', cA, X', e', E, A, stp⟩ := Jvm.RoadKit.newP X B.1 B.2.2.2.1 w eT (g := mkF m pc Ls (.int n :: st)) rfl (hb B.2.1 hd) rfl hn hcap hb' hc hs
  obtain ⟨t, o, q, r⟩ := k h' _ rfl (by rw [← eT]; exact B.size X) E (Ary.new A) T' locs X' N e'
  exact ⟨t, o, stp _ q, r⟩
theorem Base.bastore (B : Base p l e R s m args below meth c Z y bytes maxL ret h0 ws C) (pc' : Nat) (hp : pc' = pc + 1) (hd : decode bytes pc = .ok (.bastore, 1)) (A : Ary Z h a .byte vs) (hj : ¬ j < 0) (i : Nat) (hi : j.toNatClampNeg = i) (hlt : i < vs.length) (hw : a ∈ ws ∨ h0.size ≤ a) {x : Int32} (k : ∀ h', Wr h h' a i (.int x.toInt8.toInt32) → Ary Z h' a .byte (vs.set i (.int x.toInt8.toInt32)) → B.G h' cl sl (mkF m pc' Ls st)) : B.G h cl sl (mkF m pc Ls (.int x :: .int j :: .ref a :: st)) := fun T locs X N eT => by
  subst hp
  obtain ⟨c1, A1, r1⟩ := A
  obtain ⟨T', h', X', e', W, stp⟩ := stB X B.1 B.2.2.2.1 eT A1 (ary_lt r1 hj hi hlt) (g := mkF m pc Ls (.int x :: .int j :: .ref a :: st)) rfl rfl (hb B.2.1 hd)
  rw [hi] at W
  obtain ⟨t, o, q, r⟩ := k h' W (Ary.set ⟨c1, A1, r1⟩ W) T' _ X' (N.one hw) e'
  exact ⟨t, o, stp _ q, r⟩
theorem Base.iastore (B : Base p l e R s m args below meth c Z y bytes maxL ret h0 ws C) (pc' : Nat) (hp : pc' = pc + 1) (hd : decode bytes pc = .ok (.iastore, 1)) (A : Ary Z h a .int vs) (hj : ¬ j < 0) (i : Nat) (hi : j.toNatClampNeg = i) (hlt : i < vs.length) (hw : a ∈ ws ∨ h0.size ≤ a) {x : Int32} (k : ∀ h', Wr h h' a i (.int x) → Ary Z h' a .int (vs.set i (.int x)) → B.G h' cl sl (mkF m pc' Ls st)) : B.G h cl sl (mkF m pc Ls (.int x :: .int j :: .ref a :: st)) := fun T locs X N eT => by
  subst hp
  obtain ⟨c1, A1, r1⟩ := A
  obtain ⟨T', h', X', e', W, stp⟩ := stI X B.1 B.2.2.2.1 eT A1 (ary_lt r1 hj hi hlt) (g := mkF m pc Ls (.int x :: .int j :: .ref a :: st)) rfl rfl (hb B.2.1 hd)
  rw [hi] at W
  obtain ⟨t, o, q, r⟩ := k h' W (Ary.set ⟨c1, A1, r1⟩ W) T' _ X' (N.one hw) e'
  exact ⟨t, o, stp _ q, r⟩
theorem Base.lastore (B : Base p l e R s m args below meth c Z y bytes maxL ret h0 ws C) (pc' : Nat) (hp : pc' = pc + 1) (hd : decode bytes pc = .ok (.lastore, 1)) (A : Ary Z h a .long vs) (hj : ¬ j < 0) (i : Nat) (hi : j.toNatClampNeg = i) (hlt : i < vs.length) (hw : a ∈ ws ∨ h0.size ≤ a) {x : Int64} (k : ∀ h', Wr h h' a i (.long x) → Ary Z h' a .long (vs.set i (.long x)) → B.G h' cl sl (mkF m pc' Ls st)) : B.G h cl sl (mkF m pc Ls (.long x :: .int j :: .ref a :: st)) := fun T locs X N eT => by
  subst hp
  obtain ⟨c1, A1, r1⟩ := A
  obtain ⟨T', h', X', e', W, stp⟩ := stJ X B.1 B.2.2.2.1 eT A1 (ary_lt r1 hj hi hlt) (g := mkF m pc Ls (.long x :: .int j :: .ref a :: st)) rfl rfl (hb B.2.1 hd)
  rw [hi] at W
  obtain ⟨t, o, q, r⟩ := k h' W (Ary.set ⟨c1, A1, r1⟩ W) T' _ X' (N.one hw) e'
  exact ⟨t, o, stp _ q, r⟩
theorem Base.caload (B : Base p l e R s m args below meth c Z y bytes maxL ret h0 ws C) (pc' : Nat) (hp : pc' = pc + 1) (hd : decode bytes pc = .ok (.caload, 1)) (A : Ary Z h a .char vs) (hj : ¬ j < 0) (i : Nat) (hi : j.toNatClampNeg = i) (v : Value) (hv : vs[i]? = some v) (k : B.G h cl sl (mkF m pc' Ls (v :: st))) : B.G h cl sl (mkF m pc Ls (.int j :: .ref a :: st)) := by
  subst hp
  obtain ⟨c1, A, r⟩ := A
  obtain ⟨q1, q2⟩ := ary_in r hj hi hv
  exact B.viaX (fun T t L X eT r => X.caload (g := mkF m pc Ls (.int j :: .ref a :: st)) B.1 (by rw [eT]; exact A.1) (State.isArrayOf_alike (T := s) B.2.2.2.1.alike A.2.1) A.2.2 q1 q2 rfl rfl (hb B.2.1 hd) t r) k
theorem Base.castore (B : Base p l e R s m args below meth c Z y bytes maxL ret h0 ws C) (pc' : Nat) (hp : pc' = pc + 1) (hd : decode bytes pc = .ok (.castore, 1)) (A : Ary Z h a .char vs) (hj : ¬ j < 0) (i : Nat) (hi : j.toNatClampNeg = i) (hlt : i < vs.length) (hw : a ∈ ws ∨ h0.size ≤ a) {x : Int32} (k : ∀ h', Wr h h' a i (.int x.toUInt32.toUInt16.toUInt32.toInt32) → Ary Z h' a .char (vs.set i (.int x.toUInt32.toUInt16.toUInt32.toInt32)) → B.G h' cl sl (mkF m pc' Ls st)) : B.G h cl sl (mkF m pc Ls (.int x :: .int j :: .ref a :: st)) := fun T locs X N eT => by
  subst hp
  obtain ⟨c1, A1, r1⟩ := A
  obtain ⟨T', h', X', e', W, stp⟩ := stC X B.1 B.2.2.2.1 eT A1 (ary_lt r1 hj hi hlt) (g := mkF m pc Ls (.int x :: .int j :: .ref a :: st)) rfl rfl (hb B.2.1 hd)
  rw [hi] at W
  obtain ⟨t, o, q, r⟩ := k h' W (Ary.set ⟨c1, A1, r1⟩ W) T' _ X' (N.one hw) e'
  exact ⟨t, o, stp _ q, r⟩
theorem Base.newPE (B : Base p l e R s m args below meth c Z y bytes maxL ret h0 ws C) (pc' : Nat) (hp : pc' = pc + 2) {aty : ArrayType} (hd : decode bytes pc = .ok (.newarray aty, 2)) (w : (Cond.arrayClass (newarray.typeOf aty)).before a0 Z = true) {n : Int32} (hn : ¬ n < 0) (cap : Nat) (hcap : n.toNatClampNeg ≤ cap) (hb' : cap * 8 ≤ 536870912) (hc : cl + 1 ≤ R.cells) (hs : sl + cap ≤ R.slots) (ad : String) (had : "[" ++ (newarray.typeOf aty).toString = ad)
    (k : ∀ h' a, a = h.size → h0.size ≤ a → Ext h h' → Ary Z h' a (newarray.typeOf aty) (List.replicate n.toNatClampNeg (defaultValue (newarray.typeOf aty))) → Exa Z h' a ad → B.G h' (cl + 1) (sl + cap) (mkF m pc' Ls (.ref a :: st))) : B.G h cl sl (mkF m pc Ls (.int n :: st)) := fun T locs X N eT => by
  subst hp
  obtain ⟨T', h', cA, X', e', E, A, A2, stp⟩ := Jvm.RoadKit.newPE X B.1 B.2.2.2.1 w eT (g := mkF m pc Ls (.int n :: st)) rfl (hb B.2.1 hd) rfl hn hcap hb' hc hs had
  obtain ⟨t, o, q, r⟩ := k h' _ rfl (by rw [← eT]; exact B.size X) E (Ary.new A) A2 T' locs X' N e'
  exact ⟨t, o, stp _ q, r⟩
theorem Base.clone (B : Base p l e R s m args below meth c Z y bytes maxL ret h0 ws C) (pc' : Nat) (hp : pc' = pc + 3) {ix : Nat} {ad : String} (hd : decode bytes pc = .ok (.invokevirtual ix, 3))
    (w1 : (Cond.methodLink y.cls ix ⟨ad, "clone", "()Ljava/lang/Object;"⟩).before a0 Z = true) (w2 : (Cond.sameMethod ad "java/lang/Object" "clone" "()Ljava/lang/Object;").before a0 Z = true) (w3 : (Cond.native ⟨"java/lang/Object", "clone", "()Ljava/lang/Object;"⟩).before a0 Z = true)
    (w4 : (Cond.instanceMethod ⟨"java/lang/Object", "clone", "()Ljava/lang/Object;"⟩).before a0 Z = true) (w5 : (Cond.selects ad ⟨ad, "clone", "()Ljava/lang/Object;"⟩ ⟨"java/lang/Object", "clone", "()Ljava/lang/Object;"⟩).before a0 Z = true) (w6 : (Cond.castable ad "java/lang/Cloneable").before a0 Z = true)
    (A : Ary Z h a ty vs) (E : Exa Z h a ad) (hfit : ∀ v ∈ vs, fits ty v = true) (hLs : Ls.size = maxL) (W : Nat) (hW : (st.map fun v => v.category).sum = W) (hf : 1 ≤ R.frames) (hl : W + 14 ≤ R.locals) (cap : Nat) (hcap : vs.length ≤ cap) (hc : cl + 1 ≤ R.cells) (hs : sl + cap ≤ R.slots)
    (k : ∀ h' b, b = h.size → h0.size ≤ b → Ext h h' → Ary Z h' b ty vs → Exa Z h' b ad → B.G h' (cl + 1) (sl + cap) (mkF m pc' Ls (.ref b :: st))) : B.G h cl sl (mkF m pc Ls (.ref a :: st)) := fun T locs X N eT => by
  subst hp
  obtain ⟨c1, A1, r1⟩ := A
  have FC : FitC Z c1 := fitC_of A1 fun i hi v hv => hfit v (by rw [← r1]; exact Array.mem_toList_iff.mpr (Array.mem_of_getElem? hv))
  obtain ⟨T', h', X', e', ex, A', E', stp⟩ := cloneA X B.1 B.2.2.2.1 B.2.2.2.2.1 w1 w2 w3 w4 w5 w6 eT A1 E FC (g := mkF m pc Ls (.ref a :: st)) rfl (hLs.trans B.2.2.1.symm) rfl (hb B.2.1 hd) hf (W := W) (cap := cap) (by show 2 * 0 + _ ≤ _; omega) hl (by rw [← r1, Array.length_toList] at hcap; exact hcap) hc hs
  obtain ⟨t, o, q, r⟩ := k h' _ rfl (by rw [← eT]; exact B.size X) ex ⟨_, A', r1⟩ E' T' locs X' N e'
  exact ⟨t, o, stp _ q, r⟩
theorem Base.castY (B : Base p l e R s m args below meth c Z y bytes maxL ret h0 ws C) (pc' : Nat) (hp : pc' = pc + 3) {ix : Nat} {K : String} (hd : decode bytes pc = .ok (.checkcast ix, 3)) (w : (Cond.classLink y.cls ix K).before a0 Z = true) (F : Ins Z h a K true) (k : B.G h cl sl (mkF m pc' Ls (.ref a :: st))) : B.G h cl sl (mkF m pc Ls (.ref a :: st)) := fun T locs X N eT => by
  subst hp
  obtain ⟨T', X', e', stp⟩ := Jvm.RoadKit.castY X B.1 B.2.2.2.1 B.2.2.2.2.1 w eT F (g := mkF m pc Ls (.ref a :: st)) rfl rfl (hb B.2.1 hd)
  obtain ⟨t, o, q, r⟩ := k T' locs X' N e'
  exact ⟨t, o, stp _ q, r⟩
theorem Base.instY (B : Base p l e R s m args below meth c Z y bytes maxL ret h0 ws C) (pc' : Nat) (hp : pc' = pc + 3) {ix : Nat} {K : String} (hd : decode bytes pc = .ok (.instanceof ix, 3)) (w : (Cond.classLink y.cls ix K).before a0 Z = true) (F : Ins Z h a K true) (k : B.G h cl sl (mkF m pc' Ls (.int 1 :: st))) : B.G h cl sl (mkF m pc Ls (.ref a :: st)) := fun T locs X N eT => by
  subst hp
  obtain ⟨T', X', e', stp⟩ := Jvm.RoadKit.instY X B.1 B.2.2.2.1 B.2.2.2.2.1 w eT F (g := mkF m pc Ls (.ref a :: st)) rfl rfl (hb B.2.1 hd)
  obtain ⟨t, o, q, r⟩ := k T' locs X' N e'
  exact ⟨t, o, stp _ q, r⟩
theorem Base.instN (B : Base p l e R s m args below meth c Z y bytes maxL ret h0 ws C) (pc' : Nat) (hp : pc' = pc + 3) {ix : Nat} {K CC : String} (hd : decode bytes pc = .ok (.instanceof ix, 3)) (w : (Cond.classLink y.cls ix K).before a0 Z = true) (E : Exa Z h a CC) (F : ∃ c t, Z.vm.findClass CC = some c ∧ Z.vm.findClass K = some t ∧ Z.vm.assignable c t = false) (k : B.G h cl sl (mkF m pc' Ls (.int 0 :: st))) : B.G h cl sl (mkF m pc Ls (.ref a :: st)) := fun T locs X N eT => by
  subst hp
  obtain ⟨T', X', e', stp⟩ := instNo X B.1 B.2.2.2.1 B.2.2.2.2.1 w eT E F (g := mkF m pc Ls (.ref a :: st)) rfl rfl (hb B.2.1 hd)
  obtain ⟨t, o, q, r⟩ := k T' locs X' N e'
  exact ⟨t, o, stp _ q, r⟩
theorem Base.inst0 (B : Base p l e R s m args below meth c Z y bytes maxL ret h0 ws C) (pc' : Nat) (hp : pc' = pc + 3) {ix : Nat} (hd : decode bytes pc = .ok (.instanceof ix, 3)) (k : B.G h cl sl (mkF m pc' Ls (.int 0 :: st))) : B.G h cl sl (mkF m pc Ls (.null :: st)) := by
  subst hp
  exact B.viaX (fun T t L X eT r => X.instanceofNull B.1 (g := mkF m pc Ls (.null :: st)) rfl rfl (hb B.2.1 hd) t r) k
theorem Base.aaload (B : Base p l e R s m args below meth c Z y bytes maxL ret h0 ws C) (pc' : Nat) (hp : pc' = pc + 1) (hd : decode bytes pc = .ok (.aaload, 1)) (A : Ary Z h a ty vs) (hty : ty.isReference = true) (hj : ¬ j < 0) (i : Nat) (hi : j.toNatClampNeg = i) (v : Value) (hv : vs[i]? = some v) (k : B.G h cl sl (mkF m pc' Ls (v :: st))) : B.G h cl sl (mkF m pc Ls (.int j :: .ref a :: st)) := by
  subst hp
  obtain ⟨c1, A, r⟩ := A
  obtain ⟨q1, q2⟩ := ary_in r hj hi hv
  exact B.viaX (fun T t L X eT r => X.aaload (g := mkF m pc Ls (.int j :: .ref a :: st)) B.1 (by rw [eT]; exact A.1) (State.isArrayOf_alike (T := s) B.2.2.2.1.alike A.2.1) hty A.2.2 q1 q2 rfl rfl (hb B.2.1 hd) t r) k
theorem ns_root {O K : String} {n : Nat} (w : (Cond.noSuperclass O).before a0 Z = true) (wk : (Cond.instantiable K n).before a0 Z = true) (hn : O ≠ K) : NS Z O K := by
  obtain ⟨c, k, h1, h2, h3, -, -⟩ := Cond.noSuperclass_spec w
  obtain ⟨t, -, g1, -⟩ := Cond.instantiable_spec wk
  have ne := ids_ne h1 g1 hn
  refine ⟨c, t, h1, g1, fun fuel => ?_⟩
  cases fuel with
  | zero => rfl
  | succ f => simp [Vm.isSubclassAux, ne, h2, h3]
theorem ns_no {CC K : String} {n n' : Nat} (w : (Cond.instantiable CC n').before a0 Z = true) (wk : (Cond.instantiable K n).before a0 Z = true) (q : NS Z CC K) (hn : CC ≠ K) : ∃ c t, Z.vm.findClass CC = some c ∧ Z.vm.findClass K = some t ∧ Z.vm.assignable c t = false := by
  obtain ⟨c, t, h0, g0, n3⟩ := q
  obtain ⟨c1, k, h1, h2, h5, -⟩ := Cond.instantiable_spec w
  obtain ⟨t1, k', g1, g2, g5, g7, -⟩ := Cond.instantiable_spec wk
  cases h0.symm.trans h1
  cases g0.symm.trans g1
  have ne := ids_ne h0 g0 hn
  have g8 : k'.isInterface = false := by simp only [Bool.or_eq_false_iff] at g7; exact g7.1
  refine ⟨c, t, h0, g0, ?_⟩
  show Z.vm.assignableAux (255 + 1) c t = false
  simp [Vm.assignableAux, ne, h2, g2, h5, g5, g8, Vm.isSubclass, n3]
end Arrays
/-! 5. the words -/
theorem wd {L : List Jvm.Cond} {a0 : Array Value} {Z : State} (hw : ∀ d ∈ L, d.before a0 Z = true) (i : Nat) {d : Jvm.Cond} (q : L[i]? = some d) : d.before a0 Z = true := hw d (List.mem_of_getElem? q)
/-! 6. from the words of a case -/
theorem fld_start {args : Array Value} {s : State} {t : Term} {a : Addr} {O n d : String} {z : Int32} (ht : t.eval args s none [] s = some (.ref a)) (q : (Cond.eq (.field t O n d) (.int z)).value args s none s [] = some true) : Fld s s.heap a O n d (.int z) :=
  Fld.start ((fld_at ht).symm.trans (eqv_i rfl q))
theorem eval_int {args : Array Value} {s : State} {u w : Term} {z : Int32} (q : (Cond.eq u w).value args s none s [] = some true) (hw : w.eval args s none [] s = some (.int z)) : u.eval args s none [] s = some (.int z) := by
  cases hv : u.eval args s none [] s with
  | none => simp [Cond.value, hv] at q
  | some v =>
    cases v <;> simp [Cond.value, hv, hw] at q
    subst q; rfl
theorem eval_ref {args : Array Value} {s : State} {u w : Term} {z : Addr} (q : (Cond.eq u w).value args s none s [] = some true) (hw : w.eval args s none [] s = some (.ref z)) : u.eval args s none [] s = some (.ref z) := by
  cases hv : u.eval args s none [] s with
  | none => simp [Cond.value, hv] at q
  | some v =>
    cases v <;> simp [Cond.value, hv, hw] at q
    subst q; rfl
/-- an array of the start, of known length and places -/
theorem ary_start {args : Array Value} {s : State} {t : Term} {a : Addr} {ty : FieldType} {vs : List Value} {n : Int32} (ht : t.eval args s none [] s = some (.ref a)) (hA : (Cond.arrayOf t ty).value args s none s [] = some true)
    (hl : (Cond.eq (.length t) (.int n)).value args s none s [] = some true) (hn : n.toNatClampNeg = vs.length) (hn0 : ¬ n < 0) (he : ∀ i, i < vs.length → ∃ v, vs[i]? = some v ∧ (Term.elem t (.int (Int32.ofNat i))).eval args s none [] s = some v) : Ary s s.heap a ty vs := by
  obtain ⟨c, A⟩ := Arr.start ht hA
  have e1 := eval_int hl rfl
  simp only [Term.eval, ht, Option.bind_eq_bind, Option.bind_some] at e1
  have hat : s.arrayAt? a = some c := A.fin (Vm.Alike.refl _)
  rw [hat] at e1
  simp only [Option.bind_some] at e1
  split at e1
  · rename_i hs
    simp only [Option.pure_def, Option.some.injEq, Value.int.injEq] at e1
    have hsz : c.slots.size = vs.length := by
      rw [← hn, ← e1]
      have := len_toInt hs
      simp only [Int32.toNatClampNeg, this]; omega
    refine ⟨c, A, ?_⟩
    apply List.ext_getElem?
    intro i
    by_cases hi : i < vs.length
    · obtain ⟨v, q1, q2⟩ := he i hi
      obtain ⟨cell, r1, -, r3⟩ := elem_at q2 ht rfl
      cases A.1.symm.trans r1
      have : (Int32.ofNat i).toNatClampNeg = i := by
        have := Int32.toInt_ofNat_small (show i < 2 ^ 31 by omega)
        simp only [Int32.toNatClampNeg, this]; omega
      rw [this] at r3
      rw [q1, Array.getElem?_toList]; exact r3
    · rw [List.getElem?_eq_none (by rw [Array.length_toList, hsz]; omega), List.getElem?_eq_none (by omega)]
  · simp at e1
end Jvm.Own
namespace Jvm.Own
open Jvm Jvm.ClassFile Sem Op Lib Jvm.Free Jvm.Stand Jvm.LawKit Jvm.RoadKit
/-! THE SAME LAYER, WIDE: the walk may load String constants -/
def MetW (l : Launch) (Z : State) (y : MethodName) (bytes : ByteArray) (maxL : Nat) (ret : Option FieldType) (wds : List Jvm.Cond) (rm : Room) (as : Array Value) (h0 : Heap) (ws : List Addr) (C : Option Value → Heap → Prop) : Prop :=
  MetFree l y (head1 (Jvm.Cond.code y bytes maxL ret :: wds) rm) (fun a U => a = as ∧ Z.Warmed39 U.vm ∧ U.heap = h0) (fun _ _ _ _ _ => True) (fun _ U o U' => ∃ v L, o = .returned v ∧ Qw C ws h0 v U'.heap L ∧ ReturnedEndW U o U' L rm.cells rm.slots)
def BaseW (p : Program) (l : Launch) (e : Env) (R : Room) (s : State) (m : MethodId) (args : Array Value) (below : List Frame) (meth : Method) (c : Code) (Z : State) (y : MethodName) (bytes : ByteArray) (maxL : Nat) (ret : Option FieldType) (h0 : Heap) (ws : List Addr) (C : Option Value → Heap → Prop) : Prop :=
  p.tables.exec = Jvm.exec ∧ c.code = bytes ∧ c.maxLocals = maxL ∧ Z.Warmed39 s.vm ∧ s.vm.findClass y.cls = some m.cls ∧ meth.sig.returnType = ret ∧ meth.locks = false ∧ meth.name = y.name ∧ s.heap = h0
section Walk
variable {p : Program} {l : Launch} {e : Env} {R : Room} {s : State} {m : MethodId} {args : Array Value} {below : List Frame} {meth : Method} {c : Code} {Z : State} {a0 : Array Value} {y : MethodName} {bytes : ByteArray} {maxL : Nat} {ret : Option FieldType} {h0 : Heap} {ws : List Addr} {C : Option Value → Heap → Prop}
def BaseW.G (B : BaseW p l e R s m args below meth c Z y bytes maxL ret h0 ws C) (h : Heap) (cl sl : Nat) (g : JFrame) : Prop :=
  ∀ (vm0 : Vm) (k0 : Nat) (T : State) (locs : List Loc), Stand p l e R (s.setVm vm0) m args below meth c T locs cl sl → s.Since vm0 k0 → k0 ≤ h.size → Frw ws h0.size locs → T.heap = h → ∃ (t : State) (o : Outcome), Steps p.tables e below (T.setTop g) t ∧ t.status = .running ∧ Ended t below o ∧ ∃ v L, o = .returned v ∧ Qw C ws h0 v t.heap L ∧ ReturnedEndW s o t L R.cells R.slots
variable {h : Heap} {cl sl : Nat} {g g' : JFrame} {pc : Nat} {Ls : Array Slot} {st : List Value}
theorem BaseW.warm (B : BaseW p l e R s m args below meth c Z y bytes maxL ret h0 ws C) {vm0 : Vm} {k0 : Nat} (hS : s.Since vm0 k0) : Z.Warmed39 (s.setVm vm0).vm := State.Warmed39.trans B.2.2.2.1 hS.1
theorem BaseW.own (B : BaseW p l e R s m args below meth c Z y bytes maxL ret h0 ws C) {vm0 : Vm} {k0 : Nat} (hS : s.Since vm0 k0) : (s.setVm vm0).vm.findClass y.cls = some m.cls := (hS.1.alike.findClass _ _).trans B.2.2.2.2.1
theorem BaseW.via (B : BaseW p l e R s m args below meth c Z y bytes maxL ret h0 ws C) (st : ∀ (T t : State), At T m c below → Steps p.tables e below (T.setTop g') t → Steps p.tables e below (T.setTop g) t) (k : B.G h cl sl g') : B.G h cl sl g := fun vm0 k0 T locs X hS hk N eT => by
  obtain ⟨t, o, q, r⟩ := k vm0 k0 T locs X hS hk N eT
  exact ⟨t, o, st T t X.here q, r⟩
theorem BaseW.viaX (B : BaseW p l e R s m args below meth c Z y bytes maxL ret h0 ws C) (st : ∀ (vm0 : Vm), Z.Warmed39 (s.setVm vm0).vm → (s.setVm vm0).vm.findClass y.cls = some m.cls → ∀ (T t : State) (locs : List Loc), Stand p l e R (s.setVm vm0) m args below meth c T locs cl sl → T.heap = h → Steps p.tables e below (T.setTop g') t → Steps p.tables e below (T.setTop g) t) (k : B.G h cl sl g') : B.G h cl sl g := fun vm0 k0 T locs X hS hk N eT => by
  obtain ⟨t, o, q, r⟩ := k vm0 k0 T locs X hS hk N eT
  exact ⟨t, o, st vm0 (B.warm hS) (B.own hS) T t locs X eT q, r⟩
theorem MetW.walk (hpn : plainFor y = true) {as : Array Value} {rm : Room} {wds : List Jvm.Cond} (hef : ∀ m, entryFrame m as maxL = mkF m 0 Ls [])
    (body : ∀ (p : Program) (e : Env) (s : State) (m : MethodId) (below : List Frame) (meth : Method) (c : Code) (B : BaseW p l e rm s m as below meth c Z y bytes maxL ret h0 ws C), B.G h0 0 0 (mkF m 0 Ls [])) : MetW l Z y bytes maxL ret wds rm as h0 ws C := by
  refine MetFree.of_bodySF hpn hisR ?_
  intro p e s m args below meth c s₁ Bd hml0 hP hK
  obtain ⟨rfl, hZ, hh⟩ := hP
  have X0 : Stand p l e rm s m args below meth c s₁ [] 0 0 := Stand.of_body Bd
  have e0 : s₁.heap = h0 := by rw [← hh, Bd.state]; rfl
  obtain ⟨t, o, q, r⟩ := body p e s m below meth c ⟨Bd.exec, Bd.bytes, hml0, hZ, findClass_of_methodNamed Bd.named, Bd.returns, Bd.notSynchronized, (name_of_methodNamed Bd.named Bd.method).1, hh⟩ s.vm s.heap.size s₁ [] X0 ((State.WarmedH.refl s).since _) (by rw [hh]; exact Nat.le_refl _) (Frw.nil _ _) e0
  exact ⟨t, o, castTop (hef m) q, r⟩
theorem BaseW.leave (B : BaseW p l e R s m args below meth c Z y bytes maxL ret h0 ws C) (hcl : cl ≤ R.cells) (hsl : sl ≤ R.slots) {v : Option Value} (hv : meth.sig.returnType = none → v = none) (hC : C v h)
    (st : ∀ (vm0 : Vm) (T : State) (locs : List Loc) (fs : List Frame), Stand p l e R (s.setVm vm0) m args below meth c T locs cl sl → (∀ (f : JFrame) (acts : List Action), f.method = m → f.locked = none → f.entered = [] → (doReturn e (T.setTop f) acts v).1 = T.setFrames fs) → Steps p.tables e below (T.setTop g) (T.setFrames fs)) : B.G h cl sl g := fun vm0 k0 T locs X hS hk N eT => by
  have hlk : meth.locks = false := B.2.2.2.2.2.2.1
  obtain ⟨fs, hr, hrun, hended, hv0, hW, hI, hsame⟩ := X.leaveW hS (by rw [eT]; exact hk) (v := v) hv hlk
  have e0 := B.2.2.2.2.2.2.2.2
  refine ⟨_, _, st vm0 T locs fs X hr, hrun, hended, _, _, rfl, ⟨?_, N, ?_⟩, ⟨_, rfl⟩, hW, hI, hsame.mono hcl hsl⟩
  · show C v T.heap
    rw [eT]; exact hC
  · show Keep h0 T.heap ws
    rw [← e0] at N ⊢
    exact keep_of (s := s.setVm vm0) X N
theorem BaseW.size (B : BaseW p l e R s m args below meth c Z y bytes maxL ret h0 ws C) {vm0 : Vm} {T : State} {locs : List Loc} (X : Stand p l e R (s.setVm vm0) m args below meth c T locs cl sl) : h0.size ≤ T.heap.size := by
  have q : s.heap.size ≤ T.heap.size := X.same.2.1
  rw [B.2.2.2.2.2.2.2.2] at q; exact q
theorem BaseW.grown (B : BaseW p l e R s m args below meth c Z y bytes maxL ret h0 ws C) (k : h0.size ≤ h.size → B.G h cl sl g) : B.G h cl sl g := fun vm0 k0 T locs X hS hk N eT => k (by rw [← eT]; exact B.size X) vm0 k0 T locs X hS hk N eT
theorem BaseW.olds (B : BaseW p l e R s m args below meth c Z y bytes maxL ret h0 [] C) (k : Ext h0 h → B.G h cl sl g) : B.G h cl sl g := fun vm0 k0 T locs X hS hk N eT => by
  refine k ?_ vm0 k0 T locs X hS hk N eT
  have e0 := B.2.2.2.2.2.2.2.2
  have N' := N
  rw [← e0] at N'
  have q : Keep s.heap T.heap [] := keep_of (s := s.setVm vm0) X N'
  rw [e0, eT] at q
  exact ⟨q.1, fun a c hc => q.2.1 a c hc (by simp)⟩
/-- a String constant: some reference; the heap may have grown -/
theorem BaseW.ldcS (B : BaseW p l e R s m args below meth c Z y bytes maxL ret h0 ws C) (pc' : Nat) (hp : pc' = pc + 2) {i : Nat} {text : String} (hd : decode bytes pc = .ok (.ldc i, 2)) (w : (Cond.stringLink y.cls i text).before a0 Z = true) (wS : ∀ a ∈ Bundle.stringAtoms, a.before a0 Z = true) (n : Nat) (hn : 4 * text.toList.length ≤ n) (hbig : n ≤ 536870912) (hc : cl + 2 ≤ R.cells) (hs : sl + (n + 4) ≤ R.slots)
    (k : ∀ a h', Ext h h' → B.G h' (cl + 2) (sl + (n + 4)) (mkF m pc' Ls (.ref a :: st))) : B.G h cl sl (mkF m pc Ls st) := fun vm0 k0 T locs X hS hk N eT => by
  subst hp
  obtain ⟨a, T', h', k1, X', e', E, hS', hk', -, -, stp⟩ := Jvm.RoadKit.ldcS X B.1 (B.warm hS) (B.own hS) w wS eT hS hk (g := mkF m pc Ls st) rfl (hb B.2.1 hd) hn hbig hc hs
  obtain ⟨t, o, q, r⟩ := k a h' E _ k1 T' locs X' hS' hk' N e'
  exact ⟨t, o, stp _ q, r⟩
/-! 1. steps that touch no heap -/
theorem BaseW.aloadN (B : BaseW p l e R s m args below meth c Z y bytes maxL ret h0 ws C) (pc' : Nat) (hp : pc' = pc + 1) {i : Fin 4} (hd : decode bytes pc = .ok (.aload_n i, 1)) {v : Value} (hl : Ls[i.val]? = some (.val v)) (hv : v.isRef = true) (k : B.G h cl sl (mkF m pc' Ls (v :: st))) : B.G h cl sl (mkF m pc Ls st) := by
  subst hp; exact B.via (fun T t X r => XS.aloadN X B.1 rfl (hb B.2.1 hd) hl hv r) k
theorem BaseW.aload (B : BaseW p l e R s m args below meth c Z y bytes maxL ret h0 ws C) (pc' : Nat) (hp : pc' = pc + 2) {i : Nat} (hd : decode bytes pc = .ok (.aload i, 2)) {v : Value} (hl : Ls[i]? = some (.val v)) (hv : v.isRef = true) (k : B.G h cl sl (mkF m pc' Ls (v :: st))) : B.G h cl sl (mkF m pc Ls st) := by
  subst hp; exact B.via (fun T t X r => XS.aload X B.1 rfl (hb B.2.1 hd) hl hv r) k
theorem BaseW.iloadN (B : BaseW p l e R s m args below meth c Z y bytes maxL ret h0 ws C) (pc' : Nat) (hp : pc' = pc + 1) {i : Fin 4} (hd : decode bytes pc = .ok (.iload_n i, 1)) {v : Int32} (hl : Ls[i.val]? = some (.val (.int v))) (k : B.G h cl sl (mkF m pc' Ls (.int v :: st))) : B.G h cl sl (mkF m pc Ls st) := by
  subst hp; exact B.via (fun T t X r => XS.iloadN X B.1 rfl (hb B.2.1 hd) hl r) k
theorem BaseW.iload (B : BaseW p l e R s m args below meth c Z y bytes maxL ret h0 ws C) (pc' : Nat) (hp : pc' = pc + 2) {i : Nat} (hd : decode bytes pc = .ok (.iload i, 2)) {v : Int32} (hl : Ls[i]? = some (.val (.int v))) (k : B.G h cl sl (mkF m pc' Ls (.int v :: st))) : B.G h cl sl (mkF m pc Ls st) := by
  subst hp; exact B.via (fun T t X r => XS.iload X B.1 rfl (hb B.2.1 hd) hl r) k
theorem BaseW.lloadN (B : BaseW p l e R s m args below meth c Z y bytes maxL ret h0 ws C) (pc' : Nat) (hp : pc' = pc + 1) {i : Fin 4} (hd : decode bytes pc = .ok (.lload_n i, 1)) {v : Int64} (hl : Ls[i.val]? = some (.val (.long v))) (k : B.G h cl sl (mkF m pc' Ls (.long v :: st))) : B.G h cl sl (mkF m pc Ls st) := by
  subst hp; exact B.via (fun T t X r => XT.lloadN X B.1 rfl (hb B.2.1 hd) hl r) k
theorem BaseW.lload (B : BaseW p l e R s m args below meth c Z y bytes maxL ret h0 ws C) (pc' : Nat) (hp : pc' = pc + 2) {i : Nat} (hd : decode bytes pc = .ok (.lload i, 2)) {v : Int64} (hl : Ls[i]? = some (.val (.long v))) (k : B.G h cl sl (mkF m pc' Ls (.long v :: st))) : B.G h cl sl (mkF m pc Ls st) := by
  subst hp; exact B.via (fun T t X r => XT.lload X B.1 rfl (hb B.2.1 hd) hl r) k
theorem BaseW.istoreN (B : BaseW p l e R s m args below meth c Z y bytes maxL ret h0 ws C) (pc' : Nat) (hp : pc' = pc + 1) {i : Fin 4} {x : Int32} (hd : decode bytes pc = .ok (.istore_n i, 1)) (Ls' : Array Slot) (hl : storeLocals Ls i.val (.int x) = some Ls') (k : B.G h cl sl (mkF m pc' Ls' st)) : B.G h cl sl (mkF m pc Ls (.int x :: st)) := by
  subst hp; exact B.via (fun T t X r => XS.istoreN X B.1 rfl (hb B.2.1 hd) rfl hl r) k
theorem BaseW.istore (B : BaseW p l e R s m args below meth c Z y bytes maxL ret h0 ws C) (pc' : Nat) (hp : pc' = pc + 2) {i : Nat} {x : Int32} (hd : decode bytes pc = .ok (.istore i, 2)) (Ls' : Array Slot) (hl : storeLocals Ls i (.int x) = some Ls') (k : B.G h cl sl (mkF m pc' Ls' st)) : B.G h cl sl (mkF m pc Ls (.int x :: st)) := by
  subst hp; exact B.via (fun T t X r => XS.istore X B.1 rfl (hb B.2.1 hd) rfl hl r) k
theorem BaseW.lstoreN (B : BaseW p l e R s m args below meth c Z y bytes maxL ret h0 ws C) (pc' : Nat) (hp : pc' = pc + 1) {i : Fin 4} {x : Int64} (hd : decode bytes pc = .ok (.lstore_n i, 1)) (Ls' : Array Slot) (hl : storeLocals Ls i.val (.long x) = some Ls') (k : B.G h cl sl (mkF m pc' Ls' st)) : B.G h cl sl (mkF m pc Ls (.long x :: st)) := by
  subst hp; exact B.via (fun T t X r => XT.lstoreN X B.1 rfl (hb B.2.1 hd) rfl hl r) k
theorem BaseW.lstore (B : BaseW p l e R s m args below meth c Z y bytes maxL ret h0 ws C) (pc' : Nat) (hp : pc' = pc + 2) {i : Nat} {x : Int64} (hd : decode bytes pc = .ok (.lstore i, 2)) (Ls' : Array Slot) (hl : storeLocals Ls i (.long x) = some Ls') (k : B.G h cl sl (mkF m pc' Ls' st)) : B.G h cl sl (mkF m pc Ls (.long x :: st)) := by
  subst hp; exact B.via (fun T t X r => XT.lstore X B.1 rfl (hb B.2.1 hd) rfl hl r) k
theorem BaseW.astoreN (B : BaseW p l e R s m args below meth c Z y bytes maxL ret h0 ws C) (pc' : Nat) (hp : pc' = pc + 1) {i : Fin 4} {x : Value} (hd : decode bytes pc = .ok (.astore_n i, 1)) (hv : x.isRef = true) (Ls' : Array Slot) (hl : storeLocals Ls i.val x = some Ls') (k : B.G h cl sl (mkF m pc' Ls' st)) : B.G h cl sl (mkF m pc Ls (x :: st)) := by
  subst hp; exact B.via (fun T t X r => XS.astoreN X B.1 rfl (hb B.2.1 hd) rfl hv hl r) k
theorem BaseW.astore (B : BaseW p l e R s m args below meth c Z y bytes maxL ret h0 ws C) (pc' : Nat) (hp : pc' = pc + 2) {i : Nat} {x : Value} (hd : decode bytes pc = .ok (.astore i, 2)) (hv : x.isRef = true) (Ls' : Array Slot) (hl : storeLocals Ls i x = some Ls') (k : B.G h cl sl (mkF m pc' Ls' st)) : B.G h cl sl (mkF m pc Ls (x :: st)) := by
  subst hp; exact B.via (fun T t X r => XS.astore X B.1 rfl (hb B.2.1 hd) rfl hv hl r) k
theorem BaseW.iinc (B : BaseW p l e R s m args below meth c Z y bytes maxL ret h0 ws C) (pc' : Nat) (hp : pc' = pc + 3) {i : Nat} {cst : Int} (v : Int32) {x : Int32} (hd : decode bytes pc = .ok (.iinc i cst, 3)) (hv : Int32.ofInt cst = v) (hl : Ls[i]? = some (.val (.int x))) (Ls' : Array Slot) (hl' : storeLocals Ls i (.int (x + v)) = some Ls') (k : B.G h cl sl (mkF m pc' Ls' st)) : B.G h cl sl (mkF m pc Ls st) := by
  subst hp hv; exact B.via (fun T t X r => XS.iinc X B.1 rfl (hb B.2.1 hd) hl hl' r) k
theorem BaseW.iconst (B : BaseW p l e R s m args below meth c Z y bytes maxL ret h0 ws C) (pc' : Nat) (hp : pc' = pc + 1) {i : Int} (v : Int32) (hd : decode bytes pc = .ok (.iconst i, 1)) (hv : Int32.ofInt i = v) (k : B.G h cl sl (mkF m pc' Ls (.int v :: st))) : B.G h cl sl (mkF m pc Ls st) := by
  subst hp hv; exact B.via (fun T t X r => XS.iconst X B.1 rfl (hb B.2.1 hd) r) k
theorem BaseW.bipush (B : BaseW p l e R s m args below meth c Z y bytes maxL ret h0 ws C) (pc' : Nat) (hp : pc' = pc + 2) {i : Int} (v : Int32) (hd : decode bytes pc = .ok (.bipush i, 2)) (hv : (Int8.ofInt i).toInt32 = v) (k : B.G h cl sl (mkF m pc' Ls (.int v :: st))) : B.G h cl sl (mkF m pc Ls st) := by
  subst hp hv; exact B.via (fun T t X r => XS.bipush X B.1 rfl (hb B.2.1 hd) r) k
theorem BaseW.sipush (B : BaseW p l e R s m args below meth c Z y bytes maxL ret h0 ws C) (pc' : Nat) (hp : pc' = pc + 3) {i : Int} (v : Int32) (hd : decode bytes pc = .ok (.sipush i, 3)) (hv : (Int16.ofInt i).toInt32 = v) (k : B.G h cl sl (mkF m pc' Ls (.int v :: st))) : B.G h cl sl (mkF m pc Ls st) := by
  subst hp hv; exact B.via (fun T t X r => XS.sipush X B.1 rfl (hb B.2.1 hd) r) k
theorem BaseW.lconst (B : BaseW p l e R s m args below meth c Z y bytes maxL ret h0 ws C) (pc' : Nat) (hp : pc' = pc + 1) {i : Fin 2} (v : Int64) (hd : decode bytes pc = .ok (.lconst i, 1)) (hv : Int64.ofNat i = v) (k : B.G h cl sl (mkF m pc' Ls (.long v :: st))) : B.G h cl sl (mkF m pc Ls st) := by
  subst hp hv; exact B.via (fun T t X r => XT.lconst X B.1 rfl (hb B.2.1 hd) r) k
theorem BaseW.aconstNull (B : BaseW p l e R s m args below meth c Z y bytes maxL ret h0 ws C) (pc' : Nat) (hp : pc' = pc + 1) (hd : decode bytes pc = .ok (.aconst_null, 1)) (k : B.G h cl sl (mkF m pc' Ls (.null :: st))) : B.G h cl sl (mkF m pc Ls st) := by
  subst hp; exact B.via (fun T t X r => XS.aconstNull X B.1 rfl (hb B.2.1 hd) r) k
theorem BaseW.ldcI (B : BaseW p l e R s m args below meth c Z y bytes maxL ret h0 ws C) (pc' : Nat) (hp : pc' = pc + 2) {i : Nat} {v : Int32} (hd : decode bytes pc = .ok (.ldc i, 2)) (w : (Cond.constant y.cls i v).before a0 Z = true) (k : B.G h cl sl (mkF m pc' Ls (.int v :: st))) : B.G h cl sl (mkF m pc Ls st) := by
  subst hp; exact B.viaX (fun vm0 hZ hO T t L X _ r => X.ldcI B.1 hO (mv hZ w) rfl (hb B.2.1 hd) r) k
theorem BaseW.ldcWI (B : BaseW p l e R s m args below meth c Z y bytes maxL ret h0 ws C) (pc' : Nat) (hp : pc' = pc + 3) {i : Nat} {v : Int32} (hd : decode bytes pc = .ok (.ldc_w i, 3)) (w : (Cond.constant y.cls i v).before a0 Z = true) (k : B.G h cl sl (mkF m pc' Ls (.int v :: st))) : B.G h cl sl (mkF m pc Ls st) := by
  subst hp; exact B.viaX (fun vm0 hZ hO T t L X _ r => X.ldcWI B.1 hO (mv hZ w) rfl (hb B.2.1 hd) r) k
theorem BaseW.ldc2J (B : BaseW p l e R s m args below meth c Z y bytes maxL ret h0 ws C) (pc' : Nat) (hp : pc' = pc + 3) {i : Nat} {v : Int64} (hd : decode bytes pc = .ok (.ldc2_w i, 3)) (w : (Cond.constantLong y.cls i v).before a0 Z = true) (k : B.G h cl sl (mkF m pc' Ls (.long v :: st))) : B.G h cl sl (mkF m pc Ls st) := by
  subst hp; exact B.viaX (fun vm0 hZ hO T t L X _ r => X.ldc2J B.1 hO (mv hZ w) rfl (hb B.2.1 hd) r) k
theorem BaseW.goto (B : BaseW p l e R s m args below meth c Z y bytes maxL ret h0 ws C) (pc' : Nat) {o : Int} (hp : ((pc : Int) + o).toNat = pc') (ho : 0 ≤ (pc : Int) + o) (hd : decode bytes pc = .ok (.goto o, 3)) (k : B.G h cl sl (mkF m pc' Ls st)) : B.G h cl sl (mkF m pc Ls st) :=
  B.via (fun T t X r => XS.goto X B.1 rfl rfl (hb B.2.1 hd) ho hp r) k
theorem BaseW.dup (B : BaseW p l e R s m args below meth c Z y bytes maxL ret h0 ws C) (pc' : Nat) (hp : pc' = pc + 1) {x : Value} (hd : decode bytes pc = .ok (.dup, 1)) (hc : x.category = 1) (k : B.G h cl sl (mkF m pc' Ls (x :: x :: st))) : B.G h cl sl (mkF m pc Ls (x :: st)) := by
  subst hp; exact B.via (fun T t X r => XS.dup X B.1 rfl (hb B.2.1 hd) rfl hc r) k
theorem BaseW.pop (B : BaseW p l e R s m args below meth c Z y bytes maxL ret h0 ws C) (pc' : Nat) (hp : pc' = pc + 1) {x : Value} (hd : decode bytes pc = .ok (.pop, 1)) (hc : x.category = 1) (k : B.G h cl sl (mkF m pc' Ls st)) : B.G h cl sl (mkF m pc Ls (x :: st)) := by
  subst hp; exact B.via (fun T t X r => XT.pop X B.1 rfl (hb B.2.1 hd) rfl hc r) k
theorem BaseW.dupX1 (B : BaseW p l e R s m args below meth c Z y bytes maxL ret h0 ws C) (pc' : Nat) (hp : pc' = pc + 1) {x z : Value} (hd : decode bytes pc = .ok (.dup_x1, 1)) (hc : x.category = 1) (hc' : z.category = 1) (k : B.G h cl sl (mkF m pc' Ls (x :: z :: x :: st))) : B.G h cl sl (mkF m pc Ls (x :: z :: st)) := by
  subst hp; exact B.via (fun T t X r => XT.dupX1 X B.1 rfl (hb B.2.1 hd) rfl hc hc' r) k
theorem BaseW.dup2 (B : BaseW p l e R s m args below meth c Z y bytes maxL ret h0 ws C) (pc' : Nat) (hp : pc' = pc + 1) {x z : Value} (hd : decode bytes pc = .ok (.dup2, 1)) (hc : x.category = 1) (hc' : z.category = 1) (k : B.G h cl sl (mkF m pc' Ls (x :: z :: x :: z :: st))) : B.G h cl sl (mkF m pc Ls (x :: z :: st)) := by
  subst hp; exact B.via (fun T t X r => XT.dup2 X B.1 rfl (hb B.2.1 hd) rfl hc hc' r) k
theorem BaseW.iadd (B : BaseW p l e R s m args below meth c Z y bytes maxL ret h0 ws C) (pc' : Nat) (hp : pc' = pc + 1) {x : Int32} {z : Int32} (hd : decode bytes pc = .ok (.iadd, 1)) (k : B.G h cl sl (mkF m pc' Ls (.int (x + z) :: st))) : B.G h cl sl (mkF m pc Ls (.int z :: .int x :: st)) := by
  subst hp; exact B.via (fun T t X r => XS.iadd X B.1 rfl (hb B.2.1 hd) rfl r) k
theorem BaseW.isub (B : BaseW p l e R s m args below meth c Z y bytes maxL ret h0 ws C) (pc' : Nat) (hp : pc' = pc + 1) {x : Int32} {z : Int32} (hd : decode bytes pc = .ok (.isub, 1)) (k : B.G h cl sl (mkF m pc' Ls (.int (x - z) :: st))) : B.G h cl sl (mkF m pc Ls (.int z :: .int x :: st)) := by
  subst hp; exact B.via (fun T t X r => XS.isub X B.1 rfl (hb B.2.1 hd) rfl r) k
theorem BaseW.iand (B : BaseW p l e R s m args below meth c Z y bytes maxL ret h0 ws C) (pc' : Nat) (hp : pc' = pc + 1) {x : Int32} {z : Int32} (hd : decode bytes pc = .ok (.iand, 1)) (k : B.G h cl sl (mkF m pc' Ls (.int (x &&& z) :: st))) : B.G h cl sl (mkF m pc Ls (.int z :: .int x :: st)) := by
  subst hp; exact B.via (fun T t X r => XS.iand X B.1 rfl (hb B.2.1 hd) rfl r) k
theorem BaseW.imul (B : BaseW p l e R s m args below meth c Z y bytes maxL ret h0 ws C) (pc' : Nat) (hp : pc' = pc + 1) {x : Int32} {z : Int32} (hd : decode bytes pc = .ok (.imul, 1)) (k : B.G h cl sl (mkF m pc' Ls (.int (x * z) :: st))) : B.G h cl sl (mkF m pc Ls (.int z :: .int x :: st)) := by
  subst hp; exact B.via (fun T t X r => XS.imul X B.1 rfl (hb B.2.1 hd) rfl r) k
theorem BaseW.ixor (B : BaseW p l e R s m args below meth c Z y bytes maxL ret h0 ws C) (pc' : Nat) (hp : pc' = pc + 1) {x : Int32} {z : Int32} (hd : decode bytes pc = .ok (.ixor, 1)) (k : B.G h cl sl (mkF m pc' Ls (.int (x ^^^ z) :: st))) : B.G h cl sl (mkF m pc Ls (.int z :: .int x :: st)) := by
  subst hp; exact B.via (fun T t X r => XT.ixor X B.1 rfl (hb B.2.1 hd) rfl r) k
theorem BaseW.ior (B : BaseW p l e R s m args below meth c Z y bytes maxL ret h0 ws C) (pc' : Nat) (hp : pc' = pc + 1) {x : Int32} {z : Int32} (hd : decode bytes pc = .ok (.ior, 1)) (k : B.G h cl sl (mkF m pc' Ls (.int (x ||| z) :: st))) : B.G h cl sl (mkF m pc Ls (.int z :: .int x :: st)) := by
  subst hp; exact B.via (fun T t X r => XT.ior X B.1 rfl (hb B.2.1 hd) rfl r) k
theorem BaseW.ishl (B : BaseW p l e R s m args below meth c Z y bytes maxL ret h0 ws C) (pc' : Nat) (hp : pc' = pc + 1) {x : Int32} {z : Int32} (hd : decode bytes pc = .ok (.ishl, 1)) (k : B.G h cl sl (mkF m pc' Ls (.int (x <<< (z &&& 31)) :: st))) : B.G h cl sl (mkF m pc Ls (.int z :: .int x :: st)) := by
  subst hp; exact B.via (fun T t X r => XT.ishl X B.1 rfl (hb B.2.1 hd) rfl r) k
theorem BaseW.ishr (B : BaseW p l e R s m args below meth c Z y bytes maxL ret h0 ws C) (pc' : Nat) (hp : pc' = pc + 1) {x : Int32} {z : Int32} (hd : decode bytes pc = .ok (.ishr, 1)) (k : B.G h cl sl (mkF m pc' Ls (.int (x >>> (z &&& 31)) :: st))) : B.G h cl sl (mkF m pc Ls (.int z :: .int x :: st)) := by
  subst hp; exact B.via (fun T t X r => XT.ishr X B.1 rfl (hb B.2.1 hd) rfl r) k
theorem BaseW.iushr (B : BaseW p l e R s m args below meth c Z y bytes maxL ret h0 ws C) (pc' : Nat) (hp : pc' = pc + 1) {x : Int32} {z : Int32} (hd : decode bytes pc = .ok (.iushr, 1)) (k : B.G h cl sl (mkF m pc' Ls (.int (XT.ushr x z) :: st))) : B.G h cl sl (mkF m pc Ls (.int z :: .int x :: st)) := by
  subst hp; exact B.via (fun T t X r => XT.iushr X B.1 rfl (hb B.2.1 hd) rfl r) k
theorem BaseW.ladd (B : BaseW p l e R s m args below meth c Z y bytes maxL ret h0 ws C) (pc' : Nat) (hp : pc' = pc + 1) {x : Int64} {z : Int64} (hd : decode bytes pc = .ok (.ladd, 1)) (k : B.G h cl sl (mkF m pc' Ls (.long (x + z) :: st))) : B.G h cl sl (mkF m pc Ls (.long z :: .long x :: st)) := by
  subst hp; exact B.via (fun T t X r => XT.ladd X B.1 rfl (hb B.2.1 hd) rfl r) k
theorem BaseW.lsub (B : BaseW p l e R s m args below meth c Z y bytes maxL ret h0 ws C) (pc' : Nat) (hp : pc' = pc + 1) {x : Int64} {z : Int64} (hd : decode bytes pc = .ok (.lsub, 1)) (k : B.G h cl sl (mkF m pc' Ls (.long (x - z) :: st))) : B.G h cl sl (mkF m pc Ls (.long z :: .long x :: st)) := by
  subst hp; exact B.via (fun T t X r => XT.lsub X B.1 rfl (hb B.2.1 hd) rfl r) k
theorem BaseW.lmul (B : BaseW p l e R s m args below meth c Z y bytes maxL ret h0 ws C) (pc' : Nat) (hp : pc' = pc + 1) {x : Int64} {z : Int64} (hd : decode bytes pc = .ok (.lmul, 1)) (k : B.G h cl sl (mkF m pc' Ls (.long (x * z) :: st))) : B.G h cl sl (mkF m pc Ls (.long z :: .long x :: st)) := by
  subst hp; exact B.via (fun T t X r => XT.lmul X B.1 rfl (hb B.2.1 hd) rfl r) k
theorem BaseW.land (B : BaseW p l e R s m args below meth c Z y bytes maxL ret h0 ws C) (pc' : Nat) (hp : pc' = pc + 1) {x : Int64} {z : Int64} (hd : decode bytes pc = .ok (.land, 1)) (k : B.G h cl sl (mkF m pc' Ls (.long (x &&& z) :: st))) : B.G h cl sl (mkF m pc Ls (.long z :: .long x :: st)) := by
  subst hp; exact B.via (fun T t X r => XT.land X B.1 rfl (hb B.2.1 hd) rfl r) k
theorem BaseW.lor (B : BaseW p l e R s m args below meth c Z y bytes maxL ret h0 ws C) (pc' : Nat) (hp : pc' = pc + 1) {x : Int64} {z : Int64} (hd : decode bytes pc = .ok (.lor, 1)) (k : B.G h cl sl (mkF m pc' Ls (.long (x ||| z) :: st))) : B.G h cl sl (mkF m pc Ls (.long z :: .long x :: st)) := by
  subst hp; exact B.via (fun T t X r => XT.lor X B.1 rfl (hb B.2.1 hd) rfl r) k
theorem BaseW.lxor (B : BaseW p l e R s m args below meth c Z y bytes maxL ret h0 ws C) (pc' : Nat) (hp : pc' = pc + 1) {x : Int64} {z : Int64} (hd : decode bytes pc = .ok (.lxor, 1)) (k : B.G h cl sl (mkF m pc' Ls (.long (x ^^^ z) :: st))) : B.G h cl sl (mkF m pc Ls (.long z :: .long x :: st)) := by
  subst hp; exact B.via (fun T t X r => XT.lxor X B.1 rfl (hb B.2.1 hd) rfl r) k
theorem BaseW.lshl (B : BaseW p l e R s m args below meth c Z y bytes maxL ret h0 ws C) (pc' : Nat) (hp : pc' = pc + 1) {x : Int64} {z : Int32} (hd : decode bytes pc = .ok (.lshl, 1)) (k : B.G h cl sl (mkF m pc' Ls (.long (x <<< (z.toInt64 &&& 63)) :: st))) : B.G h cl sl (mkF m pc Ls (.int z :: .long x :: st)) := by
  subst hp; exact B.via (fun T t X r => XT.lshl X B.1 rfl (hb B.2.1 hd) rfl r) k
theorem BaseW.lshr (B : BaseW p l e R s m args below meth c Z y bytes maxL ret h0 ws C) (pc' : Nat) (hp : pc' = pc + 1) {x : Int64} {z : Int32} (hd : decode bytes pc = .ok (.lshr, 1)) (k : B.G h cl sl (mkF m pc' Ls (.long (x >>> (z.toInt64 &&& 63)) :: st))) : B.G h cl sl (mkF m pc Ls (.int z :: .long x :: st)) := by
  subst hp; exact B.via (fun T t X r => XT.lshr X B.1 rfl (hb B.2.1 hd) rfl r) k
theorem BaseW.lushr (B : BaseW p l e R s m args below meth c Z y bytes maxL ret h0 ws C) (pc' : Nat) (hp : pc' = pc + 1) {x : Int64} {z : Int32} (hd : decode bytes pc = .ok (.lushr, 1)) (k : B.G h cl sl (mkF m pc' Ls (.long (XT.ushrL x z) :: st))) : B.G h cl sl (mkF m pc Ls (.int z :: .long x :: st)) := by
  subst hp; exact B.via (fun T t X r => XT.lushr X B.1 rfl (hb B.2.1 hd) rfl r) k
theorem BaseW.lcmp (B : BaseW p l e R s m args below meth c Z y bytes maxL ret h0 ws C) (pc' : Nat) (hp : pc' = pc + 1) {x : Int64} {z : Int64} (hd : decode bytes pc = .ok (.lcmp, 1)) (k : B.G h cl sl (mkF m pc' Ls (.int (XT.cmpL x z) :: st))) : B.G h cl sl (mkF m pc Ls (.long z :: .long x :: st)) := by
  subst hp; exact B.via (fun T t X r => XT.lcmp X B.1 rfl (hb B.2.1 hd) rfl r) k
theorem BaseW.idiv (B : BaseW p l e R s m args below meth c Z y bytes maxL ret h0 ws C) (pc' : Nat) (hp : pc' = pc + 1) {x : Int32} {z : Int32} (hd : decode bytes pc = .ok (.idiv, 1)) (hz : z ≠ 0) (k : B.G h cl sl (mkF m pc' Ls (.int (x / z) :: st))) : B.G h cl sl (mkF m pc Ls (.int z :: .int x :: st)) := by
  subst hp; exact B.via (fun T t X r => XS.idiv X B.1 rfl (hb B.2.1 hd) rfl hz r) k
theorem BaseW.ldiv (B : BaseW p l e R s m args below meth c Z y bytes maxL ret h0 ws C) (pc' : Nat) (hp : pc' = pc + 1) {x : Int64} {z : Int64} (hd : decode bytes pc = .ok (.ldiv, 1)) (hz : z ≠ 0) (k : B.G h cl sl (mkF m pc' Ls (.long (x / z) :: st))) : B.G h cl sl (mkF m pc Ls (.long z :: .long x :: st)) := by
  subst hp; exact B.via (fun T t X r => XT.ldiv X B.1 rfl (hb B.2.1 hd) rfl hz r) k
theorem BaseW.irem (B : BaseW p l e R s m args below meth c Z y bytes maxL ret h0 ws C) (pc' : Nat) (hp : pc' = pc + 1) {x z : Int32} (hd : decode bytes pc = .ok (.irem, 1)) (hz : z ≠ 0) (k : B.G h cl sl (mkF m pc' Ls (.int (x % z) :: st))) : B.G h cl sl (mkF m pc Ls (.int z :: .int x :: st)) := by
  subst hp; exact B.viaX (fun vm0 hZ hO T t L X _ r => iremM X B.1 rfl (hb B.2.1 hd) rfl hz r) k
theorem BaseW.ineg (B : BaseW p l e R s m args below meth c Z y bytes maxL ret h0 ws C) (pc' : Nat) (hp : pc' = pc + 1) {x : Int32} (hd : decode bytes pc = .ok (.ineg, 1)) (k : B.G h cl sl (mkF m pc' Ls (.int (-x) :: st))) : B.G h cl sl (mkF m pc Ls (.int x :: st)) := by
  subst hp; exact B.via (fun T t X r => XS.ineg X B.1 rfl (hb B.2.1 hd) rfl r) k
theorem BaseW.lneg (B : BaseW p l e R s m args below meth c Z y bytes maxL ret h0 ws C) (pc' : Nat) (hp : pc' = pc + 1) {x : Int64} (hd : decode bytes pc = .ok (.lneg, 1)) (k : B.G h cl sl (mkF m pc' Ls (.long (-x) :: st))) : B.G h cl sl (mkF m pc Ls (.long x :: st)) := by
  subst hp; exact B.via (fun T t X r => XT.lneg X B.1 rfl (hb B.2.1 hd) rfl r) k
theorem BaseW.i2l (B : BaseW p l e R s m args below meth c Z y bytes maxL ret h0 ws C) (pc' : Nat) (hp : pc' = pc + 1) {x : Int32} (hd : decode bytes pc = .ok (.i2l, 1)) (k : B.G h cl sl (mkF m pc' Ls (.long (x.toInt64) :: st))) : B.G h cl sl (mkF m pc Ls (.int x :: st)) := by
  subst hp; exact B.via (fun T t X r => XT.i2l X B.1 rfl (hb B.2.1 hd) rfl r) k
theorem BaseW.l2i (B : BaseW p l e R s m args below meth c Z y bytes maxL ret h0 ws C) (pc' : Nat) (hp : pc' = pc + 1) {x : Int64} (hd : decode bytes pc = .ok (.l2i, 1)) (k : B.G h cl sl (mkF m pc' Ls (.int (x.toInt32) :: st))) : B.G h cl sl (mkF m pc Ls (.long x :: st)) := by
  subst hp; exact B.via (fun T t X r => XT.l2i X B.1 rfl (hb B.2.1 hd) rfl r) k
theorem BaseW.i2b (B : BaseW p l e R s m args below meth c Z y bytes maxL ret h0 ws C) (pc' : Nat) (hp : pc' = pc + 1) {x : Int32} (hd : decode bytes pc = .ok (.i2b, 1)) (k : B.G h cl sl (mkF m pc' Ls (.int (x.toInt8.toInt32) :: st))) : B.G h cl sl (mkF m pc Ls (.int x :: st)) := by
  subst hp; exact B.via (fun T t X r => XT.i2b X B.1 rfl (hb B.2.1 hd) rfl r) k
theorem BaseW.i2c (B : BaseW p l e R s m args below meth c Z y bytes maxL ret h0 ws C) (pc' : Nat) (hp : pc' = pc + 1) {x : Int32} (hd : decode bytes pc = .ok (.i2c, 1)) (k : B.G h cl sl (mkF m pc' Ls (.int (x.toUInt32.toUInt16.toUInt32.toInt32) :: st))) : B.G h cl sl (mkF m pc Ls (.int x :: st)) := by
  subst hp; exact B.via (fun T t X r => XT.i2c X B.1 rfl (hb B.2.1 hd) rfl r) k
theorem BaseW.i2s (B : BaseW p l e R s m args below meth c Z y bytes maxL ret h0 ws C) (pc' : Nat) (hp : pc' = pc + 1) {x : Int32} (hd : decode bytes pc = .ok (.i2s, 1)) (k : B.G h cl sl (mkF m pc' Ls (.int (x.toInt16.toInt32) :: st))) : B.G h cl sl (mkF m pc Ls (.int x :: st)) := by
  subst hp; exact B.via (fun T t X r => XT.i2s X B.1 rfl (hb B.2.1 hd) rfl r) k
theorem BaseW.icmp_eq (B : BaseW p l e R s m args below meth c Z y bytes maxL ret h0 ws C) (pt pf : Nat) {o : Int} (hpt : ((pc : Int) + o).toNat = pt) (ho : 0 ≤ (pc : Int) + o) (hpf : pf = pc + 3) {x z : Int32} (hd : decode bytes pc = .ok (.if_icmp .eq o, 3)) (kt : x = z → B.G h cl sl (mkF m pt Ls st)) (kf : ¬ x = z → B.G h cl sl (mkF m pf Ls st)) : B.G h cl sl (mkF m pc Ls (.int z :: .int x :: st)) := by
  subst hpt hpf
  by_cases q : x = z
  · exact B.via (fun T t X r => XS.icmpYes X B.1 rfl rfl (hb B.2.1 hd) rfl (XT.ii_eq_t q) ho rfl r) (kt q)
  · exact B.via (fun T t X r => XS.icmpNo X B.1 rfl (hb B.2.1 hd) rfl (XT.ii_eq_f q) r) (kf q)
theorem BaseW.if0_eq (B : BaseW p l e R s m args below meth c Z y bytes maxL ret h0 ws C) (pt pf : Nat) {o : Int} (hpt : ((pc : Int) + o).toNat = pt) (ho : 0 ≤ (pc : Int) + o) (hpf : pf = pc + 3) {x : Int32} (hd : decode bytes pc = .ok (.ifCond .eq o, 3)) (kt : x = 0 → B.G h cl sl (mkF m pt Ls st)) (kf : ¬ x = 0 → B.G h cl sl (mkF m pf Ls st)) : B.G h cl sl (mkF m pc Ls (.int x :: st)) := by
  subst hpt hpf
  by_cases q : x = 0
  · exact B.via (fun T t X r => XS.ifYes X B.1 rfl rfl (hb B.2.1 hd) rfl (XT.i0_eq_t q) ho rfl r) (kt q)
  · exact B.via (fun T t X r => XS.ifNo X B.1 rfl (hb B.2.1 hd) rfl (XT.i0_eq_f q) r) (kf q)
theorem BaseW.lif_eq (B : BaseW p l e R s m args below meth c Z y bytes maxL ret h0 ws C) (pt pf : Nat) {o : Int} (hpt : ((pc : Int) + o).toNat = pt) (ho : 0 ≤ (pc : Int) + o) (hpf : pf = pc + 3) {x z : Int64} (hd : decode bytes pc = .ok (.ifCond .eq o, 3)) (kt : x = z → B.G h cl sl (mkF m pt Ls st)) (kf : ¬ x = z → B.G h cl sl (mkF m pf Ls st)) : B.G h cl sl (mkF m pc Ls (.int (XT.cmpL x z) :: st)) := by
  subst hpt hpf
  by_cases q : x = z
  · exact B.via (fun T t X r => XS.ifYes X B.1 rfl rfl (hb B.2.1 hd) rfl (XT.ll_eq_t q) ho rfl r) (kt q)
  · exact B.via (fun T t X r => XS.ifNo X B.1 rfl (hb B.2.1 hd) rfl (XT.ll_eq_f q) r) (kf q)
theorem BaseW.icmp_ne (B : BaseW p l e R s m args below meth c Z y bytes maxL ret h0 ws C) (pt pf : Nat) {o : Int} (hpt : ((pc : Int) + o).toNat = pt) (ho : 0 ≤ (pc : Int) + o) (hpf : pf = pc + 3) {x z : Int32} (hd : decode bytes pc = .ok (.if_icmp .ne o, 3)) (kt : ¬ x = z → B.G h cl sl (mkF m pt Ls st)) (kf : x = z → B.G h cl sl (mkF m pf Ls st)) : B.G h cl sl (mkF m pc Ls (.int z :: .int x :: st)) := by
  subst hpt hpf
  by_cases q : x = z
  · exact B.via (fun T t X r => XS.icmpNo X B.1 rfl (hb B.2.1 hd) rfl (XT.ii_ne_f q) r) (kf q)
  · exact B.via (fun T t X r => XS.icmpYes X B.1 rfl rfl (hb B.2.1 hd) rfl (XT.ii_ne_t q) ho rfl r) (kt q)
theorem BaseW.if0_ne (B : BaseW p l e R s m args below meth c Z y bytes maxL ret h0 ws C) (pt pf : Nat) {o : Int} (hpt : ((pc : Int) + o).toNat = pt) (ho : 0 ≤ (pc : Int) + o) (hpf : pf = pc + 3) {x : Int32} (hd : decode bytes pc = .ok (.ifCond .ne o, 3)) (kt : ¬ x = 0 → B.G h cl sl (mkF m pt Ls st)) (kf : x = 0 → B.G h cl sl (mkF m pf Ls st)) : B.G h cl sl (mkF m pc Ls (.int x :: st)) := by
  subst hpt hpf
  by_cases q : x = 0
  · exact B.via (fun T t X r => XS.ifNo X B.1 rfl (hb B.2.1 hd) rfl (XT.i0_ne_f q) r) (kf q)
  · exact B.via (fun T t X r => XS.ifYes X B.1 rfl rfl (hb B.2.1 hd) rfl (XT.i0_ne_t q) ho rfl r) (kt q)
theorem BaseW.lif_ne (B : BaseW p l e R s m args below meth c Z y bytes maxL ret h0 ws C) (pt pf : Nat) {o : Int} (hpt : ((pc : Int) + o).toNat = pt) (ho : 0 ≤ (pc : Int) + o) (hpf : pf = pc + 3) {x z : Int64} (hd : decode bytes pc = .ok (.ifCond .ne o, 3)) (kt : ¬ x = z → B.G h cl sl (mkF m pt Ls st)) (kf : x = z → B.G h cl sl (mkF m pf Ls st)) : B.G h cl sl (mkF m pc Ls (.int (XT.cmpL x z) :: st)) := by
  subst hpt hpf
  by_cases q : x = z
  · exact B.via (fun T t X r => XS.ifNo X B.1 rfl (hb B.2.1 hd) rfl (XT.ll_ne_f q) r) (kf q)
  · exact B.via (fun T t X r => XS.ifYes X B.1 rfl rfl (hb B.2.1 hd) rfl (XT.ll_ne_t q) ho rfl r) (kt q)
theorem BaseW.icmp_lt (B : BaseW p l e R s m args below meth c Z y bytes maxL ret h0 ws C) (pt pf : Nat) {o : Int} (hpt : ((pc : Int) + o).toNat = pt) (ho : 0 ≤ (pc : Int) + o) (hpf : pf = pc + 3) {x z : Int32} (hd : decode bytes pc = .ok (.if_icmp .lt o, 3)) (kt : x < z → B.G h cl sl (mkF m pt Ls st)) (kf : ¬ x < z → B.G h cl sl (mkF m pf Ls st)) : B.G h cl sl (mkF m pc Ls (.int z :: .int x :: st)) := by
  subst hpt hpf
  by_cases q : x < z
  · exact B.via (fun T t X r => XS.icmpYes X B.1 rfl rfl (hb B.2.1 hd) rfl (XT.ii_lt_t q) ho rfl r) (kt q)
  · exact B.via (fun T t X r => XS.icmpNo X B.1 rfl (hb B.2.1 hd) rfl (XT.ii_lt_f q) r) (kf q)
theorem BaseW.if0_lt (B : BaseW p l e R s m args below meth c Z y bytes maxL ret h0 ws C) (pt pf : Nat) {o : Int} (hpt : ((pc : Int) + o).toNat = pt) (ho : 0 ≤ (pc : Int) + o) (hpf : pf = pc + 3) {x : Int32} (hd : decode bytes pc = .ok (.ifCond .lt o, 3)) (kt : x < 0 → B.G h cl sl (mkF m pt Ls st)) (kf : ¬ x < 0 → B.G h cl sl (mkF m pf Ls st)) : B.G h cl sl (mkF m pc Ls (.int x :: st)) := by
  subst hpt hpf
  by_cases q : x < 0
  · exact B.via (fun T t X r => XS.ifYes X B.1 rfl rfl (hb B.2.1 hd) rfl (XT.i0_lt_t q) ho rfl r) (kt q)
  · exact B.via (fun T t X r => XS.ifNo X B.1 rfl (hb B.2.1 hd) rfl (XT.i0_lt_f q) r) (kf q)
theorem BaseW.lif_lt (B : BaseW p l e R s m args below meth c Z y bytes maxL ret h0 ws C) (pt pf : Nat) {o : Int} (hpt : ((pc : Int) + o).toNat = pt) (ho : 0 ≤ (pc : Int) + o) (hpf : pf = pc + 3) {x z : Int64} (hd : decode bytes pc = .ok (.ifCond .lt o, 3)) (kt : x < z → B.G h cl sl (mkF m pt Ls st)) (kf : ¬ x < z → B.G h cl sl (mkF m pf Ls st)) : B.G h cl sl (mkF m pc Ls (.int (XT.cmpL x z) :: st)) := by
  subst hpt hpf
  by_cases q : x < z
  · exact B.via (fun T t X r => XS.ifYes X B.1 rfl rfl (hb B.2.1 hd) rfl (XT.ll_lt_t q) ho rfl r) (kt q)
  · exact B.via (fun T t X r => XS.ifNo X B.1 rfl (hb B.2.1 hd) rfl (XT.ll_lt_f q) r) (kf q)
theorem BaseW.icmp_ge (B : BaseW p l e R s m args below meth c Z y bytes maxL ret h0 ws C) (pt pf : Nat) {o : Int} (hpt : ((pc : Int) + o).toNat = pt) (ho : 0 ≤ (pc : Int) + o) (hpf : pf = pc + 3) {x z : Int32} (hd : decode bytes pc = .ok (.if_icmp .ge o, 3)) (kt : ¬ x < z → B.G h cl sl (mkF m pt Ls st)) (kf : x < z → B.G h cl sl (mkF m pf Ls st)) : B.G h cl sl (mkF m pc Ls (.int z :: .int x :: st)) := by
  subst hpt hpf
  by_cases q : x < z
  · exact B.via (fun T t X r => XS.icmpNo X B.1 rfl (hb B.2.1 hd) rfl (XT.ii_ge_f q) r) (kf q)
  · exact B.via (fun T t X r => XS.icmpYes X B.1 rfl rfl (hb B.2.1 hd) rfl (XT.ii_ge_t q) ho rfl r) (kt q)
theorem BaseW.if0_ge (B : BaseW p l e R s m args below meth c Z y bytes maxL ret h0 ws C) (pt pf : Nat) {o : Int} (hpt : ((pc : Int) + o).toNat = pt) (ho : 0 ≤ (pc : Int) + o) (hpf : pf = pc + 3) {x : Int32} (hd : decode bytes pc = .ok (.ifCond .ge o, 3)) (kt : ¬ x < 0 → B.G h cl sl (mkF m pt Ls st)) (kf : x < 0 → B.G h cl sl (mkF m pf Ls st)) : B.G h cl sl (mkF m pc Ls (.int x :: st)) := by
  subst hpt hpf
  by_cases q : x < 0
  · exact B.via (fun T t X r => XS.ifNo X B.1 rfl (hb B.2.1 hd) rfl (XT.i0_ge_f q) r) (kf q)
  · exact B.via (fun T t X r => XS.ifYes X B.1 rfl rfl (hb B.2.1 hd) rfl (XT.i0_ge_t q) ho rfl r) (kt q)
theorem BaseW.lif_ge (B : BaseW p l e R s m args below meth c Z y bytes maxL ret h0 ws C) (pt pf : Nat) {o : Int} (hpt : ((pc : Int) + o).toNat = pt) (ho : 0 ≤ (pc : Int) + o) (hpf : pf = pc + 3) {x z : Int64} (hd : decode bytes pc = .ok (.ifCond .ge o, 3)) (kt : ¬ x < z → B.G h cl sl (mkF m pt Ls st)) (kf : x < z → B.G h cl sl (mkF m pf Ls st)) : B.G h cl sl (mkF m pc Ls (.int (XT.cmpL x z) :: st)) := by
  subst hpt hpf
  by_cases q : x < z
  · exact B.via (fun T t X r => XS.ifNo X B.1 rfl (hb B.2.1 hd) rfl (XT.ll_ge_f q) r) (kf q)
  · exact B.via (fun T t X r => XS.ifYes X B.1 rfl rfl (hb B.2.1 hd) rfl (XT.ll_ge_t q) ho rfl r) (kt q)
theorem BaseW.icmp_gt (B : BaseW p l e R s m args below meth c Z y bytes maxL ret h0 ws C) (pt pf : Nat) {o : Int} (hpt : ((pc : Int) + o).toNat = pt) (ho : 0 ≤ (pc : Int) + o) (hpf : pf = pc + 3) {x z : Int32} (hd : decode bytes pc = .ok (.if_icmp .gt o, 3)) (kt : z < x → B.G h cl sl (mkF m pt Ls st)) (kf : ¬ z < x → B.G h cl sl (mkF m pf Ls st)) : B.G h cl sl (mkF m pc Ls (.int z :: .int x :: st)) := by
  subst hpt hpf
  by_cases q : z < x
  · exact B.via (fun T t X r => XS.icmpYes X B.1 rfl rfl (hb B.2.1 hd) rfl (XT.ii_gt_t q) ho rfl r) (kt q)
  · exact B.via (fun T t X r => XS.icmpNo X B.1 rfl (hb B.2.1 hd) rfl (XT.ii_gt_f q) r) (kf q)
theorem BaseW.if0_gt (B : BaseW p l e R s m args below meth c Z y bytes maxL ret h0 ws C) (pt pf : Nat) {o : Int} (hpt : ((pc : Int) + o).toNat = pt) (ho : 0 ≤ (pc : Int) + o) (hpf : pf = pc + 3) {x : Int32} (hd : decode bytes pc = .ok (.ifCond .gt o, 3)) (kt : 0 < x → B.G h cl sl (mkF m pt Ls st)) (kf : ¬ 0 < x → B.G h cl sl (mkF m pf Ls st)) : B.G h cl sl (mkF m pc Ls (.int x :: st)) := by
  subst hpt hpf
  by_cases q : 0 < x
  · exact B.via (fun T t X r => XS.ifYes X B.1 rfl rfl (hb B.2.1 hd) rfl (XT.i0_gt_t q) ho rfl r) (kt q)
  · exact B.via (fun T t X r => XS.ifNo X B.1 rfl (hb B.2.1 hd) rfl (XT.i0_gt_f q) r) (kf q)
theorem BaseW.lif_gt (B : BaseW p l e R s m args below meth c Z y bytes maxL ret h0 ws C) (pt pf : Nat) {o : Int} (hpt : ((pc : Int) + o).toNat = pt) (ho : 0 ≤ (pc : Int) + o) (hpf : pf = pc + 3) {x z : Int64} (hd : decode bytes pc = .ok (.ifCond .gt o, 3)) (kt : z < x → B.G h cl sl (mkF m pt Ls st)) (kf : ¬ z < x → B.G h cl sl (mkF m pf Ls st)) : B.G h cl sl (mkF m pc Ls (.int (XT.cmpL x z) :: st)) := by
  subst hpt hpf
  by_cases q : z < x
  · exact B.via (fun T t X r => XS.ifYes X B.1 rfl rfl (hb B.2.1 hd) rfl (XT.ll_gt_t q) ho rfl r) (kt q)
  · exact B.via (fun T t X r => XS.ifNo X B.1 rfl (hb B.2.1 hd) rfl (XT.ll_gt_f q) r) (kf q)
theorem BaseW.icmp_le (B : BaseW p l e R s m args below meth c Z y bytes maxL ret h0 ws C) (pt pf : Nat) {o : Int} (hpt : ((pc : Int) + o).toNat = pt) (ho : 0 ≤ (pc : Int) + o) (hpf : pf = pc + 3) {x z : Int32} (hd : decode bytes pc = .ok (.if_icmp .le o, 3)) (kt : ¬ z < x → B.G h cl sl (mkF m pt Ls st)) (kf : z < x → B.G h cl sl (mkF m pf Ls st)) : B.G h cl sl (mkF m pc Ls (.int z :: .int x :: st)) := by
  subst hpt hpf
  by_cases q : z < x
  · exact B.via (fun T t X r => XS.icmpNo X B.1 rfl (hb B.2.1 hd) rfl (XT.ii_le_f q) r) (kf q)
  · exact B.via (fun T t X r => XS.icmpYes X B.1 rfl rfl (hb B.2.1 hd) rfl (XT.ii_le_t q) ho rfl r) (kt q)
theorem BaseW.if0_le (B : BaseW p l e R s m args below meth c Z y bytes maxL ret h0 ws C) (pt pf : Nat) {o : Int} (hpt : ((pc : Int) + o).toNat = pt) (ho : 0 ≤ (pc : Int) + o) (hpf : pf = pc + 3) {x : Int32} (hd : decode bytes pc = .ok (.ifCond .le o, 3)) (kt : ¬ 0 < x → B.G h cl sl (mkF m pt Ls st)) (kf : 0 < x → B.G h cl sl (mkF m pf Ls st)) : B.G h cl sl (mkF m pc Ls (.int x :: st)) := by
  subst hpt hpf
  by_cases q : 0 < x
  · exact B.via (fun T t X r => XS.ifNo X B.1 rfl (hb B.2.1 hd) rfl (XT.i0_le_f q) r) (kf q)
  · exact B.via (fun T t X r => XS.ifYes X B.1 rfl rfl (hb B.2.1 hd) rfl (XT.i0_le_t q) ho rfl r) (kt q)
theorem BaseW.lif_le (B : BaseW p l e R s m args below meth c Z y bytes maxL ret h0 ws C) (pt pf : Nat) {o : Int} (hpt : ((pc : Int) + o).toNat = pt) (ho : 0 ≤ (pc : Int) + o) (hpf : pf = pc + 3) {x z : Int64} (hd : decode bytes pc = .ok (.ifCond .le o, 3)) (kt : ¬ z < x → B.G h cl sl (mkF m pt Ls st)) (kf : z < x → B.G h cl sl (mkF m pf Ls st)) : B.G h cl sl (mkF m pc Ls (.int (XT.cmpL x z) :: st)) := by
  subst hpt hpf
  by_cases q : z < x
  · exact B.via (fun T t X r => XS.ifNo X B.1 rfl (hb B.2.1 hd) rfl (XT.ll_le_f q) r) (kf q)
  · exact B.via (fun T t X r => XS.ifYes X B.1 rfl rfl (hb B.2.1 hd) rfl (XT.ll_le_t q) ho rfl r) (kt q)
theorem BaseW.acmp_eq (B : BaseW p l e R s m args below meth c Z y bytes maxL ret h0 ws C) (pt pf : Nat) {o : Int} (hpt : ((pc : Int) + o).toNat = pt) (ho : 0 ≤ (pc : Int) + o) (hpf : pf = pc + 3) {x z : Value} (hd : decode bytes pc = .ok (.if_acmp .eq o, 3)) (hx' : x.isRef = true) (hz' : z.isRef = true) (kt : x = z → B.G h cl sl (mkF m pt Ls st)) (kf : ¬ x = z → B.G h cl sl (mkF m pf Ls st)) : B.G h cl sl (mkF m pc Ls (z :: x :: st)) := by
  subst hpt hpf
  by_cases q : x = z
  · exact B.via (fun T t X r => XT.acmpYes X B.1 rfl rfl (hb B.2.1 hd) rfl hx' hz' (XT.aa_eq_t q) ho rfl r) (kt q)
  · exact B.via (fun T t X r => XT.acmpNo X B.1 rfl (hb B.2.1 hd) rfl hx' hz' (XT.aa_eq_f q) r) (kf q)
theorem BaseW.acmp_ne (B : BaseW p l e R s m args below meth c Z y bytes maxL ret h0 ws C) (pt pf : Nat) {o : Int} (hpt : ((pc : Int) + o).toNat = pt) (ho : 0 ≤ (pc : Int) + o) (hpf : pf = pc + 3) {x z : Value} (hd : decode bytes pc = .ok (.if_acmp .ne o, 3)) (hx' : x.isRef = true) (hz' : z.isRef = true) (kt : ¬ x = z → B.G h cl sl (mkF m pt Ls st)) (kf : x = z → B.G h cl sl (mkF m pf Ls st)) : B.G h cl sl (mkF m pc Ls (z :: x :: st)) := by
  subst hpt hpf
  by_cases q : x = z
  · exact B.via (fun T t X r => XT.acmpNo X B.1 rfl (hb B.2.1 hd) rfl hx' hz' (XT.aa_ne_f q) r) (kf q)
  · exact B.via (fun T t X r => XT.acmpYes X B.1 rfl rfl (hb B.2.1 hd) rfl hx' hz' (XT.aa_ne_t q) ho rfl r) (kt q)
theorem BaseW.ifnull (B : BaseW p l e R s m args below meth c Z y bytes maxL ret h0 ws C) (pt pf : Nat) {o : Int} (hpt : ((pc : Int) + o).toNat = pt) (ho : 0 ≤ (pc : Int) + o) (hpf : pf = pc + 3) {x : Value} (hd : decode bytes pc = .ok (.ifnull o, 3)) (hx' : x.isRef = true) (kt : x = .null → B.G h cl sl (mkF m pt Ls st)) (kf : ¬ x = .null → B.G h cl sl (mkF m pf Ls st)) : B.G h cl sl (mkF m pc Ls (x :: st)) := by
  subst hpt hpf
  by_cases q : x = .null
  · exact B.via (fun T t X r => XT.nullYes X B.1 rfl rfl (hb B.2.1 hd) rfl q ho rfl r) (kt q)
  · exact B.via (fun T t X r => XT.nullNo X B.1 rfl (hb B.2.1 hd) rfl hx' q r) (kf q)
theorem BaseW.ifnonnull (B : BaseW p l e R s m args below meth c Z y bytes maxL ret h0 ws C) (pt pf : Nat) {o : Int} (hpt : ((pc : Int) + o).toNat = pt) (ho : 0 ≤ (pc : Int) + o) (hpf : pf = pc + 3) {x : Value} (hd : decode bytes pc = .ok (.ifnonnull o, 3)) (hx' : x.isRef = true) (kt : ¬ x = .null → B.G h cl sl (mkF m pt Ls st)) (kf : x = .null → B.G h cl sl (mkF m pf Ls st)) : B.G h cl sl (mkF m pc Ls (x :: st)) := by
  subst hpt hpf
  by_cases q : x = .null
  · exact B.via (fun T t X r => XT.nonnullNo X B.1 rfl (hb B.2.1 hd) rfl q r) (kf q)
  · exact B.via (fun T t X r => XT.nonnullYes X B.1 rfl rfl (hb B.2.1 hd) rfl hx' q ho rfl r) (kt q)
theorem BaseW.topI (B : BaseW p l e R s m args below meth c Z y bytes maxL ret h0 ws C) {x : Int32} (v : Int32) (q : x = v) (k : B.G h cl sl (mkF m pc Ls (.int v :: st))) : B.G h cl sl (mkF m pc Ls (.int x :: st)) := by subst q; exact k
theorem BaseW.topL (B : BaseW p l e R s m args below meth c Z y bytes maxL ret h0 ws C) {x : Int64} (v : Int64) (q : x = v) (k : B.G h cl sl (mkF m pc Ls (.long v :: st))) : B.G h cl sl (mkF m pc Ls (.long x :: st)) := by subst q; exact k
/-! 2. the ends -/
theorem BaseW.ret0 (B : BaseW p l e R s m args below meth c Z y bytes maxL none h0 ws C) (hd : decode bytes pc = .ok (.return_, 1)) (hcl : cl ≤ R.cells) (hsl : sl ≤ R.slots) (hC : C none h) : B.G h cl sl (mkF m pc Ls []) :=
  B.leave hcl hsl (fun _ => rfl) hC fun vm0 T locs fs X hr => X.returnOut B.1 B.2.2.2.2.2.1 (hb B.2.1 hd) hr
theorem BaseW.retI (B : BaseW p l e R s m args below meth c Z y bytes maxL (some .int) h0 ws C) {x : Int32} (hd : decode bytes pc = .ok (.ireturn, 1)) (hcl : cl ≤ R.cells) (hsl : sl ≤ R.slots) (hC : C (some (.int x)) h) : B.G h cl sl (mkF m pc Ls (.int x :: st)) :=
  B.leave hcl hsl (fun q => by rw [B.2.2.2.2.2.1] at q; cases q) hC fun vm0 T locs fs X hr => retOut X B.1 B.2.2.2.2.2.1 rfl (Or.inl ⟨rfl, Or.inl rfl, _, rfl⟩) (hb B.2.1 hd) hr
theorem BaseW.retL (B : BaseW p l e R s m args below meth c Z y bytes maxL (some .long) h0 ws C) {x : Int64} (hd : decode bytes pc = .ok (.lreturn, 1)) (hcl : cl ≤ R.cells) (hsl : sl ≤ R.slots) (hC : C (some (.long x)) h) : B.G h cl sl (mkF m pc Ls (.long x :: st)) :=
  B.leave hcl hsl (fun q => by rw [B.2.2.2.2.2.1] at q; cases q) hC fun vm0 T locs fs X hr => retOut X B.1 B.2.2.2.2.2.1 rfl (Or.inr (Or.inl ⟨rfl, rfl, _, rfl⟩)) (hb B.2.1 hd) hr
/-- a boolean, byte, char, short: what comes back is narrowed -/
theorem BaseW.retN {t : FieldType} (B : BaseW p l e R s m args below meth c Z y bytes maxL (some t) h0 ws C) {x : Int32} (ht : t = .boolean ∨ t = .byte ∨ t = .char ∨ t = .short) (hd : decode bytes pc = .ok (.ireturn, 1)) (hcl : cl ≤ R.cells) (hsl : sl ≤ R.slots) (hC : C (some (.int (nar t x))) h) : B.G h cl sl (mkF m pc Ls (.int x :: st)) :=
  B.leave hcl hsl (fun q => by rw [B.2.2.2.2.2.1] at q; cases q) hC fun vm0 T locs fs X hr => Jvm.RoadKit.retN X B.1 B.2.2.2.2.2.1 ht (hb B.2.1 hd) hr
theorem BaseW.retA {t : FieldType} (B : BaseW p l e R s m args below meth c Z y bytes maxL (some t) h0 ws C) {x : Value} (ht : t.isReference = true) (hx' : x.isRef = true) (hd : decode bytes pc = .ok (.areturn, 1)) (hcl : cl ≤ R.cells) (hsl : sl ≤ R.slots) (hC : C (some x) h) : B.G h cl sl (mkF m pc Ls (x :: st)) :=
  B.leave hcl hsl (fun q => by rw [B.2.2.2.2.2.1] at q; cases q) hC fun vm0 T locs fs X hr => retOut X B.1 B.2.2.2.2.2.1 (by rcases ref_cases hx' with rfl | ⟨a, rfl⟩ <;> cases t <;> simp_all [narrow, FieldType.isReference]) (Or.inr (Or.inr (Or.inr (Or.inr ⟨rfl, ht, hx'⟩)))) (hb B.2.1 hd) hr
/-! 3. the heap -/
theorem BaseW.getF (B : BaseW p l e R s m args below meth c Z y bytes maxL ret h0 ws C) (pc' : Nat) (hp : pc' = pc + 3) {i : Nat} {O n d : String} {a : Addr} {v : Value} (hd : decode bytes pc = .ok (.getfield i, 3)) (w : (Cond.fieldLink y.cls i O n d).before a0 Z = true) (F : Fld Z h a O n d v) (k : B.G h cl sl (mkF m pc' Ls (v :: st))) : B.G h cl sl (mkF m pc Ls (.ref a :: st)) := fun vm0 k0 T locs X hS hk N eT => by
  have hZ := B.warm hS
  have hO := B.own hS
  subst hp
  obtain ⟨T', X', e', stp⟩ := Jvm.RoadKit.getF X B.1 hZ hO (host := "") (Or.inl w) Via.refl eT F (g := mkF m pc Ls (.ref a :: st)) rfl rfl (hb B.2.1 hd)
  obtain ⟨t, o, q, r⟩ := k vm0 k0 T' locs X' hS hk N e'
  exact ⟨t, o, stp _ q, r⟩
theorem BaseW.getS (B : BaseW p l e R s m args below meth c Z y bytes maxL ret h0 ws C) (pc' : Nat) (hp : pc' = pc + 3) {i : Nat} {O n d : String} {v : Value} (hd : decode bytes pc = .ok (.getstatic i, 3)) (w : (Cond.fieldLink y.cls i O n d).before a0 Z = true) (F : Sta Z h O n d v) (k : B.G h cl sl (mkF m pc' Ls (v :: st))) : B.G h cl sl (mkF m pc Ls st) := fun vm0 k0 T locs X hS hk N eT => by
  have hZ := B.warm hS
  have hO := B.own hS
  subst hp
  obtain ⟨T', X', e', stp⟩ := Jvm.RoadKit.getS (host := "") X B.1 hZ hO w Via.refl eT F (g := mkF m pc Ls st) rfl (hb B.2.1 hd)
  obtain ⟨t, o, q, r⟩ := k vm0 k0 T' locs X' hS hk N e'
  exact ⟨t, o, stp _ q, r⟩
theorem BaseW.putF (B : BaseW p l e R s m args below meth c Z y bytes maxL ret h0 ws C) (pc' : Nat) (hp : pc' = pc + 3) {i kk : Nat} {O n d CC : String} {a : Addr} {v old : Value} {ty : FieldType} (hd : decode bytes pc = .ok (.putfield i, 3)) (w : (Cond.fieldLink y.cls i O n d).before a0 Z = true) (F : Fld Z h a O n d old) (E : Exa Z h a CC)
    (L : (Cond.lays CC O n d).before a0 Z = true ∨ ((Cond.laysFinal CC O n d).before a0 Z = true ∧ y.cls = O ∧ y.name = "<init>")) (wi : (Cond.instantiable CC kk).before a0 Z = true) (hty : parseFieldDescriptor d = some ty) (hn : narrow ty v = v) (hf : fits ty v = true) (hw : a ∈ ws ∨ h0.size ≤ a)
    (k : ∀ h', Wr h h' a (Jvm.RoadKit.slotOf Z O n d) v → B.G h' cl sl (mkF m pc' Ls st)) : B.G h cl sl (mkF m pc Ls (v :: .ref a :: st)) := fun vm0 k0 T locs X hS hk N eT => by
  have hZ := B.warm hS
  have hO := B.own hS
  subst hp
  obtain ⟨T', h', X', e', W, stp⟩ := Jvm.RoadKit.putF X B.1 hZ hO (host := "") (Or.inl w) Via.refl eT F E (L.imp id fun q => ⟨q.1, q.2.1, B.2.2.2.2.2.2.2.1.trans q.2.2⟩) wi hty hn hf (g := mkF m pc Ls (v :: .ref a :: st)) rfl rfl (hb B.2.1 hd)
  obtain ⟨t, o, q, r⟩ := k h' W vm0 k0 T' _ X' hS (by rw [W.size]; exact hk) (N.one hw) e'
  exact ⟨t, o, stp _ q, r⟩
theorem BaseW.newO (B : BaseW p l e R s m args below meth c Z y bytes maxL ret h0 ws C) (pc' : Nat) (hp : pc' = pc + 3) {i n : Nat} {CC : String} (hd : decode bytes pc = .ok (.new i, 3)) (w : (Cond.classLink y.cls i CC).before a0 Z = true) (wi : (Cond.instantiable CC n).before a0 Z = true) (wz : (Cond.initialized CC).before a0 Z = true) (hc : cl + 1 ≤ R.cells) (hs : sl + n ≤ R.slots)
    (k : ∀ h' a, a = h.size → h0.size ≤ a → Ext h h' → Exa Z h' a CC → (∀ {O nm d : String} {ty : FieldType}, Laid Z a0 CC O nm d → parseFieldDescriptor d = some ty → Fld Z h' a O nm d (defaultValue ty)) → B.G h' (cl + 1) (sl + n) (mkF m pc' Ls (.ref a :: st))) : B.G h cl sl (mkF m pc Ls st) := fun vm0 k0 T locs X hS hk N eT => by
  have hZ := B.warm hS
  have hO := B.own hS
  subst hp
  obtain ⟨T', h', X', e', E, A, D, -, stp⟩ := Jvm.RoadKit.newO X B.1 hZ hO w wi wz eT (g := mkF m pc Ls st) rfl (hb B.2.1 hd) hc hs
  obtain ⟨t, o, q, r⟩ := k h' _ rfl (by rw [← eT]; exact B.size X) E A D vm0 k0 T' locs X' hS (Nat.le_trans hk E.1) N e'
  exact ⟨t, o, stp _ q, r⟩
theorem BaseW.initO (B : BaseW p l e R s m args below meth c Z y bytes maxL ret h0 ws C) (pc' : Nat) (hp : pc' = pc + 3) {i : Nat} {a : Addr} (hd : decode bytes pc = .ok (.invokespecial i, 3)) (w1 : (Cond.methodLink y.cls i Lib.objectInit).before a0 Z = true) (w2 : (Cond.instanceMethod Lib.objectInit).before a0 Z = true) (w3 : (Cond.code Lib.objectInit ⟨#[0xb1]⟩ 1 none).before a0 Z = true)
    (hLs : Ls.size = maxL) (W : Nat) (hW : (st.map fun v => v.category).sum = W) (hf : 1 ≤ R.frames) (hl : W + 12 ≤ R.locals) (k : B.G h cl sl (mkF m pc' Ls st)) : B.G h cl sl (mkF m pc Ls (.ref a :: st)) := fun vm0 k0 T locs X hS hk N eT => by
  have hZ := B.warm hS
  have hO := B.own hS
  subst hp
  obtain ⟨T', X', e', stp⟩ := Jvm.RoadKit.initO X B.1 hZ hO w1 w2 w3 eT (g := mkF m pc Ls (.ref a :: st)) rfl (hLs.trans B.2.2.1.symm) rfl (hb B.2.1 hd) hf (W := W) (by show 2 * 0 + _ ≤ _; omega) hl
  obtain ⟨t, o, q, r⟩ := k vm0 k0 T' locs X' hS hk N e'
  exact ⟨t, o, stp _ q, r⟩
/-! 4. calls -/
section Calls
variable {z : MethodName} {i : Nat} {cb : ByteArray} {cm : Nat} {cr : Option FieldType} {rm : Room} {as : Array Value} {ws' : List Addr} {C' : Option Value → Heap → Prop} {argsL rest : List Value} {ps : List FieldType} {rt : Option FieldType} {W : Nat}
theorem BaseW.callS (B : BaseW p l e R s m args below meth c Z y bytes maxL ret h0 ws C) (pc' : Nat) (hp : pc' = pc + 3) (hd : decode bytes pc = .ok (.invokestatic i, 3))
    (w1 : (Cond.methodLink y.cls i z).before a0 Z = true) (w2 : (Cond.static z).before a0 Z = true) (w3 : (Cond.initialized z.cls).before a0 Z = true) (w4 : (Cond.code z cb cm cr).before a0 Z = true)
    (hz : z.cls ≠ "java/lang/invoke/MethodHandle" ∧ z.cls ≠ "java/lang/invoke/VarHandle") (argsL rest : List Value) (M : Met l Z z cb cm cr [] rm as h ws' C') (has : argsL.toArray = as) (hst : st = argsL.reverse ++ rest) (hpd : parseMethodDescriptor z.desc = some ⟨ps, rt⟩) (hlen : argsL.length = ps.length) (hLs : Ls.size = maxL)
    (W : Nat) (hW : (rest.map fun v => v.category).sum = W) (hf : rm.frames + 1 ≤ R.frames) (hl : W + (cm + 11) + rm.locals ≤ R.locals) (hc : cl + rm.cells ≤ R.cells) (hs : sl + rm.slots ≤ R.slots) (hws : ∀ x ∈ ws', x ∈ ws ∨ h0.size ≤ x)
    (k : ∀ v h', Keep h h' ws' → C' v h' → B.G h' (cl + rm.cells) (sl + rm.slots) (mkF m pc' Ls (v.toList ++ rest))) : B.G h cl sl (mkF m pc Ls st) := fun vm0 k0 T locs X hS hk N eT => by
  have hZ := B.warm hS
  have hO := B.own hS
  subst hp
  obtain ⟨v, _, ⟨T', L', k', n'⟩, -, X', ⟨Lc, hQ, l', y', z'⟩, stp⟩ := Jvm.LawKit.callS X B.1 (y := z) hO (mvT hZ w1) (mvT hZ w2) (mvT hZ w3) (mvT hZ w4) hz (backOf (W := W) M hZ w4 w3 hf hl) (g := mkF m pc Ls st) rfl (hLs.trans B.2.2.1.symm) (argsL := argsL) (rest := rest) (lenOf hpd hlen) hst (by show 2 * 0 + _ ≤ _; omega) (hb B.2.1 hd) (fun _ _ => ⟨has, eT, hc, hs⟩)
  dsimp only [Pt.U, Pt.locs, Pt.cells, Pt.slots] at X' l' y' z' stp hQ
  subst l' y' z'
  obtain ⟨hC, hN, hK⟩ := hQ
  obtain ⟨t, o, q, r⟩ := k v T'.heap hK hC vm0 k0 T' _ X' hS (Nat.le_trans hk hK.1) (N.app fun u hu => (hN u hu).elim (fun q => hws _ q) fun q => Or.inr (Nat.le_trans (by rw [← eT]; exact B.size X) q)) rfl
  exact ⟨t, o, stp _ q, r⟩
theorem BaseW.callI (B : BaseW p l e R s m args below meth c Z y bytes maxL ret h0 ws C) (pc' : Nat) (hp : pc' = pc + 3) (hd : decode bytes pc = .ok (.invokespecial i, 3)) (hin : z.name = "<init>")
    (w1 : (Cond.methodLink y.cls i z).before a0 Z = true) (w2 : (Cond.instanceMethod z).before a0 Z = true) (w3 : (Cond.initialized z.cls).before a0 Z = true) (w4 : (Cond.code z cb cm none).before a0 Z = true)
    (hz : z.cls ≠ "java/lang/invoke/MethodHandle" ∧ z.cls ≠ "java/lang/invoke/VarHandle") {a : Addr} (argsL rest : List Value) (M : Met l Z z cb cm none [] rm as h ws' C') (has : (.ref a :: argsL).toArray = as) (hst : st = argsL.reverse ++ .ref a :: rest) (hpd : parseMethodDescriptor z.desc = some ⟨ps, rt⟩) (hlen : argsL.length = ps.length) (hLs : Ls.size = maxL)
    (W : Nat) (hW : (rest.map fun v => v.category).sum = W) (hf : rm.frames + 1 ≤ R.frames) (hl : W + (cm + 11) + rm.locals ≤ R.locals) (hc : cl + rm.cells ≤ R.cells) (hs : sl + rm.slots ≤ R.slots) (hws : ∀ x ∈ ws', x ∈ ws ∨ h0.size ≤ x)
    (k : ∀ v h', Keep h h' ws' → C' v h' → B.G h' (cl + rm.cells) (sl + rm.slots) (mkF m pc' Ls (v.toList ++ rest))) : B.G h cl sl (mkF m pc Ls st) := fun vm0 k0 T locs X hS hk N eT => by
  have hZ := B.warm hS
  have hO := B.own hS
  subst hp
  obtain ⟨v, _, ⟨T', L', k', n'⟩, -, X', ⟨Lc, hQ, l', y', z'⟩, stp⟩ := X.specialBack B.1 (y := z) hin hO (mvT hZ w1) (mvT hZ w2) (mvT hZ w4) hz (backOf (W := W) M hZ w4 w3 hf hl) (g := mkF m pc Ls st) rfl (hLs.trans B.2.2.1.symm) (Steps.refl _) (a := a) (argsL := argsL) (rest := rest) (lenOf hpd hlen) hst (by show 2 * 0 + _ ≤ _; omega) (hb B.2.1 hd) (fun _ _ => ⟨has, eT, hc, hs⟩)
  dsimp only [Pt.U, Pt.locs, Pt.cells, Pt.slots] at X' l' y' z' stp hQ
  subst l' y' z'
  obtain ⟨hC, hN, hK⟩ := hQ
  obtain ⟨t, o, q, r⟩ := k v T'.heap hK hC vm0 k0 T' _ X' hS (Nat.le_trans hk hK.1) (N.app fun u hu => (hN u hu).elim (fun q => hws _ q) fun q => Or.inr (Nat.le_trans (by rw [← eT]; exact B.size X) q)) rfl
  exact ⟨t, o, stp.trans q, r⟩
theorem BaseW.callV (B : BaseW p l e R s m args below meth c Z y bytes maxL ret h0 ws C) (pc' : Nat) (hp : pc' = pc + 3) (hd : decode bytes pc = .ok (.invokevirtual i, 3)) {CC : String}
    (w1 : (Cond.methodLink y.cls i z).before a0 Z = true) (w2 : (Cond.declares z).before a0 Z = true) (w5 : (Cond.selects CC z z).before a0 Z = true) (w6 : (Cond.instanceMethod z).before a0 Z = true) (w3 : (Cond.initialized z.cls).before a0 Z = true) (w4 : (Cond.code z cb cm cr).before a0 Z = true)
    (hz : z.cls ≠ "java/lang/invoke/MethodHandle" ∧ z.cls ≠ "java/lang/invoke/VarHandle") {a : Addr} (E : Exa Z h a CC) (argsL rest : List Value) (M : Met l Z z cb cm cr [] rm as h ws' C') (has : (.ref a :: argsL).toArray = as) (hst : st = argsL.reverse ++ .ref a :: rest) (hpd : parseMethodDescriptor z.desc = some ⟨ps, rt⟩) (hlen : argsL.length = ps.length) (hLs : Ls.size = maxL)
    (W : Nat) (hW : (rest.map fun v => v.category).sum = W) (hf : rm.frames + 1 ≤ R.frames) (hl : W + (cm + 11) + rm.locals ≤ R.locals) (hc : cl + rm.cells ≤ R.cells) (hs : sl + rm.slots ≤ R.slots) (hws : ∀ x ∈ ws', x ∈ ws ∨ h0.size ≤ x)
    (k : ∀ v h', Keep h h' ws' → C' v h' → B.G h' (cl + rm.cells) (sl + rm.slots) (mkF m pc' Ls (v.toList ++ rest))) : B.G h cl sl (mkF m pc Ls st) := fun vm0 k0 T locs X hS hk N eT => by
  have hZ := B.warm hS
  have hO := B.own hS
  subst hp
  obtain ⟨cq, kq, qa, qb, qc⟩ := isOf hZ eT E
  obtain ⟨v, _, ⟨T', L', k', n'⟩, -, X', ⟨Lc, hQ, l', y', z'⟩, stp⟩ := X.virtualBack B.1 (y := z) (z := z) hO (mvT hZ w1) (mvT hZ w2) (notFace_of_selects (args := args) (mvT hZ w5)) (mvT hZ w5) (mvT hZ w6) hz (backOf (W := W) M hZ w4 w3 hf hl) qa qc (g := mkF m pc Ls st) rfl (hLs.trans B.2.2.1.symm) (Steps.refl _) (argsL := argsL) (rest := rest) (lenOf hpd hlen) hst (by show 2 * 0 + _ ≤ _; omega) (hb B.2.1 hd) (fun _ _ => ⟨has, eT, hc, hs⟩)
  dsimp only [Pt.U, Pt.locs, Pt.cells, Pt.slots] at X' l' y' z' stp hQ
  subst l' y' z'
  obtain ⟨hC, hN, hK⟩ := hQ
  obtain ⟨t, o, q, r⟩ := k v T'.heap hK hC vm0 k0 T' _ X' hS (Nat.le_trans hk hK.1) (N.app fun u hu => (hN u hu).elim (fun q => hws _ q) fun q => Or.inr (Nat.le_trans (by rw [← eT]; exact B.size X) q)) rfl
  exact ⟨t, o, stp.trans q, r⟩
theorem BaseW.callVU (B : BaseW p l e R s m args below meth c Z y bytes maxL ret h0 ws C) (pc' : Nat) (hp : pc' = pc + 3) (hd : decode bytes pc = .ok (.invokevirtual i, 3)) {x : MethodName} {CC ow : String}
    (w1 : (Cond.methodLink y.cls i x).before a0 Z = true) (w0 : (Cond.sameMethod x.cls ow x.name x.desc).before a0 Z = true) (w2 : (Cond.declares ⟨ow, x.name, x.desc⟩).before a0 Z = true) (w5 : (Cond.selects CC x z).before a0 Z = true) (w6 : (Cond.instanceMethod z).before a0 Z = true) (w3 : (Cond.initialized z.cls).before a0 Z = true) (w4 : (Cond.code z cb cm cr).before a0 Z = true)
    (hz : ow ≠ "java/lang/invoke/MethodHandle" ∧ ow ≠ "java/lang/invoke/VarHandle") {a : Addr} (E : Exa Z h a CC) (argsL rest : List Value) (M : Met l Z z cb cm cr [] rm as h ws' C') (has : (.ref a :: argsL).toArray = as) (hst : st = argsL.reverse ++ .ref a :: rest) (hpd : parseMethodDescriptor x.desc = some ⟨ps, rt⟩) (hlen : argsL.length = ps.length) (hLs : Ls.size = maxL)
    (W : Nat) (hW : (rest.map fun v => v.category).sum = W) (hf : rm.frames + 1 ≤ R.frames) (hl : W + (cm + 11) + rm.locals ≤ R.locals) (hc : cl + rm.cells ≤ R.cells) (hs : sl + rm.slots ≤ R.slots) (hws : ∀ x ∈ ws', x ∈ ws ∨ h0.size ≤ x)
    (k : ∀ v h', Keep h h' ws' → C' v h' → B.G h' (cl + rm.cells) (sl + rm.slots) (mkF m pc' Ls (v.toList ++ rest))) : B.G h cl sl (mkF m pc Ls st) := fun vm0 k0 T locs X hS hk N eT => by
  have hZ := B.warm hS
  have hO := B.own hS
  subst hp
  obtain ⟨cq, kq, qa, qb, qc⟩ := isOf hZ eT E
  obtain ⟨v, _, ⟨T', L', k', n'⟩, -, X', ⟨Lc, hQ, l', y', z'⟩, stp⟩ := X.virtualBackUp B.1 (x := x) (y := z) hO (mvT hZ w1) (mvT hZ w0) (mvT hZ w2) hz (mvT hZ w5) (mvT hZ w6) (backOf (W := W) M hZ w4 w3 hf hl) qa qc (g := mkF m pc Ls st) rfl (hLs.trans B.2.2.1.symm) (Steps.refl _) (argsL := argsL) (rest := rest) (lenOf hpd hlen) hst (by show 2 * 0 + _ ≤ _; omega) (hb B.2.1 hd) (fun _ _ => ⟨has, eT, hc, hs⟩)
  dsimp only [Pt.U, Pt.locs, Pt.cells, Pt.slots] at X' l' y' z' stp hQ
  subst l' y' z'
  obtain ⟨hC, hN, hK⟩ := hQ
  obtain ⟨t, o, q, r⟩ := k v T'.heap hK hC vm0 k0 T' _ X' hS (Nat.le_trans hk hK.1) (N.app fun u hu => (hN u hu).elim (fun q => hws _ q) fun q => Or.inr (Nat.le_trans (by rw [← eT]; exact B.size X) q)) rfl
  exact ⟨t, o, stp.trans q, r⟩
theorem BaseW.callP (B : BaseW p l e R s m args below meth c Z y bytes maxL ret h0 ws C) (pc' : Nat) (hp : pc' = pc + 3) (hd : decode bytes pc = .ok (.invokevirtual i, 3)) {x : MethodName} {CC : String}
    (w1 : (Cond.methodLink y.cls i z).before a0 Z = true) (w7 : (Cond.privateMethod z).before a0 Z = true) (w6 : (Cond.instanceMethod z).before a0 Z = true) (w5 : (Cond.selects CC x x).before a0 Z = true) (hxc : x.cls = z.cls) (w3 : (Cond.initialized z.cls).before a0 Z = true) (w4 : (Cond.code z cb cm cr).before a0 Z = true)
    (hz : z.cls ≠ "java/lang/invoke/MethodHandle" ∧ z.cls ≠ "java/lang/invoke/VarHandle") {a : Addr} {CE : String} (E : Exa Z h a CE) (argsL rest : List Value) (M : Met l Z z cb cm cr [] rm as h ws' C') (has : (.ref a :: argsL).toArray = as) (hst : st = argsL.reverse ++ .ref a :: rest) (hpd : parseMethodDescriptor z.desc = some ⟨ps, rt⟩) (hlen : argsL.length = ps.length) (hLs : Ls.size = maxL)
    (W : Nat) (hW : (rest.map fun v => v.category).sum = W) (hf : rm.frames + 1 ≤ R.frames) (hl : W + (cm + 11) + rm.locals ≤ R.locals) (hc : cl + rm.cells ≤ R.cells) (hs : sl + rm.slots ≤ R.slots) (hws : ∀ x ∈ ws', x ∈ ws ∨ h0.size ≤ x)
    (k : ∀ v h', Keep h h' ws' → C' v h' → B.G h' (cl + rm.cells) (sl + rm.slots) (mkF m pc' Ls (v.toList ++ rest))) : B.G h cl sl (mkF m pc Ls st) := fun vm0 k0 T locs X hS hk N eT => by
  have hZ := B.warm hS
  have hO := B.own hS
  subst hp
  obtain ⟨cq, q1, q2⟩ := E.cell
  have hpr : (s.setVm vm0).PrivateAt z := Cond.privateMethod_at (mvP hZ w7 (args := args))
  have hi : (Cond.instanceMethod z).before args (s.setVm vm0) = true := mvT hZ w6
  have hsel : (Cond.selects z.cls z z).before args (s.setVm vm0) = true := by
    obtain ⟨c2, r2, m2, -, -, q3, -, kP, hkP, hkPi⟩ := Cond.selects_spec (mvT hZ w5 (args := args))
    have hc2 := findClass_of_methodNamed q3
    rw [hxc] at hc2
    exact selects_self_of_private hc2 hkP hkPi hpr hi hz
  obtain ⟨v, _, ⟨T', L', k', n'⟩, -, X', ⟨Lc, hQ, l', y', z'⟩, stp⟩ := X.privateBack B.1 (y := z) hO (mvT hZ w1) hi hsel hpr (mvT hZ w4) hz (backOf (W := W) M hZ w4 w3 hf hl) (g := mkF m pc Ls st) rfl (hLs.trans B.2.2.1.symm) (Steps.refl _) (a := a) (by rw [eT]; exact q1) q2 (argsL := argsL) (rest := rest) (lenOf hpd hlen) hst (by show 2 * 0 + _ ≤ _; omega) (hb B.2.1 hd) (fun _ _ => ⟨has, eT, hc, hs⟩)
  dsimp only [Pt.U, Pt.locs, Pt.cells, Pt.slots] at X' l' y' z' stp hQ
  subst l' y' z'
  obtain ⟨hC, hN, hK⟩ := hQ
  obtain ⟨t, o, q, r⟩ := k v T'.heap hK hC vm0 k0 T' _ X' hS (Nat.le_trans hk hK.1) (N.app fun u hu => (hN u hu).elim (fun q => hws _ q) fun q => Or.inr (Nat.le_trans (by rw [← eT]; exact B.size X) q)) rfl
  exact ⟨t, o, stp.trans q, r⟩
theorem BaseW.callSW (B : BaseW p l e R s m args below meth c Z y bytes maxL ret h0 ws C) (pc' : Nat) (hp : pc' = pc + 3) (hd : decode bytes pc = .ok (.invokestatic i, 3))
    (w1 : (Cond.methodLink y.cls i z).before a0 Z = true) (w2 : (Cond.static z).before a0 Z = true) (w3 : (Cond.initialized z.cls).before a0 Z = true) (w4 : (Cond.code z cb cm cr).before a0 Z = true)
    (hz : z.cls ≠ "java/lang/invoke/MethodHandle" ∧ z.cls ≠ "java/lang/invoke/VarHandle") (argsL rest : List Value) (M : MetW l Z z cb cm cr [] rm as h ws' C') (has : argsL.toArray = as) (hst : st = argsL.reverse ++ rest) (hpd : parseMethodDescriptor z.desc = some ⟨ps, rt⟩) (hlen : argsL.length = ps.length) (hLs : Ls.size = maxL)
    (W : Nat) (hW : (rest.map fun v => v.category).sum = W) (hf : rm.frames + 1 ≤ R.frames) (hl : W + (cm + 11) + rm.locals ≤ R.locals) (hc : cl + rm.cells ≤ R.cells) (hs : sl + rm.slots ≤ R.slots) (hws : ∀ x ∈ ws', x ∈ ws ∨ h0.size ≤ x)
    (k : ∀ v h', Keep h h' ws' → C' v h' → B.G h' (cl + rm.cells) (sl + rm.slots) (mkF m pc' Ls (v.toList ++ rest))) : B.G h cl sl (mkF m pc Ls st) := fun vm0 k0 T locs X hS hk N eT => by
  have hZ := B.warm hS
  have hO := B.own hS
  subst hp
  obtain ⟨v, _, ⟨T', L', k', n'⟩, -, X', hS2, hgr, ⟨Lc, hQ, l', y', z'⟩, stp⟩ := callSS X B.1 (y := z) hO (mvT hZ w1) (mvT hZ w2) (mvT hZ w3) (mvT hZ w4) hz (backOfS (W := W) M hZ w4 w3 hf hl) (g := mkF m pc Ls st) rfl (hLs.trans B.2.2.1.symm) (argsL := argsL) (rest := rest) (lenOf hpd hlen) hst (by show 2 * 0 + _ ≤ _; omega) (hb B.2.1 hd) (fun _ _ => ⟨has, eT, hc, hs⟩)
  dsimp only [Pt.U, Pt.locs, Pt.cells, Pt.slots] at X' hS2 hgr l' y' z' stp hQ
  subst l' y' z'
  obtain ⟨hC, hN, hK⟩ := hQ
  obtain ⟨t, o, q, r⟩ := k v T'.heap hK hC T'.vm T'.heap.size T' _ X' (hS.trans hS2 (Nat.le_trans hk (by rw [← eT]; exact hgr))) (Nat.le_refl _) (N.app fun u hu => (hN u hu).elim (fun q => hws _ q) fun q => Or.inr (Nat.le_trans (by rw [← eT]; exact B.size X) q)) rfl
  exact ⟨t, o, stp.trans q, r⟩
theorem BaseW.callIW (B : BaseW p l e R s m args below meth c Z y bytes maxL ret h0 ws C) (pc' : Nat) (hp : pc' = pc + 3) (hd : decode bytes pc = .ok (.invokespecial i, 3)) (hin : z.name = "<init>")
    (w1 : (Cond.methodLink y.cls i z).before a0 Z = true) (w2 : (Cond.instanceMethod z).before a0 Z = true) (w3 : (Cond.initialized z.cls).before a0 Z = true) (w4 : (Cond.code z cb cm none).before a0 Z = true)
    (hz : z.cls ≠ "java/lang/invoke/MethodHandle" ∧ z.cls ≠ "java/lang/invoke/VarHandle") {a : Addr} (argsL rest : List Value) (M : MetW l Z z cb cm none [] rm as h ws' C') (has : (.ref a :: argsL).toArray = as) (hst : st = argsL.reverse ++ .ref a :: rest) (hpd : parseMethodDescriptor z.desc = some ⟨ps, rt⟩) (hlen : argsL.length = ps.length) (hLs : Ls.size = maxL)
    (W : Nat) (hW : (rest.map fun v => v.category).sum = W) (hf : rm.frames + 1 ≤ R.frames) (hl : W + (cm + 11) + rm.locals ≤ R.locals) (hc : cl + rm.cells ≤ R.cells) (hs : sl + rm.slots ≤ R.slots) (hws : ∀ x ∈ ws', x ∈ ws ∨ h0.size ≤ x)
    (k : ∀ v h', Keep h h' ws' → C' v h' → B.G h' (cl + rm.cells) (sl + rm.slots) (mkF m pc' Ls (v.toList ++ rest))) : B.G h cl sl (mkF m pc Ls st) := fun vm0 k0 T locs X hS hk N eT => by
  have hZ := B.warm hS
  have hO := B.own hS
  subst hp
  obtain ⟨v, _, ⟨T', L', k', n'⟩, -, X', hS2, hgr, ⟨Lc, hQ, l', y', z'⟩, stp⟩ := X.specialBackS B.1 (y := z) hin hO (mvT hZ w1) (mvT hZ w2) (mvT hZ w4) hz (backOfS (W := W) M hZ w4 w3 hf hl) (g := mkF m pc Ls st) rfl (hLs.trans B.2.2.1.symm) (Steps.refl _) (a := a) (argsL := argsL) (rest := rest) (lenOf hpd hlen) hst (by show 2 * 0 + _ ≤ _; omega) (hb B.2.1 hd) (fun _ _ => ⟨has, eT, hc, hs⟩)
  dsimp only [Pt.U, Pt.locs, Pt.cells, Pt.slots] at X' hS2 hgr l' y' z' stp hQ
  subst l' y' z'
  obtain ⟨hC, hN, hK⟩ := hQ
  obtain ⟨t, o, q, r⟩ := k v T'.heap hK hC T'.vm T'.heap.size T' _ X' (hS.trans hS2 (Nat.le_trans hk (by rw [← eT]; exact hgr))) (Nat.le_refl _) (N.app fun u hu => (hN u hu).elim (fun q => hws _ q) fun q => Or.inr (Nat.le_trans (by rw [← eT]; exact B.size X) q)) rfl
  exact ⟨t, o, stp.trans q, r⟩
theorem BaseW.callVW (B : BaseW p l e R s m args below meth c Z y bytes maxL ret h0 ws C) (pc' : Nat) (hp : pc' = pc + 3) (hd : decode bytes pc = .ok (.invokevirtual i, 3)) {CC : String}
    (w1 : (Cond.methodLink y.cls i z).before a0 Z = true) (w2 : (Cond.declares z).before a0 Z = true) (w5 : (Cond.selects CC z z).before a0 Z = true) (w6 : (Cond.instanceMethod z).before a0 Z = true) (w3 : (Cond.initialized z.cls).before a0 Z = true) (w4 : (Cond.code z cb cm cr).before a0 Z = true)
    (hz : z.cls ≠ "java/lang/invoke/MethodHandle" ∧ z.cls ≠ "java/lang/invoke/VarHandle") {a : Addr} (E : Exa Z h a CC) (argsL rest : List Value) (M : MetW l Z z cb cm cr [] rm as h ws' C') (has : (.ref a :: argsL).toArray = as) (hst : st = argsL.reverse ++ .ref a :: rest) (hpd : parseMethodDescriptor z.desc = some ⟨ps, rt⟩) (hlen : argsL.length = ps.length) (hLs : Ls.size = maxL)
    (W : Nat) (hW : (rest.map fun v => v.category).sum = W) (hf : rm.frames + 1 ≤ R.frames) (hl : W + (cm + 11) + rm.locals ≤ R.locals) (hc : cl + rm.cells ≤ R.cells) (hs : sl + rm.slots ≤ R.slots) (hws : ∀ x ∈ ws', x ∈ ws ∨ h0.size ≤ x)
    (k : ∀ v h', Keep h h' ws' → C' v h' → B.G h' (cl + rm.cells) (sl + rm.slots) (mkF m pc' Ls (v.toList ++ rest))) : B.G h cl sl (mkF m pc Ls st) := fun vm0 k0 T locs X hS hk N eT => by
  have hZ := B.warm hS
  have hO := B.own hS
  subst hp
  obtain ⟨cq, kq, qa, qb, qc⟩ := isOf hZ eT E
  obtain ⟨v, _, ⟨T', L', k', n'⟩, -, X', hS2, hgr, ⟨Lc, hQ, l', y', z'⟩, stp⟩ := X.virtualBackS B.1 (y := z) (z := z) hO (mvT hZ w1) (mvT hZ w2) (notFace_of_selects (args := args) (mvT hZ w5)) (mvT hZ w5) (mvT hZ w6) hz (backOfS (W := W) M hZ w4 w3 hf hl) qa qc (g := mkF m pc Ls st) rfl (hLs.trans B.2.2.1.symm) (Steps.refl _) (argsL := argsL) (rest := rest) (lenOf hpd hlen) hst (by show 2 * 0 + _ ≤ _; omega) (hb B.2.1 hd) (fun _ _ => ⟨has, eT, hc, hs⟩)
  dsimp only [Pt.U, Pt.locs, Pt.cells, Pt.slots] at X' hS2 hgr l' y' z' stp hQ
  subst l' y' z'
  obtain ⟨hC, hN, hK⟩ := hQ
  obtain ⟨t, o, q, r⟩ := k v T'.heap hK hC T'.vm T'.heap.size T' _ X' (hS.trans hS2 (Nat.le_trans hk (by rw [← eT]; exact hgr))) (Nat.le_refl _) (N.app fun u hu => (hN u hu).elim (fun q => hws _ q) fun q => Or.inr (Nat.le_trans (by rw [← eT]; exact B.size X) q)) rfl
  exact ⟨t, o, stp.trans q, r⟩
theorem BaseW.callVUW (B : BaseW p l e R s m args below meth c Z y bytes maxL ret h0 ws C) (pc' : Nat) (hp : pc' = pc + 3) (hd : decode bytes pc = .ok (.invokevirtual i, 3)) {x : MethodName} {CC ow : String}
    (w1 : (Cond.methodLink y.cls i x).before a0 Z = true) (w0 : (Cond.sameMethod x.cls ow x.name x.desc).before a0 Z = true) (w2 : (Cond.declares ⟨ow, x.name, x.desc⟩).before a0 Z = true) (w5 : (Cond.selects CC x z).before a0 Z = true) (w6 : (Cond.instanceMethod z).before a0 Z = true) (w3 : (Cond.initialized z.cls).before a0 Z = true) (w4 : (Cond.code z cb cm cr).before a0 Z = true)
    (hz : ow ≠ "java/lang/invoke/MethodHandle" ∧ ow ≠ "java/lang/invoke/VarHandle") {a : Addr} (E : Exa Z h a CC) (argsL rest : List Value) (M : MetW l Z z cb cm cr [] rm as h ws' C') (has : (.ref a :: argsL).toArray = as) (hst : st = argsL.reverse ++ .ref a :: rest) (hpd : parseMethodDescriptor x.desc = some ⟨ps, rt⟩) (hlen : argsL.length = ps.length) (hLs : Ls.size = maxL)
    (W : Nat) (hW : (rest.map fun v => v.category).sum = W) (hf : rm.frames + 1 ≤ R.frames) (hl : W + (cm + 11) + rm.locals ≤ R.locals) (hc : cl + rm.cells ≤ R.cells) (hs : sl + rm.slots ≤ R.slots) (hws : ∀ x ∈ ws', x ∈ ws ∨ h0.size ≤ x)
    (k : ∀ v h', Keep h h' ws' → C' v h' → B.G h' (cl + rm.cells) (sl + rm.slots) (mkF m pc' Ls (v.toList ++ rest))) : B.G h cl sl (mkF m pc Ls st) := fun vm0 k0 T locs X hS hk N eT => by
  have hZ := B.warm hS
  have hO := B.own hS
  subst hp
  obtain ⟨cq, kq, qa, qb, qc⟩ := isOf hZ eT E
  obtain ⟨v, _, ⟨T', L', k', n'⟩, -, X', hS2, hgr, ⟨Lc, hQ, l', y', z'⟩, stp⟩ := virtualBackUpS X B.1 (x := x) (y := z) hO (mvT hZ w1) (mvT hZ w0) (mvT hZ w2) hz (mvT hZ w5) (mvT hZ w6) (backOfS (W := W) M hZ w4 w3 hf hl) qa qc (g := mkF m pc Ls st) rfl (hLs.trans B.2.2.1.symm) (Steps.refl _) (argsL := argsL) (rest := rest) (lenOf hpd hlen) hst (by show 2 * 0 + _ ≤ _; omega) (hb B.2.1 hd) (fun _ _ => ⟨has, eT, hc, hs⟩)
  dsimp only [Pt.U, Pt.locs, Pt.cells, Pt.slots] at X' hS2 hgr l' y' z' stp hQ
  subst l' y' z'
  obtain ⟨hC, hN, hK⟩ := hQ
  obtain ⟨t, o, q, r⟩ := k v T'.heap hK hC T'.vm T'.heap.size T' _ X' (hS.trans hS2 (Nat.le_trans hk (by rw [← eT]; exact hgr))) (Nat.le_refl _) (N.app fun u hu => (hN u hu).elim (fun q => hws _ q) fun q => Or.inr (Nat.le_trans (by rw [← eT]; exact B.size X) q)) rfl
  exact ⟨t, o, stp.trans q, r⟩
theorem BaseW.callPW (B : BaseW p l e R s m args below meth c Z y bytes maxL ret h0 ws C) (pc' : Nat) (hp : pc' = pc + 3) (hd : decode bytes pc = .ok (.invokevirtual i, 3)) {x : MethodName} {CC : String}
    (w1 : (Cond.methodLink y.cls i z).before a0 Z = true) (w7 : (Cond.privateMethod z).before a0 Z = true) (w6 : (Cond.instanceMethod z).before a0 Z = true) (w5 : (Cond.selects CC x x).before a0 Z = true) (hxc : x.cls = z.cls) (w3 : (Cond.initialized z.cls).before a0 Z = true) (w4 : (Cond.code z cb cm cr).before a0 Z = true)
    (hz : z.cls ≠ "java/lang/invoke/MethodHandle" ∧ z.cls ≠ "java/lang/invoke/VarHandle") {a : Addr} {CE : String} (E : Exa Z h a CE) (argsL rest : List Value) (M : MetW l Z z cb cm cr [] rm as h ws' C') (has : (.ref a :: argsL).toArray = as) (hst : st = argsL.reverse ++ .ref a :: rest) (hpd : parseMethodDescriptor z.desc = some ⟨ps, rt⟩) (hlen : argsL.length = ps.length) (hLs : Ls.size = maxL)
    (W : Nat) (hW : (rest.map fun v => v.category).sum = W) (hf : rm.frames + 1 ≤ R.frames) (hl : W + (cm + 11) + rm.locals ≤ R.locals) (hc : cl + rm.cells ≤ R.cells) (hs : sl + rm.slots ≤ R.slots) (hws : ∀ x ∈ ws', x ∈ ws ∨ h0.size ≤ x)
    (k : ∀ v h', Keep h h' ws' → C' v h' → B.G h' (cl + rm.cells) (sl + rm.slots) (mkF m pc' Ls (v.toList ++ rest))) : B.G h cl sl (mkF m pc Ls st) := fun vm0 k0 T locs X hS hk N eT => by
  have hZ := B.warm hS
  have hO := B.own hS
  subst hp
  obtain ⟨cq, q1, q2⟩ := E.cell
  have hpr : (s.setVm vm0).PrivateAt z := Cond.privateMethod_at (mvP hZ w7 (args := args))
  have hi : (Cond.instanceMethod z).before args (s.setVm vm0) = true := mvT hZ w6
  have hsel : (Cond.selects z.cls z z).before args (s.setVm vm0) = true := by
    obtain ⟨c2, r2, m2, -, -, q3, -, kP, hkP, hkPi⟩ := Cond.selects_spec (mvT hZ w5 (args := args))
    have hc2 := findClass_of_methodNamed q3
    rw [hxc] at hc2
    exact selects_self_of_private hc2 hkP hkPi hpr hi hz
  obtain ⟨v, _, ⟨T', L', k', n'⟩, -, X', hS2, hgr, ⟨Lc, hQ, l', y', z'⟩, stp⟩ := privateBackS X B.1 (y := z) hO (mvT hZ w1) hi hsel hpr (mvT hZ w4) hz (backOfS (W := W) M hZ w4 w3 hf hl) (g := mkF m pc Ls st) rfl (hLs.trans B.2.2.1.symm) (Steps.refl _) (a := a) (by rw [eT]; exact q1) q2 (argsL := argsL) (rest := rest) (lenOf hpd hlen) hst (by show 2 * 0 + _ ≤ _; omega) (hb B.2.1 hd) (fun _ _ => ⟨has, eT, hc, hs⟩)
  dsimp only [Pt.U, Pt.locs, Pt.cells, Pt.slots] at X' hS2 hgr l' y' z' stp hQ
  subst l' y' z'
  obtain ⟨hC, hN, hK⟩ := hQ
  obtain ⟨t, o, q, r⟩ := k v T'.heap hK hC T'.vm T'.heap.size T' _ X' (hS.trans hS2 (Nat.le_trans hk (by rw [← eT]; exact hgr))) (Nat.le_refl _) (N.app fun u hu => (hN u hu).elim (fun q => hws _ q) fun q => Or.inr (Nat.le_trans (by rw [← eT]; exact B.size X) q)) rfl
  exact ⟨t, o, stp.trans q, r⟩
end Calls
end Walk
/-! 3b. arrays: 'Ary': the array at a holds just the list vs -/
section Arrays
variable {p : Program} {l : Launch} {e : Env} {R : Room} {s : State} {m : MethodId} {args : Array Value} {below : List Frame} {meth : Method} {c : Code} {Z : State} {a0 : Array Value} {y : MethodName} {bytes : ByteArray} {maxL : Nat} {ret : Option FieldType} {h0 : Heap} {ws : List Addr} {C : Option Value → Heap → Prop}
variable {h h' : Heap} {cl sl : Nat} {g g' : JFrame} {pc : Nat} {Ls : Array Slot} {st : List Value} {a b : Addr} {ty : FieldType} {vs : List Value} {j : Int32} {i : Nat} {v w : Value} {wl : List Addr}
theorem BaseW.arrlen (B : BaseW p l e R s m args below meth c Z y bytes maxL ret h0 ws C) (pc' : Nat) (hp : pc' = pc + 1) (hd : decode bytes pc = .ok (.arraylength, 1)) (A : Ary Z h a ty vs) (n : Int32) (hn : vs.length.toInt32 = n) (k : B.G h cl sl (mkF m pc' Ls (.int n :: st))) : B.G h cl sl (mkF m pc Ls (.ref a :: st)) := by
  subst hp hn
  obtain ⟨c1, A, rfl⟩ := A
  rw [Array.length_toList] at k
  exact B.viaX (fun vm0 hZ hO T t L X eT r => X.arraylength (g := mkF m pc Ls (.ref a :: st)) B.1 (by rw [eT]; exact A.1) (State.isArrayOf_alike (T := s.setVm vm0) hZ.alike A.2.1) rfl rfl (hb B.2.1 hd) t r) k
theorem BaseW.baload (B : BaseW p l e R s m args below meth c Z y bytes maxL ret h0 ws C) (pc' : Nat) (hp : pc' = pc + 1) (hd : decode bytes pc = .ok (.baload, 1)) (A : Ary Z h a .byte vs) (hj : ¬ j < 0) (i : Nat) (hi : j.toNatClampNeg = i) (v : Value) (hv : vs[i]? = some v) (k : B.G h cl sl (mkF m pc' Ls (v :: st))) : B.G h cl sl (mkF m pc Ls (.int j :: .ref a :: st)) := by
  subst hp
  obtain ⟨c1, A, r⟩ := A
  obtain ⟨q1, q2⟩ := ary_in r hj hi hv
  exact B.viaX (fun vm0 hZ hO T t L X eT r => X.baloadBytes (g := mkF m pc Ls (.int j :: .ref a :: st)) B.1 (by rw [eT]; exact A.1) (State.isArrayOf_alike (T := s.setVm vm0) hZ.alike A.2.1) A.2.2 q1 q2 rfl rfl (hb B.2.1 hd) t r) k
theorem BaseW.iaload (B : BaseW p l e R s m args below meth c Z y bytes maxL ret h0 ws C) (pc' : Nat) (hp : pc' = pc + 1) (hd : decode bytes pc = .ok (.iaload, 1)) (A : Ary Z h a .int vs) (hj : ¬ j < 0) (i : Nat) (hi : j.toNatClampNeg = i) (v : Value) (hv : vs[i]? = some v) (k : B.G h cl sl (mkF m pc' Ls (v :: st))) : B.G h cl sl (mkF m pc Ls (.int j :: .ref a :: st)) := by
  subst hp
  obtain ⟨c1, A, r⟩ := A
  obtain ⟨q1, q2⟩ := ary_in r hj hi hv
  exact B.viaX (fun vm0 hZ hO T t L X eT r => X.iaload (g := mkF m pc Ls (.int j :: .ref a :: st)) B.1 (by rw [eT]; exact A.1) (State.isArrayOf_alike (T := s.setVm vm0) hZ.alike A.2.1) A.2.2 q1 q2 rfl rfl (hb B.2.1 hd) t r) k
theorem BaseW.laload (B : BaseW p l e R s m args below meth c Z y bytes maxL ret h0 ws C) (pc' : Nat) (hp : pc' = pc + 1) (hd : decode bytes pc = .ok (.laload, 1)) (A : Ary Z h a .long vs) (hj : ¬ j < 0) (i : Nat) (hi : j.toNatClampNeg = i) (v : Value) (hv : vs[i]? = some v) (k : B.G h cl sl (mkF m pc' Ls (v :: st))) : B.G h cl sl (mkF m pc Ls (.int j :: .ref a :: st)) := by
  subst hp
  obtain ⟨c1, A, r⟩ := A
  obtain ⟨q1, q2⟩ := ary_in r hj hi hv
  exact B.viaX (fun vm0 hZ hO T t L X eT r => X.laload (g := mkF m pc Ls (.int j :: .ref a :: st)) B.1 (by rw [eT]; exact A.1) (State.isArrayOf_alike (T := s.setVm vm0) hZ.alike A.2.1) A.2.2 q1 q2 rfl rfl (hb B.2.1 hd) t r) k
theorem BaseW.newP (B : BaseW p l e R s m args below meth c Z y bytes maxL ret h0 ws C) (pc' : Nat) (hp : pc' = pc + 2) {aty : ArrayType} (hd : decode bytes pc = .ok (.newarray aty, 2)) (w : (Cond.arrayClass (newarray.typeOf aty)).before a0 Z = true) {n : Int32} (hn : ¬ n < 0) (cap : Nat) (hcap : n.toNatClampNeg ≤ cap) (hb' : cap * 8 ≤ 536870912) (hc : cl + 1 ≤ R.cells) (hs : sl + cap ≤ R.slots)
    (k : ∀ h' a, a = h.size → h0.size ≤ a → Ext h h' → Ary Z h' a (newarray.typeOf aty) (List.replicate n.toNatClampNeg (defaultValue (newarray.typeOf aty))) → B.G h' (cl + 1) (sl + cap) (mkF m pc' Ls (.ref a :: st))) : B.G h cl sl (mkF m pc Ls (.int n :: st)) := fun vm0 k0 T locs X hS hk N eT => by
  have hZ := B.warm hS
  have hO := B.own hS
  subst hp
  obtain ⟨T', h', cA, X', e', E, A, stp⟩ := Jvm.RoadKit.newP X B.1 hZ w eT (g := mkF m pc Ls (.int n :: st)) rfl (hb B.2.1 hd) rfl hn hcap hb' hc hs
  obtain ⟨t, o, q, r⟩ := k h' _ rfl (by rw [← eT]; exact B.size X) E (Ary.new A) vm0 k0 T' locs X' hS (Nat.le_trans hk E.1) N e'
  exact ⟨t, o, stp _ q, r⟩
theorem BaseW.bastore (B : BaseW p l e R s m args below meth c Z y bytes maxL ret h0 ws C) (pc' : Nat) (hp : pc' = pc + 1) (hd : decode bytes pc = .ok (.bastore, 1)) (A : Ary Z h a .byte vs) (hj : ¬ j < 0) (i : Nat) (hi : j.toNatClampNeg = i) (hlt : i < vs.length) (hw : a ∈ ws ∨ h0.size ≤ a) {x : Int32} (k : ∀ h', Wr h h' a i (.int x.toInt8.toInt32) → Ary Z h' a .byte (vs.set i (.int x.toInt8.toInt32)) → B.G h' cl sl (mkF m pc' Ls st)) : B.G h cl sl (mkF m pc Ls (.int x :: .int j :: .ref a :: st)) := fun vm0 k0 T locs X hS hk N eT => by
  have hZ := B.warm hS
  have hO := B.own hS
  subst hp
  obtain ⟨c1, A1, r1⟩ := A
  obtain ⟨T', h', X', e', W, stp⟩ := stB X B.1 hZ eT A1 (ary_lt r1 hj hi hlt) (g := mkF m pc Ls (.int x :: .int j :: .ref a :: st)) rfl rfl (hb B.2.1 hd)
  rw [hi] at W
  obtain ⟨t, o, q, r⟩ := k h' W (Ary.set ⟨c1, A1, r1⟩ W) vm0 k0 T' _ X' hS (by rw [W.size]; exact hk) (N.one hw) e'
  exact ⟨t, o, stp _ q, r⟩
theorem BaseW.iastore (B : BaseW p l e R s m args below meth c Z y bytes maxL ret h0 ws C) (pc' : Nat) (hp : pc' = pc + 1) (hd : decode bytes pc = .ok (.iastore, 1)) (A : Ary Z h a .int vs) (hj : ¬ j < 0) (i : Nat) (hi : j.toNatClampNeg = i) (hlt : i < vs.length) (hw : a ∈ ws ∨ h0.size ≤ a) {x : Int32} (k : ∀ h', Wr h h' a i (.int x) → Ary Z h' a .int (vs.set i (.int x)) → B.G h' cl sl (mkF m pc' Ls st)) : B.G h cl sl (mkF m pc Ls (.int x :: .int j :: .ref a :: st)) := fun vm0 k0 T locs X hS hk N eT => by
  have hZ := B.warm hS
  have hO := B.own hS
  subst hp
  obtain ⟨c1, A1, r1⟩ := A
  obtain ⟨T', h', X', e', W, stp⟩ := stI X B.1 hZ eT A1 (ary_lt r1 hj hi hlt) (g := mkF m pc Ls (.int x :: .int j :: .ref a :: st)) rfl rfl (hb B.2.1 hd)
  rw [hi] at W
  obtain ⟨t, o, q, r⟩ := k h' W (Ary.set ⟨c1, A1, r1⟩ W) vm0 k0 T' _ X' hS (by rw [W.size]; exact hk) (N.one hw) e'
  exact ⟨t, o, stp _ q, r⟩
theorem BaseW.lastore (B : BaseW p l e R s m args below meth c Z y bytes maxL ret h0 ws C) (pc' : Nat) (hp : pc' = pc + 1) (hd : decode bytes pc = .ok (.lastore, 1)) (A : Ary Z h a .long vs) (hj : ¬ j < 0) (i : Nat) (hi : j.toNatClampNeg = i) (hlt : i < vs.length) (hw : a ∈ ws ∨ h0.size ≤ a) {x : Int64} (k : ∀ h', Wr h h' a i (.long x) → Ary Z h' a .long (vs.set i (.long x)) → B.G h' cl sl (mkF m pc' Ls st)) : B.G h cl sl (mkF m pc Ls (.long x :: .int j :: .ref a :: st)) := fun vm0 k0 T locs X hS hk N eT => by
  have hZ := B.warm hS
  have hO := B.own hS
  subst hp
  obtain ⟨c1, A1, r1⟩ := A
  obtain ⟨T', h', X', e', W, stp⟩ := stJ X B.1 hZ eT A1 (ary_lt r1 hj hi hlt) (g := mkF m pc Ls (.long x :: .int j :: .ref a :: st)) rfl rfl (hb B.2.1 hd)
  rw [hi] at W
  obtain ⟨t, o, q, r⟩ := k h' W (Ary.set ⟨c1, A1, r1⟩ W) vm0 k0 T' _ X' hS (by rw [W.size]; exact hk) (N.one hw) e'
  exact ⟨t, o, stp _ q, r⟩
theorem BaseW.caload (B : BaseW p l e R s m args below meth c Z y bytes maxL ret h0 ws C) (pc' : Nat) (hp : pc' = pc + 1) (hd : decode bytes pc = .ok (.caload, 1)) (A : Ary Z h a .char vs) (hj : ¬ j < 0) (i : Nat) (hi : j.toNatClampNeg = i) (v : Value) (hv : vs[i]? = some v) (k : B.G h cl sl (mkF m pc' Ls (v :: st))) : B.G h cl sl (mkF m pc Ls (.int j :: .ref a :: st)) := by
  subst hp
  obtain ⟨c1, A, r⟩ := A
  obtain ⟨q1, q2⟩ := ary_in r hj hi hv
  exact B.viaX (fun vm0 hZ hO T t L X eT r => X.caload (g := mkF m pc Ls (.int j :: .ref a :: st)) B.1 (by rw [eT]; exact A.1) (State.isArrayOf_alike (T := s.setVm vm0) hZ.alike A.2.1) A.2.2 q1 q2 rfl rfl (hb B.2.1 hd) t r) k
theorem BaseW.castore (B : BaseW p l e R s m args below meth c Z y bytes maxL ret h0 ws C) (pc' : Nat) (hp : pc' = pc + 1) (hd : decode bytes pc = .ok (.castore, 1)) (A : Ary Z h a .char vs) (hj : ¬ j < 0) (i : Nat) (hi : j.toNatClampNeg = i) (hlt : i < vs.length) (hw : a ∈ ws ∨ h0.size ≤ a) {x : Int32} (k : ∀ h', Wr h h' a i (.int x.toUInt32.toUInt16.toUInt32.toInt32) → Ary Z h' a .char (vs.set i (.int x.toUInt32.toUInt16.toUInt32.toInt32)) → B.G h' cl sl (mkF m pc' Ls st)) : B.G h cl sl (mkF m pc Ls (.int x :: .int j :: .ref a :: st)) := fun vm0 k0 T locs X hS hk N eT => by
  have hZ := B.warm hS
  have hO := B.own hS
  subst hp
  obtain ⟨c1, A1, r1⟩ := A
  obtain ⟨T', h', X', e', W, stp⟩ := stC X B.1 hZ eT A1 (ary_lt r1 hj hi hlt) (g := mkF m pc Ls (.int x :: .int j :: .ref a :: st)) rfl rfl (hb B.2.1 hd)
  rw [hi] at W
  obtain ⟨t, o, q, r⟩ := k h' W (Ary.set ⟨c1, A1, r1⟩ W) vm0 k0 T' _ X' hS (by rw [W.size]; exact hk) (N.one hw) e'
  exact ⟨t, o, stp _ q, r⟩
theorem BaseW.newPE (B : BaseW p l e R s m args below meth c Z y bytes maxL ret h0 ws C) (pc' : Nat) (hp : pc' = pc + 2) {aty : ArrayType} (hd : decode bytes pc = .ok (.newarray aty, 2)) (w : (Cond.arrayClass (newarray.typeOf aty)).before a0 Z = true) {n : Int32} (hn : ¬ n < 0) (cap : Nat) (hcap : n.toNatClampNeg ≤ cap) (hb' : cap * 8 ≤ 536870912) (hc : cl + 1 ≤ R.cells) (hs : sl + cap ≤ R.slots) (ad : String) (had : "[" ++ (newarray.typeOf aty).toString = ad)
    (k : ∀ h' a, a = h.size → h0.size ≤ a → Ext h h' → Ary Z h' a (newarray.typeOf aty) (List.replicate n.toNatClampNeg (defaultValue (newarray.typeOf aty))) → Exa Z h' a ad → B.G h' (cl + 1) (sl + cap) (mkF m pc' Ls (.ref a :: st))) : B.G h cl sl (mkF m pc Ls (.int n :: st)) := fun vm0 k0 T locs X hS hk N eT => by
  have hZ := B.warm hS
  have hO := B.own hS
  subst hp
  obtain ⟨T', h', cA, X', e', E, A, A2, stp⟩ := Jvm.RoadKit.newPE X B.1 hZ w eT (g := mkF m pc Ls (.int n :: st)) rfl (hb B.2.1 hd) rfl hn hcap hb' hc hs had
  obtain ⟨t, o, q, r⟩ := k h' _ rfl (by rw [← eT]; exact B.size X) E (Ary.new A) A2 vm0 k0 T' locs X' hS (Nat.le_trans hk E.1) N e'
  exact ⟨t, o, stp _ q, r⟩
theorem BaseW.clone (B : BaseW p l e R s m args below meth c Z y bytes maxL ret h0 ws C) (pc' : Nat) (hp : pc' = pc + 3) {ix : Nat} {ad : String} (hd : decode bytes pc = .ok (.invokevirtual ix, 3))
    (w1 : (Cond.methodLink y.cls ix ⟨ad, "clone", "()Ljava/lang/Object;"⟩).before a0 Z = true) (w2 : (Cond.sameMethod ad "java/lang/Object" "clone" "()Ljava/lang/Object;").before a0 Z = true) (w3 : (Cond.native ⟨"java/lang/Object", "clone", "()Ljava/lang/Object;"⟩).before a0 Z = true)
    (w4 : (Cond.instanceMethod ⟨"java/lang/Object", "clone", "()Ljava/lang/Object;"⟩).before a0 Z = true) (w5 : (Cond.selects ad ⟨ad, "clone", "()Ljava/lang/Object;"⟩ ⟨"java/lang/Object", "clone", "()Ljava/lang/Object;"⟩).before a0 Z = true) (w6 : (Cond.castable ad "java/lang/Cloneable").before a0 Z = true)
    (A : Ary Z h a ty vs) (E : Exa Z h a ad) (hfit : ∀ v ∈ vs, fits ty v = true) (hLs : Ls.size = maxL) (W : Nat) (hW : (st.map fun v => v.category).sum = W) (hf : 1 ≤ R.frames) (hl : W + 14 ≤ R.locals) (cap : Nat) (hcap : vs.length ≤ cap) (hc : cl + 1 ≤ R.cells) (hs : sl + cap ≤ R.slots)
    (k : ∀ h' b, b = h.size → h0.size ≤ b → Ext h h' → Ary Z h' b ty vs → Exa Z h' b ad → B.G h' (cl + 1) (sl + cap) (mkF m pc' Ls (.ref b :: st))) : B.G h cl sl (mkF m pc Ls (.ref a :: st)) := fun vm0 k0 T locs X hS hk N eT => by
  have hZ := B.warm hS
  have hO := B.own hS
  subst hp
  obtain ⟨c1, A1, r1⟩ := A
  have FC : FitC Z c1 := fitC_of A1 fun i hi v hv => hfit v (by rw [← r1]; exact Array.mem_toList_iff.mpr (Array.mem_of_getElem? hv))
  obtain ⟨T', h', X', e', ex, A', E', stp⟩ := cloneA X B.1 hZ hO w1 w2 w3 w4 w5 w6 eT A1 E FC (g := mkF m pc Ls (.ref a :: st)) rfl (hLs.trans B.2.2.1.symm) rfl (hb B.2.1 hd) hf (W := W) (cap := cap) (by show 2 * 0 + _ ≤ _; omega) hl (by rw [← r1, Array.length_toList] at hcap; exact hcap) hc hs
  obtain ⟨t, o, q, r⟩ := k h' _ rfl (by rw [← eT]; exact B.size X) ex ⟨_, A', r1⟩ E' vm0 k0 T' locs X' hS (Nat.le_trans hk ex.1) N e'
  exact ⟨t, o, stp _ q, r⟩
theorem BaseW.castY (B : BaseW p l e R s m args below meth c Z y bytes maxL ret h0 ws C) (pc' : Nat) (hp : pc' = pc + 3) {ix : Nat} {K : String} (hd : decode bytes pc = .ok (.checkcast ix, 3)) (w : (Cond.classLink y.cls ix K).before a0 Z = true) (F : Ins Z h a K true) (k : B.G h cl sl (mkF m pc' Ls (.ref a :: st))) : B.G h cl sl (mkF m pc Ls (.ref a :: st)) := fun vm0 k0 T locs X hS hk N eT => by
  have hZ := B.warm hS
  have hO := B.own hS
  subst hp
  obtain ⟨T', X', e', stp⟩ := Jvm.RoadKit.castY X B.1 hZ hO w eT F (g := mkF m pc Ls (.ref a :: st)) rfl rfl (hb B.2.1 hd)
  obtain ⟨t, o, q, r⟩ := k vm0 k0 T' locs X' hS hk N e'
  exact ⟨t, o, stp _ q, r⟩
theorem BaseW.instY (B : BaseW p l e R s m args below meth c Z y bytes maxL ret h0 ws C) (pc' : Nat) (hp : pc' = pc + 3) {ix : Nat} {K : String} (hd : decode bytes pc = .ok (.instanceof ix, 3)) (w : (Cond.classLink y.cls ix K).before a0 Z = true) (F : Ins Z h a K true) (k : B.G h cl sl (mkF m pc' Ls (.int 1 :: st))) : B.G h cl sl (mkF m pc Ls (.ref a :: st)) := fun vm0 k0 T locs X hS hk N eT => by
  have hZ := B.warm hS
  have hO := B.own hS
  subst hp
  obtain ⟨T', X', e', stp⟩ := Jvm.RoadKit.instY X B.1 hZ hO w eT F (g := mkF m pc Ls (.ref a :: st)) rfl rfl (hb B.2.1 hd)
  obtain ⟨t, o, q, r⟩ := k vm0 k0 T' locs X' hS hk N e'
  exact ⟨t, o, stp _ q, r⟩
theorem BaseW.instN (B : BaseW p l e R s m args below meth c Z y bytes maxL ret h0 ws C) (pc' : Nat) (hp : pc' = pc + 3) {ix : Nat} {K CC : String} (hd : decode bytes pc = .ok (.instanceof ix, 3)) (w : (Cond.classLink y.cls ix K).before a0 Z = true) (E : Exa Z h a CC) (F : ∃ c t, Z.vm.findClass CC = some c ∧ Z.vm.findClass K = some t ∧ Z.vm.assignable c t = false) (k : B.G h cl sl (mkF m pc' Ls (.int 0 :: st))) : B.G h cl sl (mkF m pc Ls (.ref a :: st)) := fun vm0 k0 T locs X hS hk N eT => by
  have hZ := B.warm hS
  have hO := B.own hS
  subst hp
  obtain ⟨T', X', e', stp⟩ := instNo X B.1 hZ hO w eT E F (g := mkF m pc Ls (.ref a :: st)) rfl rfl (hb B.2.1 hd)
  obtain ⟨t, o, q, r⟩ := k vm0 k0 T' locs X' hS hk N e'
  exact ⟨t, o, stp _ q, r⟩
theorem BaseW.inst0 (B : BaseW p l e R s m args below meth c Z y bytes maxL ret h0 ws C) (pc' : Nat) (hp : pc' = pc + 3) {ix : Nat} (hd : decode bytes pc = .ok (.instanceof ix, 3)) (k : B.G h cl sl (mkF m pc' Ls (.int 0 :: st))) : B.G h cl sl (mkF m pc Ls (.null :: st)) := by
  subst hp
  exact B.viaX (fun vm0 hZ hO T t L X eT r => X.instanceofNull B.1 (g := mkF m pc Ls (.null :: st)) rfl rfl (hb B.2.1 hd) t r) k
theorem BaseW.aaload (B : BaseW p l e R s m args below meth c Z y bytes maxL ret h0 ws C) (pc' : Nat) (hp : pc' = pc + 1) (hd : decode bytes pc = .ok (.aaload, 1)) (A : Ary Z h a ty vs) (hty : ty.isReference = true) (hj : ¬ j < 0) (i : Nat) (hi : j.toNatClampNeg = i) (v : Value) (hv : vs[i]? = some v) (k : B.G h cl sl (mkF m pc' Ls (v :: st))) : B.G h cl sl (mkF m pc Ls (.int j :: .ref a :: st)) := by
  subst hp
  obtain ⟨c1, A, r⟩ := A
  obtain ⟨q1, q2⟩ := ary_in r hj hi hv
  exact B.viaX (fun vm0 hZ hO T t L X eT r => X.aaload (g := mkF m pc Ls (.int j :: .ref a :: st)) B.1 (by rw [eT]; exact A.1) (State.isArrayOf_alike (T := s.setVm vm0) hZ.alike A.2.1) hty A.2.2 q1 q2 rfl rfl (hb B.2.1 hd) t r) k
end Arrays
end Jvm.Own
namespace Jvm.Own
open Jvm Jvm.ClassFile Sem Op Lib Jvm.Free Jvm.Stand Jvm.LawKit Jvm.RoadKit
/-! THE WIDE LAYER, KNOWING THE VM: V of the vm as it stands, fr: nothing written yet -/
def BaseQ (p : Program) (l : Launch) (e : Env) (R : Room) (s : State) (m : MethodId) (args : Array Value) (below : List Frame) (meth : Method) (c : Code) (Z : State) (y : MethodName) (bytes : ByteArray) (maxL : Nat) (ret : Option FieldType) (h0 : Heap) (ws : List Addr) (C : Option Value → Heap → Prop) (fr : Bool) (V : Vm → Prop) : Prop :=
  p.tables.exec = Jvm.exec ∧ c.code = bytes ∧ c.maxLocals = maxL ∧ Z.Warmed39 s.vm ∧ s.vm.findClass y.cls = some m.cls ∧ meth.sig.returnType = ret ∧ meth.locks = false ∧ meth.name = y.name ∧ s.heap = h0
/-- a contract that asks that this launch's walk has interned nothing yet -/
def MetI (l : Launch) (Z : State) (y : MethodName) (bytes : ByteArray) (maxL : Nat) (ret : Option FieldType) (wds : List Jvm.Cond) (rm : Room) (as : Array Value) (h0 : Heap) (ws : List Addr) (C : Option Value → Heap → Prop) : Prop :=
  MetFree l y (head1 (Jvm.Cond.code y bytes maxL ret :: wds) rm) (fun a U => a = as ∧ Z.Warmed39 U.vm ∧ U.heap = h0 ∧ IB Z U.vm []) (fun _ _ _ _ _ => True) (fun _ U o U' => ∃ v L, o = .returned v ∧ Qw C ws h0 v U'.heap L ∧ ReturnedEndW U o U' L rm.cells rm.slots)
theorem backOfI {p : Program} {l : Launch} {e : Env} {R : Room} {s : State} {args : Array Value} {below : List Frame} {Z : State} {a0 : Array Value} {h : Heap} {y : MethodName} {bytes : ByteArray} {maxL : Nat} {ret : Option FieldType} {rm : Room} {len W : Nat} {as' : Array Value} {Q : Option Value → Heap → List Loc → Prop}
    (hM : MetFree l y (head1 [Cond.code y bytes maxL ret] rm) (fun a U => a = as' ∧ Z.Warmed39 U.vm ∧ U.heap = h ∧ IB Z U.vm []) (fun _ _ _ _ _ => True) (fun _ U o U' => ∃ v L, o = .returned v ∧ Q v U'.heap L ∧ ReturnedEndW U o U' L rm.cells rm.slots))
    (hZ : Z.Warmed39 s.vm) (hI : IB Z s.vm []) (wc : (Cond.code y bytes maxL ret).before a0 Z = true) (wz : (Cond.initialized y.cls).before a0 Z = true) (hf : rm.frames + 1 ≤ R.frames) (hl : W + (maxL + 11) + rm.locals ≤ R.locals) :
    BackS l R p e below s args y len W (fun A a => a = as' ∧ A.U.heap = h ∧ A.cells + rm.cells ≤ R.cells ∧ A.slots + rm.slots ≤ R.slots)
      (fun A _ v B => ∃ L, Q v B.U.heap L ∧ B.locs = A.locs ++ L ∧ B.cells = A.cells + rm.cells ∧ B.slots = A.slots + rm.slots) :=
  BackS.of_freeW (bytes := bytes) (maxL := maxL) (ret := ret) (E := fun _ _ o t L k n => k = rm.cells ∧ n = rm.slots ∧ ∃ v, o = .returned v ∧ Q v t.heap L) hM hf hl
    (fun m meth c A a Y hp => have hU : Z.Warmed39 A.U.vm := wtrans hZ Y.warmed
      ⟨by show (Cond.and _ .tt).before a A.U = true; rw [Cond.before_and, mv hU wc]; rfl, mv hU wc, mv hU wz, hp.2.2.1, hp.2.2.2⟩)
    (fun m meth c A a g mk Y hp => ⟨hp.1, wtrans hZ Y.warmed, hp.2.1, by
      obtain ⟨more, e1, e2⟩ := hI
      exact ⟨more, Y.warmed.interned_eq.trans e1, e2⟩⟩) (fun _ _ _ _ _ _ _ _ _ => trivial)
    (fun _ _ _ _ ⟨v, L, h1, h2, h3⟩ => ⟨L, _, _, h3, rfl, rfl, v, h1, h2⟩)
    (fun m meth c A a g mk v t L k n Y hp _ _ ⟨e1, e2, v', e3, e4⟩ => by cases e3; subst e1 e2; exact ⟨L, e4, rfl, rfl, rfl⟩)
section Walk
variable {p : Program} {l : Launch} {e : Env} {R : Room} {s : State} {m : MethodId} {args : Array Value} {below : List Frame} {meth : Method} {c : Code} {Z : State} {a0 : Array Value} {y : MethodName} {bytes : ByteArray} {maxL : Nat} {ret : Option FieldType} {h0 : Heap} {ws : List Addr} {C : Option Value → Heap → Prop} {fr : Bool} {V : Vm → Prop}
def BaseQ.G (B : BaseQ p l e R s m args below meth c Z y bytes maxL ret h0 ws C fr V) (h : Heap) (cl sl : Nat) (g : JFrame) : Prop :=
  ∀ (vm0 : Vm) (k0 : Nat) (T : State) (locs : List Loc), Stand p l e R (s.setVm vm0) m args below meth c T locs cl sl → s.Since vm0 k0 → k0 ≤ h.size → Frw ws h0.size locs → T.heap = h → V vm0 → (fr = true → locs = []) → ∃ (t : State) (o : Outcome), Steps p.tables e below (T.setTop g) t ∧ t.status = .running ∧ Ended t below o ∧ ∃ v L, o = .returned v ∧ Qw C ws h0 v t.heap L ∧ ReturnedEndW s o t L R.cells R.slots
variable {h : Heap} {cl sl : Nat} {g g' : JFrame} {pc : Nat} {Ls : Array Slot} {st : List Value}
theorem BaseQ.warm (B : BaseQ p l e R s m args below meth c Z y bytes maxL ret h0 ws C fr V) {vm0 : Vm} {k0 : Nat} (hS : s.Since vm0 k0) : Z.Warmed39 (s.setVm vm0).vm := State.Warmed39.trans B.2.2.2.1 hS.1
theorem BaseQ.own (B : BaseQ p l e R s m args below meth c Z y bytes maxL ret h0 ws C fr V) {vm0 : Vm} {k0 : Nat} (hS : s.Since vm0 k0) : (s.setVm vm0).vm.findClass y.cls = some m.cls := (hS.1.alike.findClass _ _).trans B.2.2.2.2.1
theorem BaseQ.via (B : BaseQ p l e R s m args below meth c Z y bytes maxL ret h0 ws C fr V) (st : ∀ (T t : State), At T m c below → Steps p.tables e below (T.setTop g') t → Steps p.tables e below (T.setTop g) t) (k : B.G h cl sl g') : B.G h cl sl g := fun vm0 k0 T locs X hS hk N eT hV hF => by
  obtain ⟨t, o, q, r⟩ := k vm0 k0 T locs X hS hk N eT hV hF
  exact ⟨t, o, st T t X.here q, r⟩
theorem BaseQ.viaX (B : BaseQ p l e R s m args below meth c Z y bytes maxL ret h0 ws C fr V) (st : ∀ (vm0 : Vm), Z.Warmed39 (s.setVm vm0).vm → (s.setVm vm0).vm.findClass y.cls = some m.cls → ∀ (T t : State) (locs : List Loc), Stand p l e R (s.setVm vm0) m args below meth c T locs cl sl → T.heap = h → Steps p.tables e below (T.setTop g') t → Steps p.tables e below (T.setTop g) t) (k : B.G h cl sl g') : B.G h cl sl g := fun vm0 k0 T locs X hS hk N eT hV hF => by
  obtain ⟨t, o, q, r⟩ := k vm0 k0 T locs X hS hk N eT hV hF
  exact ⟨t, o, st vm0 (B.warm hS) (B.own hS) T t locs X eT q, r⟩
theorem BaseQ.leave (B : BaseQ p l e R s m args below meth c Z y bytes maxL ret h0 ws C fr V) (hcl : cl ≤ R.cells) (hsl : sl ≤ R.slots) {v : Option Value} (hv : meth.sig.returnType = none → v = none) (hC : C v h)
    (st : ∀ (vm0 : Vm) (T : State) (locs : List Loc) (fs : List Frame), Stand p l e R (s.setVm vm0) m args below meth c T locs cl sl → (∀ (f : JFrame) (acts : List Action), f.method = m → f.locked = none → f.entered = [] → (doReturn e (T.setTop f) acts v).1 = T.setFrames fs) → Steps p.tables e below (T.setTop g) (T.setFrames fs)) : B.G h cl sl g := fun vm0 k0 T locs X hS hk N eT hV hF => by
  have hlk : meth.locks = false := B.2.2.2.2.2.2.1
  obtain ⟨fs, hr, hrun, hended, hv0, hW, hI, hsame⟩ := X.leaveW hS (by rw [eT]; exact hk) (v := v) hv hlk
  have e0 := B.2.2.2.2.2.2.2.2
  refine ⟨_, _, st vm0 T locs fs X hr, hrun, hended, _, _, rfl, ⟨?_, N, ?_⟩, ⟨_, rfl⟩, hW, hI, hsame.mono hcl hsl⟩
  · show C v T.heap
    rw [eT]; exact hC
  · show Keep h0 T.heap ws
    rw [← e0] at N ⊢
    exact keep_of (s := s.setVm vm0) X N
theorem BaseQ.size (B : BaseQ p l e R s m args below meth c Z y bytes maxL ret h0 ws C fr V) {vm0 : Vm} {T : State} {locs : List Loc} (X : Stand p l e R (s.setVm vm0) m args below meth c T locs cl sl) : h0.size ≤ T.heap.size := by
  have q : s.heap.size ≤ T.heap.size := X.same.2.1
  rw [B.2.2.2.2.2.2.2.2] at q; exact q
theorem BaseQ.grown (B : BaseQ p l e R s m args below meth c Z y bytes maxL ret h0 ws C fr V) (k : h0.size ≤ h.size → B.G h cl sl g) : B.G h cl sl g := fun vm0 k0 T locs X hS hk N eT hV hF => k (by rw [← eT]; exact B.size X) vm0 k0 T locs X hS hk N eT hV hF
theorem BaseQ.olds (B : BaseQ p l e R s m args below meth c Z y bytes maxL ret h0 [] C fr V) (k : Ext h0 h → B.G h cl sl g) : B.G h cl sl g := fun vm0 k0 T locs X hS hk N eT hV hF => by
  refine k ?_ vm0 k0 T locs X hS hk N eT hV hF
  have e0 := B.2.2.2.2.2.2.2.2
  have N' := N
  rw [← e0] at N'
  have q : Keep s.heap T.heap [] := keep_of (s := s.setVm vm0) X N'
  rw [e0, eT] at q
  exact ⟨q.1, fun a c hc => q.2.1 a c hc (by simp)⟩
/-! 1. steps that touch no heap -/
theorem MetI.walk (hpn : plainFor y = true) {as : Array Value} {rm : Room} {wds : List Jvm.Cond} (hef : ∀ m, entryFrame m as maxL = mkF m 0 Ls [])
    (body : ∀ (p : Program) (e : Env) (s : State) (m : MethodId) (below : List Frame) (meth : Method) (c : Code) (B : BaseQ p l e rm s m as below meth c Z y bytes maxL ret h0 ws C true (fun vm => IB Z vm [])), B.G h0 0 0 (mkF m 0 Ls [])) : MetI l Z y bytes maxL ret wds rm as h0 ws C := by
  refine MetFree.of_bodySF hpn hisR ?_
  intro p e s m args below meth c s₁ Bd hml0 hP hK
  obtain ⟨rfl, hZ, hh, hI⟩ := hP
  have X0 : Stand p l e rm s m args below meth c s₁ [] 0 0 := Stand.of_body Bd
  have e0 : s₁.heap = h0 := by rw [← hh, Bd.state]; rfl
  obtain ⟨t, o, q, r⟩ := body p e s m below meth c ⟨Bd.exec, Bd.bytes, hml0, hZ, findClass_of_methodNamed Bd.named, Bd.returns, Bd.notSynchronized, (name_of_methodNamed Bd.named Bd.method).1, hh⟩ s.vm s.heap.size s₁ [] X0 ((State.WarmedH.refl s).since _) (by rw [hh]; exact Nat.le_refl _) (Frw.nil _ _) e0 hI (fun _ => rfl)
  exact ⟨t, o, castTop (hef m) q, r⟩
theorem BaseQ.weak (B : BaseQ p l e R s m args below meth c Z y bytes maxL ret h0 ws C fr V) (k : ∀ B' : BaseQ p l e R s m args below meth c Z y bytes maxL ret h0 ws C false V, B'.G h cl sl g) : B.G h cl sl g := fun vm0 k0 T locs X hS hk N eT hV _ => k B vm0 k0 T locs X hS hk N eT hV (fun q => nomatch q)
theorem BaseQ.toW (B : BaseQ p l e R s m args below meth c Z y bytes maxL ret h0 ws C fr V) (k : ∀ B' : BaseW p l e R s m args below meth c Z y bytes maxL ret h0 ws C, B'.G h cl sl g) : B.G h cl sl g := fun vm0 k0 T locs X hS hk N eT _ _ => k B vm0 k0 T locs X hS hk N eT
/-- the empty String constant, first loaded -/
theorem BaseQ.ldcE (B : BaseQ p l e R s m args below meth c Z y bytes maxL ret h0 ws C true (fun vm => IB Z vm [])) (pc' : Nat) (hp : pc' = pc + 2) {i : Nat} (hd : decode bytes pc = .ok (.ldc i, 2)) (w : (Cond.stringLink y.cls i "").before a0 Z = true) (wS : ∀ a ∈ Bundle.stringAtoms, a.before a0 Z = true) (hh : Jvm.Lit.constHeld Z y.cls i) (hcw : Jvm.Lit.compactW.before a0 Z = true) (hkeep : ∀ (b : Addr) (cl : Cell), Z.heap[b]? = some cl → h0[b]? = some cl)
    (hc : cl + 2 ≤ R.cells) (hs : sl + (0 + 4) ≤ R.slots)
    (k : ∀ (a b : Addr) (h' : Heap) (B' : BaseQ p l e R s m args below meth c Z y bytes maxL ret h0 ws C false (fun vm => Lit (s.setVm vm) y.cls i a)), Ext h h' → Exa Z h' a "java/lang/String" → Fld Z h' a "java/lang/String" "coder" "B" (.int 0) → Fld Z h' a "java/lang/String" "value" "[B" (.ref b) → Ary Z h' b .byte [] → B'.G h' (cl + 2) (sl + (0 + 4)) (mkF m pc' Ls (.ref a :: st))) : B.G h cl sl (mkF m pc Ls st) := fun vm0 k0 T locs X hS hk N eT hV hF => by
  subst hp
  have e0 : s.heap = h0 := B.2.2.2.2.2.2.2.2
  have hl0 := hF rfl
  subst hl0
  obtain ⟨a, T', h', k1, b, kk, X', e', E, hS', hk', -, -, q1, q2, q3, ⟨cb, A1, -, sz, -, -, -⟩, -, -, -, L1, stp⟩ := ldcSVL X B.1 (B.warm hS) (B.own hS) w wS eT hS hk (fun _ q => nomatch q) (by rw [e0]; exact hkeep) hV (by simp) hh hcw (vs := []) (z := 0) ⟨fun c hc => by simp at hc, rfl⟩ (by decide) rfl (g := mkF m pc Ls st) rfl (hb B.2.1 hd) (n := 0) (by decide) (by decide) hc hs
  have hA : Ary Z h' b .byte [] := ⟨cb, A1, by apply List.eq_nil_of_length_eq_zero; rw [Array.length_toList, sz]; rfl⟩
  obtain ⟨t, o, q, r⟩ := k a b h' B E q1 q2 q3 hA _ k1 T' [] X' hS' hk' N e' L1 (fun q => nomatch q)
  exact ⟨t, o, stp _ q, r⟩
/-- a String constant loaded again -/
theorem BaseQ.ldcA {i : Nat} {a : Addr} (B : BaseQ p l e R s m args below meth c Z y bytes maxL ret h0 ws C fr (fun vm => Lit (s.setVm vm) y.cls i a)) (pc' : Nat) (hp : pc' = pc + 2) {text : String} (hd : decode bytes pc = .ok (.ldc i, 2)) (w : (Cond.stringLink y.cls i text).before a0 Z = true) (k : B.G h cl sl (mkF m pc' Ls (.ref a :: st))) : B.G h cl sl (mkF m pc Ls st) := fun vm0 k0 T locs X hS hk N eT hV hF => by
  subst hp
  obtain ⟨t, o, q, r⟩ := k vm0 k0 T locs X hS hk N eT hV hF
  exact ⟨t, o, ldcAgain X B.1 (B.warm hS) (B.own hS) w hV (g := mkF m pc Ls st) rfl (hb B.2.1 hd) _ q, r⟩
theorem BaseQ.aloadN (B : BaseQ p l e R s m args below meth c Z y bytes maxL ret h0 ws C fr V) (pc' : Nat) (hp : pc' = pc + 1) {i : Fin 4} (hd : decode bytes pc = .ok (.aload_n i, 1)) {v : Value} (hl : Ls[i.val]? = some (.val v)) (hv : v.isRef = true) (k : B.G h cl sl (mkF m pc' Ls (v :: st))) : B.G h cl sl (mkF m pc Ls st) := by
  subst hp; exact B.via (fun T t X r => XS.aloadN X B.1 rfl (hb B.2.1 hd) hl hv r) k
theorem BaseQ.aload (B : BaseQ p l e R s m args below meth c Z y bytes maxL ret h0 ws C fr V) (pc' : Nat) (hp : pc' = pc + 2) {i : Nat} (hd : decode bytes pc = .ok (.aload i, 2)) {v : Value} (hl : Ls[i]? = some (.val v)) (hv : v.isRef = true) (k : B.G h cl sl (mkF m pc' Ls (v :: st))) : B.G h cl sl (mkF m pc Ls st) := by
  subst hp; exact B.via (fun T t X r => XS.aload X B.1 rfl (hb B.2.1 hd) hl hv r) k
theorem BaseQ.iloadN (B : BaseQ p l e R s m args below meth c Z y bytes maxL ret h0 ws C fr V) (pc' : Nat) (hp : pc' = pc + 1) {i : Fin 4} (hd : decode bytes pc = .ok (.iload_n i, 1)) {v : Int32} (hl : Ls[i.val]? = some (.val (.int v))) (k : B.G h cl sl (mkF m pc' Ls (.int v :: st))) : B.G h cl sl (mkF m pc Ls st) := by
  subst hp; exact B.via (fun T t X r => XS.iloadN X B.1 rfl (hb B.2.1 hd) hl r) k
theorem BaseQ.iload (B : BaseQ p l e R s m args below meth c Z y bytes maxL ret h0 ws C fr V) (pc' : Nat) (hp : pc' = pc + 2) {i : Nat} (hd : decode bytes pc = .ok (.iload i, 2)) {v : Int32} (hl : Ls[i]? = some (.val (.int v))) (k : B.G h cl sl (mkF m pc' Ls (.int v :: st))) : B.G h cl sl (mkF m pc Ls st) := by
  subst hp; exact B.via (fun T t X r => XS.iload X B.1 rfl (hb B.2.1 hd) hl r) k
theorem BaseQ.lloadN (B : BaseQ p l e R s m args below meth c Z y bytes maxL ret h0 ws C fr V) (pc' : Nat) (hp : pc' = pc + 1) {i : Fin 4} (hd : decode bytes pc = .ok (.lload_n i, 1)) {v : Int64} (hl : Ls[i.val]? = some (.val (.long v))) (k : B.G h cl sl (mkF m pc' Ls (.long v :: st))) : B.G h cl sl (mkF m pc Ls st) := by
  subst hp; exact B.via (fun T t X r => XT.lloadN X B.1 rfl (hb B.2.1 hd) hl r) k
theorem BaseQ.lload (B : BaseQ p l e R s m args below meth c Z y bytes maxL ret h0 ws C fr V) (pc' : Nat) (hp : pc' = pc + 2) {i : Nat} (hd : decode bytes pc = .ok (.lload i, 2)) {v : Int64} (hl : Ls[i]? = some (.val (.long v))) (k : B.G h cl sl (mkF m pc' Ls (.long v :: st))) : B.G h cl sl (mkF m pc Ls st) := by
  subst hp; exact B.via (fun T t X r => XT.lload X B.1 rfl (hb B.2.1 hd) hl r) k
theorem BaseQ.istoreN (B : BaseQ p l e R s m args below meth c Z y bytes maxL ret h0 ws C fr V) (pc' : Nat) (hp : pc' = pc + 1) {i : Fin 4} {x : Int32} (hd : decode bytes pc = .ok (.istore_n i, 1)) (Ls' : Array Slot) (hl : storeLocals Ls i.val (.int x) = some Ls') (k : B.G h cl sl (mkF m pc' Ls' st)) : B.G h cl sl (mkF m pc Ls (.int x :: st)) := by
  subst hp; exact B.via (fun T t X r => XS.istoreN X B.1 rfl (hb B.2.1 hd) rfl hl r) k
theorem BaseQ.istore (B : BaseQ p l e R s m args below meth c Z y bytes maxL ret h0 ws C fr V) (pc' : Nat) (hp : pc' = pc + 2) {i : Nat} {x : Int32} (hd : decode bytes pc = .ok (.istore i, 2)) (Ls' : Array Slot) (hl : storeLocals Ls i (.int x) = some Ls') (k : B.G h cl sl (mkF m pc' Ls' st)) : B.G h cl sl (mkF m pc Ls (.int x :: st)) := by
  subst hp; exact B.via (fun T t X r => XS.istore X B.1 rfl (hb B.2.1 hd) rfl hl r) k
theorem BaseQ.lstoreN (B : BaseQ p l e R s m args below meth c Z y bytes maxL ret h0 ws C fr V) (pc' : Nat) (hp : pc' = pc + 1) {i : Fin 4} {x : Int64} (hd : decode bytes pc = .ok (.lstore_n i, 1)) (Ls' : Array Slot) (hl : storeLocals Ls i.val (.long x) = some Ls') (k : B.G h cl sl (mkF m pc' Ls' st)) : B.G h cl sl (mkF m pc Ls (.long x :: st)) := by
  subst hp; exact B.via (fun T t X r => XT.lstoreN X B.1 rfl (hb B.2.1 hd) rfl hl r) k
theorem BaseQ.lstore (B : BaseQ p l e R s m args below meth c Z y bytes maxL ret h0 ws C fr V) (pc' : Nat) (hp : pc' = pc + 2) {i : Nat} {x : Int64} (hd : decode bytes pc = .ok (.lstore i, 2)) (Ls' : Array Slot) (hl : storeLocals Ls i (.long x) = some Ls') (k : B.G h cl sl (mkF m pc' Ls' st)) : B.G h cl sl (mkF m pc Ls (.long x :: st)) := by
  subst hp; exact B.via (fun T t X r => XT.lstore X B.1 rfl (hb B.2.1 hd) rfl hl r) k
theorem BaseQ.astoreN (B : BaseQ p l e R s m args below meth c Z y bytes maxL ret h0 ws C fr V) (pc' : Nat) (hp : pc' = pc + 1) {i : Fin 4} {x : Value} (hd : decode bytes pc = .ok (.astore_n i, 1)) (hv : x.isRef = true) (Ls' : Array Slot) (hl : storeLocals Ls i.val x = some Ls') (k : B.G h cl sl (mkF m pc' Ls' st)) : B.G h cl sl (mkF m pc Ls (x :: st)) := by
  subst hp; exact B.via (fun T t X r => XS.astoreN X B.1 rfl (hb B.2.1 hd) rfl hv hl r) k
theorem BaseQ.astore (B : BaseQ p l e R s m args below meth c Z y bytes maxL ret h0 ws C fr V) (pc' : Nat) (hp : pc' = pc + 2) {i : Nat} {x : Value} (hd : decode bytes pc = .ok (.astore i, 2)) (hv : x.isRef = true) (Ls' : Array Slot) (hl : storeLocals Ls i x = some Ls') (k : B.G h cl sl (mkF m pc' Ls' st)) : B.G h cl sl (mkF m pc Ls (x :: st)) := by
  subst hp; exact B.via (fun T t X r => XS.astore X B.1 rfl (hb B.2.1 hd) rfl hv hl r) k
theorem BaseQ.iinc (B : BaseQ p l e R s m args below meth c Z y bytes maxL ret h0 ws C fr V) (pc' : Nat) (hp : pc' = pc + 3) {i : Nat} {cst : Int} (v : Int32) {x : Int32} (hd : decode bytes pc = .ok (.iinc i cst, 3)) (hv : Int32.ofInt cst = v) (hl : Ls[i]? = some (.val (.int x))) (Ls' : Array Slot) (hl' : storeLocals Ls i (.int (x + v)) = some Ls') (k : B.G h cl sl (mkF m pc' Ls' st)) : B.G h cl sl (mkF m pc Ls st) := by
  subst hp hv; exact B.via (fun T t X r => XS.iinc X B.1 rfl (hb B.2.1 hd) hl hl' r) k
theorem BaseQ.iconst (B : BaseQ p l e R s m args below meth c Z y bytes maxL ret h0 ws C fr V) (pc' : Nat) (hp : pc' = pc + 1) {i : Int} (v : Int32) (hd : decode bytes pc = .ok (.iconst i, 1)) (hv : Int32.ofInt i = v) (k : B.G h cl sl (mkF m pc' Ls (.int v :: st))) : B.G h cl sl (mkF m pc Ls st) := by
  subst hp hv; exact B.via (fun T t X r => XS.iconst X B.1 rfl (hb B.2.1 hd) r) k
theorem BaseQ.bipush (B : BaseQ p l e R s m args below meth c Z y bytes maxL ret h0 ws C fr V) (pc' : Nat) (hp : pc' = pc + 2) {i : Int} (v : Int32) (hd : decode bytes pc = .ok (.bipush i, 2)) (hv : (Int8.ofInt i).toInt32 = v) (k : B.G h cl sl (mkF m pc' Ls (.int v :: st))) : B.G h cl sl (mkF m pc Ls st) := by
  subst hp hv; exact B.via (fun T t X r => XS.bipush X B.1 rfl (hb B.2.1 hd) r) k
theorem BaseQ.sipush (B : BaseQ p l e R s m args below meth c Z y bytes maxL ret h0 ws C fr V) (pc' : Nat) (hp : pc' = pc + 3) {i : Int} (v : Int32) (hd : decode bytes pc = .ok (.sipush i, 3)) (hv : (Int16.ofInt i).toInt32 = v) (k : B.G h cl sl (mkF m pc' Ls (.int v :: st))) : B.G h cl sl (mkF m pc Ls st) := by
  subst hp hv; exact B.via (fun T t X r => XS.sipush X B.1 rfl (hb B.2.1 hd) r) k
theorem BaseQ.lconst (B : BaseQ p l e R s m args below meth c Z y bytes maxL ret h0 ws C fr V) (pc' : Nat) (hp : pc' = pc + 1) {i : Fin 2} (v : Int64) (hd : decode bytes pc = .ok (.lconst i, 1)) (hv : Int64.ofNat i = v) (k : B.G h cl sl (mkF m pc' Ls (.long v :: st))) : B.G h cl sl (mkF m pc Ls st) := by
  subst hp hv; exact B.via (fun T t X r => XT.lconst X B.1 rfl (hb B.2.1 hd) r) k
theorem BaseQ.aconstNull (B : BaseQ p l e R s m args below meth c Z y bytes maxL ret h0 ws C fr V) (pc' : Nat) (hp : pc' = pc + 1) (hd : decode bytes pc = .ok (.aconst_null, 1)) (k : B.G h cl sl (mkF m pc' Ls (.null :: st))) : B.G h cl sl (mkF m pc Ls st) := by
  subst hp; exact B.via (fun T t X r => XS.aconstNull X B.1 rfl (hb B.2.1 hd) r) k
theorem BaseQ.ldcI (B : BaseQ p l e R s m args below meth c Z y bytes maxL ret h0 ws C fr V) (pc' : Nat) (hp : pc' = pc + 2) {i : Nat} {v : Int32} (hd : decode bytes pc = .ok (.ldc i, 2)) (w : (Cond.constant y.cls i v).before a0 Z = true) (k : B.G h cl sl (mkF m pc' Ls (.int v :: st))) : B.G h cl sl (mkF m pc Ls st) := by
  subst hp; exact B.viaX (fun vm0 hZ hO T t L X _ r => X.ldcI B.1 hO (mv hZ w) rfl (hb B.2.1 hd) r) k
theorem BaseQ.ldcWI (B : BaseQ p l e R s m args below meth c Z y bytes maxL ret h0 ws C fr V) (pc' : Nat) (hp : pc' = pc + 3) {i : Nat} {v : Int32} (hd : decode bytes pc = .ok (.ldc_w i, 3)) (w : (Cond.constant y.cls i v).before a0 Z = true) (k : B.G h cl sl (mkF m pc' Ls (.int v :: st))) : B.G h cl sl (mkF m pc Ls st) := by
  subst hp; exact B.viaX (fun vm0 hZ hO T t L X _ r => X.ldcWI B.1 hO (mv hZ w) rfl (hb B.2.1 hd) r) k
theorem BaseQ.ldc2J (B : BaseQ p l e R s m args below meth c Z y bytes maxL ret h0 ws C fr V) (pc' : Nat) (hp : pc' = pc + 3) {i : Nat} {v : Int64} (hd : decode bytes pc = .ok (.ldc2_w i, 3)) (w : (Cond.constantLong y.cls i v).before a0 Z = true) (k : B.G h cl sl (mkF m pc' Ls (.long v :: st))) : B.G h cl sl (mkF m pc Ls st) := by
  subst hp; exact B.viaX (fun vm0 hZ hO T t L X _ r => X.ldc2J B.1 hO (mv hZ w) rfl (hb B.2.1 hd) r) k
theorem BaseQ.goto (B : BaseQ p l e R s m args below meth c Z y bytes maxL ret h0 ws C fr V) (pc' : Nat) {o : Int} (hp : ((pc : Int) + o).toNat = pc') (ho : 0 ≤ (pc : Int) + o) (hd : decode bytes pc = .ok (.goto o, 3)) (k : B.G h cl sl (mkF m pc' Ls st)) : B.G h cl sl (mkF m pc Ls st) :=
  B.via (fun T t X r => XS.goto X B.1 rfl rfl (hb B.2.1 hd) ho hp r) k
theorem BaseQ.dup (B : BaseQ p l e R s m args below meth c Z y bytes maxL ret h0 ws C fr V) (pc' : Nat) (hp : pc' = pc + 1) {x : Value} (hd : decode bytes pc = .ok (.dup, 1)) (hc : x.category = 1) (k : B.G h cl sl (mkF m pc' Ls (x :: x :: st))) : B.G h cl sl (mkF m pc Ls (x :: st)) := by
  subst hp; exact B.via (fun T t X r => XS.dup X B.1 rfl (hb B.2.1 hd) rfl hc r) k
theorem BaseQ.pop (B : BaseQ p l e R s m args below meth c Z y bytes maxL ret h0 ws C fr V) (pc' : Nat) (hp : pc' = pc + 1) {x : Value} (hd : decode bytes pc = .ok (.pop, 1)) (hc : x.category = 1) (k : B.G h cl sl (mkF m pc' Ls st)) : B.G h cl sl (mkF m pc Ls (x :: st)) := by
  subst hp; exact B.via (fun T t X r => XT.pop X B.1 rfl (hb B.2.1 hd) rfl hc r) k
theorem BaseQ.dupX1 (B : BaseQ p l e R s m args below meth c Z y bytes maxL ret h0 ws C fr V) (pc' : Nat) (hp : pc' = pc + 1) {x z : Value} (hd : decode bytes pc = .ok (.dup_x1, 1)) (hc : x.category = 1) (hc' : z.category = 1) (k : B.G h cl sl (mkF m pc' Ls (x :: z :: x :: st))) : B.G h cl sl (mkF m pc Ls (x :: z :: st)) := by
  subst hp; exact B.via (fun T t X r => XT.dupX1 X B.1 rfl (hb B.2.1 hd) rfl hc hc' r) k
theorem BaseQ.dup2 (B : BaseQ p l e R s m args below meth c Z y bytes maxL ret h0 ws C fr V) (pc' : Nat) (hp : pc' = pc + 1) {x z : Value} (hd : decode bytes pc = .ok (.dup2, 1)) (hc : x.category = 1) (hc' : z.category = 1) (k : B.G h cl sl (mkF m pc' Ls (x :: z :: x :: z :: st))) : B.G h cl sl (mkF m pc Ls (x :: z :: st)) := by
  subst hp; exact B.via (fun T t X r => XT.dup2 X B.1 rfl (hb B.2.1 hd) rfl hc hc' r) k
theorem BaseQ.iadd (B : BaseQ p l e R s m args below meth c Z y bytes maxL ret h0 ws C fr V) (pc' : Nat) (hp : pc' = pc + 1) {x : Int32} {z : Int32} (hd : decode bytes pc = .ok (.iadd, 1)) (k : B.G h cl sl (mkF m pc' Ls (.int (x + z) :: st))) : B.G h cl sl (mkF m pc Ls (.int z :: .int x :: st)) := by
  subst hp; exact B.via (fun T t X r => XS.iadd X B.1 rfl (hb B.2.1 hd) rfl r) k
theorem BaseQ.isub (B : BaseQ p l e R s m args below meth c Z y bytes maxL ret h0 ws C fr V) (pc' : Nat) (hp : pc' = pc + 1) {x : Int32} {z : Int32} (hd : decode bytes pc = .ok (.isub, 1)) (k : B.G h cl sl (mkF m pc' Ls (.int (x - z) :: st))) : B.G h cl sl (mkF m pc Ls (.int z :: .int x :: st)) := by
  subst hp; exact B.via (fun T t X r => XS.isub X B.1 rfl (hb B.2.1 hd) rfl r) k
theorem BaseQ.iand (B : BaseQ p l e R s m args below meth c Z y bytes maxL ret h0 ws C fr V) (pc' : Nat) (hp : pc' = pc + 1) {x : Int32} {z : Int32} (hd : decode bytes pc = .ok (.iand, 1)) (k : B.G h cl sl (mkF m pc' Ls (.int (x &&& z) :: st))) : B.G h cl sl (mkF m pc Ls (.int z :: .int x :: st)) := by
  subst hp; exact B.via (fun T t X r => XS.iand X B.1 rfl (hb B.2.1 hd) rfl r) k
theorem BaseQ.imul (B : BaseQ p l e R s m args below meth c Z y bytes maxL ret h0 ws C fr V) (pc' : Nat) (hp : pc' = pc + 1) {x : Int32} {z : Int32} (hd : decode bytes pc = .ok (.imul, 1)) (k : B.G h cl sl (mkF m pc' Ls (.int (x * z) :: st))) : B.G h cl sl (mkF m pc Ls (.int z :: .int x :: st)) := by
  subst hp; exact B.via (fun T t X r => XS.imul X B.1 rfl (hb B.2.1 hd) rfl r) k
theorem BaseQ.ixor (B : BaseQ p l e R s m args below meth c Z y bytes maxL ret h0 ws C fr V) (pc' : Nat) (hp : pc' = pc + 1) {x : Int32} {z : Int32} (hd : decode bytes pc = .ok (.ixor, 1)) (k : B.G h cl sl (mkF m pc' Ls (.int (x ^^^ z) :: st))) : B.G h cl sl (mkF m pc Ls (.int z :: .int x :: st)) := by
  subst hp; exact B.via (fun T t X r => XT.ixor X B.1 rfl (hb B.2.1 hd) rfl r) k
theorem BaseQ.ior (B : BaseQ p l e R s m args below meth c Z y bytes maxL ret h0 ws C fr V) (pc' : Nat) (hp : pc' = pc + 1) {x : Int32} {z : Int32} (hd : decode bytes pc = .ok (.ior, 1)) (k : B.G h cl sl (mkF m pc' Ls (.int (x ||| z) :: st))) : B.G h cl sl (mkF m pc Ls (.int z :: .int x :: st)) := by
  subst hp; exact B.via (fun T t X r => XT.ior X B.1 rfl (hb B.2.1 hd) rfl r) k
theorem BaseQ.ishl (B : BaseQ p l e R s m args below meth c Z y bytes maxL ret h0 ws C fr V) (pc' : Nat) (hp : pc' = pc + 1) {x : Int32} {z : Int32} (hd : decode bytes pc = .ok (.ishl, 1)) (k : B.G h cl sl (mkF m pc' Ls (.int (x <<< (z &&& 31)) :: st))) : B.G h cl sl (mkF m pc Ls (.int z :: .int x :: st)) := by
  subst hp; exact B.via (fun T t X r => XT.ishl X B.1 rfl (hb B.2.1 hd) rfl r) k
theorem BaseQ.ishr (B : BaseQ p l e R s m args below meth c Z y bytes maxL ret h0 ws C fr V) (pc' : Nat) (hp : pc' = pc + 1) {x : Int32} {z : Int32} (hd : decode bytes pc = .ok (.ishr, 1)) (k : B.G h cl sl (mkF m pc' Ls (.int (x >>> (z &&& 31)) :: st))) : B.G h cl sl (mkF m pc Ls (.int z :: .int x :: st)) := by
  subst hp; exact B.via (fun T t X r => XT.ishr X B.1 rfl (hb B.2.1 hd) rfl r) k
theorem BaseQ.iushr (B : BaseQ p l e R s m args below meth c Z y bytes maxL ret h0 ws C fr V) (pc' : Nat) (hp : pc' = pc + 1) {x : Int32} {z : Int32} (hd : decode bytes pc = .ok (.iushr, 1)) (k : B.G h cl sl (mkF m pc' Ls (.int (XT.ushr x z) :: st))) : B.G h cl sl (mkF m pc Ls (.int z :: .int x :: st)) := by
  subst hp; exact B.via (fun T t X r => XT.iushr X B.1 rfl (hb B.2.1 hd) rfl r) k
theorem BaseQ.ladd (B : BaseQ p l e R s m args below meth c Z y bytes maxL ret h0 ws C fr V) (pc' : Nat) (hp : pc' = pc + 1) {x : Int64} {z : Int64} (hd : decode bytes pc = .ok (.ladd, 1)) (k : B.G h cl sl (mkF m pc' Ls (.long (x + z) :: st))) : B.G h cl sl (mkF m pc Ls (.long z :: .long x :: st)) := by
  subst hp; exact B.via (fun T t X r => XT.ladd X B.1 rfl (hb B.2.1 hd) rfl r) k
theorem BaseQ.lsub (B : BaseQ p l e R s m args below meth c Z y bytes maxL ret h0 ws C fr V) (pc' : Nat) (hp : pc' = pc + 1) {x : Int64} {z : Int64} (hd : decode bytes pc = .ok (.lsub, 1)) (k : B.G h cl sl (mkF m pc' Ls (.long (x - z) :: st))) : B.G h cl sl (mkF m pc Ls (.long z :: .long x :: st)) := by
  subst hp; exact B.via (fun T t X r => XT.lsub X B.1 rfl (hb B.2.1 hd) rfl r) k
theorem BaseQ.lmul (B : BaseQ p l e R s m args below meth c Z y bytes maxL ret h0 ws C fr V) (pc' : Nat) (hp : pc' = pc + 1) {x : Int64} {z : Int64} (hd : decode bytes pc = .ok (.lmul, 1)) (k : B.G h cl sl (mkF m pc' Ls (.long (x * z) :: st))) : B.G h cl sl (mkF m pc Ls (.long z :: .long x :: st)) := by
  subst hp; exact B.via (fun T t X r => XT.lmul X B.1 rfl (hb B.2.1 hd) rfl r) k
theorem BaseQ.land (B : BaseQ p l e R s m args below meth c Z y bytes maxL ret h0 ws C fr V) (pc' : Nat) (hp : pc' = pc + 1) {x : Int64} {z : Int64} (hd : decode bytes pc = .ok (.land, 1)) (k : B.G h cl sl (mkF m pc' Ls (.long (x &&& z) :: st))) : B.G h cl sl (mkF m pc Ls (.long z :: .long x :: st)) := by
  subst hp; exact B.via (fun T t X r => XT.land X B.1 rfl (hb B.2.1 hd) rfl r) k
theorem BaseQ.lor (B : BaseQ p l e R s m args below meth c Z y bytes maxL ret h0 ws C fr V) (pc' : Nat) (hp : pc' = pc + 1) {x : Int64} {z : Int64} (hd : decode bytes pc = .ok (.lor, 1)) (k : B.G h cl sl (mkF m pc' Ls (.long (x ||| z) :: st))) : B.G h cl sl (mkF m pc Ls (.long z :: .long x :: st)) := by
  subst hp; exact B.via (fun T t X r => XT.lor X B.1 rfl (hb B.2.1 hd) rfl r) k
theorem BaseQ.lxor (B : BaseQ p l e R s m args below meth c Z y bytes maxL ret h0 ws C fr V) (pc' : Nat) (hp : pc' = pc + 1) {x : Int64} {z : Int64} (hd : decode bytes pc = .ok (.lxor, 1)) (k : B.G h cl sl (mkF m pc' Ls (.long (x ^^^ z) :: st))) : B.G h cl sl (mkF m pc Ls (.long z :: .long x :: st)) := by
  subst hp; exact B.via (fun T t X r => XT.lxor X B.1 rfl (hb B.2.1 hd) rfl r) k
theorem BaseQ.lshl (B : BaseQ p l e R s m args below meth c Z y bytes maxL ret h0 ws C fr V) (pc' : Nat) (hp : pc' = pc + 1) {x : Int64} {z : Int32} (hd : decode bytes pc = .ok (.lshl, 1)) (k : B.G h cl sl (mkF m pc' Ls (.long (x <<< (z.toInt64 &&& 63)) :: st))) : B.G h cl sl (mkF m pc Ls (.int z :: .long x :: st)) := by
  subst hp; exact B.via (fun T t X r => XT.lshl X B.1 rfl (hb B.2.1 hd) rfl r) k
theorem BaseQ.lshr (B : BaseQ p l e R s m args below meth c Z y bytes maxL ret h0 ws C fr V) (pc' : Nat) (hp : pc' = pc + 1) {x : Int64} {z : Int32} (hd : decode bytes pc = .ok (.lshr, 1)) (k : B.G h cl sl (mkF m pc' Ls (.long (x >>> (z.toInt64 &&& 63)) :: st))) : B.G h cl sl (mkF m pc Ls (.int z :: .long x :: st)) := by
  subst hp; exact B.via (fun T t X r => XT.lshr X B.1 rfl (hb B.2.1 hd) rfl r) k
theorem BaseQ.lushr (B : BaseQ p l e R s m args below meth c Z y bytes maxL ret h0 ws C fr V) (pc' : Nat) (hp : pc' = pc + 1) {x : Int64} {z : Int32} (hd : decode bytes pc = .ok (.lushr, 1)) (k : B.G h cl sl (mkF m pc' Ls (.long (XT.ushrL x z) :: st))) : B.G h cl sl (mkF m pc Ls (.int z :: .long x :: st)) := by
  subst hp; exact B.via (fun T t X r => XT.lushr X B.1 rfl (hb B.2.1 hd) rfl r) k
theorem BaseQ.lcmp (B : BaseQ p l e R s m args below meth c Z y bytes maxL ret h0 ws C fr V) (pc' : Nat) (hp : pc' = pc + 1) {x : Int64} {z : Int64} (hd : decode bytes pc = .ok (.lcmp, 1)) (k : B.G h cl sl (mkF m pc' Ls (.int (XT.cmpL x z) :: st))) : B.G h cl sl (mkF m pc Ls (.long z :: .long x :: st)) := by
  subst hp; exact B.via (fun T t X r => XT.lcmp X B.1 rfl (hb B.2.1 hd) rfl r) k
theorem BaseQ.idiv (B : BaseQ p l e R s m args below meth c Z y bytes maxL ret h0 ws C fr V) (pc' : Nat) (hp : pc' = pc + 1) {x : Int32} {z : Int32} (hd : decode bytes pc = .ok (.idiv, 1)) (hz : z ≠ 0) (k : B.G h cl sl (mkF m pc' Ls (.int (x / z) :: st))) : B.G h cl sl (mkF m pc Ls (.int z :: .int x :: st)) := by
  subst hp; exact B.via (fun T t X r => XS.idiv X B.1 rfl (hb B.2.1 hd) rfl hz r) k
theorem BaseQ.ldiv (B : BaseQ p l e R s m args below meth c Z y bytes maxL ret h0 ws C fr V) (pc' : Nat) (hp : pc' = pc + 1) {x : Int64} {z : Int64} (hd : decode bytes pc = .ok (.ldiv, 1)) (hz : z ≠ 0) (k : B.G h cl sl (mkF m pc' Ls (.long (x / z) :: st))) : B.G h cl sl (mkF m pc Ls (.long z :: .long x :: st)) := by
  subst hp; exact B.via (fun T t X r => XT.ldiv X B.1 rfl (hb B.2.1 hd) rfl hz r) k
theorem BaseQ.irem (B : BaseQ p l e R s m args below meth c Z y bytes maxL ret h0 ws C fr V) (pc' : Nat) (hp : pc' = pc + 1) {x z : Int32} (hd : decode bytes pc = .ok (.irem, 1)) (hz : z ≠ 0) (k : B.G h cl sl (mkF m pc' Ls (.int (x % z) :: st))) : B.G h cl sl (mkF m pc Ls (.int z :: .int x :: st)) := by
  subst hp; exact B.viaX (fun vm0 hZ hO T t L X _ r => iremM X B.1 rfl (hb B.2.1 hd) rfl hz r) k
theorem BaseQ.ineg (B : BaseQ p l e R s m args below meth c Z y bytes maxL ret h0 ws C fr V) (pc' : Nat) (hp : pc' = pc + 1) {x : Int32} (hd : decode bytes pc = .ok (.ineg, 1)) (k : B.G h cl sl (mkF m pc' Ls (.int (-x) :: st))) : B.G h cl sl (mkF m pc Ls (.int x :: st)) := by
  subst hp; exact B.via (fun T t X r => XS.ineg X B.1 rfl (hb B.2.1 hd) rfl r) k
theorem BaseQ.lneg (B : BaseQ p l e R s m args below meth c Z y bytes maxL ret h0 ws C fr V) (pc' : Nat) (hp : pc' = pc + 1) {x : Int64} (hd : decode bytes pc = .ok (.lneg, 1)) (k : B.G h cl sl (mkF m pc' Ls (.long (-x) :: st))) : B.G h cl sl (mkF m pc Ls (.long x :: st)) := by
  subst hp; exact B.via (fun T t X r => XT.lneg X B.1 rfl (hb B.2.1 hd) rfl r) k
theorem BaseQ.i2l (B : BaseQ p l e R s m args below meth c Z y bytes maxL ret h0 ws C fr V) (pc' : Nat) (hp : pc' = pc + 1) {x : Int32} (hd : decode bytes pc = .ok (.i2l, 1)) (k : B.G h cl sl (mkF m pc' Ls (.long (x.toInt64) :: st))) : B.G h cl sl (mkF m pc Ls (.int x :: st)) := by
  subst hp; exact B.via (fun T t X r => XT.i2l X B.1 rfl (hb B.2.1 hd) rfl r) k
theorem BaseQ.l2i (B : BaseQ p l e R s m args below meth c Z y bytes maxL ret h0 ws C fr V) (pc' : Nat) (hp : pc' = pc + 1) {x : Int64} (hd : decode bytes pc = .ok (.l2i, 1)) (k : B.G h cl sl (mkF m pc' Ls (.int (x.toInt32) :: st))) : B.G h cl sl (mkF m pc Ls (.long x :: st)) := by
  subst hp; exact B.via (fun T t X r => XT.l2i X B.1 rfl (hb B.2.1 hd) rfl r) k
theorem BaseQ.i2b (B : BaseQ p l e R s m args below meth c Z y bytes maxL ret h0 ws C fr V) (pc' : Nat) (hp : pc' = pc + 1) {x : Int32} (hd : decode bytes pc = .ok (.i2b, 1)) (k : B.G h cl sl (mkF m pc' Ls (.int (x.toInt8.toInt32) :: st))) : B.G h cl sl (mkF m pc Ls (.int x :: st)) := by
  subst hp; exact B.via (fun T t X r => XT.i2b X B.1 rfl (hb B.2.1 hd) rfl r) k
theorem BaseQ.i2c (B : BaseQ p l e R s m args below meth c Z y bytes maxL ret h0 ws C fr V) (pc' : Nat) (hp : pc' = pc + 1) {x : Int32} (hd : decode bytes pc = .ok (.i2c, 1)) (k : B.G h cl sl (mkF m pc' Ls (.int (x.toUInt32.toUInt16.toUInt32.toInt32) :: st))) : B.G h cl sl (mkF m pc Ls (.int x :: st)) := by
  subst hp; exact B.via (fun T t X r => XT.i2c X B.1 rfl (hb B.2.1 hd) rfl r) k
theorem BaseQ.i2s (B : BaseQ p l e R s m args below meth c Z y bytes maxL ret h0 ws C fr V) (pc' : Nat) (hp : pc' = pc + 1) {x : Int32} (hd : decode bytes pc = .ok (.i2s, 1)) (k : B.G h cl sl (mkF m pc' Ls (.int (x.toInt16.toInt32) :: st))) : B.G h cl sl (mkF m pc Ls (.int x :: st)) := by
  subst hp; exact B.via (fun T t X r => XT.i2s X B.1 rfl (hb B.2.1 hd) rfl r) k
theorem BaseQ.icmp_eq (B : BaseQ p l e R s m args below meth c Z y bytes maxL ret h0 ws C fr V) (pt pf : Nat) {o : Int} (hpt : ((pc : Int) + o).toNat = pt) (ho : 0 ≤ (pc : Int) + o) (hpf : pf = pc + 3) {x z : Int32} (hd : decode bytes pc = .ok (.if_icmp .eq o, 3)) (kt : x = z → B.G h cl sl (mkF m pt Ls st)) (kf : ¬ x = z → B.G h cl sl (mkF m pf Ls st)) : B.G h cl sl (mkF m pc Ls (.int z :: .int x :: st)) := by
  subst hpt hpf
  by_cases q : x = z
  · exact B.via (fun T t X r => XS.icmpYes X B.1 rfl rfl (hb B.2.1 hd) rfl (XT.ii_eq_t q) ho rfl r) (kt q)
  · exact B.via (fun T t X r => XS.icmpNo X B.1 rfl (hb B.2.1 hd) rfl (XT.ii_eq_f q) r) (kf q)
theorem BaseQ.if0_eq (B : BaseQ p l e R s m args below meth c Z y bytes maxL ret h0 ws C fr V) (pt pf : Nat) {o : Int} (hpt : ((pc : Int) + o).toNat = pt) (ho : 0 ≤ (pc : Int) + o) (hpf : pf = pc + 3) {x : Int32} (hd : decode bytes pc = .ok (.ifCond .eq o, 3)) (kt : x = 0 → B.G h cl sl (mkF m pt Ls st)) (kf : ¬ x = 0 → B.G h cl sl (mkF m pf Ls st)) : B.G h cl sl (mkF m pc Ls (.int x :: st)) := by
  subst hpt hpf
  by_cases q : x = 0
  · exact B.via (fun T t X r => XS.ifYes X B.1 rfl rfl (hb B.2.1 hd) rfl (XT.i0_eq_t q) ho rfl r) (kt q)
  · exact B.via (fun T t X r => XS.ifNo X B.1 rfl (hb B.2.1 hd) rfl (XT.i0_eq_f q) r) (kf q)
theorem BaseQ.lif_eq (B : BaseQ p l e R s m args below meth c Z y bytes maxL ret h0 ws C fr V) (pt pf : Nat) {o : Int} (hpt : ((pc : Int) + o).toNat = pt) (ho : 0 ≤ (pc : Int) + o) (hpf : pf = pc + 3) {x z : Int64} (hd : decode bytes pc = .ok (.ifCond .eq o, 3)) (kt : x = z → B.G h cl sl (mkF m pt Ls st)) (kf : ¬ x = z → B.G h cl sl (mkF m pf Ls st)) : B.G h cl sl (mkF m pc Ls (.int (XT.cmpL x z) :: st)) := by
  subst hpt hpf
  by_cases q : x = z
  · exact B.via (fun T t X r => XS.ifYes X B.1 rfl rfl (hb B.2.1 hd) rfl (XT.ll_eq_t q) ho rfl r) (kt q)
  · exact B.via (fun T t X r => XS.ifNo X B.1 rfl (hb B.2.1 hd) rfl (XT.ll_eq_f q) r) (kf q)
theorem BaseQ.icmp_ne (B : BaseQ p l e R s m args below meth c Z y bytes maxL ret h0 ws C fr V) (pt pf : Nat) {o : Int} (hpt : ((pc : Int) + o).toNat = pt) (ho : 0 ≤ (pc : Int) + o) (hpf : pf = pc + 3) {x z : Int32} (hd : decode bytes pc = .ok (.if_icmp .ne o, 3)) (kt : ¬ x = z → B.G h cl sl (mkF m pt Ls st)) (kf : x = z → B.G h cl sl (mkF m pf Ls st)) : B.G h cl sl (mkF m pc Ls (.int z :: .int x :: st)) := by
  subst hpt hpf
  by_cases q : x = z
  · exact B.via (fun T t X r => XS.icmpNo X B.1 rfl (hb B.2.1 hd) rfl (XT.ii_ne_f q) r) (kf q)
  · exact B.via (fun T t X r => XS.icmpYes X B.1 rfl rfl (hb B.2.1 hd) rfl (XT.ii_ne_t q) ho rfl r) (kt q)
theorem BaseQ.if0_ne (B : BaseQ p l e R s m args below meth c Z y bytes maxL ret h0 ws C fr V) (pt pf : Nat) {o : Int} (hpt : ((pc : Int) + o).toNat = pt) (ho : 0 ≤ (pc : Int) + o) (hpf : pf = pc + 3) {x : Int32} (hd : decode bytes pc = .ok (.ifCond .ne o, 3)) (kt : ¬ x = 0 → B.G h cl sl (mkF m pt Ls st)) (kf : x = 0 → B.G h cl sl (mkF m pf Ls st)) : B.G h cl sl (mkF m pc Ls (.int x :: st)) := by
  subst hpt hpf
  by_cases q : x = 0
  · exact B.via (fun T t X r => XS.ifNo X B.1 rfl (hb B.2.1 hd) rfl (XT.i0_ne_f q) r) (kf q)
  · exact B.via (fun T t X r => XS.ifYes X B.1 rfl rfl (hb B.2.1 hd) rfl (XT.i0_ne_t q) ho rfl r) (kt q)
theorem BaseQ.lif_ne (B : BaseQ p l e R s m args below meth c Z y bytes maxL ret h0 ws C fr V) (pt pf : Nat) {o : Int} (hpt : ((pc : Int) + o).toNat = pt) (ho : 0 ≤ (pc : Int) + o) (hpf : pf = pc + 3) {x z : Int64} (hd : decode bytes pc = .ok (.ifCond .ne o, 3)) (kt : ¬ x = z → B.G h cl sl (mkF m pt Ls st)) (kf : x = z → B.G h cl sl (mkF m pf Ls st)) : B.G h cl sl (mkF m pc Ls (.int (XT.cmpL x z) :: st)) := by
  subst hpt hpf
  by_cases q : x = z
  · exact B.via (fun T t X r => XS.ifNo X B.1 rfl (hb B.2.1 hd) rfl (XT.ll_ne_f q) r) (kf q)
  · exact B.via (fun T t X r => XS.ifYes X B.1 rfl rfl (hb B.2.1 hd) rfl (XT.ll_ne_t q) ho rfl r) (kt q)
theorem BaseQ.icmp_lt (B : BaseQ p l e R s m args below meth c Z y bytes maxL ret h0 ws C fr V) (pt pf : Nat) {o : Int} (hpt : ((pc : Int) + o).toNat = pt) (ho : 0 ≤ (pc : Int) + o) (hpf : pf = pc + 3) {x z : Int32} (hd : decode bytes pc = .ok (.if_icmp .lt o, 3)) (kt : x < z → B.G h cl sl (mkF m pt Ls st)) (kf : ¬ x < z → B.G h cl sl (mkF m pf Ls st)) : B.G h cl sl (mkF m pc Ls (.int z :: .int x :: st)) := by
  subst hpt hpf
  by_cases q : x < z
  · exact B.via (fun T t X r => XS.icmpYes X B.1 rfl rfl (hb B.2.1 hd) rfl (XT.ii_lt_t q) ho rfl r) (kt q)
  · exact B.via (fun T t X r => XS.icmpNo X B.1 rfl (hb B.2.1 hd) rfl (XT.ii_lt_f q) r) (kf q)
theorem BaseQ.if0_lt (B : BaseQ p l e R s m args below meth c Z y bytes maxL ret h0 ws C fr V) (pt pf : Nat) {o : Int} (hpt : ((pc : Int) + o).toNat = pt) (ho : 0 ≤ (pc : Int) + o) (hpf : pf = pc + 3) {x : Int32} (hd : decode bytes pc = .ok (.ifCond .lt o, 3)) (kt : x < 0 → B.G h cl sl (mkF m pt Ls st)) (kf : ¬ x < 0 → B.G h cl sl (mkF m pf Ls st)) : B.G h cl sl (mkF m pc Ls (.int x :: st)) := by
  subst hpt hpf
  by_cases q : x < 0
  · exact B.via (fun T t X r => XS.ifYes X B.1 rfl rfl (hb B.2.1 hd) rfl (XT.i0_lt_t q) ho rfl r) (kt q)
  · exact B.via (fun T t X r => XS.ifNo X B.1 rfl (hb B.2.1 hd) rfl (XT.i0_lt_f q) r) (kf q)
theorem BaseQ.lif_lt (B : BaseQ p l e R s m args below meth c Z y bytes maxL ret h0 ws C fr V) (pt pf : Nat) {o : Int} (hpt : ((pc : Int) + o).toNat = pt) (ho : 0 ≤ (pc : Int) + o) (hpf : pf = pc + 3) {x z : Int64} (hd : decode bytes pc = .ok (.ifCond .lt o, 3)) (kt : x < z → B.G h cl sl (mkF m pt Ls st)) (kf : ¬ x < z → B.G h cl sl (mkF m pf Ls st)) : B.G h cl sl (mkF m pc Ls (.int (XT.cmpL x z) :: st)) := by
  subst hpt hpf
  by_cases q : x < z
  · exact B.via (fun T t X r => XS.ifYes X B.1 rfl rfl (hb B.2.1 hd) rfl (XT.ll_lt_t q) ho rfl r) (kt q)
  · exact B.via (fun T t X r => XS.ifNo X B.1 rfl (hb B.2.1 hd) rfl (XT.ll_lt_f q) r) (kf q)
theorem BaseQ.icmp_ge (B : BaseQ p l e R s m args below meth c Z y bytes maxL ret h0 ws C fr V) (pt pf : Nat) {o : Int} (hpt : ((pc : Int) + o).toNat = pt) (ho : 0 ≤ (pc : Int) + o) (hpf : pf = pc + 3) {x z : Int32} (hd : decode bytes pc = .ok (.if_icmp .ge o, 3)) (kt : ¬ x < z → B.G h cl sl (mkF m pt Ls st)) (kf : x < z → B.G h cl sl (mkF m pf Ls st)) : B.G h cl sl (mkF m pc Ls (.int z :: .int x :: st)) := by
  subst hpt hpf
  by_cases q : x < z
  · exact B.via (fun T t X r => XS.icmpNo X B.1 rfl (hb B.2.1 hd) rfl (XT.ii_ge_f q) r) (kf q)
  · exact B.via (fun T t X r => XS.icmpYes X B.1 rfl rfl (hb B.2.1 hd) rfl (XT.ii_ge_t q) ho rfl r) (kt q)
theorem BaseQ.if0_ge (B : BaseQ p l e R s m args below meth c Z y bytes maxL ret h0 ws C fr V) (pt pf : Nat) {o : Int} (hpt : ((pc : Int) + o).toNat = pt) (ho : 0 ≤ (pc : Int) + o) (hpf : pf = pc + 3) {x : Int32} (hd : decode bytes pc = .ok (.ifCond .ge o, 3)) (kt : ¬ x < 0 → B.G h cl sl (mkF m pt Ls st)) (kf : x < 0 → B.G h cl sl (mkF m pf Ls st)) : B.G h cl sl (mkF m pc Ls (.int x :: st)) := by
  subst hpt hpf
  by_cases q : x < 0
  · exact B.via (fun T t X r => XS.ifNo X B.1 rfl (hb B.2.1 hd) rfl (XT.i0_ge_f q) r) (kf q)
  · exact B.via (fun T t X r => XS.ifYes X B.1 rfl rfl (hb B.2.1 hd) rfl (XT.i0_ge_t q) ho rfl r) (kt q)
theorem BaseQ.lif_ge (B : BaseQ p l e R s m args below meth c Z y bytes maxL ret h0 ws C fr V) (pt pf : Nat) {o : Int} (hpt : ((pc : Int) + o).toNat = pt) (ho : 0 ≤ (pc : Int) + o) (hpf : pf = pc + 3) {x z : Int64} (hd : decode bytes pc = .ok (.ifCond .ge o, 3)) (kt : ¬ x < z → B.G h cl sl (mkF m pt Ls st)) (kf : x < z → B.G h cl sl (mkF m pf Ls st)) : B.G h cl sl (mkF m pc Ls (.int (XT.cmpL x z) :: st)) := by
  subst hpt hpf
  by_cases q : x < z
  · exact B.via (fun T t X r => XS.ifNo X B.1 rfl (hb B.2.1 hd) rfl (XT.ll_ge_f q) r) (kf q)
  · exact B.via (fun T t X r => XS.ifYes X B.1 rfl rfl (hb B.2.1 hd) rfl (XT.ll_ge_t q) ho rfl r) (kt q)
theorem BaseQ.icmp_gt (B : BaseQ p l e R s m args below meth c Z y bytes maxL ret h0 ws C fr V) (pt pf : Nat) {o : Int} (hpt : ((pc : Int) + o).toNat = pt) (ho : 0 ≤ (pc : Int) + o) (hpf : pf = pc + 3) {x z : Int32} (hd : decode bytes pc = .ok (.if_icmp .gt o, 3)) (kt : z < x → B.G h cl sl (mkF m pt Ls st)) (kf : ¬ z < x → B.G h cl sl (mkF m pf Ls st)) : B.G h cl sl (mkF m pc Ls (.int z :: .int x :: st)) := by
  subst hpt hpf
  by_cases q : z < x
  · exact B.via (fun T t X r => XS.icmpYes X B.1 rfl rfl (hb B.2.1 hd) rfl (XT.ii_gt_t q) ho rfl r) (kt q)
  · exact B.via (fun T t X r => XS.icmpNo X B.1 rfl (hb B.2.1 hd) rfl (XT.ii_gt_f q) r) (kf q)
theorem BaseQ.if0_gt (B : BaseQ p l e R s m args below meth c Z y bytes maxL ret h0 ws C fr V) (pt pf : Nat) {o : Int} (hpt : ((pc : Int) + o).toNat = pt) (ho : 0 ≤ (pc : Int) + o) (hpf : pf = pc + 3) {x : Int32} (hd : decode bytes pc = .ok (.ifCond .gt o, 3)) (kt : 0 < x → B.G h cl sl (mkF m pt Ls st)) (kf : ¬ 0 < x → B.G h cl sl (mkF m pf Ls st)) : B.G h cl sl (mkF m pc Ls (.int x :: st)) := by
  subst hpt hpf
  by_cases q : 0 < x
  · exact B.via (fun T t X r => XS.ifYes X B.1 rfl rfl (hb B.2.1 hd) rfl (XT.i0_gt_t q) ho rfl r) (kt q)
  · exact B.via (fun T t X r => XS.ifNo X B.1 rfl (hb B.2.1 hd) rfl (XT.i0_gt_f q) r) (kf q)
theorem BaseQ.lif_gt (B : BaseQ p l e R s m args below meth c Z y bytes maxL ret h0 ws C fr V) (pt pf : Nat) {o : Int} (hpt : ((pc : Int) + o).toNat = pt) (ho : 0 ≤ (pc : Int) + o) (hpf : pf = pc + 3) {x z : Int64} (hd : decode bytes pc = .ok (.ifCond .gt o, 3)) (kt : z < x → B.G h cl sl (mkF m pt Ls st)) (kf : ¬ z < x → B.G h cl sl (mkF m pf Ls st)) : B.G h cl sl (mkF m pc Ls (.int (XT.cmpL x z) :: st)) := by
  subst hpt hpf
  by_cases q : z < x
  · exact B.via (fun T t X r => XS.ifYes X B.1 rfl rfl (hb B.2.1 hd) rfl (XT.ll_gt_t q) ho rfl r) (kt q)
  · exact B.via (fun T t X r => XS.ifNo X B.1 rfl (hb B.2.1 hd) rfl (XT.ll_gt_f q) r) (kf q)
theorem BaseQ.icmp_le (B : BaseQ p l e R s m args below meth c Z y bytes maxL ret h0 ws C fr V) (pt pf : Nat) {o : Int} (hpt : ((pc : Int) + o).toNat = pt) (ho : 0 ≤ (pc : Int) + o) (hpf : pf = pc + 3) {x z : Int32} (hd : decode bytes pc = .ok (.if_icmp .le o, 3)) (kt : ¬ z < x → B.G h cl sl (mkF m pt Ls st)) (kf : z < x → B.G h cl sl (mkF m pf Ls st)) : B.G h cl sl (mkF m pc Ls (.int z :: .int x :: st)) := by
  subst hpt hpf
  by_cases q : z < x
  · exact B.via (fun T t X r => XS.icmpNo X B.1 rfl (hb B.2.1 hd) rfl (XT.ii_le_f q) r) (kf q)
  · exact B.via (fun T t X r => XS.icmpYes X B.1 rfl rfl (hb B.2.1 hd) rfl (XT.ii_le_t q) ho rfl r) (kt q)
theorem BaseQ.if0_le (B : BaseQ p l e R s m args below meth c Z y bytes maxL ret h0 ws C fr V) (pt pf : Nat) {o : Int} (hpt : ((pc : Int) + o).toNat = pt) (ho : 0 ≤ (pc : Int) + o) (hpf : pf = pc + 3) {x : Int32} (hd : decode bytes pc = .ok (.ifCond .le o, 3)) (kt : ¬ 0 < x → B.G h cl sl (mkF m pt Ls st)) (kf : 0 < x → B.G h cl sl (mkF m pf Ls st)) : B.G h cl sl (mkF m pc Ls (.int x :: st)) := by
  subst hpt hpf
  by_cases q : 0 < x
  · exact B.via (fun T t X r => XS.ifNo X B.1 rfl (hb B.2.1 hd) rfl (XT.i0_le_f q) r) (kf q)
  · exact B.via (fun T t X r => XS.ifYes X B.1 rfl rfl (hb B.2.1 hd) rfl (XT.i0_le_t q) ho rfl r) (kt q)
theorem BaseQ.lif_le (B : BaseQ p l e R s m args below meth c Z y bytes maxL ret h0 ws C fr V) (pt pf : Nat) {o : Int} (hpt : ((pc : Int) + o).toNat = pt) (ho : 0 ≤ (pc : Int) + o) (hpf : pf = pc + 3) {x z : Int64} (hd : decode bytes pc = .ok (.ifCond .le o, 3)) (kt : ¬ z < x → B.G h cl sl (mkF m pt Ls st)) (kf : z < x → B.G h cl sl (mkF m pf Ls st)) : B.G h cl sl (mkF m pc Ls (.int (XT.cmpL x z) :: st)) := by
  subst hpt hpf
  by_cases q : z < x
  · exact B.via (fun T t X r => XS.ifNo X B.1 rfl (hb B.2.1 hd) rfl (XT.ll_le_f q) r) (kf q)
  · exact B.via (fun T t X r => XS.ifYes X B.1 rfl rfl (hb B.2.1 hd) rfl (XT.ll_le_t q) ho rfl r) (kt q)
theorem BaseQ.acmp_eq (B : BaseQ p l e R s m args below meth c Z y bytes maxL ret h0 ws C fr V) (pt pf : Nat) {o : Int} (hpt : ((pc : Int) + o).toNat = pt) (ho : 0 ≤ (pc : Int) + o) (hpf : pf = pc + 3) {x z : Value} (hd : decode bytes pc = .ok (.if_acmp .eq o, 3)) (hx' : x.isRef = true) (hz' : z.isRef = true) (kt : x = z → B.G h cl sl (mkF m pt Ls st)) (kf : ¬ x = z → B.G h cl sl (mkF m pf Ls st)) : B.G h cl sl (mkF m pc Ls (z :: x :: st)) := by
  subst hpt hpf
  by_cases q : x = z
  · exact B.via (fun T t X r => XT.acmpYes X B.1 rfl rfl (hb B.2.1 hd) rfl hx' hz' (XT.aa_eq_t q) ho rfl r) (kt q)
  · exact B.via (fun T t X r => XT.acmpNo X B.1 rfl (hb B.2.1 hd) rfl hx' hz' (XT.aa_eq_f q) r) (kf q)
theorem BaseQ.acmp_ne (B : BaseQ p l e R s m args below meth c Z y bytes maxL ret h0 ws C fr V) (pt pf : Nat) {o : Int} (hpt : ((pc : Int) + o).toNat = pt) (ho : 0 ≤ (pc : Int) + o) (hpf : pf = pc + 3) {x z : Value} (hd : decode bytes pc = .ok (.if_acmp .ne o, 3)) (hx' : x.isRef = true) (hz' : z.isRef = true) (kt : ¬ x = z → B.G h cl sl (mkF m pt Ls st)) (kf : x = z → B.G h cl sl (mkF m pf Ls st)) : B.G h cl sl (mkF m pc Ls (z :: x :: st)) := by
  subst hpt hpf
  by_cases q : x = z
  · exact B.via (fun T t X r => XT.acmpNo X B.1 rfl (hb B.2.1 hd) rfl hx' hz' (XT.aa_ne_f q) r) (kf q)
  · exact B.via (fun T t X r => XT.acmpYes X B.1 rfl rfl (hb B.2.1 hd) rfl hx' hz' (XT.aa_ne_t q) ho rfl r) (kt q)
theorem BaseQ.ifnull (B : BaseQ p l e R s m args below meth c Z y bytes maxL ret h0 ws C fr V) (pt pf : Nat) {o : Int} (hpt : ((pc : Int) + o).toNat = pt) (ho : 0 ≤ (pc : Int) + o) (hpf : pf = pc + 3) {x : Value} (hd : decode bytes pc = .ok (.ifnull o, 3)) (hx' : x.isRef = true) (kt : x = .null → B.G h cl sl (mkF m pt Ls st)) (kf : ¬ x = .null → B.G h cl sl (mkF m pf Ls st)) : B.G h cl sl (mkF m pc Ls (x :: st)) := by
  subst hpt hpf
  by_cases q : x = .null
  · exact B.via (fun T t X r => XT.nullYes X B.1 rfl rfl (hb B.2.1 hd) rfl q ho rfl r) (kt q)
  · exact B.via (fun T t X r => XT.nullNo X B.1 rfl (hb B.2.1 hd) rfl hx' q r) (kf q)
theorem BaseQ.ifnonnull (B : BaseQ p l e R s m args below meth c Z y bytes maxL ret h0 ws C fr V) (pt pf : Nat) {o : Int} (hpt : ((pc : Int) + o).toNat = pt) (ho : 0 ≤ (pc : Int) + o) (hpf : pf = pc + 3) {x : Value} (hd : decode bytes pc = .ok (.ifnonnull o, 3)) (hx' : x.isRef = true) (kt : ¬ x = .null → B.G h cl sl (mkF m pt Ls st)) (kf : x = .null → B.G h cl sl (mkF m pf Ls st)) : B.G h cl sl (mkF m pc Ls (x :: st)) := by
  subst hpt hpf
  by_cases q : x = .null
  · exact B.via (fun T t X r => XT.nonnullNo X B.1 rfl (hb B.2.1 hd) rfl q r) (kf q)
  · exact B.via (fun T t X r => XT.nonnullYes X B.1 rfl rfl (hb B.2.1 hd) rfl hx' q ho rfl r) (kt q)
theorem BaseQ.topI (B : BaseQ p l e R s m args below meth c Z y bytes maxL ret h0 ws C fr V) {x : Int32} (v : Int32) (q : x = v) (k : B.G h cl sl (mkF m pc Ls (.int v :: st))) : B.G h cl sl (mkF m pc Ls (.int x :: st)) := by subst q; exact k
theorem BaseQ.topL (B : BaseQ p l e R s m args below meth c Z y bytes maxL ret h0 ws C fr V) {x : Int64} (v : Int64) (q : x = v) (k : B.G h cl sl (mkF m pc Ls (.long v :: st))) : B.G h cl sl (mkF m pc Ls (.long x :: st)) := by subst q; exact k
/-! 2. the ends -/
theorem BaseQ.ret0 (B : BaseQ p l e R s m args below meth c Z y bytes maxL none h0 ws C fr V) (hd : decode bytes pc = .ok (.return_, 1)) (hcl : cl ≤ R.cells) (hsl : sl ≤ R.slots) (hC : C none h) : B.G h cl sl (mkF m pc Ls []) :=
  B.leave hcl hsl (fun _ => rfl) hC fun vm0 T locs fs X hr => X.returnOut B.1 B.2.2.2.2.2.1 (hb B.2.1 hd) hr
theorem BaseQ.retI (B : BaseQ p l e R s m args below meth c Z y bytes maxL (some .int) h0 ws C fr V) {x : Int32} (hd : decode bytes pc = .ok (.ireturn, 1)) (hcl : cl ≤ R.cells) (hsl : sl ≤ R.slots) (hC : C (some (.int x)) h) : B.G h cl sl (mkF m pc Ls (.int x :: st)) :=
  B.leave hcl hsl (fun q => by rw [B.2.2.2.2.2.1] at q; cases q) hC fun vm0 T locs fs X hr => retOut X B.1 B.2.2.2.2.2.1 rfl (Or.inl ⟨rfl, Or.inl rfl, _, rfl⟩) (hb B.2.1 hd) hr
theorem BaseQ.retL (B : BaseQ p l e R s m args below meth c Z y bytes maxL (some .long) h0 ws C fr V) {x : Int64} (hd : decode bytes pc = .ok (.lreturn, 1)) (hcl : cl ≤ R.cells) (hsl : sl ≤ R.slots) (hC : C (some (.long x)) h) : B.G h cl sl (mkF m pc Ls (.long x :: st)) :=
  B.leave hcl hsl (fun q => by rw [B.2.2.2.2.2.1] at q; cases q) hC fun vm0 T locs fs X hr => retOut X B.1 B.2.2.2.2.2.1 rfl (Or.inr (Or.inl ⟨rfl, rfl, _, rfl⟩)) (hb B.2.1 hd) hr
/-- a boolean, byte, char, short: what comes back is narrowed -/
theorem BaseQ.retN {t : FieldType} (B : BaseQ p l e R s m args below meth c Z y bytes maxL (some t) h0 ws C fr V) {x : Int32} (ht : t = .boolean ∨ t = .byte ∨ t = .char ∨ t = .short) (hd : decode bytes pc = .ok (.ireturn, 1)) (hcl : cl ≤ R.cells) (hsl : sl ≤ R.slots) (hC : C (some (.int (nar t x))) h) : B.G h cl sl (mkF m pc Ls (.int x :: st)) :=
  B.leave hcl hsl (fun q => by rw [B.2.2.2.2.2.1] at q; cases q) hC fun vm0 T locs fs X hr => Jvm.RoadKit.retN X B.1 B.2.2.2.2.2.1 ht (hb B.2.1 hd) hr
theorem BaseQ.retA {t : FieldType} (B : BaseQ p l e R s m args below meth c Z y bytes maxL (some t) h0 ws C fr V) {x : Value} (ht : t.isReference = true) (hx' : x.isRef = true) (hd : decode bytes pc = .ok (.areturn, 1)) (hcl : cl ≤ R.cells) (hsl : sl ≤ R.slots) (hC : C (some x) h) : B.G h cl sl (mkF m pc Ls (x :: st)) :=
  B.leave hcl hsl (fun q => by rw [B.2.2.2.2.2.1] at q; cases q) hC fun vm0 T locs fs X hr => retOut X B.1 B.2.2.2.2.2.1 (by rcases ref_cases hx' with rfl | ⟨a, rfl⟩ <;> cases t <;> simp_all [narrow, FieldType.isReference]) (Or.inr (Or.inr (Or.inr (Or.inr ⟨rfl, ht, hx'⟩)))) (hb B.2.1 hd) hr
/-! 3. the heap -/
theorem BaseQ.getF (B : BaseQ p l e R s m args below meth c Z y bytes maxL ret h0 ws C fr V) (pc' : Nat) (hp : pc' = pc + 3) {i : Nat} {O n d : String} {a : Addr} {v : Value} (hd : decode bytes pc = .ok (.getfield i, 3)) (w : (Cond.fieldLink y.cls i O n d).before a0 Z = true) (F : Fld Z h a O n d v) (k : B.G h cl sl (mkF m pc' Ls (v :: st))) : B.G h cl sl (mkF m pc Ls (.ref a :: st)) := fun vm0 k0 T locs X hS hk N eT hV hF => by
  have hZ := B.warm hS
  have hO := B.own hS
  subst hp
  obtain ⟨T', X', e', stp⟩ := Jvm.RoadKit.getF X B.1 hZ hO (host := "") (Or.inl w) Via.refl eT F (g := mkF m pc Ls (.ref a :: st)) rfl rfl (hb B.2.1 hd)
  obtain ⟨t, o, q, r⟩ := k vm0 k0 T' locs X' hS hk N e' hV hF
  exact ⟨t, o, stp _ q, r⟩
theorem BaseQ.getS (B : BaseQ p l e R s m args below meth c Z y bytes maxL ret h0 ws C fr V) (pc' : Nat) (hp : pc' = pc + 3) {i : Nat} {O n d : String} {v : Value} (hd : decode bytes pc = .ok (.getstatic i, 3)) (w : (Cond.fieldLink y.cls i O n d).before a0 Z = true) (F : Sta Z h O n d v) (k : B.G h cl sl (mkF m pc' Ls (v :: st))) : B.G h cl sl (mkF m pc Ls st) := fun vm0 k0 T locs X hS hk N eT hV hF => by
  have hZ := B.warm hS
  have hO := B.own hS
  subst hp
  obtain ⟨T', X', e', stp⟩ := Jvm.RoadKit.getS (host := "") X B.1 hZ hO w Via.refl eT F (g := mkF m pc Ls st) rfl (hb B.2.1 hd)
  obtain ⟨t, o, q, r⟩ := k vm0 k0 T' locs X' hS hk N e' hV hF
  exact ⟨t, o, stp _ q, r⟩
theorem BaseQ.putF (B : BaseQ p l e R s m args below meth c Z y bytes maxL ret h0 ws C false V) (pc' : Nat) (hp : pc' = pc + 3) {i kk : Nat} {O n d CC : String} {a : Addr} {v old : Value} {ty : FieldType} (hd : decode bytes pc = .ok (.putfield i, 3)) (w : (Cond.fieldLink y.cls i O n d).before a0 Z = true) (F : Fld Z h a O n d old) (E : Exa Z h a CC)
    (L : (Cond.lays CC O n d).before a0 Z = true ∨ ((Cond.laysFinal CC O n d).before a0 Z = true ∧ y.cls = O ∧ y.name = "<init>")) (wi : (Cond.instantiable CC kk).before a0 Z = true) (hty : parseFieldDescriptor d = some ty) (hn : narrow ty v = v) (hf : fits ty v = true) (hw : a ∈ ws ∨ h0.size ≤ a)
    (k : ∀ h', Wr h h' a (Jvm.RoadKit.slotOf Z O n d) v → B.G h' cl sl (mkF m pc' Ls st)) : B.G h cl sl (mkF m pc Ls (v :: .ref a :: st)) := fun vm0 k0 T locs X hS hk N eT hV hF => by
  have hZ := B.warm hS
  have hO := B.own hS
  subst hp
  obtain ⟨T', h', X', e', W, stp⟩ := Jvm.RoadKit.putF X B.1 hZ hO (host := "") (Or.inl w) Via.refl eT F E (L.imp id fun q => ⟨q.1, q.2.1, B.2.2.2.2.2.2.2.1.trans q.2.2⟩) wi hty hn hf (g := mkF m pc Ls (v :: .ref a :: st)) rfl rfl (hb B.2.1 hd)
  obtain ⟨t, o, q, r⟩ := k h' W vm0 k0 T' _ X' hS (by rw [W.size]; exact hk) (N.one hw) e' hV (fun q => nomatch q)
  exact ⟨t, o, stp _ q, r⟩
theorem BaseQ.newO (B : BaseQ p l e R s m args below meth c Z y bytes maxL ret h0 ws C fr V) (pc' : Nat) (hp : pc' = pc + 3) {i n : Nat} {CC : String} (hd : decode bytes pc = .ok (.new i, 3)) (w : (Cond.classLink y.cls i CC).before a0 Z = true) (wi : (Cond.instantiable CC n).before a0 Z = true) (wz : (Cond.initialized CC).before a0 Z = true) (hc : cl + 1 ≤ R.cells) (hs : sl + n ≤ R.slots)
    (k : ∀ h' a, a = h.size → h0.size ≤ a → Ext h h' → Exa Z h' a CC → (∀ {O nm d : String} {ty : FieldType}, Laid Z a0 CC O nm d → parseFieldDescriptor d = some ty → Fld Z h' a O nm d (defaultValue ty)) → B.G h' (cl + 1) (sl + n) (mkF m pc' Ls (.ref a :: st))) : B.G h cl sl (mkF m pc Ls st) := fun vm0 k0 T locs X hS hk N eT hV hF => by
  have hZ := B.warm hS
  have hO := B.own hS
  subst hp
  obtain ⟨T', h', X', e', E, A, D, -, stp⟩ := Jvm.RoadKit.newO X B.1 hZ hO w wi wz eT (g := mkF m pc Ls st) rfl (hb B.2.1 hd) hc hs
  obtain ⟨t, o, q, r⟩ := k h' _ rfl (by rw [← eT]; exact B.size X) E A D vm0 k0 T' locs X' hS (Nat.le_trans hk E.1) N e' hV hF
  exact ⟨t, o, stp _ q, r⟩
theorem BaseQ.initO (B : BaseQ p l e R s m args below meth c Z y bytes maxL ret h0 ws C fr V) (pc' : Nat) (hp : pc' = pc + 3) {i : Nat} {a : Addr} (hd : decode bytes pc = .ok (.invokespecial i, 3)) (w1 : (Cond.methodLink y.cls i Lib.objectInit).before a0 Z = true) (w2 : (Cond.instanceMethod Lib.objectInit).before a0 Z = true) (w3 : (Cond.code Lib.objectInit ⟨#[0xb1]⟩ 1 none).before a0 Z = true)
    (hLs : Ls.size = maxL) (W : Nat) (hW : (st.map fun v => v.category).sum = W) (hf : 1 ≤ R.frames) (hl : W + 12 ≤ R.locals) (k : B.G h cl sl (mkF m pc' Ls st)) : B.G h cl sl (mkF m pc Ls (.ref a :: st)) := fun vm0 k0 T locs X hS hk N eT hV hF => by
  have hZ := B.warm hS
  have hO := B.own hS
  subst hp
  obtain ⟨T', X', e', stp⟩ := Jvm.RoadKit.initO X B.1 hZ hO w1 w2 w3 eT (g := mkF m pc Ls (.ref a :: st)) rfl (hLs.trans B.2.2.1.symm) rfl (hb B.2.1 hd) hf (W := W) (by show 2 * 0 + _ ≤ _; omega) hl
  obtain ⟨t, o, q, r⟩ := k vm0 k0 T' locs X' hS hk N e' hV hF
  exact ⟨t, o, stp _ q, r⟩
/-! 4. calls -/
section Calls
variable {z : MethodName} {i : Nat} {cb : ByteArray} {cm : Nat} {cr : Option FieldType} {rm : Room} {as : Array Value} {ws' : List Addr} {C' : Option Value → Heap → Prop} {argsL rest : List Value} {ps : List FieldType} {rt : Option FieldType} {W : Nat}
theorem BaseQ.callS (B : BaseQ p l e R s m args below meth c Z y bytes maxL ret h0 ws C false V) (pc' : Nat) (hp : pc' = pc + 3) (hd : decode bytes pc = .ok (.invokestatic i, 3))
    (w1 : (Cond.methodLink y.cls i z).before a0 Z = true) (w2 : (Cond.static z).before a0 Z = true) (w3 : (Cond.initialized z.cls).before a0 Z = true) (w4 : (Cond.code z cb cm cr).before a0 Z = true)
    (hz : z.cls ≠ "java/lang/invoke/MethodHandle" ∧ z.cls ≠ "java/lang/invoke/VarHandle") (argsL rest : List Value) (M : Met l Z z cb cm cr [] rm as h ws' C') (has : argsL.toArray = as) (hst : st = argsL.reverse ++ rest) (hpd : parseMethodDescriptor z.desc = some ⟨ps, rt⟩) (hlen : argsL.length = ps.length) (hLs : Ls.size = maxL)
    (W : Nat) (hW : (rest.map fun v => v.category).sum = W) (hf : rm.frames + 1 ≤ R.frames) (hl : W + (cm + 11) + rm.locals ≤ R.locals) (hc : cl + rm.cells ≤ R.cells) (hs : sl + rm.slots ≤ R.slots) (hws : ∀ x ∈ ws', x ∈ ws ∨ h0.size ≤ x)
    (k : ∀ v h', Keep h h' ws' → C' v h' → B.G h' (cl + rm.cells) (sl + rm.slots) (mkF m pc' Ls (v.toList ++ rest))) : B.G h cl sl (mkF m pc Ls st) := fun vm0 k0 T locs X hS hk N eT hV hF => by
  have hZ := B.warm hS
  have hO := B.own hS
  subst hp
  obtain ⟨v, _, ⟨T', L', k', n'⟩, -, X', ⟨Lc, hQ, l', y', z'⟩, stp⟩ := Jvm.LawKit.callS X B.1 (y := z) hO (mvT hZ w1) (mvT hZ w2) (mvT hZ w3) (mvT hZ w4) hz (backOf (W := W) M hZ w4 w3 hf hl) (g := mkF m pc Ls st) rfl (hLs.trans B.2.2.1.symm) (argsL := argsL) (rest := rest) (lenOf hpd hlen) hst (by show 2 * 0 + _ ≤ _; omega) (hb B.2.1 hd) (fun _ _ => ⟨has, eT, hc, hs⟩)
  dsimp only [Pt.U, Pt.locs, Pt.cells, Pt.slots] at X' l' y' z' stp hQ
  subst l' y' z'
  obtain ⟨hC, hN, hK⟩ := hQ
  obtain ⟨t, o, q, r⟩ := k v T'.heap hK hC vm0 k0 T' _ X' hS (Nat.le_trans hk hK.1) (N.app fun u hu => (hN u hu).elim (fun q => hws _ q) fun q => Or.inr (Nat.le_trans (by rw [← eT]; exact B.size X) q)) rfl hV (fun q => nomatch q)
  exact ⟨t, o, stp _ q, r⟩
theorem BaseQ.callI (B : BaseQ p l e R s m args below meth c Z y bytes maxL ret h0 ws C false V) (pc' : Nat) (hp : pc' = pc + 3) (hd : decode bytes pc = .ok (.invokespecial i, 3)) (hin : z.name = "<init>")
    (w1 : (Cond.methodLink y.cls i z).before a0 Z = true) (w2 : (Cond.instanceMethod z).before a0 Z = true) (w3 : (Cond.initialized z.cls).before a0 Z = true) (w4 : (Cond.code z cb cm none).before a0 Z = true)
    (hz : z.cls ≠ "java/lang/invoke/MethodHandle" ∧ z.cls ≠ "java/lang/invoke/VarHandle") {a : Addr} (argsL rest : List Value) (M : Met l Z z cb cm none [] rm as h ws' C') (has : (.ref a :: argsL).toArray = as) (hst : st = argsL.reverse ++ .ref a :: rest) (hpd : parseMethodDescriptor z.desc = some ⟨ps, rt⟩) (hlen : argsL.length = ps.length) (hLs : Ls.size = maxL)
    (W : Nat) (hW : (rest.map fun v => v.category).sum = W) (hf : rm.frames + 1 ≤ R.frames) (hl : W + (cm + 11) + rm.locals ≤ R.locals) (hc : cl + rm.cells ≤ R.cells) (hs : sl + rm.slots ≤ R.slots) (hws : ∀ x ∈ ws', x ∈ ws ∨ h0.size ≤ x)
    (k : ∀ v h', Keep h h' ws' → C' v h' → B.G h' (cl + rm.cells) (sl + rm.slots) (mkF m pc' Ls (v.toList ++ rest))) : B.G h cl sl (mkF m pc Ls st) := fun vm0 k0 T locs X hS hk N eT hV hF => by
  have hZ := B.warm hS
  have hO := B.own hS
  subst hp
  obtain ⟨v, _, ⟨T', L', k', n'⟩, -, X', ⟨Lc, hQ, l', y', z'⟩, stp⟩ := X.specialBack B.1 (y := z) hin hO (mvT hZ w1) (mvT hZ w2) (mvT hZ w4) hz (backOf (W := W) M hZ w4 w3 hf hl) (g := mkF m pc Ls st) rfl (hLs.trans B.2.2.1.symm) (Steps.refl _) (a := a) (argsL := argsL) (rest := rest) (lenOf hpd hlen) hst (by show 2 * 0 + _ ≤ _; omega) (hb B.2.1 hd) (fun _ _ => ⟨has, eT, hc, hs⟩)
  dsimp only [Pt.U, Pt.locs, Pt.cells, Pt.slots] at X' l' y' z' stp hQ
  subst l' y' z'
  obtain ⟨hC, hN, hK⟩ := hQ
  obtain ⟨t, o, q, r⟩ := k v T'.heap hK hC vm0 k0 T' _ X' hS (Nat.le_trans hk hK.1) (N.app fun u hu => (hN u hu).elim (fun q => hws _ q) fun q => Or.inr (Nat.le_trans (by rw [← eT]; exact B.size X) q)) rfl hV (fun q => nomatch q)
  exact ⟨t, o, stp.trans q, r⟩
theorem BaseQ.callV (B : BaseQ p l e R s m args below meth c Z y bytes maxL ret h0 ws C false V) (pc' : Nat) (hp : pc' = pc + 3) (hd : decode bytes pc = .ok (.invokevirtual i, 3)) {CC : String}
    (w1 : (Cond.methodLink y.cls i z).before a0 Z = true) (w2 : (Cond.declares z).before a0 Z = true) (w5 : (Cond.selects CC z z).before a0 Z = true) (w6 : (Cond.instanceMethod z).before a0 Z = true) (w3 : (Cond.initialized z.cls).before a0 Z = true) (w4 : (Cond.code z cb cm cr).before a0 Z = true)
    (hz : z.cls ≠ "java/lang/invoke/MethodHandle" ∧ z.cls ≠ "java/lang/invoke/VarHandle") {a : Addr} (E : Exa Z h a CC) (argsL rest : List Value) (M : Met l Z z cb cm cr [] rm as h ws' C') (has : (.ref a :: argsL).toArray = as) (hst : st = argsL.reverse ++ .ref a :: rest) (hpd : parseMethodDescriptor z.desc = some ⟨ps, rt⟩) (hlen : argsL.length = ps.length) (hLs : Ls.size = maxL)
    (W : Nat) (hW : (rest.map fun v => v.category).sum = W) (hf : rm.frames + 1 ≤ R.frames) (hl : W + (cm + 11) + rm.locals ≤ R.locals) (hc : cl + rm.cells ≤ R.cells) (hs : sl + rm.slots ≤ R.slots) (hws : ∀ x ∈ ws', x ∈ ws ∨ h0.size ≤ x)
    (k : ∀ v h', Keep h h' ws' → C' v h' → B.G h' (cl + rm.cells) (sl + rm.slots) (mkF m pc' Ls (v.toList ++ rest))) : B.G h cl sl (mkF m pc Ls st) := fun vm0 k0 T locs X hS hk N eT hV hF => by
  have hZ := B.warm hS
  have hO := B.own hS
  subst hp
  obtain ⟨cq, kq, qa, qb, qc⟩ := isOf hZ eT E
  obtain ⟨v, _, ⟨T', L', k', n'⟩, -, X', ⟨Lc, hQ, l', y', z'⟩, stp⟩ := X.virtualBack B.1 (y := z) (z := z) hO (mvT hZ w1) (mvT hZ w2) (notFace_of_selects (args := args) (mvT hZ w5)) (mvT hZ w5) (mvT hZ w6) hz (backOf (W := W) M hZ w4 w3 hf hl) qa qc (g := mkF m pc Ls st) rfl (hLs.trans B.2.2.1.symm) (Steps.refl _) (argsL := argsL) (rest := rest) (lenOf hpd hlen) hst (by show 2 * 0 + _ ≤ _; omega) (hb B.2.1 hd) (fun _ _ => ⟨has, eT, hc, hs⟩)
  dsimp only [Pt.U, Pt.locs, Pt.cells, Pt.slots] at X' l' y' z' stp hQ
  subst l' y' z'
  obtain ⟨hC, hN, hK⟩ := hQ
  obtain ⟨t, o, q, r⟩ := k v T'.heap hK hC vm0 k0 T' _ X' hS (Nat.le_trans hk hK.1) (N.app fun u hu => (hN u hu).elim (fun q => hws _ q) fun q => Or.inr (Nat.le_trans (by rw [← eT]; exact B.size X) q)) rfl hV (fun q => nomatch q)
  exact ⟨t, o, stp.trans q, r⟩
theorem BaseQ.callVU (B : BaseQ p l e R s m args below meth c Z y bytes maxL ret h0 ws C false V) (pc' : Nat) (hp : pc' = pc + 3) (hd : decode bytes pc = .ok (.invokevirtual i, 3)) {x : MethodName} {CC ow : String}
    (w1 : (Cond.methodLink y.cls i x).before a0 Z = true) (w0 : (Cond.sameMethod x.cls ow x.name x.desc).before a0 Z = true) (w2 : (Cond.declares ⟨ow, x.name, x.desc⟩).before a0 Z = true) (w5 : (Cond.selects CC x z).before a0 Z = true) (w6 : (Cond.instanceMethod z).before a0 Z = true) (w3 : (Cond.initialized z.cls).before a0 Z = true) (w4 : (Cond.code z cb cm cr).before a0 Z = true)
    (hz : ow ≠ "java/lang/invoke/MethodHandle" ∧ ow ≠ "java/lang/invoke/VarHandle") {a : Addr} (E : Exa Z h a CC) (argsL rest : List Value) (M : Met l Z z cb cm cr [] rm as h ws' C') (has : (.ref a :: argsL).toArray = as) (hst : st = argsL.reverse ++ .ref a :: rest) (hpd : parseMethodDescriptor x.desc = some ⟨ps, rt⟩) (hlen : argsL.length = ps.length) (hLs : Ls.size = maxL)
    (W : Nat) (hW : (rest.map fun v => v.category).sum = W) (hf : rm.frames + 1 ≤ R.frames) (hl : W + (cm + 11) + rm.locals ≤ R.locals) (hc : cl + rm.cells ≤ R.cells) (hs : sl + rm.slots ≤ R.slots) (hws : ∀ x ∈ ws', x ∈ ws ∨ h0.size ≤ x)
    (k : ∀ v h', Keep h h' ws' → C' v h' → B.G h' (cl + rm.cells) (sl + rm.slots) (mkF m pc' Ls (v.toList ++ rest))) : B.G h cl sl (mkF m pc Ls st) := fun vm0 k0 T locs X hS hk N eT hV hF => by
  have hZ := B.warm hS
  have hO := B.own hS
  subst hp
  obtain ⟨cq, kq, qa, qb, qc⟩ := isOf hZ eT E
  obtain ⟨v, _, ⟨T', L', k', n'⟩, -, X', ⟨Lc, hQ, l', y', z'⟩, stp⟩ := X.virtualBackUp B.1 (x := x) (y := z) hO (mvT hZ w1) (mvT hZ w0) (mvT hZ w2) hz (mvT hZ w5) (mvT hZ w6) (backOf (W := W) M hZ w4 w3 hf hl) qa qc (g := mkF m pc Ls st) rfl (hLs.trans B.2.2.1.symm) (Steps.refl _) (argsL := argsL) (rest := rest) (lenOf hpd hlen) hst (by show 2 * 0 + _ ≤ _; omega) (hb B.2.1 hd) (fun _ _ => ⟨has, eT, hc, hs⟩)
  dsimp only [Pt.U, Pt.locs, Pt.cells, Pt.slots] at X' l' y' z' stp hQ
  subst l' y' z'
  obtain ⟨hC, hN, hK⟩ := hQ
  obtain ⟨t, o, q, r⟩ := k v T'.heap hK hC vm0 k0 T' _ X' hS (Nat.le_trans hk hK.1) (N.app fun u hu => (hN u hu).elim (fun q => hws _ q) fun q => Or.inr (Nat.le_trans (by rw [← eT]; exact B.size X) q)) rfl hV (fun q => nomatch q)
  exact ⟨t, o, stp.trans q, r⟩
theorem BaseQ.callP (B : BaseQ p l e R s m args below meth c Z y bytes maxL ret h0 ws C false V) (pc' : Nat) (hp : pc' = pc + 3) (hd : decode bytes pc = .ok (.invokevirtual i, 3)) {x : MethodName} {CC : String}
    (w1 : (Cond.methodLink y.cls i z).before a0 Z = true) (w7 : (Cond.privateMethod z).before a0 Z = true) (w6 : (Cond.instanceMethod z).before a0 Z = true) (w5 : (Cond.selects CC x x).before a0 Z = true) (hxc : x.cls = z.cls) (w3 : (Cond.initialized z.cls).before a0 Z = true) (w4 : (Cond.code z cb cm cr).before a0 Z = true)
    (hz : z.cls ≠ "java/lang/invoke/MethodHandle" ∧ z.cls ≠ "java/lang/invoke/VarHandle") {a : Addr} {CE : String} (E : Exa Z h a CE) (argsL rest : List Value) (M : Met l Z z cb cm cr [] rm as h ws' C') (has : (.ref a :: argsL).toArray = as) (hst : st = argsL.reverse ++ .ref a :: rest) (hpd : parseMethodDescriptor z.desc = some ⟨ps, rt⟩) (hlen : argsL.length = ps.length) (hLs : Ls.size = maxL)
    (W : Nat) (hW : (rest.map fun v => v.category).sum = W) (hf : rm.frames + 1 ≤ R.frames) (hl : W + (cm + 11) + rm.locals ≤ R.locals) (hc : cl + rm.cells ≤ R.cells) (hs : sl + rm.slots ≤ R.slots) (hws : ∀ x ∈ ws', x ∈ ws ∨ h0.size ≤ x)
    (k : ∀ v h', Keep h h' ws' → C' v h' → B.G h' (cl + rm.cells) (sl + rm.slots) (mkF m pc' Ls (v.toList ++ rest))) : B.G h cl sl (mkF m pc Ls st) := fun vm0 k0 T locs X hS hk N eT hV hF => by
  have hZ := B.warm hS
  have hO := B.own hS
  subst hp
  obtain ⟨cq, q1, q2⟩ := E.cell
  have hpr : (s.setVm vm0).PrivateAt z := Cond.privateMethod_at (mvP hZ w7 (args := args))
  have hi : (Cond.instanceMethod z).before args (s.setVm vm0) = true := mvT hZ w6
  have hsel : (Cond.selects z.cls z z).before args (s.setVm vm0) = true := by
    obtain ⟨c2, r2, m2, -, -, q3, -, kP, hkP, hkPi⟩ := Cond.selects_spec (mvT hZ w5 (args := args))
    have hc2 := findClass_of_methodNamed q3
    rw [hxc] at hc2
    exact selects_self_of_private hc2 hkP hkPi hpr hi hz
  obtain ⟨v, _, ⟨T', L', k', n'⟩, -, X', ⟨Lc, hQ, l', y', z'⟩, stp⟩ := X.privateBack B.1 (y := z) hO (mvT hZ w1) hi hsel hpr (mvT hZ w4) hz (backOf (W := W) M hZ w4 w3 hf hl) (g := mkF m pc Ls st) rfl (hLs.trans B.2.2.1.symm) (Steps.refl _) (a := a) (by rw [eT]; exact q1) q2 (argsL := argsL) (rest := rest) (lenOf hpd hlen) hst (by show 2 * 0 + _ ≤ _; omega) (hb B.2.1 hd) (fun _ _ => ⟨has, eT, hc, hs⟩)
  dsimp only [Pt.U, Pt.locs, Pt.cells, Pt.slots] at X' l' y' z' stp hQ
  subst l' y' z'
  obtain ⟨hC, hN, hK⟩ := hQ
  obtain ⟨t, o, q, r⟩ := k v T'.heap hK hC vm0 k0 T' _ X' hS (Nat.le_trans hk hK.1) (N.app fun u hu => (hN u hu).elim (fun q => hws _ q) fun q => Or.inr (Nat.le_trans (by rw [← eT]; exact B.size X) q)) rfl hV (fun q => nomatch q)
  exact ⟨t, o, stp.trans q, r⟩
theorem BaseQ.callII (B : BaseQ p l e R s m args below meth c Z y bytes maxL ret h0 ws C fr (fun vm => IB Z vm [])) (pc' : Nat) (hp : pc' = pc + 3) (hd : decode bytes pc = .ok (.invokespecial i, 3)) (hin : z.name = "<init>")
    (w1 : (Cond.methodLink y.cls i z).before a0 Z = true) (w2 : (Cond.instanceMethod z).before a0 Z = true) (w3 : (Cond.initialized z.cls).before a0 Z = true) (w4 : (Cond.code z cb cm none).before a0 Z = true)
    (hz : z.cls ≠ "java/lang/invoke/MethodHandle" ∧ z.cls ≠ "java/lang/invoke/VarHandle") {a : Addr} (argsL rest : List Value) (M : MetI l Z z cb cm none [] rm as h ws' C') (has : (.ref a :: argsL).toArray = as) (hst : st = argsL.reverse ++ .ref a :: rest) (hpd : parseMethodDescriptor z.desc = some ⟨ps, rt⟩) (hlen : argsL.length = ps.length) (hLs : Ls.size = maxL)
    (W : Nat) (hW : (rest.map fun v => v.category).sum = W) (hf : rm.frames + 1 ≤ R.frames) (hl : W + (cm + 11) + rm.locals ≤ R.locals) (hc : cl + rm.cells ≤ R.cells) (hs : sl + rm.slots ≤ R.slots) (hws : ∀ x ∈ ws', x ∈ ws ∨ h0.size ≤ x)
    (k : ∀ (B' : BaseW p l e R s m args below meth c Z y bytes maxL ret h0 ws C) v h', Keep h h' ws' → C' v h' → B'.G h' (cl + rm.cells) (sl + rm.slots) (mkF m pc' Ls (v.toList ++ rest))) : B.G h cl sl (mkF m pc Ls st) := fun vm0 k0 T locs X hS hk N eT hV hF => by
  have hZ := B.warm hS
  have hO := B.own hS
  subst hp
  obtain ⟨v, _, ⟨T', L', k', n'⟩, -, X', hS2, hgr, ⟨Lc, hQ, l', y', z'⟩, stp⟩ := X.specialBackS B.1 (y := z) hin hO (mvT hZ w1) (mvT hZ w2) (mvT hZ w4) hz (backOfI (W := W) M hZ hV w4 w3 hf hl) (g := mkF m pc Ls st) rfl (hLs.trans B.2.2.1.symm) (Steps.refl _) (a := a) (argsL := argsL) (rest := rest) (lenOf hpd hlen) hst (by show 2 * 0 + _ ≤ _; omega) (hb B.2.1 hd) (fun _ _ => ⟨has, eT, hc, hs⟩)
  dsimp only [Pt.U, Pt.locs, Pt.cells, Pt.slots] at X' hS2 hgr l' y' z' stp hQ
  subst l' y' z'
  obtain ⟨hC, hN, hK⟩ := hQ
  obtain ⟨t, o, q, r⟩ := k B v T'.heap hK hC T'.vm T'.heap.size T' _ X' (hS.trans hS2 (Nat.le_trans hk (by rw [← eT]; exact hgr))) (Nat.le_refl _) (N.app fun u hu => (hN u hu).elim (fun q => hws _ q) fun q => Or.inr (Nat.le_trans (by rw [← eT]; exact B.size X) q)) rfl
  exact ⟨t, o, stp.trans q, r⟩
end Calls
end Walk
/-! 3b. arrays: 'Ary': the array at a holds just the list vs -/
section Arrays
variable {p : Program} {l : Launch} {e : Env} {R : Room} {s : State} {m : MethodId} {args : Array Value} {below : List Frame} {meth : Method} {c : Code} {Z : State} {a0 : Array Value} {y : MethodName} {bytes : ByteArray} {maxL : Nat} {ret : Option FieldType} {h0 : Heap} {ws : List Addr} {C : Option Value → Heap → Prop}
variable {h h' : Heap} {cl sl : Nat} {g g' : JFrame} {pc : Nat} {Ls : Array Slot} {st : List Value} {a b : Addr} {ty : FieldType} {vs : List Value} {j : Int32} {i : Nat} {v w : Value} {wl : List Addr}
theorem BaseQ.arrlen (B : BaseQ p l e R s m args below meth c Z y bytes maxL ret h0 ws C fr V) (pc' : Nat) (hp : pc' = pc + 1) (hd : decode bytes pc = .ok (.arraylength, 1)) (A : Ary Z h a ty vs) (n : Int32) (hn : vs.length.toInt32 = n) (k : B.G h cl sl (mkF m pc' Ls (.int n :: st))) : B.G h cl sl (mkF m pc Ls (.ref a :: st)) := by
  subst hp hn
  obtain ⟨c1, A, rfl⟩ := A
  rw [Array.length_toList] at k
  exact B.viaX (fun vm0 hZ hO T t L X eT r => X.arraylength (g := mkF m pc Ls (.ref a :: st)) B.1 (by rw [eT]; exact A.1) (State.isArrayOf_alike (T := s.setVm vm0) hZ.alike A.2.1) rfl rfl (hb B.2.1 hd) t r) k
theorem BaseQ.baload (B : BaseQ p l e R s m args below meth c Z y bytes maxL ret h0 ws C fr V) (pc' : Nat) (hp : pc' = pc + 1) (hd : decode bytes pc = .ok (.baload, 1)) (A : Ary Z h a .byte vs) (hj : ¬ j < 0) (i : Nat) (hi : j.toNatClampNeg = i) (v : Value) (hv : vs[i]? = some v) (k : B.G h cl sl (mkF m pc' Ls (v :: st))) : B.G h cl sl (mkF m pc Ls (.int j :: .ref a :: st)) := by
  subst hp
  obtain ⟨c1, A, r⟩ := A
  obtain ⟨q1, q2⟩ := ary_in r hj hi hv
  exact B.viaX (fun vm0 hZ hO T t L X eT r => X.baloadBytes (g := mkF m pc Ls (.int j :: .ref a :: st)) B.1 (by rw [eT]; exact A.1) (State.isArrayOf_alike (T := s.setVm vm0) hZ.alike A.2.1) A.2.2 q1 q2 rfl rfl (hb B.2.1 hd) t r) k
theorem BaseQ.iaload (B : BaseQ p l e R s m args below meth c Z y bytes maxL ret h0 ws C fr V) (pc' : Nat) (hp : pc' = pc + 1) (hd : decode bytes pc = .ok (.iaload, 1)) (A : Ary Z h a .int vs) (hj : ¬ j < 0) (i : Nat) (hi : j.toNatClampNeg = i) (v : Value) (hv : vs[i]? = some v) (k : B.G h cl sl (mkF m pc' Ls (v :: st))) : B.G h cl sl (mkF m pc Ls (.int j :: .ref a :: st)) := by
  subst hp
  obtain ⟨c1, A, r⟩ := A
  obtain ⟨q1, q2⟩ := ary_in r hj hi hv
  exact B.viaX (fun vm0 hZ hO T t L X eT r => X.iaload (g := mkF m pc Ls (.int j :: .ref a :: st)) B.1 (by rw [eT]; exact A.1) (State.isArrayOf_alike (T := s.setVm vm0) hZ.alike A.2.1) A.2.2 q1 q2 rfl rfl (hb B.2.1 hd) t r) k
theorem BaseQ.laload (B : BaseQ p l e R s m args below meth c Z y bytes maxL ret h0 ws C fr V) (pc' : Nat) (hp : pc' = pc + 1) (hd : decode bytes pc = .ok (.laload, 1)) (A : Ary Z h a .long vs) (hj : ¬ j < 0) (i : Nat) (hi : j.toNatClampNeg = i) (v : Value) (hv : vs[i]? = some v) (k : B.G h cl sl (mkF m pc' Ls (v :: st))) : B.G h cl sl (mkF m pc Ls (.int j :: .ref a :: st)) := by
  subst hp
  obtain ⟨c1, A, r⟩ := A
  obtain ⟨q1, q2⟩ := ary_in r hj hi hv
  exact B.viaX (fun vm0 hZ hO T t L X eT r => X.laload (g := mkF m pc Ls (.int j :: .ref a :: st)) B.1 (by rw [eT]; exact A.1) (State.isArrayOf_alike (T := s.setVm vm0) hZ.alike A.2.1) A.2.2 q1 q2 rfl rfl (hb B.2.1 hd) t r) k
theorem BaseQ.newP (B : BaseQ p l e R s m args below meth c Z y bytes maxL ret h0 ws C fr V) (pc' : Nat) (hp : pc' = pc + 2) {aty : ArrayType} (hd : decode bytes pc = .ok (.newarray aty, 2)) (w : (Cond.arrayClass (newarray.typeOf aty)).before a0 Z = true) {n : Int32} (hn : ¬ n < 0) (cap : Nat) (hcap : n.toNatClampNeg ≤ cap) (hb' : cap * 8 ≤ 536870912) (hc : cl + 1 ≤ R.cells) (hs : sl + cap ≤ R.slots)
    (k : ∀ h' a, a = h.size → h0.size ≤ a → Ext h h' → Ary Z h' a (newarray.typeOf aty) (List.replicate n.toNatClampNeg (defaultValue (newarray.typeOf aty))) → B.G h' (cl + 1) (sl + cap) (mkF m pc' Ls (.ref a :: st))) : B.G h cl sl (mkF m pc Ls (.int n :: st)) := fun vm0 k0 T locs X hS hk N eT hV hF => by
  have hZ := B.warm hS
  have hO := B.own hS
  subst hp
  obtain ⟨T', h', cA, X', e', E, A, stp⟩ := Jvm.RoadKit.newP X B.1 hZ w eT (g := mkF m pc Ls (.int n :: st)) rfl (hb B.2.1 hd) rfl hn hcap hb' hc hs
  obtain ⟨t, o, q, r⟩ := k h' _ rfl (by rw [← eT]; exact B.size X) E (Ary.new A) vm0 k0 T' locs X' hS (Nat.le_trans hk E.1) N e' hV hF
  exact ⟨t, o, stp _ q, r⟩
theorem BaseQ.bastore (B : BaseQ p l e R s m args below meth c Z y bytes maxL ret h0 ws C false V) (pc' : Nat) (hp : pc' = pc + 1) (hd : decode bytes pc = .ok (.bastore, 1)) (A : Ary Z h a .byte vs) (hj : ¬ j < 0) (i : Nat) (hi : j.toNatClampNeg = i) (hlt : i < vs.length) (hw : a ∈ ws ∨ h0.size ≤ a) {x : Int32} (k : ∀ h', Wr h h' a i (.int x.toInt8.toInt32) → Ary Z h' a .byte (vs.set i (.int x.toInt8.toInt32)) → B.G h' cl sl (mkF m pc' Ls st)) : B.G h cl sl (mkF m pc Ls (.int x :: .int j :: .ref a :: st)) := fun vm0 k0 T locs X hS hk N eT hV hF => by
  have hZ := B.warm hS
  have hO := B.own hS
  subst hp
  obtain ⟨c1, A1, r1⟩ := A
  obtain ⟨T', h', X', e', W, stp⟩ := stB X B.1 hZ eT A1 (ary_lt r1 hj hi hlt) (g := mkF m pc Ls (.int x :: .int j :: .ref a :: st)) rfl rfl (hb B.2.1 hd)
  rw [hi] at W
  obtain ⟨t, o, q, r⟩ := k h' W (Ary.set ⟨c1, A1, r1⟩ W) vm0 k0 T' _ X' hS (by rw [W.size]; exact hk) (N.one hw) e' hV (fun q => nomatch q)
  exact ⟨t, o, stp _ q, r⟩
theorem BaseQ.iastore (B : BaseQ p l e R s m args below meth c Z y bytes maxL ret h0 ws C false V) (pc' : Nat) (hp : pc' = pc + 1) (hd : decode bytes pc = .ok (.iastore, 1)) (A : Ary Z h a .int vs) (hj : ¬ j < 0) (i : Nat) (hi : j.toNatClampNeg = i) (hlt : i < vs.length) (hw : a ∈ ws ∨ h0.size ≤ a) {x : Int32} (k : ∀ h', Wr h h' a i (.int x) → Ary Z h' a .int (vs.set i (.int x)) → B.G h' cl sl (mkF m pc' Ls st)) : B.G h cl sl (mkF m pc Ls (.int x :: .int j :: .ref a :: st)) := fun vm0 k0 T locs X hS hk N eT hV hF => by
  have hZ := B.warm hS
  have hO := B.own hS
  subst hp
  obtain ⟨c1, A1, r1⟩ := A
  obtain ⟨T', h', X', e', W, stp⟩ := stI X B.1 hZ eT A1 (ary_lt r1 hj hi hlt) (g := mkF m pc Ls (.int x :: .int j :: .ref a :: st)) rfl rfl (hb B.2.1 hd)
  rw [hi] at W
  obtain ⟨t, o, q, r⟩ := k h' W (Ary.set ⟨c1, A1, r1⟩ W) vm0 k0 T' _ X' hS (by rw [W.size]; exact hk) (N.one hw) e' hV (fun q => nomatch q)
  exact ⟨t, o, stp _ q, r⟩
theorem BaseQ.lastore (B : BaseQ p l e R s m args below meth c Z y bytes maxL ret h0 ws C false V) (pc' : Nat) (hp : pc' = pc + 1) (hd : decode bytes pc = .ok (.lastore, 1)) (A : Ary Z h a .long vs) (hj : ¬ j < 0) (i : Nat) (hi : j.toNatClampNeg = i) (hlt : i < vs.length) (hw : a ∈ ws ∨ h0.size ≤ a) {x : Int64} (k : ∀ h', Wr h h' a i (.long x) → Ary Z h' a .long (vs.set i (.long x)) → B.G h' cl sl (mkF m pc' Ls st)) : B.G h cl sl (mkF m pc Ls (.long x :: .int j :: .ref a :: st)) := fun vm0 k0 T locs X hS hk N eT hV hF => by
  have hZ := B.warm hS
  have hO := B.own hS
  subst hp
  obtain ⟨c1, A1, r1⟩ := A
  obtain ⟨T', h', X', e', W, stp⟩ := stJ X B.1 hZ eT A1 (ary_lt r1 hj hi hlt) (g := mkF m pc Ls (.long x :: .int j :: .ref a :: st)) rfl rfl (hb B.2.1 hd)
  rw [hi] at W
  obtain ⟨t, o, q, r⟩ := k h' W (Ary.set ⟨c1, A1, r1⟩ W) vm0 k0 T' _ X' hS (by rw [W.size]; exact hk) (N.one hw) e' hV (fun q => nomatch q)
  exact ⟨t, o, stp _ q, r⟩
theorem BaseQ.caload (B : BaseQ p l e R s m args below meth c Z y bytes maxL ret h0 ws C fr V) (pc' : Nat) (hp : pc' = pc + 1) (hd : decode bytes pc = .ok (.caload, 1)) (A : Ary Z h a .char vs) (hj : ¬ j < 0) (i : Nat) (hi : j.toNatClampNeg = i) (v : Value) (hv : vs[i]? = some v) (k : B.G h cl sl (mkF m pc' Ls (v :: st))) : B.G h cl sl (mkF m pc Ls (.int j :: .ref a :: st)) := by
  subst hp
  obtain ⟨c1, A, r⟩ := A
  obtain ⟨q1, q2⟩ := ary_in r hj hi hv
  exact B.viaX (fun vm0 hZ hO T t L X eT r => X.caload (g := mkF m pc Ls (.int j :: .ref a :: st)) B.1 (by rw [eT]; exact A.1) (State.isArrayOf_alike (T := s.setVm vm0) hZ.alike A.2.1) A.2.2 q1 q2 rfl rfl (hb B.2.1 hd) t r) k
theorem BaseQ.castore (B : BaseQ p l e R s m args below meth c Z y bytes maxL ret h0 ws C false V) (pc' : Nat) (hp : pc' = pc + 1) (hd : decode bytes pc = .ok (.castore, 1)) (A : Ary Z h a .char vs) (hj : ¬ j < 0) (i : Nat) (hi : j.toNatClampNeg = i) (hlt : i < vs.length) (hw : a ∈ ws ∨ h0.size ≤ a) {x : Int32} (k : ∀ h', Wr h h' a i (.int x.toUInt32.toUInt16.toUInt32.toInt32) → Ary Z h' a .char (vs.set i (.int x.toUInt32.toUInt16.toUInt32.toInt32)) → B.G h' cl sl (mkF m pc' Ls st)) : B.G h cl sl (mkF m pc Ls (.int x :: .int j :: .ref a :: st)) := fun vm0 k0 T locs X hS hk N eT hV hF => by
  have hZ := B.warm hS
  have hO := B.own hS
  subst hp
  obtain ⟨c1, A1, r1⟩ := A
  obtain ⟨T', h', X', e', W, stp⟩ := stC X B.1 hZ eT A1 (ary_lt r1 hj hi hlt) (g := mkF m pc Ls (.int x :: .int j :: .ref a :: st)) rfl rfl (hb B.2.1 hd)
  rw [hi] at W
  obtain ⟨t, o, q, r⟩ := k h' W (Ary.set ⟨c1, A1, r1⟩ W) vm0 k0 T' _ X' hS (by rw [W.size]; exact hk) (N.one hw) e' hV (fun q => nomatch q)
  exact ⟨t, o, stp _ q, r⟩
theorem BaseQ.newPE (B : BaseQ p l e R s m args below meth c Z y bytes maxL ret h0 ws C fr V) (pc' : Nat) (hp : pc' = pc + 2) {aty : ArrayType} (hd : decode bytes pc = .ok (.newarray aty, 2)) (w : (Cond.arrayClass (newarray.typeOf aty)).before a0 Z = true) {n : Int32} (hn : ¬ n < 0) (cap : Nat) (hcap : n.toNatClampNeg ≤ cap) (hb' : cap * 8 ≤ 536870912) (hc : cl + 1 ≤ R.cells) (hs : sl + cap ≤ R.slots) (ad : String) (had : "[" ++ (newarray.typeOf aty).toString = ad)
    (k : ∀ h' a, a = h.size → h0.size ≤ a → Ext h h' → Ary Z h' a (newarray.typeOf aty) (List.replicate n.toNatClampNeg (defaultValue (newarray.typeOf aty))) → Exa Z h' a ad → B.G h' (cl + 1) (sl + cap) (mkF m pc' Ls (.ref a :: st))) : B.G h cl sl (mkF m pc Ls (.int n :: st)) := fun vm0 k0 T locs X hS hk N eT hV hF => by
  have hZ := B.warm hS
  have hO := B.own hS
  subst hp
  obtain ⟨T', h', cA, X', e', E, A, A2, stp⟩ := Jvm.RoadKit.newPE X B.1 hZ w eT (g := mkF m pc Ls (.int n :: st)) rfl (hb B.2.1 hd) rfl hn hcap hb' hc hs had
  obtain ⟨t, o, q, r⟩ := k h' _ rfl (by rw [← eT]; exact B.size X) E (Ary.new A) A2 vm0 k0 T' locs X' hS (Nat.le_trans hk E.1) N e' hV hF
  exact ⟨t, o, stp _ q, r⟩
theorem BaseQ.clone (B : BaseQ p l e R s m args below meth c Z y bytes maxL ret h0 ws C fr V) (pc' : Nat) (hp : pc' = pc + 3) {ix : Nat} {ad : String} (hd : decode bytes pc = .ok (.invokevirtual ix, 3))
    (w1 : (Cond.methodLink y.cls ix ⟨ad, "clone", "()Ljava/lang/Object;"⟩).before a0 Z = true) (w2 : (Cond.sameMethod ad "java/lang/Object" "clone" "()Ljava/lang/Object;").before a0 Z = true) (w3 : (Cond.native ⟨"java/lang/Object", "clone", "()Ljava/lang/Object;"⟩).before a0 Z = true)
    (w4 : (Cond.instanceMethod ⟨"java/lang/Object", "clone", "()Ljava/lang/Object;"⟩).before a0 Z = true) (w5 : (Cond.selects ad ⟨ad, "clone", "()Ljava/lang/Object;"⟩ ⟨"java/lang/Object", "clone", "()Ljava/lang/Object;"⟩).before a0 Z = true) (w6 : (Cond.castable ad "java/lang/Cloneable").before a0 Z = true)
    (A : Ary Z h a ty vs) (E : Exa Z h a ad) (hfit : ∀ v ∈ vs, fits ty v = true) (hLs : Ls.size = maxL) (W : Nat) (hW : (st.map fun v => v.category).sum = W) (hf : 1 ≤ R.frames) (hl : W + 14 ≤ R.locals) (cap : Nat) (hcap : vs.length ≤ cap) (hc : cl + 1 ≤ R.cells) (hs : sl + cap ≤ R.slots)
    (k : ∀ h' b, b = h.size → h0.size ≤ b → Ext h h' → Ary Z h' b ty vs → Exa Z h' b ad → B.G h' (cl + 1) (sl + cap) (mkF m pc' Ls (.ref b :: st))) : B.G h cl sl (mkF m pc Ls (.ref a :: st)) := fun vm0 k0 T locs X hS hk N eT hV hF => by
  have hZ := B.warm hS
  have hO := B.own hS
  subst hp
  obtain ⟨c1, A1, r1⟩ := A
  have FC : FitC Z c1 := fitC_of A1 fun i hi v hv => hfit v (by rw [← r1]; exact Array.mem_toList_iff.mpr (Array.mem_of_getElem? hv))
  obtain ⟨T', h', X', e', ex, A', E', stp⟩ := cloneA X B.1 hZ hO w1 w2 w3 w4 w5 w6 eT A1 E FC (g := mkF m pc Ls (.ref a :: st)) rfl (hLs.trans B.2.2.1.symm) rfl (hb B.2.1 hd) hf (W := W) (cap := cap) (by show 2 * 0 + _ ≤ _; omega) hl (by rw [← r1, Array.length_toList] at hcap; exact hcap) hc hs
  obtain ⟨t, o, q, r⟩ := k h' _ rfl (by rw [← eT]; exact B.size X) ex ⟨_, A', r1⟩ E' vm0 k0 T' locs X' hS (Nat.le_trans hk ex.1) N e' hV hF
  exact ⟨t, o, stp _ q, r⟩
theorem BaseQ.castY (B : BaseQ p l e R s m args below meth c Z y bytes maxL ret h0 ws C fr V) (pc' : Nat) (hp : pc' = pc + 3) {ix : Nat} {K : String} (hd : decode bytes pc = .ok (.checkcast ix, 3)) (w : (Cond.classLink y.cls ix K).before a0 Z = true) (F : Ins Z h a K true) (k : B.G h cl sl (mkF m pc' Ls (.ref a :: st))) : B.G h cl sl (mkF m pc Ls (.ref a :: st)) := fun vm0 k0 T locs X hS hk N eT hV hF => by
  have hZ := B.warm hS
  have hO := B.own hS
  subst hp
  obtain ⟨T', X', e', stp⟩ := Jvm.RoadKit.castY X B.1 hZ hO w eT F (g := mkF m pc Ls (.ref a :: st)) rfl rfl (hb B.2.1 hd)
  obtain ⟨t, o, q, r⟩ := k vm0 k0 T' locs X' hS hk N e' hV hF
  exact ⟨t, o, stp _ q, r⟩
theorem BaseQ.instY (B : BaseQ p l e R s m args below meth c Z y bytes maxL ret h0 ws C fr V) (pc' : Nat) (hp : pc' = pc + 3) {ix : Nat} {K : String} (hd : decode bytes pc = .ok (.instanceof ix, 3)) (w : (Cond.classLink y.cls ix K).before a0 Z = true) (F : Ins Z h a K true) (k : B.G h cl sl (mkF m pc' Ls (.int 1 :: st))) : B.G h cl sl (mkF m pc Ls (.ref a :: st)) := fun vm0 k0 T locs X hS hk N eT hV hF => by
  have hZ := B.warm hS
  have hO := B.own hS
  subst hp
  obtain ⟨T', X', e', stp⟩ := Jvm.RoadKit.instY X B.1 hZ hO w eT F (g := mkF m pc Ls (.ref a :: st)) rfl rfl (hb B.2.1 hd)
  obtain ⟨t, o, q, r⟩ := k vm0 k0 T' locs X' hS hk N e' hV hF
  exact ⟨t, o, stp _ q, r⟩
theorem BaseQ.instN (B : BaseQ p l e R s m args below meth c Z y bytes maxL ret h0 ws C fr V) (pc' : Nat) (hp : pc' = pc + 3) {ix : Nat} {K CC : String} (hd : decode bytes pc = .ok (.instanceof ix, 3)) (w : (Cond.classLink y.cls ix K).before a0 Z = true) (E : Exa Z h a CC) (F : ∃ c t, Z.vm.findClass CC = some c ∧ Z.vm.findClass K = some t ∧ Z.vm.assignable c t = false) (k : B.G h cl sl (mkF m pc' Ls (.int 0 :: st))) : B.G h cl sl (mkF m pc Ls (.ref a :: st)) := fun vm0 k0 T locs X hS hk N eT hV hF => by
  have hZ := B.warm hS
  have hO := B.own hS
  subst hp
  obtain ⟨T', X', e', stp⟩ := instNo X B.1 hZ hO w eT E F (g := mkF m pc Ls (.ref a :: st)) rfl rfl (hb B.2.1 hd)
  obtain ⟨t, o, q, r⟩ := k vm0 k0 T' locs X' hS hk N e' hV hF
  exact ⟨t, o, stp _ q, r⟩
theorem BaseQ.inst0 (B : BaseQ p l e R s m args below meth c Z y bytes maxL ret h0 ws C fr V) (pc' : Nat) (hp : pc' = pc + 3) {ix : Nat} (hd : decode bytes pc = .ok (.instanceof ix, 3)) (k : B.G h cl sl (mkF m pc' Ls (.int 0 :: st))) : B.G h cl sl (mkF m pc Ls (.null :: st)) := by
  subst hp
  exact B.viaX (fun vm0 hZ hO T t L X eT r => X.instanceofNull B.1 (g := mkF m pc Ls (.null :: st)) rfl rfl (hb B.2.1 hd) t r) k
theorem BaseQ.aaload (B : BaseQ p l e R s m args below meth c Z y bytes maxL ret h0 ws C fr V) (pc' : Nat) (hp : pc' = pc + 1) (hd : decode bytes pc = .ok (.aaload, 1)) (A : Ary Z h a ty vs) (hty : ty.isReference = true) (hj : ¬ j < 0) (i : Nat) (hi : j.toNatClampNeg = i) (v : Value) (hv : vs[i]? = some v) (k : B.G h cl sl (mkF m pc' Ls (v :: st))) : B.G h cl sl (mkF m pc Ls (.int j :: .ref a :: st)) := by
  subst hp
  obtain ⟨c1, A, r⟩ := A
  obtain ⟨q1, q2⟩ := ary_in r hj hi hv
  exact B.viaX (fun vm0 hZ hO T t L X eT r => X.aaload (g := mkF m pc Ls (.int j :: .ref a :: st)) B.1 (by rw [eT]; exact A.1) (State.isArrayOf_alike (T := s.setVm vm0) hZ.alike A.2.1) hty A.2.2 q1 q2 rfl rfl (hb B.2.1 hd) t r) k
end Arrays
end Jvm.Own
namespace Jvm.Pilot.@@N@@
open Jvm Jvm.ClassFile Sem Op Lib Jvm.Free Jvm.Stand Jvm.LawKit Jvm.RoadKit Jvm.Own Bundle Jvm.Pilot.@@N@@.Jvm.D
theorem own_strs : ∀ d ∈ Bundle.stringAtoms, d ∈ tables_1 := by decide +kernel
theorem pd__IIILjava_util_function_BiFunction__I : parseMethodDescriptor "(IIILjava/util/function/BiFunction;)I" = some ⟨[.int, .int, .int, (.object "java/util/function/BiFunction")], some .int⟩ := by decide +kernel
theorem pd__III_V : parseMethodDescriptor "(III)V" = some ⟨[.int, .int, .int], none⟩ := by decide +kernel
theorem pd__II_B_V : parseMethodDescriptor "(II[B)V" = some ⟨[.int, .int, (.array .byte)], none⟩ := by decide +kernel
theorem pd__II_I : parseMethodDescriptor "(II)I" = some ⟨[.int, .int], some .int⟩ := by decide +kernel
theorem pd__I_C : parseMethodDescriptor "(I)C" = some ⟨[.int], some .char⟩ := by decide +kernel
theorem pd__I_I : parseMethodDescriptor "(I)I" = some ⟨[.int], some .int⟩ := by decide +kernel
theorem pd__I_Z : parseMethodDescriptor "(I)Z" = some ⟨[.int], some .boolean⟩ := by decide +kernel
theorem pd__I__B : parseMethodDescriptor "(I)[B" = some ⟨[.int], some (.array .byte)⟩ := by decide +kernel
theorem pd__Ljava_lang_String__Z : parseMethodDescriptor "(Ljava/lang/String;)Z" = some ⟨[(.object "java/lang/String")], some .boolean⟩ := by decide +kernel
theorem pd___B : parseMethodDescriptor "()B" = some ⟨[], some .byte⟩ := by decide +kernel
theorem pd___BIII_I : parseMethodDescriptor "([BIII)I" = some ⟨[(.array .byte), .int, .int, .int], some .int⟩ := by decide +kernel
theorem pd___BII_V : parseMethodDescriptor "([BII)V" = some ⟨[(.array .byte), .int, .int], none⟩ := by decide +kernel
theorem pd___BI_B : parseMethodDescriptor "([BI)B" = some ⟨[(.array .byte), .int], some .byte⟩ := by decide +kernel
theorem pd___BI_C : parseMethodDescriptor "([BI)C" = some ⟨[(.array .byte), .int], some .char⟩ := by decide +kernel
theorem pd___B_I : parseMethodDescriptor "([B)I" = some ⟨[(.array .byte)], some .int⟩ := by decide +kernel
theorem pd___CIILjava_lang_Void__V : parseMethodDescriptor "([CIILjava/lang/Void;)V" = some ⟨[(.array .char), .int, .int, (.object "java/lang/Void")], none⟩ := by decide +kernel
theorem pd___CII__B : parseMethodDescriptor "([CII)[B" = some ⟨[(.array .char), .int, .int], some (.array .byte)⟩ := by decide +kernel
theorem pd___CI_BII_I : parseMethodDescriptor "([CI[BII)I" = some ⟨[(.array .char), .int, (.array .byte), .int, .int], some .int⟩ := by decide +kernel
theorem pd___C_V : parseMethodDescriptor "([C)V" = some ⟨[(.array .char)], none⟩ := by decide +kernel
theorem pd___I : parseMethodDescriptor "()I" = some ⟨[], some .int⟩ := by decide +kernel
theorem pd___Z : parseMethodDescriptor "()Z" = some ⟨[], some .boolean⟩ := by decide +kernel
def isC (x : Int32) : Prop := x.toUInt32.toUInt16.toUInt32.toInt32 = x
theorem own_ic (x : Int32) : isC x.toUInt32.toUInt16.toUInt32.toInt32 := by simp only [isC, UInt32.toUInt32_toInt32, UInt16.toUInt16_toUInt32]
theorem own_b (x : Int32) : x.toInt8.toInt32.toInt8.toInt32 = x.toInt8.toInt32 := by simp
def own_lo (x : Int32) : Int32 := (x >>> ((0 : Int32) &&& 31)).toInt8.toInt32
def own_hi (x : Int32) : Int32 := (x >>> ((8 : Int32) &&& 31)).toInt8.toInt32
theorem own_gc (x : Int32) (hx : isC x) : (((own_lo x &&& (255 : Int32)) <<< ((0 : Int32) &&& 31)) ||| ((own_hi x &&& (255 : Int32)) <<< ((8 : Int32) &&& 31))).toUInt32.toUInt16.toUInt32.toInt32 = x := by
  obtain ⟨-, r1, r2⟩ := c_i2c x
  rw [show x.toUInt32.toUInt16.toUInt32.toInt32 = x from hx] at r1 r2
  have a1 := c_ishr x 0 0 (by decide)
  have a2 := c_i2b (x >>> ((0 : Int32) &&& 31))
  have a3 := c_mask (own_lo x) 255 8 (by decide) (by decide)
  have a4 := c_ishl (own_lo x &&& 255) 0 0 (by decide)
  have b1 := c_ishr x 8 8 (by decide)
  have b2 := c_i2b (x >>> ((8 : Int32) &&& 31))
  have b3 := c_mask (own_hi x) 255 8 (by decide) (by decide)
  have b4 := c_ishl (own_hi x &&& 255) 8 8 (by decide)
  have l1 := Int32.le_toInt ((own_lo x &&& 255) <<< ((0 : Int32) &&& 31))
  have l2 := Int32.toInt_lt ((own_lo x &&& 255) <<< ((0 : Int32) &&& 31))
  have m1 := Int32.le_toInt ((own_hi x &&& 255) <<< ((8 : Int32) &&& 31))
  have m2 := Int32.toInt_lt ((own_hi x &&& 255) <<< ((8 : Int32) &&& 31))
  have e1 : (own_lo x) = (x >>> ((0 : Int32) &&& 31)).toInt8.toInt32 := rfl
  have e2 : (own_hi x) = (x >>> ((8 : Int32) &&& 31)).toInt8.toInt32 := rfl
  rw [← e1] at a2
  rw [← e2] at b2
  generalize own_lo x = lo at *
  generalize own_hi x = hi at *
  generalize hA : (lo &&& 255) <<< ((0 : Int32) &&& 31) = A at *
  generalize hB : (hi &&& 255) <<< ((8 : Int32) &&& 31) = B at *
  have k1 : A.toInt = x.toInt % 256 := by
    simp only [Nat.reducePow, Int.reducePow] at *
    omega
  have k2 : B.toInt = x.toInt / 256 * 256 := by
    simp only [Nat.reducePow, Int.reducePow] at *
    omega
  have o := c_or' A B 8 (by decide) 256 rfl (by omega) (by omega) (by omega)
  have t1 := Int32.le_toInt (A ||| B)
  have t2 := Int32.toInt_lt (A ||| B)
  obtain ⟨s1, s2, s3⟩ := c_i2c (A ||| B)
  rw [← Int32.toInt_inj]
  omega
theorem own_gc2 (x : Int32) (hx : isC x) : nar .char (((own_lo x &&& (255 : Int32)) <<< ((0 : Int32) &&& 31)) ||| ((own_hi x &&& (255 : Int32)) <<< ((8 : Int32) &&& 31))).toUInt32.toUInt16.toUInt32.toInt32 = x := by rw [own_gc x hx]; exact hx
theorem own_ne {Z : State} {a0 : Array Value} {h : Heap} {a b : Addr} {CC : String} {n : Nat} {ty : FieldType} {vs : List Value} (E : Exa Z h a CC) (wi : (Cond.instantiable CC n).before a0 Z = true) (A : Ary Z h b ty vs) : b ≠ a := by
  rintro rfl
  obtain ⟨c, A, -⟩ := A
  obtain ⟨c1, k1, e1, e2, e3, e4, e5⟩ := E
  obtain ⟨cc, k, g1, g2, g5, -⟩ := Cond.instantiable_spec wi
  cases A.1.symm.trans e1
  obtain ⟨-, k2, hk2, comp, hkind⟩ := A.2.1
  cases e2.symm.trans g1
  cases hk2.symm.trans g2
  rw [g5] at hkind
  cases hkind
theorem own_m4 (x : Int32) : x &&& 3 = 0 ∨ x &&& 3 = 1 ∨ x &&& 3 = 2 ∨ x &&& 3 = 3 := by
  have h : (x &&& 3).toInt = x.toInt % 2 ^ 2 := Jvm.Kit.i32_mask x 3 (k := 2) (by decide) (by decide)
  simp only [← Int32.toInt_inj, Int32.reduceToInt]
  omega
def own_ix1 (x0 : Int32) : Int32 := (if x0 = 65533 then 0 else (-1) : Int32)
def own_ix2 (x0 x1 : Int32) : Int32 := (if x0 = 65533 then 0 else if x1 = 65533 then 1 else (-1) : Int32)
def own_ix3 (x0 x1 x2 : Int32) : Int32 := (if x0 = 65533 then 0 else if x1 = 65533 then 1 else if x2 = 65533 then 2 else (-1) : Int32)
theorem own_stk {Z : State} {h h' : Heap} {a : Addr} {O n d K : String} {v : Value} (S : Sta Z h O n d v) (E : Exa Z h a K) (K1 : Keep h h' [a]) : Sta Z h' O n d v := by
  obtain ⟨cf, i, k, f, st, cell, h1, h2, h3, h4, h5, h6, h7⟩ := S
  refine ⟨cf, i, k, f, st, cell, h1, h2, h3, h4, K1.2.1 _ _ h5 ?_, h6, h7⟩
  intro q
  cases List.mem_singleton.mp q
  obtain ⟨c, kk, e1, e2, e3, e4, e5⟩ := E
  cases h5.symm.trans e1
  simp_all
theorem own_ke {h h' : Heap} (K : Keep h h' []) : Ext h h' := ⟨K.1, fun a c q => K.2.1 a c q (by simp)⟩
theorem own_ext2 {h h' h'' : Heap} (X : Ext h h') (Y : Ext h' h'') : Ext h h'' := ⟨Nat.le_trans X.1 Y.1, fun a c q => Y.2 a c (X.2 a c q)⟩
theorem own_kx {h h' h'' : Heap} {b : Addr} (X : Ext h h') (K : Keep h' h'' [b]) (g : h.size ≤ b) : Ext h h'' := ⟨Nat.le_trans X.1 K.1, fun a c q => K.2.1 a c (X.2 a c q) (fun z => by cases List.mem_singleton.mp z; exact absurd (Array.getElem?_eq_some_iff.mp q).1 (Nat.not_lt.mpr g))⟩
theorem own_rv {args : Array Value} {s : State} {t : Term} (q : (Cond.isRef t).value args s none s [] = some true) : ∃ v : Value, t.eval args s none [] s = some v ∧ v.isRef = true := by
  cases hv : t.eval args s none [] s with
  | none => simp [Cond.value, hv] at q
  | some v => exact ⟨v, rfl, by cases v <;> simp_all [Cond.value, Value.isRef]⟩
theorem d23_0 : decode jdk_29_method_69_code 0 = .ok (.iload_n 0, 1) := by decide +kernel
theorem d23_1 : decode jdk_29_method_69_code 1 = .ok (.iload_n 1, 1) := by decide +kernel
theorem d23_2 : decode jdk_29_method_69_code 2 = .ok (.if_icmp .gt 7, 3) := by decide +kernel
theorem d23_5 : decode jdk_29_method_69_code 5 = .ok (.iload_n 0, 1) := by decide +kernel
theorem d23_6 : decode jdk_29_method_69_code 6 = .ok (.goto 4, 3) := by decide +kernel
theorem d23_9 : decode jdk_29_method_69_code 9 = .ok (.iload_n 1, 1) := by decide +kernel
theorem d23_10 : decode jdk_29_method_69_code 10 = .ok (.ireturn, 1) := by decide +kernel
theorem pn_23 : plainFor (⟨"java/lang/Math", "min", "(II)I"⟩ : MethodName) = true := by first | exact plainFor_of_name (by first | (simp [plainName, overriddenIn]; done) | decide +kernel) | decide +kernel
set_option maxRecDepth 65536 in
set_option maxHeartbeats 4000000 in
theorem rm_min (l : Launch) (Z : State) (a0 : Array Value) (hw : ∀ d ∈ tables_1, d.before a0 Z = true) (x1 y1 : Int32) (h0 : Heap)  :
    Met l Z (⟨"java/lang/Math", "min", "(II)I"⟩ : MethodName) jdk_29_method_69_code 2 (some .int) [] ({ frames := 0, cells := 0, slots := 0, locals := 0 } : Room) #[(.int x1), (.int y1)] h0 [] (fun v h => v = some (.int (if y1 < x1 then y1 else x1)) ∧ h0 = h) := by
  refine Met.walk pn_23 (Ls := #[.val (.int x1), .val (.int y1)]) (fun m => by first | (simp [entryFrame, mkF, argsToLocals, Value.category, maxLocals]; done) | rfl) ?_
  intro p e s m below meth c B
  refine B.iloadN 1 rfl d23_0 rfl ?_
  refine B.iloadN 2 rfl d23_1 rfl ?_
  refine B.icmp_gt 9 5 rfl (by decide) rfl d23_2 (fun c2 => ?_) (fun c2 => ?_)
  · refine B.iloadN 10 rfl d23_9 rfl ?_
    refine B.retI d23_10 (by decide) (by decide) ?_
    exact ⟨by simp [c2], rfl⟩
  · refine B.iloadN 6 rfl d23_5 rfl ?_
    refine B.goto 10 rfl (by decide) d23_6 ?_
    refine B.retI d23_10 (by decide) (by decide) ?_
    exact ⟨by simp [c2], rfl⟩
theorem d22_0 : decode jdk_29_method_65_code 0 = .ok (.iload_n 0, 1) := by decide +kernel
theorem d22_1 : decode jdk_29_method_65_code 1 = .ok (.iload_n 1, 1) := by decide +kernel
theorem d22_2 : decode jdk_29_method_65_code 2 = .ok (.if_icmp .lt 7, 3) := by decide +kernel
theorem d22_5 : decode jdk_29_method_65_code 5 = .ok (.iload_n 0, 1) := by decide +kernel
theorem d22_6 : decode jdk_29_method_65_code 6 = .ok (.goto 4, 3) := by decide +kernel
theorem d22_9 : decode jdk_29_method_65_code 9 = .ok (.iload_n 1, 1) := by decide +kernel
theorem d22_10 : decode jdk_29_method_65_code 10 = .ok (.ireturn, 1) := by decide +kernel
theorem pn_22 : plainFor (⟨"java/lang/Math", "max", "(II)I"⟩ : MethodName) = true := by first | exact plainFor_of_name (by first | (simp [plainName, overriddenIn]; done) | decide +kernel) | decide +kernel
set_option maxRecDepth 65536 in
set_option maxHeartbeats 4000000 in
theorem rm_max (l : Launch) (Z : State) (a0 : Array Value) (hw : ∀ d ∈ tables_1, d.before a0 Z = true) (x1 y1 : Int32) (h0 : Heap)  :
    Met l Z (⟨"java/lang/Math", "max", "(II)I"⟩ : MethodName) jdk_29_method_65_code 2 (some .int) [] ({ frames := 0, cells := 0, slots := 0, locals := 0 } : Room) #[(.int x1), (.int y1)] h0 [] (fun v h => v = some (.int (if x1 < y1 then y1 else x1)) ∧ h0 = h) := by
  refine Met.walk pn_22 (Ls := #[.val (.int x1), .val (.int y1)]) (fun m => by first | (simp [entryFrame, mkF, argsToLocals, Value.category, maxLocals]; done) | rfl) ?_
  intro p e s m below meth c B
  refine B.iloadN 1 rfl d22_0 rfl ?_
  refine B.iloadN 2 rfl d22_1 rfl ?_
  refine B.icmp_lt 9 5 rfl (by decide) rfl d22_2 (fun c2 => ?_) (fun c2 => ?_)
  · refine B.iloadN 10 rfl d22_9 rfl ?_
    refine B.retI d22_10 (by decide) (by decide) ?_
    exact ⟨by simp [c2], rfl⟩
  · refine B.iloadN 6 rfl d22_5 rfl ?_
    refine B.goto 10 rfl (by decide) d22_6 ?_
    refine B.retI d22_10 (by decide) (by decide) ?_
    exact ⟨by simp [c2], rfl⟩
theorem d1_0 : decode method_2_code 0 = .ok (.iload_n 0, 1) := by decide +kernel
theorem d1_1 : decode method_2_code 1 = .ok (.ldc 7, 2) := by decide +kernel
theorem d1_3 : decode method_2_code 3 = .ok (.iand, 1) := by decide +kernel
theorem d1_4 : decode method_2_code 4 = .ok (.ifCond .eq 11, 3) := by decide +kernel
theorem d1_7 : decode method_2_code 7 = .ok (.ldc 8, 2) := by decide +kernel
theorem d1_9 : decode method_2_code 9 = .ok (.iload_n 0, 1) := by decide +kernel
theorem d1_10 : decode method_2_code 10 = .ok (.iconst 3, 1) := by decide +kernel
theorem d1_11 : decode method_2_code 11 = .ok (.iand, 1) := by decide +kernel
theorem d1_12 : decode method_2_code 12 = .ok (.iadd, 1) := by decide +kernel
theorem d1_13 : decode method_2_code 13 = .ok (.i2c, 1) := by decide +kernel
theorem d1_14 : decode method_2_code 14 = .ok (.ireturn, 1) := by decide +kernel
theorem d1_15 : decode method_2_code 15 = .ok (.iload_n 0, 1) := by decide +kernel
theorem d1_16 : decode method_2_code 16 = .ok (.ldc 9, 2) := by decide +kernel
theorem d1_18 : decode method_2_code 18 = .ok (.iand, 1) := by decide +kernel
theorem d1_19 : decode method_2_code 19 = .ok (.i2c, 1) := by decide +kernel
theorem d1_20 : decode method_2_code 20 = .ok (.ireturn, 1) := by decide +kernel
theorem pn_1 : plainFor (⟨"io/keyvouch/cli/ArgumentsUndecodedPinLaw", "draw", "(I)C"⟩ : MethodName) = true := by first | exact plainFor_of_name (by first | (simp [plainName, overriddenIn]; done) | decide +kernel) | decide +kernel
set_option maxRecDepth 65536 in
set_option maxHeartbeats 4000000 in
theorem rm_draw (l : Launch) (Z : State) (a0 : Array Value) (hw : ∀ d ∈ tables_1, d.before a0 Z = true) (x1 : Int32) (h0 : Heap)  :
    Met l Z (⟨"io/keyvouch/cli/ArgumentsUndecodedPinLaw", "draw", "(I)C"⟩ : MethodName) method_2_code 1 (some .char) [] ({ frames := 0, cells := 0, slots := 0, locals := 0 } : Room) #[(.int x1)] h0 [] (fun v h => ∃ z, v = some (.int z) ∧ isC z ∧ h0 = h) := by
  refine Met.walk pn_1 (Ls := #[.val (.int x1)]) (fun m => by first | (simp [entryFrame, mkF, argsToLocals, Value.category, maxLocals]; done) | rfl) ?_
  intro p e s m below meth c B
  refine B.iloadN 1 rfl d1_0 rfl ?_
  refine B.ldcI 3 rfl d1_1 (wd hw 4 rfl) ?_
  refine B.iand 4 rfl d1_3 ?_
  refine B.if0_eq 15 7 rfl (by decide) rfl d1_4 (fun c4 => ?_) (fun c4 => ?_)
  · refine B.iloadN 16 rfl d1_15 rfl ?_
    refine B.ldcI 18 rfl d1_16 (wd hw 5 rfl) ?_
    refine B.iand 19 rfl d1_18 ?_
    refine B.i2c 20 rfl d1_19 ?_
    refine B.retN (by simp) d1_20 (by decide) (by decide) ?_
    exact ⟨_, rfl, own_ic _, rfl⟩
  · refine B.ldcI 9 rfl d1_7 (wd hw 77 rfl) ?_
    refine B.iloadN 10 rfl d1_9 rfl ?_
    refine B.iconst 11 rfl (3 : Int32) d1_10 rfl ?_
    refine B.iand 12 rfl d1_11 ?_
    refine B.iadd 13 rfl d1_12 ?_
    refine B.i2c 14 rfl d1_13 ?_
    refine B.retN (by simp) d1_14 (by decide) (by decide) ?_
    exact ⟨_, rfl, own_ic _, rfl⟩
theorem d14_0 : decode jdk_52_method_21_code 0 = .ok (.iconst 0, 1) := by decide +kernel
theorem d14_1 : decode jdk_52_method_21_code 1 = .ok (.istore 5, 2) := by decide +kernel
theorem d14_3 : decode jdk_52_method_21_code 3 = .ok (.iload 5, 2) := by decide +kernel
theorem d14_5 : decode jdk_52_method_21_code 5 = .ok (.iload 4, 2) := by decide +kernel
theorem d14_7 : decode jdk_52_method_21_code 7 = .ok (.if_icmp .ge 37, 3) := by decide +kernel
theorem d14_10 : decode jdk_52_method_21_code 10 = .ok (.aload_n 0, 1) := by decide +kernel
theorem d14_11 : decode jdk_52_method_21_code 11 = .ok (.iload_n 1, 1) := by decide +kernel
theorem d14_12 : decode jdk_52_method_21_code 12 = .ok (.caload, 1) := by decide +kernel
theorem d14_13 : decode jdk_52_method_21_code 13 = .ok (.istore 6, 2) := by decide +kernel
theorem d14_15 : decode jdk_52_method_21_code 15 = .ok (.iload 6, 2) := by decide +kernel
theorem d14_17 : decode jdk_52_method_21_code 17 = .ok (.sipush 255, 3) := by decide +kernel
theorem d14_20 : decode jdk_52_method_21_code 20 = .ok (.if_icmp .le 6, 3) := by decide +kernel
theorem d14_23 : decode jdk_52_method_21_code 23 = .ok (.iload 5, 2) := by decide +kernel
theorem d14_25 : decode jdk_52_method_21_code 25 = .ok (.ireturn, 1) := by decide +kernel
theorem pn_14 : plainFor (⟨"java/lang/StringUTF16", "compress", "([CI[BII)I"⟩ : MethodName) = true := by first | exact plainFor_of_name (by first | (simp [plainName, overriddenIn]; done) | decide +kernel) | decide +kernel
set_option maxRecDepth 65536 in
set_option maxHeartbeats 4000000 in
theorem rm_cp1_0 (l : Launch) (Z : State) (a0 : Array Value) (hw : ∀ d ∈ tables_1, d.before a0 Z = true) (ca vb : Addr) (x0 : Int32) (h0 : Heap)  (hx0 : (255 : Int32) < x0) (ne : ca ≠ vb) (A_ca : Ary Z h0 ca .char [(.int x0)]) (A_vb : Ary Z h0 vb .byte [(.int (0 : Int32))]) :
    Met l Z (⟨"java/lang/StringUTF16", "compress", "([CI[BII)I"⟩ : MethodName) jdk_52_method_21_code 7 (some .int) [] ({ frames := 0, cells := 0, slots := 0, locals := 0 } : Room) #[(.ref ca), (.int (0 : Int32)), (.ref vb), (.int (0 : Int32)), (.int (1 : Int32))] h0 [vb] (fun v h => v = some (.int (0 : Int32))) := by
  refine Met.walk pn_14 (Ls := #[.val (.ref ca), .val (.int (0 : Int32)), .val (.ref vb), .val (.int (0 : Int32)), .val (.int (1 : Int32)), .unset, .unset]) (fun m => by first | (simp [entryFrame, mkF, argsToLocals, Value.category, maxLocals]; done) | rfl) ?_
  intro p e s m below meth c B
  refine B.iconst 1 rfl (0 : Int32) d14_0 rfl ?_
  refine B.istore 3 rfl d14_1 #[.val (.ref ca), .val (.int (0 : Int32)), .val (.ref vb), .val (.int (0 : Int32)), .val (.int (1 : Int32)), .val (.int (0 : Int32)), .unset] rfl ?_
  refine B.iload 5 rfl d14_3 rfl ?_
  refine B.iload 7 rfl d14_5 rfl ?_
  refine B.icmp_ge 44 10 rfl (by decide) rfl d14_7 (fun c7 => ?_) (fun c7 => ?_)
  · exact absurd c7 (by decide)
  · refine B.aloadN 11 rfl d14_10 rfl rfl ?_
    refine B.iloadN 12 rfl d14_11 rfl ?_
    refine B.caload 13 rfl d14_12 A_ca (by decide) 0 rfl (.int x0) rfl ?_
    refine B.istore 15 rfl d14_13 #[.val (.ref ca), .val (.int (0 : Int32)), .val (.ref vb), .val (.int (0 : Int32)), .val (.int (1 : Int32)), .val (.int (0 : Int32)), .val (.int x0)] rfl ?_
    refine B.iload 17 rfl d14_15 rfl ?_
    refine B.sipush 20 rfl (255 : Int32) d14_17 rfl ?_
    refine B.icmp_le 26 23 rfl (by decide) rfl d14_20 (fun c20 => ?_) (fun c20 => ?_)
    · exact absurd hx0 c20
    · refine B.iload 25 rfl d14_23 rfl ?_
      refine B.retI d14_25 (by decide) (by decide) ?_
      exact rfl
theorem d14_26 : decode jdk_52_method_21_code 26 = .ok (.aload_n 2, 1) := by decide +kernel
theorem d14_27 : decode jdk_52_method_21_code 27 = .ok (.iload_n 3, 1) := by decide +kernel
theorem d14_28 : decode jdk_52_method_21_code 28 = .ok (.iload 6, 2) := by decide +kernel
theorem d14_30 : decode jdk_52_method_21_code 30 = .ok (.i2b, 1) := by decide +kernel
theorem d14_31 : decode jdk_52_method_21_code 31 = .ok (.bastore, 1) := by decide +kernel
theorem d14_32 : decode jdk_52_method_21_code 32 = .ok (.iinc 1 1, 3) := by decide +kernel
theorem d14_35 : decode jdk_52_method_21_code 35 = .ok (.iinc 3 1, 3) := by decide +kernel
theorem d14_38 : decode jdk_52_method_21_code 38 = .ok (.iinc 5 1, 3) := by decide +kernel
theorem d14_41 : decode jdk_52_method_21_code 41 = .ok (.goto (-38), 3) := by decide +kernel
theorem d14_44 : decode jdk_52_method_21_code 44 = .ok (.iload 4, 2) := by decide +kernel
theorem d14_46 : decode jdk_52_method_21_code 46 = .ok (.ireturn, 1) := by decide +kernel
set_option maxRecDepth 65536 in
set_option maxHeartbeats 4000000 in
theorem rm_cp1_1 (l : Launch) (Z : State) (a0 : Array Value) (hw : ∀ d ∈ tables_1, d.before a0 Z = true) (ca vb : Addr) (x0 : Int32) (h0 : Heap) (hx0 : ¬ (255 : Int32) < x0) (ne : ca ≠ vb) (A_ca : Ary Z h0 ca .char [(.int x0)]) (A_vb : Ary Z h0 vb .byte [(.int (0 : Int32))]) :
    Met l Z (⟨"java/lang/StringUTF16", "compress", "([CI[BII)I"⟩ : MethodName) jdk_52_method_21_code 7 (some .int) [] ({ frames := 0, cells := 0, slots := 0, locals := 0 } : Room) #[(.ref ca), (.int (0 : Int32)), (.ref vb), (.int (0 : Int32)), (.int (1 : Int32))] h0 [vb] (fun v h => v = some (.int (1 : Int32)) ∧ Ary Z h vb .byte [(.int ((x0.toInt8.toInt32).toInt8.toInt32))]) := by
  refine Met.walk pn_14 (Ls := #[.val (.ref ca), .val (.int (0 : Int32)), .val (.ref vb), .val (.int (0 : Int32)), .val (.int (1 : Int32)), .unset, .unset]) (fun m => by first | (simp [entryFrame, mkF, argsToLocals, Value.category, maxLocals]; done) | rfl) ?_
  intro p e s m below meth c B
  refine B.iconst 1 rfl (0 : Int32) d14_0 rfl ?_
  refine B.istore 3 rfl d14_1 #[.val (.ref ca), .val (.int (0 : Int32)), .val (.ref vb), .val (.int (0 : Int32)), .val (.int (1 : Int32)), .val (.int (0 : Int32)), .unset] rfl ?_
  refine B.iload 5 rfl d14_3 rfl ?_
  refine B.iload 7 rfl d14_5 rfl ?_
  refine B.icmp_ge 44 10 rfl (by decide) rfl d14_7 (fun c7 => ?_) (fun c7 => ?_)
  · exact absurd c7 (by decide)
  · refine B.aloadN 11 rfl d14_10 rfl rfl ?_
    refine B.iloadN 12 rfl d14_11 rfl ?_
    refine B.caload 13 rfl d14_12 A_ca (by decide) 0 rfl (.int x0) rfl ?_
    refine B.istore 15 rfl d14_13 #[.val (.ref ca), .val (.int (0 : Int32)), .val (.ref vb), .val (.int (0 : Int32)), .val (.int (1 : Int32)), .val (.int (0 : Int32)), .val (.int x0)] rfl ?_
    refine B.iload 17 rfl d14_15 rfl ?_
    refine B.sipush 20 rfl (255 : Int32) d14_17 rfl ?_
    refine B.icmp_le 26 23 rfl (by decide) rfl d14_20 (fun c20 => ?_) (fun c20 => ?_)
    · refine B.aloadN 27 rfl d14_26 rfl rfl ?_
      refine B.iloadN 28 rfl d14_27 rfl ?_
      refine B.iload 30 rfl d14_28 rfl ?_
      refine B.i2b 31 rfl d14_30 ?_
      refine B.bastore 32 rfl d14_31 A_vb (by decide) 0 rfl (by simp) (Or.inl (by simp)) ?_
      intro hs1 Ws1 As1
      replace As1 : Ary Z hs1 vb .byte [(.int ((x0.toInt8.toInt32).toInt8.toInt32))] := As1
      have A_ca_1 := A_ca.other Ws1 ne
      refine B.iinc 35 rfl (1 : Int32) d14_32 rfl rfl #[.val (.ref ca), .val (.int (1 : Int32)), .val (.ref vb), .val (.int (0 : Int32)), .val (.int (1 : Int32)), .val (.int (0 : Int32)), .val (.int x0)] rfl ?_
      refine B.iinc 38 rfl (1 : Int32) d14_35 rfl rfl #[.val (.ref ca), .val (.int (1 : Int32)), .val (.ref vb), .val (.int (1 : Int32)), .val (.int (1 : Int32)), .val (.int (0 : Int32)), .val (.int x0)] rfl ?_
      refine B.iinc 41 rfl (1 : Int32) d14_38 rfl rfl #[.val (.ref ca), .val (.int (1 : Int32)), .val (.ref vb), .val (.int (1 : Int32)), .val (.int (1 : Int32)), .val (.int (1 : Int32)), .val (.int x0)] rfl ?_
      refine B.goto 3 rfl (by decide) d14_41 ?_
      refine B.iload 5 rfl d14_3 rfl ?_
      refine B.iload 7 rfl d14_5 rfl ?_
      refine B.icmp_ge 44 10 rfl (by decide) rfl d14_7 (fun c7_1 => ?_) (fun c7_1 => ?_)
      · refine B.iload 46 rfl d14_44 rfl ?_
        refine B.retI d14_46 (by decide) (by decide) ?_
        exact ⟨rfl, As1⟩
      · exact absurd c7_1 (by decide)
    · exact absurd c20 hx0
set_option maxRecDepth 65536 in
set_option maxHeartbeats 4000000 in
theorem rm_cp2_0 (l : Launch) (Z : State) (a0 : Array Value) (hw : ∀ d ∈ tables_1, d.before a0 Z = true) (ca vb : Addr) (x0 x1 : Int32) (h0 : Heap)  (hx0 : (255 : Int32) < x0) (ne : ca ≠ vb) (A_ca : Ary Z h0 ca .char [(.int x0), (.int x1)]) (A_vb : Ary Z h0 vb .byte [(.int (0 : Int32)), (.int (0 : Int32))]) :
    Met l Z (⟨"java/lang/StringUTF16", "compress", "([CI[BII)I"⟩ : MethodName) jdk_52_method_21_code 7 (some .int) [] ({ frames := 0, cells := 0, slots := 0, locals := 0 } : Room) #[(.ref ca), (.int (0 : Int32)), (.ref vb), (.int (0 : Int32)), (.int (2 : Int32))] h0 [vb] (fun v h => v = some (.int (0 : Int32))) := by
  refine Met.walk pn_14 (Ls := #[.val (.ref ca), .val (.int (0 : Int32)), .val (.ref vb), .val (.int (0 : Int32)), .val (.int (2 : Int32)), .unset, .unset]) (fun m => by first | (simp [entryFrame, mkF, argsToLocals, Value.category, maxLocals]; done) | rfl) ?_
  intro p e s m below meth c B
  refine B.iconst 1 rfl (0 : Int32) d14_0 rfl ?_
  refine B.istore 3 rfl d14_1 #[.val (.ref ca), .val (.int (0 : Int32)), .val (.ref vb), .val (.int (0 : Int32)), .val (.int (2 : Int32)), .val (.int (0 : Int32)), .unset] rfl ?_
  refine B.iload 5 rfl d14_3 rfl ?_
  refine B.iload 7 rfl d14_5 rfl ?_
  refine B.icmp_ge 44 10 rfl (by decide) rfl d14_7 (fun c7 => ?_) (fun c7 => ?_)
  · exact absurd c7 (by decide)
  · refine B.aloadN 11 rfl d14_10 rfl rfl ?_
    refine B.iloadN 12 rfl d14_11 rfl ?_
    refine B.caload 13 rfl d14_12 A_ca (by decide) 0 rfl (.int x0) rfl ?_
    refine B.istore 15 rfl d14_13 #[.val (.ref ca), .val (.int (0 : Int32)), .val (.ref vb), .val (.int (0 : Int32)), .val (.int (2 : Int32)), .val (.int (0 : Int32)), .val (.int x0)] rfl ?_
    refine B.iload 17 rfl d14_15 rfl ?_
    refine B.sipush 20 rfl (255 : Int32) d14_17 rfl ?_
    refine B.icmp_le 26 23 rfl (by decide) rfl d14_20 (fun c20 => ?_) (fun c20 => ?_)
    · exact absurd hx0 c20
    · refine B.iload 25 rfl d14_23 rfl ?_
      refine B.retI d14_25 (by decide) (by decide) ?_
      exact rfl
set_option maxRecDepth 65536 in
set_option maxHeartbeats 4000000 in
theorem rm_cp2_1 (l : Launch) (Z : State) (a0 : Array Value) (hw : ∀ d ∈ tables_1, d.before a0 Z = true) (ca vb : Addr) (x0 x1 : Int32) (h0 : Heap) (hx0 : ¬ (255 : Int32) < x0) (hx1 : (255 : Int32) < x1) (ne : ca ≠ vb) (A_ca : Ary Z h0 ca .char [(.int x0), (.int x1)]) (A_vb : Ary Z h0 vb .byte [(.int (0 : Int32)), (.int (0 : Int32))]) :
    Met l Z (⟨"java/lang/StringUTF16", "compress", "([CI[BII)I"⟩ : MethodName) jdk_52_method_21_code 7 (some .int) [] ({ frames := 0, cells := 0, slots := 0, locals := 0 } : Room) #[(.ref ca), (.int (0 : Int32)), (.ref vb), (.int (0 : Int32)), (.int (2 : Int32))] h0 [vb] (fun v h => v = some (.int (1 : Int32))) := by
  refine Met.walk pn_14 (Ls := #[.val (.ref ca), .val (.int (0 : Int32)), .val (.ref vb), .val (.int (0 : Int32)), .val (.int (2 : Int32)), .unset, .unset]) (fun m => by first | (simp [entryFrame, mkF, argsToLocals, Value.category, maxLocals]; done) | rfl) ?_
  intro p e s m below meth c B
  refine B.iconst 1 rfl (0 : Int32) d14_0 rfl ?_
  refine B.istore 3 rfl d14_1 #[.val (.ref ca), .val (.int (0 : Int32)), .val (.ref vb), .val (.int (0 : Int32)), .val (.int (2 : Int32)), .val (.int (0 : Int32)), .unset] rfl ?_
  refine B.iload 5 rfl d14_3 rfl ?_
  refine B.iload 7 rfl d14_5 rfl ?_
  refine B.icmp_ge 44 10 rfl (by decide) rfl d14_7 (fun c7 => ?_) (fun c7 => ?_)
  · exact absurd c7 (by decide)
  · refine B.aloadN 11 rfl d14_10 rfl rfl ?_
    refine B.iloadN 12 rfl d14_11 rfl ?_
    refine B.caload 13 rfl d14_12 A_ca (by decide) 0 rfl (.int x0) rfl ?_
    refine B.istore 15 rfl d14_13 #[.val (.ref ca), .val (.int (0 : Int32)), .val (.ref vb), .val (.int (0 : Int32)), .val (.int (2 : Int32)), .val (.int (0 : Int32)), .val (.int x0)] rfl ?_
    refine B.iload 17 rfl d14_15 rfl ?_
    refine B.sipush 20 rfl (255 : Int32) d14_17 rfl ?_
    refine B.icmp_le 26 23 rfl (by decide) rfl d14_20 (fun c20 => ?_) (fun c20 => ?_)
    · refine B.aloadN 27 rfl d14_26 rfl rfl ?_
      refine B.iloadN 28 rfl d14_27 rfl ?_
      refine B.iload 30 rfl d14_28 rfl ?_
      refine B.i2b 31 rfl d14_30 ?_
      refine B.bastore 32 rfl d14_31 A_vb (by decide) 0 rfl (by simp) (Or.inl (by simp)) ?_
      intro hs1 Ws1 As1
      replace As1 : Ary Z hs1 vb .byte [(.int ((x0.toInt8.toInt32).toInt8.toInt32)), (.int (0 : Int32))] := As1
      have A_ca_1 := A_ca.other Ws1 ne
      refine B.iinc 35 rfl (1 : Int32) d14_32 rfl rfl #[.val (.ref ca), .val (.int (1 : Int32)), .val (.ref vb), .val (.int (0 : Int32)), .val (.int (2 : Int32)), .val (.int (0 : Int32)), .val (.int x0)] rfl ?_
      refine B.iinc 38 rfl (1 : Int32) d14_35 rfl rfl #[.val (.ref ca), .val (.int (1 : Int32)), .val (.ref vb), .val (.int (1 : Int32)), .val (.int (2 : Int32)), .val (.int (0 : Int32)), .val (.int x0)] rfl ?_
      refine B.iinc 41 rfl (1 : Int32) d14_38 rfl rfl #[.val (.ref ca), .val (.int (1 : Int32)), .val (.ref vb), .val (.int (1 : Int32)), .val (.int (2 : Int32)), .val (.int (1 : Int32)), .val (.int x0)] rfl ?_
      refine B.goto 3 rfl (by decide) d14_41 ?_
      refine B.iload 5 rfl d14_3 rfl ?_
      refine B.iload 7 rfl d14_5 rfl ?_
      refine B.icmp_ge 44 10 rfl (by decide) rfl d14_7 (fun c7_1 => ?_) (fun c7_1 => ?_)
      · exact absurd c7_1 (by decide)
      · refine B.aloadN 11 rfl d14_10 rfl rfl ?_
        refine B.iloadN 12 rfl d14_11 rfl ?_
        refine B.caload 13 rfl d14_12 A_ca_1 (by decide) 1 rfl (.int x1) rfl ?_
        refine B.istore 15 rfl d14_13 #[.val (.ref ca), .val (.int (1 : Int32)), .val (.ref vb), .val (.int (1 : Int32)), .val (.int (2 : Int32)), .val (.int (1 : Int32)), .val (.int x1)] rfl ?_
        refine B.iload 17 rfl d14_15 rfl ?_
        refine B.sipush 20 rfl (255 : Int32) d14_17 rfl ?_
        refine B.icmp_le 26 23 rfl (by decide) rfl d14_20 (fun c20_1 => ?_) (fun c20_1 => ?_)
        · exact absurd hx1 c20_1
        · refine B.iload 25 rfl d14_23 rfl ?_
          refine B.retI d14_25 (by decide) (by decide) ?_
          exact rfl
    · exact absurd c20 hx0
set_option maxRecDepth 65536 in
set_option maxHeartbeats 4000000 in
theorem rm_cp2_2 (l : Launch) (Z : State) (a0 : Array Value) (hw : ∀ d ∈ tables_1, d.before a0 Z = true) (ca vb : Addr) (x0 x1 : Int32) (h0 : Heap) (hx0 : ¬ (255 : Int32) < x0) (hx1 : ¬ (255 : Int32) < x1) (ne : ca ≠ vb) (A_ca : Ary Z h0 ca .char [(.int x0), (.int x1)]) (A_vb : Ary Z h0 vb .byte [(.int (0 : Int32)), (.int (0 : Int32))]) :
    Met l Z (⟨"java/lang/StringUTF16", "compress", "([CI[BII)I"⟩ : MethodName) jdk_52_method_21_code 7 (some .int) [] ({ frames := 0, cells := 0, slots := 0, locals := 0 } : Room) #[(.ref ca), (.int (0 : Int32)), (.ref vb), (.int (0 : Int32)), (.int (2 : Int32))] h0 [vb] (fun v h => v = some (.int (2 : Int32)) ∧ Ary Z h vb .byte [(.int ((x0.toInt8.toInt32).toInt8.toInt32)), (.int ((x1.toInt8.toInt32).toInt8.toInt32))]) := by
  refine Met.walk pn_14 (Ls := #[.val (.ref ca), .val (.int (0 : Int32)), .val (.ref vb), .val (.int (0 : Int32)), .val (.int (2 : Int32)), .unset, .unset]) (fun m => by first | (simp [entryFrame, mkF, argsToLocals, Value.category, maxLocals]; done) | rfl) ?_
  intro p e s m below meth c B
  refine B.iconst 1 rfl (0 : Int32) d14_0 rfl ?_
  refine B.istore 3 rfl d14_1 #[.val (.ref ca), .val (.int (0 : Int32)), .val (.ref vb), .val (.int (0 : Int32)), .val (.int (2 : Int32)), .val (.int (0 : Int32)), .unset] rfl ?_
  refine B.iload 5 rfl d14_3 rfl ?_
  refine B.iload 7 rfl d14_5 rfl ?_
  refine B.icmp_ge 44 10 rfl (by decide) rfl d14_7 (fun c7 => ?_) (fun c7 => ?_)
  · exact absurd c7 (by decide)
  · refine B.aloadN 11 rfl d14_10 rfl rfl ?_
    refine B.iloadN 12 rfl d14_11 rfl ?_
    refine B.caload 13 rfl d14_12 A_ca (by decide) 0 rfl (.int x0) rfl ?_
    refine B.istore 15 rfl d14_13 #[.val (.ref ca), .val (.int (0 : Int32)), .val (.ref vb), .val (.int (0 : Int32)), .val (.int (2 : Int32)), .val (.int (0 : Int32)), .val (.int x0)] rfl ?_
    refine B.iload 17 rfl d14_15 rfl ?_
    refine B.sipush 20 rfl (255 : Int32) d14_17 rfl ?_
    refine B.icmp_le 26 23 rfl (by decide) rfl d14_20 (fun c20 => ?_) (fun c20 => ?_)
    · refine B.aloadN 27 rfl d14_26 rfl rfl ?_
      refine B.iloadN 28 rfl d14_27 rfl ?_
      refine B.iload 30 rfl d14_28 rfl ?_
      refine B.i2b 31 rfl d14_30 ?_
      refine B.bastore 32 rfl d14_31 A_vb (by decide) 0 rfl (by simp) (Or.inl (by simp)) ?_
      intro hs1 Ws1 As1
      replace As1 : Ary Z hs1 vb .byte [(.int ((x0.toInt8.toInt32).toInt8.toInt32)), (.int (0 : Int32))] := As1
      have A_ca_1 := A_ca.other Ws1 ne
      refine B.iinc 35 rfl (1 : Int32) d14_32 rfl rfl #[.val (.ref ca), .val (.int (1 : Int32)), .val (.ref vb), .val (.int (0 : Int32)), .val (.int (2 : Int32)), .val (.int (0 : Int32)), .val (.int x0)] rfl ?_
      refine B.iinc 38 rfl (1 : Int32) d14_35 rfl rfl #[.val (.ref ca), .val (.int (1 : Int32)), .val (.ref vb), .val (.int (1 : Int32)), .val (.int (2 : Int32)), .val (.int (0 : Int32)), .val (.int x0)] rfl ?_
      refine B.iinc 41 rfl (1 : Int32) d14_38 rfl rfl #[.val (.ref ca), .val (.int (1 : Int32)), .val (.ref vb), .val (.int (1 : Int32)), .val (.int (2 : Int32)), .val (.int (1 : Int32)), .val (.int x0)] rfl ?_
      refine B.goto 3 rfl (by decide) d14_41 ?_
      refine B.iload 5 rfl d14_3 rfl ?_
      refine B.iload 7 rfl d14_5 rfl ?_
      refine B.icmp_ge 44 10 rfl (by decide) rfl d14_7 (fun c7_1 => ?_) (fun c7_1 => ?_)
      · exact absurd c7_1 (by decide)
      · refine B.aloadN 11 rfl d14_10 rfl rfl ?_
        refine B.iloadN 12 rfl d14_11 rfl ?_
        refine B.caload 13 rfl d14_12 A_ca_1 (by decide) 1 rfl (.int x1) rfl ?_
        refine B.istore 15 rfl d14_13 #[.val (.ref ca), .val (.int (1 : Int32)), .val (.ref vb), .val (.int (1 : Int32)), .val (.int (2 : Int32)), .val (.int (1 : Int32)), .val (.int x1)] rfl ?_
        refine B.iload 17 rfl d14_15 rfl ?_
        refine B.sipush 20 rfl (255 : Int32) d14_17 rfl ?_
        refine B.icmp_le 26 23 rfl (by decide) rfl d14_20 (fun c20_1 => ?_) (fun c20_1 => ?_)
        · refine B.aloadN 27 rfl d14_26 rfl rfl ?_
          refine B.iloadN 28 rfl d14_27 rfl ?_
          refine B.iload 30 rfl d14_28 rfl ?_
          refine B.i2b 31 rfl d14_30 ?_
          refine B.bastore 32 rfl d14_31 As1 (by decide) 1 rfl (by simp) (Or.inl (by simp)) ?_
          intro hs2 Ws2 As2
          replace As2 : Ary Z hs2 vb .byte [(.int ((x0.toInt8.toInt32).toInt8.toInt32)), (.int ((x1.toInt8.toInt32).toInt8.toInt32))] := As2
          have A_ca_2 := A_ca_1.other Ws2 ne
          refine B.iinc 35 rfl (1 : Int32) d14_32 rfl rfl #[.val (.ref ca), .val (.int (2 : Int32)), .val (.ref vb), .val (.int (1 : Int32)), .val (.int (2 : Int32)), .val (.int (1 : Int32)), .val (.int x1)] rfl ?_
          refine B.iinc 38 rfl (1 : Int32) d14_35 rfl rfl #[.val (.ref ca), .val (.int (2 : Int32)), .val (.ref vb), .val (.int (2 : Int32)), .val (.int (2 : Int32)), .val (.int (1 : Int32)), .val (.int x1)] rfl ?_
          refine B.iinc 41 rfl (1 : Int32) d14_38 rfl rfl #[.val (.ref ca), .val (.int (2 : Int32)), .val (.ref vb), .val (.int (2 : Int32)), .val (.int (2 : Int32)), .val (.int (2 : Int32)), .val (.int x1)] rfl ?_
          refine B.goto 3 rfl (by decide) d14_41 ?_
          refine B.iload 5 rfl d14_3 rfl ?_
          refine B.iload 7 rfl d14_5 rfl ?_
          refine B.icmp_ge 44 10 rfl (by decide) rfl d14_7 (fun c7_2 => ?_) (fun c7_2 => ?_)
          · refine B.iload 46 rfl d14_44 rfl ?_
            refine B.retI d14_46 (by decide) (by decide) ?_
            exact ⟨rfl, As2⟩
          · exact absurd c7_2 (by decide)
        · exact absurd c20_1 hx1
    · exact absurd c20 hx0
set_option maxRecDepth 65536 in
set_option maxHeartbeats 4000000 in
theorem rm_cp3_0 (l : Launch) (Z : State) (a0 : Array Value) (hw : ∀ d ∈ tables_1, d.before a0 Z = true) (ca vb : Addr) (x0 x1 x2 : Int32) (h0 : Heap)  (hx0 : (255 : Int32) < x0) (ne : ca ≠ vb) (A_ca : Ary Z h0 ca .char [(.int x0), (.int x1), (.int x2)]) (A_vb : Ary Z h0 vb .byte [(.int (0 : Int32)), (.int (0 : Int32)), (.int (0 : Int32))]) :
    Met l Z (⟨"java/lang/StringUTF16", "compress", "([CI[BII)I"⟩ : MethodName) jdk_52_method_21_code 7 (some .int) [] ({ frames := 0, cells := 0, slots := 0, locals := 0 } : Room) #[(.ref ca), (.int (0 : Int32)), (.ref vb), (.int (0 : Int32)), (.int (3 : Int32))] h0 [vb] (fun v h => v = some (.int (0 : Int32))) := by
  refine Met.walk pn_14 (Ls := #[.val (.ref ca), .val (.int (0 : Int32)), .val (.ref vb), .val (.int (0 : Int32)), .val (.int (3 : Int32)), .unset, .unset]) (fun m => by first | (simp [entryFrame, mkF, argsToLocals, Value.category, maxLocals]; done) | rfl) ?_
  intro p e s m below meth c B
  refine B.iconst 1 rfl (0 : Int32) d14_0 rfl ?_
  refine B.istore 3 rfl d14_1 #[.val (.ref ca), .val (.int (0 : Int32)), .val (.ref vb), .val (.int (0 : Int32)), .val (.int (3 : Int32)), .val (.int (0 : Int32)), .unset] rfl ?_
  refine B.iload 5 rfl d14_3 rfl ?_
  refine B.iload 7 rfl d14_5 rfl ?_
  refine B.icmp_ge 44 10 rfl (by decide) rfl d14_7 (fun c7 => ?_) (fun c7 => ?_)
  · exact absurd c7 (by decide)
  · refine B.aloadN 11 rfl d14_10 rfl rfl ?_
    refine B.iloadN 12 rfl d14_11 rfl ?_
    refine B.caload 13 rfl d14_12 A_ca (by decide) 0 rfl (.int x0) rfl ?_
    refine B.istore 15 rfl d14_13 #[.val (.ref ca), .val (.int (0 : Int32)), .val (.ref vb), .val (.int (0 : Int32)), .val (.int (3 : Int32)), .val (.int (0 : Int32)), .val (.int x0)] rfl ?_
    refine B.iload 17 rfl d14_15 rfl ?_
    refine B.sipush 20 rfl (255 : Int32) d14_17 rfl ?_
    refine B.icmp_le 26 23 rfl (by decide) rfl d14_20 (fun c20 => ?_) (fun c20 => ?_)
    · exact absurd hx0 c20
    · refine B.iload 25 rfl d14_23 rfl ?_
      refine B.retI d14_25 (by decide) (by decide) ?_
      exact rfl
set_option maxRecDepth 65536 in
set_option maxHeartbeats 4000000 in
theorem rm_cp3_1 (l : Launch) (Z : State) (a0 : Array Value) (hw : ∀ d ∈ tables_1, d.before a0 Z = true) (ca vb : Addr) (x0 x1 x2 : Int32) (h0 : Heap) (hx0 : ¬ (255 : Int32) < x0) (hx1 : (255 : Int32) < x1) (ne : ca ≠ vb) (A_ca : Ary Z h0 ca .char [(.int x0), (.int x1), (.int x2)]) (A_vb : Ary Z h0 vb .byte [(.int (0 : Int32)), (.int (0 : Int32)), (.int (0 : Int32))]) :
    Met l Z (⟨"java/lang/StringUTF16", "compress", "([CI[BII)I"⟩ : MethodName) jdk_52_method_21_code 7 (some .int) [] ({ frames := 0, cells := 0, slots := 0, locals := 0 } : Room) #[(.ref ca), (.int (0 : Int32)), (.ref vb), (.int (0 : Int32)), (.int (3 : Int32))] h0 [vb] (fun v h => v = some (.int (1 : Int32))) := by
  refine Met.walk pn_14 (Ls := #[.val (.ref ca), .val (.int (0 : Int32)), .val (.ref vb), .val (.int (0 : Int32)), .val (.int (3 : Int32)), .unset, .unset]) (fun m => by first | (simp [entryFrame, mkF, argsToLocals, Value.category, maxLocals]; done) | rfl) ?_
  intro p e s m below meth c B
  refine B.iconst 1 rfl (0 : Int32) d14_0 rfl ?_
  refine B.istore 3 rfl d14_1 #[.val (.ref ca), .val (.int (0 : Int32)), .val (.ref vb), .val (.int (0 : Int32)), .val (.int (3 : Int32)), .val (.int (0 : Int32)), .unset] rfl ?_
  refine B.iload 5 rfl d14_3 rfl ?_
  refine B.iload 7 rfl d14_5 rfl ?_
  refine B.icmp_ge 44 10 rfl (by decide) rfl d14_7 (fun c7 => ?_) (fun c7 => ?_)
  · exact absurd c7 (by decide)
  · refine B.aloadN 11 rfl d14_10 rfl rfl ?_
    refine B.iloadN 12 rfl d14_11 rfl ?_
    refine B.caload 13 rfl d14_12 A_ca (by decide) 0 rfl (.int x0) rfl ?_
    refine B.istore 15 rfl d14_13 #[.val (.ref ca), .val (.int (0 : Int32)), .val (.ref vb), .val (.int (0 : Int32)), .val (.int (3 : Int32)), .val (.int (0 : Int32)), .val (.int x0)] rfl ?_
    refine B.iload 17 rfl d14_15 rfl ?_
    refine B.sipush 20 rfl (255 : Int32) d14_17 rfl ?_
    refine B.icmp_le 26 23 rfl (by decide) rfl d14_20 (fun c20 => ?_) (fun c20 => ?_)
    · refine B.aloadN 27 rfl d14_26 rfl rfl ?_
      refine B.iloadN 28 rfl d14_27 rfl ?_
      refine B.iload 30 rfl d14_28 rfl ?_
      refine B.i2b 31 rfl d14_30 ?_
      refine B.bastore 32 rfl d14_31 A_vb (by decide) 0 rfl (by simp) (Or.inl (by simp)) ?_
      intro hs1 Ws1 As1
      replace As1 : Ary Z hs1 vb .byte [(.int ((x0.toInt8.toInt32).toInt8.toInt32)), (.int (0 : Int32)), (.int (0 : Int32))] := As1
      have A_ca_1 := A_ca.other Ws1 ne
      refine B.iinc 35 rfl (1 : Int32) d14_32 rfl rfl #[.val (.ref ca), .val (.int (1 : Int32)), .val (.ref vb), .val (.int (0 : Int32)), .val (.int (3 : Int32)), .val (.int (0 : Int32)), .val (.int x0)] rfl ?_
      refine B.iinc 38 rfl (1 : Int32) d14_35 rfl rfl #[.val (.ref ca), .val (.int (1 : Int32)), .val (.ref vb), .val (.int (1 : Int32)), .val (.int (3 : Int32)), .val (.int (0 : Int32)), .val (.int x0)] rfl ?_
      refine B.iinc 41 rfl (1 : Int32) d14_38 rfl rfl #[.val (.ref ca), .val (.int (1 : Int32)), .val (.ref vb), .val (.int (1 : Int32)), .val (.int (3 : Int32)), .val (.int (1 : Int32)), .val (.int x0)] rfl ?_
      refine B.goto 3 rfl (by decide) d14_41 ?_
      refine B.iload 5 rfl d14_3 rfl ?_
      refine B.iload 7 rfl d14_5 rfl ?_
      refine B.icmp_ge 44 10 rfl (by decide) rfl d14_7 (fun c7_1 => ?_) (fun c7_1 => ?_)
      · exact absurd c7_1 (by decide)
      · refine B.aloadN 11 rfl d14_10 rfl rfl ?_
        refine B.iloadN 12 rfl d14_11 rfl ?_
        refine B.caload 13 rfl d14_12 A_ca_1 (by decide) 1 rfl (.int x1) rfl ?_
        refine B.istore 15 rfl d14_13 #[.val (.ref ca), .val (.int (1 : Int32)), .val (.ref vb), .val (.int (1 : Int32)), .val (.int (3 : Int32)), .val (.int (1 : Int32)), .val (.int x1)] rfl ?_
        refine B.iload 17 rfl d14_15 rfl ?_
        refine B.sipush 20 rfl (255 : Int32) d14_17 rfl ?_
        refine B.icmp_le 26 23 rfl (by decide) rfl d14_20 (fun c20_1 => ?_) (fun c20_1 => ?_)
        · exact absurd hx1 c20_1
        · refine B.iload 25 rfl d14_23 rfl ?_
          refine B.retI d14_25 (by decide) (by decide) ?_
          exact rfl
    · exact absurd c20 hx0
set_option maxRecDepth 65536 in
set_option maxHeartbeats 4000000 in
theorem rm_cp3_2 (l : Launch) (Z : State) (a0 : Array Value) (hw : ∀ d ∈ tables_1, d.before a0 Z = true) (ca vb : Addr) (x0 x1 x2 : Int32) (h0 : Heap) (hx0 : ¬ (255 : Int32) < x0) (hx1 : ¬ (255 : Int32) < x1) (hx2 : (255 : Int32) < x2) (ne : ca ≠ vb) (A_ca : Ary Z h0 ca .char [(.int x0), (.int x1), (.int x2)]) (A_vb : Ary Z h0 vb .byte [(.int (0 : Int32)), (.int (0 : Int32)), (.int (0 : Int32))]) :
    Met l Z (⟨"java/lang/StringUTF16", "compress", "([CI[BII)I"⟩ : MethodName) jdk_52_method_21_code 7 (some .int) [] ({ frames := 0, cells := 0, slots := 0, locals := 0 } : Room) #[(.ref ca), (.int (0 : Int32)), (.ref vb), (.int (0 : Int32)), (.int (3 : Int32))] h0 [vb] (fun v h => v = some (.int (2 : Int32))) := by
  refine Met.walk pn_14 (Ls := #[.val (.ref ca), .val (.int (0 : Int32)), .val (.ref vb), .val (.int (0 : Int32)), .val (.int (3 : Int32)), .unset, .unset]) (fun m => by first | (simp [entryFrame, mkF, argsToLocals, Value.category, maxLocals]; done) | rfl) ?_
  intro p e s m below meth c B
  refine B.iconst 1 rfl (0 : Int32) d14_0 rfl ?_
  refine B.istore 3 rfl d14_1 #[.val (.ref ca), .val (.int (0 : Int32)), .val (.ref vb), .val (.int (0 : Int32)), .val (.int (3 : Int32)), .val (.int (0 : Int32)), .unset] rfl ?_
  refine B.iload 5 rfl d14_3 rfl ?_
  refine B.iload 7 rfl d14_5 rfl ?_
  refine B.icmp_ge 44 10 rfl (by decide) rfl d14_7 (fun c7 => ?_) (fun c7 => ?_)
  · exact absurd c7 (by decide)
  · refine B.aloadN 11 rfl d14_10 rfl rfl ?_
    refine B.iloadN 12 rfl d14_11 rfl ?_
    refine B.caload 13 rfl d14_12 A_ca (by decide) 0 rfl (.int x0) rfl ?_
    refine B.istore 15 rfl d14_13 #[.val (.ref ca), .val (.int (0 : Int32)), .val (.ref vb), .val (.int (0 : Int32)), .val (.int (3 : Int32)), .val (.int (0 : Int32)), .val (.int x0)] rfl ?_
    refine B.iload 17 rfl d14_15 rfl ?_
    refine B.sipush 20 rfl (255 : Int32) d14_17 rfl ?_
    refine B.icmp_le 26 23 rfl (by decide) rfl d14_20 (fun c20 => ?_) (fun c20 => ?_)
    · refine B.aloadN 27 rfl d14_26 rfl rfl ?_
      refine B.iloadN 28 rfl d14_27 rfl ?_
      refine B.iload 30 rfl d14_28 rfl ?_
      refine B.i2b 31 rfl d14_30 ?_
      refine B.bastore 32 rfl d14_31 A_vb (by decide) 0 rfl (by simp) (Or.inl (by simp)) ?_
      intro hs1 Ws1 As1
      replace As1 : Ary Z hs1 vb .byte [(.int ((x0.toInt8.toInt32).toInt8.toInt32)), (.int (0 : Int32)), (.int (0 : Int32))] := As1
      have A_ca_1 := A_ca.other Ws1 ne
      refine B.iinc 35 rfl (1 : Int32) d14_32 rfl rfl #[.val (.ref ca), .val (.int (1 : Int32)), .val (.ref vb), .val (.int (0 : Int32)), .val (.int (3 : Int32)), .val (.int (0 : Int32)), .val (.int x0)] rfl ?_
      refine B.iinc 38 rfl (1 : Int32) d14_35 rfl rfl #[.val (.ref ca), .val (.int (1 : Int32)), .val (.ref vb), .val (.int (1 : Int32)), .val (.int (3 : Int32)), .val (.int (0 : Int32)), .val (.int x0)] rfl ?_
      refine B.iinc 41 rfl (1 : Int32) d14_38 rfl rfl #[.val (.ref ca), .val (.int (1 : Int32)), .val (.ref vb), .val (.int (1 : Int32)), .val (.int (3 : Int32)), .val (.int (1 : Int32)), .val (.int x0)] rfl ?_
      refine B.goto 3 rfl (by decide) d14_41 ?_
      refine B.iload 5 rfl d14_3 rfl ?_
      refine B.iload 7 rfl d14_5 rfl ?_
      refine B.icmp_ge 44 10 rfl (by decide) rfl d14_7 (fun c7_1 => ?_) (fun c7_1 => ?_)
      · exact absurd c7_1 (by decide)
      · refine B.aloadN 11 rfl d14_10 rfl rfl ?_
        refine B.iloadN 12 rfl d14_11 rfl ?_
        refine B.caload 13 rfl d14_12 A_ca_1 (by decide) 1 rfl (.int x1) rfl ?_
        refine B.istore 15 rfl d14_13 #[.val (.ref ca), .val (.int (1 : Int32)), .val (.ref vb), .val (.int (1 : Int32)), .val (.int (3 : Int32)), .val (.int (1 : Int32)), .val (.int x1)] rfl ?_
        refine B.iload 17 rfl d14_15 rfl ?_
        refine B.sipush 20 rfl (255 : Int32) d14_17 rfl ?_
        refine B.icmp_le 26 23 rfl (by decide) rfl d14_20 (fun c20_1 => ?_) (fun c20_1 => ?_)
        · refine B.aloadN 27 rfl d14_26 rfl rfl ?_
          refine B.iloadN 28 rfl d14_27 rfl ?_
          refine B.iload 30 rfl d14_28 rfl ?_
          refine B.i2b 31 rfl d14_30 ?_
          refine B.bastore 32 rfl d14_31 As1 (by decide) 1 rfl (by simp) (Or.inl (by simp)) ?_
          intro hs2 Ws2 As2
          replace As2 : Ary Z hs2 vb .byte [(.int ((x0.toInt8.toInt32).toInt8.toInt32)), (.int ((x1.toInt8.toInt32).toInt8.toInt32)), (.int (0 : Int32))] := As2
          have A_ca_2 := A_ca_1.other Ws2 ne
          refine B.iinc 35 rfl (1 : Int32) d14_32 rfl rfl #[.val (.ref ca), .val (.int (2 : Int32)), .val (.ref vb), .val (.int (1 : Int32)), .val (.int (3 : Int32)), .val (.int (1 : Int32)), .val (.int x1)] rfl ?_
          refine B.iinc 38 rfl (1 : Int32) d14_35 rfl rfl #[.val (.ref ca), .val (.int (2 : Int32)), .val (.ref vb), .val (.int (2 : Int32)), .val (.int (3 : Int32)), .val (.int (1 : Int32)), .val (.int x1)] rfl ?_
          refine B.iinc 41 rfl (1 : Int32) d14_38 rfl rfl #[.val (.ref ca), .val (.int (2 : Int32)), .val (.ref vb), .val (.int (2 : Int32)), .val (.int (3 : Int32)), .val (.int (2 : Int32)), .val (.int x1)] rfl ?_
          refine B.goto 3 rfl (by decide) d14_41 ?_
          refine B.iload 5 rfl d14_3 rfl ?_
          refine B.iload 7 rfl d14_5 rfl ?_
          refine B.icmp_ge 44 10 rfl (by decide) rfl d14_7 (fun c7_2 => ?_) (fun c7_2 => ?_)
          · exact absurd c7_2 (by decide)
          · refine B.aloadN 11 rfl d14_10 rfl rfl ?_
            refine B.iloadN 12 rfl d14_11 rfl ?_
            refine B.caload 13 rfl d14_12 A_ca_2 (by decide) 2 rfl (.int x2) rfl ?_
            refine B.istore 15 rfl d14_13 #[.val (.ref ca), .val (.int (2 : Int32)), .val (.ref vb), .val (.int (2 : Int32)), .val (.int (3 : Int32)), .val (.int (2 : Int32)), .val (.int x2)] rfl ?_
            refine B.iload 17 rfl d14_15 rfl ?_
            refine B.sipush 20 rfl (255 : Int32) d14_17 rfl ?_
            refine B.icmp_le 26 23 rfl (by decide) rfl d14_20 (fun c20_2 => ?_) (fun c20_2 => ?_)
            · exact absurd hx2 c20_2
            · refine B.iload 25 rfl d14_23 rfl ?_
              refine B.retI d14_25 (by decide) (by decide) ?_
              exact rfl
        · exact absurd c20_1 hx1
    · exact absurd c20 hx0
set_option maxRecDepth 65536 in
set_option maxHeartbeats 4000000 in
theorem rm_cp3_3 (l : Launch) (Z : State) (a0 : Array Value) (hw : ∀ d ∈ tables_1, d.before a0 Z = true) (ca vb : Addr) (x0 x1 x2 : Int32) (h0 : Heap) (hx0 : ¬ (255 : Int32) < x0) (hx1 : ¬ (255 : Int32) < x1) (hx2 : ¬ (255 : Int32) < x2) (ne : ca ≠ vb) (A_ca : Ary Z h0 ca .char [(.int x0), (.int x1), (.int x2)]) (A_vb : Ary Z h0 vb .byte [(.int (0 : Int32)), (.int (0 : Int32)), (.int (0 : Int32))]) :
    Met l Z (⟨"java/lang/StringUTF16", "compress", "([CI[BII)I"⟩ : MethodName) jdk_52_method_21_code 7 (some .int) [] ({ frames := 0, cells := 0, slots := 0, locals := 0 } : Room) #[(.ref ca), (.int (0 : Int32)), (.ref vb), (.int (0 : Int32)), (.int (3 : Int32))] h0 [vb] (fun v h => v = some (.int (3 : Int32)) ∧ Ary Z h vb .byte [(.int ((x0.toInt8.toInt32).toInt8.toInt32)), (.int ((x1.toInt8.toInt32).toInt8.toInt32)), (.int ((x2.toInt8.toInt32).toInt8.toInt32))]) := by
  refine Met.walk pn_14 (Ls := #[.val (.ref ca), .val (.int (0 : Int32)), .val (.ref vb), .val (.int (0 : Int32)), .val (.int (3 : Int32)), .unset, .unset]) (fun m => by first | (simp [entryFrame, mkF, argsToLocals, Value.category, maxLocals]; done) | rfl) ?_
  intro p e s m below meth c B
  refine B.iconst 1 rfl (0 : Int32) d14_0 rfl ?_
  refine B.istore 3 rfl d14_1 #[.val (.ref ca), .val (.int (0 : Int32)), .val (.ref vb), .val (.int (0 : Int32)), .val (.int (3 : Int32)), .val (.int (0 : Int32)), .unset] rfl ?_
  refine B.iload 5 rfl d14_3 rfl ?_
  refine B.iload 7 rfl d14_5 rfl ?_
  refine B.icmp_ge 44 10 rfl (by decide) rfl d14_7 (fun c7 => ?_) (fun c7 => ?_)
  · exact absurd c7 (by decide)
  · refine B.aloadN 11 rfl d14_10 rfl rfl ?_
    refine B.iloadN 12 rfl d14_11 rfl ?_
    refine B.caload 13 rfl d14_12 A_ca (by decide) 0 rfl (.int x0) rfl ?_
    refine B.istore 15 rfl d14_13 #[.val (.ref ca), .val (.int (0 : Int32)), .val (.ref vb), .val (.int (0 : Int32)), .val (.int (3 : Int32)), .val (.int (0 : Int32)), .val (.int x0)] rfl ?_
    refine B.iload 17 rfl d14_15 rfl ?_
    refine B.sipush 20 rfl (255 : Int32) d14_17 rfl ?_
    refine B.icmp_le 26 23 rfl (by decide) rfl d14_20 (fun c20 => ?_) (fun c20 => ?_)
    · refine B.aloadN 27 rfl d14_26 rfl rfl ?_
      refine B.iloadN 28 rfl d14_27 rfl ?_
      refine B.iload 30 rfl d14_28 rfl ?_
      refine B.i2b 31 rfl d14_30 ?_
      refine B.bastore 32 rfl d14_31 A_vb (by decide) 0 rfl (by simp) (Or.inl (by simp)) ?_
      intro hs1 Ws1 As1
      replace As1 : Ary Z hs1 vb .byte [(.int ((x0.toInt8.toInt32).toInt8.toInt32)), (.int (0 : Int32)), (.int (0 : Int32))] := As1
      have A_ca_1 := A_ca.other Ws1 ne
      refine B.iinc 35 rfl (1 : Int32) d14_32 rfl rfl #[.val (.ref ca), .val (.int (1 : Int32)), .val (.ref vb), .val (.int (0 : Int32)), .val (.int (3 : Int32)), .val (.int (0 : Int32)), .val (.int x0)] rfl ?_
      refine B.iinc 38 rfl (1 : Int32) d14_35 rfl rfl #[.val (.ref ca), .val (.int (1 : Int32)), .val (.ref vb), .val (.int (1 : Int32)), .val (.int (3 : Int32)), .val (.int (0 : Int32)), .val (.int x0)] rfl ?_
      refine B.iinc 41 rfl (1 : Int32) d14_38 rfl rfl #[.val (.ref ca), .val (.int (1 : Int32)), .val (.ref vb), .val (.int (1 : Int32)), .val (.int (3 : Int32)), .val (.int (1 : Int32)), .val (.int x0)] rfl ?_
      refine B.goto 3 rfl (by decide) d14_41 ?_
      refine B.iload 5 rfl d14_3 rfl ?_
      refine B.iload 7 rfl d14_5 rfl ?_
      refine B.icmp_ge 44 10 rfl (by decide) rfl d14_7 (fun c7_1 => ?_) (fun c7_1 => ?_)
      · exact absurd c7_1 (by decide)
      · refine B.aloadN 11 rfl d14_10 rfl rfl ?_
        refine B.iloadN 12 rfl d14_11 rfl ?_
        refine B.caload 13 rfl d14_12 A_ca_1 (by decide) 1 rfl (.int x1) rfl ?_
        refine B.istore 15 rfl d14_13 #[.val (.ref ca), .val (.int (1 : Int32)), .val (.ref vb), .val (.int (1 : Int32)), .val (.int (3 : Int32)), .val (.int (1 : Int32)), .val (.int x1)] rfl ?_
        refine B.iload 17 rfl d14_15 rfl ?_
        refine B.sipush 20 rfl (255 : Int32) d14_17 rfl ?_
        refine B.icmp_le 26 23 rfl (by decide) rfl d14_20 (fun c20_1 => ?_) (fun c20_1 => ?_)
        · refine B.aloadN 27 rfl d14_26 rfl rfl ?_
          refine B.iloadN 28 rfl d14_27 rfl ?_
          refine B.iload 30 rfl d14_28 rfl ?_
          refine B.i2b 31 rfl d14_30 ?_
          refine B.bastore 32 rfl d14_31 As1 (by decide) 1 rfl (by simp) (Or.inl (by simp)) ?_
          intro hs2 Ws2 As2
          replace As2 : Ary Z hs2 vb .byte [(.int ((x0.toInt8.toInt32).toInt8.toInt32)), (.int ((x1.toInt8.toInt32).toInt8.toInt32)), (.int (0 : Int32))] := As2
          have A_ca_2 := A_ca_1.other Ws2 ne
          refine B.iinc 35 rfl (1 : Int32) d14_32 rfl rfl #[.val (.ref ca), .val (.int (2 : Int32)), .val (.ref vb), .val (.int (1 : Int32)), .val (.int (3 : Int32)), .val (.int (1 : Int32)), .val (.int x1)] rfl ?_
          refine B.iinc 38 rfl (1 : Int32) d14_35 rfl rfl #[.val (.ref ca), .val (.int (2 : Int32)), .val (.ref vb), .val (.int (2 : Int32)), .val (.int (3 : Int32)), .val (.int (1 : Int32)), .val (.int x1)] rfl ?_
          refine B.iinc 41 rfl (1 : Int32) d14_38 rfl rfl #[.val (.ref ca), .val (.int (2 : Int32)), .val (.ref vb), .val (.int (2 : Int32)), .val (.int (3 : Int32)), .val (.int (2 : Int32)), .val (.int x1)] rfl ?_
          refine B.goto 3 rfl (by decide) d14_41 ?_
          refine B.iload 5 rfl d14_3 rfl ?_
          refine B.iload 7 rfl d14_5 rfl ?_
          refine B.icmp_ge 44 10 rfl (by decide) rfl d14_7 (fun c7_2 => ?_) (fun c7_2 => ?_)
          · exact absurd c7_2 (by decide)
          · refine B.aloadN 11 rfl d14_10 rfl rfl ?_
            refine B.iloadN 12 rfl d14_11 rfl ?_
            refine B.caload 13 rfl d14_12 A_ca_2 (by decide) 2 rfl (.int x2) rfl ?_
            refine B.istore 15 rfl d14_13 #[.val (.ref ca), .val (.int (2 : Int32)), .val (.ref vb), .val (.int (2 : Int32)), .val (.int (3 : Int32)), .val (.int (2 : Int32)), .val (.int x2)] rfl ?_
            refine B.iload 17 rfl d14_15 rfl ?_
            refine B.sipush 20 rfl (255 : Int32) d14_17 rfl ?_
            refine B.icmp_le 26 23 rfl (by decide) rfl d14_20 (fun c20_2 => ?_) (fun c20_2 => ?_)
            · refine B.aloadN 27 rfl d14_26 rfl rfl ?_
              refine B.iloadN 28 rfl d14_27 rfl ?_
              refine B.iload 30 rfl d14_28 rfl ?_
              refine B.i2b 31 rfl d14_30 ?_
              refine B.bastore 32 rfl d14_31 As2 (by decide) 2 rfl (by simp) (Or.inl (by simp)) ?_
              intro hs3 Ws3 As3
              replace As3 : Ary Z hs3 vb .byte [(.int ((x0.toInt8.toInt32).toInt8.toInt32)), (.int ((x1.toInt8.toInt32).toInt8.toInt32)), (.int ((x2.toInt8.toInt32).toInt8.toInt32))] := As3
              have A_ca_3 := A_ca_2.other Ws3 ne
              refine B.iinc 35 rfl (1 : Int32) d14_32 rfl rfl #[.val (.ref ca), .val (.int (3 : Int32)), .val (.ref vb), .val (.int (2 : Int32)), .val (.int (3 : Int32)), .val (.int (2 : Int32)), .val (.int x2)] rfl ?_
              refine B.iinc 38 rfl (1 : Int32) d14_35 rfl rfl #[.val (.ref ca), .val (.int (3 : Int32)), .val (.ref vb), .val (.int (3 : Int32)), .val (.int (3 : Int32)), .val (.int (2 : Int32)), .val (.int x2)] rfl ?_
              refine B.iinc 41 rfl (1 : Int32) d14_38 rfl rfl #[.val (.ref ca), .val (.int (3 : Int32)), .val (.ref vb), .val (.int (3 : Int32)), .val (.int (3 : Int32)), .val (.int (3 : Int32)), .val (.int x2)] rfl ?_
              refine B.goto 3 rfl (by decide) d14_41 ?_
              refine B.iload 5 rfl d14_3 rfl ?_
              refine B.iload 7 rfl d14_5 rfl ?_
              refine B.icmp_ge 44 10 rfl (by decide) rfl d14_7 (fun c7_3 => ?_) (fun c7_3 => ?_)
              · refine B.iload 46 rfl d14_44 rfl ?_
                refine B.retI d14_46 (by decide) (by decide) ?_
                exact ⟨rfl, As3⟩
              · exact absurd c7_3 (by decide)
            · exact absurd c20_2 hx2
        · exact absurd c20_1 hx1
    · exact absurd c20 hx0
theorem d18_0 : decode jdk_52_method_3_code 0 = .ok (.iload_n 0, 1) := by decide +kernel
theorem d18_1 : decode jdk_52_method_3_code 1 = .ok (.ifCond .ge 11, 3) := by decide +kernel
theorem d18_12 : decode jdk_52_method_3_code 12 = .ok (.iload_n 0, 1) := by decide +kernel
theorem d18_13 : decode jdk_52_method_3_code 13 = .ok (.ldc 20, 2) := by decide +kernel
theorem d18_15 : decode jdk_52_method_3_code 15 = .ok (.if_icmp .lt 40, 3) := by decide +kernel
theorem d18_55 : decode jdk_52_method_3_code 55 = .ok (.iload_n 0, 1) := by decide +kernel
theorem d18_56 : decode jdk_52_method_3_code 56 = .ok (.iconst 1, 1) := by decide +kernel
theorem d18_57 : decode jdk_52_method_3_code 57 = .ok (.ishl, 1) := by decide +kernel
theorem d18_58 : decode jdk_52_method_3_code 58 = .ok (.ireturn, 1) := by decide +kernel
theorem pn_18 : plainFor (⟨"java/lang/StringUTF16", "newBytesLength", "(I)I"⟩ : MethodName) = true := by first | exact plainFor_of_name (by first | (simp [plainName, overriddenIn]; done) | decide +kernel) | decide +kernel
set_option maxRecDepth 65536 in
set_option maxHeartbeats 4000000 in
theorem rm_nl1 (l : Launch) (Z : State) (a0 : Array Value) (hw : ∀ d ∈ tables_1, d.before a0 Z = true)  (h0 : Heap)  :
    Met l Z (⟨"java/lang/StringUTF16", "newBytesLength", "(I)I"⟩ : MethodName) jdk_52_method_3_code 1 (some .int) [] ({ frames := 0, cells := 0, slots := 0, locals := 0 } : Room) #[(.int (1 : Int32))] h0 [] (fun v h => v = some (.int (2 : Int32)) ∧ h0 = h) := by
  refine Met.walk pn_18 (Ls := #[.val (.int (1 : Int32))]) (fun m => by first | (simp [entryFrame, mkF, argsToLocals, Value.category, maxLocals]; done) | rfl) ?_
  intro p e s m below meth c B
  refine B.iloadN 1 rfl d18_0 rfl ?_
  refine B.if0_ge 12 4 rfl (by decide) rfl d18_1 (fun c1 => ?_) (fun c1 => ?_)
  · refine B.iloadN 13 rfl d18_12 rfl ?_
    refine B.ldcI 15 rfl d18_13 (wd hw 87 rfl) ?_
    refine B.icmp_lt 55 18 rfl (by decide) rfl d18_15 (fun c15 => ?_) (fun c15 => ?_)
    · refine B.iloadN 56 rfl d18_55 rfl ?_
      refine B.iconst 57 rfl (1 : Int32) d18_56 rfl ?_
      refine B.ishl 58 rfl d18_57 ?_
      refine B.topI (2 : Int32) (by decide) ?_
      refine B.retI d18_58 (by decide) (by decide) ?_
      exact ⟨rfl, rfl⟩
    · exact absurd c15 (by decide)
  · exact absurd c1 (by decide)
theorem d17_0 : decode jdk_52_method_2_code 0 = .ok (.iload_n 0, 1) := by decide +kernel
theorem d17_1 : decode jdk_52_method_2_code 1 = .ok (.invokestatic 11, 3) := by decide +kernel
theorem d17_4 : decode jdk_52_method_2_code 4 = .ok (.newarray .byte, 2) := by decide +kernel
theorem d17_6 : decode jdk_52_method_2_code 6 = .ok (.areturn, 1) := by decide +kernel
theorem pn_17 : plainFor (⟨"java/lang/StringUTF16", "newBytesFor", "(I)[B"⟩ : MethodName) = true := by first | exact plainFor_of_name (by first | (simp [plainName, overriddenIn]; done) | decide +kernel) | decide +kernel
set_option maxRecDepth 65536 in
set_option maxHeartbeats 4000000 in
theorem rm_nf1 (l : Launch) (Z : State) (a0 : Array Value) (hw : ∀ d ∈ tables_1, d.before a0 Z = true)  (h0 : Heap)  :
    Met l Z (⟨"java/lang/StringUTF16", "newBytesFor", "(I)[B"⟩ : MethodName) jdk_52_method_2_code 1 (some (.array .byte)) [] ({ frames := 1, cells := 1, slots := 2, locals := 12 } : Room) #[(.int (1 : Int32))] h0 [] (fun v h => ∃ ub, v = some (.ref ub) ∧ h0.size ≤ ub ∧ Ary Z h ub .byte [(.int (0 : Int32)), (.int (0 : Int32))]) := by
  refine Met.walk pn_17 (Ls := #[.val (.int (1 : Int32))]) (fun m => by first | (simp [entryFrame, mkF, argsToLocals, Value.category, maxLocals]; done) | rfl) ?_
  intro p e s m below meth c B
  refine B.iloadN 1 rfl d17_0 rfl ?_
  refine B.callS 4 rfl d17_1 (wd hw 84 rfl) (wd hw 85 rfl) (wd hw 69 rfl) (wd hw 86 rfl) (by decide) [(.int (1 : Int32))] [] (rm_nl1 l Z a0 hw h0) rfl rfl pd__I_I rfl rfl 0 rfl (by decide) (by decide) (by decide) (by decide) (fun _ q => nomatch q) ?_
  rintro _ _ - ⟨rfl, rfl⟩
  show B.G h0 0 0 (mkF m 4 #[.val (.int (1 : Int32))] [(.int (2 : Int32))])
  refine B.newP 6 rfl d17_4 (wd hw 21 rfl) (by decide) 2 (by decide) (by decide) (by decide) (by decide) ?_
  intro h_ub ub e_ub g_ub X_ub A_ub
  replace A_ub : Ary Z h_ub ub .byte [(.int (0 : Int32)), (.int (0 : Int32))] := A_ub
  show B.G h_ub 1 2 (mkF m 6 #[.val (.int (1 : Int32))] [(.ref ub)])
  refine B.retA rfl rfl d17_6 (by decide) (by decide) ?_
  exact ⟨ub, rfl, g_ub, A_ub⟩
theorem d26_0 : decode jdk_52_method_6_code 0 = .ok (.aload_n 0, 1) := by decide +kernel
theorem d26_1 : decode jdk_52_method_6_code 1 = .ok (.arraylength, 1) := by decide +kernel
theorem d26_2 : decode jdk_52_method_6_code 2 = .ok (.iconst 1, 1) := by decide +kernel
theorem d26_3 : decode jdk_52_method_6_code 3 = .ok (.ishr, 1) := by decide +kernel
theorem d26_4 : decode jdk_52_method_6_code 4 = .ok (.ireturn, 1) := by decide +kernel
theorem pn_26 : plainFor (⟨"java/lang/StringUTF16", "length", "([B)I"⟩ : MethodName) = true := by first | exact plainFor_of_name (by first | (simp [plainName, overriddenIn]; done) | decide +kernel) | decide +kernel
set_option maxRecDepth 65536 in
set_option maxHeartbeats 4000000 in
theorem rm_ul1 (l : Launch) (Z : State) (a0 : Array Value) (hw : ∀ d ∈ tables_1, d.before a0 Z = true) (ub : Addr) (x0 : Int32) (h0 : Heap) (A : Ary Z h0 ub .byte [(.int (own_lo x0)), (.int (own_hi x0))]) :
    Met l Z (⟨"java/lang/StringUTF16", "length", "([B)I"⟩ : MethodName) jdk_52_method_6_code 1 (some .int) [] ({ frames := 0, cells := 0, slots := 0, locals := 0 } : Room) #[(.ref ub)] h0 [] (fun v h => v = some (.int (1 : Int32)) ∧ h0 = h) := by
  refine Met.walk pn_26 (Ls := #[.val (.ref ub)]) (fun m => by first | (simp [entryFrame, mkF, argsToLocals, Value.category, maxLocals]; done) | rfl) ?_
  intro p e s m below meth c B
  refine B.aloadN 1 rfl d26_0 rfl rfl ?_
  refine B.arrlen 2 rfl d26_1 A (2 : Int32) rfl ?_
  refine B.iconst 3 rfl (1 : Int32) d26_2 rfl ?_
  refine B.ishr 4 rfl d26_3 ?_
  refine B.topI (1 : Int32) (by decide) ?_
  refine B.retI d26_4 (by decide) (by decide) ?_
  exact ⟨rfl, rfl⟩
set_option maxRecDepth 65536 in
set_option maxHeartbeats 4000000 in
theorem rm_nl2 (l : Launch) (Z : State) (a0 : Array Value) (hw : ∀ d ∈ tables_1, d.before a0 Z = true)  (h0 : Heap)  :
    Met l Z (⟨"java/lang/StringUTF16", "newBytesLength", "(I)I"⟩ : MethodName) jdk_52_method_3_code 1 (some .int) [] ({ frames := 0, cells := 0, slots := 0, locals := 0 } : Room) #[(.int (2 : Int32))] h0 [] (fun v h => v = some (.int (4 : Int32)) ∧ h0 = h) := by
  refine Met.walk pn_18 (Ls := #[.val (.int (2 : Int32))]) (fun m => by first | (simp [entryFrame, mkF, argsToLocals, Value.category, maxLocals]; done) | rfl) ?_
  intro p e s m below meth c B
  refine B.iloadN 1 rfl d18_0 rfl ?_
  refine B.if0_ge 12 4 rfl (by decide) rfl d18_1 (fun c1 => ?_) (fun c1 => ?_)
  · refine B.iloadN 13 rfl d18_12 rfl ?_
    refine B.ldcI 15 rfl d18_13 (wd hw 87 rfl) ?_
    refine B.icmp_lt 55 18 rfl (by decide) rfl d18_15 (fun c15 => ?_) (fun c15 => ?_)
    · refine B.iloadN 56 rfl d18_55 rfl ?_
      refine B.iconst 57 rfl (1 : Int32) d18_56 rfl ?_
      refine B.ishl 58 rfl d18_57 ?_
      refine B.topI (4 : Int32) (by decide) ?_
      refine B.retI d18_58 (by decide) (by decide) ?_
      exact ⟨rfl, rfl⟩
    · exact absurd c15 (by decide)
  · exact absurd c1 (by decide)
set_option maxRecDepth 65536 in
set_option maxHeartbeats 4000000 in
theorem rm_nf2 (l : Launch) (Z : State) (a0 : Array Value) (hw : ∀ d ∈ tables_1, d.before a0 Z = true)  (h0 : Heap)  :
    Met l Z (⟨"java/lang/StringUTF16", "newBytesFor", "(I)[B"⟩ : MethodName) jdk_52_method_2_code 1 (some (.array .byte)) [] ({ frames := 1, cells := 1, slots := 4, locals := 12 } : Room) #[(.int (2 : Int32))] h0 [] (fun v h => ∃ ub, v = some (.ref ub) ∧ h0.size ≤ ub ∧ Ary Z h ub .byte [(.int (0 : Int32)), (.int (0 : Int32)), (.int (0 : Int32)), (.int (0 : Int32))]) := by
  refine Met.walk pn_17 (Ls := #[.val (.int (2 : Int32))]) (fun m => by first | (simp [entryFrame, mkF, argsToLocals, Value.category, maxLocals]; done) | rfl) ?_
  intro p e s m below meth c B
  refine B.iloadN 1 rfl d17_0 rfl ?_
  refine B.callS 4 rfl d17_1 (wd hw 84 rfl) (wd hw 85 rfl) (wd hw 69 rfl) (wd hw 86 rfl) (by decide) [(.int (2 : Int32))] [] (rm_nl2 l Z a0 hw h0) rfl rfl pd__I_I rfl rfl 0 rfl (by decide) (by decide) (by decide) (by decide) (fun _ q => nomatch q) ?_
  rintro _ _ - ⟨rfl, rfl⟩
  show B.G h0 0 0 (mkF m 4 #[.val (.int (2 : Int32))] [(.int (4 : Int32))])
  refine B.newP 6 rfl d17_4 (wd hw 21 rfl) (by decide) 4 (by decide) (by decide) (by decide) (by decide) ?_
  intro h_ub ub e_ub g_ub X_ub A_ub
  replace A_ub : Ary Z h_ub ub .byte [(.int (0 : Int32)), (.int (0 : Int32)), (.int (0 : Int32)), (.int (0 : Int32))] := A_ub
  show B.G h_ub 1 4 (mkF m 6 #[.val (.int (2 : Int32))] [(.ref ub)])
  refine B.retA rfl rfl d17_6 (by decide) (by decide) ?_
  exact ⟨ub, rfl, g_ub, A_ub⟩
set_option maxRecDepth 65536 in
set_option maxHeartbeats 4000000 in
theorem rm_ul2 (l : Launch) (Z : State) (a0 : Array Value) (hw : ∀ d ∈ tables_1, d.before a0 Z = true) (ub : Addr) (x0 x1 : Int32) (h0 : Heap) (A : Ary Z h0 ub .byte [(.int (own_lo x0)), (.int (own_hi x0)), (.int (own_lo x1)), (.int (own_hi x1))]) :
    Met l Z (⟨"java/lang/StringUTF16", "length", "([B)I"⟩ : MethodName) jdk_52_method_6_code 1 (some .int) [] ({ frames := 0, cells := 0, slots := 0, locals := 0 } : Room) #[(.ref ub)] h0 [] (fun v h => v = some (.int (2 : Int32)) ∧ h0 = h) := by
  refine Met.walk pn_26 (Ls := #[.val (.ref ub)]) (fun m => by first | (simp [entryFrame, mkF, argsToLocals, Value.category, maxLocals]; done) | rfl) ?_
  intro p e s m below meth c B
  refine B.aloadN 1 rfl d26_0 rfl rfl ?_
  refine B.arrlen 2 rfl d26_1 A (4 : Int32) rfl ?_
  refine B.iconst 3 rfl (1 : Int32) d26_2 rfl ?_
  refine B.ishr 4 rfl d26_3 ?_
  refine B.topI (2 : Int32) (by decide) ?_
  refine B.retI d26_4 (by decide) (by decide) ?_
  exact ⟨rfl, rfl⟩
set_option maxRecDepth 65536 in
set_option maxHeartbeats 4000000 in
theorem rm_nl3 (l : Launch) (Z : State) (a0 : Array Value) (hw : ∀ d ∈ tables_1, d.before a0 Z = true)  (h0 : Heap)  :
    Met l Z (⟨"java/lang/StringUTF16", "newBytesLength", "(I)I"⟩ : MethodName) jdk_52_method_3_code 1 (some .int) [] ({ frames := 0, cells := 0, slots := 0, locals := 0 } : Room) #[(.int (3 : Int32))] h0 [] (fun v h => v = some (.int (6 : Int32)) ∧ h0 = h) := by
  refine Met.walk pn_18 (Ls := #[.val (.int (3 : Int32))]) (fun m => by first | (simp [entryFrame, mkF, argsToLocals, Value.category, maxLocals]; done) | rfl) ?_
  intro p e s m below meth c B
  refine B.iloadN 1 rfl d18_0 rfl ?_
  refine B.if0_ge 12 4 rfl (by decide) rfl d18_1 (fun c1 => ?_) (fun c1 => ?_)
  · refine B.iloadN 13 rfl d18_12 rfl ?_
    refine B.ldcI 15 rfl d18_13 (wd hw 87 rfl) ?_
    refine B.icmp_lt 55 18 rfl (by decide) rfl d18_15 (fun c15 => ?_) (fun c15 => ?_)
    · refine B.iloadN 56 rfl d18_55 rfl ?_
      refine B.iconst 57 rfl (1 : Int32) d18_56 rfl ?_
      refine B.ishl 58 rfl d18_57 ?_
      refine B.topI (6 : Int32) (by decide) ?_
      refine B.retI d18_58 (by decide) (by decide) ?_
      exact ⟨rfl, rfl⟩
    · exact absurd c15 (by decide)
  · exact absurd c1 (by decide)
set_option maxRecDepth 65536 in
set_option maxHeartbeats 4000000 in
theorem rm_nf3 (l : Launch) (Z : State) (a0 : Array Value) (hw : ∀ d ∈ tables_1, d.before a0 Z = true)  (h0 : Heap)  :
    Met l Z (⟨"java/lang/StringUTF16", "newBytesFor", "(I)[B"⟩ : MethodName) jdk_52_method_2_code 1 (some (.array .byte)) [] ({ frames := 1, cells := 1, slots := 6, locals := 12 } : Room) #[(.int (3 : Int32))] h0 [] (fun v h => ∃ ub, v = some (.ref ub) ∧ h0.size ≤ ub ∧ Ary Z h ub .byte [(.int (0 : Int32)), (.int (0 : Int32)), (.int (0 : Int32)), (.int (0 : Int32)), (.int (0 : Int32)), (.int (0 : Int32))]) := by
  refine Met.walk pn_17 (Ls := #[.val (.int (3 : Int32))]) (fun m => by first | (simp [entryFrame, mkF, argsToLocals, Value.category, maxLocals]; done) | rfl) ?_
  intro p e s m below meth c B
  refine B.iloadN 1 rfl d17_0 rfl ?_
  refine B.callS 4 rfl d17_1 (wd hw 84 rfl) (wd hw 85 rfl) (wd hw 69 rfl) (wd hw 86 rfl) (by decide) [(.int (3 : Int32))] [] (rm_nl3 l Z a0 hw h0) rfl rfl pd__I_I rfl rfl 0 rfl (by decide) (by decide) (by decide) (by decide) (fun _ q => nomatch q) ?_
  rintro _ _ - ⟨rfl, rfl⟩
  show B.G h0 0 0 (mkF m 4 #[.val (.int (3 : Int32))] [(.int (6 : Int32))])
  refine B.newP 6 rfl d17_4 (wd hw 21 rfl) (by decide) 6 (by decide) (by decide) (by decide) (by decide) ?_
  intro h_ub ub e_ub g_ub X_ub A_ub
  replace A_ub : Ary Z h_ub ub .byte [(.int (0 : Int32)), (.int (0 : Int32)), (.int (0 : Int32)), (.int (0 : Int32)), (.int (0 : Int32)), (.int (0 : Int32))] := A_ub
  show B.G h_ub 1 6 (mkF m 6 #[.val (.int (3 : Int32))] [(.ref ub)])
  refine B.retA rfl rfl d17_6 (by decide) (by decide) ?_
  exact ⟨ub, rfl, g_ub, A_ub⟩
set_option maxRecDepth 65536 in
set_option maxHeartbeats 4000000 in
theorem rm_ul3 (l : Launch) (Z : State) (a0 : Array Value) (hw : ∀ d ∈ tables_1, d.before a0 Z = true) (ub : Addr) (x0 x1 x2 : Int32) (h0 : Heap) (A : Ary Z h0 ub .byte [(.int (own_lo x0)), (.int (own_hi x0)), (.int (own_lo x1)), (.int (own_hi x1)), (.int (own_lo x2)), (.int (own_hi x2))]) :
    Met l Z (⟨"java/lang/StringUTF16", "length", "([B)I"⟩ : MethodName) jdk_52_method_6_code 1 (some .int) [] ({ frames := 0, cells := 0, slots := 0, locals := 0 } : Room) #[(.ref ub)] h0 [] (fun v h => v = some (.int (3 : Int32)) ∧ h0 = h) := by
  refine Met.walk pn_26 (Ls := #[.val (.ref ub)]) (fun m => by first | (simp [entryFrame, mkF, argsToLocals, Value.category, maxLocals]; done) | rfl) ?_
  intro p e s m below meth c B
  refine B.aloadN 1 rfl d26_0 rfl rfl ?_
  refine B.arrlen 2 rfl d26_1 A (6 : Int32) rfl ?_
  refine B.iconst 3 rfl (1 : Int32) d26_2 rfl ?_
  refine B.ishr 4 rfl d26_3 ?_
  refine B.topI (3 : Int32) (by decide) ?_
  refine B.retI d26_4 (by decide) (by decide) ?_
  exact ⟨rfl, rfl⟩
theorem d19_0 : decode jdk_52_method_4_code 0 = .ok (.getstatic 44, 3) := by decide +kernel
theorem d19_3 : decode jdk_52_method_4_code 3 = .ok (.ifCond .ne 25, 3) := by decide +kernel
theorem d19_28 : decode jdk_52_method_4_code 28 = .ok (.iload_n 1, 1) := by decide +kernel
theorem d19_29 : decode jdk_52_method_4_code 29 = .ok (.iconst 1, 1) := by decide +kernel
theorem d19_30 : decode jdk_52_method_4_code 30 = .ok (.ishl, 1) := by decide +kernel
theorem d19_31 : decode jdk_52_method_4_code 31 = .ok (.istore_n 1, 1) := by decide +kernel
theorem d19_32 : decode jdk_52_method_4_code 32 = .ok (.aload_n 0, 1) := by decide +kernel
theorem d19_33 : decode jdk_52_method_4_code 33 = .ok (.iload_n 1, 1) := by decide +kernel
theorem d19_34 : decode jdk_52_method_4_code 34 = .ok (.iinc 1 1, 3) := by decide +kernel
theorem d19_37 : decode jdk_52_method_4_code 37 = .ok (.iload_n 2, 1) := by decide +kernel
theorem d19_38 : decode jdk_52_method_4_code 38 = .ok (.getstatic 59, 3) := by decide +kernel
theorem d19_41 : decode jdk_52_method_4_code 41 = .ok (.ishr, 1) := by decide +kernel
theorem d19_42 : decode jdk_52_method_4_code 42 = .ok (.i2b, 1) := by decide +kernel
theorem d19_43 : decode jdk_52_method_4_code 43 = .ok (.bastore, 1) := by decide +kernel
theorem d19_44 : decode jdk_52_method_4_code 44 = .ok (.aload_n 0, 1) := by decide +kernel
theorem d19_45 : decode jdk_52_method_4_code 45 = .ok (.iload_n 1, 1) := by decide +kernel
theorem d19_46 : decode jdk_52_method_4_code 46 = .ok (.iload_n 2, 1) := by decide +kernel
theorem d19_47 : decode jdk_52_method_4_code 47 = .ok (.getstatic 63, 3) := by decide +kernel
theorem d19_50 : decode jdk_52_method_4_code 50 = .ok (.ishr, 1) := by decide +kernel
theorem d19_51 : decode jdk_52_method_4_code 51 = .ok (.i2b, 1) := by decide +kernel
theorem d19_52 : decode jdk_52_method_4_code 52 = .ok (.bastore, 1) := by decide +kernel
theorem d19_53 : decode jdk_52_method_4_code 53 = .ok (.return_, 1) := by decide +kernel
theorem pn_19 : plainFor (⟨"java/lang/StringUTF16", "putChar", "([BII)V"⟩ : MethodName) = true := by first | exact plainFor_of_name (by first | (simp [plainName, overriddenIn]; done) | decide +kernel) | decide +kernel
set_option maxRecDepth 65536 in
set_option maxHeartbeats 4000000 in
theorem rm_pc0 (l : Launch) (Z : State) (a0 : Array Value) (hw : ∀ d ∈ tables_1, d.before a0 Z = true) (ub : Addr) (x0 : Int32) (us : List Value) (cs : Int32) (vf : Value) (h0 : Heap) (hcs : ¬ cs = 0) (hvf : vf.isRef = true) (S : Sta Z h0 "java/lang/String" "COMPACT_STRINGS" "Z" (.int cs)) (SA : Sta Z h0 "java/lang/StringUTF16" "$assertionsDisabled" "Z" (.int 1)) (SH : Sta Z h0 "java/lang/StringUTF16" "HI_BYTE_SHIFT" "I" (.int 0)) (SO : Sta Z h0 "java/lang/StringUTF16" "LO_BYTE_SHIFT" "I" (.int 8)) (SF : Sta Z h0 "jdk/internal/util/Preconditions" "SIOOBE_FORMATTER" "Ljava/util/function/BiFunction;" vf) (A : Ary Z h0 ub .byte us) (hl : 1 < us.length) :
    Met l Z (⟨"java/lang/StringUTF16", "putChar", "([BII)V"⟩ : MethodName) jdk_52_method_4_code 3 none [] ({ frames := 0, cells := 0, slots := 0, locals := 0 } : Room) #[(.ref ub), (.int (0 : Int32)), (.int x0)] h0 [ub] (fun v h => v = none ∧ Ary Z h ub .byte ((us.set 0 (.int (own_lo x0))).set 1 (.int (own_hi x0)))) := by
  refine Met.walk pn_19 (Ls := #[.val (.ref ub), .val (.int (0 : Int32)), .val (.int x0)]) (fun m => by first | (simp [entryFrame, mkF, argsToLocals, Value.category, maxLocals]; done) | rfl) ?_
  intro p e s m below meth c B
  refine B.getS 3 rfl d19_0 (wd hw 91 rfl) SA ?_
  refine B.if0_ne 28 6 rfl (by decide) rfl d19_3 (fun c3 => ?_) (fun c3 => ?_)
  · refine B.iloadN 29 rfl d19_28 rfl ?_
    refine B.iconst 30 rfl (1 : Int32) d19_29 rfl ?_
    refine B.ishl 31 rfl d19_30 ?_
    refine B.topI (0 : Int32) (by decide) ?_
    refine B.istoreN 32 rfl d19_31 #[.val (.ref ub), .val (.int (0 : Int32)), .val (.int x0)] rfl ?_
    refine B.aloadN 33 rfl d19_32 rfl rfl ?_
    refine B.iloadN 34 rfl d19_33 rfl ?_
    refine B.iinc 37 rfl (1 : Int32) d19_34 rfl rfl #[.val (.ref ub), .val (.int (1 : Int32)), .val (.int x0)] rfl ?_
    refine B.iloadN 38 rfl d19_37 rfl ?_
    refine B.getS 41 rfl d19_38 (wd hw 92 rfl) SH ?_
    refine B.ishr 42 rfl d19_41 ?_
    refine B.i2b 43 rfl d19_42 ?_
    refine B.bastore 44 rfl d19_43 A (by decide) 0 rfl (by omega) (Or.inl (by simp)) ?_
    intro h0_ W0_ A0
    rw [own_b] at A0
    show B.G h0_ 0 0 (mkF m 44 #[.val (.ref ub), .val (.int (1 : Int32)), .val (.int x0)] [])
    refine B.aloadN 45 rfl d19_44 rfl rfl ?_
    refine B.iloadN 46 rfl d19_45 rfl ?_
    refine B.iloadN 47 rfl d19_46 rfl ?_
    refine B.getS 50 rfl d19_47 (wd hw 93 rfl) (SO.wr W0_) ?_
    refine B.ishr 51 rfl d19_50 ?_
    refine B.i2b 52 rfl d19_51 ?_
    refine B.bastore 53 rfl d19_52 A0 (by decide) 1 rfl (by simp only [List.length_set]; omega) (Or.inl (by simp)) ?_
    intro h1_ W1_ A1
    rw [own_b] at A1
    show B.G h1_ 0 0 (mkF m 53 #[.val (.ref ub), .val (.int (1 : Int32)), .val (.int x0)] [])
    refine B.ret0 d19_53 (by decide) (by decide) ?_
    exact ⟨rfl, A1⟩
  · exact absurd c3 (by decide)
theorem d20_0 : decode jdk_52_method_5_code 0 = .ok (.getstatic 44, 3) := by decide +kernel
theorem d20_3 : decode jdk_52_method_5_code 3 = .ok (.ifCond .ne 25, 3) := by decide +kernel
theorem d20_28 : decode jdk_52_method_5_code 28 = .ok (.iload_n 1, 1) := by decide +kernel
theorem d20_29 : decode jdk_52_method_5_code 29 = .ok (.iconst 1, 1) := by decide +kernel
theorem d20_30 : decode jdk_52_method_5_code 30 = .ok (.ishl, 1) := by decide +kernel
theorem d20_31 : decode jdk_52_method_5_code 31 = .ok (.istore_n 1, 1) := by decide +kernel
theorem d20_32 : decode jdk_52_method_5_code 32 = .ok (.aload_n 0, 1) := by decide +kernel
theorem d20_33 : decode jdk_52_method_5_code 33 = .ok (.iload_n 1, 1) := by decide +kernel
theorem d20_34 : decode jdk_52_method_5_code 34 = .ok (.iinc 1 1, 3) := by decide +kernel
theorem d20_37 : decode jdk_52_method_5_code 37 = .ok (.baload, 1) := by decide +kernel
theorem d20_38 : decode jdk_52_method_5_code 38 = .ok (.sipush 255, 3) := by decide +kernel
theorem d20_41 : decode jdk_52_method_5_code 41 = .ok (.iand, 1) := by decide +kernel
theorem d20_42 : decode jdk_52_method_5_code 42 = .ok (.getstatic 59, 3) := by decide +kernel
theorem d20_45 : decode jdk_52_method_5_code 45 = .ok (.ishl, 1) := by decide +kernel
theorem d20_46 : decode jdk_52_method_5_code 46 = .ok (.aload_n 0, 1) := by decide +kernel
theorem d20_47 : decode jdk_52_method_5_code 47 = .ok (.iload_n 1, 1) := by decide +kernel
theorem d20_48 : decode jdk_52_method_5_code 48 = .ok (.baload, 1) := by decide +kernel
theorem d20_49 : decode jdk_52_method_5_code 49 = .ok (.sipush 255, 3) := by decide +kernel
theorem d20_52 : decode jdk_52_method_5_code 52 = .ok (.iand, 1) := by decide +kernel
theorem d20_53 : decode jdk_52_method_5_code 53 = .ok (.getstatic 63, 3) := by decide +kernel
theorem d20_56 : decode jdk_52_method_5_code 56 = .ok (.ishl, 1) := by decide +kernel
theorem d20_57 : decode jdk_52_method_5_code 57 = .ok (.ior, 1) := by decide +kernel
theorem d20_58 : decode jdk_52_method_5_code 58 = .ok (.i2c, 1) := by decide +kernel
theorem d20_59 : decode jdk_52_method_5_code 59 = .ok (.ireturn, 1) := by decide +kernel
theorem pn_20 : plainFor (⟨"java/lang/StringUTF16", "getChar", "([BI)C"⟩ : MethodName) = true := by first | exact plainFor_of_name (by first | (simp [plainName, overriddenIn]; done) | decide +kernel) | decide +kernel
set_option maxRecDepth 65536 in
set_option maxHeartbeats 4000000 in
theorem rm_gc0 (l : Launch) (Z : State) (a0 : Array Value) (hw : ∀ d ∈ tables_1, d.before a0 Z = true) (ub : Addr) (x0 : Int32) (us : List Value) (cs : Int32) (vf : Value) (h0 : Heap) (hcs : ¬ cs = 0) (hvf : vf.isRef = true) (S : Sta Z h0 "java/lang/String" "COMPACT_STRINGS" "Z" (.int cs)) (SA : Sta Z h0 "java/lang/StringUTF16" "$assertionsDisabled" "Z" (.int 1)) (SH : Sta Z h0 "java/lang/StringUTF16" "HI_BYTE_SHIFT" "I" (.int 0)) (SO : Sta Z h0 "java/lang/StringUTF16" "LO_BYTE_SHIFT" "I" (.int 8)) (SF : Sta Z h0 "jdk/internal/util/Preconditions" "SIOOBE_FORMATTER" "Ljava/util/function/BiFunction;" vf) (q0 : isC x0) (A : Ary Z h0 ub .byte us) (hv0 : us[0]? = some (.int (own_lo x0))) (hv1 : us[1]? = some (.int (own_hi x0))) :
    Met l Z (⟨"java/lang/StringUTF16", "getChar", "([BI)C"⟩ : MethodName) jdk_52_method_5_code 2 (some .char) [] ({ frames := 0, cells := 0, slots := 0, locals := 0 } : Room) #[(.ref ub), (.int (0 : Int32))] h0 [] (fun v h => v = some (.int x0) ∧ h0 = h) := by
  refine Met.walk pn_20 (Ls := #[.val (.ref ub), .val (.int (0 : Int32))]) (fun m => by first | (simp [entryFrame, mkF, argsToLocals, Value.category, maxLocals]; done) | rfl) ?_
  intro p e s m below meth c B
  refine B.getS 3 rfl d20_0 (wd hw 91 rfl) SA ?_
  refine B.if0_ne 28 6 rfl (by decide) rfl d20_3 (fun c3 => ?_) (fun c3 => ?_)
  · refine B.iloadN 29 rfl d20_28 rfl ?_
    refine B.iconst 30 rfl (1 : Int32) d20_29 rfl ?_
    refine B.ishl 31 rfl d20_30 ?_
    refine B.topI (0 : Int32) (by decide) ?_
    refine B.istoreN 32 rfl d20_31 #[.val (.ref ub), .val (.int (0 : Int32))] rfl ?_
    refine B.aloadN 33 rfl d20_32 rfl rfl ?_
    refine B.iloadN 34 rfl d20_33 rfl ?_
    refine B.iinc 37 rfl (1 : Int32) d20_34 rfl rfl #[.val (.ref ub), .val (.int (1 : Int32))] rfl ?_
    refine B.baload 38 rfl d20_37 A (by decide) 0 rfl (.int (own_lo x0)) hv0 ?_
    refine B.sipush 41 rfl (255 : Int32) d20_38 rfl ?_
    refine B.iand 42 rfl d20_41 ?_
    refine B.getS 45 rfl d20_42 (wd hw 92 rfl) SH ?_
    refine B.ishl 46 rfl d20_45 ?_
    refine B.aloadN 47 rfl d20_46 rfl rfl ?_
    refine B.iloadN 48 rfl d20_47 rfl ?_
    refine B.baload 49 rfl d20_48 A (by decide) 1 rfl (.int (own_hi x0)) hv1 ?_
    refine B.sipush 52 rfl (255 : Int32) d20_49 rfl ?_
    refine B.iand 53 rfl d20_52 ?_
    refine B.getS 56 rfl d20_53 (wd hw 93 rfl) SO ?_
    refine B.ishl 57 rfl d20_56 ?_
    refine B.ior 58 rfl d20_57 ?_
    refine B.i2c 59 rfl d20_58 ?_
    refine B.retN (by simp) d20_59 (by decide) (by decide) ?_
    exact ⟨congrArg (fun z => some (Value.int z)) (own_gc2 x0 q0), rfl⟩
  · exact absurd c3 (by decide)
set_option maxRecDepth 65536 in
set_option maxHeartbeats 4000000 in
theorem rm_pc1 (l : Launch) (Z : State) (a0 : Array Value) (hw : ∀ d ∈ tables_1, d.before a0 Z = true) (ub : Addr) (x0 : Int32) (us : List Value) (cs : Int32) (vf : Value) (h0 : Heap) (hcs : ¬ cs = 0) (hvf : vf.isRef = true) (S : Sta Z h0 "java/lang/String" "COMPACT_STRINGS" "Z" (.int cs)) (SA : Sta Z h0 "java/lang/StringUTF16" "$assertionsDisabled" "Z" (.int 1)) (SH : Sta Z h0 "java/lang/StringUTF16" "HI_BYTE_SHIFT" "I" (.int 0)) (SO : Sta Z h0 "java/lang/StringUTF16" "LO_BYTE_SHIFT" "I" (.int 8)) (SF : Sta Z h0 "jdk/internal/util/Preconditions" "SIOOBE_FORMATTER" "Ljava/util/function/BiFunction;" vf) (A : Ary Z h0 ub .byte us) (hl : 3 < us.length) :
    Met l Z (⟨"java/lang/StringUTF16", "putChar", "([BII)V"⟩ : MethodName) jdk_52_method_4_code 3 none [] ({ frames := 0, cells := 0, slots := 0, locals := 0 } : Room) #[(.ref ub), (.int (1 : Int32)), (.int x0)] h0 [ub] (fun v h => v = none ∧ Ary Z h ub .byte ((us.set 2 (.int (own_lo x0))).set 3 (.int (own_hi x0)))) := by
  refine Met.walk pn_19 (Ls := #[.val (.ref ub), .val (.int (1 : Int32)), .val (.int x0)]) (fun m => by first | (simp [entryFrame, mkF, argsToLocals, Value.category, maxLocals]; done) | rfl) ?_
  intro p e s m below meth c B
  refine B.getS 3 rfl d19_0 (wd hw 91 rfl) SA ?_
  refine B.if0_ne 28 6 rfl (by decide) rfl d19_3 (fun c3 => ?_) (fun c3 => ?_)
  · refine B.iloadN 29 rfl d19_28 rfl ?_
    refine B.iconst 30 rfl (1 : Int32) d19_29 rfl ?_
    refine B.ishl 31 rfl d19_30 ?_
    refine B.topI (2 : Int32) (by decide) ?_
    refine B.istoreN 32 rfl d19_31 #[.val (.ref ub), .val (.int (2 : Int32)), .val (.int x0)] rfl ?_
    refine B.aloadN 33 rfl d19_32 rfl rfl ?_
    refine B.iloadN 34 rfl d19_33 rfl ?_
    refine B.iinc 37 rfl (1 : Int32) d19_34 rfl rfl #[.val (.ref ub), .val (.int (3 : Int32)), .val (.int x0)] rfl ?_
    refine B.iloadN 38 rfl d19_37 rfl ?_
    refine B.getS 41 rfl d19_38 (wd hw 92 rfl) SH ?_
    refine B.ishr 42 rfl d19_41 ?_
    refine B.i2b 43 rfl d19_42 ?_
    refine B.bastore 44 rfl d19_43 A (by decide) 2 rfl (by omega) (Or.inl (by simp)) ?_
    intro h0_ W0_ A0
    rw [own_b] at A0
    show B.G h0_ 0 0 (mkF m 44 #[.val (.ref ub), .val (.int (3 : Int32)), .val (.int x0)] [])
    refine B.aloadN 45 rfl d19_44 rfl rfl ?_
    refine B.iloadN 46 rfl d19_45 rfl ?_
    refine B.iloadN 47 rfl d19_46 rfl ?_
    refine B.getS 50 rfl d19_47 (wd hw 93 rfl) (SO.wr W0_) ?_
    refine B.ishr 51 rfl d19_50 ?_
    refine B.i2b 52 rfl d19_51 ?_
    refine B.bastore 53 rfl d19_52 A0 (by decide) 3 rfl (by simp only [List.length_set]; omega) (Or.inl (by simp)) ?_
    intro h1_ W1_ A1
    rw [own_b] at A1
    show B.G h1_ 0 0 (mkF m 53 #[.val (.ref ub), .val (.int (3 : Int32)), .val (.int x0)] [])
    refine B.ret0 d19_53 (by decide) (by decide) ?_
    exact ⟨rfl, A1⟩
  · exact absurd c3 (by decide)
set_option maxRecDepth 65536 in
set_option maxHeartbeats 4000000 in
theorem rm_gc1 (l : Launch) (Z : State) (a0 : Array Value) (hw : ∀ d ∈ tables_1, d.before a0 Z = true) (ub : Addr) (x0 : Int32) (us : List Value) (cs : Int32) (vf : Value) (h0 : Heap) (hcs : ¬ cs = 0) (hvf : vf.isRef = true) (S : Sta Z h0 "java/lang/String" "COMPACT_STRINGS" "Z" (.int cs)) (SA : Sta Z h0 "java/lang/StringUTF16" "$assertionsDisabled" "Z" (.int 1)) (SH : Sta Z h0 "java/lang/StringUTF16" "HI_BYTE_SHIFT" "I" (.int 0)) (SO : Sta Z h0 "java/lang/StringUTF16" "LO_BYTE_SHIFT" "I" (.int 8)) (SF : Sta Z h0 "jdk/internal/util/Preconditions" "SIOOBE_FORMATTER" "Ljava/util/function/BiFunction;" vf) (q0 : isC x0) (A : Ary Z h0 ub .byte us) (hv0 : us[2]? = some (.int (own_lo x0))) (hv1 : us[3]? = some (.int (own_hi x0))) :
    Met l Z (⟨"java/lang/StringUTF16", "getChar", "([BI)C"⟩ : MethodName) jdk_52_method_5_code 2 (some .char) [] ({ frames := 0, cells := 0, slots := 0, locals := 0 } : Room) #[(.ref ub), (.int (1 : Int32))] h0 [] (fun v h => v = some (.int x0) ∧ h0 = h) := by
  refine Met.walk pn_20 (Ls := #[.val (.ref ub), .val (.int (1 : Int32))]) (fun m => by first | (simp [entryFrame, mkF, argsToLocals, Value.category, maxLocals]; done) | rfl) ?_
  intro p e s m below meth c B
  refine B.getS 3 rfl d20_0 (wd hw 91 rfl) SA ?_
  refine B.if0_ne 28 6 rfl (by decide) rfl d20_3 (fun c3 => ?_) (fun c3 => ?_)
  · refine B.iloadN 29 rfl d20_28 rfl ?_
    refine B.iconst 30 rfl (1 : Int32) d20_29 rfl ?_
    refine B.ishl 31 rfl d20_30 ?_
    refine B.topI (2 : Int32) (by decide) ?_
    refine B.istoreN 32 rfl d20_31 #[.val (.ref ub), .val (.int (2 : Int32))] rfl ?_
    refine B.aloadN 33 rfl d20_32 rfl rfl ?_
    refine B.iloadN 34 rfl d20_33 rfl ?_
    refine B.iinc 37 rfl (1 : Int32) d20_34 rfl rfl #[.val (.ref ub), .val (.int (3 : Int32))] rfl ?_
    refine B.baload 38 rfl d20_37 A (by decide) 2 rfl (.int (own_lo x0)) hv0 ?_
    refine B.sipush 41 rfl (255 : Int32) d20_38 rfl ?_
    refine B.iand 42 rfl d20_41 ?_
    refine B.getS 45 rfl d20_42 (wd hw 92 rfl) SH ?_
    refine B.ishl 46 rfl d20_45 ?_
    refine B.aloadN 47 rfl d20_46 rfl rfl ?_
    refine B.iloadN 48 rfl d20_47 rfl ?_
    refine B.baload 49 rfl d20_48 A (by decide) 3 rfl (.int (own_hi x0)) hv1 ?_
    refine B.sipush 52 rfl (255 : Int32) d20_49 rfl ?_
    refine B.iand 53 rfl d20_52 ?_
    refine B.getS 56 rfl d20_53 (wd hw 93 rfl) SO ?_
    refine B.ishl 57 rfl d20_56 ?_
    refine B.ior 58 rfl d20_57 ?_
    refine B.i2c 59 rfl d20_58 ?_
    refine B.retN (by simp) d20_59 (by decide) (by decide) ?_
    exact ⟨congrArg (fun z => some (Value.int z)) (own_gc2 x0 q0), rfl⟩
  · exact absurd c3 (by decide)
set_option maxRecDepth 65536 in
set_option maxHeartbeats 4000000 in
theorem rm_pc2 (l : Launch) (Z : State) (a0 : Array Value) (hw : ∀ d ∈ tables_1, d.before a0 Z = true) (ub : Addr) (x0 : Int32) (us : List Value) (cs : Int32) (vf : Value) (h0 : Heap) (hcs : ¬ cs = 0) (hvf : vf.isRef = true) (S : Sta Z h0 "java/lang/String" "COMPACT_STRINGS" "Z" (.int cs)) (SA : Sta Z h0 "java/lang/StringUTF16" "$assertionsDisabled" "Z" (.int 1)) (SH : Sta Z h0 "java/lang/StringUTF16" "HI_BYTE_SHIFT" "I" (.int 0)) (SO : Sta Z h0 "java/lang/StringUTF16" "LO_BYTE_SHIFT" "I" (.int 8)) (SF : Sta Z h0 "jdk/internal/util/Preconditions" "SIOOBE_FORMATTER" "Ljava/util/function/BiFunction;" vf) (A : Ary Z h0 ub .byte us) (hl : 5 < us.length) :
    Met l Z (⟨"java/lang/StringUTF16", "putChar", "([BII)V"⟩ : MethodName) jdk_52_method_4_code 3 none [] ({ frames := 0, cells := 0, slots := 0, locals := 0 } : Room) #[(.ref ub), (.int (2 : Int32)), (.int x0)] h0 [ub] (fun v h => v = none ∧ Ary Z h ub .byte ((us.set 4 (.int (own_lo x0))).set 5 (.int (own_hi x0)))) := by
  refine Met.walk pn_19 (Ls := #[.val (.ref ub), .val (.int (2 : Int32)), .val (.int x0)]) (fun m => by first | (simp [entryFrame, mkF, argsToLocals, Value.category, maxLocals]; done) | rfl) ?_
  intro p e s m below meth c B
  refine B.getS 3 rfl d19_0 (wd hw 91 rfl) SA ?_
  refine B.if0_ne 28 6 rfl (by decide) rfl d19_3 (fun c3 => ?_) (fun c3 => ?_)
  · refine B.iloadN 29 rfl d19_28 rfl ?_
    refine B.iconst 30 rfl (1 : Int32) d19_29 rfl ?_
    refine B.ishl 31 rfl d19_30 ?_
    refine B.topI (4 : Int32) (by decide) ?_
    refine B.istoreN 32 rfl d19_31 #[.val (.ref ub), .val (.int (4 : Int32)), .val (.int x0)] rfl ?_
    refine B.aloadN 33 rfl d19_32 rfl rfl ?_
    refine B.iloadN 34 rfl d19_33 rfl ?_
    refine B.iinc 37 rfl (1 : Int32) d19_34 rfl rfl #[.val (.ref ub), .val (.int (5 : Int32)), .val (.int x0)] rfl ?_
    refine B.iloadN 38 rfl d19_37 rfl ?_
    refine B.getS 41 rfl d19_38 (wd hw 92 rfl) SH ?_
    refine B.ishr 42 rfl d19_41 ?_
    refine B.i2b 43 rfl d19_42 ?_
    refine B.bastore 44 rfl d19_43 A (by decide) 4 rfl (by omega) (Or.inl (by simp)) ?_
    intro h0_ W0_ A0
    rw [own_b] at A0
    show B.G h0_ 0 0 (mkF m 44 #[.val (.ref ub), .val (.int (5 : Int32)), .val (.int x0)] [])
    refine B.aloadN 45 rfl d19_44 rfl rfl ?_
    refine B.iloadN 46 rfl d19_45 rfl ?_
    refine B.iloadN 47 rfl d19_46 rfl ?_
    refine B.getS 50 rfl d19_47 (wd hw 93 rfl) (SO.wr W0_) ?_
    refine B.ishr 51 rfl d19_50 ?_
    refine B.i2b 52 rfl d19_51 ?_
    refine B.bastore 53 rfl d19_52 A0 (by decide) 5 rfl (by simp only [List.length_set]; omega) (Or.inl (by simp)) ?_
    intro h1_ W1_ A1
    rw [own_b] at A1
    show B.G h1_ 0 0 (mkF m 53 #[.val (.ref ub), .val (.int (5 : Int32)), .val (.int x0)] [])
    refine B.ret0 d19_53 (by decide) (by decide) ?_
    exact ⟨rfl, A1⟩
  · exact absurd c3 (by decide)
set_option maxRecDepth 65536 in
set_option maxHeartbeats 4000000 in
theorem rm_gc2 (l : Launch) (Z : State) (a0 : Array Value) (hw : ∀ d ∈ tables_1, d.before a0 Z = true) (ub : Addr) (x0 : Int32) (us : List Value) (cs : Int32) (vf : Value) (h0 : Heap) (hcs : ¬ cs = 0) (hvf : vf.isRef = true) (S : Sta Z h0 "java/lang/String" "COMPACT_STRINGS" "Z" (.int cs)) (SA : Sta Z h0 "java/lang/StringUTF16" "$assertionsDisabled" "Z" (.int 1)) (SH : Sta Z h0 "java/lang/StringUTF16" "HI_BYTE_SHIFT" "I" (.int 0)) (SO : Sta Z h0 "java/lang/StringUTF16" "LO_BYTE_SHIFT" "I" (.int 8)) (SF : Sta Z h0 "jdk/internal/util/Preconditions" "SIOOBE_FORMATTER" "Ljava/util/function/BiFunction;" vf) (q0 : isC x0) (A : Ary Z h0 ub .byte us) (hv0 : us[4]? = some (.int (own_lo x0))) (hv1 : us[5]? = some (.int (own_hi x0))) :
    Met l Z (⟨"java/lang/StringUTF16", "getChar", "([BI)C"⟩ : MethodName) jdk_52_method_5_code 2 (some .char) [] ({ frames := 0, cells := 0, slots := 0, locals := 0 } : Room) #[(.ref ub), (.int (2 : Int32))] h0 [] (fun v h => v = some (.int x0) ∧ h0 = h) := by
  refine Met.walk pn_20 (Ls := #[.val (.ref ub), .val (.int (2 : Int32))]) (fun m => by first | (simp [entryFrame, mkF, argsToLocals, Value.category, maxLocals]; done) | rfl) ?_
  intro p e s m below meth c B
  refine B.getS 3 rfl d20_0 (wd hw 91 rfl) SA ?_
  refine B.if0_ne 28 6 rfl (by decide) rfl d20_3 (fun c3 => ?_) (fun c3 => ?_)
  · refine B.iloadN 29 rfl d20_28 rfl ?_
    refine B.iconst 30 rfl (1 : Int32) d20_29 rfl ?_
    refine B.ishl 31 rfl d20_30 ?_
    refine B.topI (4 : Int32) (by decide) ?_
    refine B.istoreN 32 rfl d20_31 #[.val (.ref ub), .val (.int (4 : Int32))] rfl ?_
    refine B.aloadN 33 rfl d20_32 rfl rfl ?_
    refine B.iloadN 34 rfl d20_33 rfl ?_
    refine B.iinc 37 rfl (1 : Int32) d20_34 rfl rfl #[.val (.ref ub), .val (.int (5 : Int32))] rfl ?_
    refine B.baload 38 rfl d20_37 A (by decide) 4 rfl (.int (own_lo x0)) hv0 ?_
    refine B.sipush 41 rfl (255 : Int32) d20_38 rfl ?_
    refine B.iand 42 rfl d20_41 ?_
    refine B.getS 45 rfl d20_42 (wd hw 92 rfl) SH ?_
    refine B.ishl 46 rfl d20_45 ?_
    refine B.aloadN 47 rfl d20_46 rfl rfl ?_
    refine B.iloadN 48 rfl d20_47 rfl ?_
    refine B.baload 49 rfl d20_48 A (by decide) 5 rfl (.int (own_hi x0)) hv1 ?_
    refine B.sipush 52 rfl (255 : Int32) d20_49 rfl ?_
    refine B.iand 53 rfl d20_52 ?_
    refine B.getS 56 rfl d20_53 (wd hw 93 rfl) SO ?_
    refine B.ishl 57 rfl d20_56 ?_
    refine B.ior 58 rfl d20_57 ?_
    refine B.i2c 59 rfl d20_58 ?_
    refine B.retN (by simp) d20_59 (by decide) (by decide) ?_
    exact ⟨congrArg (fun z => some (Value.int z)) (own_gc2 x0 q0), rfl⟩
  · exact absurd c3 (by decide)
theorem d16_0 : decode jdk_52_method_14_code 0 = .ok (.iload_n 2, 1) := by decide +kernel
theorem d16_1 : decode jdk_52_method_14_code 1 = .ok (.invokestatic 107, 3) := by decide +kernel
theorem d16_4 : decode jdk_52_method_14_code 4 = .ok (.astore_n 3, 1) := by decide +kernel
theorem d16_5 : decode jdk_52_method_14_code 5 = .ok (.iconst 0, 1) := by decide +kernel
theorem d16_6 : decode jdk_52_method_14_code 6 = .ok (.istore 4, 2) := by decide +kernel
theorem d16_8 : decode jdk_52_method_14_code 8 = .ok (.iload 4, 2) := by decide +kernel
theorem d16_10 : decode jdk_52_method_14_code 10 = .ok (.iload_n 2, 1) := by decide +kernel
theorem d16_11 : decode jdk_52_method_14_code 11 = .ok (.if_icmp .ge 21, 3) := by decide +kernel
theorem d16_14 : decode jdk_52_method_14_code 14 = .ok (.aload_n 3, 1) := by decide +kernel
theorem d16_15 : decode jdk_52_method_14_code 15 = .ok (.iload 4, 2) := by decide +kernel
theorem d16_17 : decode jdk_52_method_14_code 17 = .ok (.aload_n 0, 1) := by decide +kernel
theorem d16_18 : decode jdk_52_method_14_code 18 = .ok (.iload_n 1, 1) := by decide +kernel
theorem d16_19 : decode jdk_52_method_14_code 19 = .ok (.caload, 1) := by decide +kernel
theorem d16_20 : decode jdk_52_method_14_code 20 = .ok (.invokestatic 111, 3) := by decide +kernel
theorem d16_23 : decode jdk_52_method_14_code 23 = .ok (.iinc 1 1, 3) := by decide +kernel
theorem d16_26 : decode jdk_52_method_14_code 26 = .ok (.iinc 4 1, 3) := by decide +kernel
theorem d16_29 : decode jdk_52_method_14_code 29 = .ok (.goto (-21), 3) := by decide +kernel
theorem d16_32 : decode jdk_52_method_14_code 32 = .ok (.aload_n 3, 1) := by decide +kernel
theorem d16_33 : decode jdk_52_method_14_code 33 = .ok (.areturn, 1) := by decide +kernel
theorem pn_16 : plainFor (⟨"java/lang/StringUTF16", "toBytes", "([CII)[B"⟩ : MethodName) = true := by first | exact plainFor_of_name (by first | (simp [plainName, overriddenIn]; done) | decide +kernel) | decide +kernel
set_option maxRecDepth 65536 in
set_option maxHeartbeats 4000000 in
theorem rm_tb1 (l : Launch) (Z : State) (a0 : Array Value) (hw : ∀ d ∈ tables_1, d.before a0 Z = true) (ca : Addr) (x0 : Int32) (cs : Int32) (vf : Value) (h0 : Heap) (hcs : ¬ cs = 0) (hvf : vf.isRef = true) (S : Sta Z h0 "java/lang/String" "COMPACT_STRINGS" "Z" (.int cs)) (SA : Sta Z h0 "java/lang/StringUTF16" "$assertionsDisabled" "Z" (.int 1)) (SH : Sta Z h0 "java/lang/StringUTF16" "HI_BYTE_SHIFT" "I" (.int 0)) (SO : Sta Z h0 "java/lang/StringUTF16" "LO_BYTE_SHIFT" "I" (.int 8)) (SF : Sta Z h0 "jdk/internal/util/Preconditions" "SIOOBE_FORMATTER" "Ljava/util/function/BiFunction;" vf) (A_ca : Ary Z h0 ca .char [(.int x0)]) :
    Met l Z (⟨"java/lang/StringUTF16", "toBytes", "([CII)[B"⟩ : MethodName) jdk_52_method_14_code 5 (some (.array .byte)) [] ({ frames := 2, cells := 1, slots := 2, locals := 24 } : Room) #[(.ref ca), (.int (0 : Int32)), (.int (1 : Int32))] h0 [] (fun v h => ∃ ub, v = some (.ref ub) ∧ h0.size ≤ ub ∧ Ary Z h ub .byte [(.int (own_lo x0)), (.int (own_hi x0))]) := by
  refine Met.walk pn_16 (Ls := #[.val (.ref ca), .val (.int (0 : Int32)), .val (.int (1 : Int32)), .unset, .unset]) (fun m => by first | (simp [entryFrame, mkF, argsToLocals, Value.category, maxLocals]; done) | rfl) ?_
  intro p e s m below meth c B
  refine B.iloadN 1 rfl d16_0 rfl ?_
  refine B.callS 4 rfl d16_1 (wd hw 81 rfl) (wd hw 82 rfl) (wd hw 69 rfl) (wd hw 83 rfl) (by decide) [(.int (1 : Int32))] [] (rm_nf1 l Z a0 hw h0) rfl rfl pd__I__B rfl rfl 0 rfl (by decide) (by decide) (by decide) (by decide) (fun _ q => nomatch q) ?_
  rintro _ h1 K1 ⟨ub, rfl, gu, Au⟩
  show B.G h1 1 2 (mkF m 4 #[.val (.ref ca), .val (.int (0 : Int32)), .val (.int (1 : Int32)), .unset, .unset] [(.ref ub)])
  have nu : ca ≠ ub := fun q => absurd A_ca.lt (by rw [q]; exact Nat.not_lt.mpr gu)
  have Ac1 := A_ca.keep K1 nin0
  have X1 : Ext h0 h1 := own_ke K1
  refine B.astoreN 5 rfl d16_4 rfl #[.val (.ref ca), .val (.int (0 : Int32)), .val (.int (1 : Int32)), .val (.ref ub), .unset] rfl ?_
  refine B.iconst 6 rfl (0 : Int32) d16_5 rfl ?_
  refine B.istore 8 rfl d16_6 #[.val (.ref ca), .val (.int (0 : Int32)), .val (.int (1 : Int32)), .val (.ref ub), .val (.int (0 : Int32))] rfl ?_
  refine B.iload 10 rfl d16_8 rfl ?_
  refine B.iloadN 11 rfl d16_10 rfl ?_
  refine B.icmp_ge 32 14 rfl (by decide) rfl d16_11 (fun c11 => ?_) (fun c11 => ?_)
  · exact absurd c11 (by decide)
  · refine B.aloadN 15 rfl d16_14 rfl rfl ?_
    refine B.iload 17 rfl d16_15 rfl ?_
    refine B.aloadN 18 rfl d16_17 rfl rfl ?_
    refine B.iloadN 19 rfl d16_18 rfl ?_
    refine B.caload 20 rfl d16_19 Ac1 (by decide) 0 rfl (.int x0) rfl ?_
    refine B.callS 23 rfl d16_20 (wd hw 88 rfl) (wd hw 89 rfl) (wd hw 69 rfl) (wd hw 90 rfl) (by decide) [(.ref ub), (.int (0 : Int32)), (.int x0)] [] (rm_pc0 l Z a0 hw ub x0 [(.int (0 : Int32)), (.int (0 : Int32))] cs vf h1 hcs hvf (S.ext X1) (SA.ext X1) (SH.ext X1) (SO.ext X1) (SF.ext X1) Au (by simp)) rfl rfl pd___BII_V rfl rfl 0 rfl (by decide) (by decide) (by decide) (by decide) (fun x z => Or.inr (by cases List.mem_singleton.mp z; exact gu)) ?_
    rintro _ hp0 Kp0 ⟨rfl, Ap0⟩
    show B.G hp0 1 2 (mkF m 23 #[.val (.ref ca), .val (.int (0 : Int32)), .val (.int (1 : Int32)), .val (.ref ub), .val (.int (0 : Int32))] [])
    replace Ap0 : Ary Z hp0 ub .byte [(.int (own_lo x0)), (.int (own_hi x0))] := Ap0
    have Acp0 := Ac1.keep Kp0 (ninS nu nin0)
    have Xp0 : Ext h0 hp0 := own_kx X1 Kp0 gu
    refine B.iinc 26 rfl (1 : Int32) d16_23 rfl rfl #[.val (.ref ca), .val (.int (1 : Int32)), .val (.int (1 : Int32)), .val (.ref ub), .val (.int (0 : Int32))] rfl ?_
    refine B.iinc 29 rfl (1 : Int32) d16_26 rfl rfl #[.val (.ref ca), .val (.int (1 : Int32)), .val (.int (1 : Int32)), .val (.ref ub), .val (.int (1 : Int32))] rfl ?_
    refine B.goto 8 rfl (by decide) d16_29 ?_
    refine B.iload 10 rfl d16_8 rfl ?_
    refine B.iloadN 11 rfl d16_10 rfl ?_
    refine B.icmp_ge 32 14 rfl (by decide) rfl d16_11 (fun c11_1 => ?_) (fun c11_1 => ?_)
    · refine B.aloadN 33 rfl d16_32 rfl rfl ?_
      refine B.retA rfl rfl d16_33 (by decide) (by decide) ?_
      exact ⟨ub, rfl, gu, Ap0⟩
    · exact absurd c11_1 (by decide)
set_option maxRecDepth 65536 in
set_option maxHeartbeats 4000000 in
theorem rm_tb2 (l : Launch) (Z : State) (a0 : Array Value) (hw : ∀ d ∈ tables_1, d.before a0 Z = true) (ca : Addr) (x0 x1 : Int32) (cs : Int32) (vf : Value) (h0 : Heap) (hcs : ¬ cs = 0) (hvf : vf.isRef = true) (S : Sta Z h0 "java/lang/String" "COMPACT_STRINGS" "Z" (.int cs)) (SA : Sta Z h0 "java/lang/StringUTF16" "$assertionsDisabled" "Z" (.int 1)) (SH : Sta Z h0 "java/lang/StringUTF16" "HI_BYTE_SHIFT" "I" (.int 0)) (SO : Sta Z h0 "java/lang/StringUTF16" "LO_BYTE_SHIFT" "I" (.int 8)) (SF : Sta Z h0 "jdk/internal/util/Preconditions" "SIOOBE_FORMATTER" "Ljava/util/function/BiFunction;" vf) (A_ca : Ary Z h0 ca .char [(.int x0), (.int x1)]) :
    Met l Z (⟨"java/lang/StringUTF16", "toBytes", "([CII)[B"⟩ : MethodName) jdk_52_method_14_code 5 (some (.array .byte)) [] ({ frames := 2, cells := 1, slots := 4, locals := 24 } : Room) #[(.ref ca), (.int (0 : Int32)), (.int (2 : Int32))] h0 [] (fun v h => ∃ ub, v = some (.ref ub) ∧ h0.size ≤ ub ∧ Ary Z h ub .byte [(.int (own_lo x0)), (.int (own_hi x0)), (.int (own_lo x1)), (.int (own_hi x1))]) := by
  refine Met.walk pn_16 (Ls := #[.val (.ref ca), .val (.int (0 : Int32)), .val (.int (2 : Int32)), .unset, .unset]) (fun m => by first | (simp [entryFrame, mkF, argsToLocals, Value.category, maxLocals]; done) | rfl) ?_
  intro p e s m below meth c B
  refine B.iloadN 1 rfl d16_0 rfl ?_
  refine B.callS 4 rfl d16_1 (wd hw 81 rfl) (wd hw 82 rfl) (wd hw 69 rfl) (wd hw 83 rfl) (by decide) [(.int (2 : Int32))] [] (rm_nf2 l Z a0 hw h0) rfl rfl pd__I__B rfl rfl 0 rfl (by decide) (by decide) (by decide) (by decide) (fun _ q => nomatch q) ?_
  rintro _ h1 K1 ⟨ub, rfl, gu, Au⟩
  show B.G h1 1 4 (mkF m 4 #[.val (.ref ca), .val (.int (0 : Int32)), .val (.int (2 : Int32)), .unset, .unset] [(.ref ub)])
  have nu : ca ≠ ub := fun q => absurd A_ca.lt (by rw [q]; exact Nat.not_lt.mpr gu)
  have Ac1 := A_ca.keep K1 nin0
  have X1 : Ext h0 h1 := own_ke K1
  refine B.astoreN 5 rfl d16_4 rfl #[.val (.ref ca), .val (.int (0 : Int32)), .val (.int (2 : Int32)), .val (.ref ub), .unset] rfl ?_
  refine B.iconst 6 rfl (0 : Int32) d16_5 rfl ?_
  refine B.istore 8 rfl d16_6 #[.val (.ref ca), .val (.int (0 : Int32)), .val (.int (2 : Int32)), .val (.ref ub), .val (.int (0 : Int32))] rfl ?_
  refine B.iload 10 rfl d16_8 rfl ?_
  refine B.iloadN 11 rfl d16_10 rfl ?_
  refine B.icmp_ge 32 14 rfl (by decide) rfl d16_11 (fun c11 => ?_) (fun c11 => ?_)
  · exact absurd c11 (by decide)
  · refine B.aloadN 15 rfl d16_14 rfl rfl ?_
    refine B.iload 17 rfl d16_15 rfl ?_
    refine B.aloadN 18 rfl d16_17 rfl rfl ?_
    refine B.iloadN 19 rfl d16_18 rfl ?_
    refine B.caload 20 rfl d16_19 Ac1 (by decide) 0 rfl (.int x0) rfl ?_
    refine B.callS 23 rfl d16_20 (wd hw 88 rfl) (wd hw 89 rfl) (wd hw 69 rfl) (wd hw 90 rfl) (by decide) [(.ref ub), (.int (0 : Int32)), (.int x0)] [] (rm_pc0 l Z a0 hw ub x0 [(.int (0 : Int32)), (.int (0 : Int32)), (.int (0 : Int32)), (.int (0 : Int32))] cs vf h1 hcs hvf (S.ext X1) (SA.ext X1) (SH.ext X1) (SO.ext X1) (SF.ext X1) Au (by simp)) rfl rfl pd___BII_V rfl rfl 0 rfl (by decide) (by decide) (by decide) (by decide) (fun x z => Or.inr (by cases List.mem_singleton.mp z; exact gu)) ?_
    rintro _ hp0 Kp0 ⟨rfl, Ap0⟩
    show B.G hp0 1 4 (mkF m 23 #[.val (.ref ca), .val (.int (0 : Int32)), .val (.int (2 : Int32)), .val (.ref ub), .val (.int (0 : Int32))] [])
    replace Ap0 : Ary Z hp0 ub .byte [(.int (own_lo x0)), (.int (own_hi x0)), (.int (0 : Int32)), (.int (0 : Int32))] := Ap0
    have Acp0 := Ac1.keep Kp0 (ninS nu nin0)
    have Xp0 : Ext h0 hp0 := own_kx X1 Kp0 gu
    refine B.iinc 26 rfl (1 : Int32) d16_23 rfl rfl #[.val (.ref ca), .val (.int (1 : Int32)), .val (.int (2 : Int32)), .val (.ref ub), .val (.int (0 : Int32))] rfl ?_
    refine B.iinc 29 rfl (1 : Int32) d16_26 rfl rfl #[.val (.ref ca), .val (.int (1 : Int32)), .val (.int (2 : Int32)), .val (.ref ub), .val (.int (1 : Int32))] rfl ?_
    refine B.goto 8 rfl (by decide) d16_29 ?_
    refine B.iload 10 rfl d16_8 rfl ?_
    refine B.iloadN 11 rfl d16_10 rfl ?_
    refine B.icmp_ge 32 14 rfl (by decide) rfl d16_11 (fun c11_1 => ?_) (fun c11_1 => ?_)
    · exact absurd c11_1 (by decide)
    · refine B.aloadN 15 rfl d16_14 rfl rfl ?_
      refine B.iload 17 rfl d16_15 rfl ?_
      refine B.aloadN 18 rfl d16_17 rfl rfl ?_
      refine B.iloadN 19 rfl d16_18 rfl ?_
      refine B.caload 20 rfl d16_19 Acp0 (by decide) 1 rfl (.int x1) rfl ?_
      refine B.callS 23 rfl d16_20 (wd hw 88 rfl) (wd hw 89 rfl) (wd hw 69 rfl) (wd hw 90 rfl) (by decide) [(.ref ub), (.int (1 : Int32)), (.int x1)] [] (rm_pc1 l Z a0 hw ub x1 [(.int (own_lo x0)), (.int (own_hi x0)), (.int (0 : Int32)), (.int (0 : Int32))] cs vf hp0 hcs hvf (S.ext Xp0) (SA.ext Xp0) (SH.ext Xp0) (SO.ext Xp0) (SF.ext Xp0) Ap0 (by simp)) rfl rfl pd___BII_V rfl rfl 0 rfl (by decide) (by decide) (by decide) (by decide) (fun x z => Or.inr (by cases List.mem_singleton.mp z; exact gu)) ?_
      rintro _ hp1 Kp1 ⟨rfl, Ap1⟩
      show B.G hp1 1 4 (mkF m 23 #[.val (.ref ca), .val (.int (1 : Int32)), .val (.int (2 : Int32)), .val (.ref ub), .val (.int (1 : Int32))] [])
      replace Ap1 : Ary Z hp1 ub .byte [(.int (own_lo x0)), (.int (own_hi x0)), (.int (own_lo x1)), (.int (own_hi x1))] := Ap1
      have Acp1 := Acp0.keep Kp1 (ninS nu nin0)
      have Xp1 : Ext h0 hp1 := own_kx Xp0 Kp1 gu
      refine B.iinc 26 rfl (1 : Int32) d16_23 rfl rfl #[.val (.ref ca), .val (.int (2 : Int32)), .val (.int (2 : Int32)), .val (.ref ub), .val (.int (1 : Int32))] rfl ?_
      refine B.iinc 29 rfl (1 : Int32) d16_26 rfl rfl #[.val (.ref ca), .val (.int (2 : Int32)), .val (.int (2 : Int32)), .val (.ref ub), .val (.int (2 : Int32))] rfl ?_
      refine B.goto 8 rfl (by decide) d16_29 ?_
      refine B.iload 10 rfl d16_8 rfl ?_
      refine B.iloadN 11 rfl d16_10 rfl ?_
      refine B.icmp_ge 32 14 rfl (by decide) rfl d16_11 (fun c11_2 => ?_) (fun c11_2 => ?_)
      · refine B.aloadN 33 rfl d16_32 rfl rfl ?_
        refine B.retA rfl rfl d16_33 (by decide) (by decide) ?_
        exact ⟨ub, rfl, gu, Ap1⟩
      · exact absurd c11_2 (by decide)
set_option maxRecDepth 65536 in
set_option maxHeartbeats 4000000 in
theorem rm_tb3 (l : Launch) (Z : State) (a0 : Array Value) (hw : ∀ d ∈ tables_1, d.before a0 Z = true) (ca : Addr) (x0 x1 x2 : Int32) (cs : Int32) (vf : Value) (h0 : Heap) (hcs : ¬ cs = 0) (hvf : vf.isRef = true) (S : Sta Z h0 "java/lang/String" "COMPACT_STRINGS" "Z" (.int cs)) (SA : Sta Z h0 "java/lang/StringUTF16" "$assertionsDisabled" "Z" (.int 1)) (SH : Sta Z h0 "java/lang/StringUTF16" "HI_BYTE_SHIFT" "I" (.int 0)) (SO : Sta Z h0 "java/lang/StringUTF16" "LO_BYTE_SHIFT" "I" (.int 8)) (SF : Sta Z h0 "jdk/internal/util/Preconditions" "SIOOBE_FORMATTER" "Ljava/util/function/BiFunction;" vf) (A_ca : Ary Z h0 ca .char [(.int x0), (.int x1), (.int x2)]) :
    Met l Z (⟨"java/lang/StringUTF16", "toBytes", "([CII)[B"⟩ : MethodName) jdk_52_method_14_code 5 (some (.array .byte)) [] ({ frames := 2, cells := 1, slots := 6, locals := 24 } : Room) #[(.ref ca), (.int (0 : Int32)), (.int (3 : Int32))] h0 [] (fun v h => ∃ ub, v = some (.ref ub) ∧ h0.size ≤ ub ∧ Ary Z h ub .byte [(.int (own_lo x0)), (.int (own_hi x0)), (.int (own_lo x1)), (.int (own_hi x1)), (.int (own_lo x2)), (.int (own_hi x2))]) := by
  refine Met.walk pn_16 (Ls := #[.val (.ref ca), .val (.int (0 : Int32)), .val (.int (3 : Int32)), .unset, .unset]) (fun m => by first | (simp [entryFrame, mkF, argsToLocals, Value.category, maxLocals]; done) | rfl) ?_
  intro p e s m below meth c B
  refine B.iloadN 1 rfl d16_0 rfl ?_
  refine B.callS 4 rfl d16_1 (wd hw 81 rfl) (wd hw 82 rfl) (wd hw 69 rfl) (wd hw 83 rfl) (by decide) [(.int (3 : Int32))] [] (rm_nf3 l Z a0 hw h0) rfl rfl pd__I__B rfl rfl 0 rfl (by decide) (by decide) (by decide) (by decide) (fun _ q => nomatch q) ?_
  rintro _ h1 K1 ⟨ub, rfl, gu, Au⟩
  show B.G h1 1 6 (mkF m 4 #[.val (.ref ca), .val (.int (0 : Int32)), .val (.int (3 : Int32)), .unset, .unset] [(.ref ub)])
  have nu : ca ≠ ub := fun q => absurd A_ca.lt (by rw [q]; exact Nat.not_lt.mpr gu)
  have Ac1 := A_ca.keep K1 nin0
  have X1 : Ext h0 h1 := own_ke K1
  refine B.astoreN 5 rfl d16_4 rfl #[.val (.ref ca), .val (.int (0 : Int32)), .val (.int (3 : Int32)), .val (.ref ub), .unset] rfl ?_
  refine B.iconst 6 rfl (0 : Int32) d16_5 rfl ?_
  refine B.istore 8 rfl d16_6 #[.val (.ref ca), .val (.int (0 : Int32)), .val (.int (3 : Int32)), .val (.ref ub), .val (.int (0 : Int32))] rfl ?_
  refine B.iload 10 rfl d16_8 rfl ?_
  refine B.iloadN 11 rfl d16_10 rfl ?_
  refine B.icmp_ge 32 14 rfl (by decide) rfl d16_11 (fun c11 => ?_) (fun c11 => ?_)
  · exact absurd c11 (by decide)
  · refine B.aloadN 15 rfl d16_14 rfl rfl ?_
    refine B.iload 17 rfl d16_15 rfl ?_
    refine B.aloadN 18 rfl d16_17 rfl rfl ?_
    refine B.iloadN 19 rfl d16_18 rfl ?_
    refine B.caload 20 rfl d16_19 Ac1 (by decide) 0 rfl (.int x0) rfl ?_
    refine B.callS 23 rfl d16_20 (wd hw 88 rfl) (wd hw 89 rfl) (wd hw 69 rfl) (wd hw 90 rfl) (by decide) [(.ref ub), (.int (0 : Int32)), (.int x0)] [] (rm_pc0 l Z a0 hw ub x0 [(.int (0 : Int32)), (.int (0 : Int32)), (.int (0 : Int32)), (.int (0 : Int32)), (.int (0 : Int32)), (.int (0 : Int32))] cs vf h1 hcs hvf (S.ext X1) (SA.ext X1) (SH.ext X1) (SO.ext X1) (SF.ext X1) Au (by simp)) rfl rfl pd___BII_V rfl rfl 0 rfl (by decide) (by decide) (by decide) (by decide) (fun x z => Or.inr (by cases List.mem_singleton.mp z; exact gu)) ?_
    rintro _ hp0 Kp0 ⟨rfl, Ap0⟩
    show B.G hp0 1 6 (mkF m 23 #[.val (.ref ca), .val (.int (0 : Int32)), .val (.int (3 : Int32)), .val (.ref ub), .val (.int (0 : Int32))] [])
    replace Ap0 : Ary Z hp0 ub .byte [(.int (own_lo x0)), (.int (own_hi x0)), (.int (0 : Int32)), (.int (0 : Int32)), (.int (0 : Int32)), (.int (0 : Int32))] := Ap0
    have Acp0 := Ac1.keep Kp0 (ninS nu nin0)
    have Xp0 : Ext h0 hp0 := own_kx X1 Kp0 gu
    refine B.iinc 26 rfl (1 : Int32) d16_23 rfl rfl #[.val (.ref ca), .val (.int (1 : Int32)), .val (.int (3 : Int32)), .val (.ref ub), .val (.int (0 : Int32))] rfl ?_
    refine B.iinc 29 rfl (1 : Int32) d16_26 rfl rfl #[.val (.ref ca), .val (.int (1 : Int32)), .val (.int (3 : Int32)), .val (.ref ub), .val (.int (1 : Int32))] rfl ?_
    refine B.goto 8 rfl (by decide) d16_29 ?_
    refine B.iload 10 rfl d16_8 rfl ?_
    refine B.iloadN 11 rfl d16_10 rfl ?_
    refine B.icmp_ge 32 14 rfl (by decide) rfl d16_11 (fun c11_1 => ?_) (fun c11_1 => ?_)
    · exact absurd c11_1 (by decide)
    · refine B.aloadN 15 rfl d16_14 rfl rfl ?_
      refine B.iload 17 rfl d16_15 rfl ?_
      refine B.aloadN 18 rfl d16_17 rfl rfl ?_
      refine B.iloadN 19 rfl d16_18 rfl ?_
      refine B.caload 20 rfl d16_19 Acp0 (by decide) 1 rfl (.int x1) rfl ?_
      refine B.callS 23 rfl d16_20 (wd hw 88 rfl) (wd hw 89 rfl) (wd hw 69 rfl) (wd hw 90 rfl) (by decide) [(.ref ub), (.int (1 : Int32)), (.int x1)] [] (rm_pc1 l Z a0 hw ub x1 [(.int (own_lo x0)), (.int (own_hi x0)), (.int (0 : Int32)), (.int (0 : Int32)), (.int (0 : Int32)), (.int (0 : Int32))] cs vf hp0 hcs hvf (S.ext Xp0) (SA.ext Xp0) (SH.ext Xp0) (SO.ext Xp0) (SF.ext Xp0) Ap0 (by simp)) rfl rfl pd___BII_V rfl rfl 0 rfl (by decide) (by decide) (by decide) (by decide) (fun x z => Or.inr (by cases List.mem_singleton.mp z; exact gu)) ?_
      rintro _ hp1 Kp1 ⟨rfl, Ap1⟩
      show B.G hp1 1 6 (mkF m 23 #[.val (.ref ca), .val (.int (1 : Int32)), .val (.int (3 : Int32)), .val (.ref ub), .val (.int (1 : Int32))] [])
      replace Ap1 : Ary Z hp1 ub .byte [(.int (own_lo x0)), (.int (own_hi x0)), (.int (own_lo x1)), (.int (own_hi x1)), (.int (0 : Int32)), (.int (0 : Int32))] := Ap1
      have Acp1 := Acp0.keep Kp1 (ninS nu nin0)
      have Xp1 : Ext h0 hp1 := own_kx Xp0 Kp1 gu
      refine B.iinc 26 rfl (1 : Int32) d16_23 rfl rfl #[.val (.ref ca), .val (.int (2 : Int32)), .val (.int (3 : Int32)), .val (.ref ub), .val (.int (1 : Int32))] rfl ?_
      refine B.iinc 29 rfl (1 : Int32) d16_26 rfl rfl #[.val (.ref ca), .val (.int (2 : Int32)), .val (.int (3 : Int32)), .val (.ref ub), .val (.int (2 : Int32))] rfl ?_
      refine B.goto 8 rfl (by decide) d16_29 ?_
      refine B.iload 10 rfl d16_8 rfl ?_
      refine B.iloadN 11 rfl d16_10 rfl ?_
      refine B.icmp_ge 32 14 rfl (by decide) rfl d16_11 (fun c11_2 => ?_) (fun c11_2 => ?_)
      · exact absurd c11_2 (by decide)
      · refine B.aloadN 15 rfl d16_14 rfl rfl ?_
        refine B.iload 17 rfl d16_15 rfl ?_
        refine B.aloadN 18 rfl d16_17 rfl rfl ?_
        refine B.iloadN 19 rfl d16_18 rfl ?_
        refine B.caload 20 rfl d16_19 Acp1 (by decide) 2 rfl (.int x2) rfl ?_
        refine B.callS 23 rfl d16_20 (wd hw 88 rfl) (wd hw 89 rfl) (wd hw 69 rfl) (wd hw 90 rfl) (by decide) [(.ref ub), (.int (2 : Int32)), (.int x2)] [] (rm_pc2 l Z a0 hw ub x2 [(.int (own_lo x0)), (.int (own_hi x0)), (.int (own_lo x1)), (.int (own_hi x1)), (.int (0 : Int32)), (.int (0 : Int32))] cs vf hp1 hcs hvf (S.ext Xp1) (SA.ext Xp1) (SH.ext Xp1) (SO.ext Xp1) (SF.ext Xp1) Ap1 (by simp)) rfl rfl pd___BII_V rfl rfl 0 rfl (by decide) (by decide) (by decide) (by decide) (fun x z => Or.inr (by cases List.mem_singleton.mp z; exact gu)) ?_
        rintro _ hp2 Kp2 ⟨rfl, Ap2⟩
        show B.G hp2 1 6 (mkF m 23 #[.val (.ref ca), .val (.int (2 : Int32)), .val (.int (3 : Int32)), .val (.ref ub), .val (.int (2 : Int32))] [])
        replace Ap2 : Ary Z hp2 ub .byte [(.int (own_lo x0)), (.int (own_hi x0)), (.int (own_lo x1)), (.int (own_hi x1)), (.int (own_lo x2)), (.int (own_hi x2))] := Ap2
        have Acp2 := Acp1.keep Kp2 (ninS nu nin0)
        have Xp2 : Ext h0 hp2 := own_kx Xp1 Kp2 gu
        refine B.iinc 26 rfl (1 : Int32) d16_23 rfl rfl #[.val (.ref ca), .val (.int (3 : Int32)), .val (.int (3 : Int32)), .val (.ref ub), .val (.int (2 : Int32))] rfl ?_
        refine B.iinc 29 rfl (1 : Int32) d16_26 rfl rfl #[.val (.ref ca), .val (.int (3 : Int32)), .val (.int (3 : Int32)), .val (.ref ub), .val (.int (3 : Int32))] rfl ?_
        refine B.goto 8 rfl (by decide) d16_29 ?_
        refine B.iload 10 rfl d16_8 rfl ?_
        refine B.iloadN 11 rfl d16_10 rfl ?_
        refine B.icmp_ge 32 14 rfl (by decide) rfl d16_11 (fun c11_3 => ?_) (fun c11_3 => ?_)
        · refine B.aloadN 33 rfl d16_32 rfl rfl ?_
          refine B.retA rfl rfl d16_33 (by decide) (by decide) ?_
          exact ⟨ub, rfl, gu, Ap2⟩
        · exact absurd c11_3 (by decide)
theorem d13_0 : decode jdk_52_method_16_code 0 = .ok (.iload_n 2, 1) := by decide +kernel
theorem d13_1 : decode jdk_52_method_16_code 1 = .ok (.newarray .byte, 2) := by decide +kernel
theorem d13_3 : decode jdk_52_method_16_code 3 = .ok (.astore_n 3, 1) := by decide +kernel
theorem d13_4 : decode jdk_52_method_16_code 4 = .ok (.aload_n 0, 1) := by decide +kernel
theorem d13_5 : decode jdk_52_method_16_code 5 = .ok (.iload_n 1, 1) := by decide +kernel
theorem d13_6 : decode jdk_52_method_16_code 6 = .ok (.aload_n 3, 1) := by decide +kernel
theorem d13_7 : decode jdk_52_method_16_code 7 = .ok (.iconst 0, 1) := by decide +kernel
theorem d13_8 : decode jdk_52_method_16_code 8 = .ok (.iload_n 2, 1) := by decide +kernel
theorem d13_9 : decode jdk_52_method_16_code 9 = .ok (.invokestatic 115, 3) := by decide +kernel
theorem d13_12 : decode jdk_52_method_16_code 12 = .ok (.istore 4, 2) := by decide +kernel
theorem d13_14 : decode jdk_52_method_16_code 14 = .ok (.iload 4, 2) := by decide +kernel
theorem d13_16 : decode jdk_52_method_16_code 16 = .ok (.iload_n 2, 1) := by decide +kernel
theorem d13_17 : decode jdk_52_method_16_code 17 = .ok (.if_icmp .eq 40, 3) := by decide +kernel
theorem d13_20 : decode jdk_52_method_16_code 20 = .ok (.aload_n 0, 1) := by decide +kernel
theorem d13_21 : decode jdk_52_method_16_code 21 = .ok (.iload_n 1, 1) := by decide +kernel
theorem d13_22 : decode jdk_52_method_16_code 22 = .ok (.iload_n 2, 1) := by decide +kernel
theorem d13_23 : decode jdk_52_method_16_code 23 = .ok (.invokestatic 119, 3) := by decide +kernel
theorem d13_26 : decode jdk_52_method_16_code 26 = .ok (.astore 5, 2) := by decide +kernel
theorem d13_28 : decode jdk_52_method_16_code 28 = .ok (.aload 5, 2) := by decide +kernel
theorem d13_30 : decode jdk_52_method_16_code 30 = .ok (.iload 4, 2) := by decide +kernel
theorem d13_32 : decode jdk_52_method_16_code 32 = .ok (.invokestatic 71, 3) := by decide +kernel
theorem d13_35 : decode jdk_52_method_16_code 35 = .ok (.sipush 255, 3) := by decide +kernel
theorem d13_38 : decode jdk_52_method_16_code 38 = .ok (.if_icmp .gt 16, 3) := by decide +kernel
theorem d13_54 : decode jdk_52_method_16_code 54 = .ok (.aload 5, 2) := by decide +kernel
theorem d13_56 : decode jdk_52_method_16_code 56 = .ok (.areturn, 1) := by decide +kernel
theorem pn_13 : plainFor (⟨"java/lang/StringUTF16", "compress", "([CII)[B"⟩ : MethodName) = true := by first | exact plainFor_of_name (by first | (simp [plainName, overriddenIn]; done) | decide +kernel) | decide +kernel
set_option maxRecDepth 65536 in
set_option maxHeartbeats 4000000 in
theorem rm_cb1_0 (l : Launch) (Z : State) (a0 : Array Value) (hw : ∀ d ∈ tables_1, d.before a0 Z = true) (ca : Addr) (x0 : Int32) (cs : Int32) (vf : Value) (h0 : Heap) (hcs : ¬ cs = 0) (hvf : vf.isRef = true) (S : Sta Z h0 "java/lang/String" "COMPACT_STRINGS" "Z" (.int cs)) (SA : Sta Z h0 "java/lang/StringUTF16" "$assertionsDisabled" "Z" (.int 1)) (SH : Sta Z h0 "java/lang/StringUTF16" "HI_BYTE_SHIFT" "I" (.int 0)) (SO : Sta Z h0 "java/lang/StringUTF16" "LO_BYTE_SHIFT" "I" (.int 8)) (SF : Sta Z h0 "jdk/internal/util/Preconditions" "SIOOBE_FORMATTER" "Ljava/util/function/BiFunction;" vf)  (hx0 : (255 : Int32) < x0) (q0 : isC x0) (A_ca : Ary Z h0 ca .char [(.int x0)]) :
    Met l Z (⟨"java/lang/StringUTF16", "compress", "([CII)[B"⟩ : MethodName) jdk_52_method_16_code 6 (some (.array .byte)) [] ({ frames := 3, cells := 2, slots := 3, locals := 40 } : Room) #[(.ref ca), (.int (0 : Int32)), (.int (1 : Int32))] h0 [] (fun v h => ∃ vb, v = some (.ref vb) ∧ h0.size ≤ vb ∧ Ary Z h vb .byte [(.int (own_lo x0)), (.int (own_hi x0))]) := by
  refine Met.walk pn_13 (Ls := #[.val (.ref ca), .val (.int (0 : Int32)), .val (.int (1 : Int32)), .unset, .unset, .unset]) (fun m => by first | (simp [entryFrame, mkF, argsToLocals, Value.category, maxLocals]; done) | rfl) ?_
  intro p e s m below meth c B
  refine B.iloadN 1 rfl d13_0 rfl ?_
  refine B.newP 3 rfl d13_1 (wd hw 21 rfl) (by decide) 1 (by decide) (by decide) (by decide) (by decide) ?_
  intro h_vb vb e_vb g_vb X_vb A_vb
  replace A_vb : Ary Z h_vb vb .byte [(.int (0 : Int32))] := A_vb
  show B.G h_vb 1 1 (mkF m 3 #[.val (.ref ca), .val (.int (0 : Int32)), .val (.int (1 : Int32)), .unset, .unset, .unset] [(.ref vb)])
  have n_ca_vb : ca ≠ vb := fun q => absurd A_ca.lt (by rw [q, e_vb]; exact Nat.lt_irrefl _)
  have A_ca_1 := A_ca.ext X_vb
  refine B.astoreN 4 rfl d13_3 rfl #[.val (.ref ca), .val (.int (0 : Int32)), .val (.int (1 : Int32)), .val (.ref vb), .unset, .unset] rfl ?_
  refine B.aloadN 5 rfl d13_4 rfl rfl ?_
  refine B.iloadN 6 rfl d13_5 rfl ?_
  refine B.aloadN 7 rfl d13_6 rfl rfl ?_
  refine B.iconst 8 rfl (0 : Int32) d13_7 rfl ?_
  refine B.iloadN 9 rfl d13_8 rfl ?_
  refine B.callS 12 rfl d13_9 (wd hw 71 rfl) (wd hw 72 rfl) (wd hw 69 rfl) (wd hw 73 rfl) (by decide) [(.ref ca), (.int (0 : Int32)), (.ref vb), (.int (0 : Int32)), (.int (1 : Int32))] [] (rm_cp1_0 l Z a0 hw ca vb x0 h_vb hx0 n_ca_vb A_ca_1 A_vb) rfl rfl pd___CI_BII_I rfl rfl 0 rfl (by decide) (by decide) (by decide) (by decide) (fun x z => Or.inr (by cases List.mem_singleton.mp z; exact g_vb)) ?_
  rintro _ h2 K2 rfl
  show B.G h2 1 1 (mkF m 12 #[.val (.ref ca), .val (.int (0 : Int32)), .val (.int (1 : Int32)), .val (.ref vb), .unset, .unset] [(.int (0 : Int32))])
  have X2 : Ext h0 h2 := own_kx X_vb K2 g_vb
  have Ac2 := A_ca_1.keep K2 (ninS n_ca_vb nin0)
  refine B.istore 14 rfl d13_12 #[.val (.ref ca), .val (.int (0 : Int32)), .val (.int (1 : Int32)), .val (.ref vb), .val (.int (0 : Int32)), .unset] rfl ?_
  refine B.iload 16 rfl d13_14 rfl ?_
  refine B.iloadN 17 rfl d13_16 rfl ?_
  refine B.icmp_eq 57 20 rfl (by decide) rfl d13_17 (fun c17 => ?_) (fun c17 => ?_)
  · exact absurd c17 (by decide)
  · refine B.aloadN 21 rfl d13_20 rfl rfl ?_
    refine B.iloadN 22 rfl d13_21 rfl ?_
    refine B.iloadN 23 rfl d13_22 rfl ?_
    refine B.callS 26 rfl d13_23 (wd hw 78 rfl) (wd hw 79 rfl) (wd hw 69 rfl) (wd hw 80 rfl) (by decide) [(.ref ca), (.int (0 : Int32)), (.int (1 : Int32))] [] (rm_tb1 l Z a0 hw ca x0 cs vf h2 hcs hvf (S.ext X2) (SA.ext X2) (SH.ext X2) (SO.ext X2) (SF.ext X2) Ac2) rfl rfl pd___CII__B rfl rfl 0 rfl (by decide) (by decide) (by decide) (by decide) (fun _ q => nomatch q) ?_
    rintro _ h3 K3 ⟨ub, rfl, gu, Au⟩
    show B.G h3 2 3 (mkF m 26 #[.val (.ref ca), .val (.int (0 : Int32)), .val (.int (1 : Int32)), .val (.ref vb), .val (.int (0 : Int32)), .unset] [(.ref ub)])
    have X3 : Ext h0 h3 := own_ext2 X2 (own_ke K3)
    refine B.astore 28 rfl d13_26 rfl #[.val (.ref ca), .val (.int (0 : Int32)), .val (.int (1 : Int32)), .val (.ref vb), .val (.int (0 : Int32)), .val (.ref ub)] rfl ?_
    refine B.aload 30 rfl d13_28 rfl rfl ?_
    refine B.iload 32 rfl d13_30 rfl ?_
    refine B.callS 35 rfl d13_32 (wd hw 94 rfl) (wd hw 95 rfl) (wd hw 69 rfl) (wd hw 96 rfl) (by decide) [(.ref ub), (.int (0 : Int32))] [] (rm_gc0 l Z a0 hw ub x0 [(.int (own_lo x0)), (.int (own_hi x0))] cs vf h3 hcs hvf (S.ext X3) (SA.ext X3) (SH.ext X3) (SO.ext X3) (SF.ext X3) q0 Au rfl rfl) rfl rfl pd___BI_C rfl rfl 0 rfl (by decide) (by decide) (by decide) (by decide) (fun _ q => nomatch q) ?_
    rintro _ _ - ⟨rfl, rfl⟩
    show B.G h3 2 3 (mkF m 35 #[.val (.ref ca), .val (.int (0 : Int32)), .val (.int (1 : Int32)), .val (.ref vb), .val (.int (0 : Int32)), .val (.ref ub)] [(.int x0)])
    refine B.sipush 38 rfl (255 : Int32) d13_35 rfl ?_
    refine B.icmp_gt 54 41 rfl (by decide) rfl d13_38 (fun c38 => ?_) (fun c38 => ?_)
    · refine B.aload 56 rfl d13_54 rfl rfl ?_
      refine B.retA rfl rfl d13_56 (by decide) (by decide) ?_
      exact ⟨ub, rfl, Nat.le_trans X2.1 gu, Au⟩
    · exact absurd hx0 c38
theorem d15_0 : decode jdk_52_method_15_code 0 = .ok (.iload_n 1, 1) := by decide +kernel
theorem d15_1 : decode jdk_52_method_15_code 1 = .ok (.aload_n 0, 1) := by decide +kernel
theorem d15_2 : decode jdk_52_method_15_code 2 = .ok (.arraylength, 1) := by decide +kernel
theorem d15_3 : decode jdk_52_method_15_code 3 = .ok (.isub, 1) := by decide +kernel
theorem d15_4 : decode jdk_52_method_15_code 4 = .ok (.bipush 31, 2) := by decide +kernel
theorem d15_6 : decode jdk_52_method_15_code 6 = .ok (.iushr, 1) := by decide +kernel
theorem d15_7 : decode jdk_52_method_15_code 7 = .ok (.i2b, 1) := by decide +kernel
theorem d15_8 : decode jdk_52_method_15_code 8 = .ok (.ireturn, 1) := by decide +kernel
theorem pn_15 : plainFor (⟨"java/lang/StringUTF16", "coderFromArrayLen", "([BI)B"⟩ : MethodName) = true := by first | exact plainFor_of_name (by first | (simp [plainName, overriddenIn]; done) | decide +kernel) | decide +kernel
set_option maxRecDepth 65536 in
set_option maxHeartbeats 4000000 in
theorem rm_co1_0 (l : Launch) (Z : State) (a0 : Array Value) (hw : ∀ d ∈ tables_1, d.before a0 Z = true) (vb : Addr) (vs : List Value) (h0 : Heap) (hn : vs.length.toInt32 = (2 : Int32)) (A : Ary Z h0 vb .byte vs) :
    Met l Z (⟨"java/lang/StringUTF16", "coderFromArrayLen", "([BI)B"⟩ : MethodName) jdk_52_method_15_code 2 (some .byte) [] ({ frames := 0, cells := 0, slots := 0, locals := 0 } : Room) #[(.ref vb), (.int (1 : Int32))] h0 [] (fun v h => v = some (.int (1 : Int32)) ∧ h0 = h) := by
  refine Met.walk pn_15 (Ls := #[.val (.ref vb), .val (.int (1 : Int32))]) (fun m => by first | (simp [entryFrame, mkF, argsToLocals, Value.category, maxLocals]; done) | rfl) ?_
  intro p e s m below meth c B
  refine B.iloadN 1 rfl d15_0 rfl ?_
  refine B.aloadN 2 rfl d15_1 rfl rfl ?_
  refine B.arrlen 3 rfl d15_2 A (2 : Int32) hn ?_
  refine B.isub 4 rfl d15_3 ?_
  refine B.topI (-1 : Int32) (by decide) ?_
  refine B.bipush 6 rfl (31 : Int32) d15_4 rfl ?_
  refine B.iushr 7 rfl d15_6 ?_
  refine B.topI (1 : Int32) (by decide) ?_
  refine B.i2b 8 rfl d15_7 ?_
  refine B.topI (1 : Int32) (by decide) ?_
  refine B.retN (by simp) d15_8 (by decide) (by decide) ?_
  exact ⟨rfl, rfl⟩
theorem d3_0 : decode jdk_42_method_149_code 0 = .ok (.aload_n 0, 1) := by decide +kernel
theorem d3_1 : decode jdk_42_method_149_code 1 = .ok (.invokespecial 1, 3) := by decide +kernel
theorem d3_4 : decode jdk_42_method_149_code 4 = .ok (.iload_n 3, 1) := by decide +kernel
theorem d3_5 : decode jdk_42_method_149_code 5 = .ok (.ifCond .ne 22, 3) := by decide +kernel
theorem d3_27 : decode jdk_42_method_149_code 27 = .ok (.getstatic 38, 3) := by decide +kernel
theorem d3_30 : decode jdk_42_method_149_code 30 = .ok (.ifCond .eq 28, 3) := by decide +kernel
theorem d3_33 : decode jdk_42_method_149_code 33 = .ok (.aload_n 1, 1) := by decide +kernel
theorem d3_34 : decode jdk_42_method_149_code 34 = .ok (.iload_n 2, 1) := by decide +kernel
theorem d3_35 : decode jdk_42_method_149_code 35 = .ok (.iload_n 3, 1) := by decide +kernel
theorem d3_36 : decode jdk_42_method_149_code 36 = .ok (.invokestatic 177, 3) := by decide +kernel
theorem d3_39 : decode jdk_42_method_149_code 39 = .ok (.astore 5, 2) := by decide +kernel
theorem d3_41 : decode jdk_42_method_149_code 41 = .ok (.aload_n 0, 1) := by decide +kernel
theorem d3_42 : decode jdk_42_method_149_code 42 = .ok (.aload 5, 2) := by decide +kernel
theorem d3_44 : decode jdk_42_method_149_code 44 = .ok (.iload_n 3, 1) := by decide +kernel
theorem d3_45 : decode jdk_42_method_149_code 45 = .ok (.invokestatic 47, 3) := by decide +kernel
theorem d3_48 : decode jdk_42_method_149_code 48 = .ok (.putfield 15, 3) := by decide +kernel
theorem d3_51 : decode jdk_42_method_149_code 51 = .ok (.aload_n 0, 1) := by decide +kernel
theorem d3_52 : decode jdk_42_method_149_code 52 = .ok (.aload 5, 2) := by decide +kernel
theorem d3_54 : decode jdk_42_method_149_code 54 = .ok (.putfield 9, 3) := by decide +kernel
theorem d3_57 : decode jdk_42_method_149_code 57 = .ok (.return_, 1) := by decide +kernel
theorem pn_3 : plainFor (⟨"java/lang/String", "<init>", "([CIILjava/lang/Void;)V"⟩ : MethodName) = true := by first | exact plainFor_of_name (by first | (simp [plainName, overriddenIn]; done) | decide +kernel) | decide +kernel
set_option maxRecDepth 65536 in
set_option maxHeartbeats 4000000 in
theorem rm_si1_0 (l : Launch) (Z : State) (a0 : Array Value) (hw : ∀ d ∈ tables_1, d.before a0 Z = true) (a ca : Addr) (x0 : Int32) (cs : Int32) (vf : Value) (h0 : Heap) (hcs : ¬ cs = 0) (hvf : vf.isRef = true) (S : Sta Z h0 "java/lang/String" "COMPACT_STRINGS" "Z" (.int cs)) (SA : Sta Z h0 "java/lang/StringUTF16" "$assertionsDisabled" "Z" (.int 1)) (SH : Sta Z h0 "java/lang/StringUTF16" "HI_BYTE_SHIFT" "I" (.int 0)) (SO : Sta Z h0 "java/lang/StringUTF16" "LO_BYTE_SHIFT" "I" (.int 8)) (SF : Sta Z h0 "jdk/internal/util/Preconditions" "SIOOBE_FORMATTER" "Ljava/util/function/BiFunction;" vf) (E : Exa Z h0 a "java/lang/String") (Fc : Fld Z h0 a "java/lang/String" "coder" "B" (.int 0)) (Fv : Fld Z h0 a "java/lang/String" "value" "[B" .null)  (hx0 : (255 : Int32) < x0) (q0 : isC x0) (A : Ary Z h0 ca .char [(.int x0)]) :
    Met l Z (⟨"java/lang/String", "<init>", "([CIILjava/lang/Void;)V"⟩ : MethodName) jdk_42_method_149_code 6 none [] ({ frames := 4, cells := 2, slots := 3, locals := 57 } : Room) #[(.ref a), (.ref ca), (.int (0 : Int32)), (.int (1 : Int32)), .null] h0 [a] (fun v h => v = none ∧ Exa Z h a "java/lang/String" ∧ ∃ vb, Fld Z h a "java/lang/String" "coder" "B" (.int (1 : Int32)) ∧ Fld Z h a "java/lang/String" "value" "[B" (.ref vb) ∧ Ary Z h vb .byte [(.int (own_lo x0)), (.int (own_hi x0))]) := by
  refine Met.walk pn_3 (Ls := #[.val (.ref a), .val (.ref ca), .val (.int (0 : Int32)), .val (.int (1 : Int32)), .val .null, .unset]) (fun m => by first | (simp [entryFrame, mkF, argsToLocals, Value.category, maxLocals]; done) | rfl) ?_
  intro p e s m below meth c B
  refine B.aloadN 1 rfl d3_0 rfl rfl ?_
  refine B.initO 4 rfl d3_1 (wd hw 17 rfl) (wd hw 18 rfl) (wd hw 19 rfl) rfl 0 rfl (by decide) (by decide) ?_
  refine B.iloadN 5 rfl d3_4 rfl ?_
  refine B.if0_ne 27 8 rfl (by decide) rfl d3_5 (fun c5 => ?_) (fun c5 => ?_)
  · refine B.getS 30 rfl d3_27 (wd hw 49 rfl) S ?_
    refine B.if0_eq 58 33 rfl (by decide) rfl d3_30 (fun c30 => ?_) (fun c30 => ?_)
    · exact absurd c30 hcs
    · refine B.aloadN 34 rfl d3_33 rfl rfl ?_
      refine B.iloadN 35 rfl d3_34 rfl ?_
      refine B.iloadN 36 rfl d3_35 rfl ?_
      refine B.callS 39 rfl d3_36 (wd hw 67 rfl) (wd hw 68 rfl) (wd hw 69 rfl) (wd hw 70 rfl) (by decide) [(.ref ca), (.int (0 : Int32)), (.int (1 : Int32))] [] (rm_cb1_0 l Z a0 hw ca x0 cs vf h0 hcs hvf S SA SH SO SF hx0 q0 A) rfl rfl pd___CII__B rfl rfl 0 rfl (by decide) (by decide) (by decide) (by decide) (fun _ q => nomatch q) ?_
      rintro _ h1 K1 ⟨vb, rfl, gv, A1⟩
      show B.G h1 2 3 (mkF m 39 #[.val (.ref a), .val (.ref ca), .val (.int (0 : Int32)), .val (.int (1 : Int32)), .val .null, .unset] [(.ref vb)])
      have E1 := E.keep K1
      have Fc1 := Fc.keep K1 nin0
      have Fv1 := Fv.keep K1 nin0
      have nv : vb ≠ a := fun q => absurd E.lt (by rw [← q]; exact Nat.not_lt.mpr gv)
      refine B.astore 41 rfl d3_39 rfl #[.val (.ref a), .val (.ref ca), .val (.int (0 : Int32)), .val (.int (1 : Int32)), .val .null, .val (.ref vb)] rfl ?_
      refine B.aloadN 42 rfl d3_41 rfl rfl ?_
      refine B.aload 44 rfl d3_42 rfl rfl ?_
      refine B.iloadN 45 rfl d3_44 rfl ?_
      refine B.callS 48 rfl d3_45 (wd hw 74 rfl) (wd hw 75 rfl) (wd hw 69 rfl) (wd hw 76 rfl) (by decide) [(.ref vb), (.int (1 : Int32))] [(.ref a)] (rm_co1_0 l Z a0 hw vb _ h1 rfl A1) rfl rfl pd___BI_B rfl rfl 1 rfl (by decide) (by decide) (by decide) (by decide) (fun _ q => nomatch q) ?_
      rintro _ _ - ⟨rfl, rfl⟩
      show B.G h1 2 3 (mkF m 48 #[.val (.ref a), .val (.ref ca), .val (.int (0 : Int32)), .val (.int (1 : Int32)), .val .null, .val (.ref vb)] [(.int (1 : Int32)), (.ref a)])
      refine B.putF 51 rfl d3_48 (wd hw 27 rfl) Fc1 E1 (Or.inr ⟨(wd hw 23 rfl), rfl, rfl⟩) (wd hw 7 rfl) (ty := .byte) (by decide) rfl rfl (Or.inl (by simp)) ?_
      intro h2 W2
      have E2 := E1.wr W2
      have Fc2 := Fc1.same W2
      have Fv2 := Fv1.other W2 (Or.inr (slot_ne (Or.inr (wd hw 22 rfl)) (Or.inr (wd hw 23 rfl)) (by decide) (t := (.array .byte)) (t' := .byte) (by decide) (by decide)))
      have A2 := A1.other W2 nv
      refine B.aloadN 52 rfl d3_51 rfl rfl ?_
      refine B.aload 54 rfl d3_52 rfl rfl ?_
      refine B.putF 57 rfl d3_54 (wd hw 26 rfl) Fv2 E2 (Or.inr ⟨(wd hw 22 rfl), rfl, rfl⟩) (wd hw 7 rfl) (ty := (.array .byte)) (by decide) rfl rfl (Or.inl (by simp)) ?_
      intro h3 W3
      refine B.ret0 d3_57 (by decide) (by decide) ?_
      exact ⟨rfl, E2.wr W3, vb, Fc2.other W3 (Or.inr (slot_ne (Or.inr (wd hw 23 rfl)) (Or.inr (wd hw 22 rfl)) (by decide) (t := .byte) (t' := (.array .byte)) (by decide) (by decide))), Fv2.same W3, A2.other W3 nv⟩
  · exact absurd c5 (by decide)
theorem d2_0 : decode jdk_42_method_3_code 0 = .ok (.aload_n 0, 1) := by decide +kernel
theorem d2_1 : decode jdk_42_method_3_code 1 = .ok (.aload_n 1, 1) := by decide +kernel
theorem d2_2 : decode jdk_42_method_3_code 2 = .ok (.iconst 0, 1) := by decide +kernel
theorem d2_3 : decode jdk_42_method_3_code 3 = .ok (.aload_n 1, 1) := by decide +kernel
theorem d2_4 : decode jdk_42_method_3_code 4 = .ok (.arraylength, 1) := by decide +kernel
theorem d2_5 : decode jdk_42_method_3_code 5 = .ok (.aconst_null, 1) := by decide +kernel
theorem d2_6 : decode jdk_42_method_3_code 6 = .ok (.invokespecial 27, 3) := by decide +kernel
theorem d2_9 : decode jdk_42_method_3_code 9 = .ok (.return_, 1) := by decide +kernel
theorem pn_2 : plainFor (⟨"java/lang/String", "<init>", "([C)V"⟩ : MethodName) = true := by first | exact plainFor_of_name (by first | (simp [plainName, overriddenIn]; done) | decide +kernel) | decide +kernel
set_option maxRecDepth 65536 in
set_option maxHeartbeats 4000000 in
theorem rm_st1_0 (l : Launch) (Z : State) (a0 : Array Value) (hw : ∀ d ∈ tables_1, d.before a0 Z = true) (a ca : Addr) (x0 : Int32) (cs : Int32) (vf : Value) (h0 : Heap) (hcs : ¬ cs = 0) (hvf : vf.isRef = true) (S : Sta Z h0 "java/lang/String" "COMPACT_STRINGS" "Z" (.int cs)) (SA : Sta Z h0 "java/lang/StringUTF16" "$assertionsDisabled" "Z" (.int 1)) (SH : Sta Z h0 "java/lang/StringUTF16" "HI_BYTE_SHIFT" "I" (.int 0)) (SO : Sta Z h0 "java/lang/StringUTF16" "LO_BYTE_SHIFT" "I" (.int 8)) (SF : Sta Z h0 "jdk/internal/util/Preconditions" "SIOOBE_FORMATTER" "Ljava/util/function/BiFunction;" vf) (E : Exa Z h0 a "java/lang/String") (Fc : Fld Z h0 a "java/lang/String" "coder" "B" (.int 0)) (Fv : Fld Z h0 a "java/lang/String" "value" "[B" .null)  (hx0 : (255 : Int32) < x0) (q0 : isC x0) (A : Ary Z h0 ca .char [(.int x0)]) :
    Met l Z (⟨"java/lang/String", "<init>", "([C)V"⟩ : MethodName) jdk_42_method_3_code 2 none [] ({ frames := 5, cells := 2, slots := 3, locals := 74 } : Room) #[(.ref a), (.ref ca)] h0 [a] (fun v h => v = none ∧ Exa Z h a "java/lang/String" ∧ ∃ vb, Fld Z h a "java/lang/String" "coder" "B" (.int (1 : Int32)) ∧ Fld Z h a "java/lang/String" "value" "[B" (.ref vb) ∧ Ary Z h vb .byte [(.int (own_lo x0)), (.int (own_hi x0))]) := by
  refine Met.walk pn_2 (Ls := #[.val (.ref a), .val (.ref ca)]) (fun m => by first | (simp [entryFrame, mkF, argsToLocals, Value.category, maxLocals]; done) | rfl) ?_
  intro p e s m below meth c B
  refine B.aloadN 1 rfl d2_0 rfl rfl ?_
  refine B.aloadN 2 rfl d2_1 rfl rfl ?_
  refine B.iconst 3 rfl (0 : Int32) d2_2 rfl ?_
  refine B.aloadN 4 rfl d2_3 rfl rfl ?_
  refine B.arrlen 5 rfl d2_4 A (1 : Int32) rfl ?_
  refine B.aconstNull 6 rfl d2_5 ?_
  refine B.callI 9 rfl d2_6 rfl (wd hw 13 rfl) (wd hw 14 rfl) (wd hw 8 rfl) (wd hw 16 rfl) (by decide) [(.ref ca), (.int (0 : Int32)), (.int (1 : Int32)), .null] [] (rm_si1_0 l Z a0 hw a ca x0 cs vf h0 hcs hvf S SA SH SO SF E Fc Fv hx0 q0 A) rfl rfl pd___CIILjava_lang_Void__V rfl rfl 0 rfl (by decide) (by decide) (by decide) (by decide) (fun x z => Or.inl z) ?_
  rintro _ h1 K1 ⟨rfl, q⟩
  show B.G h1 2 3 (mkF m 9 #[.val (.ref a), .val (.ref ca)] [])
  refine B.ret0 d2_9 (by decide) (by decide) ?_
  exact ⟨rfl, q⟩
theorem d13_57 : decode jdk_52_method_16_code 57 = .ok (.aload_n 3, 1) := by decide +kernel
theorem d13_58 : decode jdk_52_method_16_code 58 = .ok (.areturn, 1) := by decide +kernel
set_option maxRecDepth 65536 in
set_option maxHeartbeats 4000000 in
theorem rm_cb1_1 (l : Launch) (Z : State) (a0 : Array Value) (hw : ∀ d ∈ tables_1, d.before a0 Z = true) (ca : Addr) (x0 : Int32) (cs : Int32) (vf : Value) (h0 : Heap) (hcs : ¬ cs = 0) (hvf : vf.isRef = true) (S : Sta Z h0 "java/lang/String" "COMPACT_STRINGS" "Z" (.int cs)) (SA : Sta Z h0 "java/lang/StringUTF16" "$assertionsDisabled" "Z" (.int 1)) (SH : Sta Z h0 "java/lang/StringUTF16" "HI_BYTE_SHIFT" "I" (.int 0)) (SO : Sta Z h0 "java/lang/StringUTF16" "LO_BYTE_SHIFT" "I" (.int 8)) (SF : Sta Z h0 "jdk/internal/util/Preconditions" "SIOOBE_FORMATTER" "Ljava/util/function/BiFunction;" vf) (hx0 : ¬ (255 : Int32) < x0) (q0 : isC x0) (A_ca : Ary Z h0 ca .char [(.int x0)]) :
    Met l Z (⟨"java/lang/StringUTF16", "compress", "([CII)[B"⟩ : MethodName) jdk_52_method_16_code 6 (some (.array .byte)) [] ({ frames := 1, cells := 1, slots := 1, locals := 18 } : Room) #[(.ref ca), (.int (0 : Int32)), (.int (1 : Int32))] h0 [] (fun v h => ∃ vb, v = some (.ref vb) ∧ h0.size ≤ vb ∧ Ary Z h vb .byte [(.int ((x0.toInt8.toInt32).toInt8.toInt32))]) := by
  refine Met.walk pn_13 (Ls := #[.val (.ref ca), .val (.int (0 : Int32)), .val (.int (1 : Int32)), .unset, .unset, .unset]) (fun m => by first | (simp [entryFrame, mkF, argsToLocals, Value.category, maxLocals]; done) | rfl) ?_
  intro p e s m below meth c B
  refine B.iloadN 1 rfl d13_0 rfl ?_
  refine B.newP 3 rfl d13_1 (wd hw 21 rfl) (by decide) 1 (by decide) (by decide) (by decide) (by decide) ?_
  intro h_vb vb e_vb g_vb X_vb A_vb
  replace A_vb : Ary Z h_vb vb .byte [(.int (0 : Int32))] := A_vb
  show B.G h_vb 1 1 (mkF m 3 #[.val (.ref ca), .val (.int (0 : Int32)), .val (.int (1 : Int32)), .unset, .unset, .unset] [(.ref vb)])
  have n_ca_vb : ca ≠ vb := fun q => absurd A_ca.lt (by rw [q, e_vb]; exact Nat.lt_irrefl _)
  have A_ca_1 := A_ca.ext X_vb
  refine B.astoreN 4 rfl d13_3 rfl #[.val (.ref ca), .val (.int (0 : Int32)), .val (.int (1 : Int32)), .val (.ref vb), .unset, .unset] rfl ?_
  refine B.aloadN 5 rfl d13_4 rfl rfl ?_
  refine B.iloadN 6 rfl d13_5 rfl ?_
  refine B.aloadN 7 rfl d13_6 rfl rfl ?_
  refine B.iconst 8 rfl (0 : Int32) d13_7 rfl ?_
  refine B.iloadN 9 rfl d13_8 rfl ?_
  refine B.callS 12 rfl d13_9 (wd hw 71 rfl) (wd hw 72 rfl) (wd hw 69 rfl) (wd hw 73 rfl) (by decide) [(.ref ca), (.int (0 : Int32)), (.ref vb), (.int (0 : Int32)), (.int (1 : Int32))] [] (rm_cp1_1 l Z a0 hw ca vb x0 h_vb hx0 n_ca_vb A_ca_1 A_vb) rfl rfl pd___CI_BII_I rfl rfl 0 rfl (by decide) (by decide) (by decide) (by decide) (fun x z => Or.inr (by cases List.mem_singleton.mp z; exact g_vb)) ?_
  rintro _ h2 K2 ⟨rfl, A2⟩
  show B.G h2 1 1 (mkF m 12 #[.val (.ref ca), .val (.int (0 : Int32)), .val (.int (1 : Int32)), .val (.ref vb), .unset, .unset] [(.int (1 : Int32))])
  have X2 : Ext h0 h2 := own_kx X_vb K2 g_vb
  have Ac2 := A_ca_1.keep K2 (ninS n_ca_vb nin0)
  refine B.istore 14 rfl d13_12 #[.val (.ref ca), .val (.int (0 : Int32)), .val (.int (1 : Int32)), .val (.ref vb), .val (.int (1 : Int32)), .unset] rfl ?_
  refine B.iload 16 rfl d13_14 rfl ?_
  refine B.iloadN 17 rfl d13_16 rfl ?_
  refine B.icmp_eq 57 20 rfl (by decide) rfl d13_17 (fun c17 => ?_) (fun c17 => ?_)
  · refine B.aloadN 58 rfl d13_57 rfl rfl ?_
    refine B.retA rfl rfl d13_58 (by decide) (by decide) ?_
    exact ⟨vb, rfl, g_vb, A2⟩
  · exact absurd c17 (by decide)
set_option maxRecDepth 65536 in
set_option maxHeartbeats 4000000 in
theorem rm_co1_1 (l : Launch) (Z : State) (a0 : Array Value) (hw : ∀ d ∈ tables_1, d.before a0 Z = true) (vb : Addr) (vs : List Value) (h0 : Heap) (hn : vs.length.toInt32 = (1 : Int32)) (A : Ary Z h0 vb .byte vs) :
    Met l Z (⟨"java/lang/StringUTF16", "coderFromArrayLen", "([BI)B"⟩ : MethodName) jdk_52_method_15_code 2 (some .byte) [] ({ frames := 0, cells := 0, slots := 0, locals := 0 } : Room) #[(.ref vb), (.int (1 : Int32))] h0 [] (fun v h => v = some (.int (0 : Int32)) ∧ h0 = h) := by
  refine Met.walk pn_15 (Ls := #[.val (.ref vb), .val (.int (1 : Int32))]) (fun m => by first | (simp [entryFrame, mkF, argsToLocals, Value.category, maxLocals]; done) | rfl) ?_
  intro p e s m below meth c B
  refine B.iloadN 1 rfl d15_0 rfl ?_
  refine B.aloadN 2 rfl d15_1 rfl rfl ?_
  refine B.arrlen 3 rfl d15_2 A (1 : Int32) hn ?_
  refine B.isub 4 rfl d15_3 ?_
  refine B.topI (0 : Int32) (by decide) ?_
  refine B.bipush 6 rfl (31 : Int32) d15_4 rfl ?_
  refine B.iushr 7 rfl d15_6 ?_
  refine B.topI (0 : Int32) (by decide) ?_
  refine B.i2b 8 rfl d15_7 ?_
  refine B.topI (0 : Int32) (by decide) ?_
  refine B.retN (by simp) d15_8 (by decide) (by decide) ?_
  exact ⟨rfl, rfl⟩
set_option maxRecDepth 65536 in
set_option maxHeartbeats 4000000 in
theorem rm_si1_1 (l : Launch) (Z : State) (a0 : Array Value) (hw : ∀ d ∈ tables_1, d.before a0 Z = true) (a ca : Addr) (x0 : Int32) (cs : Int32) (vf : Value) (h0 : Heap) (hcs : ¬ cs = 0) (hvf : vf.isRef = true) (S : Sta Z h0 "java/lang/String" "COMPACT_STRINGS" "Z" (.int cs)) (SA : Sta Z h0 "java/lang/StringUTF16" "$assertionsDisabled" "Z" (.int 1)) (SH : Sta Z h0 "java/lang/StringUTF16" "HI_BYTE_SHIFT" "I" (.int 0)) (SO : Sta Z h0 "java/lang/StringUTF16" "LO_BYTE_SHIFT" "I" (.int 8)) (SF : Sta Z h0 "jdk/internal/util/Preconditions" "SIOOBE_FORMATTER" "Ljava/util/function/BiFunction;" vf) (E : Exa Z h0 a "java/lang/String") (Fc : Fld Z h0 a "java/lang/String" "coder" "B" (.int 0)) (Fv : Fld Z h0 a "java/lang/String" "value" "[B" .null) (hx0 : ¬ (255 : Int32) < x0) (q0 : isC x0) (A : Ary Z h0 ca .char [(.int x0)]) :
    Met l Z (⟨"java/lang/String", "<init>", "([CIILjava/lang/Void;)V"⟩ : MethodName) jdk_42_method_149_code 6 none [] ({ frames := 2, cells := 1, slots := 1, locals := 35 } : Room) #[(.ref a), (.ref ca), (.int (0 : Int32)), (.int (1 : Int32)), .null] h0 [a] (fun v h => v = none ∧ Exa Z h a "java/lang/String" ∧ ∃ vb, Fld Z h a "java/lang/String" "coder" "B" (.int (0 : Int32)) ∧ Fld Z h a "java/lang/String" "value" "[B" (.ref vb) ∧ Ary Z h vb .byte [(.int ((x0.toInt8.toInt32).toInt8.toInt32))]) := by
  refine Met.walk pn_3 (Ls := #[.val (.ref a), .val (.ref ca), .val (.int (0 : Int32)), .val (.int (1 : Int32)), .val .null, .unset]) (fun m => by first | (simp [entryFrame, mkF, argsToLocals, Value.category, maxLocals]; done) | rfl) ?_
  intro p e s m below meth c B
  refine B.aloadN 1 rfl d3_0 rfl rfl ?_
  refine B.initO 4 rfl d3_1 (wd hw 17 rfl) (wd hw 18 rfl) (wd hw 19 rfl) rfl 0 rfl (by decide) (by decide) ?_
  refine B.iloadN 5 rfl d3_4 rfl ?_
  refine B.if0_ne 27 8 rfl (by decide) rfl d3_5 (fun c5 => ?_) (fun c5 => ?_)
  · refine B.getS 30 rfl d3_27 (wd hw 49 rfl) S ?_
    refine B.if0_eq 58 33 rfl (by decide) rfl d3_30 (fun c30 => ?_) (fun c30 => ?_)
    · exact absurd c30 hcs
    · refine B.aloadN 34 rfl d3_33 rfl rfl ?_
      refine B.iloadN 35 rfl d3_34 rfl ?_
      refine B.iloadN 36 rfl d3_35 rfl ?_
      refine B.callS 39 rfl d3_36 (wd hw 67 rfl) (wd hw 68 rfl) (wd hw 69 rfl) (wd hw 70 rfl) (by decide) [(.ref ca), (.int (0 : Int32)), (.int (1 : Int32))] [] (rm_cb1_1 l Z a0 hw ca x0 cs vf h0 hcs hvf S SA SH SO SF hx0 q0 A) rfl rfl pd___CII__B rfl rfl 0 rfl (by decide) (by decide) (by decide) (by decide) (fun _ q => nomatch q) ?_
      rintro _ h1 K1 ⟨vb, rfl, gv, A1⟩
      show B.G h1 1 1 (mkF m 39 #[.val (.ref a), .val (.ref ca), .val (.int (0 : Int32)), .val (.int (1 : Int32)), .val .null, .unset] [(.ref vb)])
      have E1 := E.keep K1
      have Fc1 := Fc.keep K1 nin0
      have Fv1 := Fv.keep K1 nin0
      have nv : vb ≠ a := fun q => absurd E.lt (by rw [← q]; exact Nat.not_lt.mpr gv)
      refine B.astore 41 rfl d3_39 rfl #[.val (.ref a), .val (.ref ca), .val (.int (0 : Int32)), .val (.int (1 : Int32)), .val .null, .val (.ref vb)] rfl ?_
      refine B.aloadN 42 rfl d3_41 rfl rfl ?_
      refine B.aload 44 rfl d3_42 rfl rfl ?_
      refine B.iloadN 45 rfl d3_44 rfl ?_
      refine B.callS 48 rfl d3_45 (wd hw 74 rfl) (wd hw 75 rfl) (wd hw 69 rfl) (wd hw 76 rfl) (by decide) [(.ref vb), (.int (1 : Int32))] [(.ref a)] (rm_co1_1 l Z a0 hw vb _ h1 rfl A1) rfl rfl pd___BI_B rfl rfl 1 rfl (by decide) (by decide) (by decide) (by decide) (fun _ q => nomatch q) ?_
      rintro _ _ - ⟨rfl, rfl⟩
      show B.G h1 1 1 (mkF m 48 #[.val (.ref a), .val (.ref ca), .val (.int (0 : Int32)), .val (.int (1 : Int32)), .val .null, .val (.ref vb)] [(.int (0 : Int32)), (.ref a)])
      refine B.putF 51 rfl d3_48 (wd hw 27 rfl) Fc1 E1 (Or.inr ⟨(wd hw 23 rfl), rfl, rfl⟩) (wd hw 7 rfl) (ty := .byte) (by decide) rfl rfl (Or.inl (by simp)) ?_
      intro h2 W2
      have E2 := E1.wr W2
      have Fc2 := Fc1.same W2
      have Fv2 := Fv1.other W2 (Or.inr (slot_ne (Or.inr (wd hw 22 rfl)) (Or.inr (wd hw 23 rfl)) (by decide) (t := (.array .byte)) (t' := .byte) (by decide) (by decide)))
      have A2 := A1.other W2 nv
      refine B.aloadN 52 rfl d3_51 rfl rfl ?_
      refine B.aload 54 rfl d3_52 rfl rfl ?_
      refine B.putF 57 rfl d3_54 (wd hw 26 rfl) Fv2 E2 (Or.inr ⟨(wd hw 22 rfl), rfl, rfl⟩) (wd hw 7 rfl) (ty := (.array .byte)) (by decide) rfl rfl (Or.inl (by simp)) ?_
      intro h3 W3
      refine B.ret0 d3_57 (by decide) (by decide) ?_
      exact ⟨rfl, E2.wr W3, vb, Fc2.other W3 (Or.inr (slot_ne (Or.inr (wd hw 23 rfl)) (Or.inr (wd hw 22 rfl)) (by decide) (t := .byte) (t' := (.array .byte)) (by decide) (by decide))), Fv2.same W3, A2.other W3 nv⟩
  · exact absurd c5 (by decide)
set_option maxRecDepth 65536 in
set_option maxHeartbeats 4000000 in
theorem rm_st1_1 (l : Launch) (Z : State) (a0 : Array Value) (hw : ∀ d ∈ tables_1, d.before a0 Z = true) (a ca : Addr) (x0 : Int32) (cs : Int32) (vf : Value) (h0 : Heap) (hcs : ¬ cs = 0) (hvf : vf.isRef = true) (S : Sta Z h0 "java/lang/String" "COMPACT_STRINGS" "Z" (.int cs)) (SA : Sta Z h0 "java/lang/StringUTF16" "$assertionsDisabled" "Z" (.int 1)) (SH : Sta Z h0 "java/lang/StringUTF16" "HI_BYTE_SHIFT" "I" (.int 0)) (SO : Sta Z h0 "java/lang/StringUTF16" "LO_BYTE_SHIFT" "I" (.int 8)) (SF : Sta Z h0 "jdk/internal/util/Preconditions" "SIOOBE_FORMATTER" "Ljava/util/function/BiFunction;" vf) (E : Exa Z h0 a "java/lang/String") (Fc : Fld Z h0 a "java/lang/String" "coder" "B" (.int 0)) (Fv : Fld Z h0 a "java/lang/String" "value" "[B" .null) (hx0 : ¬ (255 : Int32) < x0) (q0 : isC x0) (A : Ary Z h0 ca .char [(.int x0)]) :
    Met l Z (⟨"java/lang/String", "<init>", "([C)V"⟩ : MethodName) jdk_42_method_3_code 2 none [] ({ frames := 3, cells := 1, slots := 1, locals := 52 } : Room) #[(.ref a), (.ref ca)] h0 [a] (fun v h => v = none ∧ Exa Z h a "java/lang/String" ∧ ∃ vb, Fld Z h a "java/lang/String" "coder" "B" (.int (0 : Int32)) ∧ Fld Z h a "java/lang/String" "value" "[B" (.ref vb) ∧ Ary Z h vb .byte [(.int ((x0.toInt8.toInt32).toInt8.toInt32))]) := by
  refine Met.walk pn_2 (Ls := #[.val (.ref a), .val (.ref ca)]) (fun m => by first | (simp [entryFrame, mkF, argsToLocals, Value.category, maxLocals]; done) | rfl) ?_
  intro p e s m below meth c B
  refine B.aloadN 1 rfl d2_0 rfl rfl ?_
  refine B.aloadN 2 rfl d2_1 rfl rfl ?_
  refine B.iconst 3 rfl (0 : Int32) d2_2 rfl ?_
  refine B.aloadN 4 rfl d2_3 rfl rfl ?_
  refine B.arrlen 5 rfl d2_4 A (1 : Int32) rfl ?_
  refine B.aconstNull 6 rfl d2_5 ?_
  refine B.callI 9 rfl d2_6 rfl (wd hw 13 rfl) (wd hw 14 rfl) (wd hw 8 rfl) (wd hw 16 rfl) (by decide) [(.ref ca), (.int (0 : Int32)), (.int (1 : Int32)), .null] [] (rm_si1_1 l Z a0 hw a ca x0 cs vf h0 hcs hvf S SA SH SO SF E Fc Fv hx0 q0 A) rfl rfl pd___CIILjava_lang_Void__V rfl rfl 0 rfl (by decide) (by decide) (by decide) (by decide) (fun x z => Or.inl z) ?_
  rintro _ h1 K1 ⟨rfl, q⟩
  show B.G h1 1 1 (mkF m 9 #[.val (.ref a), .val (.ref ca)] [])
  refine B.ret0 d2_9 (by decide) (by decide) ?_
  exact ⟨rfl, q⟩
set_option maxRecDepth 65536 in
set_option maxHeartbeats 4000000 in
theorem rm_cb2_0 (l : Launch) (Z : State) (a0 : Array Value) (hw : ∀ d ∈ tables_1, d.before a0 Z = true) (ca : Addr) (x0 x1 : Int32) (cs : Int32) (vf : Value) (h0 : Heap) (hcs : ¬ cs = 0) (hvf : vf.isRef = true) (S : Sta Z h0 "java/lang/String" "COMPACT_STRINGS" "Z" (.int cs)) (SA : Sta Z h0 "java/lang/StringUTF16" "$assertionsDisabled" "Z" (.int 1)) (SH : Sta Z h0 "java/lang/StringUTF16" "HI_BYTE_SHIFT" "I" (.int 0)) (SO : Sta Z h0 "java/lang/StringUTF16" "LO_BYTE_SHIFT" "I" (.int 8)) (SF : Sta Z h0 "jdk/internal/util/Preconditions" "SIOOBE_FORMATTER" "Ljava/util/function/BiFunction;" vf)  (hx0 : (255 : Int32) < x0) (q0 : isC x0) (q1 : isC x1) (A_ca : Ary Z h0 ca .char [(.int x0), (.int x1)]) :
    Met l Z (⟨"java/lang/StringUTF16", "compress", "([CII)[B"⟩ : MethodName) jdk_52_method_16_code 6 (some (.array .byte)) [] ({ frames := 3, cells := 2, slots := 6, locals := 40 } : Room) #[(.ref ca), (.int (0 : Int32)), (.int (2 : Int32))] h0 [] (fun v h => ∃ vb, v = some (.ref vb) ∧ h0.size ≤ vb ∧ Ary Z h vb .byte [(.int (own_lo x0)), (.int (own_hi x0)), (.int (own_lo x1)), (.int (own_hi x1))]) := by
  refine Met.walk pn_13 (Ls := #[.val (.ref ca), .val (.int (0 : Int32)), .val (.int (2 : Int32)), .unset, .unset, .unset]) (fun m => by first | (simp [entryFrame, mkF, argsToLocals, Value.category, maxLocals]; done) | rfl) ?_
  intro p e s m below meth c B
  refine B.iloadN 1 rfl d13_0 rfl ?_
  refine B.newP 3 rfl d13_1 (wd hw 21 rfl) (by decide) 2 (by decide) (by decide) (by decide) (by decide) ?_
  intro h_vb vb e_vb g_vb X_vb A_vb
  replace A_vb : Ary Z h_vb vb .byte [(.int (0 : Int32)), (.int (0 : Int32))] := A_vb
  show B.G h_vb 1 2 (mkF m 3 #[.val (.ref ca), .val (.int (0 : Int32)), .val (.int (2 : Int32)), .unset, .unset, .unset] [(.ref vb)])
  have n_ca_vb : ca ≠ vb := fun q => absurd A_ca.lt (by rw [q, e_vb]; exact Nat.lt_irrefl _)
  have A_ca_1 := A_ca.ext X_vb
  refine B.astoreN 4 rfl d13_3 rfl #[.val (.ref ca), .val (.int (0 : Int32)), .val (.int (2 : Int32)), .val (.ref vb), .unset, .unset] rfl ?_
  refine B.aloadN 5 rfl d13_4 rfl rfl ?_
  refine B.iloadN 6 rfl d13_5 rfl ?_
  refine B.aloadN 7 rfl d13_6 rfl rfl ?_
  refine B.iconst 8 rfl (0 : Int32) d13_7 rfl ?_
  refine B.iloadN 9 rfl d13_8 rfl ?_
  refine B.callS 12 rfl d13_9 (wd hw 71 rfl) (wd hw 72 rfl) (wd hw 69 rfl) (wd hw 73 rfl) (by decide) [(.ref ca), (.int (0 : Int32)), (.ref vb), (.int (0 : Int32)), (.int (2 : Int32))] [] (rm_cp2_0 l Z a0 hw ca vb x0 x1 h_vb hx0 n_ca_vb A_ca_1 A_vb) rfl rfl pd___CI_BII_I rfl rfl 0 rfl (by decide) (by decide) (by decide) (by decide) (fun x z => Or.inr (by cases List.mem_singleton.mp z; exact g_vb)) ?_
  rintro _ h2 K2 rfl
  show B.G h2 1 2 (mkF m 12 #[.val (.ref ca), .val (.int (0 : Int32)), .val (.int (2 : Int32)), .val (.ref vb), .unset, .unset] [(.int (0 : Int32))])
  have X2 : Ext h0 h2 := own_kx X_vb K2 g_vb
  have Ac2 := A_ca_1.keep K2 (ninS n_ca_vb nin0)
  refine B.istore 14 rfl d13_12 #[.val (.ref ca), .val (.int (0 : Int32)), .val (.int (2 : Int32)), .val (.ref vb), .val (.int (0 : Int32)), .unset] rfl ?_
  refine B.iload 16 rfl d13_14 rfl ?_
  refine B.iloadN 17 rfl d13_16 rfl ?_
  refine B.icmp_eq 57 20 rfl (by decide) rfl d13_17 (fun c17 => ?_) (fun c17 => ?_)
  · exact absurd c17 (by decide)
  · refine B.aloadN 21 rfl d13_20 rfl rfl ?_
    refine B.iloadN 22 rfl d13_21 rfl ?_
    refine B.iloadN 23 rfl d13_22 rfl ?_
    refine B.callS 26 rfl d13_23 (wd hw 78 rfl) (wd hw 79 rfl) (wd hw 69 rfl) (wd hw 80 rfl) (by decide) [(.ref ca), (.int (0 : Int32)), (.int (2 : Int32))] [] (rm_tb2 l Z a0 hw ca x0 x1 cs vf h2 hcs hvf (S.ext X2) (SA.ext X2) (SH.ext X2) (SO.ext X2) (SF.ext X2) Ac2) rfl rfl pd___CII__B rfl rfl 0 rfl (by decide) (by decide) (by decide) (by decide) (fun _ q => nomatch q) ?_
    rintro _ h3 K3 ⟨ub, rfl, gu, Au⟩
    show B.G h3 2 6 (mkF m 26 #[.val (.ref ca), .val (.int (0 : Int32)), .val (.int (2 : Int32)), .val (.ref vb), .val (.int (0 : Int32)), .unset] [(.ref ub)])
    have X3 : Ext h0 h3 := own_ext2 X2 (own_ke K3)
    refine B.astore 28 rfl d13_26 rfl #[.val (.ref ca), .val (.int (0 : Int32)), .val (.int (2 : Int32)), .val (.ref vb), .val (.int (0 : Int32)), .val (.ref ub)] rfl ?_
    refine B.aload 30 rfl d13_28 rfl rfl ?_
    refine B.iload 32 rfl d13_30 rfl ?_
    refine B.callS 35 rfl d13_32 (wd hw 94 rfl) (wd hw 95 rfl) (wd hw 69 rfl) (wd hw 96 rfl) (by decide) [(.ref ub), (.int (0 : Int32))] [] (rm_gc0 l Z a0 hw ub x0 [(.int (own_lo x0)), (.int (own_hi x0)), (.int (own_lo x1)), (.int (own_hi x1))] cs vf h3 hcs hvf (S.ext X3) (SA.ext X3) (SH.ext X3) (SO.ext X3) (SF.ext X3) q0 Au rfl rfl) rfl rfl pd___BI_C rfl rfl 0 rfl (by decide) (by decide) (by decide) (by decide) (fun _ q => nomatch q) ?_
    rintro _ _ - ⟨rfl, rfl⟩
    show B.G h3 2 6 (mkF m 35 #[.val (.ref ca), .val (.int (0 : Int32)), .val (.int (2 : Int32)), .val (.ref vb), .val (.int (0 : Int32)), .val (.ref ub)] [(.int x0)])
    refine B.sipush 38 rfl (255 : Int32) d13_35 rfl ?_
    refine B.icmp_gt 54 41 rfl (by decide) rfl d13_38 (fun c38 => ?_) (fun c38 => ?_)
    · refine B.aload 56 rfl d13_54 rfl rfl ?_
      refine B.retA rfl rfl d13_56 (by decide) (by decide) ?_
      exact ⟨ub, rfl, Nat.le_trans X2.1 gu, Au⟩
    · exact absurd hx0 c38
set_option maxRecDepth 65536 in
set_option maxHeartbeats 4000000 in
theorem rm_co2_0 (l : Launch) (Z : State) (a0 : Array Value) (hw : ∀ d ∈ tables_1, d.before a0 Z = true) (vb : Addr) (vs : List Value) (h0 : Heap) (hn : vs.length.toInt32 = (4 : Int32)) (A : Ary Z h0 vb .byte vs) :
    Met l Z (⟨"java/lang/StringUTF16", "coderFromArrayLen", "([BI)B"⟩ : MethodName) jdk_52_method_15_code 2 (some .byte) [] ({ frames := 0, cells := 0, slots := 0, locals := 0 } : Room) #[(.ref vb), (.int (2 : Int32))] h0 [] (fun v h => v = some (.int (1 : Int32)) ∧ h0 = h) := by
  refine Met.walk pn_15 (Ls := #[.val (.ref vb), .val (.int (2 : Int32))]) (fun m => by first | (simp [entryFrame, mkF, argsToLocals, Value.category, maxLocals]; done) | rfl) ?_
  intro p e s m below meth c B
  refine B.iloadN 1 rfl d15_0 rfl ?_
  refine B.aloadN 2 rfl d15_1 rfl rfl ?_
  refine B.arrlen 3 rfl d15_2 A (4 : Int32) hn ?_
  refine B.isub 4 rfl d15_3 ?_
  refine B.topI (-2 : Int32) (by decide) ?_
  refine B.bipush 6 rfl (31 : Int32) d15_4 rfl ?_
  refine B.iushr 7 rfl d15_6 ?_
  refine B.topI (1 : Int32) (by decide) ?_
  refine B.i2b 8 rfl d15_7 ?_
  refine B.topI (1 : Int32) (by decide) ?_
  refine B.retN (by simp) d15_8 (by decide) (by decide) ?_
  exact ⟨rfl, rfl⟩
set_option maxRecDepth 65536 in
set_option maxHeartbeats 4000000 in
theorem rm_si2_0 (l : Launch) (Z : State) (a0 : Array Value) (hw : ∀ d ∈ tables_1, d.before a0 Z = true) (a ca : Addr) (x0 x1 : Int32) (cs : Int32) (vf : Value) (h0 : Heap) (hcs : ¬ cs = 0) (hvf : vf.isRef = true) (S : Sta Z h0 "java/lang/String" "COMPACT_STRINGS" "Z" (.int cs)) (SA : Sta Z h0 "java/lang/StringUTF16" "$assertionsDisabled" "Z" (.int 1)) (SH : Sta Z h0 "java/lang/StringUTF16" "HI_BYTE_SHIFT" "I" (.int 0)) (SO : Sta Z h0 "java/lang/StringUTF16" "LO_BYTE_SHIFT" "I" (.int 8)) (SF : Sta Z h0 "jdk/internal/util/Preconditions" "SIOOBE_FORMATTER" "Ljava/util/function/BiFunction;" vf) (E : Exa Z h0 a "java/lang/String") (Fc : Fld Z h0 a "java/lang/String" "coder" "B" (.int 0)) (Fv : Fld Z h0 a "java/lang/String" "value" "[B" .null)  (hx0 : (255 : Int32) < x0) (q0 : isC x0) (q1 : isC x1) (A : Ary Z h0 ca .char [(.int x0), (.int x1)]) :
    Met l Z (⟨"java/lang/String", "<init>", "([CIILjava/lang/Void;)V"⟩ : MethodName) jdk_42_method_149_code 6 none [] ({ frames := 4, cells := 2, slots := 6, locals := 57 } : Room) #[(.ref a), (.ref ca), (.int (0 : Int32)), (.int (2 : Int32)), .null] h0 [a] (fun v h => v = none ∧ Exa Z h a "java/lang/String" ∧ ∃ vb, Fld Z h a "java/lang/String" "coder" "B" (.int (1 : Int32)) ∧ Fld Z h a "java/lang/String" "value" "[B" (.ref vb) ∧ Ary Z h vb .byte [(.int (own_lo x0)), (.int (own_hi x0)), (.int (own_lo x1)), (.int (own_hi x1))]) := by
  refine Met.walk pn_3 (Ls := #[.val (.ref a), .val (.ref ca), .val (.int (0 : Int32)), .val (.int (2 : Int32)), .val .null, .unset]) (fun m => by first | (simp [entryFrame, mkF, argsToLocals, Value.category, maxLocals]; done) | rfl) ?_
  intro p e s m below meth c B
  refine B.aloadN 1 rfl d3_0 rfl rfl ?_
  refine B.initO 4 rfl d3_1 (wd hw 17 rfl) (wd hw 18 rfl) (wd hw 19 rfl) rfl 0 rfl (by decide) (by decide) ?_
  refine B.iloadN 5 rfl d3_4 rfl ?_
  refine B.if0_ne 27 8 rfl (by decide) rfl d3_5 (fun c5 => ?_) (fun c5 => ?_)
  · refine B.getS 30 rfl d3_27 (wd hw 49 rfl) S ?_
    refine B.if0_eq 58 33 rfl (by decide) rfl d3_30 (fun c30 => ?_) (fun c30 => ?_)
    · exact absurd c30 hcs
    · refine B.aloadN 34 rfl d3_33 rfl rfl ?_
      refine B.iloadN 35 rfl d3_34 rfl ?_
      refine B.iloadN 36 rfl d3_35 rfl ?_
      refine B.callS 39 rfl d3_36 (wd hw 67 rfl) (wd hw 68 rfl) (wd hw 69 rfl) (wd hw 70 rfl) (by decide) [(.ref ca), (.int (0 : Int32)), (.int (2 : Int32))] [] (rm_cb2_0 l Z a0 hw ca x0 x1 cs vf h0 hcs hvf S SA SH SO SF hx0 q0 q1 A) rfl rfl pd___CII__B rfl rfl 0 rfl (by decide) (by decide) (by decide) (by decide) (fun _ q => nomatch q) ?_
      rintro _ h1 K1 ⟨vb, rfl, gv, A1⟩
      show B.G h1 2 6 (mkF m 39 #[.val (.ref a), .val (.ref ca), .val (.int (0 : Int32)), .val (.int (2 : Int32)), .val .null, .unset] [(.ref vb)])
      have E1 := E.keep K1
      have Fc1 := Fc.keep K1 nin0
      have Fv1 := Fv.keep K1 nin0
      have nv : vb ≠ a := fun q => absurd E.lt (by rw [← q]; exact Nat.not_lt.mpr gv)
      refine B.astore 41 rfl d3_39 rfl #[.val (.ref a), .val (.ref ca), .val (.int (0 : Int32)), .val (.int (2 : Int32)), .val .null, .val (.ref vb)] rfl ?_
      refine B.aloadN 42 rfl d3_41 rfl rfl ?_
      refine B.aload 44 rfl d3_42 rfl rfl ?_
      refine B.iloadN 45 rfl d3_44 rfl ?_
      refine B.callS 48 rfl d3_45 (wd hw 74 rfl) (wd hw 75 rfl) (wd hw 69 rfl) (wd hw 76 rfl) (by decide) [(.ref vb), (.int (2 : Int32))] [(.ref a)] (rm_co2_0 l Z a0 hw vb _ h1 rfl A1) rfl rfl pd___BI_B rfl rfl 1 rfl (by decide) (by decide) (by decide) (by decide) (fun _ q => nomatch q) ?_
      rintro _ _ - ⟨rfl, rfl⟩
      show B.G h1 2 6 (mkF m 48 #[.val (.ref a), .val (.ref ca), .val (.int (0 : Int32)), .val (.int (2 : Int32)), .val .null, .val (.ref vb)] [(.int (1 : Int32)), (.ref a)])
      refine B.putF 51 rfl d3_48 (wd hw 27 rfl) Fc1 E1 (Or.inr ⟨(wd hw 23 rfl), rfl, rfl⟩) (wd hw 7 rfl) (ty := .byte) (by decide) rfl rfl (Or.inl (by simp)) ?_
      intro h2 W2
      have E2 := E1.wr W2
      have Fc2 := Fc1.same W2
      have Fv2 := Fv1.other W2 (Or.inr (slot_ne (Or.inr (wd hw 22 rfl)) (Or.inr (wd hw 23 rfl)) (by decide) (t := (.array .byte)) (t' := .byte) (by decide) (by decide)))
      have A2 := A1.other W2 nv
      refine B.aloadN 52 rfl d3_51 rfl rfl ?_
      refine B.aload 54 rfl d3_52 rfl rfl ?_
      refine B.putF 57 rfl d3_54 (wd hw 26 rfl) Fv2 E2 (Or.inr ⟨(wd hw 22 rfl), rfl, rfl⟩) (wd hw 7 rfl) (ty := (.array .byte)) (by decide) rfl rfl (Or.inl (by simp)) ?_
      intro h3 W3
      refine B.ret0 d3_57 (by decide) (by decide) ?_
      exact ⟨rfl, E2.wr W3, vb, Fc2.other W3 (Or.inr (slot_ne (Or.inr (wd hw 23 rfl)) (Or.inr (wd hw 22 rfl)) (by decide) (t := .byte) (t' := (.array .byte)) (by decide) (by decide))), Fv2.same W3, A2.other W3 nv⟩
  · exact absurd c5 (by decide)
set_option maxRecDepth 65536 in
set_option maxHeartbeats 4000000 in
theorem rm_st2_0 (l : Launch) (Z : State) (a0 : Array Value) (hw : ∀ d ∈ tables_1, d.before a0 Z = true) (a ca : Addr) (x0 x1 : Int32) (cs : Int32) (vf : Value) (h0 : Heap) (hcs : ¬ cs = 0) (hvf : vf.isRef = true) (S : Sta Z h0 "java/lang/String" "COMPACT_STRINGS" "Z" (.int cs)) (SA : Sta Z h0 "java/lang/StringUTF16" "$assertionsDisabled" "Z" (.int 1)) (SH : Sta Z h0 "java/lang/StringUTF16" "HI_BYTE_SHIFT" "I" (.int 0)) (SO : Sta Z h0 "java/lang/StringUTF16" "LO_BYTE_SHIFT" "I" (.int 8)) (SF : Sta Z h0 "jdk/internal/util/Preconditions" "SIOOBE_FORMATTER" "Ljava/util/function/BiFunction;" vf) (E : Exa Z h0 a "java/lang/String") (Fc : Fld Z h0 a "java/lang/String" "coder" "B" (.int 0)) (Fv : Fld Z h0 a "java/lang/String" "value" "[B" .null)  (hx0 : (255 : Int32) < x0) (q0 : isC x0) (q1 : isC x1) (A : Ary Z h0 ca .char [(.int x0), (.int x1)]) :
    Met l Z (⟨"java/lang/String", "<init>", "([C)V"⟩ : MethodName) jdk_42_method_3_code 2 none [] ({ frames := 5, cells := 2, slots := 6, locals := 74 } : Room) #[(.ref a), (.ref ca)] h0 [a] (fun v h => v = none ∧ Exa Z h a "java/lang/String" ∧ ∃ vb, Fld Z h a "java/lang/String" "coder" "B" (.int (1 : Int32)) ∧ Fld Z h a "java/lang/String" "value" "[B" (.ref vb) ∧ Ary Z h vb .byte [(.int (own_lo x0)), (.int (own_hi x0)), (.int (own_lo x1)), (.int (own_hi x1))]) := by
  refine Met.walk pn_2 (Ls := #[.val (.ref a), .val (.ref ca)]) (fun m => by first | (simp [entryFrame, mkF, argsToLocals, Value.category, maxLocals]; done) | rfl) ?_
  intro p e s m below meth c B
  refine B.aloadN 1 rfl d2_0 rfl rfl ?_
  refine B.aloadN 2 rfl d2_1 rfl rfl ?_
  refine B.iconst 3 rfl (0 : Int32) d2_2 rfl ?_
  refine B.aloadN 4 rfl d2_3 rfl rfl ?_
  refine B.arrlen 5 rfl d2_4 A (2 : Int32) rfl ?_
  refine B.aconstNull 6 rfl d2_5 ?_
  refine B.callI 9 rfl d2_6 rfl (wd hw 13 rfl) (wd hw 14 rfl) (wd hw 8 rfl) (wd hw 16 rfl) (by decide) [(.ref ca), (.int (0 : Int32)), (.int (2 : Int32)), .null] [] (rm_si2_0 l Z a0 hw a ca x0 x1 cs vf h0 hcs hvf S SA SH SO SF E Fc Fv hx0 q0 q1 A) rfl rfl pd___CIILjava_lang_Void__V rfl rfl 0 rfl (by decide) (by decide) (by decide) (by decide) (fun x z => Or.inl z) ?_
  rintro _ h1 K1 ⟨rfl, q⟩
  show B.G h1 2 6 (mkF m 9 #[.val (.ref a), .val (.ref ca)] [])
  refine B.ret0 d2_9 (by decide) (by decide) ?_
  exact ⟨rfl, q⟩
set_option maxRecDepth 65536 in
set_option maxHeartbeats 4000000 in
theorem rm_cb2_1 (l : Launch) (Z : State) (a0 : Array Value) (hw : ∀ d ∈ tables_1, d.before a0 Z = true) (ca : Addr) (x0 x1 : Int32) (cs : Int32) (vf : Value) (h0 : Heap) (hcs : ¬ cs = 0) (hvf : vf.isRef = true) (S : Sta Z h0 "java/lang/String" "COMPACT_STRINGS" "Z" (.int cs)) (SA : Sta Z h0 "java/lang/StringUTF16" "$assertionsDisabled" "Z" (.int 1)) (SH : Sta Z h0 "java/lang/StringUTF16" "HI_BYTE_SHIFT" "I" (.int 0)) (SO : Sta Z h0 "java/lang/StringUTF16" "LO_BYTE_SHIFT" "I" (.int 8)) (SF : Sta Z h0 "jdk/internal/util/Preconditions" "SIOOBE_FORMATTER" "Ljava/util/function/BiFunction;" vf) (hx0 : ¬ (255 : Int32) < x0) (hx1 : (255 : Int32) < x1) (q0 : isC x0) (q1 : isC x1) (A_ca : Ary Z h0 ca .char [(.int x0), (.int x1)]) :
    Met l Z (⟨"java/lang/StringUTF16", "compress", "([CII)[B"⟩ : MethodName) jdk_52_method_16_code 6 (some (.array .byte)) [] ({ frames := 3, cells := 2, slots := 6, locals := 40 } : Room) #[(.ref ca), (.int (0 : Int32)), (.int (2 : Int32))] h0 [] (fun v h => ∃ vb, v = some (.ref vb) ∧ h0.size ≤ vb ∧ Ary Z h vb .byte [(.int (own_lo x0)), (.int (own_hi x0)), (.int (own_lo x1)), (.int (own_hi x1))]) := by
  refine Met.walk pn_13 (Ls := #[.val (.ref ca), .val (.int (0 : Int32)), .val (.int (2 : Int32)), .unset, .unset, .unset]) (fun m => by first | (simp [entryFrame, mkF, argsToLocals, Value.category, maxLocals]; done) | rfl) ?_
  intro p e s m below meth c B
  refine B.iloadN 1 rfl d13_0 rfl ?_
  refine B.newP 3 rfl d13_1 (wd hw 21 rfl) (by decide) 2 (by decide) (by decide) (by decide) (by decide) ?_
  intro h_vb vb e_vb g_vb X_vb A_vb
  replace A_vb : Ary Z h_vb vb .byte [(.int (0 : Int32)), (.int (0 : Int32))] := A_vb
  show B.G h_vb 1 2 (mkF m 3 #[.val (.ref ca), .val (.int (0 : Int32)), .val (.int (2 : Int32)), .unset, .unset, .unset] [(.ref vb)])
  have n_ca_vb : ca ≠ vb := fun q => absurd A_ca.lt (by rw [q, e_vb]; exact Nat.lt_irrefl _)
  have A_ca_1 := A_ca.ext X_vb
  refine B.astoreN 4 rfl d13_3 rfl #[.val (.ref ca), .val (.int (0 : Int32)), .val (.int (2 : Int32)), .val (.ref vb), .unset, .unset] rfl ?_
  refine B.aloadN 5 rfl d13_4 rfl rfl ?_
  refine B.iloadN 6 rfl d13_5 rfl ?_
  refine B.aloadN 7 rfl d13_6 rfl rfl ?_
  refine B.iconst 8 rfl (0 : Int32) d13_7 rfl ?_
  refine B.iloadN 9 rfl d13_8 rfl ?_
  refine B.callS 12 rfl d13_9 (wd hw 71 rfl) (wd hw 72 rfl) (wd hw 69 rfl) (wd hw 73 rfl) (by decide) [(.ref ca), (.int (0 : Int32)), (.ref vb), (.int (0 : Int32)), (.int (2 : Int32))] [] (rm_cp2_1 l Z a0 hw ca vb x0 x1 h_vb hx0 hx1 n_ca_vb A_ca_1 A_vb) rfl rfl pd___CI_BII_I rfl rfl 0 rfl (by decide) (by decide) (by decide) (by decide) (fun x z => Or.inr (by cases List.mem_singleton.mp z; exact g_vb)) ?_
  rintro _ h2 K2 rfl
  show B.G h2 1 2 (mkF m 12 #[.val (.ref ca), .val (.int (0 : Int32)), .val (.int (2 : Int32)), .val (.ref vb), .unset, .unset] [(.int (1 : Int32))])
  have X2 : Ext h0 h2 := own_kx X_vb K2 g_vb
  have Ac2 := A_ca_1.keep K2 (ninS n_ca_vb nin0)
  refine B.istore 14 rfl d13_12 #[.val (.ref ca), .val (.int (0 : Int32)), .val (.int (2 : Int32)), .val (.ref vb), .val (.int (1 : Int32)), .unset] rfl ?_
  refine B.iload 16 rfl d13_14 rfl ?_
  refine B.iloadN 17 rfl d13_16 rfl ?_
  refine B.icmp_eq 57 20 rfl (by decide) rfl d13_17 (fun c17 => ?_) (fun c17 => ?_)
  · exact absurd c17 (by decide)
  · refine B.aloadN 21 rfl d13_20 rfl rfl ?_
    refine B.iloadN 22 rfl d13_21 rfl ?_
    refine B.iloadN 23 rfl d13_22 rfl ?_
    refine B.callS 26 rfl d13_23 (wd hw 78 rfl) (wd hw 79 rfl) (wd hw 69 rfl) (wd hw 80 rfl) (by decide) [(.ref ca), (.int (0 : Int32)), (.int (2 : Int32))] [] (rm_tb2 l Z a0 hw ca x0 x1 cs vf h2 hcs hvf (S.ext X2) (SA.ext X2) (SH.ext X2) (SO.ext X2) (SF.ext X2) Ac2) rfl rfl pd___CII__B rfl rfl 0 rfl (by decide) (by decide) (by decide) (by decide) (fun _ q => nomatch q) ?_
    rintro _ h3 K3 ⟨ub, rfl, gu, Au⟩
    show B.G h3 2 6 (mkF m 26 #[.val (.ref ca), .val (.int (0 : Int32)), .val (.int (2 : Int32)), .val (.ref vb), .val (.int (1 : Int32)), .unset] [(.ref ub)])
    have X3 : Ext h0 h3 := own_ext2 X2 (own_ke K3)
    refine B.astore 28 rfl d13_26 rfl #[.val (.ref ca), .val (.int (0 : Int32)), .val (.int (2 : Int32)), .val (.ref vb), .val (.int (1 : Int32)), .val (.ref ub)] rfl ?_
    refine B.aload 30 rfl d13_28 rfl rfl ?_
    refine B.iload 32 rfl d13_30 rfl ?_
    refine B.callS 35 rfl d13_32 (wd hw 94 rfl) (wd hw 95 rfl) (wd hw 69 rfl) (wd hw 96 rfl) (by decide) [(.ref ub), (.int (1 : Int32))] [] (rm_gc1 l Z a0 hw ub x1 [(.int (own_lo x0)), (.int (own_hi x0)), (.int (own_lo x1)), (.int (own_hi x1))] cs vf h3 hcs hvf (S.ext X3) (SA.ext X3) (SH.ext X3) (SO.ext X3) (SF.ext X3) q1 Au rfl rfl) rfl rfl pd___BI_C rfl rfl 0 rfl (by decide) (by decide) (by decide) (by decide) (fun _ q => nomatch q) ?_
    rintro _ _ - ⟨rfl, rfl⟩
    show B.G h3 2 6 (mkF m 35 #[.val (.ref ca), .val (.int (0 : Int32)), .val (.int (2 : Int32)), .val (.ref vb), .val (.int (1 : Int32)), .val (.ref ub)] [(.int x1)])
    refine B.sipush 38 rfl (255 : Int32) d13_35 rfl ?_
    refine B.icmp_gt 54 41 rfl (by decide) rfl d13_38 (fun c38 => ?_) (fun c38 => ?_)
    · refine B.aload 56 rfl d13_54 rfl rfl ?_
      refine B.retA rfl rfl d13_56 (by decide) (by decide) ?_
      exact ⟨ub, rfl, Nat.le_trans X2.1 gu, Au⟩
    · exact absurd hx1 c38
set_option maxRecDepth 65536 in
set_option maxHeartbeats 4000000 in
theorem rm_co2_1 (l : Launch) (Z : State) (a0 : Array Value) (hw : ∀ d ∈ tables_1, d.before a0 Z = true) (vb : Addr) (vs : List Value) (h0 : Heap) (hn : vs.length.toInt32 = (4 : Int32)) (A : Ary Z h0 vb .byte vs) :
    Met l Z (⟨"java/lang/StringUTF16", "coderFromArrayLen", "([BI)B"⟩ : MethodName) jdk_52_method_15_code 2 (some .byte) [] ({ frames := 0, cells := 0, slots := 0, locals := 0 } : Room) #[(.ref vb), (.int (2 : Int32))] h0 [] (fun v h => v = some (.int (1 : Int32)) ∧ h0 = h) := by
  refine Met.walk pn_15 (Ls := #[.val (.ref vb), .val (.int (2 : Int32))]) (fun m => by first | (simp [entryFrame, mkF, argsToLocals, Value.category, maxLocals]; done) | rfl) ?_
  intro p e s m below meth c B
  refine B.iloadN 1 rfl d15_0 rfl ?_
  refine B.aloadN 2 rfl d15_1 rfl rfl ?_
  refine B.arrlen 3 rfl d15_2 A (4 : Int32) hn ?_
  refine B.isub 4 rfl d15_3 ?_
  refine B.topI (-2 : Int32) (by decide) ?_
  refine B.bipush 6 rfl (31 : Int32) d15_4 rfl ?_
  refine B.iushr 7 rfl d15_6 ?_
  refine B.topI (1 : Int32) (by decide) ?_
  refine B.i2b 8 rfl d15_7 ?_
  refine B.topI (1 : Int32) (by decide) ?_
  refine B.retN (by simp) d15_8 (by decide) (by decide) ?_
  exact ⟨rfl, rfl⟩
set_option maxRecDepth 65536 in
set_option maxHeartbeats 4000000 in
theorem rm_si2_1 (l : Launch) (Z : State) (a0 : Array Value) (hw : ∀ d ∈ tables_1, d.before a0 Z = true) (a ca : Addr) (x0 x1 : Int32) (cs : Int32) (vf : Value) (h0 : Heap) (hcs : ¬ cs = 0) (hvf : vf.isRef = true) (S : Sta Z h0 "java/lang/String" "COMPACT_STRINGS" "Z" (.int cs)) (SA : Sta Z h0 "java/lang/StringUTF16" "$assertionsDisabled" "Z" (.int 1)) (SH : Sta Z h0 "java/lang/StringUTF16" "HI_BYTE_SHIFT" "I" (.int 0)) (SO : Sta Z h0 "java/lang/StringUTF16" "LO_BYTE_SHIFT" "I" (.int 8)) (SF : Sta Z h0 "jdk/internal/util/Preconditions" "SIOOBE_FORMATTER" "Ljava/util/function/BiFunction;" vf) (E : Exa Z h0 a "java/lang/String") (Fc : Fld Z h0 a "java/lang/String" "coder" "B" (.int 0)) (Fv : Fld Z h0 a "java/lang/String" "value" "[B" .null) (hx0 : ¬ (255 : Int32) < x0) (hx1 : (255 : Int32) < x1) (q0 : isC x0) (q1 : isC x1) (A : Ary Z h0 ca .char [(.int x0), (.int x1)]) :
    Met l Z (⟨"java/lang/String", "<init>", "([CIILjava/lang/Void;)V"⟩ : MethodName) jdk_42_method_149_code 6 none [] ({ frames := 4, cells := 2, slots := 6, locals := 57 } : Room) #[(.ref a), (.ref ca), (.int (0 : Int32)), (.int (2 : Int32)), .null] h0 [a] (fun v h => v = none ∧ Exa Z h a "java/lang/String" ∧ ∃ vb, Fld Z h a "java/lang/String" "coder" "B" (.int (1 : Int32)) ∧ Fld Z h a "java/lang/String" "value" "[B" (.ref vb) ∧ Ary Z h vb .byte [(.int (own_lo x0)), (.int (own_hi x0)), (.int (own_lo x1)), (.int (own_hi x1))]) := by
  refine Met.walk pn_3 (Ls := #[.val (.ref a), .val (.ref ca), .val (.int (0 : Int32)), .val (.int (2 : Int32)), .val .null, .unset]) (fun m => by first | (simp [entryFrame, mkF, argsToLocals, Value.category, maxLocals]; done) | rfl) ?_
  intro p e s m below meth c B
  refine B.aloadN 1 rfl d3_0 rfl rfl ?_
  refine B.initO 4 rfl d3_1 (wd hw 17 rfl) (wd hw 18 rfl) (wd hw 19 rfl) rfl 0 rfl (by decide) (by decide) ?_
  refine B.iloadN 5 rfl d3_4 rfl ?_
  refine B.if0_ne 27 8 rfl (by decide) rfl d3_5 (fun c5 => ?_) (fun c5 => ?_)
  · refine B.getS 30 rfl d3_27 (wd hw 49 rfl) S ?_
    refine B.if0_eq 58 33 rfl (by decide) rfl d3_30 (fun c30 => ?_) (fun c30 => ?_)
    · exact absurd c30 hcs
    · refine B.aloadN 34 rfl d3_33 rfl rfl ?_
      refine B.iloadN 35 rfl d3_34 rfl ?_
      refine B.iloadN 36 rfl d3_35 rfl ?_
      refine B.callS 39 rfl d3_36 (wd hw 67 rfl) (wd hw 68 rfl) (wd hw 69 rfl) (wd hw 70 rfl) (by decide) [(.ref ca), (.int (0 : Int32)), (.int (2 : Int32))] [] (rm_cb2_1 l Z a0 hw ca x0 x1 cs vf h0 hcs hvf S SA SH SO SF hx0 hx1 q0 q1 A) rfl rfl pd___CII__B rfl rfl 0 rfl (by decide) (by decide) (by decide) (by decide) (fun _ q => nomatch q) ?_
      rintro _ h1 K1 ⟨vb, rfl, gv, A1⟩
      show B.G h1 2 6 (mkF m 39 #[.val (.ref a), .val (.ref ca), .val (.int (0 : Int32)), .val (.int (2 : Int32)), .val .null, .unset] [(.ref vb)])
      have E1 := E.keep K1
      have Fc1 := Fc.keep K1 nin0
      have Fv1 := Fv.keep K1 nin0
      have nv : vb ≠ a := fun q => absurd E.lt (by rw [← q]; exact Nat.not_lt.mpr gv)
      refine B.astore 41 rfl d3_39 rfl #[.val (.ref a), .val (.ref ca), .val (.int (0 : Int32)), .val (.int (2 : Int32)), .val .null, .val (.ref vb)] rfl ?_
      refine B.aloadN 42 rfl d3_41 rfl rfl ?_
      refine B.aload 44 rfl d3_42 rfl rfl ?_
      refine B.iloadN 45 rfl d3_44 rfl ?_
      refine B.callS 48 rfl d3_45 (wd hw 74 rfl) (wd hw 75 rfl) (wd hw 69 rfl) (wd hw 76 rfl) (by decide) [(.ref vb), (.int (2 : Int32))] [(.ref a)] (rm_co2_1 l Z a0 hw vb _ h1 rfl A1) rfl rfl pd___BI_B rfl rfl 1 rfl (by decide) (by decide) (by decide) (by decide) (fun _ q => nomatch q) ?_
      rintro _ _ - ⟨rfl, rfl⟩
      show B.G h1 2 6 (mkF m 48 #[.val (.ref a), .val (.ref ca), .val (.int (0 : Int32)), .val (.int (2 : Int32)), .val .null, .val (.ref vb)] [(.int (1 : Int32)), (.ref a)])
      refine B.putF 51 rfl d3_48 (wd hw 27 rfl) Fc1 E1 (Or.inr ⟨(wd hw 23 rfl), rfl, rfl⟩) (wd hw 7 rfl) (ty := .byte) (by decide) rfl rfl (Or.inl (by simp)) ?_
      intro h2 W2
      have E2 := E1.wr W2
      have Fc2 := Fc1.same W2
      have Fv2 := Fv1.other W2 (Or.inr (slot_ne (Or.inr (wd hw 22 rfl)) (Or.inr (wd hw 23 rfl)) (by decide) (t := (.array .byte)) (t' := .byte) (by decide) (by decide)))
      have A2 := A1.other W2 nv
      refine B.aloadN 52 rfl d3_51 rfl rfl ?_
      refine B.aload 54 rfl d3_52 rfl rfl ?_
      refine B.putF 57 rfl d3_54 (wd hw 26 rfl) Fv2 E2 (Or.inr ⟨(wd hw 22 rfl), rfl, rfl⟩) (wd hw 7 rfl) (ty := (.array .byte)) (by decide) rfl rfl (Or.inl (by simp)) ?_
      intro h3 W3
      refine B.ret0 d3_57 (by decide) (by decide) ?_
      exact ⟨rfl, E2.wr W3, vb, Fc2.other W3 (Or.inr (slot_ne (Or.inr (wd hw 23 rfl)) (Or.inr (wd hw 22 rfl)) (by decide) (t := .byte) (t' := (.array .byte)) (by decide) (by decide))), Fv2.same W3, A2.other W3 nv⟩
  · exact absurd c5 (by decide)
set_option maxRecDepth 65536 in
set_option maxHeartbeats 4000000 in
theorem rm_st2_1 (l : Launch) (Z : State) (a0 : Array Value) (hw : ∀ d ∈ tables_1, d.before a0 Z = true) (a ca : Addr) (x0 x1 : Int32) (cs : Int32) (vf : Value) (h0 : Heap) (hcs : ¬ cs = 0) (hvf : vf.isRef = true) (S : Sta Z h0 "java/lang/String" "COMPACT_STRINGS" "Z" (.int cs)) (SA : Sta Z h0 "java/lang/StringUTF16" "$assertionsDisabled" "Z" (.int 1)) (SH : Sta Z h0 "java/lang/StringUTF16" "HI_BYTE_SHIFT" "I" (.int 0)) (SO : Sta Z h0 "java/lang/StringUTF16" "LO_BYTE_SHIFT" "I" (.int 8)) (SF : Sta Z h0 "jdk/internal/util/Preconditions" "SIOOBE_FORMATTER" "Ljava/util/function/BiFunction;" vf) (E : Exa Z h0 a "java/lang/String") (Fc : Fld Z h0 a "java/lang/String" "coder" "B" (.int 0)) (Fv : Fld Z h0 a "java/lang/String" "value" "[B" .null) (hx0 : ¬ (255 : Int32) < x0) (hx1 : (255 : Int32) < x1) (q0 : isC x0) (q1 : isC x1) (A : Ary Z h0 ca .char [(.int x0), (.int x1)]) :
    Met l Z (⟨"java/lang/String", "<init>", "([C)V"⟩ : MethodName) jdk_42_method_3_code 2 none [] ({ frames := 5, cells := 2, slots := 6, locals := 74 } : Room) #[(.ref a), (.ref ca)] h0 [a] (fun v h => v = none ∧ Exa Z h a "java/lang/String" ∧ ∃ vb, Fld Z h a "java/lang/String" "coder" "B" (.int (1 : Int32)) ∧ Fld Z h a "java/lang/String" "value" "[B" (.ref vb) ∧ Ary Z h vb .byte [(.int (own_lo x0)), (.int (own_hi x0)), (.int (own_lo x1)), (.int (own_hi x1))]) := by
  refine Met.walk pn_2 (Ls := #[.val (.ref a), .val (.ref ca)]) (fun m => by first | (simp [entryFrame, mkF, argsToLocals, Value.category, maxLocals]; done) | rfl) ?_
  intro p e s m below meth c B
  refine B.aloadN 1 rfl d2_0 rfl rfl ?_
  refine B.aloadN 2 rfl d2_1 rfl rfl ?_
  refine B.iconst 3 rfl (0 : Int32) d2_2 rfl ?_
  refine B.aloadN 4 rfl d2_3 rfl rfl ?_
  refine B.arrlen 5 rfl d2_4 A (2 : Int32) rfl ?_
  refine B.aconstNull 6 rfl d2_5 ?_
  refine B.callI 9 rfl d2_6 rfl (wd hw 13 rfl) (wd hw 14 rfl) (wd hw 8 rfl) (wd hw 16 rfl) (by decide) [(.ref ca), (.int (0 : Int32)), (.int (2 : Int32)), .null] [] (rm_si2_1 l Z a0 hw a ca x0 x1 cs vf h0 hcs hvf S SA SH SO SF E Fc Fv hx0 hx1 q0 q1 A) rfl rfl pd___CIILjava_lang_Void__V rfl rfl 0 rfl (by decide) (by decide) (by decide) (by decide) (fun x z => Or.inl z) ?_
  rintro _ h1 K1 ⟨rfl, q⟩
  show B.G h1 2 6 (mkF m 9 #[.val (.ref a), .val (.ref ca)] [])
  refine B.ret0 d2_9 (by decide) (by decide) ?_
  exact ⟨rfl, q⟩
set_option maxRecDepth 65536 in
set_option maxHeartbeats 4000000 in
theorem rm_cb2_2 (l : Launch) (Z : State) (a0 : Array Value) (hw : ∀ d ∈ tables_1, d.before a0 Z = true) (ca : Addr) (x0 x1 : Int32) (cs : Int32) (vf : Value) (h0 : Heap) (hcs : ¬ cs = 0) (hvf : vf.isRef = true) (S : Sta Z h0 "java/lang/String" "COMPACT_STRINGS" "Z" (.int cs)) (SA : Sta Z h0 "java/lang/StringUTF16" "$assertionsDisabled" "Z" (.int 1)) (SH : Sta Z h0 "java/lang/StringUTF16" "HI_BYTE_SHIFT" "I" (.int 0)) (SO : Sta Z h0 "java/lang/StringUTF16" "LO_BYTE_SHIFT" "I" (.int 8)) (SF : Sta Z h0 "jdk/internal/util/Preconditions" "SIOOBE_FORMATTER" "Ljava/util/function/BiFunction;" vf) (hx0 : ¬ (255 : Int32) < x0) (hx1 : ¬ (255 : Int32) < x1) (q0 : isC x0) (q1 : isC x1) (A_ca : Ary Z h0 ca .char [(.int x0), (.int x1)]) :
    Met l Z (⟨"java/lang/StringUTF16", "compress", "([CII)[B"⟩ : MethodName) jdk_52_method_16_code 6 (some (.array .byte)) [] ({ frames := 1, cells := 1, slots := 2, locals := 18 } : Room) #[(.ref ca), (.int (0 : Int32)), (.int (2 : Int32))] h0 [] (fun v h => ∃ vb, v = some (.ref vb) ∧ h0.size ≤ vb ∧ Ary Z h vb .byte [(.int ((x0.toInt8.toInt32).toInt8.toInt32)), (.int ((x1.toInt8.toInt32).toInt8.toInt32))]) := by
  refine Met.walk pn_13 (Ls := #[.val (.ref ca), .val (.int (0 : Int32)), .val (.int (2 : Int32)), .unset, .unset, .unset]) (fun m => by first | (simp [entryFrame, mkF, argsToLocals, Value.category, maxLocals]; done) | rfl) ?_
  intro p e s m below meth c B
  refine B.iloadN 1 rfl d13_0 rfl ?_
  refine B.newP 3 rfl d13_1 (wd hw 21 rfl) (by decide) 2 (by decide) (by decide) (by decide) (by decide) ?_
  intro h_vb vb e_vb g_vb X_vb A_vb
  replace A_vb : Ary Z h_vb vb .byte [(.int (0 : Int32)), (.int (0 : Int32))] := A_vb
  show B.G h_vb 1 2 (mkF m 3 #[.val (.ref ca), .val (.int (0 : Int32)), .val (.int (2 : Int32)), .unset, .unset, .unset] [(.ref vb)])
  have n_ca_vb : ca ≠ vb := fun q => absurd A_ca.lt (by rw [q, e_vb]; exact Nat.lt_irrefl _)
  have A_ca_1 := A_ca.ext X_vb
  refine B.astoreN 4 rfl d13_3 rfl #[.val (.ref ca), .val (.int (0 : Int32)), .val (.int (2 : Int32)), .val (.ref vb), .unset, .unset] rfl ?_
  refine B.aloadN 5 rfl d13_4 rfl rfl ?_
  refine B.iloadN 6 rfl d13_5 rfl ?_
  refine B.aloadN 7 rfl d13_6 rfl rfl ?_
  refine B.iconst 8 rfl (0 : Int32) d13_7 rfl ?_
  refine B.iloadN 9 rfl d13_8 rfl ?_
  refine B.callS 12 rfl d13_9 (wd hw 71 rfl) (wd hw 72 rfl) (wd hw 69 rfl) (wd hw 73 rfl) (by decide) [(.ref ca), (.int (0 : Int32)), (.ref vb), (.int (0 : Int32)), (.int (2 : Int32))] [] (rm_cp2_2 l Z a0 hw ca vb x0 x1 h_vb hx0 hx1 n_ca_vb A_ca_1 A_vb) rfl rfl pd___CI_BII_I rfl rfl 0 rfl (by decide) (by decide) (by decide) (by decide) (fun x z => Or.inr (by cases List.mem_singleton.mp z; exact g_vb)) ?_
  rintro _ h2 K2 ⟨rfl, A2⟩
  show B.G h2 1 2 (mkF m 12 #[.val (.ref ca), .val (.int (0 : Int32)), .val (.int (2 : Int32)), .val (.ref vb), .unset, .unset] [(.int (2 : Int32))])
  have X2 : Ext h0 h2 := own_kx X_vb K2 g_vb
  have Ac2 := A_ca_1.keep K2 (ninS n_ca_vb nin0)
  refine B.istore 14 rfl d13_12 #[.val (.ref ca), .val (.int (0 : Int32)), .val (.int (2 : Int32)), .val (.ref vb), .val (.int (2 : Int32)), .unset] rfl ?_
  refine B.iload 16 rfl d13_14 rfl ?_
  refine B.iloadN 17 rfl d13_16 rfl ?_
  refine B.icmp_eq 57 20 rfl (by decide) rfl d13_17 (fun c17 => ?_) (fun c17 => ?_)
  · refine B.aloadN 58 rfl d13_57 rfl rfl ?_
    refine B.retA rfl rfl d13_58 (by decide) (by decide) ?_
    exact ⟨vb, rfl, g_vb, A2⟩
  · exact absurd c17 (by decide)
set_option maxRecDepth 65536 in
set_option maxHeartbeats 4000000 in
theorem rm_co2_2 (l : Launch) (Z : State) (a0 : Array Value) (hw : ∀ d ∈ tables_1, d.before a0 Z = true) (vb : Addr) (vs : List Value) (h0 : Heap) (hn : vs.length.toInt32 = (2 : Int32)) (A : Ary Z h0 vb .byte vs) :
    Met l Z (⟨"java/lang/StringUTF16", "coderFromArrayLen", "([BI)B"⟩ : MethodName) jdk_52_method_15_code 2 (some .byte) [] ({ frames := 0, cells := 0, slots := 0, locals := 0 } : Room) #[(.ref vb), (.int (2 : Int32))] h0 [] (fun v h => v = some (.int (0 : Int32)) ∧ h0 = h) := by
  refine Met.walk pn_15 (Ls := #[.val (.ref vb), .val (.int (2 : Int32))]) (fun m => by first | (simp [entryFrame, mkF, argsToLocals, Value.category, maxLocals]; done) | rfl) ?_
  intro p e s m below meth c B
  refine B.iloadN 1 rfl d15_0 rfl ?_
  refine B.aloadN 2 rfl d15_1 rfl rfl ?_
  refine B.arrlen 3 rfl d15_2 A (2 : Int32) hn ?_
  refine B.isub 4 rfl d15_3 ?_
  refine B.topI (0 : Int32) (by decide) ?_
  refine B.bipush 6 rfl (31 : Int32) d15_4 rfl ?_
  refine B.iushr 7 rfl d15_6 ?_
  refine B.topI (0 : Int32) (by decide) ?_
  refine B.i2b 8 rfl d15_7 ?_
  refine B.topI (0 : Int32) (by decide) ?_
  refine B.retN (by simp) d15_8 (by decide) (by decide) ?_
  exact ⟨rfl, rfl⟩
set_option maxRecDepth 65536 in
set_option maxHeartbeats 4000000 in
theorem rm_si2_2 (l : Launch) (Z : State) (a0 : Array Value) (hw : ∀ d ∈ tables_1, d.before a0 Z = true) (a ca : Addr) (x0 x1 : Int32) (cs : Int32) (vf : Value) (h0 : Heap) (hcs : ¬ cs = 0) (hvf : vf.isRef = true) (S : Sta Z h0 "java/lang/String" "COMPACT_STRINGS" "Z" (.int cs)) (SA : Sta Z h0 "java/lang/StringUTF16" "$assertionsDisabled" "Z" (.int 1)) (SH : Sta Z h0 "java/lang/StringUTF16" "HI_BYTE_SHIFT" "I" (.int 0)) (SO : Sta Z h0 "java/lang/StringUTF16" "LO_BYTE_SHIFT" "I" (.int 8)) (SF : Sta Z h0 "jdk/internal/util/Preconditions" "SIOOBE_FORMATTER" "Ljava/util/function/BiFunction;" vf) (E : Exa Z h0 a "java/lang/String") (Fc : Fld Z h0 a "java/lang/String" "coder" "B" (.int 0)) (Fv : Fld Z h0 a "java/lang/String" "value" "[B" .null) (hx0 : ¬ (255 : Int32) < x0) (hx1 : ¬ (255 : Int32) < x1) (q0 : isC x0) (q1 : isC x1) (A : Ary Z h0 ca .char [(.int x0), (.int x1)]) :
    Met l Z (⟨"java/lang/String", "<init>", "([CIILjava/lang/Void;)V"⟩ : MethodName) jdk_42_method_149_code 6 none [] ({ frames := 2, cells := 1, slots := 2, locals := 35 } : Room) #[(.ref a), (.ref ca), (.int (0 : Int32)), (.int (2 : Int32)), .null] h0 [a] (fun v h => v = none ∧ Exa Z h a "java/lang/String" ∧ ∃ vb, Fld Z h a "java/lang/String" "coder" "B" (.int (0 : Int32)) ∧ Fld Z h a "java/lang/String" "value" "[B" (.ref vb) ∧ Ary Z h vb .byte [(.int ((x0.toInt8.toInt32).toInt8.toInt32)), (.int ((x1.toInt8.toInt32).toInt8.toInt32))]) := by
  refine Met.walk pn_3 (Ls := #[.val (.ref a), .val (.ref ca), .val (.int (0 : Int32)), .val (.int (2 : Int32)), .val .null, .unset]) (fun m => by first | (simp [entryFrame, mkF, argsToLocals, Value.category, maxLocals]; done) | rfl) ?_
  intro p e s m below meth c B
  refine B.aloadN 1 rfl d3_0 rfl rfl ?_
  refine B.initO 4 rfl d3_1 (wd hw 17 rfl) (wd hw 18 rfl) (wd hw 19 rfl) rfl 0 rfl (by decide) (by decide) ?_
  refine B.iloadN 5 rfl d3_4 rfl ?_
  refine B.if0_ne 27 8 rfl (by decide) rfl d3_5 (fun c5 => ?_) (fun c5 => ?_)
  · refine B.getS 30 rfl d3_27 (wd hw 49 rfl) S ?_
    refine B.if0_eq 58 33 rfl (by decide) rfl d3_30 (fun c30 => ?_) (fun c30 => ?_)
    · exact absurd c30 hcs
    · refine B.aloadN 34 rfl d3_33 rfl rfl ?_
      refine B.iloadN 35 rfl d3_34 rfl ?_
      refine B.iloadN 36 rfl d3_35 rfl ?_
      refine B.callS 39 rfl d3_36 (wd hw 67 rfl) (wd hw 68 rfl) (wd hw 69 rfl) (wd hw 70 rfl) (by decide) [(.ref ca), (.int (0 : Int32)), (.int (2 : Int32))] [] (rm_cb2_2 l Z a0 hw ca x0 x1 cs vf h0 hcs hvf S SA SH SO SF hx0 hx1 q0 q1 A) rfl rfl pd___CII__B rfl rfl 0 rfl (by decide) (by decide) (by decide) (by decide) (fun _ q => nomatch q) ?_
      rintro _ h1 K1 ⟨vb, rfl, gv, A1⟩
      show B.G h1 1 2 (mkF m 39 #[.val (.ref a), .val (.ref ca), .val (.int (0 : Int32)), .val (.int (2 : Int32)), .val .null, .unset] [(.ref vb)])
      have E1 := E.keep K1
      have Fc1 := Fc.keep K1 nin0
      have Fv1 := Fv.keep K1 nin0
      have nv : vb ≠ a := fun q => absurd E.lt (by rw [← q]; exact Nat.not_lt.mpr gv)
      refine B.astore 41 rfl d3_39 rfl #[.val (.ref a), .val (.ref ca), .val (.int (0 : Int32)), .val (.int (2 : Int32)), .val .null, .val (.ref vb)] rfl ?_
      refine B.aloadN 42 rfl d3_41 rfl rfl ?_
      refine B.aload 44 rfl d3_42 rfl rfl ?_
      refine B.iloadN 45 rfl d3_44 rfl ?_
      refine B.callS 48 rfl d3_45 (wd hw 74 rfl) (wd hw 75 rfl) (wd hw 69 rfl) (wd hw 76 rfl) (by decide) [(.ref vb), (.int (2 : Int32))] [(.ref a)] (rm_co2_2 l Z a0 hw vb _ h1 rfl A1) rfl rfl pd___BI_B rfl rfl 1 rfl (by decide) (by decide) (by decide) (by decide) (fun _ q => nomatch q) ?_
      rintro _ _ - ⟨rfl, rfl⟩
      show B.G h1 1 2 (mkF m 48 #[.val (.ref a), .val (.ref ca), .val (.int (0 : Int32)), .val (.int (2 : Int32)), .val .null, .val (.ref vb)] [(.int (0 : Int32)), (.ref a)])
      refine B.putF 51 rfl d3_48 (wd hw 27 rfl) Fc1 E1 (Or.inr ⟨(wd hw 23 rfl), rfl, rfl⟩) (wd hw 7 rfl) (ty := .byte) (by decide) rfl rfl (Or.inl (by simp)) ?_
      intro h2 W2
      have E2 := E1.wr W2
      have Fc2 := Fc1.same W2
      have Fv2 := Fv1.other W2 (Or.inr (slot_ne (Or.inr (wd hw 22 rfl)) (Or.inr (wd hw 23 rfl)) (by decide) (t := (.array .byte)) (t' := .byte) (by decide) (by decide)))
      have A2 := A1.other W2 nv
      refine B.aloadN 52 rfl d3_51 rfl rfl ?_
      refine B.aload 54 rfl d3_52 rfl rfl ?_
      refine B.putF 57 rfl d3_54 (wd hw 26 rfl) Fv2 E2 (Or.inr ⟨(wd hw 22 rfl), rfl, rfl⟩) (wd hw 7 rfl) (ty := (.array .byte)) (by decide) rfl rfl (Or.inl (by simp)) ?_
      intro h3 W3
      refine B.ret0 d3_57 (by decide) (by decide) ?_
      exact ⟨rfl, E2.wr W3, vb, Fc2.other W3 (Or.inr (slot_ne (Or.inr (wd hw 23 rfl)) (Or.inr (wd hw 22 rfl)) (by decide) (t := .byte) (t' := (.array .byte)) (by decide) (by decide))), Fv2.same W3, A2.other W3 nv⟩
  · exact absurd c5 (by decide)
set_option maxRecDepth 65536 in
set_option maxHeartbeats 4000000 in
theorem rm_st2_2 (l : Launch) (Z : State) (a0 : Array Value) (hw : ∀ d ∈ tables_1, d.before a0 Z = true) (a ca : Addr) (x0 x1 : Int32) (cs : Int32) (vf : Value) (h0 : Heap) (hcs : ¬ cs = 0) (hvf : vf.isRef = true) (S : Sta Z h0 "java/lang/String" "COMPACT_STRINGS" "Z" (.int cs)) (SA : Sta Z h0 "java/lang/StringUTF16" "$assertionsDisabled" "Z" (.int 1)) (SH : Sta Z h0 "java/lang/StringUTF16" "HI_BYTE_SHIFT" "I" (.int 0)) (SO : Sta Z h0 "java/lang/StringUTF16" "LO_BYTE_SHIFT" "I" (.int 8)) (SF : Sta Z h0 "jdk/internal/util/Preconditions" "SIOOBE_FORMATTER" "Ljava/util/function/BiFunction;" vf) (E : Exa Z h0 a "java/lang/String") (Fc : Fld Z h0 a "java/lang/String" "coder" "B" (.int 0)) (Fv : Fld Z h0 a "java/lang/String" "value" "[B" .null) (hx0 : ¬ (255 : Int32) < x0) (hx1 : ¬ (255 : Int32) < x1) (q0 : isC x0) (q1 : isC x1) (A : Ary Z h0 ca .char [(.int x0), (.int x1)]) :
    Met l Z (⟨"java/lang/String", "<init>", "([C)V"⟩ : MethodName) jdk_42_method_3_code 2 none [] ({ frames := 3, cells := 1, slots := 2, locals := 52 } : Room) #[(.ref a), (.ref ca)] h0 [a] (fun v h => v = none ∧ Exa Z h a "java/lang/String" ∧ ∃ vb, Fld Z h a "java/lang/String" "coder" "B" (.int (0 : Int32)) ∧ Fld Z h a "java/lang/String" "value" "[B" (.ref vb) ∧ Ary Z h vb .byte [(.int ((x0.toInt8.toInt32).toInt8.toInt32)), (.int ((x1.toInt8.toInt32).toInt8.toInt32))]) := by
  refine Met.walk pn_2 (Ls := #[.val (.ref a), .val (.ref ca)]) (fun m => by first | (simp [entryFrame, mkF, argsToLocals, Value.category, maxLocals]; done) | rfl) ?_
  intro p e s m below meth c B
  refine B.aloadN 1 rfl d2_0 rfl rfl ?_
  refine B.aloadN 2 rfl d2_1 rfl rfl ?_
  refine B.iconst 3 rfl (0 : Int32) d2_2 rfl ?_
  refine B.aloadN 4 rfl d2_3 rfl rfl ?_
  refine B.arrlen 5 rfl d2_4 A (2 : Int32) rfl ?_
  refine B.aconstNull 6 rfl d2_5 ?_
  refine B.callI 9 rfl d2_6 rfl (wd hw 13 rfl) (wd hw 14 rfl) (wd hw 8 rfl) (wd hw 16 rfl) (by decide) [(.ref ca), (.int (0 : Int32)), (.int (2 : Int32)), .null] [] (rm_si2_2 l Z a0 hw a ca x0 x1 cs vf h0 hcs hvf S SA SH SO SF E Fc Fv hx0 hx1 q0 q1 A) rfl rfl pd___CIILjava_lang_Void__V rfl rfl 0 rfl (by decide) (by decide) (by decide) (by decide) (fun x z => Or.inl z) ?_
  rintro _ h1 K1 ⟨rfl, q⟩
  show B.G h1 1 2 (mkF m 9 #[.val (.ref a), .val (.ref ca)] [])
  refine B.ret0 d2_9 (by decide) (by decide) ?_
  exact ⟨rfl, q⟩
set_option maxRecDepth 65536 in
set_option maxHeartbeats 4000000 in
theorem rm_cb3_0 (l : Launch) (Z : State) (a0 : Array Value) (hw : ∀ d ∈ tables_1, d.before a0 Z = true) (ca : Addr) (x0 x1 x2 : Int32) (cs : Int32) (vf : Value) (h0 : Heap) (hcs : ¬ cs = 0) (hvf : vf.isRef = true) (S : Sta Z h0 "java/lang/String" "COMPACT_STRINGS" "Z" (.int cs)) (SA : Sta Z h0 "java/lang/StringUTF16" "$assertionsDisabled" "Z" (.int 1)) (SH : Sta Z h0 "java/lang/StringUTF16" "HI_BYTE_SHIFT" "I" (.int 0)) (SO : Sta Z h0 "java/lang/StringUTF16" "LO_BYTE_SHIFT" "I" (.int 8)) (SF : Sta Z h0 "jdk/internal/util/Preconditions" "SIOOBE_FORMATTER" "Ljava/util/function/BiFunction;" vf)  (hx0 : (255 : Int32) < x0) (q0 : isC x0) (q1 : isC x1) (q2 : isC x2) (A_ca : Ary Z h0 ca .char [(.int x0), (.int x1), (.int x2)]) :
    Met l Z (⟨"java/lang/StringUTF16", "compress", "([CII)[B"⟩ : MethodName) jdk_52_method_16_code 6 (some (.array .byte)) [] ({ frames := 3, cells := 2, slots := 9, locals := 40 } : Room) #[(.ref ca), (.int (0 : Int32)), (.int (3 : Int32))] h0 [] (fun v h => ∃ vb, v = some (.ref vb) ∧ h0.size ≤ vb ∧ Ary Z h vb .byte [(.int (own_lo x0)), (.int (own_hi x0)), (.int (own_lo x1)), (.int (own_hi x1)), (.int (own_lo x2)), (.int (own_hi x2))]) := by
  refine Met.walk pn_13 (Ls := #[.val (.ref ca), .val (.int (0 : Int32)), .val (.int (3 : Int32)), .unset, .unset, .unset]) (fun m => by first | (simp [entryFrame, mkF, argsToLocals, Value.category, maxLocals]; done) | rfl) ?_
  intro p e s m below meth c B
  refine B.iloadN 1 rfl d13_0 rfl ?_
  refine B.newP 3 rfl d13_1 (wd hw 21 rfl) (by decide) 3 (by decide) (by decide) (by decide) (by decide) ?_
  intro h_vb vb e_vb g_vb X_vb A_vb
  replace A_vb : Ary Z h_vb vb .byte [(.int (0 : Int32)), (.int (0 : Int32)), (.int (0 : Int32))] := A_vb
  show B.G h_vb 1 3 (mkF m 3 #[.val (.ref ca), .val (.int (0 : Int32)), .val (.int (3 : Int32)), .unset, .unset, .unset] [(.ref vb)])
  have n_ca_vb : ca ≠ vb := fun q => absurd A_ca.lt (by rw [q, e_vb]; exact Nat.lt_irrefl _)
  have A_ca_1 := A_ca.ext X_vb
  refine B.astoreN 4 rfl d13_3 rfl #[.val (.ref ca), .val (.int (0 : Int32)), .val (.int (3 : Int32)), .val (.ref vb), .unset, .unset] rfl ?_
  refine B.aloadN 5 rfl d13_4 rfl rfl ?_
  refine B.iloadN 6 rfl d13_5 rfl ?_
  refine B.aloadN 7 rfl d13_6 rfl rfl ?_
  refine B.iconst 8 rfl (0 : Int32) d13_7 rfl ?_
  refine B.iloadN 9 rfl d13_8 rfl ?_
  refine B.callS 12 rfl d13_9 (wd hw 71 rfl) (wd hw 72 rfl) (wd hw 69 rfl) (wd hw 73 rfl) (by decide) [(.ref ca), (.int (0 : Int32)), (.ref vb), (.int (0 : Int32)), (.int (3 : Int32))] [] (rm_cp3_0 l Z a0 hw ca vb x0 x1 x2 h_vb hx0 n_ca_vb A_ca_1 A_vb) rfl rfl pd___CI_BII_I rfl rfl 0 rfl (by decide) (by decide) (by decide) (by decide) (fun x z => Or.inr (by cases List.mem_singleton.mp z; exact g_vb)) ?_
  rintro _ h2 K2 rfl
  show B.G h2 1 3 (mkF m 12 #[.val (.ref ca), .val (.int (0 : Int32)), .val (.int (3 : Int32)), .val (.ref vb), .unset, .unset] [(.int (0 : Int32))])
  have X2 : Ext h0 h2 := own_kx X_vb K2 g_vb
  have Ac2 := A_ca_1.keep K2 (ninS n_ca_vb nin0)
  refine B.istore 14 rfl d13_12 #[.val (.ref ca), .val (.int (0 : Int32)), .val (.int (3 : Int32)), .val (.ref vb), .val (.int (0 : Int32)), .unset] rfl ?_
  refine B.iload 16 rfl d13_14 rfl ?_
  refine B.iloadN 17 rfl d13_16 rfl ?_
  refine B.icmp_eq 57 20 rfl (by decide) rfl d13_17 (fun c17 => ?_) (fun c17 => ?_)
  · exact absurd c17 (by decide)
  · refine B.aloadN 21 rfl d13_20 rfl rfl ?_
    refine B.iloadN 22 rfl d13_21 rfl ?_
    refine B.iloadN 23 rfl d13_22 rfl ?_
    refine B.callS 26 rfl d13_23 (wd hw 78 rfl) (wd hw 79 rfl) (wd hw 69 rfl) (wd hw 80 rfl) (by decide) [(.ref ca), (.int (0 : Int32)), (.int (3 : Int32))] [] (rm_tb3 l Z a0 hw ca x0 x1 x2 cs vf h2 hcs hvf (S.ext X2) (SA.ext X2) (SH.ext X2) (SO.ext X2) (SF.ext X2) Ac2) rfl rfl pd___CII__B rfl rfl 0 rfl (by decide) (by decide) (by decide) (by decide) (fun _ q => nomatch q) ?_
    rintro _ h3 K3 ⟨ub, rfl, gu, Au⟩
    show B.G h3 2 9 (mkF m 26 #[.val (.ref ca), .val (.int (0 : Int32)), .val (.int (3 : Int32)), .val (.ref vb), .val (.int (0 : Int32)), .unset] [(.ref ub)])
    have X3 : Ext h0 h3 := own_ext2 X2 (own_ke K3)
    refine B.astore 28 rfl d13_26 rfl #[.val (.ref ca), .val (.int (0 : Int32)), .val (.int (3 : Int32)), .val (.ref vb), .val (.int (0 : Int32)), .val (.ref ub)] rfl ?_
    refine B.aload 30 rfl d13_28 rfl rfl ?_
    refine B.iload 32 rfl d13_30 rfl ?_
    refine B.callS 35 rfl d13_32 (wd hw 94 rfl) (wd hw 95 rfl) (wd hw 69 rfl) (wd hw 96 rfl) (by decide) [(.ref ub), (.int (0 : Int32))] [] (rm_gc0 l Z a0 hw ub x0 [(.int (own_lo x0)), (.int (own_hi x0)), (.int (own_lo x1)), (.int (own_hi x1)), (.int (own_lo x2)), (.int (own_hi x2))] cs vf h3 hcs hvf (S.ext X3) (SA.ext X3) (SH.ext X3) (SO.ext X3) (SF.ext X3) q0 Au rfl rfl) rfl rfl pd___BI_C rfl rfl 0 rfl (by decide) (by decide) (by decide) (by decide) (fun _ q => nomatch q) ?_
    rintro _ _ - ⟨rfl, rfl⟩
    show B.G h3 2 9 (mkF m 35 #[.val (.ref ca), .val (.int (0 : Int32)), .val (.int (3 : Int32)), .val (.ref vb), .val (.int (0 : Int32)), .val (.ref ub)] [(.int x0)])
    refine B.sipush 38 rfl (255 : Int32) d13_35 rfl ?_
    refine B.icmp_gt 54 41 rfl (by decide) rfl d13_38 (fun c38 => ?_) (fun c38 => ?_)
    · refine B.aload 56 rfl d13_54 rfl rfl ?_
      refine B.retA rfl rfl d13_56 (by decide) (by decide) ?_
      exact ⟨ub, rfl, Nat.le_trans X2.1 gu, Au⟩
    · exact absurd hx0 c38
set_option maxRecDepth 65536 in
set_option maxHeartbeats 4000000 in
theorem rm_co3_0 (l : Launch) (Z : State) (a0 : Array Value) (hw : ∀ d ∈ tables_1, d.before a0 Z = true) (vb : Addr) (vs : List Value) (h0 : Heap) (hn : vs.length.toInt32 = (6 : Int32)) (A : Ary Z h0 vb .byte vs) :
    Met l Z (⟨"java/lang/StringUTF16", "coderFromArrayLen", "([BI)B"⟩ : MethodName) jdk_52_method_15_code 2 (some .byte) [] ({ frames := 0, cells := 0, slots := 0, locals := 0 } : Room) #[(.ref vb), (.int (3 : Int32))] h0 [] (fun v h => v = some (.int (1 : Int32)) ∧ h0 = h) := by
  refine Met.walk pn_15 (Ls := #[.val (.ref vb), .val (.int (3 : Int32))]) (fun m => by first | (simp [entryFrame, mkF, argsToLocals, Value.category, maxLocals]; done) | rfl) ?_
  intro p e s m below meth c B
  refine B.iloadN 1 rfl d15_0 rfl ?_
  refine B.aloadN 2 rfl d15_1 rfl rfl ?_
  refine B.arrlen 3 rfl d15_2 A (6 : Int32) hn ?_
  refine B.isub 4 rfl d15_3 ?_
  refine B.topI (-3 : Int32) (by decide) ?_
  refine B.bipush 6 rfl (31 : Int32) d15_4 rfl ?_
  refine B.iushr 7 rfl d15_6 ?_
  refine B.topI (1 : Int32) (by decide) ?_
  refine B.i2b 8 rfl d15_7 ?_
  refine B.topI (1 : Int32) (by decide) ?_
  refine B.retN (by simp) d15_8 (by decide) (by decide) ?_
  exact ⟨rfl, rfl⟩
set_option maxRecDepth 65536 in
set_option maxHeartbeats 4000000 in
theorem rm_si3_0 (l : Launch) (Z : State) (a0 : Array Value) (hw : ∀ d ∈ tables_1, d.before a0 Z = true) (a ca : Addr) (x0 x1 x2 : Int32) (cs : Int32) (vf : Value) (h0 : Heap) (hcs : ¬ cs = 0) (hvf : vf.isRef = true) (S : Sta Z h0 "java/lang/String" "COMPACT_STRINGS" "Z" (.int cs)) (SA : Sta Z h0 "java/lang/StringUTF16" "$assertionsDisabled" "Z" (.int 1)) (SH : Sta Z h0 "java/lang/StringUTF16" "HI_BYTE_SHIFT" "I" (.int 0)) (SO : Sta Z h0 "java/lang/StringUTF16" "LO_BYTE_SHIFT" "I" (.int 8)) (SF : Sta Z h0 "jdk/internal/util/Preconditions" "SIOOBE_FORMATTER" "Ljava/util/function/BiFunction;" vf) (E : Exa Z h0 a "java/lang/String") (Fc : Fld Z h0 a "java/lang/String" "coder" "B" (.int 0)) (Fv : Fld Z h0 a "java/lang/String" "value" "[B" .null)  (hx0 : (255 : Int32) < x0) (q0 : isC x0) (q1 : isC x1) (q2 : isC x2) (A : Ary Z h0 ca .char [(.int x0), (.int x1), (.int x2)]) :
    Met l Z (⟨"java/lang/String", "<init>", "([CIILjava/lang/Void;)V"⟩ : MethodName) jdk_42_method_149_code 6 none [] ({ frames := 4, cells := 2, slots := 9, locals := 57 } : Room) #[(.ref a), (.ref ca), (.int (0 : Int32)), (.int (3 : Int32)), .null] h0 [a] (fun v h => v = none ∧ Exa Z h a "java/lang/String" ∧ ∃ vb, Fld Z h a "java/lang/String" "coder" "B" (.int (1 : Int32)) ∧ Fld Z h a "java/lang/String" "value" "[B" (.ref vb) ∧ Ary Z h vb .byte [(.int (own_lo x0)), (.int (own_hi x0)), (.int (own_lo x1)), (.int (own_hi x1)), (.int (own_lo x2)), (.int (own_hi x2))]) := by
  refine Met.walk pn_3 (Ls := #[.val (.ref a), .val (.ref ca), .val (.int (0 : Int32)), .val (.int (3 : Int32)), .val .null, .unset]) (fun m => by first | (simp [entryFrame, mkF, argsToLocals, Value.category, maxLocals]; done) | rfl) ?_
  intro p e s m below meth c B
  refine B.aloadN 1 rfl d3_0 rfl rfl ?_
  refine B.initO 4 rfl d3_1 (wd hw 17 rfl) (wd hw 18 rfl) (wd hw 19 rfl) rfl 0 rfl (by decide) (by decide) ?_
  refine B.iloadN 5 rfl d3_4 rfl ?_
  refine B.if0_ne 27 8 rfl (by decide) rfl d3_5 (fun c5 => ?_) (fun c5 => ?_)
  · refine B.getS 30 rfl d3_27 (wd hw 49 rfl) S ?_
    refine B.if0_eq 58 33 rfl (by decide) rfl d3_30 (fun c30 => ?_) (fun c30 => ?_)
    · exact absurd c30 hcs
    · refine B.aloadN 34 rfl d3_33 rfl rfl ?_
      refine B.iloadN 35 rfl d3_34 rfl ?_
      refine B.iloadN 36 rfl d3_35 rfl ?_
      refine B.callS 39 rfl d3_36 (wd hw 67 rfl) (wd hw 68 rfl) (wd hw 69 rfl) (wd hw 70 rfl) (by decide) [(.ref ca), (.int (0 : Int32)), (.int (3 : Int32))] [] (rm_cb3_0 l Z a0 hw ca x0 x1 x2 cs vf h0 hcs hvf S SA SH SO SF hx0 q0 q1 q2 A) rfl rfl pd___CII__B rfl rfl 0 rfl (by decide) (by decide) (by decide) (by decide) (fun _ q => nomatch q) ?_
      rintro _ h1 K1 ⟨vb, rfl, gv, A1⟩
      show B.G h1 2 9 (mkF m 39 #[.val (.ref a), .val (.ref ca), .val (.int (0 : Int32)), .val (.int (3 : Int32)), .val .null, .unset] [(.ref vb)])
      have E1 := E.keep K1
      have Fc1 := Fc.keep K1 nin0
      have Fv1 := Fv.keep K1 nin0
      have nv : vb ≠ a := fun q => absurd E.lt (by rw [← q]; exact Nat.not_lt.mpr gv)
      refine B.astore 41 rfl d3_39 rfl #[.val (.ref a), .val (.ref ca), .val (.int (0 : Int32)), .val (.int (3 : Int32)), .val .null, .val (.ref vb)] rfl ?_
      refine B.aloadN 42 rfl d3_41 rfl rfl ?_
      refine B.aload 44 rfl d3_42 rfl rfl ?_
      refine B.iloadN 45 rfl d3_44 rfl ?_
      refine B.callS 48 rfl d3_45 (wd hw 74 rfl) (wd hw 75 rfl) (wd hw 69 rfl) (wd hw 76 rfl) (by decide) [(.ref vb), (.int (3 : Int32))] [(.ref a)] (rm_co3_0 l Z a0 hw vb _ h1 rfl A1) rfl rfl pd___BI_B rfl rfl 1 rfl (by decide) (by decide) (by decide) (by decide) (fun _ q => nomatch q) ?_
      rintro _ _ - ⟨rfl, rfl⟩
      show B.G h1 2 9 (mkF m 48 #[.val (.ref a), .val (.ref ca), .val (.int (0 : Int32)), .val (.int (3 : Int32)), .val .null, .val (.ref vb)] [(.int (1 : Int32)), (.ref a)])
      refine B.putF 51 rfl d3_48 (wd hw 27 rfl) Fc1 E1 (Or.inr ⟨(wd hw 23 rfl), rfl, rfl⟩) (wd hw 7 rfl) (ty := .byte) (by decide) rfl rfl (Or.inl (by simp)) ?_
      intro h2 W2
      have E2 := E1.wr W2
      have Fc2 := Fc1.same W2
      have Fv2 := Fv1.other W2 (Or.inr (slot_ne (Or.inr (wd hw 22 rfl)) (Or.inr (wd hw 23 rfl)) (by decide) (t := (.array .byte)) (t' := .byte) (by decide) (by decide)))
      have A2 := A1.other W2 nv
      refine B.aloadN 52 rfl d3_51 rfl rfl ?_
      refine B.aload 54 rfl d3_52 rfl rfl ?_
      refine B.putF 57 rfl d3_54 (wd hw 26 rfl) Fv2 E2 (Or.inr ⟨(wd hw 22 rfl), rfl, rfl⟩) (wd hw 7 rfl) (ty := (.array .byte)) (by decide) rfl rfl (Or.inl (by simp)) ?_
      intro h3 W3
      refine B.ret0 d3_57 (by decide) (by decide) ?_
      exact ⟨rfl, E2.wr W3, vb, Fc2.other W3 (Or.inr (slot_ne (Or.inr (wd hw 23 rfl)) (Or.inr (wd hw 22 rfl)) (by decide) (t := .byte) (t' := (.array .byte)) (by decide) (by decide))), Fv2.same W3, A2.other W3 nv⟩
  · exact absurd c5 (by decide)
set_option maxRecDepth 65536 in
set_option maxHeartbeats 4000000 in
theorem rm_st3_0 (l : Launch) (Z : State) (a0 : Array Value) (hw : ∀ d ∈ tables_1, d.before a0 Z = true) (a ca : Addr) (x0 x1 x2 : Int32) (cs : Int32) (vf : Value) (h0 : Heap) (hcs : ¬ cs = 0) (hvf : vf.isRef = true) (S : Sta Z h0 "java/lang/String" "COMPACT_STRINGS" "Z" (.int cs)) (SA : Sta Z h0 "java/lang/StringUTF16" "$assertionsDisabled" "Z" (.int 1)) (SH : Sta Z h0 "java/lang/StringUTF16" "HI_BYTE_SHIFT" "I" (.int 0)) (SO : Sta Z h0 "java/lang/StringUTF16" "LO_BYTE_SHIFT" "I" (.int 8)) (SF : Sta Z h0 "jdk/internal/util/Preconditions" "SIOOBE_FORMATTER" "Ljava/util/function/BiFunction;" vf) (E : Exa Z h0 a "java/lang/String") (Fc : Fld Z h0 a "java/lang/String" "coder" "B" (.int 0)) (Fv : Fld Z h0 a "java/lang/String" "value" "[B" .null)  (hx0 : (255 : Int32) < x0) (q0 : isC x0) (q1 : isC x1) (q2 : isC x2) (A : Ary Z h0 ca .char [(.int x0), (.int x1), (.int x2)]) :
    Met l Z (⟨"java/lang/String", "<init>", "([C)V"⟩ : MethodName) jdk_42_method_3_code 2 none [] ({ frames := 5, cells := 2, slots := 9, locals := 74 } : Room) #[(.ref a), (.ref ca)] h0 [a] (fun v h => v = none ∧ Exa Z h a "java/lang/String" ∧ ∃ vb, Fld Z h a "java/lang/String" "coder" "B" (.int (1 : Int32)) ∧ Fld Z h a "java/lang/String" "value" "[B" (.ref vb) ∧ Ary Z h vb .byte [(.int (own_lo x0)), (.int (own_hi x0)), (.int (own_lo x1)), (.int (own_hi x1)), (.int (own_lo x2)), (.int (own_hi x2))]) := by
  refine Met.walk pn_2 (Ls := #[.val (.ref a), .val (.ref ca)]) (fun m => by first | (simp [entryFrame, mkF, argsToLocals, Value.category, maxLocals]; done) | rfl) ?_
  intro p e s m below meth c B
  refine B.aloadN 1 rfl d2_0 rfl rfl ?_
  refine B.aloadN 2 rfl d2_1 rfl rfl ?_
  refine B.iconst 3 rfl (0 : Int32) d2_2 rfl ?_
  refine B.aloadN 4 rfl d2_3 rfl rfl ?_
  refine B.arrlen 5 rfl d2_4 A (3 : Int32) rfl ?_
  refine B.aconstNull 6 rfl d2_5 ?_
  refine B.callI 9 rfl d2_6 rfl (wd hw 13 rfl) (wd hw 14 rfl) (wd hw 8 rfl) (wd hw 16 rfl) (by decide) [(.ref ca), (.int (0 : Int32)), (.int (3 : Int32)), .null] [] (rm_si3_0 l Z a0 hw a ca x0 x1 x2 cs vf h0 hcs hvf S SA SH SO SF E Fc Fv hx0 q0 q1 q2 A) rfl rfl pd___CIILjava_lang_Void__V rfl rfl 0 rfl (by decide) (by decide) (by decide) (by decide) (fun x z => Or.inl z) ?_
  rintro _ h1 K1 ⟨rfl, q⟩
  show B.G h1 2 9 (mkF m 9 #[.val (.ref a), .val (.ref ca)] [])
  refine B.ret0 d2_9 (by decide) (by decide) ?_
  exact ⟨rfl, q⟩
set_option maxRecDepth 65536 in
set_option maxHeartbeats 4000000 in
theorem rm_cb3_1 (l : Launch) (Z : State) (a0 : Array Value) (hw : ∀ d ∈ tables_1, d.before a0 Z = true) (ca : Addr) (x0 x1 x2 : Int32) (cs : Int32) (vf : Value) (h0 : Heap) (hcs : ¬ cs = 0) (hvf : vf.isRef = true) (S : Sta Z h0 "java/lang/String" "COMPACT_STRINGS" "Z" (.int cs)) (SA : Sta Z h0 "java/lang/StringUTF16" "$assertionsDisabled" "Z" (.int 1)) (SH : Sta Z h0 "java/lang/StringUTF16" "HI_BYTE_SHIFT" "I" (.int 0)) (SO : Sta Z h0 "java/lang/StringUTF16" "LO_BYTE_SHIFT" "I" (.int 8)) (SF : Sta Z h0 "jdk/internal/util/Preconditions" "SIOOBE_FORMATTER" "Ljava/util/function/BiFunction;" vf) (hx0 : ¬ (255 : Int32) < x0) (hx1 : (255 : Int32) < x1) (q0 : isC x0) (q1 : isC x1) (q2 : isC x2) (A_ca : Ary Z h0 ca .char [(.int x0), (.int x1), (.int x2)]) :
    Met l Z (⟨"java/lang/StringUTF16", "compress", "([CII)[B"⟩ : MethodName) jdk_52_method_16_code 6 (some (.array .byte)) [] ({ frames := 3, cells := 2, slots := 9, locals := 40 } : Room) #[(.ref ca), (.int (0 : Int32)), (.int (3 : Int32))] h0 [] (fun v h => ∃ vb, v = some (.ref vb) ∧ h0.size ≤ vb ∧ Ary Z h vb .byte [(.int (own_lo x0)), (.int (own_hi x0)), (.int (own_lo x1)), (.int (own_hi x1)), (.int (own_lo x2)), (.int (own_hi x2))]) := by
  refine Met.walk pn_13 (Ls := #[.val (.ref ca), .val (.int (0 : Int32)), .val (.int (3 : Int32)), .unset, .unset, .unset]) (fun m => by first | (simp [entryFrame, mkF, argsToLocals, Value.category, maxLocals]; done) | rfl) ?_
  intro p e s m below meth c B
  refine B.iloadN 1 rfl d13_0 rfl ?_
  refine B.newP 3 rfl d13_1 (wd hw 21 rfl) (by decide) 3 (by decide) (by decide) (by decide) (by decide) ?_
  intro h_vb vb e_vb g_vb X_vb A_vb
  replace A_vb : Ary Z h_vb vb .byte [(.int (0 : Int32)), (.int (0 : Int32)), (.int (0 : Int32))] := A_vb
  show B.G h_vb 1 3 (mkF m 3 #[.val (.ref ca), .val (.int (0 : Int32)), .val (.int (3 : Int32)), .unset, .unset, .unset] [(.ref vb)])
  have n_ca_vb : ca ≠ vb := fun q => absurd A_ca.lt (by rw [q, e_vb]; exact Nat.lt_irrefl _)
  have A_ca_1 := A_ca.ext X_vb
  refine B.astoreN 4 rfl d13_3 rfl #[.val (.ref ca), .val (.int (0 : Int32)), .val (.int (3 : Int32)), .val (.ref vb), .unset, .unset] rfl ?_
  refine B.aloadN 5 rfl d13_4 rfl rfl ?_
  refine B.iloadN 6 rfl d13_5 rfl ?_
  refine B.aloadN 7 rfl d13_6 rfl rfl ?_
  refine B.iconst 8 rfl (0 : Int32) d13_7 rfl ?_
  refine B.iloadN 9 rfl d13_8 rfl ?_
  refine B.callS 12 rfl d13_9 (wd hw 71 rfl) (wd hw 72 rfl) (wd hw 69 rfl) (wd hw 73 rfl) (by decide) [(.ref ca), (.int (0 : Int32)), (.ref vb), (.int (0 : Int32)), (.int (3 : Int32))] [] (rm_cp3_1 l Z a0 hw ca vb x0 x1 x2 h_vb hx0 hx1 n_ca_vb A_ca_1 A_vb) rfl rfl pd___CI_BII_I rfl rfl 0 rfl (by decide) (by decide) (by decide) (by decide) (fun x z => Or.inr (by cases List.mem_singleton.mp z; exact g_vb)) ?_
  rintro _ h2 K2 rfl
  show B.G h2 1 3 (mkF m 12 #[.val (.ref ca), .val (.int (0 : Int32)), .val (.int (3 : Int32)), .val (.ref vb), .unset, .unset] [(.int (1 : Int32))])
  have X2 : Ext h0 h2 := own_kx X_vb K2 g_vb
  have Ac2 := A_ca_1.keep K2 (ninS n_ca_vb nin0)
  refine B.istore 14 rfl d13_12 #[.val (.ref ca), .val (.int (0 : Int32)), .val (.int (3 : Int32)), .val (.ref vb), .val (.int (1 : Int32)), .unset] rfl ?_
  refine B.iload 16 rfl d13_14 rfl ?_
  refine B.iloadN 17 rfl d13_16 rfl ?_
  refine B.icmp_eq 57 20 rfl (by decide) rfl d13_17 (fun c17 => ?_) (fun c17 => ?_)
  · exact absurd c17 (by decide)
  · refine B.aloadN 21 rfl d13_20 rfl rfl ?_
    refine B.iloadN 22 rfl d13_21 rfl ?_
    refine B.iloadN 23 rfl d13_22 rfl ?_
    refine B.callS 26 rfl d13_23 (wd hw 78 rfl) (wd hw 79 rfl) (wd hw 69 rfl) (wd hw 80 rfl) (by decide) [(.ref ca), (.int (0 : Int32)), (.int (3 : Int32))] [] (rm_tb3 l Z a0 hw ca x0 x1 x2 cs vf h2 hcs hvf (S.ext X2) (SA.ext X2) (SH.ext X2) (SO.ext X2) (SF.ext X2) Ac2) rfl rfl pd___CII__B rfl rfl 0 rfl (by decide) (by decide) (by decide) (by decide) (fun _ q => nomatch q) ?_
    rintro _ h3 K3 ⟨ub, rfl, gu, Au⟩
    show B.G h3 2 9 (mkF m 26 #[.val (.ref ca), .val (.int (0 : Int32)), .val (.int (3 : Int32)), .val (.ref vb), .val (.int (1 : Int32)), .unset] [(.ref ub)])
    have X3 : Ext h0 h3 := own_ext2 X2 (own_ke K3)
    refine B.astore 28 rfl d13_26 rfl #[.val (.ref ca), .val (.int (0 : Int32)), .val (.int (3 : Int32)), .val (.ref vb), .val (.int (1 : Int32)), .val (.ref ub)] rfl ?_
    refine B.aload 30 rfl d13_28 rfl rfl ?_
    refine B.iload 32 rfl d13_30 rfl ?_
    refine B.callS 35 rfl d13_32 (wd hw 94 rfl) (wd hw 95 rfl) (wd hw 69 rfl) (wd hw 96 rfl) (by decide) [(.ref ub), (.int (1 : Int32))] [] (rm_gc1 l Z a0 hw ub x1 [(.int (own_lo x0)), (.int (own_hi x0)), (.int (own_lo x1)), (.int (own_hi x1)), (.int (own_lo x2)), (.int (own_hi x2))] cs vf h3 hcs hvf (S.ext X3) (SA.ext X3) (SH.ext X3) (SO.ext X3) (SF.ext X3) q1 Au rfl rfl) rfl rfl pd___BI_C rfl rfl 0 rfl (by decide) (by decide) (by decide) (by decide) (fun _ q => nomatch q) ?_
    rintro _ _ - ⟨rfl, rfl⟩
    show B.G h3 2 9 (mkF m 35 #[.val (.ref ca), .val (.int (0 : Int32)), .val (.int (3 : Int32)), .val (.ref vb), .val (.int (1 : Int32)), .val (.ref ub)] [(.int x1)])
    refine B.sipush 38 rfl (255 : Int32) d13_35 rfl ?_
    refine B.icmp_gt 54 41 rfl (by decide) rfl d13_38 (fun c38 => ?_) (fun c38 => ?_)
    · refine B.aload 56 rfl d13_54 rfl rfl ?_
      refine B.retA rfl rfl d13_56 (by decide) (by decide) ?_
      exact ⟨ub, rfl, Nat.le_trans X2.1 gu, Au⟩
    · exact absurd hx1 c38
set_option maxRecDepth 65536 in
set_option maxHeartbeats 4000000 in
theorem rm_co3_1 (l : Launch) (Z : State) (a0 : Array Value) (hw : ∀ d ∈ tables_1, d.before a0 Z = true) (vb : Addr) (vs : List Value) (h0 : Heap) (hn : vs.length.toInt32 = (6 : Int32)) (A : Ary Z h0 vb .byte vs) :
    Met l Z (⟨"java/lang/StringUTF16", "coderFromArrayLen", "([BI)B"⟩ : MethodName) jdk_52_method_15_code 2 (some .byte) [] ({ frames := 0, cells := 0, slots := 0, locals := 0 } : Room) #[(.ref vb), (.int (3 : Int32))] h0 [] (fun v h => v = some (.int (1 : Int32)) ∧ h0 = h) := by
  refine Met.walk pn_15 (Ls := #[.val (.ref vb), .val (.int (3 : Int32))]) (fun m => by first | (simp [entryFrame, mkF, argsToLocals, Value.category, maxLocals]; done) | rfl) ?_
  intro p e s m below meth c B
  refine B.iloadN 1 rfl d15_0 rfl ?_
  refine B.aloadN 2 rfl d15_1 rfl rfl ?_
  refine B.arrlen 3 rfl d15_2 A (6 : Int32) hn ?_
  refine B.isub 4 rfl d15_3 ?_
  refine B.topI (-3 : Int32) (by decide) ?_
  refine B.bipush 6 rfl (31 : Int32) d15_4 rfl ?_
  refine B.iushr 7 rfl d15_6 ?_
  refine B.topI (1 : Int32) (by decide) ?_
  refine B.i2b 8 rfl d15_7 ?_
  refine B.topI (1 : Int32) (by decide) ?_
  refine B.retN (by simp) d15_8 (by decide) (by decide) ?_
  exact ⟨rfl, rfl⟩
set_option maxRecDepth 65536 in
set_option maxHeartbeats 4000000 in
theorem rm_si3_1 (l : Launch) (Z : State) (a0 : Array Value) (hw : ∀ d ∈ tables_1, d.before a0 Z = true) (a ca : Addr) (x0 x1 x2 : Int32) (cs : Int32) (vf : Value) (h0 : Heap) (hcs : ¬ cs = 0) (hvf : vf.isRef = true) (S : Sta Z h0 "java/lang/String" "COMPACT_STRINGS" "Z" (.int cs)) (SA : Sta Z h0 "java/lang/StringUTF16" "$assertionsDisabled" "Z" (.int 1)) (SH : Sta Z h0 "java/lang/StringUTF16" "HI_BYTE_SHIFT" "I" (.int 0)) (SO : Sta Z h0 "java/lang/StringUTF16" "LO_BYTE_SHIFT" "I" (.int 8)) (SF : Sta Z h0 "jdk/internal/util/Preconditions" "SIOOBE_FORMATTER" "Ljava/util/function/BiFunction;" vf) (E : Exa Z h0 a "java/lang/String") (Fc : Fld Z h0 a "java/lang/String" "coder" "B" (.int 0)) (Fv : Fld Z h0 a "java/lang/String" "value" "[B" .null) (hx0 : ¬ (255 : Int32) < x0) (hx1 : (255 : Int32) < x1) (q0 : isC x0) (q1 : isC x1) (q2 : isC x2) (A : Ary Z h0 ca .char [(.int x0), (.int x1), (.int x2)]) :
    Met l Z (⟨"java/lang/String", "<init>", "([CIILjava/lang/Void;)V"⟩ : MethodName) jdk_42_method_149_code 6 none [] ({ frames := 4, cells := 2, slots := 9, locals := 57 } : Room) #[(.ref a), (.ref ca), (.int (0 : Int32)), (.int (3 : Int32)), .null] h0 [a] (fun v h => v = none ∧ Exa Z h a "java/lang/String" ∧ ∃ vb, Fld Z h a "java/lang/String" "coder" "B" (.int (1 : Int32)) ∧ Fld Z h a "java/lang/String" "value" "[B" (.ref vb) ∧ Ary Z h vb .byte [(.int (own_lo x0)), (.int (own_hi x0)), (.int (own_lo x1)), (.int (own_hi x1)), (.int (own_lo x2)), (.int (own_hi x2))]) := by
  refine Met.walk pn_3 (Ls := #[.val (.ref a), .val (.ref ca), .val (.int (0 : Int32)), .val (.int (3 : Int32)), .val .null, .unset]) (fun m => by first | (simp [entryFrame, mkF, argsToLocals, Value.category, maxLocals]; done) | rfl) ?_
  intro p e s m below meth c B
  refine B.aloadN 1 rfl d3_0 rfl rfl ?_
  refine B.initO 4 rfl d3_1 (wd hw 17 rfl) (wd hw 18 rfl) (wd hw 19 rfl) rfl 0 rfl (by decide) (by decide) ?_
  refine B.iloadN 5 rfl d3_4 rfl ?_
  refine B.if0_ne 27 8 rfl (by decide) rfl d3_5 (fun c5 => ?_) (fun c5 => ?_)
  · refine B.getS 30 rfl d3_27 (wd hw 49 rfl) S ?_
    refine B.if0_eq 58 33 rfl (by decide) rfl d3_30 (fun c30 => ?_) (fun c30 => ?_)
    · exact absurd c30 hcs
    · refine B.aloadN 34 rfl d3_33 rfl rfl ?_
      refine B.iloadN 35 rfl d3_34 rfl ?_
      refine B.iloadN 36 rfl d3_35 rfl ?_
      refine B.callS 39 rfl d3_36 (wd hw 67 rfl) (wd hw 68 rfl) (wd hw 69 rfl) (wd hw 70 rfl) (by decide) [(.ref ca), (.int (0 : Int32)), (.int (3 : Int32))] [] (rm_cb3_1 l Z a0 hw ca x0 x1 x2 cs vf h0 hcs hvf S SA SH SO SF hx0 hx1 q0 q1 q2 A) rfl rfl pd___CII__B rfl rfl 0 rfl (by decide) (by decide) (by decide) (by decide) (fun _ q => nomatch q) ?_
      rintro _ h1 K1 ⟨vb, rfl, gv, A1⟩
      show B.G h1 2 9 (mkF m 39 #[.val (.ref a), .val (.ref ca), .val (.int (0 : Int32)), .val (.int (3 : Int32)), .val .null, .unset] [(.ref vb)])
      have E1 := E.keep K1
      have Fc1 := Fc.keep K1 nin0
      have Fv1 := Fv.keep K1 nin0
      have nv : vb ≠ a := fun q => absurd E.lt (by rw [← q]; exact Nat.not_lt.mpr gv)
      refine B.astore 41 rfl d3_39 rfl #[.val (.ref a), .val (.ref ca), .val (.int (0 : Int32)), .val (.int (3 : Int32)), .val .null, .val (.ref vb)] rfl ?_
      refine B.aloadN 42 rfl d3_41 rfl rfl ?_
      refine B.aload 44 rfl d3_42 rfl rfl ?_
      refine B.iloadN 45 rfl d3_44 rfl ?_
      refine B.callS 48 rfl d3_45 (wd hw 74 rfl) (wd hw 75 rfl) (wd hw 69 rfl) (wd hw 76 rfl) (by decide) [(.ref vb), (.int (3 : Int32))] [(.ref a)] (rm_co3_1 l Z a0 hw vb _ h1 rfl A1) rfl rfl pd___BI_B rfl rfl 1 rfl (by decide) (by decide) (by decide) (by decide) (fun _ q => nomatch q) ?_
      rintro _ _ - ⟨rfl, rfl⟩
      show B.G h1 2 9 (mkF m 48 #[.val (.ref a), .val (.ref ca), .val (.int (0 : Int32)), .val (.int (3 : Int32)), .val .null, .val (.ref vb)] [(.int (1 : Int32)), (.ref a)])
      refine B.putF 51 rfl d3_48 (wd hw 27 rfl) Fc1 E1 (Or.inr ⟨(wd hw 23 rfl), rfl, rfl⟩) (wd hw 7 rfl) (ty := .byte) (by decide) rfl rfl (Or.inl (by simp)) ?_
      intro h2 W2
      have E2 := E1.wr W2
      have Fc2 := Fc1.same W2
      have Fv2 := Fv1.other W2 (Or.inr (slot_ne (Or.inr (wd hw 22 rfl)) (Or.inr (wd hw 23 rfl)) (by decide) (t := (.array .byte)) (t' := .byte) (by decide) (by decide)))
      have A2 := A1.other W2 nv
      refine B.aloadN 52 rfl d3_51 rfl rfl ?_
      refine B.aload 54 rfl d3_52 rfl rfl ?_
      refine B.putF 57 rfl d3_54 (wd hw 26 rfl) Fv2 E2 (Or.inr ⟨(wd hw 22 rfl), rfl, rfl⟩) (wd hw 7 rfl) (ty := (.array .byte)) (by decide) rfl rfl (Or.inl (by simp)) ?_
      intro h3 W3
      refine B.ret0 d3_57 (by decide) (by decide) ?_
      exact ⟨rfl, E2.wr W3, vb, Fc2.other W3 (Or.inr (slot_ne (Or.inr (wd hw 23 rfl)) (Or.inr (wd hw 22 rfl)) (by decide) (t := .byte) (t' := (.array .byte)) (by decide) (by decide))), Fv2.same W3, A2.other W3 nv⟩
  · exact absurd c5 (by decide)
set_option maxRecDepth 65536 in
set_option maxHeartbeats 4000000 in
theorem rm_st3_1 (l : Launch) (Z : State) (a0 : Array Value) (hw : ∀ d ∈ tables_1, d.before a0 Z = true) (a ca : Addr) (x0 x1 x2 : Int32) (cs : Int32) (vf : Value) (h0 : Heap) (hcs : ¬ cs = 0) (hvf : vf.isRef = true) (S : Sta Z h0 "java/lang/String" "COMPACT_STRINGS" "Z" (.int cs)) (SA : Sta Z h0 "java/lang/StringUTF16" "$assertionsDisabled" "Z" (.int 1)) (SH : Sta Z h0 "java/lang/StringUTF16" "HI_BYTE_SHIFT" "I" (.int 0)) (SO : Sta Z h0 "java/lang/StringUTF16" "LO_BYTE_SHIFT" "I" (.int 8)) (SF : Sta Z h0 "jdk/internal/util/Preconditions" "SIOOBE_FORMATTER" "Ljava/util/function/BiFunction;" vf) (E : Exa Z h0 a "java/lang/String") (Fc : Fld Z h0 a "java/lang/String" "coder" "B" (.int 0)) (Fv : Fld Z h0 a "java/lang/String" "value" "[B" .null) (hx0 : ¬ (255 : Int32) < x0) (hx1 : (255 : Int32) < x1) (q0 : isC x0) (q1 : isC x1) (q2 : isC x2) (A : Ary Z h0 ca .char [(.int x0), (.int x1), (.int x2)]) :
    Met l Z (⟨"java/lang/String", "<init>", "([C)V"⟩ : MethodName) jdk_42_method_3_code 2 none [] ({ frames := 5, cells := 2, slots := 9, locals := 74 } : Room) #[(.ref a), (.ref ca)] h0 [a] (fun v h => v = none ∧ Exa Z h a "java/lang/String" ∧ ∃ vb, Fld Z h a "java/lang/String" "coder" "B" (.int (1 : Int32)) ∧ Fld Z h a "java/lang/String" "value" "[B" (.ref vb) ∧ Ary Z h vb .byte [(.int (own_lo x0)), (.int (own_hi x0)), (.int (own_lo x1)), (.int (own_hi x1)), (.int (own_lo x2)), (.int (own_hi x2))]) := by
  refine Met.walk pn_2 (Ls := #[.val (.ref a), .val (.ref ca)]) (fun m => by first | (simp [entryFrame, mkF, argsToLocals, Value.category, maxLocals]; done) | rfl) ?_
  intro p e s m below meth c B
  refine B.aloadN 1 rfl d2_0 rfl rfl ?_
  refine B.aloadN 2 rfl d2_1 rfl rfl ?_
  refine B.iconst 3 rfl (0 : Int32) d2_2 rfl ?_
  refine B.aloadN 4 rfl d2_3 rfl rfl ?_
  refine B.arrlen 5 rfl d2_4 A (3 : Int32) rfl ?_
  refine B.aconstNull 6 rfl d2_5 ?_
  refine B.callI 9 rfl d2_6 rfl (wd hw 13 rfl) (wd hw 14 rfl) (wd hw 8 rfl) (wd hw 16 rfl) (by decide) [(.ref ca), (.int (0 : Int32)), (.int (3 : Int32)), .null] [] (rm_si3_1 l Z a0 hw a ca x0 x1 x2 cs vf h0 hcs hvf S SA SH SO SF E Fc Fv hx0 hx1 q0 q1 q2 A) rfl rfl pd___CIILjava_lang_Void__V rfl rfl 0 rfl (by decide) (by decide) (by decide) (by decide) (fun x z => Or.inl z) ?_
  rintro _ h1 K1 ⟨rfl, q⟩
  show B.G h1 2 9 (mkF m 9 #[.val (.ref a), .val (.ref ca)] [])
  refine B.ret0 d2_9 (by decide) (by decide) ?_
  exact ⟨rfl, q⟩
set_option maxRecDepth 65536 in
set_option maxHeartbeats 4000000 in
theorem rm_cb3_2 (l : Launch) (Z : State) (a0 : Array Value) (hw : ∀ d ∈ tables_1, d.before a0 Z = true) (ca : Addr) (x0 x1 x2 : Int32) (cs : Int32) (vf : Value) (h0 : Heap) (hcs : ¬ cs = 0) (hvf : vf.isRef = true) (S : Sta Z h0 "java/lang/String" "COMPACT_STRINGS" "Z" (.int cs)) (SA : Sta Z h0 "java/lang/StringUTF16" "$assertionsDisabled" "Z" (.int 1)) (SH : Sta Z h0 "java/lang/StringUTF16" "HI_BYTE_SHIFT" "I" (.int 0)) (SO : Sta Z h0 "java/lang/StringUTF16" "LO_BYTE_SHIFT" "I" (.int 8)) (SF : Sta Z h0 "jdk/internal/util/Preconditions" "SIOOBE_FORMATTER" "Ljava/util/function/BiFunction;" vf) (hx0 : ¬ (255 : Int32) < x0) (hx1 : ¬ (255 : Int32) < x1) (hx2 : (255 : Int32) < x2) (q0 : isC x0) (q1 : isC x1) (q2 : isC x2) (A_ca : Ary Z h0 ca .char [(.int x0), (.int x1), (.int x2)]) :
    Met l Z (⟨"java/lang/StringUTF16", "compress", "([CII)[B"⟩ : MethodName) jdk_52_method_16_code 6 (some (.array .byte)) [] ({ frames := 3, cells := 2, slots := 9, locals := 40 } : Room) #[(.ref ca), (.int (0 : Int32)), (.int (3 : Int32))] h0 [] (fun v h => ∃ vb, v = some (.ref vb) ∧ h0.size ≤ vb ∧ Ary Z h vb .byte [(.int (own_lo x0)), (.int (own_hi x0)), (.int (own_lo x1)), (.int (own_hi x1)), (.int (own_lo x2)), (.int (own_hi x2))]) := by
  refine Met.walk pn_13 (Ls := #[.val (.ref ca), .val (.int (0 : Int32)), .val (.int (3 : Int32)), .unset, .unset, .unset]) (fun m => by first | (simp [entryFrame, mkF, argsToLocals, Value.category, maxLocals]; done) | rfl) ?_
  intro p e s m below meth c B
  refine B.iloadN 1 rfl d13_0 rfl ?_
  refine B.newP 3 rfl d13_1 (wd hw 21 rfl) (by decide) 3 (by decide) (by decide) (by decide) (by decide) ?_
  intro h_vb vb e_vb g_vb X_vb A_vb
  replace A_vb : Ary Z h_vb vb .byte [(.int (0 : Int32)), (.int (0 : Int32)), (.int (0 : Int32))] := A_vb
  show B.G h_vb 1 3 (mkF m 3 #[.val (.ref ca), .val (.int (0 : Int32)), .val (.int (3 : Int32)), .unset, .unset, .unset] [(.ref vb)])
  have n_ca_vb : ca ≠ vb := fun q => absurd A_ca.lt (by rw [q, e_vb]; exact Nat.lt_irrefl _)
  have A_ca_1 := A_ca.ext X_vb
  refine B.astoreN 4 rfl d13_3 rfl #[.val (.ref ca), .val (.int (0 : Int32)), .val (.int (3 : Int32)), .val (.ref vb), .unset, .unset] rfl ?_
  refine B.aloadN 5 rfl d13_4 rfl rfl ?_
  refine B.iloadN 6 rfl d13_5 rfl ?_
  refine B.aloadN 7 rfl d13_6 rfl rfl ?_
  refine B.iconst 8 rfl (0 : Int32) d13_7 rfl ?_
  refine B.iloadN 9 rfl d13_8 rfl ?_
  refine B.callS 12 rfl d13_9 (wd hw 71 rfl) (wd hw 72 rfl) (wd hw 69 rfl) (wd hw 73 rfl) (by decide) [(.ref ca), (.int (0 : Int32)), (.ref vb), (.int (0 : Int32)), (.int (3 : Int32))] [] (rm_cp3_2 l Z a0 hw ca vb x0 x1 x2 h_vb hx0 hx1 hx2 n_ca_vb A_ca_1 A_vb) rfl rfl pd___CI_BII_I rfl rfl 0 rfl (by decide) (by decide) (by decide) (by decide) (fun x z => Or.inr (by cases List.mem_singleton.mp z; exact g_vb)) ?_
  rintro _ h2 K2 rfl
  show B.G h2 1 3 (mkF m 12 #[.val (.ref ca), .val (.int (0 : Int32)), .val (.int (3 : Int32)), .val (.ref vb), .unset, .unset] [(.int (2 : Int32))])
  have X2 : Ext h0 h2 := own_kx X_vb K2 g_vb
  have Ac2 := A_ca_1.keep K2 (ninS n_ca_vb nin0)
  refine B.istore 14 rfl d13_12 #[.val (.ref ca), .val (.int (0 : Int32)), .val (.int (3 : Int32)), .val (.ref vb), .val (.int (2 : Int32)), .unset] rfl ?_
  refine B.iload 16 rfl d13_14 rfl ?_
  refine B.iloadN 17 rfl d13_16 rfl ?_
  refine B.icmp_eq 57 20 rfl (by decide) rfl d13_17 (fun c17 => ?_) (fun c17 => ?_)
  · exact absurd c17 (by decide)
  · refine B.aloadN 21 rfl d13_20 rfl rfl ?_
    refine B.iloadN 22 rfl d13_21 rfl ?_
    refine B.iloadN 23 rfl d13_22 rfl ?_
    refine B.callS 26 rfl d13_23 (wd hw 78 rfl) (wd hw 79 rfl) (wd hw 69 rfl) (wd hw 80 rfl) (by decide) [(.ref ca), (.int (0 : Int32)), (.int (3 : Int32))] [] (rm_tb3 l Z a0 hw ca x0 x1 x2 cs vf h2 hcs hvf (S.ext X2) (SA.ext X2) (SH.ext X2) (SO.ext X2) (SF.ext X2) Ac2) rfl rfl pd___CII__B rfl rfl 0 rfl (by decide) (by decide) (by decide) (by decide) (fun _ q => nomatch q) ?_
    rintro _ h3 K3 ⟨ub, rfl, gu, Au⟩
    show B.G h3 2 9 (mkF m 26 #[.val (.ref ca), .val (.int (0 : Int32)), .val (.int (3 : Int32)), .val (.ref vb), .val (.int (2 : Int32)), .unset] [(.ref ub)])
    have X3 : Ext h0 h3 := own_ext2 X2 (own_ke K3)
    refine B.astore 28 rfl d13_26 rfl #[.val (.ref ca), .val (.int (0 : Int32)), .val (.int (3 : Int32)), .val (.ref vb), .val (.int (2 : Int32)), .val (.ref ub)] rfl ?_
    refine B.aload 30 rfl d13_28 rfl rfl ?_
    refine B.iload 32 rfl d13_30 rfl ?_
    refine B.callS 35 rfl d13_32 (wd hw 94 rfl) (wd hw 95 rfl) (wd hw 69 rfl) (wd hw 96 rfl) (by decide) [(.ref ub), (.int (2 : Int32))] [] (rm_gc2 l Z a0 hw ub x2 [(.int (own_lo x0)), (.int (own_hi x0)), (.int (own_lo x1)), (.int (own_hi x1)), (.int (own_lo x2)), (.int (own_hi x2))] cs vf h3 hcs hvf (S.ext X3) (SA.ext X3) (SH.ext X3) (SO.ext X3) (SF.ext X3) q2 Au rfl rfl) rfl rfl pd___BI_C rfl rfl 0 rfl (by decide) (by decide) (by decide) (by decide) (fun _ q => nomatch q) ?_
    rintro _ _ - ⟨rfl, rfl⟩
    show B.G h3 2 9 (mkF m 35 #[.val (.ref ca), .val (.int (0 : Int32)), .val (.int (3 : Int32)), .val (.ref vb), .val (.int (2 : Int32)), .val (.ref ub)] [(.int x2)])
    refine B.sipush 38 rfl (255 : Int32) d13_35 rfl ?_
    refine B.icmp_gt 54 41 rfl (by decide) rfl d13_38 (fun c38 => ?_) (fun c38 => ?_)
    · refine B.aload 56 rfl d13_54 rfl rfl ?_
      refine B.retA rfl rfl d13_56 (by decide) (by decide) ?_
      exact ⟨ub, rfl, Nat.le_trans X2.1 gu, Au⟩
    · exact absurd hx2 c38
set_option maxRecDepth 65536 in
set_option maxHeartbeats 4000000 in
theorem rm_co3_2 (l : Launch) (Z : State) (a0 : Array Value) (hw : ∀ d ∈ tables_1, d.before a0 Z = true) (vb : Addr) (vs : List Value) (h0 : Heap) (hn : vs.length.toInt32 = (6 : Int32)) (A : Ary Z h0 vb .byte vs) :
    Met l Z (⟨"java/lang/StringUTF16", "coderFromArrayLen", "([BI)B"⟩ : MethodName) jdk_52_method_15_code 2 (some .byte) [] ({ frames := 0, cells := 0, slots := 0, locals := 0 } : Room) #[(.ref vb), (.int (3 : Int32))] h0 [] (fun v h => v = some (.int (1 : Int32)) ∧ h0 = h) := by
  refine Met.walk pn_15 (Ls := #[.val (.ref vb), .val (.int (3 : Int32))]) (fun m => by first | (simp [entryFrame, mkF, argsToLocals, Value.category, maxLocals]; done) | rfl) ?_
  intro p e s m below meth c B
  refine B.iloadN 1 rfl d15_0 rfl ?_
  refine B.aloadN 2 rfl d15_1 rfl rfl ?_
  refine B.arrlen 3 rfl d15_2 A (6 : Int32) hn ?_
  refine B.isub 4 rfl d15_3 ?_
  refine B.topI (-3 : Int32) (by decide) ?_
  refine B.bipush 6 rfl (31 : Int32) d15_4 rfl ?_
  refine B.iushr 7 rfl d15_6 ?_
  refine B.topI (1 : Int32) (by decide) ?_
  refine B.i2b 8 rfl d15_7 ?_
  refine B.topI (1 : Int32) (by decide) ?_
  refine B.retN (by simp) d15_8 (by decide) (by decide) ?_
  exact ⟨rfl, rfl⟩
set_option maxRecDepth 65536 in
set_option maxHeartbeats 4000000 in
theorem rm_si3_2 (l : Launch) (Z : State) (a0 : Array Value) (hw : ∀ d ∈ tables_1, d.before a0 Z = true) (a ca : Addr) (x0 x1 x2 : Int32) (cs : Int32) (vf : Value) (h0 : Heap) (hcs : ¬ cs = 0) (hvf : vf.isRef = true) (S : Sta Z h0 "java/lang/String" "COMPACT_STRINGS" "Z" (.int cs)) (SA : Sta Z h0 "java/lang/StringUTF16" "$assertionsDisabled" "Z" (.int 1)) (SH : Sta Z h0 "java/lang/StringUTF16" "HI_BYTE_SHIFT" "I" (.int 0)) (SO : Sta Z h0 "java/lang/StringUTF16" "LO_BYTE_SHIFT" "I" (.int 8)) (SF : Sta Z h0 "jdk/internal/util/Preconditions" "SIOOBE_FORMATTER" "Ljava/util/function/BiFunction;" vf) (E : Exa Z h0 a "java/lang/String") (Fc : Fld Z h0 a "java/lang/String" "coder" "B" (.int 0)) (Fv : Fld Z h0 a "java/lang/String" "value" "[B" .null) (hx0 : ¬ (255 : Int32) < x0) (hx1 : ¬ (255 : Int32) < x1) (hx2 : (255 : Int32) < x2) (q0 : isC x0) (q1 : isC x1) (q2 : isC x2) (A : Ary Z h0 ca .char [(.int x0), (.int x1), (.int x2)]) :
    Met l Z (⟨"java/lang/String", "<init>", "([CIILjava/lang/Void;)V"⟩ : MethodName) jdk_42_method_149_code 6 none [] ({ frames := 4, cells := 2, slots := 9, locals := 57 } : Room) #[(.ref a), (.ref ca), (.int (0 : Int32)), (.int (3 : Int32)), .null] h0 [a] (fun v h => v = none ∧ Exa Z h a "java/lang/String" ∧ ∃ vb, Fld Z h a "java/lang/String" "coder" "B" (.int (1 : Int32)) ∧ Fld Z h a "java/lang/String" "value" "[B" (.ref vb) ∧ Ary Z h vb .byte [(.int (own_lo x0)), (.int (own_hi x0)), (.int (own_lo x1)), (.int (own_hi x1)), (.int (own_lo x2)), (.int (own_hi x2))]) := by
  refine Met.walk pn_3 (Ls := #[.val (.ref a), .val (.ref ca), .val (.int (0 : Int32)), .val (.int (3 : Int32)), .val .null, .unset]) (fun m => by first | (simp [entryFrame, mkF, argsToLocals, Value.category, maxLocals]; done) | rfl) ?_
  intro p e s m below meth c B
  refine B.aloadN 1 rfl d3_0 rfl rfl ?_
  refine B.initO 4 rfl d3_1 (wd hw 17 rfl) (wd hw 18 rfl) (wd hw 19 rfl) rfl 0 rfl (by decide) (by decide) ?_
  refine B.iloadN 5 rfl d3_4 rfl ?_
  refine B.if0_ne 27 8 rfl (by decide) rfl d3_5 (fun c5 => ?_) (fun c5 => ?_)
  · refine B.getS 30 rfl d3_27 (wd hw 49 rfl) S ?_
    refine B.if0_eq 58 33 rfl (by decide) rfl d3_30 (fun c30 => ?_) (fun c30 => ?_)
    · exact absurd c30 hcs
    · refine B.aloadN 34 rfl d3_33 rfl rfl ?_
      refine B.iloadN 35 rfl d3_34 rfl ?_
      refine B.iloadN 36 rfl d3_35 rfl ?_
      refine B.callS 39 rfl d3_36 (wd hw 67 rfl) (wd hw 68 rfl) (wd hw 69 rfl) (wd hw 70 rfl) (by decide) [(.ref ca), (.int (0 : Int32)), (.int (3 : Int32))] [] (rm_cb3_2 l Z a0 hw ca x0 x1 x2 cs vf h0 hcs hvf S SA SH SO SF hx0 hx1 hx2 q0 q1 q2 A) rfl rfl pd___CII__B rfl rfl 0 rfl (by decide) (by decide) (by decide) (by decide) (fun _ q => nomatch q) ?_
      rintro _ h1 K1 ⟨vb, rfl, gv, A1⟩
      show B.G h1 2 9 (mkF m 39 #[.val (.ref a), .val (.ref ca), .val (.int (0 : Int32)), .val (.int (3 : Int32)), .val .null, .unset] [(.ref vb)])
      have E1 := E.keep K1
      have Fc1 := Fc.keep K1 nin0
      have Fv1 := Fv.keep K1 nin0
      have nv : vb ≠ a := fun q => absurd E.lt (by rw [← q]; exact Nat.not_lt.mpr gv)
      refine B.astore 41 rfl d3_39 rfl #[.val (.ref a), .val (.ref ca), .val (.int (0 : Int32)), .val (.int (3 : Int32)), .val .null, .val (.ref vb)] rfl ?_
      refine B.aloadN 42 rfl d3_41 rfl rfl ?_
      refine B.aload 44 rfl d3_42 rfl rfl ?_
      refine B.iloadN 45 rfl d3_44 rfl ?_
      refine B.callS 48 rfl d3_45 (wd hw 74 rfl) (wd hw 75 rfl) (wd hw 69 rfl) (wd hw 76 rfl) (by decide) [(.ref vb), (.int (3 : Int32))] [(.ref a)] (rm_co3_2 l Z a0 hw vb _ h1 rfl A1) rfl rfl pd___BI_B rfl rfl 1 rfl (by decide) (by decide) (by decide) (by decide) (fun _ q => nomatch q) ?_
      rintro _ _ - ⟨rfl, rfl⟩
      show B.G h1 2 9 (mkF m 48 #[.val (.ref a), .val (.ref ca), .val (.int (0 : Int32)), .val (.int (3 : Int32)), .val .null, .val (.ref vb)] [(.int (1 : Int32)), (.ref a)])
      refine B.putF 51 rfl d3_48 (wd hw 27 rfl) Fc1 E1 (Or.inr ⟨(wd hw 23 rfl), rfl, rfl⟩) (wd hw 7 rfl) (ty := .byte) (by decide) rfl rfl (Or.inl (by simp)) ?_
      intro h2 W2
      have E2 := E1.wr W2
      have Fc2 := Fc1.same W2
      have Fv2 := Fv1.other W2 (Or.inr (slot_ne (Or.inr (wd hw 22 rfl)) (Or.inr (wd hw 23 rfl)) (by decide) (t := (.array .byte)) (t' := .byte) (by decide) (by decide)))
      have A2 := A1.other W2 nv
      refine B.aloadN 52 rfl d3_51 rfl rfl ?_
      refine B.aload 54 rfl d3_52 rfl rfl ?_
      refine B.putF 57 rfl d3_54 (wd hw 26 rfl) Fv2 E2 (Or.inr ⟨(wd hw 22 rfl), rfl, rfl⟩) (wd hw 7 rfl) (ty := (.array .byte)) (by decide) rfl rfl (Or.inl (by simp)) ?_
      intro h3 W3
      refine B.ret0 d3_57 (by decide) (by decide) ?_
      exact ⟨rfl, E2.wr W3, vb, Fc2.other W3 (Or.inr (slot_ne (Or.inr (wd hw 23 rfl)) (Or.inr (wd hw 22 rfl)) (by decide) (t := .byte) (t' := (.array .byte)) (by decide) (by decide))), Fv2.same W3, A2.other W3 nv⟩
  · exact absurd c5 (by decide)
set_option maxRecDepth 65536 in
set_option maxHeartbeats 4000000 in
theorem rm_st3_2 (l : Launch) (Z : State) (a0 : Array Value) (hw : ∀ d ∈ tables_1, d.before a0 Z = true) (a ca : Addr) (x0 x1 x2 : Int32) (cs : Int32) (vf : Value) (h0 : Heap) (hcs : ¬ cs = 0) (hvf : vf.isRef = true) (S : Sta Z h0 "java/lang/String" "COMPACT_STRINGS" "Z" (.int cs)) (SA : Sta Z h0 "java/lang/StringUTF16" "$assertionsDisabled" "Z" (.int 1)) (SH : Sta Z h0 "java/lang/StringUTF16" "HI_BYTE_SHIFT" "I" (.int 0)) (SO : Sta Z h0 "java/lang/StringUTF16" "LO_BYTE_SHIFT" "I" (.int 8)) (SF : Sta Z h0 "jdk/internal/util/Preconditions" "SIOOBE_FORMATTER" "Ljava/util/function/BiFunction;" vf) (E : Exa Z h0 a "java/lang/String") (Fc : Fld Z h0 a "java/lang/String" "coder" "B" (.int 0)) (Fv : Fld Z h0 a "java/lang/String" "value" "[B" .null) (hx0 : ¬ (255 : Int32) < x0) (hx1 : ¬ (255 : Int32) < x1) (hx2 : (255 : Int32) < x2) (q0 : isC x0) (q1 : isC x1) (q2 : isC x2) (A : Ary Z h0 ca .char [(.int x0), (.int x1), (.int x2)]) :
    Met l Z (⟨"java/lang/String", "<init>", "([C)V"⟩ : MethodName) jdk_42_method_3_code 2 none [] ({ frames := 5, cells := 2, slots := 9, locals := 74 } : Room) #[(.ref a), (.ref ca)] h0 [a] (fun v h => v = none ∧ Exa Z h a "java/lang/String" ∧ ∃ vb, Fld Z h a "java/lang/String" "coder" "B" (.int (1 : Int32)) ∧ Fld Z h a "java/lang/String" "value" "[B" (.ref vb) ∧ Ary Z h vb .byte [(.int (own_lo x0)), (.int (own_hi x0)), (.int (own_lo x1)), (.int (own_hi x1)), (.int (own_lo x2)), (.int (own_hi x2))]) := by
  refine Met.walk pn_2 (Ls := #[.val (.ref a), .val (.ref ca)]) (fun m => by first | (simp [entryFrame, mkF, argsToLocals, Value.category, maxLocals]; done) | rfl) ?_
  intro p e s m below meth c B
  refine B.aloadN 1 rfl d2_0 rfl rfl ?_
  refine B.aloadN 2 rfl d2_1 rfl rfl ?_
  refine B.iconst 3 rfl (0 : Int32) d2_2 rfl ?_
  refine B.aloadN 4 rfl d2_3 rfl rfl ?_
  refine B.arrlen 5 rfl d2_4 A (3 : Int32) rfl ?_
  refine B.aconstNull 6 rfl d2_5 ?_
  refine B.callI 9 rfl d2_6 rfl (wd hw 13 rfl) (wd hw 14 rfl) (wd hw 8 rfl) (wd hw 16 rfl) (by decide) [(.ref ca), (.int (0 : Int32)), (.int (3 : Int32)), .null] [] (rm_si3_2 l Z a0 hw a ca x0 x1 x2 cs vf h0 hcs hvf S SA SH SO SF E Fc Fv hx0 hx1 hx2 q0 q1 q2 A) rfl rfl pd___CIILjava_lang_Void__V rfl rfl 0 rfl (by decide) (by decide) (by decide) (by decide) (fun x z => Or.inl z) ?_
  rintro _ h1 K1 ⟨rfl, q⟩
  show B.G h1 2 9 (mkF m 9 #[.val (.ref a), .val (.ref ca)] [])
  refine B.ret0 d2_9 (by decide) (by decide) ?_
  exact ⟨rfl, q⟩
set_option maxRecDepth 65536 in
set_option maxHeartbeats 4000000 in
theorem rm_cb3_3 (l : Launch) (Z : State) (a0 : Array Value) (hw : ∀ d ∈ tables_1, d.before a0 Z = true) (ca : Addr) (x0 x1 x2 : Int32) (cs : Int32) (vf : Value) (h0 : Heap) (hcs : ¬ cs = 0) (hvf : vf.isRef = true) (S : Sta Z h0 "java/lang/String" "COMPACT_STRINGS" "Z" (.int cs)) (SA : Sta Z h0 "java/lang/StringUTF16" "$assertionsDisabled" "Z" (.int 1)) (SH : Sta Z h0 "java/lang/StringUTF16" "HI_BYTE_SHIFT" "I" (.int 0)) (SO : Sta Z h0 "java/lang/StringUTF16" "LO_BYTE_SHIFT" "I" (.int 8)) (SF : Sta Z h0 "jdk/internal/util/Preconditions" "SIOOBE_FORMATTER" "Ljava/util/function/BiFunction;" vf) (hx0 : ¬ (255 : Int32) < x0) (hx1 : ¬ (255 : Int32) < x1) (hx2 : ¬ (255 : Int32) < x2) (q0 : isC x0) (q1 : isC x1) (q2 : isC x2) (A_ca : Ary Z h0 ca .char [(.int x0), (.int x1), (.int x2)]) :
    Met l Z (⟨"java/lang/StringUTF16", "compress", "([CII)[B"⟩ : MethodName) jdk_52_method_16_code 6 (some (.array .byte)) [] ({ frames := 1, cells := 1, slots := 3, locals := 18 } : Room) #[(.ref ca), (.int (0 : Int32)), (.int (3 : Int32))] h0 [] (fun v h => ∃ vb, v = some (.ref vb) ∧ h0.size ≤ vb ∧ Ary Z h vb .byte [(.int ((x0.toInt8.toInt32).toInt8.toInt32)), (.int ((x1.toInt8.toInt32).toInt8.toInt32)), (.int ((x2.toInt8.toInt32).toInt8.toInt32))]) := by
  refine Met.walk pn_13 (Ls := #[.val (.ref ca), .val (.int (0 : Int32)), .val (.int (3 : Int32)), .unset, .unset, .unset]) (fun m => by first | (simp [entryFrame, mkF, argsToLocals, Value.category, maxLocals]; done) | rfl) ?_
  intro p e s m below meth c B
  refine B.iloadN 1 rfl d13_0 rfl ?_
  refine B.newP 3 rfl d13_1 (wd hw 21 rfl) (by decide) 3 (by decide) (by decide) (by decide) (by decide) ?_
  intro h_vb vb e_vb g_vb X_vb A_vb
  replace A_vb : Ary Z h_vb vb .byte [(.int (0 : Int32)), (.int (0 : Int32)), (.int (0 : Int32))] := A_vb
  show B.G h_vb 1 3 (mkF m 3 #[.val (.ref ca), .val (.int (0 : Int32)), .val (.int (3 : Int32)), .unset, .unset, .unset] [(.ref vb)])
  have n_ca_vb : ca ≠ vb := fun q => absurd A_ca.lt (by rw [q, e_vb]; exact Nat.lt_irrefl _)
  have A_ca_1 := A_ca.ext X_vb
  refine B.astoreN 4 rfl d13_3 rfl #[.val (.ref ca), .val (.int (0 : Int32)), .val (.int (3 : Int32)), .val (.ref vb), .unset, .unset] rfl ?_
  refine B.aloadN 5 rfl d13_4 rfl rfl ?_
  refine B.iloadN 6 rfl d13_5 rfl ?_
  refine B.aloadN 7 rfl d13_6 rfl rfl ?_
  refine B.iconst 8 rfl (0 : Int32) d13_7 rfl ?_
  refine B.iloadN 9 rfl d13_8 rfl ?_
  refine B.callS 12 rfl d13_9 (wd hw 71 rfl) (wd hw 72 rfl) (wd hw 69 rfl) (wd hw 73 rfl) (by decide) [(.ref ca), (.int (0 : Int32)), (.ref vb), (.int (0 : Int32)), (.int (3 : Int32))] [] (rm_cp3_3 l Z a0 hw ca vb x0 x1 x2 h_vb hx0 hx1 hx2 n_ca_vb A_ca_1 A_vb) rfl rfl pd___CI_BII_I rfl rfl 0 rfl (by decide) (by decide) (by decide) (by decide) (fun x z => Or.inr (by cases List.mem_singleton.mp z; exact g_vb)) ?_
  rintro _ h2 K2 ⟨rfl, A2⟩
  show B.G h2 1 3 (mkF m 12 #[.val (.ref ca), .val (.int (0 : Int32)), .val (.int (3 : Int32)), .val (.ref vb), .unset, .unset] [(.int (3 : Int32))])
  have X2 : Ext h0 h2 := own_kx X_vb K2 g_vb
  have Ac2 := A_ca_1.keep K2 (ninS n_ca_vb nin0)
  refine B.istore 14 rfl d13_12 #[.val (.ref ca), .val (.int (0 : Int32)), .val (.int (3 : Int32)), .val (.ref vb), .val (.int (3 : Int32)), .unset] rfl ?_
  refine B.iload 16 rfl d13_14 rfl ?_
  refine B.iloadN 17 rfl d13_16 rfl ?_
  refine B.icmp_eq 57 20 rfl (by decide) rfl d13_17 (fun c17 => ?_) (fun c17 => ?_)
  · refine B.aloadN 58 rfl d13_57 rfl rfl ?_
    refine B.retA rfl rfl d13_58 (by decide) (by decide) ?_
    exact ⟨vb, rfl, g_vb, A2⟩
  · exact absurd c17 (by decide)
set_option maxRecDepth 65536 in
set_option maxHeartbeats 4000000 in
theorem rm_co3_3 (l : Launch) (Z : State) (a0 : Array Value) (hw : ∀ d ∈ tables_1, d.before a0 Z = true) (vb : Addr) (vs : List Value) (h0 : Heap) (hn : vs.length.toInt32 = (3 : Int32)) (A : Ary Z h0 vb .byte vs) :
    Met l Z (⟨"java/lang/StringUTF16", "coderFromArrayLen", "([BI)B"⟩ : MethodName) jdk_52_method_15_code 2 (some .byte) [] ({ frames := 0, cells := 0, slots := 0, locals := 0 } : Room) #[(.ref vb), (.int (3 : Int32))] h0 [] (fun v h => v = some (.int (0 : Int32)) ∧ h0 = h) := by
  refine Met.walk pn_15 (Ls := #[.val (.ref vb), .val (.int (3 : Int32))]) (fun m => by first | (simp [entryFrame, mkF, argsToLocals, Value.category, maxLocals]; done) | rfl) ?_
  intro p e s m below meth c B
  refine B.iloadN 1 rfl d15_0 rfl ?_
  refine B.aloadN 2 rfl d15_1 rfl rfl ?_
  refine B.arrlen 3 rfl d15_2 A (3 : Int32) hn ?_
  refine B.isub 4 rfl d15_3 ?_
  refine B.topI (0 : Int32) (by decide) ?_
  refine B.bipush 6 rfl (31 : Int32) d15_4 rfl ?_
  refine B.iushr 7 rfl d15_6 ?_
  refine B.topI (0 : Int32) (by decide) ?_
  refine B.i2b 8 rfl d15_7 ?_
  refine B.topI (0 : Int32) (by decide) ?_
  refine B.retN (by simp) d15_8 (by decide) (by decide) ?_
  exact ⟨rfl, rfl⟩
set_option maxRecDepth 65536 in
set_option maxHeartbeats 4000000 in
theorem rm_si3_3 (l : Launch) (Z : State) (a0 : Array Value) (hw : ∀ d ∈ tables_1, d.before a0 Z = true) (a ca : Addr) (x0 x1 x2 : Int32) (cs : Int32) (vf : Value) (h0 : Heap) (hcs : ¬ cs = 0) (hvf : vf.isRef = true) (S : Sta Z h0 "java/lang/String" "COMPACT_STRINGS" "Z" (.int cs)) (SA : Sta Z h0 "java/lang/StringUTF16" "$assertionsDisabled" "Z" (.int 1)) (SH : Sta Z h0 "java/lang/StringUTF16" "HI_BYTE_SHIFT" "I" (.int 0)) (SO : Sta Z h0 "java/lang/StringUTF16" "LO_BYTE_SHIFT" "I" (.int 8)) (SF : Sta Z h0 "jdk/internal/util/Preconditions" "SIOOBE_FORMATTER" "Ljava/util/function/BiFunction;" vf) (E : Exa Z h0 a "java/lang/String") (Fc : Fld Z h0 a "java/lang/String" "coder" "B" (.int 0)) (Fv : Fld Z h0 a "java/lang/String" "value" "[B" .null) (hx0 : ¬ (255 : Int32) < x0) (hx1 : ¬ (255 : Int32) < x1) (hx2 : ¬ (255 : Int32) < x2) (q0 : isC x0) (q1 : isC x1) (q2 : isC x2) (A : Ary Z h0 ca .char [(.int x0), (.int x1), (.int x2)]) :
    Met l Z (⟨"java/lang/String", "<init>", "([CIILjava/lang/Void;)V"⟩ : MethodName) jdk_42_method_149_code 6 none [] ({ frames := 2, cells := 1, slots := 3, locals := 35 } : Room) #[(.ref a), (.ref ca), (.int (0 : Int32)), (.int (3 : Int32)), .null] h0 [a] (fun v h => v = none ∧ Exa Z h a "java/lang/String" ∧ ∃ vb, Fld Z h a "java/lang/String" "coder" "B" (.int (0 : Int32)) ∧ Fld Z h a "java/lang/String" "value" "[B" (.ref vb) ∧ Ary Z h vb .byte [(.int ((x0.toInt8.toInt32).toInt8.toInt32)), (.int ((x1.toInt8.toInt32).toInt8.toInt32)), (.int ((x2.toInt8.toInt32).toInt8.toInt32))]) := by
  refine Met.walk pn_3 (Ls := #[.val (.ref a), .val (.ref ca), .val (.int (0 : Int32)), .val (.int (3 : Int32)), .val .null, .unset]) (fun m => by first | (simp [entryFrame, mkF, argsToLocals, Value.category, maxLocals]; done) | rfl) ?_
  intro p e s m below meth c B
  refine B.aloadN 1 rfl d3_0 rfl rfl ?_
  refine B.initO 4 rfl d3_1 (wd hw 17 rfl) (wd hw 18 rfl) (wd hw 19 rfl) rfl 0 rfl (by decide) (by decide) ?_
  refine B.iloadN 5 rfl d3_4 rfl ?_
  refine B.if0_ne 27 8 rfl (by decide) rfl d3_5 (fun c5 => ?_) (fun c5 => ?_)
  · refine B.getS 30 rfl d3_27 (wd hw 49 rfl) S ?_
    refine B.if0_eq 58 33 rfl (by decide) rfl d3_30 (fun c30 => ?_) (fun c30 => ?_)
    · exact absurd c30 hcs
    · refine B.aloadN 34 rfl d3_33 rfl rfl ?_
      refine B.iloadN 35 rfl d3_34 rfl ?_
      refine B.iloadN 36 rfl d3_35 rfl ?_
      refine B.callS 39 rfl d3_36 (wd hw 67 rfl) (wd hw 68 rfl) (wd hw 69 rfl) (wd hw 70 rfl) (by decide) [(.ref ca), (.int (0 : Int32)), (.int (3 : Int32))] [] (rm_cb3_3 l Z a0 hw ca x0 x1 x2 cs vf h0 hcs hvf S SA SH SO SF hx0 hx1 hx2 q0 q1 q2 A) rfl rfl pd___CII__B rfl rfl 0 rfl (by decide) (by decide) (by decide) (by decide) (fun _ q => nomatch q) ?_
      rintro _ h1 K1 ⟨vb, rfl, gv, A1⟩
      show B.G h1 1 3 (mkF m 39 #[.val (.ref a), .val (.ref ca), .val (.int (0 : Int32)), .val (.int (3 : Int32)), .val .null, .unset] [(.ref vb)])
      have E1 := E.keep K1
      have Fc1 := Fc.keep K1 nin0
      have Fv1 := Fv.keep K1 nin0
      have nv : vb ≠ a := fun q => absurd E.lt (by rw [← q]; exact Nat.not_lt.mpr gv)
      refine B.astore 41 rfl d3_39 rfl #[.val (.ref a), .val (.ref ca), .val (.int (0 : Int32)), .val (.int (3 : Int32)), .val .null, .val (.ref vb)] rfl ?_
      refine B.aloadN 42 rfl d3_41 rfl rfl ?_
      refine B.aload 44 rfl d3_42 rfl rfl ?_
      refine B.iloadN 45 rfl d3_44 rfl ?_
      refine B.callS 48 rfl d3_45 (wd hw 74 rfl) (wd hw 75 rfl) (wd hw 69 rfl) (wd hw 76 rfl) (by decide) [(.ref vb), (.int (3 : Int32))] [(.ref a)] (rm_co3_3 l Z a0 hw vb _ h1 rfl A1) rfl rfl pd___BI_B rfl rfl 1 rfl (by decide) (by decide) (by decide) (by decide) (fun _ q => nomatch q) ?_
      rintro _ _ - ⟨rfl, rfl⟩
      show B.G h1 1 3 (mkF m 48 #[.val (.ref a), .val (.ref ca), .val (.int (0 : Int32)), .val (.int (3 : Int32)), .val .null, .val (.ref vb)] [(.int (0 : Int32)), (.ref a)])
      refine B.putF 51 rfl d3_48 (wd hw 27 rfl) Fc1 E1 (Or.inr ⟨(wd hw 23 rfl), rfl, rfl⟩) (wd hw 7 rfl) (ty := .byte) (by decide) rfl rfl (Or.inl (by simp)) ?_
      intro h2 W2
      have E2 := E1.wr W2
      have Fc2 := Fc1.same W2
      have Fv2 := Fv1.other W2 (Or.inr (slot_ne (Or.inr (wd hw 22 rfl)) (Or.inr (wd hw 23 rfl)) (by decide) (t := (.array .byte)) (t' := .byte) (by decide) (by decide)))
      have A2 := A1.other W2 nv
      refine B.aloadN 52 rfl d3_51 rfl rfl ?_
      refine B.aload 54 rfl d3_52 rfl rfl ?_
      refine B.putF 57 rfl d3_54 (wd hw 26 rfl) Fv2 E2 (Or.inr ⟨(wd hw 22 rfl), rfl, rfl⟩) (wd hw 7 rfl) (ty := (.array .byte)) (by decide) rfl rfl (Or.inl (by simp)) ?_
      intro h3 W3
      refine B.ret0 d3_57 (by decide) (by decide) ?_
      exact ⟨rfl, E2.wr W3, vb, Fc2.other W3 (Or.inr (slot_ne (Or.inr (wd hw 23 rfl)) (Or.inr (wd hw 22 rfl)) (by decide) (t := .byte) (t' := (.array .byte)) (by decide) (by decide))), Fv2.same W3, A2.other W3 nv⟩
  · exact absurd c5 (by decide)
set_option maxRecDepth 65536 in
set_option maxHeartbeats 4000000 in
theorem rm_st3_3 (l : Launch) (Z : State) (a0 : Array Value) (hw : ∀ d ∈ tables_1, d.before a0 Z = true) (a ca : Addr) (x0 x1 x2 : Int32) (cs : Int32) (vf : Value) (h0 : Heap) (hcs : ¬ cs = 0) (hvf : vf.isRef = true) (S : Sta Z h0 "java/lang/String" "COMPACT_STRINGS" "Z" (.int cs)) (SA : Sta Z h0 "java/lang/StringUTF16" "$assertionsDisabled" "Z" (.int 1)) (SH : Sta Z h0 "java/lang/StringUTF16" "HI_BYTE_SHIFT" "I" (.int 0)) (SO : Sta Z h0 "java/lang/StringUTF16" "LO_BYTE_SHIFT" "I" (.int 8)) (SF : Sta Z h0 "jdk/internal/util/Preconditions" "SIOOBE_FORMATTER" "Ljava/util/function/BiFunction;" vf) (E : Exa Z h0 a "java/lang/String") (Fc : Fld Z h0 a "java/lang/String" "coder" "B" (.int 0)) (Fv : Fld Z h0 a "java/lang/String" "value" "[B" .null) (hx0 : ¬ (255 : Int32) < x0) (hx1 : ¬ (255 : Int32) < x1) (hx2 : ¬ (255 : Int32) < x2) (q0 : isC x0) (q1 : isC x1) (q2 : isC x2) (A : Ary Z h0 ca .char [(.int x0), (.int x1), (.int x2)]) :
    Met l Z (⟨"java/lang/String", "<init>", "([C)V"⟩ : MethodName) jdk_42_method_3_code 2 none [] ({ frames := 3, cells := 1, slots := 3, locals := 52 } : Room) #[(.ref a), (.ref ca)] h0 [a] (fun v h => v = none ∧ Exa Z h a "java/lang/String" ∧ ∃ vb, Fld Z h a "java/lang/String" "coder" "B" (.int (0 : Int32)) ∧ Fld Z h a "java/lang/String" "value" "[B" (.ref vb) ∧ Ary Z h vb .byte [(.int ((x0.toInt8.toInt32).toInt8.toInt32)), (.int ((x1.toInt8.toInt32).toInt8.toInt32)), (.int ((x2.toInt8.toInt32).toInt8.toInt32))]) := by
  refine Met.walk pn_2 (Ls := #[.val (.ref a), .val (.ref ca)]) (fun m => by first | (simp [entryFrame, mkF, argsToLocals, Value.category, maxLocals]; done) | rfl) ?_
  intro p e s m below meth c B
  refine B.aloadN 1 rfl d2_0 rfl rfl ?_
  refine B.aloadN 2 rfl d2_1 rfl rfl ?_
  refine B.iconst 3 rfl (0 : Int32) d2_2 rfl ?_
  refine B.aloadN 4 rfl d2_3 rfl rfl ?_
  refine B.arrlen 5 rfl d2_4 A (3 : Int32) rfl ?_
  refine B.aconstNull 6 rfl d2_5 ?_
  refine B.callI 9 rfl d2_6 rfl (wd hw 13 rfl) (wd hw 14 rfl) (wd hw 8 rfl) (wd hw 16 rfl) (by decide) [(.ref ca), (.int (0 : Int32)), (.int (3 : Int32)), .null] [] (rm_si3_3 l Z a0 hw a ca x0 x1 x2 cs vf h0 hcs hvf S SA SH SO SF E Fc Fv hx0 hx1 hx2 q0 q1 q2 A) rfl rfl pd___CIILjava_lang_Void__V rfl rfl 0 rfl (by decide) (by decide) (by decide) (by decide) (fun x z => Or.inl z) ?_
  rintro _ h1 K1 ⟨rfl, q⟩
  show B.G h1 1 3 (mkF m 9 #[.val (.ref a), .val (.ref ca)] [])
  refine B.ret0 d2_9 (by decide) (by decide) ?_
  exact ⟨rfl, q⟩
theorem d3_8 : decode jdk_42_method_149_code 8 = .ok (.aload_n 0, 1) := by decide +kernel
theorem d3_9 : decode jdk_42_method_149_code 9 = .ok (.ldc 7, 2) := by decide +kernel
theorem d3_11 : decode jdk_42_method_149_code 11 = .ok (.getfield 9, 3) := by decide +kernel
theorem d3_14 : decode jdk_42_method_149_code 14 = .ok (.putfield 9, 3) := by decide +kernel
theorem d3_17 : decode jdk_42_method_149_code 17 = .ok (.aload_n 0, 1) := by decide +kernel
theorem d3_18 : decode jdk_42_method_149_code 18 = .ok (.ldc 7, 2) := by decide +kernel
theorem d3_20 : decode jdk_42_method_149_code 20 = .ok (.getfield 15, 3) := by decide +kernel
theorem d3_23 : decode jdk_42_method_149_code 23 = .ok (.putfield 15, 3) := by decide +kernel
theorem d3_26 : decode jdk_42_method_149_code 26 = .ok (.return_, 1) := by decide +kernel
set_option maxRecDepth 65536 in
set_option maxHeartbeats 4000000 in
theorem rm_si0 (l : Launch) (Z : State) (a0 : Array Value) (hw : ∀ d ∈ tables_1, d.before a0 Z = true) (a ca : Addr) (h0 : Heap) (hh : Jvm.Lit.constHeld Z "java/lang/String" 7) (hcw : Jvm.Lit.compactW.before a0 Z = true) (hkeep : ∀ (b : Addr) (cl : Cell), Z.heap[b]? = some cl → h0[b]? = some cl) (E : Exa Z h0 a "java/lang/String") (Fc : Fld Z h0 a "java/lang/String" "coder" "B" (.int 0)) (Fv : Fld Z h0 a "java/lang/String" "value" "[B" .null) :
    MetI l Z (⟨"java/lang/String", "<init>", "([CIILjava/lang/Void;)V"⟩ : MethodName) jdk_42_method_149_code 6 none [] ({ frames := 1, cells := 2, slots := 4, locals := 12 } : Room) #[(.ref a), (.ref ca), (.int (0 : Int32)), (.int (0 : Int32)), .null] h0 [a] (fun v h => v = none ∧ Exa Z h a "java/lang/String" ∧ ∃ vb, Fld Z h a "java/lang/String" "coder" "B" (.int (0 : Int32)) ∧ Fld Z h a "java/lang/String" "value" "[B" (.ref vb) ∧ Ary Z h vb .byte []) := by
  refine MetI.walk pn_3 (Ls := #[.val (.ref a), .val (.ref ca), .val (.int (0 : Int32)), .val (.int (0 : Int32)), .val .null, .unset]) (fun m => by first | (simp [entryFrame, mkF, argsToLocals, Value.category, maxLocals]; done) | rfl) ?_
  intro p e s m below meth c B
  refine B.aloadN 1 rfl d3_0 rfl rfl ?_
  refine B.initO 4 rfl d3_1 (wd hw 17 rfl) (wd hw 18 rfl) (wd hw 19 rfl) rfl 0 rfl (by decide) (by decide) ?_
  refine B.iloadN 5 rfl d3_4 rfl ?_
  refine B.if0_ne 27 8 rfl (by decide) rfl d3_5 (fun c5 => ?_) (fun c5 => ?_)
  · exact absurd c5 (by decide)
  · refine B.aloadN 9 rfl d3_8 rfl rfl ?_
    refine B.ldcE 11 rfl d3_9 (wd hw 20 rfl) (fun d q => hw d (own_strs d q)) hh hcw hkeep (by decide) (by decide) ?_
    intro sa sb h1 B X1 Es Fcs Fvs As
    show B.G h1 2 4 (mkF m 11 #[.val (.ref a), .val (.ref ca), .val (.int (0 : Int32)), .val (.int (0 : Int32)), .val .null, .unset] [(.ref sa), (.ref a)])
    have E1 := E.ext X1
    have Fc1 := Fc.ext X1
    have Fv1 := Fv.ext X1
    have nb : sb ≠ a := own_ne E1 (wd hw 7 rfl) As
    refine B.getF 14 rfl d3_11 (wd hw 26 rfl) Fvs ?_
    refine B.putF 17 rfl d3_14 (wd hw 26 rfl) Fv1 E1 (Or.inr ⟨(wd hw 22 rfl), rfl, rfl⟩) (wd hw 7 rfl) (ty := (.array .byte)) (by decide) rfl rfl (Or.inl (by simp)) ?_
    intro h2 W2
    have E2 := E1.wr W2
    have Fv2 := Fv1.same W2
    have Fc2 := Fc1.other W2 (Or.inr (slot_ne (Or.inr (wd hw 23 rfl)) (Or.inr (wd hw 22 rfl)) (by decide) (t := .byte) (t' := (.array .byte)) (by decide) (by decide)))
    have Fcs2 := Fcs.other W2 (Or.inr (slot_ne (Or.inr (wd hw 23 rfl)) (Or.inr (wd hw 22 rfl)) (by decide) (t := .byte) (t' := (.array .byte)) (by decide) (by decide)))
    have As2 := As.other W2 nb
    refine B.aloadN 18 rfl d3_17 rfl rfl ?_
    refine B.ldcA 20 rfl d3_18 (wd hw 20 rfl) ?_
    refine B.getF 23 rfl d3_20 (wd hw 27 rfl) Fcs2 ?_
    refine B.putF 26 rfl d3_23 (wd hw 27 rfl) Fc2 E2 (Or.inr ⟨(wd hw 23 rfl), rfl, rfl⟩) (wd hw 7 rfl) (ty := .byte) (by decide) rfl rfl (Or.inl (by simp)) ?_
    intro h3 W3
    refine B.ret0 d3_26 (by decide) (by decide) ?_
    exact ⟨rfl, E2.wr W3, sb, Fc2.same W3, Fv2.other W3 (Or.inr (slot_ne (Or.inr (wd hw 22 rfl)) (Or.inr (wd hw 23 rfl)) (by decide) (t := (.array .byte)) (t' := .byte) (by decide) (by decide))), As2.other W3 nb⟩
set_option maxRecDepth 65536 in
set_option maxHeartbeats 4000000 in
theorem rm_st0 (l : Launch) (Z : State) (a0 : Array Value) (hw : ∀ d ∈ tables_1, d.before a0 Z = true) (a ca : Addr) (h0 : Heap) (hh : Jvm.Lit.constHeld Z "java/lang/String" 7) (hcw : Jvm.Lit.compactW.before a0 Z = true) (hkeep : ∀ (b : Addr) (cl : Cell), Z.heap[b]? = some cl → h0[b]? = some cl) (E : Exa Z h0 a "java/lang/String") (Fc : Fld Z h0 a "java/lang/String" "coder" "B" (.int 0)) (Fv : Fld Z h0 a "java/lang/String" "value" "[B" .null) (A : Ary Z h0 ca .char []) :
    MetI l Z (⟨"java/lang/String", "<init>", "([C)V"⟩ : MethodName) jdk_42_method_3_code 2 none [] ({ frames := 2, cells := 2, slots := 4, locals := 29 } : Room) #[(.ref a), (.ref ca)] h0 [a] (fun v h => v = none ∧ Exa Z h a "java/lang/String" ∧ ∃ vb, Fld Z h a "java/lang/String" "coder" "B" (.int (0 : Int32)) ∧ Fld Z h a "java/lang/String" "value" "[B" (.ref vb) ∧ Ary Z h vb .byte []) := by
  refine MetI.walk pn_2 (Ls := #[.val (.ref a), .val (.ref ca)]) (fun m => by first | (simp [entryFrame, mkF, argsToLocals, Value.category, maxLocals]; done) | rfl) ?_
  intro p e s m below meth c B
  refine B.aloadN 1 rfl d2_0 rfl rfl ?_
  refine B.aloadN 2 rfl d2_1 rfl rfl ?_
  refine B.iconst 3 rfl (0 : Int32) d2_2 rfl ?_
  refine B.aloadN 4 rfl d2_3 rfl rfl ?_
  refine B.arrlen 5 rfl d2_4 A (0 : Int32) rfl ?_
  refine B.aconstNull 6 rfl d2_5 ?_
  refine B.callII 9 rfl d2_6 rfl (wd hw 13 rfl) (wd hw 14 rfl) (wd hw 8 rfl) (wd hw 16 rfl) (by decide) [(.ref ca), (.int (0 : Int32)), (.int (0 : Int32)), .null] [] (rm_si0 l Z a0 hw a ca h0 hh hcw hkeep E Fc Fv) rfl rfl pd___CIILjava_lang_Void__V rfl rfl 0 rfl (by decide) (by decide) (by decide) (by decide) (fun x z => Or.inl z) ?_
  rintro B _ h1 K1 ⟨rfl, q⟩
  show B.G h1 2 4 (mkF m 9 #[.val (.ref a), .val (.ref ca)] [])
  refine B.ret0 d2_9 (by decide) (by decide) ?_
  exact ⟨rfl, q⟩
theorem d12_0 : decode jdk_43_method_4_code 0 = .ok (.iload_n 0, 1) := by decide +kernel
theorem d12_1 : decode jdk_43_method_4_code 1 = .ok (.ifCond .lt 14, 3) := by decide +kernel
theorem d12_4 : decode jdk_43_method_4_code 4 = .ok (.iload_n 0, 1) := by decide +kernel
theorem d12_5 : decode jdk_43_method_4_code 5 = .ok (.sipush 255, 3) := by decide +kernel
theorem d12_8 : decode jdk_43_method_4_code 8 = .ok (.if_icmp .gt 7, 3) := by decide +kernel
theorem d12_15 : decode jdk_43_method_4_code 15 = .ok (.iconst 0, 1) := by decide +kernel
theorem d12_16 : decode jdk_43_method_4_code 16 = .ok (.ireturn, 1) := by decide +kernel
theorem pn_12 : plainFor (⟨"java/lang/StringLatin1", "canEncode", "(I)Z"⟩ : MethodName) = true := by first | exact plainFor_of_name (by first | (simp [plainName, overriddenIn]; done) | decide +kernel) | decide +kernel
set_option maxRecDepth 65536 in
set_option maxHeartbeats 4000000 in
theorem rm_ce (l : Launch) (Z : State) (a0 : Array Value) (hw : ∀ d ∈ tables_1, d.before a0 Z = true)  (h0 : Heap)  :
    Met l Z (⟨"java/lang/StringLatin1", "canEncode", "(I)Z"⟩ : MethodName) jdk_43_method_4_code 1 (some .boolean) [] ({ frames := 0, cells := 0, slots := 0, locals := 0 } : Room) #[(.int (65533 : Int32))] h0 [] (fun v h => v = some (.int (0 : Int32)) ∧ h0 = h) := by
  refine Met.walk pn_12 (Ls := #[.val (.int (65533 : Int32))]) (fun m => by first | (simp [entryFrame, mkF, argsToLocals, Value.category, maxLocals]; done) | rfl) ?_
  intro p e s m below meth c B
  refine B.iloadN 1 rfl d12_0 rfl ?_
  refine B.if0_lt 15 4 rfl (by decide) rfl d12_1 (fun c1 => ?_) (fun c1 => ?_)
  · exact absurd c1 (by decide)
  · refine B.iloadN 5 rfl d12_4 rfl ?_
    refine B.sipush 8 rfl (255 : Int32) d12_5 rfl ?_
    refine B.icmp_gt 15 11 rfl (by decide) rfl d12_8 (fun c8 => ?_) (fun c8 => ?_)
    · refine B.iconst 16 rfl (0 : Int32) d12_15 rfl ?_
      refine B.retN (by simp) d12_16 (by decide) (by decide) ?_
      exact ⟨rfl, rfl⟩
    · exact absurd c8 (by decide)
theorem d8_0 : decode jdk_42_method_154_code 0 = .ok (.getstatic 38, 3) := by decide +kernel
theorem d8_3 : decode jdk_42_method_154_code 3 = .ok (.ifCond .eq 14, 3) := by decide +kernel
theorem d8_6 : decode jdk_42_method_154_code 6 = .ok (.aload_n 0, 1) := by decide +kernel
theorem d8_7 : decode jdk_42_method_154_code 7 = .ok (.getfield 15, 3) := by decide +kernel
theorem d8_10 : decode jdk_42_method_154_code 10 = .ok (.ifCond .ne 7, 3) := by decide +kernel
theorem d8_13 : decode jdk_42_method_154_code 13 = .ok (.iconst 1, 1) := by decide +kernel
theorem d8_14 : decode jdk_42_method_154_code 14 = .ok (.goto 4, 3) := by decide +kernel
theorem d8_18 : decode jdk_42_method_154_code 18 = .ok (.ireturn, 1) := by decide +kernel
theorem pn_8 : plainFor (⟨"java/lang/String", "isLatin1", "()Z"⟩ : MethodName) = true := by first | exact plainFor_of_name (by first | (simp [plainName, overriddenIn]; done) | decide +kernel) | decide +kernel
set_option maxRecDepth 65536 in
set_option maxHeartbeats 4000000 in
theorem rm_il0 (l : Launch) (Z : State) (a0 : Array Value) (hw : ∀ d ∈ tables_1, d.before a0 Z = true) (a : Addr) (cs : Int32) (vf : Value) (h0 : Heap) (hcs : ¬ cs = 0) (hvf : vf.isRef = true) (S : Sta Z h0 "java/lang/String" "COMPACT_STRINGS" "Z" (.int cs)) (SA : Sta Z h0 "java/lang/StringUTF16" "$assertionsDisabled" "Z" (.int 1)) (SH : Sta Z h0 "java/lang/StringUTF16" "HI_BYTE_SHIFT" "I" (.int 0)) (SO : Sta Z h0 "java/lang/StringUTF16" "LO_BYTE_SHIFT" "I" (.int 8)) (SF : Sta Z h0 "jdk/internal/util/Preconditions" "SIOOBE_FORMATTER" "Ljava/util/function/BiFunction;" vf) (Fc : Fld Z h0 a "java/lang/String" "coder" "B" (.int (0 : Int32))) :
    Met l Z (⟨"java/lang/String", "isLatin1", "()Z"⟩ : MethodName) jdk_42_method_154_code 1 (some .boolean) [] ({ frames := 0, cells := 0, slots := 0, locals := 0 } : Room) #[(.ref a)] h0 [] (fun v h => v = some (.int (1 : Int32)) ∧ h0 = h) := by
  refine Met.walk pn_8 (Ls := #[.val (.ref a)]) (fun m => by first | (simp [entryFrame, mkF, argsToLocals, Value.category, maxLocals]; done) | rfl) ?_
  intro p e s m below meth c B
  refine B.getS 3 rfl d8_0 (wd hw 49 rfl) S ?_
  refine B.if0_eq 17 6 rfl (by decide) rfl d8_3 (fun c3 => ?_) (fun c3 => ?_)
  · exact absurd c3 hcs
  · refine B.aloadN 7 rfl d8_6 rfl rfl ?_
    refine B.getF 10 rfl d8_7 (wd hw 27 rfl) Fc ?_
    refine B.if0_ne 17 13 rfl (by decide) rfl d8_10 (fun c10 => ?_) (fun c10 => ?_)
    · exact absurd c10 (by decide)
    · refine B.iconst 14 rfl (1 : Int32) d8_13 rfl ?_
      refine B.goto 18 rfl (by decide) d8_14 ?_
      refine B.retN (by simp) d8_18 (by decide) (by decide) ?_
      exact ⟨rfl, rfl⟩
theorem d10_0 : decode jdk_42_method_152_code 0 = .ok (.getstatic 38, 3) := by decide +kernel
theorem d10_3 : decode jdk_42_method_152_code 3 = .ok (.ifCond .eq 10, 3) := by decide +kernel
theorem d10_6 : decode jdk_42_method_152_code 6 = .ok (.aload_n 0, 1) := by decide +kernel
theorem d10_7 : decode jdk_42_method_152_code 7 = .ok (.getfield 15, 3) := by decide +kernel
theorem d10_10 : decode jdk_42_method_152_code 10 = .ok (.goto 4, 3) := by decide +kernel
theorem d10_14 : decode jdk_42_method_152_code 14 = .ok (.ireturn, 1) := by decide +kernel
theorem pn_10 : plainFor (⟨"java/lang/String", "coder", "()B"⟩ : MethodName) = true := by first | exact plainFor_of_name (by first | (simp [plainName, overriddenIn]; done) | decide +kernel) | decide +kernel
set_option maxRecDepth 65536 in
set_option maxHeartbeats 4000000 in
theorem rm_cd0 (l : Launch) (Z : State) (a0 : Array Value) (hw : ∀ d ∈ tables_1, d.before a0 Z = true) (a : Addr) (cs : Int32) (vf : Value) (h0 : Heap) (hcs : ¬ cs = 0) (hvf : vf.isRef = true) (S : Sta Z h0 "java/lang/String" "COMPACT_STRINGS" "Z" (.int cs)) (SA : Sta Z h0 "java/lang/StringUTF16" "$assertionsDisabled" "Z" (.int 1)) (SH : Sta Z h0 "java/lang/StringUTF16" "HI_BYTE_SHIFT" "I" (.int 0)) (SO : Sta Z h0 "java/lang/StringUTF16" "LO_BYTE_SHIFT" "I" (.int 8)) (SF : Sta Z h0 "jdk/internal/util/Preconditions" "SIOOBE_FORMATTER" "Ljava/util/function/BiFunction;" vf) (Fc : Fld Z h0 a "java/lang/String" "coder" "B" (.int (0 : Int32))) :
    Met l Z (⟨"java/lang/String", "coder", "()B"⟩ : MethodName) jdk_42_method_152_code 1 (some .byte) [] ({ frames := 0, cells := 0, slots := 0, locals := 0 } : Room) #[(.ref a)] h0 [] (fun v h => v = some (.int (0 : Int32)) ∧ h0 = h) := by
  refine Met.walk pn_10 (Ls := #[.val (.ref a)]) (fun m => by first | (simp [entryFrame, mkF, argsToLocals, Value.category, maxLocals]; done) | rfl) ?_
  intro p e s m below meth c B
  refine B.getS 3 rfl d10_0 (wd hw 49 rfl) S ?_
  refine B.if0_eq 13 6 rfl (by decide) rfl d10_3 (fun c3 => ?_) (fun c3 => ?_)
  · exact absurd c3 hcs
  · refine B.aloadN 7 rfl d10_6 rfl rfl ?_
    refine B.getF 10 rfl d10_7 (wd hw 27 rfl) Fc ?_
    refine B.goto 14 rfl (by decide) d10_10 ?_
    refine B.retN (by simp) d10_14 (by decide) (by decide) ?_
    exact ⟨rfl, rfl⟩
theorem d8_17 : decode jdk_42_method_154_code 17 = .ok (.iconst 0, 1) := by decide +kernel
set_option maxRecDepth 65536 in
set_option maxHeartbeats 4000000 in
theorem rm_il1 (l : Launch) (Z : State) (a0 : Array Value) (hw : ∀ d ∈ tables_1, d.before a0 Z = true) (a : Addr) (cs : Int32) (vf : Value) (h0 : Heap) (hcs : ¬ cs = 0) (hvf : vf.isRef = true) (S : Sta Z h0 "java/lang/String" "COMPACT_STRINGS" "Z" (.int cs)) (SA : Sta Z h0 "java/lang/StringUTF16" "$assertionsDisabled" "Z" (.int 1)) (SH : Sta Z h0 "java/lang/StringUTF16" "HI_BYTE_SHIFT" "I" (.int 0)) (SO : Sta Z h0 "java/lang/StringUTF16" "LO_BYTE_SHIFT" "I" (.int 8)) (SF : Sta Z h0 "jdk/internal/util/Preconditions" "SIOOBE_FORMATTER" "Ljava/util/function/BiFunction;" vf) (Fc : Fld Z h0 a "java/lang/String" "coder" "B" (.int (1 : Int32))) :
    Met l Z (⟨"java/lang/String", "isLatin1", "()Z"⟩ : MethodName) jdk_42_method_154_code 1 (some .boolean) [] ({ frames := 0, cells := 0, slots := 0, locals := 0 } : Room) #[(.ref a)] h0 [] (fun v h => v = some (.int (0 : Int32)) ∧ h0 = h) := by
  refine Met.walk pn_8 (Ls := #[.val (.ref a)]) (fun m => by first | (simp [entryFrame, mkF, argsToLocals, Value.category, maxLocals]; done) | rfl) ?_
  intro p e s m below meth c B
  refine B.getS 3 rfl d8_0 (wd hw 49 rfl) S ?_
  refine B.if0_eq 17 6 rfl (by decide) rfl d8_3 (fun c3 => ?_) (fun c3 => ?_)
  · exact absurd c3 hcs
  · refine B.aloadN 7 rfl d8_6 rfl rfl ?_
    refine B.getF 10 rfl d8_7 (wd hw 27 rfl) Fc ?_
    refine B.if0_ne 17 13 rfl (by decide) rfl d8_10 (fun c10 => ?_) (fun c10 => ?_)
    · refine B.iconst 18 rfl (0 : Int32) d8_17 rfl ?_
      refine B.retN (by simp) d8_18 (by decide) (by decide) ?_
      exact ⟨rfl, rfl⟩
    · exact absurd c10 (by decide)
set_option maxRecDepth 65536 in
set_option maxHeartbeats 4000000 in
theorem rm_cd1 (l : Launch) (Z : State) (a0 : Array Value) (hw : ∀ d ∈ tables_1, d.before a0 Z = true) (a : Addr) (cs : Int32) (vf : Value) (h0 : Heap) (hcs : ¬ cs = 0) (hvf : vf.isRef = true) (S : Sta Z h0 "java/lang/String" "COMPACT_STRINGS" "Z" (.int cs)) (SA : Sta Z h0 "java/lang/StringUTF16" "$assertionsDisabled" "Z" (.int 1)) (SH : Sta Z h0 "java/lang/StringUTF16" "HI_BYTE_SHIFT" "I" (.int 0)) (SO : Sta Z h0 "java/lang/StringUTF16" "LO_BYTE_SHIFT" "I" (.int 8)) (SF : Sta Z h0 "jdk/internal/util/Preconditions" "SIOOBE_FORMATTER" "Ljava/util/function/BiFunction;" vf) (Fc : Fld Z h0 a "java/lang/String" "coder" "B" (.int (1 : Int32))) :
    Met l Z (⟨"java/lang/String", "coder", "()B"⟩ : MethodName) jdk_42_method_152_code 1 (some .byte) [] ({ frames := 0, cells := 0, slots := 0, locals := 0 } : Room) #[(.ref a)] h0 [] (fun v h => v = some (.int (1 : Int32)) ∧ h0 = h) := by
  refine Met.walk pn_10 (Ls := #[.val (.ref a)]) (fun m => by first | (simp [entryFrame, mkF, argsToLocals, Value.category, maxLocals]; done) | rfl) ?_
  intro p e s m below meth c B
  refine B.getS 3 rfl d10_0 (wd hw 49 rfl) S ?_
  refine B.if0_eq 13 6 rfl (by decide) rfl d10_3 (fun c3 => ?_) (fun c3 => ?_)
  · exact absurd c3 hcs
  · refine B.aloadN 7 rfl d10_6 rfl rfl ?_
    refine B.getF 10 rfl d10_7 (wd hw 27 rfl) Fc ?_
    refine B.goto 14 rfl (by decide) d10_10 ?_
    refine B.retN (by simp) d10_14 (by decide) (by decide) ?_
    exact ⟨rfl, rfl⟩
theorem d9_0 : decode jdk_42_method_54_code 0 = .ok (.aload_n 0, 1) := by decide +kernel
theorem d9_1 : decode jdk_42_method_54_code 1 = .ok (.getfield 9, 3) := by decide +kernel
theorem d9_4 : decode jdk_42_method_54_code 4 = .ok (.arraylength, 1) := by decide +kernel
theorem d9_5 : decode jdk_42_method_54_code 5 = .ok (.aload_n 0, 1) := by decide +kernel
theorem d9_6 : decode jdk_42_method_54_code 6 = .ok (.invokevirtual 335, 3) := by decide +kernel
theorem d9_9 : decode jdk_42_method_54_code 9 = .ok (.ishr, 1) := by decide +kernel
theorem d9_10 : decode jdk_42_method_54_code 10 = .ok (.ireturn, 1) := by decide +kernel
theorem pn_9 : plainFor (⟨"java/lang/String", "length", "()I"⟩ : MethodName) = true := by first | exact plainFor_of_name (by first | (simp [plainName, overriddenIn]; done) | decide +kernel) | decide +kernel
set_option maxRecDepth 65536 in
set_option maxHeartbeats 4000000 in
theorem rm_ln0_0 (l : Launch) (Z : State) (a0 : Array Value) (hw : ∀ d ∈ tables_1, d.before a0 Z = true) (a : Addr) (vb : Addr) (vs : List Value) (cs : Int32) (vf : Value) (h0 : Heap) (hcs : ¬ cs = 0) (hvf : vf.isRef = true) (S : Sta Z h0 "java/lang/String" "COMPACT_STRINGS" "Z" (.int cs)) (SA : Sta Z h0 "java/lang/StringUTF16" "$assertionsDisabled" "Z" (.int 1)) (SH : Sta Z h0 "java/lang/StringUTF16" "HI_BYTE_SHIFT" "I" (.int 0)) (SO : Sta Z h0 "java/lang/StringUTF16" "LO_BYTE_SHIFT" "I" (.int 8)) (SF : Sta Z h0 "jdk/internal/util/Preconditions" "SIOOBE_FORMATTER" "Ljava/util/function/BiFunction;" vf) (hn : vs.length.toInt32 = (0 : Int32)) (E : Exa Z h0 a "java/lang/String") (Fc : Fld Z h0 a "java/lang/String" "coder" "B" (.int (0 : Int32))) (Fv : Fld Z h0 a "java/lang/String" "value" "[B" (.ref vb)) (A : Ary Z h0 vb .byte vs) :
    Met l Z (⟨"java/lang/String", "length", "()I"⟩ : MethodName) jdk_42_method_54_code 1 (some .int) [] ({ frames := 1, cells := 0, slots := 0, locals := 13 } : Room) #[(.ref a)] h0 [] (fun v h => v = some (.int (0 : Int32)) ∧ h0 = h) := by
  refine Met.walk pn_9 (Ls := #[.val (.ref a)]) (fun m => by first | (simp [entryFrame, mkF, argsToLocals, Value.category, maxLocals]; done) | rfl) ?_
  intro p e s m below meth c B
  refine B.aloadN 1 rfl d9_0 rfl rfl ?_
  refine B.getF 4 rfl d9_1 (wd hw 26 rfl) Fv ?_
  refine B.arrlen 5 rfl d9_4 A (0 : Int32) hn ?_
  refine B.aloadN 6 rfl d9_5 rfl rfl ?_
  refine B.callV 9 rfl d9_6 (wd hw 55 rfl) (wd hw 56 rfl) (wd hw 58 rfl) (wd hw 57 rfl) (wd hw 8 rfl) (wd hw 59 rfl) (by decide) E [] [(.int (0 : Int32))] (rm_cd0 l Z a0 hw a cs vf h0 hcs hvf S SA SH SO SF Fc) rfl rfl pd___B rfl rfl 1 rfl (by decide) (by decide) (by decide) (by decide) (fun _ q => nomatch q) ?_
  rintro _ _ - ⟨rfl, rfl⟩
  show B.G h0 0 0 (mkF m 9 #[.val (.ref a)] [(.int (0 : Int32)), (.int (0 : Int32))])
  refine B.ishr 10 rfl d9_9 ?_
  refine B.topI (0 : Int32) (by decide) ?_
  refine B.retI d9_10 (by decide) (by decide) ?_
  exact ⟨rfl, rfl⟩
theorem d11_0 : decode jdk_43_method_22_code 0 = .ok (.iload_n 1, 1) := by decide +kernel
theorem d11_1 : decode jdk_43_method_22_code 1 = .ok (.invokestatic 88, 3) := by decide +kernel
theorem d11_4 : decode jdk_43_method_22_code 4 = .ok (.ifCond .ne 5, 3) := by decide +kernel
theorem d11_7 : decode jdk_43_method_22_code 7 = .ok (.iconst (-1), 1) := by decide +kernel
theorem d11_8 : decode jdk_43_method_22_code 8 = .ok (.ireturn, 1) := by decide +kernel
theorem pn_11 : plainFor (⟨"java/lang/StringLatin1", "indexOf", "([BIII)I"⟩ : MethodName) = true := by first | exact plainFor_of_name (by first | (simp [plainName, overriddenIn]; done) | decide +kernel) | decide +kernel
set_option maxRecDepth 65536 in
set_option maxHeartbeats 4000000 in
theorem rm_io0_0 (l : Launch) (Z : State) (a0 : Array Value) (hw : ∀ d ∈ tables_1, d.before a0 Z = true) (vb : Addr) (h0 : Heap)  :
    Met l Z (⟨"java/lang/StringLatin1", "indexOf", "([BIII)I"⟩ : MethodName) jdk_43_method_22_code 4 (some .int) [] ({ frames := 1, cells := 0, slots := 0, locals := 12 } : Room) #[(.ref vb), (.int (65533 : Int32)), (.int (0 : Int32)), (.int (0 : Int32))] h0 [] (fun v h => v = some (.int (-1 : Int32)) ∧ h0 = h) := by
  refine Met.walk pn_11 (Ls := #[.val (.ref vb), .val (.int (65533 : Int32)), .val (.int (0 : Int32)), .val (.int (0 : Int32))]) (fun m => by first | (simp [entryFrame, mkF, argsToLocals, Value.category, maxLocals]; done) | rfl) ?_
  intro p e s m below meth c B
  refine B.iloadN 1 rfl d11_0 rfl ?_
  refine B.callS 4 rfl d11_1 (wd hw 64 rfl) (wd hw 65 rfl) (wd hw 62 rfl) (wd hw 66 rfl) (by decide) [(.int (65533 : Int32))] [] (rm_ce l Z a0 hw h0) rfl rfl pd__I_Z rfl rfl 0 rfl (by decide) (by decide) (by decide) (by decide) (fun _ q => nomatch q) ?_
  rintro _ _ - ⟨rfl, rfl⟩
  show B.G h0 0 0 (mkF m 4 #[.val (.ref vb), .val (.int (65533 : Int32)), .val (.int (0 : Int32)), .val (.int (0 : Int32))] [(.int (0 : Int32))])
  refine B.if0_ne 9 7 rfl (by decide) rfl d11_4 (fun c4 => ?_) (fun c4 => ?_)
  · exact absurd c4 (by decide)
  · refine B.iconst 8 rfl (-1 : Int32) d11_7 rfl ?_
    refine B.retI d11_8 (by decide) (by decide) ?_
    exact ⟨rfl, rfl⟩
theorem d7_0 : decode jdk_42_method_80_code 0 = .ok (.aload_n 0, 1) := by decide +kernel
theorem d7_1 : decode jdk_42_method_80_code 1 = .ok (.invokevirtual 492, 3) := by decide +kernel
theorem d7_4 : decode jdk_42_method_80_code 4 = .ok (.ifCond .eq 19, 3) := by decide +kernel
theorem d7_7 : decode jdk_42_method_80_code 7 = .ok (.aload_n 0, 1) := by decide +kernel
theorem d7_8 : decode jdk_42_method_80_code 8 = .ok (.getfield 9, 3) := by decide +kernel
theorem d7_11 : decode jdk_42_method_80_code 11 = .ok (.iload_n 1, 1) := by decide +kernel
theorem d7_12 : decode jdk_42_method_80_code 12 = .ok (.iload_n 2, 1) := by decide +kernel
theorem d7_13 : decode jdk_42_method_80_code 13 = .ok (.aload_n 0, 1) := by decide +kernel
theorem d7_14 : decode jdk_42_method_80_code 14 = .ok (.invokevirtual 505, 3) := by decide +kernel
theorem d7_17 : decode jdk_42_method_80_code 17 = .ok (.invokestatic 637, 3) := by decide +kernel
theorem d7_20 : decode jdk_42_method_80_code 20 = .ok (.goto 16, 3) := by decide +kernel
theorem d7_36 : decode jdk_42_method_80_code 36 = .ok (.ireturn, 1) := by decide +kernel
theorem pn_7 : plainFor (⟨"java/lang/String", "indexOf", "(II)I"⟩ : MethodName) = true := by first | exact plainFor_of_name (by first | (simp [plainName, overriddenIn]; done) | decide +kernel) | decide +kernel
set_option maxRecDepth 65536 in
set_option maxHeartbeats 4000000 in
theorem rm_x20_0 (l : Launch) (Z : State) (a0 : Array Value) (hw : ∀ d ∈ tables_1, d.before a0 Z = true) (a : Addr) (vb : Addr) (vs : List Value) (cs : Int32) (vf : Value) (h0 : Heap) (hcs : ¬ cs = 0) (hvf : vf.isRef = true) (S : Sta Z h0 "java/lang/String" "COMPACT_STRINGS" "Z" (.int cs)) (SA : Sta Z h0 "java/lang/StringUTF16" "$assertionsDisabled" "Z" (.int 1)) (SH : Sta Z h0 "java/lang/StringUTF16" "HI_BYTE_SHIFT" "I" (.int 0)) (SO : Sta Z h0 "java/lang/StringUTF16" "LO_BYTE_SHIFT" "I" (.int 8)) (SF : Sta Z h0 "jdk/internal/util/Preconditions" "SIOOBE_FORMATTER" "Ljava/util/function/BiFunction;" vf) (hn : vs.length.toInt32 = (0 : Int32)) (E : Exa Z h0 a "java/lang/String") (Fc : Fld Z h0 a "java/lang/String" "coder" "B" (.int (0 : Int32))) (Fv : Fld Z h0 a "java/lang/String" "value" "[B" (.ref vb)) (A : Ary Z h0 vb .byte vs) :
    Met l Z (⟨"java/lang/String", "indexOf", "(II)I"⟩ : MethodName) jdk_42_method_80_code 3 (some .int) [] ({ frames := 2, cells := 0, slots := 0, locals := 28 } : Room) #[(.ref a), (.int (65533 : Int32)), (.int (0 : Int32))] h0 [] (fun v h => v = some (.int (-1 : Int32)) ∧ h0 = h) := by
  refine Met.walk pn_7 (Ls := #[.val (.ref a), .val (.int (65533 : Int32)), .val (.int (0 : Int32))]) (fun m => by first | (simp [entryFrame, mkF, argsToLocals, Value.category, maxLocals]; done) | rfl) ?_
  intro p e s m below meth c B
  refine B.aloadN 1 rfl d7_0 rfl rfl ?_
  refine B.callV 4 rfl d7_1 (wd hw 44 rfl) (wd hw 45 rfl) (wd hw 47 rfl) (wd hw 46 rfl) (wd hw 8 rfl) (wd hw 48 rfl) (by decide) E [] [] (rm_il0 l Z a0 hw a cs vf h0 hcs hvf S SA SH SO SF Fc) rfl rfl pd___Z rfl rfl 0 rfl (by decide) (by decide) (by decide) (by decide) (fun _ q => nomatch q) ?_
  rintro _ _ - ⟨rfl, rfl⟩
  show B.G h0 0 0 (mkF m 4 #[.val (.ref a), .val (.int (65533 : Int32)), .val (.int (0 : Int32))] [(.int (1 : Int32))])
  refine B.if0_eq 23 7 rfl (by decide) rfl d7_4 (fun c4 => ?_) (fun c4 => ?_)
  · exact absurd c4 (by decide)
  · refine B.aloadN 8 rfl d7_7 rfl rfl ?_
    refine B.getF 11 rfl d7_8 (wd hw 26 rfl) Fv ?_
    refine B.iloadN 12 rfl d7_11 rfl ?_
    refine B.iloadN 13 rfl d7_12 rfl ?_
    refine B.aloadN 14 rfl d7_13 rfl rfl ?_
    refine B.callV 17 rfl d7_14 (wd hw 50 rfl) (wd hw 51 rfl) (wd hw 53 rfl) (wd hw 52 rfl) (wd hw 8 rfl) (wd hw 54 rfl) (by decide) E [] [(.int (0 : Int32)), (.int (65533 : Int32)), (.ref vb)] (rm_ln0_0 l Z a0 hw a vb vs cs vf h0 hcs hvf S SA SH SO SF hn E Fc Fv A) rfl rfl pd___I rfl rfl 3 rfl (by decide) (by decide) (by decide) (by decide) (fun _ q => nomatch q) ?_
    rintro _ _ - ⟨rfl, rfl⟩
    show B.G h0 0 0 (mkF m 17 #[.val (.ref a), .val (.int (65533 : Int32)), .val (.int (0 : Int32))] [(.int (0 : Int32)), (.int (0 : Int32)), (.int (65533 : Int32)), (.ref vb)])
    refine B.callS 20 rfl d7_17 (wd hw 60 rfl) (wd hw 61 rfl) (wd hw 62 rfl) (wd hw 63 rfl) (by decide) [(.ref vb), (.int (65533 : Int32)), (.int (0 : Int32)), (.int (0 : Int32))] [] (rm_io0_0 l Z a0 hw vb h0) rfl rfl pd___BIII_I rfl rfl 0 rfl (by decide) (by decide) (by decide) (by decide) (fun _ q => nomatch q) ?_
    rintro _ _ - ⟨rfl, rfl⟩
    show B.G h0 0 0 (mkF m 20 #[.val (.ref a), .val (.int (65533 : Int32)), .val (.int (0 : Int32))] [(.int (-1 : Int32))])
    refine B.goto 36 rfl (by decide) d7_20 ?_
    refine B.retI d7_36 (by decide) (by decide) ?_
    exact ⟨rfl, rfl⟩
theorem d6_0 : decode jdk_42_method_79_code 0 = .ok (.aload_n 0, 1) := by decide +kernel
theorem d6_1 : decode jdk_42_method_79_code 1 = .ok (.iload_n 1, 1) := by decide +kernel
theorem d6_2 : decode jdk_42_method_79_code 2 = .ok (.iconst 0, 1) := by decide +kernel
theorem d6_3 : decode jdk_42_method_79_code 3 = .ok (.invokevirtual 633, 3) := by decide +kernel
theorem d6_6 : decode jdk_42_method_79_code 6 = .ok (.ireturn, 1) := by decide +kernel
theorem pn_6 : plainFor (⟨"java/lang/String", "indexOf", "(I)I"⟩ : MethodName) = true := by first | exact plainFor_of_name (by first | (simp [plainName, overriddenIn]; done) | decide +kernel) | decide +kernel
set_option maxRecDepth 65536 in
set_option maxHeartbeats 4000000 in
theorem rm_x10_0 (l : Launch) (Z : State) (a0 : Array Value) (hw : ∀ d ∈ tables_1, d.before a0 Z = true) (a : Addr) (vb : Addr) (vs : List Value) (cs : Int32) (vf : Value) (h0 : Heap) (hcs : ¬ cs = 0) (hvf : vf.isRef = true) (S : Sta Z h0 "java/lang/String" "COMPACT_STRINGS" "Z" (.int cs)) (SA : Sta Z h0 "java/lang/StringUTF16" "$assertionsDisabled" "Z" (.int 1)) (SH : Sta Z h0 "java/lang/StringUTF16" "HI_BYTE_SHIFT" "I" (.int 0)) (SO : Sta Z h0 "java/lang/StringUTF16" "LO_BYTE_SHIFT" "I" (.int 8)) (SF : Sta Z h0 "jdk/internal/util/Preconditions" "SIOOBE_FORMATTER" "Ljava/util/function/BiFunction;" vf) (hn : vs.length.toInt32 = (0 : Int32)) (E : Exa Z h0 a "java/lang/String") (Fc : Fld Z h0 a "java/lang/String" "coder" "B" (.int (0 : Int32))) (Fv : Fld Z h0 a "java/lang/String" "value" "[B" (.ref vb)) (A : Ary Z h0 vb .byte vs) :
    Met l Z (⟨"java/lang/String", "indexOf", "(I)I"⟩ : MethodName) jdk_42_method_79_code 2 (some .int) [] ({ frames := 3, cells := 0, slots := 0, locals := 42 } : Room) #[(.ref a), (.int (65533 : Int32))] h0 [] (fun v h => v = some (.int (-1 : Int32)) ∧ h0 = h) := by
  refine Met.walk pn_6 (Ls := #[.val (.ref a), .val (.int (65533 : Int32))]) (fun m => by first | (simp [entryFrame, mkF, argsToLocals, Value.category, maxLocals]; done) | rfl) ?_
  intro p e s m below meth c B
  refine B.aloadN 1 rfl d6_0 rfl rfl ?_
  refine B.iloadN 2 rfl d6_1 rfl ?_
  refine B.iconst 3 rfl (0 : Int32) d6_2 rfl ?_
  refine B.callV 6 rfl d6_3 (wd hw 39 rfl) (wd hw 40 rfl) (wd hw 42 rfl) (wd hw 41 rfl) (wd hw 8 rfl) (wd hw 43 rfl) (by decide) E [(.int (65533 : Int32)), (.int (0 : Int32))] [] (rm_x20_0 l Z a0 hw a vb vs cs vf h0 hcs hvf S SA SH SO SF hn E Fc Fv A) rfl rfl pd__II_I rfl rfl 0 rfl (by decide) (by decide) (by decide) (by decide) (fun _ q => nomatch q) ?_
  rintro _ _ - ⟨rfl, rfl⟩
  show B.G h0 0 0 (mkF m 6 #[.val (.ref a), .val (.int (65533 : Int32))] [(.int (-1 : Int32))])
  refine B.retI d6_6 (by decide) (by decide) ?_
  exact ⟨rfl, rfl⟩
theorem d5_0 : decode prog_2_method_2_code 0 = .ok (.aload_n 0, 1) := by decide +kernel
theorem d5_1 : decode prog_2_method_2_code 1 = .ok (.ldc 9, 2) := by decide +kernel
theorem d5_3 : decode prog_2_method_2_code 3 = .ok (.invokevirtual 10, 3) := by decide +kernel
theorem d5_6 : decode prog_2_method_2_code 6 = .ok (.ifCond .lt 7, 3) := by decide +kernel
theorem d5_13 : decode prog_2_method_2_code 13 = .ok (.iconst 0, 1) := by decide +kernel
theorem d5_14 : decode prog_2_method_2_code 14 = .ok (.ireturn, 1) := by decide +kernel
theorem pn_5 : plainFor (⟨"io/keyvouch/cli/Arguments", "undecoded", "(Ljava/lang/String;)Z"⟩ : MethodName) = true := by first | exact plainFor_of_name (by first | (simp [plainName, overriddenIn]; done) | decide +kernel) | decide +kernel
set_option maxRecDepth 65536 in
set_option maxHeartbeats 4000000 in
theorem rm_un0_0 (l : Launch) (Z : State) (a0 : Array Value) (hw : ∀ d ∈ tables_1, d.before a0 Z = true) (a : Addr) (vb : Addr) (vs : List Value) (cs : Int32) (vf : Value) (h0 : Heap) (hcs : ¬ cs = 0) (hvf : vf.isRef = true) (S : Sta Z h0 "java/lang/String" "COMPACT_STRINGS" "Z" (.int cs)) (SA : Sta Z h0 "java/lang/StringUTF16" "$assertionsDisabled" "Z" (.int 1)) (SH : Sta Z h0 "java/lang/StringUTF16" "HI_BYTE_SHIFT" "I" (.int 0)) (SO : Sta Z h0 "java/lang/StringUTF16" "LO_BYTE_SHIFT" "I" (.int 8)) (SF : Sta Z h0 "jdk/internal/util/Preconditions" "SIOOBE_FORMATTER" "Ljava/util/function/BiFunction;" vf) (hn : vs.length.toInt32 = (0 : Int32)) (E : Exa Z h0 a "java/lang/String") (Fc : Fld Z h0 a "java/lang/String" "coder" "B" (.int (0 : Int32))) (Fv : Fld Z h0 a "java/lang/String" "value" "[B" (.ref vb)) (A : Ary Z h0 vb .byte vs) :
    Met l Z (⟨"io/keyvouch/cli/Arguments", "undecoded", "(Ljava/lang/String;)Z"⟩ : MethodName) prog_2_method_2_code 1 (some .boolean) [] ({ frames := 4, cells := 0, slots := 0, locals := 55 } : Room) #[(.ref a)] h0 [] (fun v h => v = some (.int (0 : Int32)) ∧ h0 = h) := by
  refine Met.walk pn_5 (Ls := #[.val (.ref a)]) (fun m => by first | (simp [entryFrame, mkF, argsToLocals, Value.category, maxLocals]; done) | rfl) ?_
  intro p e s m below meth c B
  refine B.aloadN 1 rfl d5_0 rfl rfl ?_
  refine B.ldcI 3 rfl d5_1 (wd hw 33 rfl) ?_
  refine B.callV 6 rfl d5_3 (wd hw 34 rfl) (wd hw 35 rfl) (wd hw 37 rfl) (wd hw 36 rfl) (wd hw 8 rfl) (wd hw 38 rfl) (by decide) E [(.int (65533 : Int32))] [] (rm_x10_0 l Z a0 hw a vb vs cs vf h0 hcs hvf S SA SH SO SF hn E Fc Fv A) rfl rfl pd__I_I rfl rfl 0 rfl (by decide) (by decide) (by decide) (by decide) (fun _ q => nomatch q) ?_
  rintro _ _ - ⟨rfl, rfl⟩
  show B.G h0 0 0 (mkF m 6 #[.val (.ref a)] [(.int (-1 : Int32))])
  refine B.if0_lt 13 9 rfl (by decide) rfl d5_6 (fun c6 => ?_) (fun c6 => ?_)
  · refine B.iconst 14 rfl (0 : Int32) d5_13 rfl ?_
    refine B.retN (by simp) d5_14 (by decide) (by decide) ?_
    exact ⟨rfl, rfl⟩
  · exact absurd c6 (by decide)
set_option maxRecDepth 65536 in
set_option maxHeartbeats 4000000 in
theorem rm_ln1_0 (l : Launch) (Z : State) (a0 : Array Value) (hw : ∀ d ∈ tables_1, d.before a0 Z = true) (a : Addr) (vb : Addr) (vs : List Value) (cs : Int32) (vf : Value) (h0 : Heap) (hcs : ¬ cs = 0) (hvf : vf.isRef = true) (S : Sta Z h0 "java/lang/String" "COMPACT_STRINGS" "Z" (.int cs)) (SA : Sta Z h0 "java/lang/StringUTF16" "$assertionsDisabled" "Z" (.int 1)) (SH : Sta Z h0 "java/lang/StringUTF16" "HI_BYTE_SHIFT" "I" (.int 0)) (SO : Sta Z h0 "java/lang/StringUTF16" "LO_BYTE_SHIFT" "I" (.int 8)) (SF : Sta Z h0 "jdk/internal/util/Preconditions" "SIOOBE_FORMATTER" "Ljava/util/function/BiFunction;" vf) (hn : vs.length.toInt32 = (1 : Int32)) (E : Exa Z h0 a "java/lang/String") (Fc : Fld Z h0 a "java/lang/String" "coder" "B" (.int (0 : Int32))) (Fv : Fld Z h0 a "java/lang/String" "value" "[B" (.ref vb)) (A : Ary Z h0 vb .byte vs) :
    Met l Z (⟨"java/lang/String", "length", "()I"⟩ : MethodName) jdk_42_method_54_code 1 (some .int) [] ({ frames := 1, cells := 0, slots := 0, locals := 13 } : Room) #[(.ref a)] h0 [] (fun v h => v = some (.int (1 : Int32)) ∧ h0 = h) := by
  refine Met.walk pn_9 (Ls := #[.val (.ref a)]) (fun m => by first | (simp [entryFrame, mkF, argsToLocals, Value.category, maxLocals]; done) | rfl) ?_
  intro p e s m below meth c B
  refine B.aloadN 1 rfl d9_0 rfl rfl ?_
  refine B.getF 4 rfl d9_1 (wd hw 26 rfl) Fv ?_
  refine B.arrlen 5 rfl d9_4 A (1 : Int32) hn ?_
  refine B.aloadN 6 rfl d9_5 rfl rfl ?_
  refine B.callV 9 rfl d9_6 (wd hw 55 rfl) (wd hw 56 rfl) (wd hw 58 rfl) (wd hw 57 rfl) (wd hw 8 rfl) (wd hw 59 rfl) (by decide) E [] [(.int (1 : Int32))] (rm_cd0 l Z a0 hw a cs vf h0 hcs hvf S SA SH SO SF Fc) rfl rfl pd___B rfl rfl 1 rfl (by decide) (by decide) (by decide) (by decide) (fun _ q => nomatch q) ?_
  rintro _ _ - ⟨rfl, rfl⟩
  show B.G h0 0 0 (mkF m 9 #[.val (.ref a)] [(.int (0 : Int32)), (.int (1 : Int32))])
  refine B.ishr 10 rfl d9_9 ?_
  refine B.topI (1 : Int32) (by decide) ?_
  refine B.retI d9_10 (by decide) (by decide) ?_
  exact ⟨rfl, rfl⟩
set_option maxRecDepth 65536 in
set_option maxHeartbeats 4000000 in
theorem rm_io1_0 (l : Launch) (Z : State) (a0 : Array Value) (hw : ∀ d ∈ tables_1, d.before a0 Z = true) (vb : Addr) (h0 : Heap)  :
    Met l Z (⟨"java/lang/StringLatin1", "indexOf", "([BIII)I"⟩ : MethodName) jdk_43_method_22_code 4 (some .int) [] ({ frames := 1, cells := 0, slots := 0, locals := 12 } : Room) #[(.ref vb), (.int (65533 : Int32)), (.int (0 : Int32)), (.int (1 : Int32))] h0 [] (fun v h => v = some (.int (-1 : Int32)) ∧ h0 = h) := by
  refine Met.walk pn_11 (Ls := #[.val (.ref vb), .val (.int (65533 : Int32)), .val (.int (0 : Int32)), .val (.int (1 : Int32))]) (fun m => by first | (simp [entryFrame, mkF, argsToLocals, Value.category, maxLocals]; done) | rfl) ?_
  intro p e s m below meth c B
  refine B.iloadN 1 rfl d11_0 rfl ?_
  refine B.callS 4 rfl d11_1 (wd hw 64 rfl) (wd hw 65 rfl) (wd hw 62 rfl) (wd hw 66 rfl) (by decide) [(.int (65533 : Int32))] [] (rm_ce l Z a0 hw h0) rfl rfl pd__I_Z rfl rfl 0 rfl (by decide) (by decide) (by decide) (by decide) (fun _ q => nomatch q) ?_
  rintro _ _ - ⟨rfl, rfl⟩
  show B.G h0 0 0 (mkF m 4 #[.val (.ref vb), .val (.int (65533 : Int32)), .val (.int (0 : Int32)), .val (.int (1 : Int32))] [(.int (0 : Int32))])
  refine B.if0_ne 9 7 rfl (by decide) rfl d11_4 (fun c4 => ?_) (fun c4 => ?_)
  · exact absurd c4 (by decide)
  · refine B.iconst 8 rfl (-1 : Int32) d11_7 rfl ?_
    refine B.retI d11_8 (by decide) (by decide) ?_
    exact ⟨rfl, rfl⟩
set_option maxRecDepth 65536 in
set_option maxHeartbeats 4000000 in
theorem rm_x21_0 (l : Launch) (Z : State) (a0 : Array Value) (hw : ∀ d ∈ tables_1, d.before a0 Z = true) (a : Addr) (vb : Addr) (vs : List Value) (cs : Int32) (vf : Value) (h0 : Heap) (hcs : ¬ cs = 0) (hvf : vf.isRef = true) (S : Sta Z h0 "java/lang/String" "COMPACT_STRINGS" "Z" (.int cs)) (SA : Sta Z h0 "java/lang/StringUTF16" "$assertionsDisabled" "Z" (.int 1)) (SH : Sta Z h0 "java/lang/StringUTF16" "HI_BYTE_SHIFT" "I" (.int 0)) (SO : Sta Z h0 "java/lang/StringUTF16" "LO_BYTE_SHIFT" "I" (.int 8)) (SF : Sta Z h0 "jdk/internal/util/Preconditions" "SIOOBE_FORMATTER" "Ljava/util/function/BiFunction;" vf) (hn : vs.length.toInt32 = (1 : Int32)) (E : Exa Z h0 a "java/lang/String") (Fc : Fld Z h0 a "java/lang/String" "coder" "B" (.int (0 : Int32))) (Fv : Fld Z h0 a "java/lang/String" "value" "[B" (.ref vb)) (A : Ary Z h0 vb .byte vs) :
    Met l Z (⟨"java/lang/String", "indexOf", "(II)I"⟩ : MethodName) jdk_42_method_80_code 3 (some .int) [] ({ frames := 2, cells := 0, slots := 0, locals := 28 } : Room) #[(.ref a), (.int (65533 : Int32)), (.int (0 : Int32))] h0 [] (fun v h => v = some (.int (-1 : Int32)) ∧ h0 = h) := by
  refine Met.walk pn_7 (Ls := #[.val (.ref a), .val (.int (65533 : Int32)), .val (.int (0 : Int32))]) (fun m => by first | (simp [entryFrame, mkF, argsToLocals, Value.category, maxLocals]; done) | rfl) ?_
  intro p e s m below meth c B
  refine B.aloadN 1 rfl d7_0 rfl rfl ?_
  refine B.callV 4 rfl d7_1 (wd hw 44 rfl) (wd hw 45 rfl) (wd hw 47 rfl) (wd hw 46 rfl) (wd hw 8 rfl) (wd hw 48 rfl) (by decide) E [] [] (rm_il0 l Z a0 hw a cs vf h0 hcs hvf S SA SH SO SF Fc) rfl rfl pd___Z rfl rfl 0 rfl (by decide) (by decide) (by decide) (by decide) (fun _ q => nomatch q) ?_
  rintro _ _ - ⟨rfl, rfl⟩
  show B.G h0 0 0 (mkF m 4 #[.val (.ref a), .val (.int (65533 : Int32)), .val (.int (0 : Int32))] [(.int (1 : Int32))])
  refine B.if0_eq 23 7 rfl (by decide) rfl d7_4 (fun c4 => ?_) (fun c4 => ?_)
  · exact absurd c4 (by decide)
  · refine B.aloadN 8 rfl d7_7 rfl rfl ?_
    refine B.getF 11 rfl d7_8 (wd hw 26 rfl) Fv ?_
    refine B.iloadN 12 rfl d7_11 rfl ?_
    refine B.iloadN 13 rfl d7_12 rfl ?_
    refine B.aloadN 14 rfl d7_13 rfl rfl ?_
    refine B.callV 17 rfl d7_14 (wd hw 50 rfl) (wd hw 51 rfl) (wd hw 53 rfl) (wd hw 52 rfl) (wd hw 8 rfl) (wd hw 54 rfl) (by decide) E [] [(.int (0 : Int32)), (.int (65533 : Int32)), (.ref vb)] (rm_ln1_0 l Z a0 hw a vb vs cs vf h0 hcs hvf S SA SH SO SF hn E Fc Fv A) rfl rfl pd___I rfl rfl 3 rfl (by decide) (by decide) (by decide) (by decide) (fun _ q => nomatch q) ?_
    rintro _ _ - ⟨rfl, rfl⟩
    show B.G h0 0 0 (mkF m 17 #[.val (.ref a), .val (.int (65533 : Int32)), .val (.int (0 : Int32))] [(.int (1 : Int32)), (.int (0 : Int32)), (.int (65533 : Int32)), (.ref vb)])
    refine B.callS 20 rfl d7_17 (wd hw 60 rfl) (wd hw 61 rfl) (wd hw 62 rfl) (wd hw 63 rfl) (by decide) [(.ref vb), (.int (65533 : Int32)), (.int (0 : Int32)), (.int (1 : Int32))] [] (rm_io1_0 l Z a0 hw vb h0) rfl rfl pd___BIII_I rfl rfl 0 rfl (by decide) (by decide) (by decide) (by decide) (fun _ q => nomatch q) ?_
    rintro _ _ - ⟨rfl, rfl⟩
    show B.G h0 0 0 (mkF m 20 #[.val (.ref a), .val (.int (65533 : Int32)), .val (.int (0 : Int32))] [(.int (-1 : Int32))])
    refine B.goto 36 rfl (by decide) d7_20 ?_
    refine B.retI d7_36 (by decide) (by decide) ?_
    exact ⟨rfl, rfl⟩
set_option maxRecDepth 65536 in
set_option maxHeartbeats 4000000 in
theorem rm_x11_0 (l : Launch) (Z : State) (a0 : Array Value) (hw : ∀ d ∈ tables_1, d.before a0 Z = true) (a : Addr) (vb : Addr) (vs : List Value) (cs : Int32) (vf : Value) (h0 : Heap) (hcs : ¬ cs = 0) (hvf : vf.isRef = true) (S : Sta Z h0 "java/lang/String" "COMPACT_STRINGS" "Z" (.int cs)) (SA : Sta Z h0 "java/lang/StringUTF16" "$assertionsDisabled" "Z" (.int 1)) (SH : Sta Z h0 "java/lang/StringUTF16" "HI_BYTE_SHIFT" "I" (.int 0)) (SO : Sta Z h0 "java/lang/StringUTF16" "LO_BYTE_SHIFT" "I" (.int 8)) (SF : Sta Z h0 "jdk/internal/util/Preconditions" "SIOOBE_FORMATTER" "Ljava/util/function/BiFunction;" vf) (hn : vs.length.toInt32 = (1 : Int32)) (E : Exa Z h0 a "java/lang/String") (Fc : Fld Z h0 a "java/lang/String" "coder" "B" (.int (0 : Int32))) (Fv : Fld Z h0 a "java/lang/String" "value" "[B" (.ref vb)) (A : Ary Z h0 vb .byte vs) :
    Met l Z (⟨"java/lang/String", "indexOf", "(I)I"⟩ : MethodName) jdk_42_method_79_code 2 (some .int) [] ({ frames := 3, cells := 0, slots := 0, locals := 42 } : Room) #[(.ref a), (.int (65533 : Int32))] h0 [] (fun v h => v = some (.int (-1 : Int32)) ∧ h0 = h) := by
  refine Met.walk pn_6 (Ls := #[.val (.ref a), .val (.int (65533 : Int32))]) (fun m => by first | (simp [entryFrame, mkF, argsToLocals, Value.category, maxLocals]; done) | rfl) ?_
  intro p e s m below meth c B
  refine B.aloadN 1 rfl d6_0 rfl rfl ?_
  refine B.iloadN 2 rfl d6_1 rfl ?_
  refine B.iconst 3 rfl (0 : Int32) d6_2 rfl ?_
  refine B.callV 6 rfl d6_3 (wd hw 39 rfl) (wd hw 40 rfl) (wd hw 42 rfl) (wd hw 41 rfl) (wd hw 8 rfl) (wd hw 43 rfl) (by decide) E [(.int (65533 : Int32)), (.int (0 : Int32))] [] (rm_x21_0 l Z a0 hw a vb vs cs vf h0 hcs hvf S SA SH SO SF hn E Fc Fv A) rfl rfl pd__II_I rfl rfl 0 rfl (by decide) (by decide) (by decide) (by decide) (fun _ q => nomatch q) ?_
  rintro _ _ - ⟨rfl, rfl⟩
  show B.G h0 0 0 (mkF m 6 #[.val (.ref a), .val (.int (65533 : Int32))] [(.int (-1 : Int32))])
  refine B.retI d6_6 (by decide) (by decide) ?_
  exact ⟨rfl, rfl⟩
set_option maxRecDepth 65536 in
set_option maxHeartbeats 4000000 in
theorem rm_un1_0 (l : Launch) (Z : State) (a0 : Array Value) (hw : ∀ d ∈ tables_1, d.before a0 Z = true) (a : Addr) (vb : Addr) (vs : List Value) (cs : Int32) (vf : Value) (h0 : Heap) (hcs : ¬ cs = 0) (hvf : vf.isRef = true) (S : Sta Z h0 "java/lang/String" "COMPACT_STRINGS" "Z" (.int cs)) (SA : Sta Z h0 "java/lang/StringUTF16" "$assertionsDisabled" "Z" (.int 1)) (SH : Sta Z h0 "java/lang/StringUTF16" "HI_BYTE_SHIFT" "I" (.int 0)) (SO : Sta Z h0 "java/lang/StringUTF16" "LO_BYTE_SHIFT" "I" (.int 8)) (SF : Sta Z h0 "jdk/internal/util/Preconditions" "SIOOBE_FORMATTER" "Ljava/util/function/BiFunction;" vf) (hn : vs.length.toInt32 = (1 : Int32)) (E : Exa Z h0 a "java/lang/String") (Fc : Fld Z h0 a "java/lang/String" "coder" "B" (.int (0 : Int32))) (Fv : Fld Z h0 a "java/lang/String" "value" "[B" (.ref vb)) (A : Ary Z h0 vb .byte vs) :
    Met l Z (⟨"io/keyvouch/cli/Arguments", "undecoded", "(Ljava/lang/String;)Z"⟩ : MethodName) prog_2_method_2_code 1 (some .boolean) [] ({ frames := 4, cells := 0, slots := 0, locals := 55 } : Room) #[(.ref a)] h0 [] (fun v h => v = some (.int (0 : Int32)) ∧ h0 = h) := by
  refine Met.walk pn_5 (Ls := #[.val (.ref a)]) (fun m => by first | (simp [entryFrame, mkF, argsToLocals, Value.category, maxLocals]; done) | rfl) ?_
  intro p e s m below meth c B
  refine B.aloadN 1 rfl d5_0 rfl rfl ?_
  refine B.ldcI 3 rfl d5_1 (wd hw 33 rfl) ?_
  refine B.callV 6 rfl d5_3 (wd hw 34 rfl) (wd hw 35 rfl) (wd hw 37 rfl) (wd hw 36 rfl) (wd hw 8 rfl) (wd hw 38 rfl) (by decide) E [(.int (65533 : Int32))] [] (rm_x11_0 l Z a0 hw a vb vs cs vf h0 hcs hvf S SA SH SO SF hn E Fc Fv A) rfl rfl pd__I_I rfl rfl 0 rfl (by decide) (by decide) (by decide) (by decide) (fun _ q => nomatch q) ?_
  rintro _ _ - ⟨rfl, rfl⟩
  show B.G h0 0 0 (mkF m 6 #[.val (.ref a)] [(.int (-1 : Int32))])
  refine B.if0_lt 13 9 rfl (by decide) rfl d5_6 (fun c6 => ?_) (fun c6 => ?_)
  · refine B.iconst 14 rfl (0 : Int32) d5_13 rfl ?_
    refine B.retN (by simp) d5_14 (by decide) (by decide) ?_
    exact ⟨rfl, rfl⟩
  · exact absurd c6 (by decide)
set_option maxRecDepth 65536 in
set_option maxHeartbeats 4000000 in
theorem rm_ln2_0 (l : Launch) (Z : State) (a0 : Array Value) (hw : ∀ d ∈ tables_1, d.before a0 Z = true) (a : Addr) (vb : Addr) (vs : List Value) (cs : Int32) (vf : Value) (h0 : Heap) (hcs : ¬ cs = 0) (hvf : vf.isRef = true) (S : Sta Z h0 "java/lang/String" "COMPACT_STRINGS" "Z" (.int cs)) (SA : Sta Z h0 "java/lang/StringUTF16" "$assertionsDisabled" "Z" (.int 1)) (SH : Sta Z h0 "java/lang/StringUTF16" "HI_BYTE_SHIFT" "I" (.int 0)) (SO : Sta Z h0 "java/lang/StringUTF16" "LO_BYTE_SHIFT" "I" (.int 8)) (SF : Sta Z h0 "jdk/internal/util/Preconditions" "SIOOBE_FORMATTER" "Ljava/util/function/BiFunction;" vf) (hn : vs.length.toInt32 = (2 : Int32)) (E : Exa Z h0 a "java/lang/String") (Fc : Fld Z h0 a "java/lang/String" "coder" "B" (.int (0 : Int32))) (Fv : Fld Z h0 a "java/lang/String" "value" "[B" (.ref vb)) (A : Ary Z h0 vb .byte vs) :
    Met l Z (⟨"java/lang/String", "length", "()I"⟩ : MethodName) jdk_42_method_54_code 1 (some .int) [] ({ frames := 1, cells := 0, slots := 0, locals := 13 } : Room) #[(.ref a)] h0 [] (fun v h => v = some (.int (2 : Int32)) ∧ h0 = h) := by
  refine Met.walk pn_9 (Ls := #[.val (.ref a)]) (fun m => by first | (simp [entryFrame, mkF, argsToLocals, Value.category, maxLocals]; done) | rfl) ?_
  intro p e s m below meth c B
  refine B.aloadN 1 rfl d9_0 rfl rfl ?_
  refine B.getF 4 rfl d9_1 (wd hw 26 rfl) Fv ?_
  refine B.arrlen 5 rfl d9_4 A (2 : Int32) hn ?_
  refine B.aloadN 6 rfl d9_5 rfl rfl ?_
  refine B.callV 9 rfl d9_6 (wd hw 55 rfl) (wd hw 56 rfl) (wd hw 58 rfl) (wd hw 57 rfl) (wd hw 8 rfl) (wd hw 59 rfl) (by decide) E [] [(.int (2 : Int32))] (rm_cd0 l Z a0 hw a cs vf h0 hcs hvf S SA SH SO SF Fc) rfl rfl pd___B rfl rfl 1 rfl (by decide) (by decide) (by decide) (by decide) (fun _ q => nomatch q) ?_
  rintro _ _ - ⟨rfl, rfl⟩
  show B.G h0 0 0 (mkF m 9 #[.val (.ref a)] [(.int (0 : Int32)), (.int (2 : Int32))])
  refine B.ishr 10 rfl d9_9 ?_
  refine B.topI (2 : Int32) (by decide) ?_
  refine B.retI d9_10 (by decide) (by decide) ?_
  exact ⟨rfl, rfl⟩
set_option maxRecDepth 65536 in
set_option maxHeartbeats 4000000 in
theorem rm_io2_0 (l : Launch) (Z : State) (a0 : Array Value) (hw : ∀ d ∈ tables_1, d.before a0 Z = true) (vb : Addr) (h0 : Heap)  :
    Met l Z (⟨"java/lang/StringLatin1", "indexOf", "([BIII)I"⟩ : MethodName) jdk_43_method_22_code 4 (some .int) [] ({ frames := 1, cells := 0, slots := 0, locals := 12 } : Room) #[(.ref vb), (.int (65533 : Int32)), (.int (0 : Int32)), (.int (2 : Int32))] h0 [] (fun v h => v = some (.int (-1 : Int32)) ∧ h0 = h) := by
  refine Met.walk pn_11 (Ls := #[.val (.ref vb), .val (.int (65533 : Int32)), .val (.int (0 : Int32)), .val (.int (2 : Int32))]) (fun m => by first | (simp [entryFrame, mkF, argsToLocals, Value.category, maxLocals]; done) | rfl) ?_
  intro p e s m below meth c B
  refine B.iloadN 1 rfl d11_0 rfl ?_
  refine B.callS 4 rfl d11_1 (wd hw 64 rfl) (wd hw 65 rfl) (wd hw 62 rfl) (wd hw 66 rfl) (by decide) [(.int (65533 : Int32))] [] (rm_ce l Z a0 hw h0) rfl rfl pd__I_Z rfl rfl 0 rfl (by decide) (by decide) (by decide) (by decide) (fun _ q => nomatch q) ?_
  rintro _ _ - ⟨rfl, rfl⟩
  show B.G h0 0 0 (mkF m 4 #[.val (.ref vb), .val (.int (65533 : Int32)), .val (.int (0 : Int32)), .val (.int (2 : Int32))] [(.int (0 : Int32))])
  refine B.if0_ne 9 7 rfl (by decide) rfl d11_4 (fun c4 => ?_) (fun c4 => ?_)
  · exact absurd c4 (by decide)
  · refine B.iconst 8 rfl (-1 : Int32) d11_7 rfl ?_
    refine B.retI d11_8 (by decide) (by decide) ?_
    exact ⟨rfl, rfl⟩
set_option maxRecDepth 65536 in
set_option maxHeartbeats 4000000 in
theorem rm_x22_0 (l : Launch) (Z : State) (a0 : Array Value) (hw : ∀ d ∈ tables_1, d.before a0 Z = true) (a : Addr) (vb : Addr) (vs : List Value) (cs : Int32) (vf : Value) (h0 : Heap) (hcs : ¬ cs = 0) (hvf : vf.isRef = true) (S : Sta Z h0 "java/lang/String" "COMPACT_STRINGS" "Z" (.int cs)) (SA : Sta Z h0 "java/lang/StringUTF16" "$assertionsDisabled" "Z" (.int 1)) (SH : Sta Z h0 "java/lang/StringUTF16" "HI_BYTE_SHIFT" "I" (.int 0)) (SO : Sta Z h0 "java/lang/StringUTF16" "LO_BYTE_SHIFT" "I" (.int 8)) (SF : Sta Z h0 "jdk/internal/util/Preconditions" "SIOOBE_FORMATTER" "Ljava/util/function/BiFunction;" vf) (hn : vs.length.toInt32 = (2 : Int32)) (E : Exa Z h0 a "java/lang/String") (Fc : Fld Z h0 a "java/lang/String" "coder" "B" (.int (0 : Int32))) (Fv : Fld Z h0 a "java/lang/String" "value" "[B" (.ref vb)) (A : Ary Z h0 vb .byte vs) :
    Met l Z (⟨"java/lang/String", "indexOf", "(II)I"⟩ : MethodName) jdk_42_method_80_code 3 (some .int) [] ({ frames := 2, cells := 0, slots := 0, locals := 28 } : Room) #[(.ref a), (.int (65533 : Int32)), (.int (0 : Int32))] h0 [] (fun v h => v = some (.int (-1 : Int32)) ∧ h0 = h) := by
  refine Met.walk pn_7 (Ls := #[.val (.ref a), .val (.int (65533 : Int32)), .val (.int (0 : Int32))]) (fun m => by first | (simp [entryFrame, mkF, argsToLocals, Value.category, maxLocals]; done) | rfl) ?_
  intro p e s m below meth c B
  refine B.aloadN 1 rfl d7_0 rfl rfl ?_
  refine B.callV 4 rfl d7_1 (wd hw 44 rfl) (wd hw 45 rfl) (wd hw 47 rfl) (wd hw 46 rfl) (wd hw 8 rfl) (wd hw 48 rfl) (by decide) E [] [] (rm_il0 l Z a0 hw a cs vf h0 hcs hvf S SA SH SO SF Fc) rfl rfl pd___Z rfl rfl 0 rfl (by decide) (by decide) (by decide) (by decide) (fun _ q => nomatch q) ?_
  rintro _ _ - ⟨rfl, rfl⟩
  show B.G h0 0 0 (mkF m 4 #[.val (.ref a), .val (.int (65533 : Int32)), .val (.int (0 : Int32))] [(.int (1 : Int32))])
  refine B.if0_eq 23 7 rfl (by decide) rfl d7_4 (fun c4 => ?_) (fun c4 => ?_)
  · exact absurd c4 (by decide)
  · refine B.aloadN 8 rfl d7_7 rfl rfl ?_
    refine B.getF 11 rfl d7_8 (wd hw 26 rfl) Fv ?_
    refine B.iloadN 12 rfl d7_11 rfl ?_
    refine B.iloadN 13 rfl d7_12 rfl ?_
    refine B.aloadN 14 rfl d7_13 rfl rfl ?_
    refine B.callV 17 rfl d7_14 (wd hw 50 rfl) (wd hw 51 rfl) (wd hw 53 rfl) (wd hw 52 rfl) (wd hw 8 rfl) (wd hw 54 rfl) (by decide) E [] [(.int (0 : Int32)), (.int (65533 : Int32)), (.ref vb)] (rm_ln2_0 l Z a0 hw a vb vs cs vf h0 hcs hvf S SA SH SO SF hn E Fc Fv A) rfl rfl pd___I rfl rfl 3 rfl (by decide) (by decide) (by decide) (by decide) (fun _ q => nomatch q) ?_
    rintro _ _ - ⟨rfl, rfl⟩
    show B.G h0 0 0 (mkF m 17 #[.val (.ref a), .val (.int (65533 : Int32)), .val (.int (0 : Int32))] [(.int (2 : Int32)), (.int (0 : Int32)), (.int (65533 : Int32)), (.ref vb)])
    refine B.callS 20 rfl d7_17 (wd hw 60 rfl) (wd hw 61 rfl) (wd hw 62 rfl) (wd hw 63 rfl) (by decide) [(.ref vb), (.int (65533 : Int32)), (.int (0 : Int32)), (.int (2 : Int32))] [] (rm_io2_0 l Z a0 hw vb h0) rfl rfl pd___BIII_I rfl rfl 0 rfl (by decide) (by decide) (by decide) (by decide) (fun _ q => nomatch q) ?_
    rintro _ _ - ⟨rfl, rfl⟩
    show B.G h0 0 0 (mkF m 20 #[.val (.ref a), .val (.int (65533 : Int32)), .val (.int (0 : Int32))] [(.int (-1 : Int32))])
    refine B.goto 36 rfl (by decide) d7_20 ?_
    refine B.retI d7_36 (by decide) (by decide) ?_
    exact ⟨rfl, rfl⟩
set_option maxRecDepth 65536 in
set_option maxHeartbeats 4000000 in
theorem rm_x12_0 (l : Launch) (Z : State) (a0 : Array Value) (hw : ∀ d ∈ tables_1, d.before a0 Z = true) (a : Addr) (vb : Addr) (vs : List Value) (cs : Int32) (vf : Value) (h0 : Heap) (hcs : ¬ cs = 0) (hvf : vf.isRef = true) (S : Sta Z h0 "java/lang/String" "COMPACT_STRINGS" "Z" (.int cs)) (SA : Sta Z h0 "java/lang/StringUTF16" "$assertionsDisabled" "Z" (.int 1)) (SH : Sta Z h0 "java/lang/StringUTF16" "HI_BYTE_SHIFT" "I" (.int 0)) (SO : Sta Z h0 "java/lang/StringUTF16" "LO_BYTE_SHIFT" "I" (.int 8)) (SF : Sta Z h0 "jdk/internal/util/Preconditions" "SIOOBE_FORMATTER" "Ljava/util/function/BiFunction;" vf) (hn : vs.length.toInt32 = (2 : Int32)) (E : Exa Z h0 a "java/lang/String") (Fc : Fld Z h0 a "java/lang/String" "coder" "B" (.int (0 : Int32))) (Fv : Fld Z h0 a "java/lang/String" "value" "[B" (.ref vb)) (A : Ary Z h0 vb .byte vs) :
    Met l Z (⟨"java/lang/String", "indexOf", "(I)I"⟩ : MethodName) jdk_42_method_79_code 2 (some .int) [] ({ frames := 3, cells := 0, slots := 0, locals := 42 } : Room) #[(.ref a), (.int (65533 : Int32))] h0 [] (fun v h => v = some (.int (-1 : Int32)) ∧ h0 = h) := by
  refine Met.walk pn_6 (Ls := #[.val (.ref a), .val (.int (65533 : Int32))]) (fun m => by first | (simp [entryFrame, mkF, argsToLocals, Value.category, maxLocals]; done) | rfl) ?_
  intro p e s m below meth c B
  refine B.aloadN 1 rfl d6_0 rfl rfl ?_
  refine B.iloadN 2 rfl d6_1 rfl ?_
  refine B.iconst 3 rfl (0 : Int32) d6_2 rfl ?_
  refine B.callV 6 rfl d6_3 (wd hw 39 rfl) (wd hw 40 rfl) (wd hw 42 rfl) (wd hw 41 rfl) (wd hw 8 rfl) (wd hw 43 rfl) (by decide) E [(.int (65533 : Int32)), (.int (0 : Int32))] [] (rm_x22_0 l Z a0 hw a vb vs cs vf h0 hcs hvf S SA SH SO SF hn E Fc Fv A) rfl rfl pd__II_I rfl rfl 0 rfl (by decide) (by decide) (by decide) (by decide) (fun _ q => nomatch q) ?_
  rintro _ _ - ⟨rfl, rfl⟩
  show B.G h0 0 0 (mkF m 6 #[.val (.ref a), .val (.int (65533 : Int32))] [(.int (-1 : Int32))])
  refine B.retI d6_6 (by decide) (by decide) ?_
  exact ⟨rfl, rfl⟩
set_option maxRecDepth 65536 in
set_option maxHeartbeats 4000000 in
theorem rm_un2_0 (l : Launch) (Z : State) (a0 : Array Value) (hw : ∀ d ∈ tables_1, d.before a0 Z = true) (a : Addr) (vb : Addr) (vs : List Value) (cs : Int32) (vf : Value) (h0 : Heap) (hcs : ¬ cs = 0) (hvf : vf.isRef = true) (S : Sta Z h0 "java/lang/String" "COMPACT_STRINGS" "Z" (.int cs)) (SA : Sta Z h0 "java/lang/StringUTF16" "$assertionsDisabled" "Z" (.int 1)) (SH : Sta Z h0 "java/lang/StringUTF16" "HI_BYTE_SHIFT" "I" (.int 0)) (SO : Sta Z h0 "java/lang/StringUTF16" "LO_BYTE_SHIFT" "I" (.int 8)) (SF : Sta Z h0 "jdk/internal/util/Preconditions" "SIOOBE_FORMATTER" "Ljava/util/function/BiFunction;" vf) (hn : vs.length.toInt32 = (2 : Int32)) (E : Exa Z h0 a "java/lang/String") (Fc : Fld Z h0 a "java/lang/String" "coder" "B" (.int (0 : Int32))) (Fv : Fld Z h0 a "java/lang/String" "value" "[B" (.ref vb)) (A : Ary Z h0 vb .byte vs) :
    Met l Z (⟨"io/keyvouch/cli/Arguments", "undecoded", "(Ljava/lang/String;)Z"⟩ : MethodName) prog_2_method_2_code 1 (some .boolean) [] ({ frames := 4, cells := 0, slots := 0, locals := 55 } : Room) #[(.ref a)] h0 [] (fun v h => v = some (.int (0 : Int32)) ∧ h0 = h) := by
  refine Met.walk pn_5 (Ls := #[.val (.ref a)]) (fun m => by first | (simp [entryFrame, mkF, argsToLocals, Value.category, maxLocals]; done) | rfl) ?_
  intro p e s m below meth c B
  refine B.aloadN 1 rfl d5_0 rfl rfl ?_
  refine B.ldcI 3 rfl d5_1 (wd hw 33 rfl) ?_
  refine B.callV 6 rfl d5_3 (wd hw 34 rfl) (wd hw 35 rfl) (wd hw 37 rfl) (wd hw 36 rfl) (wd hw 8 rfl) (wd hw 38 rfl) (by decide) E [(.int (65533 : Int32))] [] (rm_x12_0 l Z a0 hw a vb vs cs vf h0 hcs hvf S SA SH SO SF hn E Fc Fv A) rfl rfl pd__I_I rfl rfl 0 rfl (by decide) (by decide) (by decide) (by decide) (fun _ q => nomatch q) ?_
  rintro _ _ - ⟨rfl, rfl⟩
  show B.G h0 0 0 (mkF m 6 #[.val (.ref a)] [(.int (-1 : Int32))])
  refine B.if0_lt 13 9 rfl (by decide) rfl d5_6 (fun c6 => ?_) (fun c6 => ?_)
  · refine B.iconst 14 rfl (0 : Int32) d5_13 rfl ?_
    refine B.retN (by simp) d5_14 (by decide) (by decide) ?_
    exact ⟨rfl, rfl⟩
  · exact absurd c6 (by decide)
set_option maxRecDepth 65536 in
set_option maxHeartbeats 4000000 in
theorem rm_ln3_0 (l : Launch) (Z : State) (a0 : Array Value) (hw : ∀ d ∈ tables_1, d.before a0 Z = true) (a : Addr) (vb : Addr) (vs : List Value) (cs : Int32) (vf : Value) (h0 : Heap) (hcs : ¬ cs = 0) (hvf : vf.isRef = true) (S : Sta Z h0 "java/lang/String" "COMPACT_STRINGS" "Z" (.int cs)) (SA : Sta Z h0 "java/lang/StringUTF16" "$assertionsDisabled" "Z" (.int 1)) (SH : Sta Z h0 "java/lang/StringUTF16" "HI_BYTE_SHIFT" "I" (.int 0)) (SO : Sta Z h0 "java/lang/StringUTF16" "LO_BYTE_SHIFT" "I" (.int 8)) (SF : Sta Z h0 "jdk/internal/util/Preconditions" "SIOOBE_FORMATTER" "Ljava/util/function/BiFunction;" vf) (hn : vs.length.toInt32 = (3 : Int32)) (E : Exa Z h0 a "java/lang/String") (Fc : Fld Z h0 a "java/lang/String" "coder" "B" (.int (0 : Int32))) (Fv : Fld Z h0 a "java/lang/String" "value" "[B" (.ref vb)) (A : Ary Z h0 vb .byte vs) :
    Met l Z (⟨"java/lang/String", "length", "()I"⟩ : MethodName) jdk_42_method_54_code 1 (some .int) [] ({ frames := 1, cells := 0, slots := 0, locals := 13 } : Room) #[(.ref a)] h0 [] (fun v h => v = some (.int (3 : Int32)) ∧ h0 = h) := by
  refine Met.walk pn_9 (Ls := #[.val (.ref a)]) (fun m => by first | (simp [entryFrame, mkF, argsToLocals, Value.category, maxLocals]; done) | rfl) ?_
  intro p e s m below meth c B
  refine B.aloadN 1 rfl d9_0 rfl rfl ?_
  refine B.getF 4 rfl d9_1 (wd hw 26 rfl) Fv ?_
  refine B.arrlen 5 rfl d9_4 A (3 : Int32) hn ?_
  refine B.aloadN 6 rfl d9_5 rfl rfl ?_
  refine B.callV 9 rfl d9_6 (wd hw 55 rfl) (wd hw 56 rfl) (wd hw 58 rfl) (wd hw 57 rfl) (wd hw 8 rfl) (wd hw 59 rfl) (by decide) E [] [(.int (3 : Int32))] (rm_cd0 l Z a0 hw a cs vf h0 hcs hvf S SA SH SO SF Fc) rfl rfl pd___B rfl rfl 1 rfl (by decide) (by decide) (by decide) (by decide) (fun _ q => nomatch q) ?_
  rintro _ _ - ⟨rfl, rfl⟩
  show B.G h0 0 0 (mkF m 9 #[.val (.ref a)] [(.int (0 : Int32)), (.int (3 : Int32))])
  refine B.ishr 10 rfl d9_9 ?_
  refine B.topI (3 : Int32) (by decide) ?_
  refine B.retI d9_10 (by decide) (by decide) ?_
  exact ⟨rfl, rfl⟩
set_option maxRecDepth 65536 in
set_option maxHeartbeats 4000000 in
theorem rm_io3_0 (l : Launch) (Z : State) (a0 : Array Value) (hw : ∀ d ∈ tables_1, d.before a0 Z = true) (vb : Addr) (h0 : Heap)  :
    Met l Z (⟨"java/lang/StringLatin1", "indexOf", "([BIII)I"⟩ : MethodName) jdk_43_method_22_code 4 (some .int) [] ({ frames := 1, cells := 0, slots := 0, locals := 12 } : Room) #[(.ref vb), (.int (65533 : Int32)), (.int (0 : Int32)), (.int (3 : Int32))] h0 [] (fun v h => v = some (.int (-1 : Int32)) ∧ h0 = h) := by
  refine Met.walk pn_11 (Ls := #[.val (.ref vb), .val (.int (65533 : Int32)), .val (.int (0 : Int32)), .val (.int (3 : Int32))]) (fun m => by first | (simp [entryFrame, mkF, argsToLocals, Value.category, maxLocals]; done) | rfl) ?_
  intro p e s m below meth c B
  refine B.iloadN 1 rfl d11_0 rfl ?_
  refine B.callS 4 rfl d11_1 (wd hw 64 rfl) (wd hw 65 rfl) (wd hw 62 rfl) (wd hw 66 rfl) (by decide) [(.int (65533 : Int32))] [] (rm_ce l Z a0 hw h0) rfl rfl pd__I_Z rfl rfl 0 rfl (by decide) (by decide) (by decide) (by decide) (fun _ q => nomatch q) ?_
  rintro _ _ - ⟨rfl, rfl⟩
  show B.G h0 0 0 (mkF m 4 #[.val (.ref vb), .val (.int (65533 : Int32)), .val (.int (0 : Int32)), .val (.int (3 : Int32))] [(.int (0 : Int32))])
  refine B.if0_ne 9 7 rfl (by decide) rfl d11_4 (fun c4 => ?_) (fun c4 => ?_)
  · exact absurd c4 (by decide)
  · refine B.iconst 8 rfl (-1 : Int32) d11_7 rfl ?_
    refine B.retI d11_8 (by decide) (by decide) ?_
    exact ⟨rfl, rfl⟩
set_option maxRecDepth 65536 in
set_option maxHeartbeats 4000000 in
theorem rm_x23_0 (l : Launch) (Z : State) (a0 : Array Value) (hw : ∀ d ∈ tables_1, d.before a0 Z = true) (a : Addr) (vb : Addr) (vs : List Value) (cs : Int32) (vf : Value) (h0 : Heap) (hcs : ¬ cs = 0) (hvf : vf.isRef = true) (S : Sta Z h0 "java/lang/String" "COMPACT_STRINGS" "Z" (.int cs)) (SA : Sta Z h0 "java/lang/StringUTF16" "$assertionsDisabled" "Z" (.int 1)) (SH : Sta Z h0 "java/lang/StringUTF16" "HI_BYTE_SHIFT" "I" (.int 0)) (SO : Sta Z h0 "java/lang/StringUTF16" "LO_BYTE_SHIFT" "I" (.int 8)) (SF : Sta Z h0 "jdk/internal/util/Preconditions" "SIOOBE_FORMATTER" "Ljava/util/function/BiFunction;" vf) (hn : vs.length.toInt32 = (3 : Int32)) (E : Exa Z h0 a "java/lang/String") (Fc : Fld Z h0 a "java/lang/String" "coder" "B" (.int (0 : Int32))) (Fv : Fld Z h0 a "java/lang/String" "value" "[B" (.ref vb)) (A : Ary Z h0 vb .byte vs) :
    Met l Z (⟨"java/lang/String", "indexOf", "(II)I"⟩ : MethodName) jdk_42_method_80_code 3 (some .int) [] ({ frames := 2, cells := 0, slots := 0, locals := 28 } : Room) #[(.ref a), (.int (65533 : Int32)), (.int (0 : Int32))] h0 [] (fun v h => v = some (.int (-1 : Int32)) ∧ h0 = h) := by
  refine Met.walk pn_7 (Ls := #[.val (.ref a), .val (.int (65533 : Int32)), .val (.int (0 : Int32))]) (fun m => by first | (simp [entryFrame, mkF, argsToLocals, Value.category, maxLocals]; done) | rfl) ?_
  intro p e s m below meth c B
  refine B.aloadN 1 rfl d7_0 rfl rfl ?_
  refine B.callV 4 rfl d7_1 (wd hw 44 rfl) (wd hw 45 rfl) (wd hw 47 rfl) (wd hw 46 rfl) (wd hw 8 rfl) (wd hw 48 rfl) (by decide) E [] [] (rm_il0 l Z a0 hw a cs vf h0 hcs hvf S SA SH SO SF Fc) rfl rfl pd___Z rfl rfl 0 rfl (by decide) (by decide) (by decide) (by decide) (fun _ q => nomatch q) ?_
  rintro _ _ - ⟨rfl, rfl⟩
  show B.G h0 0 0 (mkF m 4 #[.val (.ref a), .val (.int (65533 : Int32)), .val (.int (0 : Int32))] [(.int (1 : Int32))])
  refine B.if0_eq 23 7 rfl (by decide) rfl d7_4 (fun c4 => ?_) (fun c4 => ?_)
  · exact absurd c4 (by decide)
  · refine B.aloadN 8 rfl d7_7 rfl rfl ?_
    refine B.getF 11 rfl d7_8 (wd hw 26 rfl) Fv ?_
    refine B.iloadN 12 rfl d7_11 rfl ?_
    refine B.iloadN 13 rfl d7_12 rfl ?_
    refine B.aloadN 14 rfl d7_13 rfl rfl ?_
    refine B.callV 17 rfl d7_14 (wd hw 50 rfl) (wd hw 51 rfl) (wd hw 53 rfl) (wd hw 52 rfl) (wd hw 8 rfl) (wd hw 54 rfl) (by decide) E [] [(.int (0 : Int32)), (.int (65533 : Int32)), (.ref vb)] (rm_ln3_0 l Z a0 hw a vb vs cs vf h0 hcs hvf S SA SH SO SF hn E Fc Fv A) rfl rfl pd___I rfl rfl 3 rfl (by decide) (by decide) (by decide) (by decide) (fun _ q => nomatch q) ?_
    rintro _ _ - ⟨rfl, rfl⟩
    show B.G h0 0 0 (mkF m 17 #[.val (.ref a), .val (.int (65533 : Int32)), .val (.int (0 : Int32))] [(.int (3 : Int32)), (.int (0 : Int32)), (.int (65533 : Int32)), (.ref vb)])
    refine B.callS 20 rfl d7_17 (wd hw 60 rfl) (wd hw 61 rfl) (wd hw 62 rfl) (wd hw 63 rfl) (by decide) [(.ref vb), (.int (65533 : Int32)), (.int (0 : Int32)), (.int (3 : Int32))] [] (rm_io3_0 l Z a0 hw vb h0) rfl rfl pd___BIII_I rfl rfl 0 rfl (by decide) (by decide) (by decide) (by decide) (fun _ q => nomatch q) ?_
    rintro _ _ - ⟨rfl, rfl⟩
    show B.G h0 0 0 (mkF m 20 #[.val (.ref a), .val (.int (65533 : Int32)), .val (.int (0 : Int32))] [(.int (-1 : Int32))])
    refine B.goto 36 rfl (by decide) d7_20 ?_
    refine B.retI d7_36 (by decide) (by decide) ?_
    exact ⟨rfl, rfl⟩
set_option maxRecDepth 65536 in
set_option maxHeartbeats 4000000 in
theorem rm_x13_0 (l : Launch) (Z : State) (a0 : Array Value) (hw : ∀ d ∈ tables_1, d.before a0 Z = true) (a : Addr) (vb : Addr) (vs : List Value) (cs : Int32) (vf : Value) (h0 : Heap) (hcs : ¬ cs = 0) (hvf : vf.isRef = true) (S : Sta Z h0 "java/lang/String" "COMPACT_STRINGS" "Z" (.int cs)) (SA : Sta Z h0 "java/lang/StringUTF16" "$assertionsDisabled" "Z" (.int 1)) (SH : Sta Z h0 "java/lang/StringUTF16" "HI_BYTE_SHIFT" "I" (.int 0)) (SO : Sta Z h0 "java/lang/StringUTF16" "LO_BYTE_SHIFT" "I" (.int 8)) (SF : Sta Z h0 "jdk/internal/util/Preconditions" "SIOOBE_FORMATTER" "Ljava/util/function/BiFunction;" vf) (hn : vs.length.toInt32 = (3 : Int32)) (E : Exa Z h0 a "java/lang/String") (Fc : Fld Z h0 a "java/lang/String" "coder" "B" (.int (0 : Int32))) (Fv : Fld Z h0 a "java/lang/String" "value" "[B" (.ref vb)) (A : Ary Z h0 vb .byte vs) :
    Met l Z (⟨"java/lang/String", "indexOf", "(I)I"⟩ : MethodName) jdk_42_method_79_code 2 (some .int) [] ({ frames := 3, cells := 0, slots := 0, locals := 42 } : Room) #[(.ref a), (.int (65533 : Int32))] h0 [] (fun v h => v = some (.int (-1 : Int32)) ∧ h0 = h) := by
  refine Met.walk pn_6 (Ls := #[.val (.ref a), .val (.int (65533 : Int32))]) (fun m => by first | (simp [entryFrame, mkF, argsToLocals, Value.category, maxLocals]; done) | rfl) ?_
  intro p e s m below meth c B
  refine B.aloadN 1 rfl d6_0 rfl rfl ?_
  refine B.iloadN 2 rfl d6_1 rfl ?_
  refine B.iconst 3 rfl (0 : Int32) d6_2 rfl ?_
  refine B.callV 6 rfl d6_3 (wd hw 39 rfl) (wd hw 40 rfl) (wd hw 42 rfl) (wd hw 41 rfl) (wd hw 8 rfl) (wd hw 43 rfl) (by decide) E [(.int (65533 : Int32)), (.int (0 : Int32))] [] (rm_x23_0 l Z a0 hw a vb vs cs vf h0 hcs hvf S SA SH SO SF hn E Fc Fv A) rfl rfl pd__II_I rfl rfl 0 rfl (by decide) (by decide) (by decide) (by decide) (fun _ q => nomatch q) ?_
  rintro _ _ - ⟨rfl, rfl⟩
  show B.G h0 0 0 (mkF m 6 #[.val (.ref a), .val (.int (65533 : Int32))] [(.int (-1 : Int32))])
  refine B.retI d6_6 (by decide) (by decide) ?_
  exact ⟨rfl, rfl⟩
set_option maxRecDepth 65536 in
set_option maxHeartbeats 4000000 in
theorem rm_un3_0 (l : Launch) (Z : State) (a0 : Array Value) (hw : ∀ d ∈ tables_1, d.before a0 Z = true) (a : Addr) (vb : Addr) (vs : List Value) (cs : Int32) (vf : Value) (h0 : Heap) (hcs : ¬ cs = 0) (hvf : vf.isRef = true) (S : Sta Z h0 "java/lang/String" "COMPACT_STRINGS" "Z" (.int cs)) (SA : Sta Z h0 "java/lang/StringUTF16" "$assertionsDisabled" "Z" (.int 1)) (SH : Sta Z h0 "java/lang/StringUTF16" "HI_BYTE_SHIFT" "I" (.int 0)) (SO : Sta Z h0 "java/lang/StringUTF16" "LO_BYTE_SHIFT" "I" (.int 8)) (SF : Sta Z h0 "jdk/internal/util/Preconditions" "SIOOBE_FORMATTER" "Ljava/util/function/BiFunction;" vf) (hn : vs.length.toInt32 = (3 : Int32)) (E : Exa Z h0 a "java/lang/String") (Fc : Fld Z h0 a "java/lang/String" "coder" "B" (.int (0 : Int32))) (Fv : Fld Z h0 a "java/lang/String" "value" "[B" (.ref vb)) (A : Ary Z h0 vb .byte vs) :
    Met l Z (⟨"io/keyvouch/cli/Arguments", "undecoded", "(Ljava/lang/String;)Z"⟩ : MethodName) prog_2_method_2_code 1 (some .boolean) [] ({ frames := 4, cells := 0, slots := 0, locals := 55 } : Room) #[(.ref a)] h0 [] (fun v h => v = some (.int (0 : Int32)) ∧ h0 = h) := by
  refine Met.walk pn_5 (Ls := #[.val (.ref a)]) (fun m => by first | (simp [entryFrame, mkF, argsToLocals, Value.category, maxLocals]; done) | rfl) ?_
  intro p e s m below meth c B
  refine B.aloadN 1 rfl d5_0 rfl rfl ?_
  refine B.ldcI 3 rfl d5_1 (wd hw 33 rfl) ?_
  refine B.callV 6 rfl d5_3 (wd hw 34 rfl) (wd hw 35 rfl) (wd hw 37 rfl) (wd hw 36 rfl) (wd hw 8 rfl) (wd hw 38 rfl) (by decide) E [(.int (65533 : Int32))] [] (rm_x13_0 l Z a0 hw a vb vs cs vf h0 hcs hvf S SA SH SO SF hn E Fc Fv A) rfl rfl pd__I_I rfl rfl 0 rfl (by decide) (by decide) (by decide) (by decide) (fun _ q => nomatch q) ?_
  rintro _ _ - ⟨rfl, rfl⟩
  show B.G h0 0 0 (mkF m 6 #[.val (.ref a)] [(.int (-1 : Int32))])
  refine B.if0_lt 13 9 rfl (by decide) rfl d5_6 (fun c6 => ?_) (fun c6 => ?_)
  · refine B.iconst 14 rfl (0 : Int32) d5_13 rfl ?_
    refine B.retN (by simp) d5_14 (by decide) (by decide) ?_
    exact ⟨rfl, rfl⟩
  · exact absurd c6 (by decide)
set_option maxRecDepth 65536 in
set_option maxHeartbeats 4000000 in
theorem rm_ln1_1 (l : Launch) (Z : State) (a0 : Array Value) (hw : ∀ d ∈ tables_1, d.before a0 Z = true) (a : Addr) (vb : Addr) (x0 : Int32) (cs : Int32) (vf : Value) (h0 : Heap) (hcs : ¬ cs = 0) (hvf : vf.isRef = true) (S : Sta Z h0 "java/lang/String" "COMPACT_STRINGS" "Z" (.int cs)) (SA : Sta Z h0 "java/lang/StringUTF16" "$assertionsDisabled" "Z" (.int 1)) (SH : Sta Z h0 "java/lang/StringUTF16" "HI_BYTE_SHIFT" "I" (.int 0)) (SO : Sta Z h0 "java/lang/StringUTF16" "LO_BYTE_SHIFT" "I" (.int 8)) (SF : Sta Z h0 "jdk/internal/util/Preconditions" "SIOOBE_FORMATTER" "Ljava/util/function/BiFunction;" vf) (q0 : isC x0) (E : Exa Z h0 a "java/lang/String") (Fc : Fld Z h0 a "java/lang/String" "coder" "B" (.int (1 : Int32))) (Fv : Fld Z h0 a "java/lang/String" "value" "[B" (.ref vb)) (A : Ary Z h0 vb .byte [(.int (own_lo x0)), (.int (own_hi x0))]) :
    Met l Z (⟨"java/lang/String", "length", "()I"⟩ : MethodName) jdk_42_method_54_code 1 (some .int) [] ({ frames := 1, cells := 0, slots := 0, locals := 13 } : Room) #[(.ref a)] h0 [] (fun v h => v = some (.int (1 : Int32)) ∧ h0 = h) := by
  refine Met.walk pn_9 (Ls := #[.val (.ref a)]) (fun m => by first | (simp [entryFrame, mkF, argsToLocals, Value.category, maxLocals]; done) | rfl) ?_
  intro p e s m below meth c B
  refine B.aloadN 1 rfl d9_0 rfl rfl ?_
  refine B.getF 4 rfl d9_1 (wd hw 26 rfl) Fv ?_
  refine B.arrlen 5 rfl d9_4 A (2 : Int32) rfl ?_
  refine B.aloadN 6 rfl d9_5 rfl rfl ?_
  refine B.callV 9 rfl d9_6 (wd hw 55 rfl) (wd hw 56 rfl) (wd hw 58 rfl) (wd hw 57 rfl) (wd hw 8 rfl) (wd hw 59 rfl) (by decide) E [] [(.int (2 : Int32))] (rm_cd1 l Z a0 hw a cs vf h0 hcs hvf S SA SH SO SF Fc) rfl rfl pd___B rfl rfl 1 rfl (by decide) (by decide) (by decide) (by decide) (fun _ q => nomatch q) ?_
  rintro _ _ - ⟨rfl, rfl⟩
  show B.G h0 0 0 (mkF m 9 #[.val (.ref a)] [(.int (1 : Int32)), (.int (2 : Int32))])
  refine B.ishr 10 rfl d9_9 ?_
  refine B.topI (1 : Int32) (by decide) ?_
  refine B.retI d9_10 (by decide) (by decide) ?_
  exact ⟨rfl, rfl⟩
theorem d28_0 : decode jdk_41_method_12_code 0 = .ok (.iload_n 0, 1) := by decide +kernel
theorem d28_1 : decode jdk_41_method_12_code 1 = .ok (.ifCond .lt 13, 3) := by decide +kernel
theorem d28_4 : decode jdk_41_method_12_code 4 = .ok (.iload_n 0, 1) := by decide +kernel
theorem d28_5 : decode jdk_41_method_12_code 5 = .ok (.iload_n 1, 1) := by decide +kernel
theorem d28_6 : decode jdk_41_method_12_code 6 = .ok (.if_icmp .gt 8, 3) := by decide +kernel
theorem d28_9 : decode jdk_41_method_12_code 9 = .ok (.iload_n 1, 1) := by decide +kernel
theorem d28_10 : decode jdk_41_method_12_code 10 = .ok (.iload_n 2, 1) := by decide +kernel
theorem d28_11 : decode jdk_41_method_12_code 11 = .ok (.if_icmp .le 11, 3) := by decide +kernel
theorem d28_22 : decode jdk_41_method_12_code 22 = .ok (.iload_n 0, 1) := by decide +kernel
theorem d28_23 : decode jdk_41_method_12_code 23 = .ok (.ireturn, 1) := by decide +kernel
theorem pn_28 : plainFor (⟨"jdk/internal/util/Preconditions", "checkFromToIndex", "(IIILjava/util/function/BiFunction;)I"⟩ : MethodName) = true := by first | exact plainFor_of_name (by first | (simp [plainName, overriddenIn]; done) | decide +kernel) | decide +kernel
set_option maxRecDepth 65536 in
set_option maxHeartbeats 4000000 in
theorem rm_cf1 (l : Launch) (Z : State) (a0 : Array Value) (hw : ∀ d ∈ tables_1, d.before a0 Z = true) (vf : Value) (h0 : Heap) (hvf : vf.isRef = true) :
    Met l Z (⟨"jdk/internal/util/Preconditions", "checkFromToIndex", "(IIILjava/util/function/BiFunction;)I"⟩ : MethodName) jdk_41_method_12_code 4 (some .int) [] ({ frames := 0, cells := 0, slots := 0, locals := 0 } : Room) #[(.int (0 : Int32)), (.int (1 : Int32)), (.int (1 : Int32)), vf] h0 [] (fun v h => v = some (.int (0 : Int32)) ∧ h0 = h) := by
  refine Met.walk pn_28 (Ls := #[.val (.int (0 : Int32)), .val (.int (1 : Int32)), .val (.int (1 : Int32)), .val vf]) (fun m => by simp [entryFrame, mkF, argsToLocals, XT.cat1 hvf, show ∀ z, (Value.ref z).category = 1 from fun _ => rfl, show ∀ z, (Value.int z).category = 1 from fun _ => rfl, show Value.null.category = 1 from rfl]) ?_
  intro p e s m below meth c B
  refine B.iloadN 1 rfl d28_0 rfl ?_
  refine B.if0_lt 14 4 rfl (by decide) rfl d28_1 (fun c1 => ?_) (fun c1 => ?_)
  · exact absurd c1 (by decide)
  · refine B.iloadN 5 rfl d28_4 rfl ?_
    refine B.iloadN 6 rfl d28_5 rfl ?_
    refine B.icmp_gt 14 9 rfl (by decide) rfl d28_6 (fun c6 => ?_) (fun c6 => ?_)
    · exact absurd c6 (by decide)
    · refine B.iloadN 10 rfl d28_9 rfl ?_
      refine B.iloadN 11 rfl d28_10 rfl ?_
      refine B.icmp_le 22 14 rfl (by decide) rfl d28_11 (fun c11 => ?_) (fun c11 => ?_)
      · refine B.iloadN 23 rfl d28_22 rfl ?_
        refine B.retI d28_23 (by decide) (by decide) ?_
        exact ⟨rfl, rfl⟩
      · exact absurd c11 (by decide)
theorem d27_0 : decode jdk_42_method_158_code 0 = .ok (.iload_n 0, 1) := by decide +kernel
theorem d27_1 : decode jdk_42_method_158_code 1 = .ok (.iload_n 1, 1) := by decide +kernel
theorem d27_2 : decode jdk_42_method_158_code 2 = .ok (.iload_n 2, 1) := by decide +kernel
theorem d27_3 : decode jdk_42_method_158_code 3 = .ok (.getstatic 1053, 3) := by decide +kernel
theorem d27_6 : decode jdk_42_method_158_code 6 = .ok (.invokestatic 1062, 3) := by decide +kernel
theorem d27_9 : decode jdk_42_method_158_code 9 = .ok (.pop, 1) := by decide +kernel
theorem d27_10 : decode jdk_42_method_158_code 10 = .ok (.return_, 1) := by decide +kernel
theorem pn_27 : plainFor (⟨"java/lang/String", "checkBoundsBeginEnd", "(III)V"⟩ : MethodName) = true := by first | exact plainFor_of_name (by first | (simp [plainName, overriddenIn]; done) | decide +kernel) | decide +kernel
set_option maxRecDepth 65536 in
set_option maxHeartbeats 4000000 in
theorem rm_bs1 (l : Launch) (Z : State) (a0 : Array Value) (hw : ∀ d ∈ tables_1, d.before a0 Z = true) (cs : Int32) (vf : Value) (h0 : Heap) (hcs : ¬ cs = 0) (hvf : vf.isRef = true) (S : Sta Z h0 "java/lang/String" "COMPACT_STRINGS" "Z" (.int cs)) (SA : Sta Z h0 "java/lang/StringUTF16" "$assertionsDisabled" "Z" (.int 1)) (SH : Sta Z h0 "java/lang/StringUTF16" "HI_BYTE_SHIFT" "I" (.int 0)) (SO : Sta Z h0 "java/lang/StringUTF16" "LO_BYTE_SHIFT" "I" (.int 8)) (SF : Sta Z h0 "jdk/internal/util/Preconditions" "SIOOBE_FORMATTER" "Ljava/util/function/BiFunction;" vf) :
    Met l Z (⟨"java/lang/String", "checkBoundsBeginEnd", "(III)V"⟩ : MethodName) jdk_42_method_158_code 3 none [] ({ frames := 1, cells := 0, slots := 0, locals := 15 } : Room) #[(.int (0 : Int32)), (.int (1 : Int32)), (.int (1 : Int32))] h0 [] (fun v h => v = none ∧ h0 = h) := by
  refine Met.walk pn_27 (Ls := #[.val (.int (0 : Int32)), .val (.int (1 : Int32)), .val (.int (1 : Int32))]) (fun m => by first | (simp [entryFrame, mkF, argsToLocals, Value.category, maxLocals]; done) | rfl) ?_
  intro p e s m below meth c B
  refine B.iloadN 1 rfl d27_0 rfl ?_
  refine B.iloadN 2 rfl d27_1 rfl ?_
  refine B.iloadN 3 rfl d27_2 rfl ?_
  refine B.getS 6 rfl d27_3 (wd hw 120 rfl) SF ?_
  refine B.callS 9 rfl d27_6 (wd hw 122 rfl) (wd hw 123 rfl) (wd hw 121 rfl) (wd hw 124 rfl) (by decide) [(.int (0 : Int32)), (.int (1 : Int32)), (.int (1 : Int32)), vf] [] (rm_cf1 l Z a0 hw vf h0 hvf) rfl rfl pd__IIILjava_util_function_BiFunction__I rfl rfl 0 rfl (by decide) (by decide) (by decide) (by decide) (fun _ q => nomatch q) ?_
  rintro _ _ - ⟨rfl, rfl⟩
  show B.G h0 0 0 (mkF m 9 #[.val (.int (0 : Int32)), .val (.int (1 : Int32)), .val (.int (1 : Int32))] [(.int (0 : Int32))])
  refine B.pop 10 rfl d27_9 rfl ?_
  refine B.ret0 d27_10 (by decide) (by decide) ?_
  exact ⟨rfl, rfl⟩
theorem d25_0 : decode jdk_52_method_93_code 0 = .ok (.iload_n 0, 1) := by decide +kernel
theorem d25_1 : decode jdk_52_method_93_code 1 = .ok (.iload_n 1, 1) := by decide +kernel
theorem d25_2 : decode jdk_52_method_93_code 2 = .ok (.aload_n 2, 1) := by decide +kernel
theorem d25_3 : decode jdk_52_method_93_code 3 = .ok (.invokestatic 48, 3) := by decide +kernel
theorem d25_6 : decode jdk_52_method_93_code 6 = .ok (.invokestatic 241, 3) := by decide +kernel
theorem d25_9 : decode jdk_52_method_93_code 9 = .ok (.return_, 1) := by decide +kernel
theorem pn_25 : plainFor (⟨"java/lang/StringUTF16", "checkBoundsBeginEnd", "(II[B)V"⟩ : MethodName) = true := by first | exact plainFor_of_name (by first | (simp [plainName, overriddenIn]; done) | decide +kernel) | decide +kernel
set_option maxRecDepth 65536 in
set_option maxHeartbeats 4000000 in
theorem rm_bu1 (l : Launch) (Z : State) (a0 : Array Value) (hw : ∀ d ∈ tables_1, d.before a0 Z = true) (vb : Addr) (x0 : Int32) (cs : Int32) (vf : Value) (h0 : Heap) (hcs : ¬ cs = 0) (hvf : vf.isRef = true) (S : Sta Z h0 "java/lang/String" "COMPACT_STRINGS" "Z" (.int cs)) (SA : Sta Z h0 "java/lang/StringUTF16" "$assertionsDisabled" "Z" (.int 1)) (SH : Sta Z h0 "java/lang/StringUTF16" "HI_BYTE_SHIFT" "I" (.int 0)) (SO : Sta Z h0 "java/lang/StringUTF16" "LO_BYTE_SHIFT" "I" (.int 8)) (SF : Sta Z h0 "jdk/internal/util/Preconditions" "SIOOBE_FORMATTER" "Ljava/util/function/BiFunction;" vf) (A : Ary Z h0 vb .byte [(.int (own_lo x0)), (.int (own_hi x0))]) :
    Met l Z (⟨"java/lang/StringUTF16", "checkBoundsBeginEnd", "(II[B)V"⟩ : MethodName) jdk_52_method_93_code 3 none [] ({ frames := 2, cells := 0, slots := 0, locals := 29 } : Room) #[(.int (0 : Int32)), (.int (1 : Int32)), (.ref vb)] h0 [] (fun v h => v = none ∧ h0 = h) := by
  refine Met.walk pn_25 (Ls := #[.val (.int (0 : Int32)), .val (.int (1 : Int32)), .val (.ref vb)]) (fun m => by first | (simp [entryFrame, mkF, argsToLocals, Value.category, maxLocals]; done) | rfl) ?_
  intro p e s m below meth c B
  refine B.iloadN 1 rfl d25_0 rfl ?_
  refine B.iloadN 2 rfl d25_1 rfl ?_
  refine B.aloadN 3 rfl d25_2 rfl rfl ?_
  refine B.callS 6 rfl d25_3 (wd hw 114 rfl) (wd hw 115 rfl) (wd hw 69 rfl) (wd hw 116 rfl) (by decide) [(.ref vb)] [(.int (1 : Int32)), (.int (0 : Int32))] (rm_ul1 l Z a0 hw vb x0 h0 A) rfl rfl pd___B_I rfl rfl 2 rfl (by decide) (by decide) (by decide) (by decide) (fun _ q => nomatch q) ?_
  rintro _ _ - ⟨rfl, rfl⟩
  show B.G h0 0 0 (mkF m 6 #[.val (.int (0 : Int32)), .val (.int (1 : Int32)), .val (.ref vb)] [(.int (1 : Int32)), (.int (1 : Int32)), (.int (0 : Int32))])
  refine B.callS 9 rfl d25_6 (wd hw 117 rfl) (wd hw 118 rfl) (wd hw 8 rfl) (wd hw 119 rfl) (by decide) [(.int (0 : Int32)), (.int (1 : Int32)), (.int (1 : Int32))] [] (rm_bs1 l Z a0 hw cs vf h0 hcs hvf S SA SH SO SF) rfl rfl pd__III_V rfl rfl 0 rfl (by decide) (by decide) (by decide) (by decide) (fun _ q => nomatch q) ?_
  rintro _ _ - ⟨rfl, rfl⟩
  show B.G h0 0 0 (mkF m 9 #[.val (.int (0 : Int32)), .val (.int (1 : Int32)), .val (.ref vb)] [])
  refine B.ret0 d25_9 (by decide) (by decide) ?_
  exact ⟨rfl, rfl⟩
theorem d29_0 : decode jdk_52_method_48_code 0 = .ok (.iload_n 2, 1) := by decide +kernel
theorem d29_1 : decode jdk_52_method_48_code 1 = .ok (.istore 4, 2) := by decide +kernel
theorem d29_3 : decode jdk_52_method_48_code 3 = .ok (.iload 4, 2) := by decide +kernel
theorem d29_5 : decode jdk_52_method_48_code 5 = .ok (.iload_n 3, 1) := by decide +kernel
theorem d29_6 : decode jdk_52_method_48_code 6 = .ok (.if_icmp .ge 22, 3) := by decide +kernel
theorem d29_9 : decode jdk_52_method_48_code 9 = .ok (.aload_n 0, 1) := by decide +kernel
theorem d29_10 : decode jdk_52_method_48_code 10 = .ok (.iload 4, 2) := by decide +kernel
theorem d29_12 : decode jdk_52_method_48_code 12 = .ok (.invokestatic 71, 3) := by decide +kernel
theorem d29_15 : decode jdk_52_method_48_code 15 = .ok (.iload_n 1, 1) := by decide +kernel
theorem d29_16 : decode jdk_52_method_48_code 16 = .ok (.if_icmp .ne 6, 3) := by decide +kernel
theorem d29_19 : decode jdk_52_method_48_code 19 = .ok (.iload 4, 2) := by decide +kernel
theorem d29_21 : decode jdk_52_method_48_code 21 = .ok (.ireturn, 1) := by decide +kernel
theorem d29_22 : decode jdk_52_method_48_code 22 = .ok (.iinc 4 1, 3) := by decide +kernel
theorem d29_25 : decode jdk_52_method_48_code 25 = .ok (.goto (-22), 3) := by decide +kernel
theorem d29_28 : decode jdk_52_method_48_code 28 = .ok (.iconst (-1), 1) := by decide +kernel
theorem d29_29 : decode jdk_52_method_48_code 29 = .ok (.ireturn, 1) := by decide +kernel
theorem pn_29 : plainFor (⟨"java/lang/StringUTF16", "indexOfCharUnsafe", "([BIII)I"⟩ : MethodName) = true := by first | exact plainFor_of_name (by first | (simp [plainName, overriddenIn]; done) | decide +kernel) | decide +kernel
set_option maxRecDepth 65536 in
set_option maxHeartbeats 4000000 in
theorem rm_iu1 (l : Launch) (Z : State) (a0 : Array Value) (hw : ∀ d ∈ tables_1, d.before a0 Z = true) (vb : Addr) (x0 : Int32) (cs : Int32) (vf : Value) (h0 : Heap) (hcs : ¬ cs = 0) (hvf : vf.isRef = true) (S : Sta Z h0 "java/lang/String" "COMPACT_STRINGS" "Z" (.int cs)) (SA : Sta Z h0 "java/lang/StringUTF16" "$assertionsDisabled" "Z" (.int 1)) (SH : Sta Z h0 "java/lang/StringUTF16" "HI_BYTE_SHIFT" "I" (.int 0)) (SO : Sta Z h0 "java/lang/StringUTF16" "LO_BYTE_SHIFT" "I" (.int 8)) (SF : Sta Z h0 "jdk/internal/util/Preconditions" "SIOOBE_FORMATTER" "Ljava/util/function/BiFunction;" vf) (q0 : isC x0) (A : Ary Z h0 vb .byte [(.int (own_lo x0)), (.int (own_hi x0))]) :
    Met l Z (⟨"java/lang/StringUTF16", "indexOfCharUnsafe", "([BIII)I"⟩ : MethodName) jdk_52_method_48_code 5 (some .int) [] ({ frames := 1, cells := 0, slots := 0, locals := 13 } : Room) #[(.ref vb), (.int (65533 : Int32)), (.int (0 : Int32)), (.int (1 : Int32))] h0 [] (fun v h => v = some (.int (own_ix1 x0)) ∧ h0 = h) := by
  refine Met.walk pn_29 (Ls := #[.val (.ref vb), .val (.int (65533 : Int32)), .val (.int (0 : Int32)), .val (.int (1 : Int32)), .unset]) (fun m => by first | (simp [entryFrame, mkF, argsToLocals, Value.category, maxLocals]; done) | rfl) ?_
  intro p e s m below meth c B
  refine B.iloadN 1 rfl d29_0 rfl ?_
  refine B.istore 3 rfl d29_1 #[.val (.ref vb), .val (.int (65533 : Int32)), .val (.int (0 : Int32)), .val (.int (1 : Int32)), .val (.int (0 : Int32))] rfl ?_
  refine B.iload 5 rfl d29_3 rfl ?_
  refine B.iloadN 6 rfl d29_5 rfl ?_
  refine B.icmp_ge 28 9 rfl (by decide) rfl d29_6 (fun c6 => ?_) (fun c6 => ?_)
  · exact absurd c6 (by decide)
  · refine B.aloadN 10 rfl d29_9 rfl rfl ?_
    refine B.iload 12 rfl d29_10 rfl ?_
    refine B.callS 15 rfl d29_12 (wd hw 94 rfl) (wd hw 95 rfl) (wd hw 69 rfl) (wd hw 96 rfl) (by decide) [(.ref vb), (.int (0 : Int32))] [] (rm_gc0 l Z a0 hw vb x0 [(.int (own_lo x0)), (.int (own_hi x0))] cs vf h0 hcs hvf S SA SH SO SF q0 A rfl rfl) rfl rfl pd___BI_C rfl rfl 0 rfl (by decide) (by decide) (by decide) (by decide) (fun _ q => nomatch q) ?_
    rintro _ _ - ⟨rfl, rfl⟩
    show B.G h0 0 0 (mkF m 15 #[.val (.ref vb), .val (.int (65533 : Int32)), .val (.int (0 : Int32)), .val (.int (1 : Int32)), .val (.int (0 : Int32))] [(.int x0)])
    refine B.iloadN 16 rfl d29_15 rfl ?_
    refine B.icmp_ne 22 19 rfl (by decide) rfl d29_16 (fun c16 => ?_) (fun c16 => ?_)
    · refine B.iinc 25 rfl (1 : Int32) d29_22 rfl rfl #[.val (.ref vb), .val (.int (65533 : Int32)), .val (.int (0 : Int32)), .val (.int (1 : Int32)), .val (.int (1 : Int32))] rfl ?_
      refine B.goto 3 rfl (by decide) d29_25 ?_
      refine B.iload 5 rfl d29_3 rfl ?_
      refine B.iloadN 6 rfl d29_5 rfl ?_
      refine B.icmp_ge 28 9 rfl (by decide) rfl d29_6 (fun c6_1 => ?_) (fun c6_1 => ?_)
      · refine B.iconst 29 rfl (-1 : Int32) d29_28 rfl ?_
        refine B.retI d29_29 (by decide) (by decide) ?_
        exact ⟨by simp [own_ix1, c16], rfl⟩
      · exact absurd c6_1 (by decide)
    · refine B.iload 21 rfl d29_19 rfl ?_
      refine B.retI d29_21 (by decide) (by decide) ?_
      exact ⟨by simp [own_ix1, c16], rfl⟩
theorem d24_0 : decode jdk_52_method_47_code 0 = .ok (.iload_n 2, 1) := by decide +kernel
theorem d24_1 : decode jdk_52_method_47_code 1 = .ok (.iload_n 3, 1) := by decide +kernel
theorem d24_2 : decode jdk_52_method_47_code 2 = .ok (.aload_n 0, 1) := by decide +kernel
theorem d24_3 : decode jdk_52_method_47_code 3 = .ok (.invokestatic 96, 3) := by decide +kernel
theorem d24_6 : decode jdk_52_method_47_code 6 = .ok (.aload_n 0, 1) := by decide +kernel
theorem d24_7 : decode jdk_52_method_47_code 7 = .ok (.iload_n 1, 1) := by decide +kernel
theorem d24_8 : decode jdk_52_method_47_code 8 = .ok (.iload_n 2, 1) := by decide +kernel
theorem d24_9 : decode jdk_52_method_47_code 9 = .ok (.iload_n 3, 1) := by decide +kernel
theorem d24_10 : decode jdk_52_method_47_code 10 = .ok (.invokestatic 244, 3) := by decide +kernel
theorem d24_13 : decode jdk_52_method_47_code 13 = .ok (.ireturn, 1) := by decide +kernel
theorem pn_24 : plainFor (⟨"java/lang/StringUTF16", "indexOfChar", "([BIII)I"⟩ : MethodName) = true := by first | exact plainFor_of_name (by first | (simp [plainName, overriddenIn]; done) | decide +kernel) | decide +kernel
set_option maxRecDepth 65536 in
set_option maxHeartbeats 4000000 in
theorem rm_ic1 (l : Launch) (Z : State) (a0 : Array Value) (hw : ∀ d ∈ tables_1, d.before a0 Z = true) (vb : Addr) (x0 : Int32) (cs : Int32) (vf : Value) (h0 : Heap) (hcs : ¬ cs = 0) (hvf : vf.isRef = true) (S : Sta Z h0 "java/lang/String" "COMPACT_STRINGS" "Z" (.int cs)) (SA : Sta Z h0 "java/lang/StringUTF16" "$assertionsDisabled" "Z" (.int 1)) (SH : Sta Z h0 "java/lang/StringUTF16" "HI_BYTE_SHIFT" "I" (.int 0)) (SO : Sta Z h0 "java/lang/StringUTF16" "LO_BYTE_SHIFT" "I" (.int 8)) (SF : Sta Z h0 "jdk/internal/util/Preconditions" "SIOOBE_FORMATTER" "Ljava/util/function/BiFunction;" vf) (q0 : isC x0) (A : Ary Z h0 vb .byte [(.int (own_lo x0)), (.int (own_hi x0))]) :
    Met l Z (⟨"java/lang/StringUTF16", "indexOfChar", "([BIII)I"⟩ : MethodName) jdk_52_method_47_code 4 (some .int) [] ({ frames := 3, cells := 0, slots := 0, locals := 43 } : Room) #[(.ref vb), (.int (65533 : Int32)), (.int (0 : Int32)), (.int (1 : Int32))] h0 [] (fun v h => v = some (.int (own_ix1 x0)) ∧ h0 = h) := by
  refine Met.walk pn_24 (Ls := #[.val (.ref vb), .val (.int (65533 : Int32)), .val (.int (0 : Int32)), .val (.int (1 : Int32))]) (fun m => by first | (simp [entryFrame, mkF, argsToLocals, Value.category, maxLocals]; done) | rfl) ?_
  intro p e s m below meth c B
  refine B.iloadN 1 rfl d24_0 rfl ?_
  refine B.iloadN 2 rfl d24_1 rfl ?_
  refine B.aloadN 3 rfl d24_2 rfl rfl ?_
  refine B.callS 6 rfl d24_3 (wd hw 111 rfl) (wd hw 112 rfl) (wd hw 69 rfl) (wd hw 113 rfl) (by decide) [(.int (0 : Int32)), (.int (1 : Int32)), (.ref vb)] [] (rm_bu1 l Z a0 hw vb x0 cs vf h0 hcs hvf S SA SH SO SF A) rfl rfl pd__II_B_V rfl rfl 0 rfl (by decide) (by decide) (by decide) (by decide) (fun _ q => nomatch q) ?_
  rintro _ _ - ⟨rfl, rfl⟩
  show B.G h0 0 0 (mkF m 6 #[.val (.ref vb), .val (.int (65533 : Int32)), .val (.int (0 : Int32)), .val (.int (1 : Int32))] [])
  refine B.aloadN 7 rfl d24_6 rfl rfl ?_
  refine B.iloadN 8 rfl d24_7 rfl ?_
  refine B.iloadN 9 rfl d24_8 rfl ?_
  refine B.iloadN 10 rfl d24_9 rfl ?_
  refine B.callS 13 rfl d24_10 (wd hw 125 rfl) (wd hw 126 rfl) (wd hw 69 rfl) (wd hw 127 rfl) (by decide) [(.ref vb), (.int (65533 : Int32)), (.int (0 : Int32)), (.int (1 : Int32))] [] (rm_iu1 l Z a0 hw vb x0 cs vf h0 hcs hvf S SA SH SO SF q0 A) rfl rfl pd___BIII_I rfl rfl 0 rfl (by decide) (by decide) (by decide) (by decide) (fun _ q => nomatch q) ?_
  rintro _ _ - ⟨rfl, rfl⟩
  show B.G h0 0 0 (mkF m 13 #[.val (.ref vb), .val (.int (65533 : Int32)), .val (.int (0 : Int32)), .val (.int (1 : Int32))] [(.int (own_ix1 x0))])
  refine B.retI d24_13 (by decide) (by decide) ?_
  exact ⟨rfl, rfl⟩
theorem d21_0 : decode jdk_52_method_40_code 0 = .ok (.iload_n 2, 1) := by decide +kernel
theorem d21_1 : decode jdk_52_method_40_code 1 = .ok (.iconst 0, 1) := by decide +kernel
theorem d21_2 : decode jdk_52_method_40_code 2 = .ok (.invokestatic 224, 3) := by decide +kernel
theorem d21_5 : decode jdk_52_method_40_code 5 = .ok (.istore_n 2, 1) := by decide +kernel
theorem d21_6 : decode jdk_52_method_40_code 6 = .ok (.iload_n 3, 1) := by decide +kernel
theorem d21_7 : decode jdk_52_method_40_code 7 = .ok (.aload_n 0, 1) := by decide +kernel
theorem d21_8 : decode jdk_52_method_40_code 8 = .ok (.arraylength, 1) := by decide +kernel
theorem d21_9 : decode jdk_52_method_40_code 9 = .ok (.iconst 1, 1) := by decide +kernel
theorem d21_10 : decode jdk_52_method_40_code 10 = .ok (.ishr, 1) := by decide +kernel
theorem d21_11 : decode jdk_52_method_40_code 11 = .ok (.invokestatic 183, 3) := by decide +kernel
theorem d21_14 : decode jdk_52_method_40_code 14 = .ok (.istore_n 3, 1) := by decide +kernel
theorem d21_15 : decode jdk_52_method_40_code 15 = .ok (.iload_n 2, 1) := by decide +kernel
theorem d21_16 : decode jdk_52_method_40_code 16 = .ok (.iload_n 3, 1) := by decide +kernel
theorem d21_17 : decode jdk_52_method_40_code 17 = .ok (.if_icmp .lt 5, 3) := by decide +kernel
theorem d21_22 : decode jdk_52_method_40_code 22 = .ok (.iload_n 1, 1) := by decide +kernel
theorem d21_23 : decode jdk_52_method_40_code 23 = .ok (.ldc 227, 2) := by decide +kernel
theorem d21_25 : decode jdk_52_method_40_code 25 = .ok (.if_icmp .ge 11, 3) := by decide +kernel
theorem d21_28 : decode jdk_52_method_40_code 28 = .ok (.aload_n 0, 1) := by decide +kernel
theorem d21_29 : decode jdk_52_method_40_code 29 = .ok (.iload_n 1, 1) := by decide +kernel
theorem d21_30 : decode jdk_52_method_40_code 30 = .ok (.iload_n 2, 1) := by decide +kernel
theorem d21_31 : decode jdk_52_method_40_code 31 = .ok (.iload_n 3, 1) := by decide +kernel
theorem d21_32 : decode jdk_52_method_40_code 32 = .ok (.invokestatic 228, 3) := by decide +kernel
theorem d21_35 : decode jdk_52_method_40_code 35 = .ok (.ireturn, 1) := by decide +kernel
theorem pn_21 : plainFor (⟨"java/lang/StringUTF16", "indexOf", "([BIII)I"⟩ : MethodName) = true := by first | exact plainFor_of_name (by first | (simp [plainName, overriddenIn]; done) | decide +kernel) | decide +kernel
set_option maxRecDepth 65536 in
set_option maxHeartbeats 4000000 in
theorem rm_io1_1 (l : Launch) (Z : State) (a0 : Array Value) (hw : ∀ d ∈ tables_1, d.before a0 Z = true) (vb : Addr) (x0 : Int32) (cs : Int32) (vf : Value) (h0 : Heap) (hcs : ¬ cs = 0) (hvf : vf.isRef = true) (S : Sta Z h0 "java/lang/String" "COMPACT_STRINGS" "Z" (.int cs)) (SA : Sta Z h0 "java/lang/StringUTF16" "$assertionsDisabled" "Z" (.int 1)) (SH : Sta Z h0 "java/lang/StringUTF16" "HI_BYTE_SHIFT" "I" (.int 0)) (SO : Sta Z h0 "java/lang/StringUTF16" "LO_BYTE_SHIFT" "I" (.int 8)) (SF : Sta Z h0 "jdk/internal/util/Preconditions" "SIOOBE_FORMATTER" "Ljava/util/function/BiFunction;" vf) (q0 : isC x0) (A : Ary Z h0 vb .byte [(.int (own_lo x0)), (.int (own_hi x0))]) :
    Met l Z (⟨"java/lang/StringUTF16", "indexOf", "([BIII)I"⟩ : MethodName) jdk_52_method_40_code 4 (some .int) [] ({ frames := 4, cells := 0, slots := 0, locals := 58 } : Room) #[(.ref vb), (.int (65533 : Int32)), (.int (0 : Int32)), (.int (1 : Int32))] h0 [] (fun v h => v = some (.int (own_ix1 x0)) ∧ h0 = h) := by
  refine Met.walk pn_21 (Ls := #[.val (.ref vb), .val (.int (65533 : Int32)), .val (.int (0 : Int32)), .val (.int (1 : Int32))]) (fun m => by first | (simp [entryFrame, mkF, argsToLocals, Value.category, maxLocals]; done) | rfl) ?_
  intro p e s m below meth c B
  refine B.iloadN 1 rfl d21_0 rfl ?_
  refine B.iconst 2 rfl (0 : Int32) d21_1 rfl ?_
  refine B.callS 5 rfl d21_2 (wd hw 100 rfl) (wd hw 101 rfl) (wd hw 102 rfl) (wd hw 103 rfl) (by decide) [(.int (0 : Int32)), (.int (0 : Int32))] [] (rm_max l Z a0 hw (0 : Int32) (0 : Int32) h0) rfl rfl pd__II_I rfl rfl 0 rfl (by decide) (by decide) (by decide) (by decide) (fun _ q => nomatch q) ?_
  rintro _ _ - ⟨rfl, rfl⟩
  show B.G h0 0 0 (mkF m 5 #[.val (.ref vb), .val (.int (65533 : Int32)), .val (.int (0 : Int32)), .val (.int (1 : Int32))] [(.int (if (0 : Int32) < (0 : Int32) then (0 : Int32) else (0 : Int32)))])
  refine B.topI (0 : Int32) (by decide) ?_
  refine B.istoreN 6 rfl d21_5 #[.val (.ref vb), .val (.int (65533 : Int32)), .val (.int (0 : Int32)), .val (.int (1 : Int32))] rfl ?_
  refine B.iloadN 7 rfl d21_6 rfl ?_
  refine B.aloadN 8 rfl d21_7 rfl rfl ?_
  refine B.arrlen 9 rfl d21_8 A (2 : Int32) rfl ?_
  refine B.iconst 10 rfl (1 : Int32) d21_9 rfl ?_
  refine B.ishr 11 rfl d21_10 ?_
  refine B.topI (1 : Int32) (by decide) ?_
  refine B.callS 14 rfl d21_11 (wd hw 104 rfl) (wd hw 105 rfl) (wd hw 102 rfl) (wd hw 106 rfl) (by decide) [(.int (1 : Int32)), (.int (1 : Int32))] [] (rm_min l Z a0 hw (1 : Int32) (1 : Int32) h0) rfl rfl pd__II_I rfl rfl 0 rfl (by decide) (by decide) (by decide) (by decide) (fun _ q => nomatch q) ?_
  rintro _ _ - ⟨rfl, rfl⟩
  show B.G h0 0 0 (mkF m 14 #[.val (.ref vb), .val (.int (65533 : Int32)), .val (.int (0 : Int32)), .val (.int (1 : Int32))] [(.int (if (1 : Int32) < (1 : Int32) then (1 : Int32) else (1 : Int32)))])
  refine B.topI (1 : Int32) (by decide) ?_
  refine B.istoreN 15 rfl d21_14 #[.val (.ref vb), .val (.int (65533 : Int32)), .val (.int (0 : Int32)), .val (.int (1 : Int32))] rfl ?_
  refine B.iloadN 16 rfl d21_15 rfl ?_
  refine B.iloadN 17 rfl d21_16 rfl ?_
  refine B.icmp_lt 22 20 rfl (by decide) rfl d21_17 (fun c17 => ?_) (fun c17 => ?_)
  · refine B.iloadN 23 rfl d21_22 rfl ?_
    refine B.ldcI 25 rfl d21_23 (wd hw 107 rfl) ?_
    refine B.icmp_ge 36 28 rfl (by decide) rfl d21_25 (fun c25 => ?_) (fun c25 => ?_)
    · exact absurd c25 (by decide)
    · refine B.aloadN 29 rfl d21_28 rfl rfl ?_
      refine B.iloadN 30 rfl d21_29 rfl ?_
      refine B.iloadN 31 rfl d21_30 rfl ?_
      refine B.iloadN 32 rfl d21_31 rfl ?_
      refine B.callS 35 rfl d21_32 (wd hw 108 rfl) (wd hw 109 rfl) (wd hw 69 rfl) (wd hw 110 rfl) (by decide) [(.ref vb), (.int (65533 : Int32)), (.int (0 : Int32)), (.int (1 : Int32))] [] (rm_ic1 l Z a0 hw vb x0 cs vf h0 hcs hvf S SA SH SO SF q0 A) rfl rfl pd___BIII_I rfl rfl 0 rfl (by decide) (by decide) (by decide) (by decide) (fun _ q => nomatch q) ?_
      rintro _ _ - ⟨rfl, rfl⟩
      show B.G h0 0 0 (mkF m 35 #[.val (.ref vb), .val (.int (65533 : Int32)), .val (.int (0 : Int32)), .val (.int (1 : Int32))] [(.int (own_ix1 x0))])
      refine B.retI d21_35 (by decide) (by decide) ?_
      exact ⟨rfl, rfl⟩
  · exact absurd c17 (by decide)
theorem d7_23 : decode jdk_42_method_80_code 23 = .ok (.aload_n 0, 1) := by decide +kernel
theorem d7_24 : decode jdk_42_method_80_code 24 = .ok (.getfield 9, 3) := by decide +kernel
theorem d7_27 : decode jdk_42_method_80_code 27 = .ok (.iload_n 1, 1) := by decide +kernel
theorem d7_28 : decode jdk_42_method_80_code 28 = .ok (.iload_n 2, 1) := by decide +kernel
theorem d7_29 : decode jdk_42_method_80_code 29 = .ok (.aload_n 0, 1) := by decide +kernel
theorem d7_30 : decode jdk_42_method_80_code 30 = .ok (.invokevirtual 505, 3) := by decide +kernel
theorem d7_33 : decode jdk_42_method_80_code 33 = .ok (.invokestatic 640, 3) := by decide +kernel
set_option maxRecDepth 65536 in
set_option maxHeartbeats 4000000 in
theorem rm_x21_1 (l : Launch) (Z : State) (a0 : Array Value) (hw : ∀ d ∈ tables_1, d.before a0 Z = true) (a : Addr) (vb : Addr) (x0 : Int32) (cs : Int32) (vf : Value) (h0 : Heap) (hcs : ¬ cs = 0) (hvf : vf.isRef = true) (S : Sta Z h0 "java/lang/String" "COMPACT_STRINGS" "Z" (.int cs)) (SA : Sta Z h0 "java/lang/StringUTF16" "$assertionsDisabled" "Z" (.int 1)) (SH : Sta Z h0 "java/lang/StringUTF16" "HI_BYTE_SHIFT" "I" (.int 0)) (SO : Sta Z h0 "java/lang/StringUTF16" "LO_BYTE_SHIFT" "I" (.int 8)) (SF : Sta Z h0 "jdk/internal/util/Preconditions" "SIOOBE_FORMATTER" "Ljava/util/function/BiFunction;" vf) (q0 : isC x0) (E : Exa Z h0 a "java/lang/String") (Fc : Fld Z h0 a "java/lang/String" "coder" "B" (.int (1 : Int32))) (Fv : Fld Z h0 a "java/lang/String" "value" "[B" (.ref vb)) (A : Ary Z h0 vb .byte [(.int (own_lo x0)), (.int (own_hi x0))]) :
    Met l Z (⟨"java/lang/String", "indexOf", "(II)I"⟩ : MethodName) jdk_42_method_80_code 3 (some .int) [] ({ frames := 5, cells := 0, slots := 0, locals := 73 } : Room) #[(.ref a), (.int (65533 : Int32)), (.int (0 : Int32))] h0 [] (fun v h => v = some (.int (own_ix1 x0)) ∧ h0 = h) := by
  refine Met.walk pn_7 (Ls := #[.val (.ref a), .val (.int (65533 : Int32)), .val (.int (0 : Int32))]) (fun m => by first | (simp [entryFrame, mkF, argsToLocals, Value.category, maxLocals]; done) | rfl) ?_
  intro p e s m below meth c B
  refine B.aloadN 1 rfl d7_0 rfl rfl ?_
  refine B.callV 4 rfl d7_1 (wd hw 44 rfl) (wd hw 45 rfl) (wd hw 47 rfl) (wd hw 46 rfl) (wd hw 8 rfl) (wd hw 48 rfl) (by decide) E [] [] (rm_il1 l Z a0 hw a cs vf h0 hcs hvf S SA SH SO SF Fc) rfl rfl pd___Z rfl rfl 0 rfl (by decide) (by decide) (by decide) (by decide) (fun _ q => nomatch q) ?_
  rintro _ _ - ⟨rfl, rfl⟩
  show B.G h0 0 0 (mkF m 4 #[.val (.ref a), .val (.int (65533 : Int32)), .val (.int (0 : Int32))] [(.int (0 : Int32))])
  refine B.if0_eq 23 7 rfl (by decide) rfl d7_4 (fun c4 => ?_) (fun c4 => ?_)
  · refine B.aloadN 24 rfl d7_23 rfl rfl ?_
    refine B.getF 27 rfl d7_24 (wd hw 26 rfl) Fv ?_
    refine B.iloadN 28 rfl d7_27 rfl ?_
    refine B.iloadN 29 rfl d7_28 rfl ?_
    refine B.aloadN 30 rfl d7_29 rfl rfl ?_
    refine B.callV 33 rfl d7_30 (wd hw 50 rfl) (wd hw 51 rfl) (wd hw 53 rfl) (wd hw 52 rfl) (wd hw 8 rfl) (wd hw 54 rfl) (by decide) E [] [(.int (0 : Int32)), (.int (65533 : Int32)), (.ref vb)] (rm_ln1_1 l Z a0 hw a vb x0 cs vf h0 hcs hvf S SA SH SO SF q0 E Fc Fv A) rfl rfl pd___I rfl rfl 3 rfl (by decide) (by decide) (by decide) (by decide) (fun _ q => nomatch q) ?_
    rintro _ _ - ⟨rfl, rfl⟩
    show B.G h0 0 0 (mkF m 33 #[.val (.ref a), .val (.int (65533 : Int32)), .val (.int (0 : Int32))] [(.int (1 : Int32)), (.int (0 : Int32)), (.int (65533 : Int32)), (.ref vb)])
    refine B.callS 36 rfl d7_33 (wd hw 97 rfl) (wd hw 98 rfl) (wd hw 69 rfl) (wd hw 99 rfl) (by decide) [(.ref vb), (.int (65533 : Int32)), (.int (0 : Int32)), (.int (1 : Int32))] [] (rm_io1_1 l Z a0 hw vb x0 cs vf h0 hcs hvf S SA SH SO SF q0 A) rfl rfl pd___BIII_I rfl rfl 0 rfl (by decide) (by decide) (by decide) (by decide) (fun _ q => nomatch q) ?_
    rintro _ _ - ⟨rfl, rfl⟩
    show B.G h0 0 0 (mkF m 36 #[.val (.ref a), .val (.int (65533 : Int32)), .val (.int (0 : Int32))] [(.int (own_ix1 x0))])
    refine B.retI d7_36 (by decide) (by decide) ?_
    exact ⟨rfl, rfl⟩
  · exact absurd c4 (by decide)
set_option maxRecDepth 65536 in
set_option maxHeartbeats 4000000 in
theorem rm_x11_1 (l : Launch) (Z : State) (a0 : Array Value) (hw : ∀ d ∈ tables_1, d.before a0 Z = true) (a : Addr) (vb : Addr) (x0 : Int32) (cs : Int32) (vf : Value) (h0 : Heap) (hcs : ¬ cs = 0) (hvf : vf.isRef = true) (S : Sta Z h0 "java/lang/String" "COMPACT_STRINGS" "Z" (.int cs)) (SA : Sta Z h0 "java/lang/StringUTF16" "$assertionsDisabled" "Z" (.int 1)) (SH : Sta Z h0 "java/lang/StringUTF16" "HI_BYTE_SHIFT" "I" (.int 0)) (SO : Sta Z h0 "java/lang/StringUTF16" "LO_BYTE_SHIFT" "I" (.int 8)) (SF : Sta Z h0 "jdk/internal/util/Preconditions" "SIOOBE_FORMATTER" "Ljava/util/function/BiFunction;" vf) (q0 : isC x0) (E : Exa Z h0 a "java/lang/String") (Fc : Fld Z h0 a "java/lang/String" "coder" "B" (.int (1 : Int32))) (Fv : Fld Z h0 a "java/lang/String" "value" "[B" (.ref vb)) (A : Ary Z h0 vb .byte [(.int (own_lo x0)), (.int (own_hi x0))]) :
    Met l Z (⟨"java/lang/String", "indexOf", "(I)I"⟩ : MethodName) jdk_42_method_79_code 2 (some .int) [] ({ frames := 6, cells := 0, slots := 0, locals := 87 } : Room) #[(.ref a), (.int (65533 : Int32))] h0 [] (fun v h => v = some (.int (own_ix1 x0)) ∧ h0 = h) := by
  refine Met.walk pn_6 (Ls := #[.val (.ref a), .val (.int (65533 : Int32))]) (fun m => by first | (simp [entryFrame, mkF, argsToLocals, Value.category, maxLocals]; done) | rfl) ?_
  intro p e s m below meth c B
  refine B.aloadN 1 rfl d6_0 rfl rfl ?_
  refine B.iloadN 2 rfl d6_1 rfl ?_
  refine B.iconst 3 rfl (0 : Int32) d6_2 rfl ?_
  refine B.callV 6 rfl d6_3 (wd hw 39 rfl) (wd hw 40 rfl) (wd hw 42 rfl) (wd hw 41 rfl) (wd hw 8 rfl) (wd hw 43 rfl) (by decide) E [(.int (65533 : Int32)), (.int (0 : Int32))] [] (rm_x21_1 l Z a0 hw a vb x0 cs vf h0 hcs hvf S SA SH SO SF q0 E Fc Fv A) rfl rfl pd__II_I rfl rfl 0 rfl (by decide) (by decide) (by decide) (by decide) (fun _ q => nomatch q) ?_
  rintro _ _ - ⟨rfl, rfl⟩
  show B.G h0 0 0 (mkF m 6 #[.val (.ref a), .val (.int (65533 : Int32))] [(.int (own_ix1 x0))])
  refine B.retI d6_6 (by decide) (by decide) ?_
  exact ⟨rfl, rfl⟩
theorem d5_9 : decode prog_2_method_2_code 9 = .ok (.iconst 1, 1) := by decide +kernel
theorem d5_10 : decode prog_2_method_2_code 10 = .ok (.goto 4, 3) := by decide +kernel
set_option maxRecDepth 65536 in
set_option maxHeartbeats 4000000 in
theorem rm_un1_1 (l : Launch) (Z : State) (a0 : Array Value) (hw : ∀ d ∈ tables_1, d.before a0 Z = true) (a : Addr) (vb : Addr) (x0 : Int32) (cs : Int32) (vf : Value) (h0 : Heap) (hcs : ¬ cs = 0) (hvf : vf.isRef = true) (S : Sta Z h0 "java/lang/String" "COMPACT_STRINGS" "Z" (.int cs)) (SA : Sta Z h0 "java/lang/StringUTF16" "$assertionsDisabled" "Z" (.int 1)) (SH : Sta Z h0 "java/lang/StringUTF16" "HI_BYTE_SHIFT" "I" (.int 0)) (SO : Sta Z h0 "java/lang/StringUTF16" "LO_BYTE_SHIFT" "I" (.int 8)) (SF : Sta Z h0 "jdk/internal/util/Preconditions" "SIOOBE_FORMATTER" "Ljava/util/function/BiFunction;" vf) (q0 : isC x0) (E : Exa Z h0 a "java/lang/String") (Fc : Fld Z h0 a "java/lang/String" "coder" "B" (.int (1 : Int32))) (Fv : Fld Z h0 a "java/lang/String" "value" "[B" (.ref vb)) (A : Ary Z h0 vb .byte [(.int (own_lo x0)), (.int (own_hi x0))]) :
    Met l Z (⟨"io/keyvouch/cli/Arguments", "undecoded", "(Ljava/lang/String;)Z"⟩ : MethodName) prog_2_method_2_code 1 (some .boolean) [] ({ frames := 7, cells := 0, slots := 0, locals := 100 } : Room) #[(.ref a)] h0 [] (fun v h => v = some (.int (if own_ix1 x0 < 0 then 0 else 1)) ∧ h0 = h) := by
  refine Met.walk pn_5 (Ls := #[.val (.ref a)]) (fun m => by first | (simp [entryFrame, mkF, argsToLocals, Value.category, maxLocals]; done) | rfl) ?_
  intro p e s m below meth c B
  refine B.aloadN 1 rfl d5_0 rfl rfl ?_
  refine B.ldcI 3 rfl d5_1 (wd hw 33 rfl) ?_
  refine B.callV 6 rfl d5_3 (wd hw 34 rfl) (wd hw 35 rfl) (wd hw 37 rfl) (wd hw 36 rfl) (wd hw 8 rfl) (wd hw 38 rfl) (by decide) E [(.int (65533 : Int32))] [] (rm_x11_1 l Z a0 hw a vb x0 cs vf h0 hcs hvf S SA SH SO SF q0 E Fc Fv A) rfl rfl pd__I_I rfl rfl 0 rfl (by decide) (by decide) (by decide) (by decide) (fun _ q => nomatch q) ?_
  rintro _ _ - ⟨rfl, rfl⟩
  show B.G h0 0 0 (mkF m 6 #[.val (.ref a)] [(.int (own_ix1 x0))])
  refine B.if0_lt 13 9 rfl (by decide) rfl d5_6 (fun c6 => ?_) (fun c6 => ?_)
  · refine B.iconst 14 rfl (0 : Int32) d5_13 rfl ?_
    refine B.retN (by simp) d5_14 (by decide) (by decide) ?_
    exact ⟨by simp [nar, c6], rfl⟩
  · refine B.iconst 10 rfl (1 : Int32) d5_9 rfl ?_
    refine B.goto 14 rfl (by decide) d5_10 ?_
    refine B.retN (by simp) d5_14 (by decide) (by decide) ?_
    exact ⟨by simp [nar, c6], rfl⟩
set_option maxRecDepth 65536 in
set_option maxHeartbeats 4000000 in
theorem rm_ln2_1 (l : Launch) (Z : State) (a0 : Array Value) (hw : ∀ d ∈ tables_1, d.before a0 Z = true) (a : Addr) (vb : Addr) (x0 x1 : Int32) (cs : Int32) (vf : Value) (h0 : Heap) (hcs : ¬ cs = 0) (hvf : vf.isRef = true) (S : Sta Z h0 "java/lang/String" "COMPACT_STRINGS" "Z" (.int cs)) (SA : Sta Z h0 "java/lang/StringUTF16" "$assertionsDisabled" "Z" (.int 1)) (SH : Sta Z h0 "java/lang/StringUTF16" "HI_BYTE_SHIFT" "I" (.int 0)) (SO : Sta Z h0 "java/lang/StringUTF16" "LO_BYTE_SHIFT" "I" (.int 8)) (SF : Sta Z h0 "jdk/internal/util/Preconditions" "SIOOBE_FORMATTER" "Ljava/util/function/BiFunction;" vf) (q0 : isC x0) (q1 : isC x1) (E : Exa Z h0 a "java/lang/String") (Fc : Fld Z h0 a "java/lang/String" "coder" "B" (.int (1 : Int32))) (Fv : Fld Z h0 a "java/lang/String" "value" "[B" (.ref vb)) (A : Ary Z h0 vb .byte [(.int (own_lo x0)), (.int (own_hi x0)), (.int (own_lo x1)), (.int (own_hi x1))]) :
    Met l Z (⟨"java/lang/String", "length", "()I"⟩ : MethodName) jdk_42_method_54_code 1 (some .int) [] ({ frames := 1, cells := 0, slots := 0, locals := 13 } : Room) #[(.ref a)] h0 [] (fun v h => v = some (.int (2 : Int32)) ∧ h0 = h) := by
  refine Met.walk pn_9 (Ls := #[.val (.ref a)]) (fun m => by first | (simp [entryFrame, mkF, argsToLocals, Value.category, maxLocals]; done) | rfl) ?_
  intro p e s m below meth c B
  refine B.aloadN 1 rfl d9_0 rfl rfl ?_
  refine B.getF 4 rfl d9_1 (wd hw 26 rfl) Fv ?_
  refine B.arrlen 5 rfl d9_4 A (4 : Int32) rfl ?_
  refine B.aloadN 6 rfl d9_5 rfl rfl ?_
  refine B.callV 9 rfl d9_6 (wd hw 55 rfl) (wd hw 56 rfl) (wd hw 58 rfl) (wd hw 57 rfl) (wd hw 8 rfl) (wd hw 59 rfl) (by decide) E [] [(.int (4 : Int32))] (rm_cd1 l Z a0 hw a cs vf h0 hcs hvf S SA SH SO SF Fc) rfl rfl pd___B rfl rfl 1 rfl (by decide) (by decide) (by decide) (by decide) (fun _ q => nomatch q) ?_
  rintro _ _ - ⟨rfl, rfl⟩
  show B.G h0 0 0 (mkF m 9 #[.val (.ref a)] [(.int (1 : Int32)), (.int (4 : Int32))])
  refine B.ishr 10 rfl d9_9 ?_
  refine B.topI (2 : Int32) (by decide) ?_
  refine B.retI d9_10 (by decide) (by decide) ?_
  exact ⟨rfl, rfl⟩
set_option maxRecDepth 65536 in
set_option maxHeartbeats 4000000 in
theorem rm_cf2 (l : Launch) (Z : State) (a0 : Array Value) (hw : ∀ d ∈ tables_1, d.before a0 Z = true) (vf : Value) (h0 : Heap) (hvf : vf.isRef = true) :
    Met l Z (⟨"jdk/internal/util/Preconditions", "checkFromToIndex", "(IIILjava/util/function/BiFunction;)I"⟩ : MethodName) jdk_41_method_12_code 4 (some .int) [] ({ frames := 0, cells := 0, slots := 0, locals := 0 } : Room) #[(.int (0 : Int32)), (.int (2 : Int32)), (.int (2 : Int32)), vf] h0 [] (fun v h => v = some (.int (0 : Int32)) ∧ h0 = h) := by
  refine Met.walk pn_28 (Ls := #[.val (.int (0 : Int32)), .val (.int (2 : Int32)), .val (.int (2 : Int32)), .val vf]) (fun m => by simp [entryFrame, mkF, argsToLocals, XT.cat1 hvf, show ∀ z, (Value.ref z).category = 1 from fun _ => rfl, show ∀ z, (Value.int z).category = 1 from fun _ => rfl, show Value.null.category = 1 from rfl]) ?_
  intro p e s m below meth c B
  refine B.iloadN 1 rfl d28_0 rfl ?_
  refine B.if0_lt 14 4 rfl (by decide) rfl d28_1 (fun c1 => ?_) (fun c1 => ?_)
  · exact absurd c1 (by decide)
  · refine B.iloadN 5 rfl d28_4 rfl ?_
    refine B.iloadN 6 rfl d28_5 rfl ?_
    refine B.icmp_gt 14 9 rfl (by decide) rfl d28_6 (fun c6 => ?_) (fun c6 => ?_)
    · exact absurd c6 (by decide)
    · refine B.iloadN 10 rfl d28_9 rfl ?_
      refine B.iloadN 11 rfl d28_10 rfl ?_
      refine B.icmp_le 22 14 rfl (by decide) rfl d28_11 (fun c11 => ?_) (fun c11 => ?_)
      · refine B.iloadN 23 rfl d28_22 rfl ?_
        refine B.retI d28_23 (by decide) (by decide) ?_
        exact ⟨rfl, rfl⟩
      · exact absurd c11 (by decide)
set_option maxRecDepth 65536 in
set_option maxHeartbeats 4000000 in
theorem rm_bs2 (l : Launch) (Z : State) (a0 : Array Value) (hw : ∀ d ∈ tables_1, d.before a0 Z = true) (cs : Int32) (vf : Value) (h0 : Heap) (hcs : ¬ cs = 0) (hvf : vf.isRef = true) (S : Sta Z h0 "java/lang/String" "COMPACT_STRINGS" "Z" (.int cs)) (SA : Sta Z h0 "java/lang/StringUTF16" "$assertionsDisabled" "Z" (.int 1)) (SH : Sta Z h0 "java/lang/StringUTF16" "HI_BYTE_SHIFT" "I" (.int 0)) (SO : Sta Z h0 "java/lang/StringUTF16" "LO_BYTE_SHIFT" "I" (.int 8)) (SF : Sta Z h0 "jdk/internal/util/Preconditions" "SIOOBE_FORMATTER" "Ljava/util/function/BiFunction;" vf) :
    Met l Z (⟨"java/lang/String", "checkBoundsBeginEnd", "(III)V"⟩ : MethodName) jdk_42_method_158_code 3 none [] ({ frames := 1, cells := 0, slots := 0, locals := 15 } : Room) #[(.int (0 : Int32)), (.int (2 : Int32)), (.int (2 : Int32))] h0 [] (fun v h => v = none ∧ h0 = h) := by
  refine Met.walk pn_27 (Ls := #[.val (.int (0 : Int32)), .val (.int (2 : Int32)), .val (.int (2 : Int32))]) (fun m => by first | (simp [entryFrame, mkF, argsToLocals, Value.category, maxLocals]; done) | rfl) ?_
  intro p e s m below meth c B
  refine B.iloadN 1 rfl d27_0 rfl ?_
  refine B.iloadN 2 rfl d27_1 rfl ?_
  refine B.iloadN 3 rfl d27_2 rfl ?_
  refine B.getS 6 rfl d27_3 (wd hw 120 rfl) SF ?_
  refine B.callS 9 rfl d27_6 (wd hw 122 rfl) (wd hw 123 rfl) (wd hw 121 rfl) (wd hw 124 rfl) (by decide) [(.int (0 : Int32)), (.int (2 : Int32)), (.int (2 : Int32)), vf] [] (rm_cf2 l Z a0 hw vf h0 hvf) rfl rfl pd__IIILjava_util_function_BiFunction__I rfl rfl 0 rfl (by decide) (by decide) (by decide) (by decide) (fun _ q => nomatch q) ?_
  rintro _ _ - ⟨rfl, rfl⟩
  show B.G h0 0 0 (mkF m 9 #[.val (.int (0 : Int32)), .val (.int (2 : Int32)), .val (.int (2 : Int32))] [(.int (0 : Int32))])
  refine B.pop 10 rfl d27_9 rfl ?_
  refine B.ret0 d27_10 (by decide) (by decide) ?_
  exact ⟨rfl, rfl⟩
set_option maxRecDepth 65536 in
set_option maxHeartbeats 4000000 in
theorem rm_bu2 (l : Launch) (Z : State) (a0 : Array Value) (hw : ∀ d ∈ tables_1, d.before a0 Z = true) (vb : Addr) (x0 x1 : Int32) (cs : Int32) (vf : Value) (h0 : Heap) (hcs : ¬ cs = 0) (hvf : vf.isRef = true) (S : Sta Z h0 "java/lang/String" "COMPACT_STRINGS" "Z" (.int cs)) (SA : Sta Z h0 "java/lang/StringUTF16" "$assertionsDisabled" "Z" (.int 1)) (SH : Sta Z h0 "java/lang/StringUTF16" "HI_BYTE_SHIFT" "I" (.int 0)) (SO : Sta Z h0 "java/lang/StringUTF16" "LO_BYTE_SHIFT" "I" (.int 8)) (SF : Sta Z h0 "jdk/internal/util/Preconditions" "SIOOBE_FORMATTER" "Ljava/util/function/BiFunction;" vf) (A : Ary Z h0 vb .byte [(.int (own_lo x0)), (.int (own_hi x0)), (.int (own_lo x1)), (.int (own_hi x1))]) :
    Met l Z (⟨"java/lang/StringUTF16", "checkBoundsBeginEnd", "(II[B)V"⟩ : MethodName) jdk_52_method_93_code 3 none [] ({ frames := 2, cells := 0, slots := 0, locals := 29 } : Room) #[(.int (0 : Int32)), (.int (2 : Int32)), (.ref vb)] h0 [] (fun v h => v = none ∧ h0 = h) := by
  refine Met.walk pn_25 (Ls := #[.val (.int (0 : Int32)), .val (.int (2 : Int32)), .val (.ref vb)]) (fun m => by first | (simp [entryFrame, mkF, argsToLocals, Value.category, maxLocals]; done) | rfl) ?_
  intro p e s m below meth c B
  refine B.iloadN 1 rfl d25_0 rfl ?_
  refine B.iloadN 2 rfl d25_1 rfl ?_
  refine B.aloadN 3 rfl d25_2 rfl rfl ?_
  refine B.callS 6 rfl d25_3 (wd hw 114 rfl) (wd hw 115 rfl) (wd hw 69 rfl) (wd hw 116 rfl) (by decide) [(.ref vb)] [(.int (2 : Int32)), (.int (0 : Int32))] (rm_ul2 l Z a0 hw vb x0 x1 h0 A) rfl rfl pd___B_I rfl rfl 2 rfl (by decide) (by decide) (by decide) (by decide) (fun _ q => nomatch q) ?_
  rintro _ _ - ⟨rfl, rfl⟩
  show B.G h0 0 0 (mkF m 6 #[.val (.int (0 : Int32)), .val (.int (2 : Int32)), .val (.ref vb)] [(.int (2 : Int32)), (.int (2 : Int32)), (.int (0 : Int32))])
  refine B.callS 9 rfl d25_6 (wd hw 117 rfl) (wd hw 118 rfl) (wd hw 8 rfl) (wd hw 119 rfl) (by decide) [(.int (0 : Int32)), (.int (2 : Int32)), (.int (2 : Int32))] [] (rm_bs2 l Z a0 hw cs vf h0 hcs hvf S SA SH SO SF) rfl rfl pd__III_V rfl rfl 0 rfl (by decide) (by decide) (by decide) (by decide) (fun _ q => nomatch q) ?_
  rintro _ _ - ⟨rfl, rfl⟩
  show B.G h0 0 0 (mkF m 9 #[.val (.int (0 : Int32)), .val (.int (2 : Int32)), .val (.ref vb)] [])
  refine B.ret0 d25_9 (by decide) (by decide) ?_
  exact ⟨rfl, rfl⟩
set_option maxRecDepth 65536 in
set_option maxHeartbeats 4000000 in
theorem rm_iu2 (l : Launch) (Z : State) (a0 : Array Value) (hw : ∀ d ∈ tables_1, d.before a0 Z = true) (vb : Addr) (x0 x1 : Int32) (cs : Int32) (vf : Value) (h0 : Heap) (hcs : ¬ cs = 0) (hvf : vf.isRef = true) (S : Sta Z h0 "java/lang/String" "COMPACT_STRINGS" "Z" (.int cs)) (SA : Sta Z h0 "java/lang/StringUTF16" "$assertionsDisabled" "Z" (.int 1)) (SH : Sta Z h0 "java/lang/StringUTF16" "HI_BYTE_SHIFT" "I" (.int 0)) (SO : Sta Z h0 "java/lang/StringUTF16" "LO_BYTE_SHIFT" "I" (.int 8)) (SF : Sta Z h0 "jdk/internal/util/Preconditions" "SIOOBE_FORMATTER" "Ljava/util/function/BiFunction;" vf) (q0 : isC x0) (q1 : isC x1) (A : Ary Z h0 vb .byte [(.int (own_lo x0)), (.int (own_hi x0)), (.int (own_lo x1)), (.int (own_hi x1))]) :
    Met l Z (⟨"java/lang/StringUTF16", "indexOfCharUnsafe", "([BIII)I"⟩ : MethodName) jdk_52_method_48_code 5 (some .int) [] ({ frames := 1, cells := 0, slots := 0, locals := 13 } : Room) #[(.ref vb), (.int (65533 : Int32)), (.int (0 : Int32)), (.int (2 : Int32))] h0 [] (fun v h => v = some (.int (own_ix2 x0 x1)) ∧ h0 = h) := by
  refine Met.walk pn_29 (Ls := #[.val (.ref vb), .val (.int (65533 : Int32)), .val (.int (0 : Int32)), .val (.int (2 : Int32)), .unset]) (fun m => by first | (simp [entryFrame, mkF, argsToLocals, Value.category, maxLocals]; done) | rfl) ?_
  intro p e s m below meth c B
  refine B.iloadN 1 rfl d29_0 rfl ?_
  refine B.istore 3 rfl d29_1 #[.val (.ref vb), .val (.int (65533 : Int32)), .val (.int (0 : Int32)), .val (.int (2 : Int32)), .val (.int (0 : Int32))] rfl ?_
  refine B.iload 5 rfl d29_3 rfl ?_
  refine B.iloadN 6 rfl d29_5 rfl ?_
  refine B.icmp_ge 28 9 rfl (by decide) rfl d29_6 (fun c6 => ?_) (fun c6 => ?_)
  · exact absurd c6 (by decide)
  · refine B.aloadN 10 rfl d29_9 rfl rfl ?_
    refine B.iload 12 rfl d29_10 rfl ?_
    refine B.callS 15 rfl d29_12 (wd hw 94 rfl) (wd hw 95 rfl) (wd hw 69 rfl) (wd hw 96 rfl) (by decide) [(.ref vb), (.int (0 : Int32))] [] (rm_gc0 l Z a0 hw vb x0 [(.int (own_lo x0)), (.int (own_hi x0)), (.int (own_lo x1)), (.int (own_hi x1))] cs vf h0 hcs hvf S SA SH SO SF q0 A rfl rfl) rfl rfl pd___BI_C rfl rfl 0 rfl (by decide) (by decide) (by decide) (by decide) (fun _ q => nomatch q) ?_
    rintro _ _ - ⟨rfl, rfl⟩
    show B.G h0 0 0 (mkF m 15 #[.val (.ref vb), .val (.int (65533 : Int32)), .val (.int (0 : Int32)), .val (.int (2 : Int32)), .val (.int (0 : Int32))] [(.int x0)])
    refine B.iloadN 16 rfl d29_15 rfl ?_
    refine B.icmp_ne 22 19 rfl (by decide) rfl d29_16 (fun c16 => ?_) (fun c16 => ?_)
    · refine B.iinc 25 rfl (1 : Int32) d29_22 rfl rfl #[.val (.ref vb), .val (.int (65533 : Int32)), .val (.int (0 : Int32)), .val (.int (2 : Int32)), .val (.int (1 : Int32))] rfl ?_
      refine B.goto 3 rfl (by decide) d29_25 ?_
      refine B.iload 5 rfl d29_3 rfl ?_
      refine B.iloadN 6 rfl d29_5 rfl ?_
      refine B.icmp_ge 28 9 rfl (by decide) rfl d29_6 (fun c6_1 => ?_) (fun c6_1 => ?_)
      · exact absurd c6_1 (by decide)
      · refine B.aloadN 10 rfl d29_9 rfl rfl ?_
        refine B.iload 12 rfl d29_10 rfl ?_
        refine B.callS 15 rfl d29_12 (wd hw 94 rfl) (wd hw 95 rfl) (wd hw 69 rfl) (wd hw 96 rfl) (by decide) [(.ref vb), (.int (1 : Int32))] [] (rm_gc1 l Z a0 hw vb x1 [(.int (own_lo x0)), (.int (own_hi x0)), (.int (own_lo x1)), (.int (own_hi x1))] cs vf h0 hcs hvf S SA SH SO SF q1 A rfl rfl) rfl rfl pd___BI_C rfl rfl 0 rfl (by decide) (by decide) (by decide) (by decide) (fun _ q => nomatch q) ?_
        rintro _ _ - ⟨rfl, rfl⟩
        show B.G h0 0 0 (mkF m 15 #[.val (.ref vb), .val (.int (65533 : Int32)), .val (.int (0 : Int32)), .val (.int (2 : Int32)), .val (.int (1 : Int32))] [(.int x1)])
        refine B.iloadN 16 rfl d29_15 rfl ?_
        refine B.icmp_ne 22 19 rfl (by decide) rfl d29_16 (fun c16_1 => ?_) (fun c16_1 => ?_)
        · refine B.iinc 25 rfl (1 : Int32) d29_22 rfl rfl #[.val (.ref vb), .val (.int (65533 : Int32)), .val (.int (0 : Int32)), .val (.int (2 : Int32)), .val (.int (2 : Int32))] rfl ?_
          refine B.goto 3 rfl (by decide) d29_25 ?_
          refine B.iload 5 rfl d29_3 rfl ?_
          refine B.iloadN 6 rfl d29_5 rfl ?_
          refine B.icmp_ge 28 9 rfl (by decide) rfl d29_6 (fun c6_2 => ?_) (fun c6_2 => ?_)
          · refine B.iconst 29 rfl (-1 : Int32) d29_28 rfl ?_
            refine B.retI d29_29 (by decide) (by decide) ?_
            exact ⟨by simp [own_ix2, c16, c16_1], rfl⟩
          · exact absurd c6_2 (by decide)
        · refine B.iload 21 rfl d29_19 rfl ?_
          refine B.retI d29_21 (by decide) (by decide) ?_
          exact ⟨by simp [own_ix2, c16, c16_1], rfl⟩
    · refine B.iload 21 rfl d29_19 rfl ?_
      refine B.retI d29_21 (by decide) (by decide) ?_
      exact ⟨by simp [own_ix2, c16], rfl⟩
set_option maxRecDepth 65536 in
set_option maxHeartbeats 4000000 in
theorem rm_ic2 (l : Launch) (Z : State) (a0 : Array Value) (hw : ∀ d ∈ tables_1, d.before a0 Z = true) (vb : Addr) (x0 x1 : Int32) (cs : Int32) (vf : Value) (h0 : Heap) (hcs : ¬ cs = 0) (hvf : vf.isRef = true) (S : Sta Z h0 "java/lang/String" "COMPACT_STRINGS" "Z" (.int cs)) (SA : Sta Z h0 "java/lang/StringUTF16" "$assertionsDisabled" "Z" (.int 1)) (SH : Sta Z h0 "java/lang/StringUTF16" "HI_BYTE_SHIFT" "I" (.int 0)) (SO : Sta Z h0 "java/lang/StringUTF16" "LO_BYTE_SHIFT" "I" (.int 8)) (SF : Sta Z h0 "jdk/internal/util/Preconditions" "SIOOBE_FORMATTER" "Ljava/util/function/BiFunction;" vf) (q0 : isC x0) (q1 : isC x1) (A : Ary Z h0 vb .byte [(.int (own_lo x0)), (.int (own_hi x0)), (.int (own_lo x1)), (.int (own_hi x1))]) :
    Met l Z (⟨"java/lang/StringUTF16", "indexOfChar", "([BIII)I"⟩ : MethodName) jdk_52_method_47_code 4 (some .int) [] ({ frames := 3, cells := 0, slots := 0, locals := 43 } : Room) #[(.ref vb), (.int (65533 : Int32)), (.int (0 : Int32)), (.int (2 : Int32))] h0 [] (fun v h => v = some (.int (own_ix2 x0 x1)) ∧ h0 = h) := by
  refine Met.walk pn_24 (Ls := #[.val (.ref vb), .val (.int (65533 : Int32)), .val (.int (0 : Int32)), .val (.int (2 : Int32))]) (fun m => by first | (simp [entryFrame, mkF, argsToLocals, Value.category, maxLocals]; done) | rfl) ?_
  intro p e s m below meth c B
  refine B.iloadN 1 rfl d24_0 rfl ?_
  refine B.iloadN 2 rfl d24_1 rfl ?_
  refine B.aloadN 3 rfl d24_2 rfl rfl ?_
  refine B.callS 6 rfl d24_3 (wd hw 111 rfl) (wd hw 112 rfl) (wd hw 69 rfl) (wd hw 113 rfl) (by decide) [(.int (0 : Int32)), (.int (2 : Int32)), (.ref vb)] [] (rm_bu2 l Z a0 hw vb x0 x1 cs vf h0 hcs hvf S SA SH SO SF A) rfl rfl pd__II_B_V rfl rfl 0 rfl (by decide) (by decide) (by decide) (by decide) (fun _ q => nomatch q) ?_
  rintro _ _ - ⟨rfl, rfl⟩
  show B.G h0 0 0 (mkF m 6 #[.val (.ref vb), .val (.int (65533 : Int32)), .val (.int (0 : Int32)), .val (.int (2 : Int32))] [])
  refine B.aloadN 7 rfl d24_6 rfl rfl ?_
  refine B.iloadN 8 rfl d24_7 rfl ?_
  refine B.iloadN 9 rfl d24_8 rfl ?_
  refine B.iloadN 10 rfl d24_9 rfl ?_
  refine B.callS 13 rfl d24_10 (wd hw 125 rfl) (wd hw 126 rfl) (wd hw 69 rfl) (wd hw 127 rfl) (by decide) [(.ref vb), (.int (65533 : Int32)), (.int (0 : Int32)), (.int (2 : Int32))] [] (rm_iu2 l Z a0 hw vb x0 x1 cs vf h0 hcs hvf S SA SH SO SF q0 q1 A) rfl rfl pd___BIII_I rfl rfl 0 rfl (by decide) (by decide) (by decide) (by decide) (fun _ q => nomatch q) ?_
  rintro _ _ - ⟨rfl, rfl⟩
  show B.G h0 0 0 (mkF m 13 #[.val (.ref vb), .val (.int (65533 : Int32)), .val (.int (0 : Int32)), .val (.int (2 : Int32))] [(.int (own_ix2 x0 x1))])
  refine B.retI d24_13 (by decide) (by decide) ?_
  exact ⟨rfl, rfl⟩
set_option maxRecDepth 65536 in
set_option maxHeartbeats 4000000 in
theorem rm_io2_1 (l : Launch) (Z : State) (a0 : Array Value) (hw : ∀ d ∈ tables_1, d.before a0 Z = true) (vb : Addr) (x0 x1 : Int32) (cs : Int32) (vf : Value) (h0 : Heap) (hcs : ¬ cs = 0) (hvf : vf.isRef = true) (S : Sta Z h0 "java/lang/String" "COMPACT_STRINGS" "Z" (.int cs)) (SA : Sta Z h0 "java/lang/StringUTF16" "$assertionsDisabled" "Z" (.int 1)) (SH : Sta Z h0 "java/lang/StringUTF16" "HI_BYTE_SHIFT" "I" (.int 0)) (SO : Sta Z h0 "java/lang/StringUTF16" "LO_BYTE_SHIFT" "I" (.int 8)) (SF : Sta Z h0 "jdk/internal/util/Preconditions" "SIOOBE_FORMATTER" "Ljava/util/function/BiFunction;" vf) (q0 : isC x0) (q1 : isC x1) (A : Ary Z h0 vb .byte [(.int (own_lo x0)), (.int (own_hi x0)), (.int (own_lo x1)), (.int (own_hi x1))]) :
    Met l Z (⟨"java/lang/StringUTF16", "indexOf", "([BIII)I"⟩ : MethodName) jdk_52_method_40_code 4 (some .int) [] ({ frames := 4, cells := 0, slots := 0, locals := 58 } : Room) #[(.ref vb), (.int (65533 : Int32)), (.int (0 : Int32)), (.int (2 : Int32))] h0 [] (fun v h => v = some (.int (own_ix2 x0 x1)) ∧ h0 = h) := by
  refine Met.walk pn_21 (Ls := #[.val (.ref vb), .val (.int (65533 : Int32)), .val (.int (0 : Int32)), .val (.int (2 : Int32))]) (fun m => by first | (simp [entryFrame, mkF, argsToLocals, Value.category, maxLocals]; done) | rfl) ?_
  intro p e s m below meth c B
  refine B.iloadN 1 rfl d21_0 rfl ?_
  refine B.iconst 2 rfl (0 : Int32) d21_1 rfl ?_
  refine B.callS 5 rfl d21_2 (wd hw 100 rfl) (wd hw 101 rfl) (wd hw 102 rfl) (wd hw 103 rfl) (by decide) [(.int (0 : Int32)), (.int (0 : Int32))] [] (rm_max l Z a0 hw (0 : Int32) (0 : Int32) h0) rfl rfl pd__II_I rfl rfl 0 rfl (by decide) (by decide) (by decide) (by decide) (fun _ q => nomatch q) ?_
  rintro _ _ - ⟨rfl, rfl⟩
  show B.G h0 0 0 (mkF m 5 #[.val (.ref vb), .val (.int (65533 : Int32)), .val (.int (0 : Int32)), .val (.int (2 : Int32))] [(.int (if (0 : Int32) < (0 : Int32) then (0 : Int32) else (0 : Int32)))])
  refine B.topI (0 : Int32) (by decide) ?_
  refine B.istoreN 6 rfl d21_5 #[.val (.ref vb), .val (.int (65533 : Int32)), .val (.int (0 : Int32)), .val (.int (2 : Int32))] rfl ?_
  refine B.iloadN 7 rfl d21_6 rfl ?_
  refine B.aloadN 8 rfl d21_7 rfl rfl ?_
  refine B.arrlen 9 rfl d21_8 A (4 : Int32) rfl ?_
  refine B.iconst 10 rfl (1 : Int32) d21_9 rfl ?_
  refine B.ishr 11 rfl d21_10 ?_
  refine B.topI (2 : Int32) (by decide) ?_
  refine B.callS 14 rfl d21_11 (wd hw 104 rfl) (wd hw 105 rfl) (wd hw 102 rfl) (wd hw 106 rfl) (by decide) [(.int (2 : Int32)), (.int (2 : Int32))] [] (rm_min l Z a0 hw (2 : Int32) (2 : Int32) h0) rfl rfl pd__II_I rfl rfl 0 rfl (by decide) (by decide) (by decide) (by decide) (fun _ q => nomatch q) ?_
  rintro _ _ - ⟨rfl, rfl⟩
  show B.G h0 0 0 (mkF m 14 #[.val (.ref vb), .val (.int (65533 : Int32)), .val (.int (0 : Int32)), .val (.int (2 : Int32))] [(.int (if (2 : Int32) < (2 : Int32) then (2 : Int32) else (2 : Int32)))])
  refine B.topI (2 : Int32) (by decide) ?_
  refine B.istoreN 15 rfl d21_14 #[.val (.ref vb), .val (.int (65533 : Int32)), .val (.int (0 : Int32)), .val (.int (2 : Int32))] rfl ?_
  refine B.iloadN 16 rfl d21_15 rfl ?_
  refine B.iloadN 17 rfl d21_16 rfl ?_
  refine B.icmp_lt 22 20 rfl (by decide) rfl d21_17 (fun c17 => ?_) (fun c17 => ?_)
  · refine B.iloadN 23 rfl d21_22 rfl ?_
    refine B.ldcI 25 rfl d21_23 (wd hw 107 rfl) ?_
    refine B.icmp_ge 36 28 rfl (by decide) rfl d21_25 (fun c25 => ?_) (fun c25 => ?_)
    · exact absurd c25 (by decide)
    · refine B.aloadN 29 rfl d21_28 rfl rfl ?_
      refine B.iloadN 30 rfl d21_29 rfl ?_
      refine B.iloadN 31 rfl d21_30 rfl ?_
      refine B.iloadN 32 rfl d21_31 rfl ?_
      refine B.callS 35 rfl d21_32 (wd hw 108 rfl) (wd hw 109 rfl) (wd hw 69 rfl) (wd hw 110 rfl) (by decide) [(.ref vb), (.int (65533 : Int32)), (.int (0 : Int32)), (.int (2 : Int32))] [] (rm_ic2 l Z a0 hw vb x0 x1 cs vf h0 hcs hvf S SA SH SO SF q0 q1 A) rfl rfl pd___BIII_I rfl rfl 0 rfl (by decide) (by decide) (by decide) (by decide) (fun _ q => nomatch q) ?_
      rintro _ _ - ⟨rfl, rfl⟩
      show B.G h0 0 0 (mkF m 35 #[.val (.ref vb), .val (.int (65533 : Int32)), .val (.int (0 : Int32)), .val (.int (2 : Int32))] [(.int (own_ix2 x0 x1))])
      refine B.retI d21_35 (by decide) (by decide) ?_
      exact ⟨rfl, rfl⟩
  · exact absurd c17 (by decide)
set_option maxRecDepth 65536 in
set_option maxHeartbeats 4000000 in
theorem rm_x22_1 (l : Launch) (Z : State) (a0 : Array Value) (hw : ∀ d ∈ tables_1, d.before a0 Z = true) (a : Addr) (vb : Addr) (x0 x1 : Int32) (cs : Int32) (vf : Value) (h0 : Heap) (hcs : ¬ cs = 0) (hvf : vf.isRef = true) (S : Sta Z h0 "java/lang/String" "COMPACT_STRINGS" "Z" (.int cs)) (SA : Sta Z h0 "java/lang/StringUTF16" "$assertionsDisabled" "Z" (.int 1)) (SH : Sta Z h0 "java/lang/StringUTF16" "HI_BYTE_SHIFT" "I" (.int 0)) (SO : Sta Z h0 "java/lang/StringUTF16" "LO_BYTE_SHIFT" "I" (.int 8)) (SF : Sta Z h0 "jdk/internal/util/Preconditions" "SIOOBE_FORMATTER" "Ljava/util/function/BiFunction;" vf) (q0 : isC x0) (q1 : isC x1) (E : Exa Z h0 a "java/lang/String") (Fc : Fld Z h0 a "java/lang/String" "coder" "B" (.int (1 : Int32))) (Fv : Fld Z h0 a "java/lang/String" "value" "[B" (.ref vb)) (A : Ary Z h0 vb .byte [(.int (own_lo x0)), (.int (own_hi x0)), (.int (own_lo x1)), (.int (own_hi x1))]) :
    Met l Z (⟨"java/lang/String", "indexOf", "(II)I"⟩ : MethodName) jdk_42_method_80_code 3 (some .int) [] ({ frames := 5, cells := 0, slots := 0, locals := 73 } : Room) #[(.ref a), (.int (65533 : Int32)), (.int (0 : Int32))] h0 [] (fun v h => v = some (.int (own_ix2 x0 x1)) ∧ h0 = h) := by
  refine Met.walk pn_7 (Ls := #[.val (.ref a), .val (.int (65533 : Int32)), .val (.int (0 : Int32))]) (fun m => by first | (simp [entryFrame, mkF, argsToLocals, Value.category, maxLocals]; done) | rfl) ?_
  intro p e s m below meth c B
  refine B.aloadN 1 rfl d7_0 rfl rfl ?_
  refine B.callV 4 rfl d7_1 (wd hw 44 rfl) (wd hw 45 rfl) (wd hw 47 rfl) (wd hw 46 rfl) (wd hw 8 rfl) (wd hw 48 rfl) (by decide) E [] [] (rm_il1 l Z a0 hw a cs vf h0 hcs hvf S SA SH SO SF Fc) rfl rfl pd___Z rfl rfl 0 rfl (by decide) (by decide) (by decide) (by decide) (fun _ q => nomatch q) ?_
  rintro _ _ - ⟨rfl, rfl⟩
  show B.G h0 0 0 (mkF m 4 #[.val (.ref a), .val (.int (65533 : Int32)), .val (.int (0 : Int32))] [(.int (0 : Int32))])
  refine B.if0_eq 23 7 rfl (by decide) rfl d7_4 (fun c4 => ?_) (fun c4 => ?_)
  · refine B.aloadN 24 rfl d7_23 rfl rfl ?_
    refine B.getF 27 rfl d7_24 (wd hw 26 rfl) Fv ?_
    refine B.iloadN 28 rfl d7_27 rfl ?_
    refine B.iloadN 29 rfl d7_28 rfl ?_
    refine B.aloadN 30 rfl d7_29 rfl rfl ?_
    refine B.callV 33 rfl d7_30 (wd hw 50 rfl) (wd hw 51 rfl) (wd hw 53 rfl) (wd hw 52 rfl) (wd hw 8 rfl) (wd hw 54 rfl) (by decide) E [] [(.int (0 : Int32)), (.int (65533 : Int32)), (.ref vb)] (rm_ln2_1 l Z a0 hw a vb x0 x1 cs vf h0 hcs hvf S SA SH SO SF q0 q1 E Fc Fv A) rfl rfl pd___I rfl rfl 3 rfl (by decide) (by decide) (by decide) (by decide) (fun _ q => nomatch q) ?_
    rintro _ _ - ⟨rfl, rfl⟩
    show B.G h0 0 0 (mkF m 33 #[.val (.ref a), .val (.int (65533 : Int32)), .val (.int (0 : Int32))] [(.int (2 : Int32)), (.int (0 : Int32)), (.int (65533 : Int32)), (.ref vb)])
    refine B.callS 36 rfl d7_33 (wd hw 97 rfl) (wd hw 98 rfl) (wd hw 69 rfl) (wd hw 99 rfl) (by decide) [(.ref vb), (.int (65533 : Int32)), (.int (0 : Int32)), (.int (2 : Int32))] [] (rm_io2_1 l Z a0 hw vb x0 x1 cs vf h0 hcs hvf S SA SH SO SF q0 q1 A) rfl rfl pd___BIII_I rfl rfl 0 rfl (by decide) (by decide) (by decide) (by decide) (fun _ q => nomatch q) ?_
    rintro _ _ - ⟨rfl, rfl⟩
    show B.G h0 0 0 (mkF m 36 #[.val (.ref a), .val (.int (65533 : Int32)), .val (.int (0 : Int32))] [(.int (own_ix2 x0 x1))])
    refine B.retI d7_36 (by decide) (by decide) ?_
    exact ⟨rfl, rfl⟩
  · exact absurd c4 (by decide)
set_option maxRecDepth 65536 in
set_option maxHeartbeats 4000000 in
theorem rm_x12_1 (l : Launch) (Z : State) (a0 : Array Value) (hw : ∀ d ∈ tables_1, d.before a0 Z = true) (a : Addr) (vb : Addr) (x0 x1 : Int32) (cs : Int32) (vf : Value) (h0 : Heap) (hcs : ¬ cs = 0) (hvf : vf.isRef = true) (S : Sta Z h0 "java/lang/String" "COMPACT_STRINGS" "Z" (.int cs)) (SA : Sta Z h0 "java/lang/StringUTF16" "$assertionsDisabled" "Z" (.int 1)) (SH : Sta Z h0 "java/lang/StringUTF16" "HI_BYTE_SHIFT" "I" (.int 0)) (SO : Sta Z h0 "java/lang/StringUTF16" "LO_BYTE_SHIFT" "I" (.int 8)) (SF : Sta Z h0 "jdk/internal/util/Preconditions" "SIOOBE_FORMATTER" "Ljava/util/function/BiFunction;" vf) (q0 : isC x0) (q1 : isC x1) (E : Exa Z h0 a "java/lang/String") (Fc : Fld Z h0 a "java/lang/String" "coder" "B" (.int (1 : Int32))) (Fv : Fld Z h0 a "java/lang/String" "value" "[B" (.ref vb)) (A : Ary Z h0 vb .byte [(.int (own_lo x0)), (.int (own_hi x0)), (.int (own_lo x1)), (.int (own_hi x1))]) :
    Met l Z (⟨"java/lang/String", "indexOf", "(I)I"⟩ : MethodName) jdk_42_method_79_code 2 (some .int) [] ({ frames := 6, cells := 0, slots := 0, locals := 87 } : Room) #[(.ref a), (.int (65533 : Int32))] h0 [] (fun v h => v = some (.int (own_ix2 x0 x1)) ∧ h0 = h) := by
  refine Met.walk pn_6 (Ls := #[.val (.ref a), .val (.int (65533 : Int32))]) (fun m => by first | (simp [entryFrame, mkF, argsToLocals, Value.category, maxLocals]; done) | rfl) ?_
  intro p e s m below meth c B
  refine B.aloadN 1 rfl d6_0 rfl rfl ?_
  refine B.iloadN 2 rfl d6_1 rfl ?_
  refine B.iconst 3 rfl (0 : Int32) d6_2 rfl ?_
  refine B.callV 6 rfl d6_3 (wd hw 39 rfl) (wd hw 40 rfl) (wd hw 42 rfl) (wd hw 41 rfl) (wd hw 8 rfl) (wd hw 43 rfl) (by decide) E [(.int (65533 : Int32)), (.int (0 : Int32))] [] (rm_x22_1 l Z a0 hw a vb x0 x1 cs vf h0 hcs hvf S SA SH SO SF q0 q1 E Fc Fv A) rfl rfl pd__II_I rfl rfl 0 rfl (by decide) (by decide) (by decide) (by decide) (fun _ q => nomatch q) ?_
  rintro _ _ - ⟨rfl, rfl⟩
  show B.G h0 0 0 (mkF m 6 #[.val (.ref a), .val (.int (65533 : Int32))] [(.int (own_ix2 x0 x1))])
  refine B.retI d6_6 (by decide) (by decide) ?_
  exact ⟨rfl, rfl⟩
set_option maxRecDepth 65536 in
set_option maxHeartbeats 4000000 in
theorem rm_un2_1 (l : Launch) (Z : State) (a0 : Array Value) (hw : ∀ d ∈ tables_1, d.before a0 Z = true) (a : Addr) (vb : Addr) (x0 x1 : Int32) (cs : Int32) (vf : Value) (h0 : Heap) (hcs : ¬ cs = 0) (hvf : vf.isRef = true) (S : Sta Z h0 "java/lang/String" "COMPACT_STRINGS" "Z" (.int cs)) (SA : Sta Z h0 "java/lang/StringUTF16" "$assertionsDisabled" "Z" (.int 1)) (SH : Sta Z h0 "java/lang/StringUTF16" "HI_BYTE_SHIFT" "I" (.int 0)) (SO : Sta Z h0 "java/lang/StringUTF16" "LO_BYTE_SHIFT" "I" (.int 8)) (SF : Sta Z h0 "jdk/internal/util/Preconditions" "SIOOBE_FORMATTER" "Ljava/util/function/BiFunction;" vf) (q0 : isC x0) (q1 : isC x1) (E : Exa Z h0 a "java/lang/String") (Fc : Fld Z h0 a "java/lang/String" "coder" "B" (.int (1 : Int32))) (Fv : Fld Z h0 a "java/lang/String" "value" "[B" (.ref vb)) (A : Ary Z h0 vb .byte [(.int (own_lo x0)), (.int (own_hi x0)), (.int (own_lo x1)), (.int (own_hi x1))]) :
    Met l Z (⟨"io/keyvouch/cli/Arguments", "undecoded", "(Ljava/lang/String;)Z"⟩ : MethodName) prog_2_method_2_code 1 (some .boolean) [] ({ frames := 7, cells := 0, slots := 0, locals := 100 } : Room) #[(.ref a)] h0 [] (fun v h => v = some (.int (if own_ix2 x0 x1 < 0 then 0 else 1)) ∧ h0 = h) := by
  refine Met.walk pn_5 (Ls := #[.val (.ref a)]) (fun m => by first | (simp [entryFrame, mkF, argsToLocals, Value.category, maxLocals]; done) | rfl) ?_
  intro p e s m below meth c B
  refine B.aloadN 1 rfl d5_0 rfl rfl ?_
  refine B.ldcI 3 rfl d5_1 (wd hw 33 rfl) ?_
  refine B.callV 6 rfl d5_3 (wd hw 34 rfl) (wd hw 35 rfl) (wd hw 37 rfl) (wd hw 36 rfl) (wd hw 8 rfl) (wd hw 38 rfl) (by decide) E [(.int (65533 : Int32))] [] (rm_x12_1 l Z a0 hw a vb x0 x1 cs vf h0 hcs hvf S SA SH SO SF q0 q1 E Fc Fv A) rfl rfl pd__I_I rfl rfl 0 rfl (by decide) (by decide) (by decide) (by decide) (fun _ q => nomatch q) ?_
  rintro _ _ - ⟨rfl, rfl⟩
  show B.G h0 0 0 (mkF m 6 #[.val (.ref a)] [(.int (own_ix2 x0 x1))])
  refine B.if0_lt 13 9 rfl (by decide) rfl d5_6 (fun c6 => ?_) (fun c6 => ?_)
  · refine B.iconst 14 rfl (0 : Int32) d5_13 rfl ?_
    refine B.retN (by simp) d5_14 (by decide) (by decide) ?_
    exact ⟨by simp [nar, c6], rfl⟩
  · refine B.iconst 10 rfl (1 : Int32) d5_9 rfl ?_
    refine B.goto 14 rfl (by decide) d5_10 ?_
    refine B.retN (by simp) d5_14 (by decide) (by decide) ?_
    exact ⟨by simp [nar, c6], rfl⟩
set_option maxRecDepth 65536 in
set_option maxHeartbeats 4000000 in
theorem rm_ln3_1 (l : Launch) (Z : State) (a0 : Array Value) (hw : ∀ d ∈ tables_1, d.before a0 Z = true) (a : Addr) (vb : Addr) (x0 x1 x2 : Int32) (cs : Int32) (vf : Value) (h0 : Heap) (hcs : ¬ cs = 0) (hvf : vf.isRef = true) (S : Sta Z h0 "java/lang/String" "COMPACT_STRINGS" "Z" (.int cs)) (SA : Sta Z h0 "java/lang/StringUTF16" "$assertionsDisabled" "Z" (.int 1)) (SH : Sta Z h0 "java/lang/StringUTF16" "HI_BYTE_SHIFT" "I" (.int 0)) (SO : Sta Z h0 "java/lang/StringUTF16" "LO_BYTE_SHIFT" "I" (.int 8)) (SF : Sta Z h0 "jdk/internal/util/Preconditions" "SIOOBE_FORMATTER" "Ljava/util/function/BiFunction;" vf) (q0 : isC x0) (q1 : isC x1) (q2 : isC x2) (E : Exa Z h0 a "java/lang/String") (Fc : Fld Z h0 a "java/lang/String" "coder" "B" (.int (1 : Int32))) (Fv : Fld Z h0 a "java/lang/String" "value" "[B" (.ref vb)) (A : Ary Z h0 vb .byte [(.int (own_lo x0)), (.int (own_hi x0)), (.int (own_lo x1)), (.int (own_hi x1)), (.int (own_lo x2)), (.int (own_hi x2))]) :
    Met l Z (⟨"java/lang/String", "length", "()I"⟩ : MethodName) jdk_42_method_54_code 1 (some .int) [] ({ frames := 1, cells := 0, slots := 0, locals := 13 } : Room) #[(.ref a)] h0 [] (fun v h => v = some (.int (3 : Int32)) ∧ h0 = h) := by
  refine Met.walk pn_9 (Ls := #[.val (.ref a)]) (fun m => by first | (simp [entryFrame, mkF, argsToLocals, Value.category, maxLocals]; done) | rfl) ?_
  intro p e s m below meth c B
  refine B.aloadN 1 rfl d9_0 rfl rfl ?_
  refine B.getF 4 rfl d9_1 (wd hw 26 rfl) Fv ?_
  refine B.arrlen 5 rfl d9_4 A (6 : Int32) rfl ?_
  refine B.aloadN 6 rfl d9_5 rfl rfl ?_
  refine B.callV 9 rfl d9_6 (wd hw 55 rfl) (wd hw 56 rfl) (wd hw 58 rfl) (wd hw 57 rfl) (wd hw 8 rfl) (wd hw 59 rfl) (by decide) E [] [(.int (6 : Int32))] (rm_cd1 l Z a0 hw a cs vf h0 hcs hvf S SA SH SO SF Fc) rfl rfl pd___B rfl rfl 1 rfl (by decide) (by decide) (by decide) (by decide) (fun _ q => nomatch q) ?_
  rintro _ _ - ⟨rfl, rfl⟩
  show B.G h0 0 0 (mkF m 9 #[.val (.ref a)] [(.int (1 : Int32)), (.int (6 : Int32))])
  refine B.ishr 10 rfl d9_9 ?_
  refine B.topI (3 : Int32) (by decide) ?_
  refine B.retI d9_10 (by decide) (by decide) ?_
  exact ⟨rfl, rfl⟩
set_option maxRecDepth 65536 in
set_option maxHeartbeats 4000000 in
theorem rm_cf3 (l : Launch) (Z : State) (a0 : Array Value) (hw : ∀ d ∈ tables_1, d.before a0 Z = true) (vf : Value) (h0 : Heap) (hvf : vf.isRef = true) :
    Met l Z (⟨"jdk/internal/util/Preconditions", "checkFromToIndex", "(IIILjava/util/function/BiFunction;)I"⟩ : MethodName) jdk_41_method_12_code 4 (some .int) [] ({ frames := 0, cells := 0, slots := 0, locals := 0 } : Room) #[(.int (0 : Int32)), (.int (3 : Int32)), (.int (3 : Int32)), vf] h0 [] (fun v h => v = some (.int (0 : Int32)) ∧ h0 = h) := by
  refine Met.walk pn_28 (Ls := #[.val (.int (0 : Int32)), .val (.int (3 : Int32)), .val (.int (3 : Int32)), .val vf]) (fun m => by simp [entryFrame, mkF, argsToLocals, XT.cat1 hvf, show ∀ z, (Value.ref z).category = 1 from fun _ => rfl, show ∀ z, (Value.int z).category = 1 from fun _ => rfl, show Value.null.category = 1 from rfl]) ?_
  intro p e s m below meth c B
  refine B.iloadN 1 rfl d28_0 rfl ?_
  refine B.if0_lt 14 4 rfl (by decide) rfl d28_1 (fun c1 => ?_) (fun c1 => ?_)
  · exact absurd c1 (by decide)
  · refine B.iloadN 5 rfl d28_4 rfl ?_
    refine B.iloadN 6 rfl d28_5 rfl ?_
    refine B.icmp_gt 14 9 rfl (by decide) rfl d28_6 (fun c6 => ?_) (fun c6 => ?_)
    · exact absurd c6 (by decide)
    · refine B.iloadN 10 rfl d28_9 rfl ?_
      refine B.iloadN 11 rfl d28_10 rfl ?_
      refine B.icmp_le 22 14 rfl (by decide) rfl d28_11 (fun c11 => ?_) (fun c11 => ?_)
      · refine B.iloadN 23 rfl d28_22 rfl ?_
        refine B.retI d28_23 (by decide) (by decide) ?_
        exact ⟨rfl, rfl⟩
      · exact absurd c11 (by decide)
set_option maxRecDepth 65536 in
set_option maxHeartbeats 4000000 in
theorem rm_bs3 (l : Launch) (Z : State) (a0 : Array Value) (hw : ∀ d ∈ tables_1, d.before a0 Z = true) (cs : Int32) (vf : Value) (h0 : Heap) (hcs : ¬ cs = 0) (hvf : vf.isRef = true) (S : Sta Z h0 "java/lang/String" "COMPACT_STRINGS" "Z" (.int cs)) (SA : Sta Z h0 "java/lang/StringUTF16" "$assertionsDisabled" "Z" (.int 1)) (SH : Sta Z h0 "java/lang/StringUTF16" "HI_BYTE_SHIFT" "I" (.int 0)) (SO : Sta Z h0 "java/lang/StringUTF16" "LO_BYTE_SHIFT" "I" (.int 8)) (SF : Sta Z h0 "jdk/internal/util/Preconditions" "SIOOBE_FORMATTER" "Ljava/util/function/BiFunction;" vf) :
    Met l Z (⟨"java/lang/String", "checkBoundsBeginEnd", "(III)V"⟩ : MethodName) jdk_42_method_158_code 3 none [] ({ frames := 1, cells := 0, slots := 0, locals := 15 } : Room) #[(.int (0 : Int32)), (.int (3 : Int32)), (.int (3 : Int32))] h0 [] (fun v h => v = none ∧ h0 = h) := by
  refine Met.walk pn_27 (Ls := #[.val (.int (0 : Int32)), .val (.int (3 : Int32)), .val (.int (3 : Int32))]) (fun m => by first | (simp [entryFrame, mkF, argsToLocals, Value.category, maxLocals]; done) | rfl) ?_
  intro p e s m below meth c B
  refine B.iloadN 1 rfl d27_0 rfl ?_
  refine B.iloadN 2 rfl d27_1 rfl ?_
  refine B.iloadN 3 rfl d27_2 rfl ?_
  refine B.getS 6 rfl d27_3 (wd hw 120 rfl) SF ?_
  refine B.callS 9 rfl d27_6 (wd hw 122 rfl) (wd hw 123 rfl) (wd hw 121 rfl) (wd hw 124 rfl) (by decide) [(.int (0 : Int32)), (.int (3 : Int32)), (.int (3 : Int32)), vf] [] (rm_cf3 l Z a0 hw vf h0 hvf) rfl rfl pd__IIILjava_util_function_BiFunction__I rfl rfl 0 rfl (by decide) (by decide) (by decide) (by decide) (fun _ q => nomatch q) ?_
  rintro _ _ - ⟨rfl, rfl⟩
  show B.G h0 0 0 (mkF m 9 #[.val (.int (0 : Int32)), .val (.int (3 : Int32)), .val (.int (3 : Int32))] [(.int (0 : Int32))])
  refine B.pop 10 rfl d27_9 rfl ?_
  refine B.ret0 d27_10 (by decide) (by decide) ?_
  exact ⟨rfl, rfl⟩
set_option maxRecDepth 65536 in
set_option maxHeartbeats 4000000 in
theorem rm_bu3 (l : Launch) (Z : State) (a0 : Array Value) (hw : ∀ d ∈ tables_1, d.before a0 Z = true) (vb : Addr) (x0 x1 x2 : Int32) (cs : Int32) (vf : Value) (h0 : Heap) (hcs : ¬ cs = 0) (hvf : vf.isRef = true) (S : Sta Z h0 "java/lang/String" "COMPACT_STRINGS" "Z" (.int cs)) (SA : Sta Z h0 "java/lang/StringUTF16" "$assertionsDisabled" "Z" (.int 1)) (SH : Sta Z h0 "java/lang/StringUTF16" "HI_BYTE_SHIFT" "I" (.int 0)) (SO : Sta Z h0 "java/lang/StringUTF16" "LO_BYTE_SHIFT" "I" (.int 8)) (SF : Sta Z h0 "jdk/internal/util/Preconditions" "SIOOBE_FORMATTER" "Ljava/util/function/BiFunction;" vf) (A : Ary Z h0 vb .byte [(.int (own_lo x0)), (.int (own_hi x0)), (.int (own_lo x1)), (.int (own_hi x1)), (.int (own_lo x2)), (.int (own_hi x2))]) :
    Met l Z (⟨"java/lang/StringUTF16", "checkBoundsBeginEnd", "(II[B)V"⟩ : MethodName) jdk_52_method_93_code 3 none [] ({ frames := 2, cells := 0, slots := 0, locals := 29 } : Room) #[(.int (0 : Int32)), (.int (3 : Int32)), (.ref vb)] h0 [] (fun v h => v = none ∧ h0 = h) := by
  refine Met.walk pn_25 (Ls := #[.val (.int (0 : Int32)), .val (.int (3 : Int32)), .val (.ref vb)]) (fun m => by first | (simp [entryFrame, mkF, argsToLocals, Value.category, maxLocals]; done) | rfl) ?_
  intro p e s m below meth c B
  refine B.iloadN 1 rfl d25_0 rfl ?_
  refine B.iloadN 2 rfl d25_1 rfl ?_
  refine B.aloadN 3 rfl d25_2 rfl rfl ?_
  refine B.callS 6 rfl d25_3 (wd hw 114 rfl) (wd hw 115 rfl) (wd hw 69 rfl) (wd hw 116 rfl) (by decide) [(.ref vb)] [(.int (3 : Int32)), (.int (0 : Int32))] (rm_ul3 l Z a0 hw vb x0 x1 x2 h0 A) rfl rfl pd___B_I rfl rfl 2 rfl (by decide) (by decide) (by decide) (by decide) (fun _ q => nomatch q) ?_
  rintro _ _ - ⟨rfl, rfl⟩
  show B.G h0 0 0 (mkF m 6 #[.val (.int (0 : Int32)), .val (.int (3 : Int32)), .val (.ref vb)] [(.int (3 : Int32)), (.int (3 : Int32)), (.int (0 : Int32))])
  refine B.callS 9 rfl d25_6 (wd hw 117 rfl) (wd hw 118 rfl) (wd hw 8 rfl) (wd hw 119 rfl) (by decide) [(.int (0 : Int32)), (.int (3 : Int32)), (.int (3 : Int32))] [] (rm_bs3 l Z a0 hw cs vf h0 hcs hvf S SA SH SO SF) rfl rfl pd__III_V rfl rfl 0 rfl (by decide) (by decide) (by decide) (by decide) (fun _ q => nomatch q) ?_
  rintro _ _ - ⟨rfl, rfl⟩
  show B.G h0 0 0 (mkF m 9 #[.val (.int (0 : Int32)), .val (.int (3 : Int32)), .val (.ref vb)] [])
  refine B.ret0 d25_9 (by decide) (by decide) ?_
  exact ⟨rfl, rfl⟩
set_option maxRecDepth 65536 in
set_option maxHeartbeats 4000000 in
theorem rm_iu3 (l : Launch) (Z : State) (a0 : Array Value) (hw : ∀ d ∈ tables_1, d.before a0 Z = true) (vb : Addr) (x0 x1 x2 : Int32) (cs : Int32) (vf : Value) (h0 : Heap) (hcs : ¬ cs = 0) (hvf : vf.isRef = true) (S : Sta Z h0 "java/lang/String" "COMPACT_STRINGS" "Z" (.int cs)) (SA : Sta Z h0 "java/lang/StringUTF16" "$assertionsDisabled" "Z" (.int 1)) (SH : Sta Z h0 "java/lang/StringUTF16" "HI_BYTE_SHIFT" "I" (.int 0)) (SO : Sta Z h0 "java/lang/StringUTF16" "LO_BYTE_SHIFT" "I" (.int 8)) (SF : Sta Z h0 "jdk/internal/util/Preconditions" "SIOOBE_FORMATTER" "Ljava/util/function/BiFunction;" vf) (q0 : isC x0) (q1 : isC x1) (q2 : isC x2) (A : Ary Z h0 vb .byte [(.int (own_lo x0)), (.int (own_hi x0)), (.int (own_lo x1)), (.int (own_hi x1)), (.int (own_lo x2)), (.int (own_hi x2))]) :
    Met l Z (⟨"java/lang/StringUTF16", "indexOfCharUnsafe", "([BIII)I"⟩ : MethodName) jdk_52_method_48_code 5 (some .int) [] ({ frames := 1, cells := 0, slots := 0, locals := 13 } : Room) #[(.ref vb), (.int (65533 : Int32)), (.int (0 : Int32)), (.int (3 : Int32))] h0 [] (fun v h => v = some (.int (own_ix3 x0 x1 x2)) ∧ h0 = h) := by
  refine Met.walk pn_29 (Ls := #[.val (.ref vb), .val (.int (65533 : Int32)), .val (.int (0 : Int32)), .val (.int (3 : Int32)), .unset]) (fun m => by first | (simp [entryFrame, mkF, argsToLocals, Value.category, maxLocals]; done) | rfl) ?_
  intro p e s m below meth c B
  refine B.iloadN 1 rfl d29_0 rfl ?_
  refine B.istore 3 rfl d29_1 #[.val (.ref vb), .val (.int (65533 : Int32)), .val (.int (0 : Int32)), .val (.int (3 : Int32)), .val (.int (0 : Int32))] rfl ?_
  refine B.iload 5 rfl d29_3 rfl ?_
  refine B.iloadN 6 rfl d29_5 rfl ?_
  refine B.icmp_ge 28 9 rfl (by decide) rfl d29_6 (fun c6 => ?_) (fun c6 => ?_)
  · exact absurd c6 (by decide)
  · refine B.aloadN 10 rfl d29_9 rfl rfl ?_
    refine B.iload 12 rfl d29_10 rfl ?_
    refine B.callS 15 rfl d29_12 (wd hw 94 rfl) (wd hw 95 rfl) (wd hw 69 rfl) (wd hw 96 rfl) (by decide) [(.ref vb), (.int (0 : Int32))] [] (rm_gc0 l Z a0 hw vb x0 [(.int (own_lo x0)), (.int (own_hi x0)), (.int (own_lo x1)), (.int (own_hi x1)), (.int (own_lo x2)), (.int (own_hi x2))] cs vf h0 hcs hvf S SA SH SO SF q0 A rfl rfl) rfl rfl pd___BI_C rfl rfl 0 rfl (by decide) (by decide) (by decide) (by decide) (fun _ q => nomatch q) ?_
    rintro _ _ - ⟨rfl, rfl⟩
    show B.G h0 0 0 (mkF m 15 #[.val (.ref vb), .val (.int (65533 : Int32)), .val (.int (0 : Int32)), .val (.int (3 : Int32)), .val (.int (0 : Int32))] [(.int x0)])
    refine B.iloadN 16 rfl d29_15 rfl ?_
    refine B.icmp_ne 22 19 rfl (by decide) rfl d29_16 (fun c16 => ?_) (fun c16 => ?_)
    · refine B.iinc 25 rfl (1 : Int32) d29_22 rfl rfl #[.val (.ref vb), .val (.int (65533 : Int32)), .val (.int (0 : Int32)), .val (.int (3 : Int32)), .val (.int (1 : Int32))] rfl ?_
      refine B.goto 3 rfl (by decide) d29_25 ?_
      refine B.iload 5 rfl d29_3 rfl ?_
      refine B.iloadN 6 rfl d29_5 rfl ?_
      refine B.icmp_ge 28 9 rfl (by decide) rfl d29_6 (fun c6_1 => ?_) (fun c6_1 => ?_)
      · exact absurd c6_1 (by decide)
      · refine B.aloadN 10 rfl d29_9 rfl rfl ?_
        refine B.iload 12 rfl d29_10 rfl ?_
        refine B.callS 15 rfl d29_12 (wd hw 94 rfl) (wd hw 95 rfl) (wd hw 69 rfl) (wd hw 96 rfl) (by decide) [(.ref vb), (.int (1 : Int32))] [] (rm_gc1 l Z a0 hw vb x1 [(.int (own_lo x0)), (.int (own_hi x0)), (.int (own_lo x1)), (.int (own_hi x1)), (.int (own_lo x2)), (.int (own_hi x2))] cs vf h0 hcs hvf S SA SH SO SF q1 A rfl rfl) rfl rfl pd___BI_C rfl rfl 0 rfl (by decide) (by decide) (by decide) (by decide) (fun _ q => nomatch q) ?_
        rintro _ _ - ⟨rfl, rfl⟩
        show B.G h0 0 0 (mkF m 15 #[.val (.ref vb), .val (.int (65533 : Int32)), .val (.int (0 : Int32)), .val (.int (3 : Int32)), .val (.int (1 : Int32))] [(.int x1)])
        refine B.iloadN 16 rfl d29_15 rfl ?_
        refine B.icmp_ne 22 19 rfl (by decide) rfl d29_16 (fun c16_1 => ?_) (fun c16_1 => ?_)
        · refine B.iinc 25 rfl (1 : Int32) d29_22 rfl rfl #[.val (.ref vb), .val (.int (65533 : Int32)), .val (.int (0 : Int32)), .val (.int (3 : Int32)), .val (.int (2 : Int32))] rfl ?_
          refine B.goto 3 rfl (by decide) d29_25 ?_
          refine B.iload 5 rfl d29_3 rfl ?_
          refine B.iloadN 6 rfl d29_5 rfl ?_
          refine B.icmp_ge 28 9 rfl (by decide) rfl d29_6 (fun c6_2 => ?_) (fun c6_2 => ?_)
          · exact absurd c6_2 (by decide)
          · refine B.aloadN 10 rfl d29_9 rfl rfl ?_
            refine B.iload 12 rfl d29_10 rfl ?_
            refine B.callS 15 rfl d29_12 (wd hw 94 rfl) (wd hw 95 rfl) (wd hw 69 rfl) (wd hw 96 rfl) (by decide) [(.ref vb), (.int (2 : Int32))] [] (rm_gc2 l Z a0 hw vb x2 [(.int (own_lo x0)), (.int (own_hi x0)), (.int (own_lo x1)), (.int (own_hi x1)), (.int (own_lo x2)), (.int (own_hi x2))] cs vf h0 hcs hvf S SA SH SO SF q2 A rfl rfl) rfl rfl pd___BI_C rfl rfl 0 rfl (by decide) (by decide) (by decide) (by decide) (fun _ q => nomatch q) ?_
            rintro _ _ - ⟨rfl, rfl⟩
            show B.G h0 0 0 (mkF m 15 #[.val (.ref vb), .val (.int (65533 : Int32)), .val (.int (0 : Int32)), .val (.int (3 : Int32)), .val (.int (2 : Int32))] [(.int x2)])
            refine B.iloadN 16 rfl d29_15 rfl ?_
            refine B.icmp_ne 22 19 rfl (by decide) rfl d29_16 (fun c16_2 => ?_) (fun c16_2 => ?_)
            · refine B.iinc 25 rfl (1 : Int32) d29_22 rfl rfl #[.val (.ref vb), .val (.int (65533 : Int32)), .val (.int (0 : Int32)), .val (.int (3 : Int32)), .val (.int (3 : Int32))] rfl ?_
              refine B.goto 3 rfl (by decide) d29_25 ?_
              refine B.iload 5 rfl d29_3 rfl ?_
              refine B.iloadN 6 rfl d29_5 rfl ?_
              refine B.icmp_ge 28 9 rfl (by decide) rfl d29_6 (fun c6_3 => ?_) (fun c6_3 => ?_)
              · refine B.iconst 29 rfl (-1 : Int32) d29_28 rfl ?_
                refine B.retI d29_29 (by decide) (by decide) ?_
                exact ⟨by simp [own_ix3, c16, c16_1, c16_2], rfl⟩
              · exact absurd c6_3 (by decide)
            · refine B.iload 21 rfl d29_19 rfl ?_
              refine B.retI d29_21 (by decide) (by decide) ?_
              exact ⟨by simp [own_ix3, c16, c16_1, c16_2], rfl⟩
        · refine B.iload 21 rfl d29_19 rfl ?_
          refine B.retI d29_21 (by decide) (by decide) ?_
          exact ⟨by simp [own_ix3, c16, c16_1], rfl⟩
    · refine B.iload 21 rfl d29_19 rfl ?_
      refine B.retI d29_21 (by decide) (by decide) ?_
      exact ⟨by simp [own_ix3, c16], rfl⟩
set_option maxRecDepth 65536 in
set_option maxHeartbeats 4000000 in
theorem rm_ic3 (l : Launch) (Z : State) (a0 : Array Value) (hw : ∀ d ∈ tables_1, d.before a0 Z = true) (vb : Addr) (x0 x1 x2 : Int32) (cs : Int32) (vf : Value) (h0 : Heap) (hcs : ¬ cs = 0) (hvf : vf.isRef = true) (S : Sta Z h0 "java/lang/String" "COMPACT_STRINGS" "Z" (.int cs)) (SA : Sta Z h0 "java/lang/StringUTF16" "$assertionsDisabled" "Z" (.int 1)) (SH : Sta Z h0 "java/lang/StringUTF16" "HI_BYTE_SHIFT" "I" (.int 0)) (SO : Sta Z h0 "java/lang/StringUTF16" "LO_BYTE_SHIFT" "I" (.int 8)) (SF : Sta Z h0 "jdk/internal/util/Preconditions" "SIOOBE_FORMATTER" "Ljava/util/function/BiFunction;" vf) (q0 : isC x0) (q1 : isC x1) (q2 : isC x2) (A : Ary Z h0 vb .byte [(.int (own_lo x0)), (.int (own_hi x0)), (.int (own_lo x1)), (.int (own_hi x1)), (.int (own_lo x2)), (.int (own_hi x2))]) :
    Met l Z (⟨"java/lang/StringUTF16", "indexOfChar", "([BIII)I"⟩ : MethodName) jdk_52_method_47_code 4 (some .int) [] ({ frames := 3, cells := 0, slots := 0, locals := 43 } : Room) #[(.ref vb), (.int (65533 : Int32)), (.int (0 : Int32)), (.int (3 : Int32))] h0 [] (fun v h => v = some (.int (own_ix3 x0 x1 x2)) ∧ h0 = h) := by
  refine Met.walk pn_24 (Ls := #[.val (.ref vb), .val (.int (65533 : Int32)), .val (.int (0 : Int32)), .val (.int (3 : Int32))]) (fun m => by first | (simp [entryFrame, mkF, argsToLocals, Value.category, maxLocals]; done) | rfl) ?_
  intro p e s m below meth c B
  refine B.iloadN 1 rfl d24_0 rfl ?_
  refine B.iloadN 2 rfl d24_1 rfl ?_
  refine B.aloadN 3 rfl d24_2 rfl rfl ?_
  refine B.callS 6 rfl d24_3 (wd hw 111 rfl) (wd hw 112 rfl) (wd hw 69 rfl) (wd hw 113 rfl) (by decide) [(.int (0 : Int32)), (.int (3 : Int32)), (.ref vb)] [] (rm_bu3 l Z a0 hw vb x0 x1 x2 cs vf h0 hcs hvf S SA SH SO SF A) rfl rfl pd__II_B_V rfl rfl 0 rfl (by decide) (by decide) (by decide) (by decide) (fun _ q => nomatch q) ?_
  rintro _ _ - ⟨rfl, rfl⟩
  show B.G h0 0 0 (mkF m 6 #[.val (.ref vb), .val (.int (65533 : Int32)), .val (.int (0 : Int32)), .val (.int (3 : Int32))] [])
  refine B.aloadN 7 rfl d24_6 rfl rfl ?_
  refine B.iloadN 8 rfl d24_7 rfl ?_
  refine B.iloadN 9 rfl d24_8 rfl ?_
  refine B.iloadN 10 rfl d24_9 rfl ?_
  refine B.callS 13 rfl d24_10 (wd hw 125 rfl) (wd hw 126 rfl) (wd hw 69 rfl) (wd hw 127 rfl) (by decide) [(.ref vb), (.int (65533 : Int32)), (.int (0 : Int32)), (.int (3 : Int32))] [] (rm_iu3 l Z a0 hw vb x0 x1 x2 cs vf h0 hcs hvf S SA SH SO SF q0 q1 q2 A) rfl rfl pd___BIII_I rfl rfl 0 rfl (by decide) (by decide) (by decide) (by decide) (fun _ q => nomatch q) ?_
  rintro _ _ - ⟨rfl, rfl⟩
  show B.G h0 0 0 (mkF m 13 #[.val (.ref vb), .val (.int (65533 : Int32)), .val (.int (0 : Int32)), .val (.int (3 : Int32))] [(.int (own_ix3 x0 x1 x2))])
  refine B.retI d24_13 (by decide) (by decide) ?_
  exact ⟨rfl, rfl⟩
set_option maxRecDepth 65536 in
set_option maxHeartbeats 4000000 in
theorem rm_io3_1 (l : Launch) (Z : State) (a0 : Array Value) (hw : ∀ d ∈ tables_1, d.before a0 Z = true) (vb : Addr) (x0 x1 x2 : Int32) (cs : Int32) (vf : Value) (h0 : Heap) (hcs : ¬ cs = 0) (hvf : vf.isRef = true) (S : Sta Z h0 "java/lang/String" "COMPACT_STRINGS" "Z" (.int cs)) (SA : Sta Z h0 "java/lang/StringUTF16" "$assertionsDisabled" "Z" (.int 1)) (SH : Sta Z h0 "java/lang/StringUTF16" "HI_BYTE_SHIFT" "I" (.int 0)) (SO : Sta Z h0 "java/lang/StringUTF16" "LO_BYTE_SHIFT" "I" (.int 8)) (SF : Sta Z h0 "jdk/internal/util/Preconditions" "SIOOBE_FORMATTER" "Ljava/util/function/BiFunction;" vf) (q0 : isC x0) (q1 : isC x1) (q2 : isC x2) (A : Ary Z h0 vb .byte [(.int (own_lo x0)), (.int (own_hi x0)), (.int (own_lo x1)), (.int (own_hi x1)), (.int (own_lo x2)), (.int (own_hi x2))]) :
    Met l Z (⟨"java/lang/StringUTF16", "indexOf", "([BIII)I"⟩ : MethodName) jdk_52_method_40_code 4 (some .int) [] ({ frames := 4, cells := 0, slots := 0, locals := 58 } : Room) #[(.ref vb), (.int (65533 : Int32)), (.int (0 : Int32)), (.int (3 : Int32))] h0 [] (fun v h => v = some (.int (own_ix3 x0 x1 x2)) ∧ h0 = h) := by
  refine Met.walk pn_21 (Ls := #[.val (.ref vb), .val (.int (65533 : Int32)), .val (.int (0 : Int32)), .val (.int (3 : Int32))]) (fun m => by first | (simp [entryFrame, mkF, argsToLocals, Value.category, maxLocals]; done) | rfl) ?_
  intro p e s m below meth c B
  refine B.iloadN 1 rfl d21_0 rfl ?_
  refine B.iconst 2 rfl (0 : Int32) d21_1 rfl ?_
  refine B.callS 5 rfl d21_2 (wd hw 100 rfl) (wd hw 101 rfl) (wd hw 102 rfl) (wd hw 103 rfl) (by decide) [(.int (0 : Int32)), (.int (0 : Int32))] [] (rm_max l Z a0 hw (0 : Int32) (0 : Int32) h0) rfl rfl pd__II_I rfl rfl 0 rfl (by decide) (by decide) (by decide) (by decide) (fun _ q => nomatch q) ?_
  rintro _ _ - ⟨rfl, rfl⟩
  show B.G h0 0 0 (mkF m 5 #[.val (.ref vb), .val (.int (65533 : Int32)), .val (.int (0 : Int32)), .val (.int (3 : Int32))] [(.int (if (0 : Int32) < (0 : Int32) then (0 : Int32) else (0 : Int32)))])
  refine B.topI (0 : Int32) (by decide) ?_
  refine B.istoreN 6 rfl d21_5 #[.val (.ref vb), .val (.int (65533 : Int32)), .val (.int (0 : Int32)), .val (.int (3 : Int32))] rfl ?_
  refine B.iloadN 7 rfl d21_6 rfl ?_
  refine B.aloadN 8 rfl d21_7 rfl rfl ?_
  refine B.arrlen 9 rfl d21_8 A (6 : Int32) rfl ?_
  refine B.iconst 10 rfl (1 : Int32) d21_9 rfl ?_
  refine B.ishr 11 rfl d21_10 ?_
  refine B.topI (3 : Int32) (by decide) ?_
  refine B.callS 14 rfl d21_11 (wd hw 104 rfl) (wd hw 105 rfl) (wd hw 102 rfl) (wd hw 106 rfl) (by decide) [(.int (3 : Int32)), (.int (3 : Int32))] [] (rm_min l Z a0 hw (3 : Int32) (3 : Int32) h0) rfl rfl pd__II_I rfl rfl 0 rfl (by decide) (by decide) (by decide) (by decide) (fun _ q => nomatch q) ?_
  rintro _ _ - ⟨rfl, rfl⟩
  show B.G h0 0 0 (mkF m 14 #[.val (.ref vb), .val (.int (65533 : Int32)), .val (.int (0 : Int32)), .val (.int (3 : Int32))] [(.int (if (3 : Int32) < (3 : Int32) then (3 : Int32) else (3 : Int32)))])
  refine B.topI (3 : Int32) (by decide) ?_
  refine B.istoreN 15 rfl d21_14 #[.val (.ref vb), .val (.int (65533 : Int32)), .val (.int (0 : Int32)), .val (.int (3 : Int32))] rfl ?_
  refine B.iloadN 16 rfl d21_15 rfl ?_
  refine B.iloadN 17 rfl d21_16 rfl ?_
  refine B.icmp_lt 22 20 rfl (by decide) rfl d21_17 (fun c17 => ?_) (fun c17 => ?_)
  · refine B.iloadN 23 rfl d21_22 rfl ?_
    refine B.ldcI 25 rfl d21_23 (wd hw 107 rfl) ?_
    refine B.icmp_ge 36 28 rfl (by decide) rfl d21_25 (fun c25 => ?_) (fun c25 => ?_)
    · exact absurd c25 (by decide)
    · refine B.aloadN 29 rfl d21_28 rfl rfl ?_
      refine B.iloadN 30 rfl d21_29 rfl ?_
      refine B.iloadN 31 rfl d21_30 rfl ?_
      refine B.iloadN 32 rfl d21_31 rfl ?_
      refine B.callS 35 rfl d21_32 (wd hw 108 rfl) (wd hw 109 rfl) (wd hw 69 rfl) (wd hw 110 rfl) (by decide) [(.ref vb), (.int (65533 : Int32)), (.int (0 : Int32)), (.int (3 : Int32))] [] (rm_ic3 l Z a0 hw vb x0 x1 x2 cs vf h0 hcs hvf S SA SH SO SF q0 q1 q2 A) rfl rfl pd___BIII_I rfl rfl 0 rfl (by decide) (by decide) (by decide) (by decide) (fun _ q => nomatch q) ?_
      rintro _ _ - ⟨rfl, rfl⟩
      show B.G h0 0 0 (mkF m 35 #[.val (.ref vb), .val (.int (65533 : Int32)), .val (.int (0 : Int32)), .val (.int (3 : Int32))] [(.int (own_ix3 x0 x1 x2))])
      refine B.retI d21_35 (by decide) (by decide) ?_
      exact ⟨rfl, rfl⟩
  · exact absurd c17 (by decide)
set_option maxRecDepth 65536 in
set_option maxHeartbeats 4000000 in
theorem rm_x23_1 (l : Launch) (Z : State) (a0 : Array Value) (hw : ∀ d ∈ tables_1, d.before a0 Z = true) (a : Addr) (vb : Addr) (x0 x1 x2 : Int32) (cs : Int32) (vf : Value) (h0 : Heap) (hcs : ¬ cs = 0) (hvf : vf.isRef = true) (S : Sta Z h0 "java/lang/String" "COMPACT_STRINGS" "Z" (.int cs)) (SA : Sta Z h0 "java/lang/StringUTF16" "$assertionsDisabled" "Z" (.int 1)) (SH : Sta Z h0 "java/lang/StringUTF16" "HI_BYTE_SHIFT" "I" (.int 0)) (SO : Sta Z h0 "java/lang/StringUTF16" "LO_BYTE_SHIFT" "I" (.int 8)) (SF : Sta Z h0 "jdk/internal/util/Preconditions" "SIOOBE_FORMATTER" "Ljava/util/function/BiFunction;" vf) (q0 : isC x0) (q1 : isC x1) (q2 : isC x2) (E : Exa Z h0 a "java/lang/String") (Fc : Fld Z h0 a "java/lang/String" "coder" "B" (.int (1 : Int32))) (Fv : Fld Z h0 a "java/lang/String" "value" "[B" (.ref vb)) (A : Ary Z h0 vb .byte [(.int (own_lo x0)), (.int (own_hi x0)), (.int (own_lo x1)), (.int (own_hi x1)), (.int (own_lo x2)), (.int (own_hi x2))]) :
    Met l Z (⟨"java/lang/String", "indexOf", "(II)I"⟩ : MethodName) jdk_42_method_80_code 3 (some .int) [] ({ frames := 5, cells := 0, slots := 0, locals := 73 } : Room) #[(.ref a), (.int (65533 : Int32)), (.int (0 : Int32))] h0 [] (fun v h => v = some (.int (own_ix3 x0 x1 x2)) ∧ h0 = h) := by
  refine Met.walk pn_7 (Ls := #[.val (.ref a), .val (.int (65533 : Int32)), .val (.int (0 : Int32))]) (fun m => by first | (simp [entryFrame, mkF, argsToLocals, Value.category, maxLocals]; done) | rfl) ?_
  intro p e s m below meth c B
  refine B.aloadN 1 rfl d7_0 rfl rfl ?_
  refine B.callV 4 rfl d7_1 (wd hw 44 rfl) (wd hw 45 rfl) (wd hw 47 rfl) (wd hw 46 rfl) (wd hw 8 rfl) (wd hw 48 rfl) (by decide) E [] [] (rm_il1 l Z a0 hw a cs vf h0 hcs hvf S SA SH SO SF Fc) rfl rfl pd___Z rfl rfl 0 rfl (by decide) (by decide) (by decide) (by decide) (fun _ q => nomatch q) ?_
  rintro _ _ - ⟨rfl, rfl⟩
  show B.G h0 0 0 (mkF m 4 #[.val (.ref a), .val (.int (65533 : Int32)), .val (.int (0 : Int32))] [(.int (0 : Int32))])
  refine B.if0_eq 23 7 rfl (by decide) rfl d7_4 (fun c4 => ?_) (fun c4 => ?_)
  · refine B.aloadN 24 rfl d7_23 rfl rfl ?_
    refine B.getF 27 rfl d7_24 (wd hw 26 rfl) Fv ?_
    refine B.iloadN 28 rfl d7_27 rfl ?_
    refine B.iloadN 29 rfl d7_28 rfl ?_
    refine B.aloadN 30 rfl d7_29 rfl rfl ?_
    refine B.callV 33 rfl d7_30 (wd hw 50 rfl) (wd hw 51 rfl) (wd hw 53 rfl) (wd hw 52 rfl) (wd hw 8 rfl) (wd hw 54 rfl) (by decide) E [] [(.int (0 : Int32)), (.int (65533 : Int32)), (.ref vb)] (rm_ln3_1 l Z a0 hw a vb x0 x1 x2 cs vf h0 hcs hvf S SA SH SO SF q0 q1 q2 E Fc Fv A) rfl rfl pd___I rfl rfl 3 rfl (by decide) (by decide) (by decide) (by decide) (fun _ q => nomatch q) ?_
    rintro _ _ - ⟨rfl, rfl⟩
    show B.G h0 0 0 (mkF m 33 #[.val (.ref a), .val (.int (65533 : Int32)), .val (.int (0 : Int32))] [(.int (3 : Int32)), (.int (0 : Int32)), (.int (65533 : Int32)), (.ref vb)])
    refine B.callS 36 rfl d7_33 (wd hw 97 rfl) (wd hw 98 rfl) (wd hw 69 rfl) (wd hw 99 rfl) (by decide) [(.ref vb), (.int (65533 : Int32)), (.int (0 : Int32)), (.int (3 : Int32))] [] (rm_io3_1 l Z a0 hw vb x0 x1 x2 cs vf h0 hcs hvf S SA SH SO SF q0 q1 q2 A) rfl rfl pd___BIII_I rfl rfl 0 rfl (by decide) (by decide) (by decide) (by decide) (fun _ q => nomatch q) ?_
    rintro _ _ - ⟨rfl, rfl⟩
    show B.G h0 0 0 (mkF m 36 #[.val (.ref a), .val (.int (65533 : Int32)), .val (.int (0 : Int32))] [(.int (own_ix3 x0 x1 x2))])
    refine B.retI d7_36 (by decide) (by decide) ?_
    exact ⟨rfl, rfl⟩
  · exact absurd c4 (by decide)
set_option maxRecDepth 65536 in
set_option maxHeartbeats 4000000 in
theorem rm_x13_1 (l : Launch) (Z : State) (a0 : Array Value) (hw : ∀ d ∈ tables_1, d.before a0 Z = true) (a : Addr) (vb : Addr) (x0 x1 x2 : Int32) (cs : Int32) (vf : Value) (h0 : Heap) (hcs : ¬ cs = 0) (hvf : vf.isRef = true) (S : Sta Z h0 "java/lang/String" "COMPACT_STRINGS" "Z" (.int cs)) (SA : Sta Z h0 "java/lang/StringUTF16" "$assertionsDisabled" "Z" (.int 1)) (SH : Sta Z h0 "java/lang/StringUTF16" "HI_BYTE_SHIFT" "I" (.int 0)) (SO : Sta Z h0 "java/lang/StringUTF16" "LO_BYTE_SHIFT" "I" (.int 8)) (SF : Sta Z h0 "jdk/internal/util/Preconditions" "SIOOBE_FORMATTER" "Ljava/util/function/BiFunction;" vf) (q0 : isC x0) (q1 : isC x1) (q2 : isC x2) (E : Exa Z h0 a "java/lang/String") (Fc : Fld Z h0 a "java/lang/String" "coder" "B" (.int (1 : Int32))) (Fv : Fld Z h0 a "java/lang/String" "value" "[B" (.ref vb)) (A : Ary Z h0 vb .byte [(.int (own_lo x0)), (.int (own_hi x0)), (.int (own_lo x1)), (.int (own_hi x1)), (.int (own_lo x2)), (.int (own_hi x2))]) :
    Met l Z (⟨"java/lang/String", "indexOf", "(I)I"⟩ : MethodName) jdk_42_method_79_code 2 (some .int) [] ({ frames := 6, cells := 0, slots := 0, locals := 87 } : Room) #[(.ref a), (.int (65533 : Int32))] h0 [] (fun v h => v = some (.int (own_ix3 x0 x1 x2)) ∧ h0 = h) := by
  refine Met.walk pn_6 (Ls := #[.val (.ref a), .val (.int (65533 : Int32))]) (fun m => by first | (simp [entryFrame, mkF, argsToLocals, Value.category, maxLocals]; done) | rfl) ?_
  intro p e s m below meth c B
  refine B.aloadN 1 rfl d6_0 rfl rfl ?_
  refine B.iloadN 2 rfl d6_1 rfl ?_
  refine B.iconst 3 rfl (0 : Int32) d6_2 rfl ?_
  refine B.callV 6 rfl d6_3 (wd hw 39 rfl) (wd hw 40 rfl) (wd hw 42 rfl) (wd hw 41 rfl) (wd hw 8 rfl) (wd hw 43 rfl) (by decide) E [(.int (65533 : Int32)), (.int (0 : Int32))] [] (rm_x23_1 l Z a0 hw a vb x0 x1 x2 cs vf h0 hcs hvf S SA SH SO SF q0 q1 q2 E Fc Fv A) rfl rfl pd__II_I rfl rfl 0 rfl (by decide) (by decide) (by decide) (by decide) (fun _ q => nomatch q) ?_
  rintro _ _ - ⟨rfl, rfl⟩
  show B.G h0 0 0 (mkF m 6 #[.val (.ref a), .val (.int (65533 : Int32))] [(.int (own_ix3 x0 x1 x2))])
  refine B.retI d6_6 (by decide) (by decide) ?_
  exact ⟨rfl, rfl⟩
set_option maxRecDepth 65536 in
set_option maxHeartbeats 4000000 in
theorem rm_un3_1 (l : Launch) (Z : State) (a0 : Array Value) (hw : ∀ d ∈ tables_1, d.before a0 Z = true) (a : Addr) (vb : Addr) (x0 x1 x2 : Int32) (cs : Int32) (vf : Value) (h0 : Heap) (hcs : ¬ cs = 0) (hvf : vf.isRef = true) (S : Sta Z h0 "java/lang/String" "COMPACT_STRINGS" "Z" (.int cs)) (SA : Sta Z h0 "java/lang/StringUTF16" "$assertionsDisabled" "Z" (.int 1)) (SH : Sta Z h0 "java/lang/StringUTF16" "HI_BYTE_SHIFT" "I" (.int 0)) (SO : Sta Z h0 "java/lang/StringUTF16" "LO_BYTE_SHIFT" "I" (.int 8)) (SF : Sta Z h0 "jdk/internal/util/Preconditions" "SIOOBE_FORMATTER" "Ljava/util/function/BiFunction;" vf) (q0 : isC x0) (q1 : isC x1) (q2 : isC x2) (E : Exa Z h0 a "java/lang/String") (Fc : Fld Z h0 a "java/lang/String" "coder" "B" (.int (1 : Int32))) (Fv : Fld Z h0 a "java/lang/String" "value" "[B" (.ref vb)) (A : Ary Z h0 vb .byte [(.int (own_lo x0)), (.int (own_hi x0)), (.int (own_lo x1)), (.int (own_hi x1)), (.int (own_lo x2)), (.int (own_hi x2))]) :
    Met l Z (⟨"io/keyvouch/cli/Arguments", "undecoded", "(Ljava/lang/String;)Z"⟩ : MethodName) prog_2_method_2_code 1 (some .boolean) [] ({ frames := 7, cells := 0, slots := 0, locals := 100 } : Room) #[(.ref a)] h0 [] (fun v h => v = some (.int (if own_ix3 x0 x1 x2 < 0 then 0 else 1)) ∧ h0 = h) := by
  refine Met.walk pn_5 (Ls := #[.val (.ref a)]) (fun m => by first | (simp [entryFrame, mkF, argsToLocals, Value.category, maxLocals]; done) | rfl) ?_
  intro p e s m below meth c B
  refine B.aloadN 1 rfl d5_0 rfl rfl ?_
  refine B.ldcI 3 rfl d5_1 (wd hw 33 rfl) ?_
  refine B.callV 6 rfl d5_3 (wd hw 34 rfl) (wd hw 35 rfl) (wd hw 37 rfl) (wd hw 36 rfl) (wd hw 8 rfl) (wd hw 38 rfl) (by decide) E [(.int (65533 : Int32))] [] (rm_x13_1 l Z a0 hw a vb x0 x1 x2 cs vf h0 hcs hvf S SA SH SO SF q0 q1 q2 E Fc Fv A) rfl rfl pd__I_I rfl rfl 0 rfl (by decide) (by decide) (by decide) (by decide) (fun _ q => nomatch q) ?_
  rintro _ _ - ⟨rfl, rfl⟩
  show B.G h0 0 0 (mkF m 6 #[.val (.ref a)] [(.int (own_ix3 x0 x1 x2))])
  refine B.if0_lt 13 9 rfl (by decide) rfl d5_6 (fun c6 => ?_) (fun c6 => ?_)
  · refine B.iconst 14 rfl (0 : Int32) d5_13 rfl ?_
    refine B.retN (by simp) d5_14 (by decide) (by decide) ?_
    exact ⟨by simp [nar, c6], rfl⟩
  · refine B.iconst 10 rfl (1 : Int32) d5_9 rfl ?_
    refine B.goto 14 rfl (by decide) d5_10 ?_
    refine B.retN (by simp) d5_14 (by decide) (by decide) ?_
    exact ⟨by simp [nar, c6], rfl⟩
theorem pn_0 : plainFor x = true := by first | exact plainFor_of_name (by first | (simp [plainName, overriddenIn]; done) | decide +kernel) | decide +kernel
set_option maxRecDepth 65536 in
set_option maxHeartbeats 4000000 in
theorem rm0 (l : Launch) (Z : State) (a0 : Array Value) (hw : ∀ d ∈ tables_1, d.before a0 Z = true) (wds : List Jvm.Cond) (p1 p2 p3 p4 : Int32) (h0 : Heap) (cs : Int32) (vf : Value) (hcs : ¬ cs = 0) (hvf : vf.isRef = true) (S : Sta Z h0 "java/lang/String" "COMPACT_STRINGS" "Z" (.int cs)) (SA : Sta Z h0 "java/lang/StringUTF16" "$assertionsDisabled" "Z" (.int 1)) (SH : Sta Z h0 "java/lang/StringUTF16" "HI_BYTE_SHIFT" "I" (.int 0)) (SO : Sta Z h0 "java/lang/StringUTF16" "LO_BYTE_SHIFT" "I" (.int 8)) (SF : Sta Z h0 "jdk/internal/util/Preconditions" "SIOOBE_FORMATTER" "Ljava/util/function/BiFunction;" vf) (hh : Jvm.Lit.constHeld Z "java/lang/String" 7) (hcw : Jvm.Lit.compactW.before a0 Z = true) (hz : Z.heap = h0) :
    MetI l Z x code maxLocals ret wds room_1 #[(.int p1), (.int p2), (.int p3), (.int p4)] h0 [] (fun v _ => v = some (.int 1)) := by
  refine MetI.walk pn_0 (Ls := #[.val (.int p1), .val (.int p2), .val (.int p3), .val (.int p4), .unset, .unset, .unset, .unset, .unset, .unset, .unset]) (fun m => by first | (simp [entryFrame, mkF, argsToLocals, Value.category, maxLocals]; done) | rfl) ?_
  intro p e s m below meth c B
  refine B.weak fun B => ?_
  refine B.iloadN 1 rfl at_0 rfl ?_
  refine B.iconst 2 rfl (3 : Int32) at_1 rfl ?_
  refine B.iand 3 rfl at_2 ?_
  rcases own_m4 p1 with qn | qn | qn | qn
  · refine B.topI (0 : Int32) qn ?_
    refine B.istore 5 rfl at_3 #[.val (.int p1), .val (.int p2), .val (.int p3), .val (.int p4), .val (.int (0 : Int32)), .unset, .unset, .unset, .unset, .unset, .unset] rfl ?_
    refine B.iloadN 6 rfl at_5 rfl ?_
    refine B.callS 9 rfl at_6 (wd hw 0 rfl) (wd hw 1 rfl) (wd hw 2 rfl) (wd hw 3 rfl) (by decide) [(.int p2)] [] (rm_draw l Z a0 hw p2 h0) rfl rfl pd__I_C rfl rfl 0 rfl (by decide) (by decide) (by decide) (by decide) (fun _ q => nomatch q) ?_
    rintro _ _ - ⟨c0_, rfl, q0, rfl⟩
    show B.G h0 0 0 (mkF m 9 #[.val (.int p1), .val (.int p2), .val (.int p3), .val (.int p4), .val (.int (0 : Int32)), .unset, .unset, .unset, .unset, .unset, .unset] [(.int c0_)])
    refine B.istore 11 rfl at_9 #[.val (.int p1), .val (.int p2), .val (.int p3), .val (.int p4), .val (.int (0 : Int32)), .val (.int c0_), .unset, .unset, .unset, .unset, .unset] rfl ?_
    refine B.iloadN 12 rfl at_11 rfl ?_
    refine B.callS 15 rfl at_12 (wd hw 0 rfl) (wd hw 1 rfl) (wd hw 2 rfl) (wd hw 3 rfl) (by decide) [(.int p3)] [] (rm_draw l Z a0 hw p3 h0) rfl rfl pd__I_C rfl rfl 0 rfl (by decide) (by decide) (by decide) (by decide) (fun _ q => nomatch q) ?_
    rintro _ _ - ⟨c1_, rfl, q1, rfl⟩
    show B.G h0 0 0 (mkF m 15 #[.val (.int p1), .val (.int p2), .val (.int p3), .val (.int p4), .val (.int (0 : Int32)), .val (.int c0_), .unset, .unset, .unset, .unset, .unset] [(.int c1_)])
    refine B.istore 17 rfl at_15 #[.val (.int p1), .val (.int p2), .val (.int p3), .val (.int p4), .val (.int (0 : Int32)), .val (.int c0_), .val (.int c1_), .unset, .unset, .unset, .unset] rfl ?_
    refine B.iloadN 18 rfl at_17 rfl ?_
    refine B.callS 21 rfl at_18 (wd hw 0 rfl) (wd hw 1 rfl) (wd hw 2 rfl) (wd hw 3 rfl) (by decide) [(.int p4)] [] (rm_draw l Z a0 hw p4 h0) rfl rfl pd__I_C rfl rfl 0 rfl (by decide) (by decide) (by decide) (by decide) (fun _ q => nomatch q) ?_
    rintro _ _ - ⟨c2_, rfl, q2, rfl⟩
    show B.G h0 0 0 (mkF m 21 #[.val (.int p1), .val (.int p2), .val (.int p3), .val (.int p4), .val (.int (0 : Int32)), .val (.int c0_), .val (.int c1_), .unset, .unset, .unset, .unset] [(.int c2_)])
    refine B.istore 23 rfl at_21 #[.val (.int p1), .val (.int p2), .val (.int p3), .val (.int p4), .val (.int (0 : Int32)), .val (.int c0_), .val (.int c1_), .val (.int c2_), .unset, .unset, .unset] rfl ?_
    refine B.iload 25 rfl at_23 rfl ?_
    refine B.if0_ne 43 28 rfl (by decide) rfl at_25 (fun c25 => ?_) (fun c25 => ?_)
    · exact absurd c25 (by decide)
    · refine B.newO 31 rfl at_28 (wd hw 6 rfl) (wd hw 7 rfl) (wd hw 8 rfl) (by decide) (by decide) ?_
      intro h_so so e_so g_so X_so E_so D_so
      show B.G h_so 1 4 (mkF m 31 #[.val (.int p1), .val (.int p2), .val (.int p3), .val (.int p4), .val (.int (0 : Int32)), .val (.int c0_), .val (.int c1_), .val (.int c2_), .unset, .unset, .unset] [(.ref so)])
      have F0_so : Fld Z h_so so "java/lang/String" "coder" "B" (.int 0) := D_so (Or.inr (wd hw 23 rfl)) (ty := .byte) (by decide)
      have F1_so : Fld Z h_so so "java/lang/String" "value" "[B" .null := D_so (Or.inr (wd hw 22 rfl)) (ty := (.array .byte)) (by decide)
      refine B.dup 32 rfl at_31 rfl ?_
      refine B.iconst 33 rfl (0 : Int32) at_32 rfl ?_
      refine B.newP 35 rfl at_33 (wd hw 9 rfl) (by decide) 0 (by decide) (by decide) (by decide) (by decide) ?_
      intro h_ca ca e_ca g_ca X_ca A_ca
      replace A_ca : Ary Z h_ca ca .char [] := A_ca
      show B.G h_ca 2 4 (mkF m 35 #[.val (.int p1), .val (.int p2), .val (.int p3), .val (.int p4), .val (.int (0 : Int32)), .val (.int c0_), .val (.int c1_), .val (.int c2_), .unset, .unset, .unset] [(.ref ca), (.ref so), (.ref so)])
      have n_so_ca : so ≠ ca := fun q => absurd E_so.lt (by rw [q, e_ca]; exact Nat.lt_irrefl _)
      have E_so_2 := E_so.ext X_ca
      have F0_so_2 := F0_so.ext X_ca
      have F1_so_2 := F1_so.ext X_ca
      refine B.olds fun Y1 => ?_
      refine B.callII 38 rfl at_35 rfl (wd hw 10 rfl) (wd hw 11 rfl) (wd hw 8 rfl) (wd hw 12 rfl) (by decide) [(.ref ca)] [(.ref so)] (rm_st0 l Z a0 hw so ca h_ca hh hcw (fun b cl q => Y1.2 b cl (hz ▸ q)) E_so_2 F0_so_2 F1_so_2 A_ca) rfl rfl pd___C_V rfl rfl 1 rfl (by decide) (by decide) (by decide) (by decide) (fun x z => Or.inr (by cases List.mem_singleton.mp z; exact g_so)) ?_
      rintro B _ h_t K_t ⟨rfl, E_t, vb, Fc_t, Fv_t, A_t⟩
      show B.G h_t 4 8 (mkF m 38 #[.val (.int p1), .val (.int p2), .val (.int p3), .val (.int p4), .val (.int (0 : Int32)), .val (.int c0_), .val (.int c1_), .val (.int c2_), .unset, .unset, .unset] [(.ref so)])
      refine B.astore 40 rfl at_38 rfl #[.val (.int p1), .val (.int p2), .val (.int p3), .val (.int p4), .val (.int (0 : Int32)), .val (.int c0_), .val (.int c1_), .val (.int c2_), .val (.ref so), .unset, .unset] rfl ?_
      refine B.goto 127 rfl (by decide) at_40 ?_
      refine B.ldcI 129 rfl at_127 (wd hw 28 rfl) ?_
      refine B.istore 131 rfl at_129 #[.val (.int p1), .val (.int p2), .val (.int p3), .val (.int p4), .val (.int (0 : Int32)), .val (.int c0_), .val (.int c1_), .val (.int c2_), .val (.ref so), .val (.int (65533 : Int32)), .unset] rfl ?_
      refine B.iload 133 rfl at_131 rfl ?_
      refine B.iconst 134 rfl (1 : Int32) at_133 rfl ?_
      refine B.icmp_lt 144 137 rfl (by decide) rfl at_134 (fun c134 => ?_) (fun c134 => ?_)
      · refine B.iload 146 rfl at_144 rfl ?_
        refine B.iconst 147 rfl (2 : Int32) at_146 rfl ?_
        refine B.icmp_lt 157 150 rfl (by decide) rfl at_147 (fun c147 => ?_) (fun c147 => ?_)
        · refine B.iload 159 rfl at_157 rfl ?_
          refine B.iconst 160 rfl (3 : Int32) at_159 rfl ?_
          refine B.icmp_lt 174 163 rfl (by decide) rfl at_160 (fun c160 => ?_) (fun c160 => ?_)
          · refine B.iconst 175 rfl (0 : Int32) at_174 rfl ?_
            refine B.istore 177 rfl at_175 #[.val (.int p1), .val (.int p2), .val (.int p3), .val (.int p4), .val (.int (0 : Int32)), .val (.int c0_), .val (.int c1_), .val (.int c2_), .val (.ref so), .val (.int (65533 : Int32)), .val (.int (0 : Int32))] rfl ?_
            refine B.aload 179 rfl at_177 rfl rfl ?_
            refine B.olds fun Y2 => ?_
            refine B.callS 182 rfl at_179 (wd hw 29 rfl) (wd hw 30 rfl) (wd hw 31 rfl) (wd hw 32 rfl) (by decide) [(.ref so)] [] (rm_un0_0 l Z a0 hw so vb [] cs vf h_t hcs hvf (S.ext Y2) (SA.ext Y2) (SH.ext Y2) (SO.ext Y2) (SF.ext Y2) rfl E_t Fc_t Fv_t A_t) rfl rfl pd__Ljava_lang_String__Z rfl rfl 0 rfl (by decide) (by decide) (by decide) (by decide) (fun _ q => nomatch q) ?_
            rintro _ _ - ⟨rfl, rfl⟩
            show B.G h_t 4 8 (mkF m 182 #[.val (.int p1), .val (.int p2), .val (.int p3), .val (.int p4), .val (.int (0 : Int32)), .val (.int c0_), .val (.int c1_), .val (.int c2_), .val (.ref so), .val (.int (65533 : Int32)), .val (.int (0 : Int32))] [(.int (0 : Int32))])
            refine B.iload 184 rfl at_182 rfl ?_
            refine B.icmp_ne 191 187 rfl (by decide) rfl at_184 (fun c184 => ?_) (fun c184 => ?_)
            · exact absurd rfl c184
            · refine B.iconst 188 rfl (1 : Int32) at_187 rfl ?_
              refine B.goto 192 rfl (by decide) at_188 ?_
              refine B.retN (by simp) at_192 (by decide) (by decide) ?_
              exact rfl
          · exact absurd c160 (by decide)
        · exact absurd c147 (by decide)
      · exact absurd c134 (by decide)
  · refine B.topI (1 : Int32) qn ?_
    refine B.istore 5 rfl at_3 #[.val (.int p1), .val (.int p2), .val (.int p3), .val (.int p4), .val (.int (1 : Int32)), .unset, .unset, .unset, .unset, .unset, .unset] rfl ?_
    refine B.iloadN 6 rfl at_5 rfl ?_
    refine B.callS 9 rfl at_6 (wd hw 0 rfl) (wd hw 1 rfl) (wd hw 2 rfl) (wd hw 3 rfl) (by decide) [(.int p2)] [] (rm_draw l Z a0 hw p2 h0) rfl rfl pd__I_C rfl rfl 0 rfl (by decide) (by decide) (by decide) (by decide) (fun _ q => nomatch q) ?_
    rintro _ _ - ⟨c0_, rfl, q0, rfl⟩
    show B.G h0 0 0 (mkF m 9 #[.val (.int p1), .val (.int p2), .val (.int p3), .val (.int p4), .val (.int (1 : Int32)), .unset, .unset, .unset, .unset, .unset, .unset] [(.int c0_)])
    refine B.istore 11 rfl at_9 #[.val (.int p1), .val (.int p2), .val (.int p3), .val (.int p4), .val (.int (1 : Int32)), .val (.int c0_), .unset, .unset, .unset, .unset, .unset] rfl ?_
    refine B.iloadN 12 rfl at_11 rfl ?_
    refine B.callS 15 rfl at_12 (wd hw 0 rfl) (wd hw 1 rfl) (wd hw 2 rfl) (wd hw 3 rfl) (by decide) [(.int p3)] [] (rm_draw l Z a0 hw p3 h0) rfl rfl pd__I_C rfl rfl 0 rfl (by decide) (by decide) (by decide) (by decide) (fun _ q => nomatch q) ?_
    rintro _ _ - ⟨c1_, rfl, q1, rfl⟩
    show B.G h0 0 0 (mkF m 15 #[.val (.int p1), .val (.int p2), .val (.int p3), .val (.int p4), .val (.int (1 : Int32)), .val (.int c0_), .unset, .unset, .unset, .unset, .unset] [(.int c1_)])
    refine B.istore 17 rfl at_15 #[.val (.int p1), .val (.int p2), .val (.int p3), .val (.int p4), .val (.int (1 : Int32)), .val (.int c0_), .val (.int c1_), .unset, .unset, .unset, .unset] rfl ?_
    refine B.iloadN 18 rfl at_17 rfl ?_
    refine B.callS 21 rfl at_18 (wd hw 0 rfl) (wd hw 1 rfl) (wd hw 2 rfl) (wd hw 3 rfl) (by decide) [(.int p4)] [] (rm_draw l Z a0 hw p4 h0) rfl rfl pd__I_C rfl rfl 0 rfl (by decide) (by decide) (by decide) (by decide) (fun _ q => nomatch q) ?_
    rintro _ _ - ⟨c2_, rfl, q2, rfl⟩
    show B.G h0 0 0 (mkF m 21 #[.val (.int p1), .val (.int p2), .val (.int p3), .val (.int p4), .val (.int (1 : Int32)), .val (.int c0_), .val (.int c1_), .unset, .unset, .unset, .unset] [(.int c2_)])
    refine B.istore 23 rfl at_21 #[.val (.int p1), .val (.int p2), .val (.int p3), .val (.int p4), .val (.int (1 : Int32)), .val (.int c0_), .val (.int c1_), .val (.int c2_), .unset, .unset, .unset] rfl ?_
    refine B.iload 25 rfl at_23 rfl ?_
    refine B.if0_ne 43 28 rfl (by decide) rfl at_25 (fun c25 => ?_) (fun c25 => ?_)
    · refine B.iload 45 rfl at_43 rfl ?_
      refine B.iconst 46 rfl (1 : Int32) at_45 rfl ?_
      refine B.icmp_ne 69 49 rfl (by decide) rfl at_46 (fun c46 => ?_) (fun c46 => ?_)
      · exact absurd c46 (by decide)
      · refine B.newO 52 rfl at_49 (wd hw 6 rfl) (wd hw 7 rfl) (wd hw 8 rfl) (by decide) (by decide) ?_
        intro h_so so e_so g_so X_so E_so D_so
        show B.G h_so 1 4 (mkF m 52 #[.val (.int p1), .val (.int p2), .val (.int p3), .val (.int p4), .val (.int (1 : Int32)), .val (.int c0_), .val (.int c1_), .val (.int c2_), .unset, .unset, .unset] [(.ref so)])
        have F0_so : Fld Z h_so so "java/lang/String" "coder" "B" (.int 0) := D_so (Or.inr (wd hw 23 rfl)) (ty := .byte) (by decide)
        have F1_so : Fld Z h_so so "java/lang/String" "value" "[B" .null := D_so (Or.inr (wd hw 22 rfl)) (ty := (.array .byte)) (by decide)
        refine B.dup 53 rfl at_52 rfl ?_
        refine B.iconst 54 rfl (1 : Int32) at_53 rfl ?_
        refine B.newP 56 rfl at_54 (wd hw 9 rfl) (by decide) 1 (by decide) (by decide) (by decide) (by decide) ?_
        intro h_ca ca e_ca g_ca X_ca A_ca
        replace A_ca : Ary Z h_ca ca .char [(.int (0 : Int32))] := A_ca
        show B.G h_ca 2 5 (mkF m 56 #[.val (.int p1), .val (.int p2), .val (.int p3), .val (.int p4), .val (.int (1 : Int32)), .val (.int c0_), .val (.int c1_), .val (.int c2_), .unset, .unset, .unset] [(.ref ca), (.ref so), (.ref so)])
        have n_so_ca : so ≠ ca := fun q => absurd E_so.lt (by rw [q, e_ca]; exact Nat.lt_irrefl _)
        have E_so_2 := E_so.ext X_ca
        have F0_so_2 := F0_so.ext X_ca
        have F1_so_2 := F1_so.ext X_ca
        refine B.dup 57 rfl at_56 rfl ?_
        refine B.iconst 58 rfl (0 : Int32) at_57 rfl ?_
        refine B.iload 60 rfl at_58 rfl ?_
        refine B.castore 61 rfl at_60 A_ca (by decide) 0 rfl (by simp) (Or.inr g_ca) ?_
        intro hs3 Ws3 As3
        rw [show c0_.toUInt32.toUInt16.toUInt32.toInt32 = c0_ from q0] at As3
        replace As3 : Ary Z hs3 ca .char [(.int c0_)] := As3
        have E_so_3 := E_so_2.wr Ws3
        have F0_so_3 := F0_so_2.other Ws3 (Or.inl n_so_ca)
        have F1_so_3 := F1_so_2.other Ws3 (Or.inl n_so_ca)
        by_cases hx0 : (255 : Int32) < c0_
        · refine B.olds fun Y4 => ?_
          refine B.callI 64 rfl at_61 rfl (wd hw 10 rfl) (wd hw 11 rfl) (wd hw 8 rfl) (wd hw 12 rfl) (by decide) [(.ref ca)] [(.ref so)] (rm_st1_0 l Z a0 hw so ca c0_ cs vf hs3 hcs hvf (S.ext Y4) (SA.ext Y4) (SH.ext Y4) (SO.ext Y4) (SF.ext Y4) E_so_3 F0_so_3 F1_so_3 hx0 q0 As3) rfl rfl pd___C_V rfl rfl 1 rfl (by decide) (by decide) (by decide) (by decide) (fun x z => Or.inr (by cases List.mem_singleton.mp z; exact g_so)) ?_
          rintro _ h_t K_t ⟨rfl, E_t, vb, Fc_t, Fv_t, A_t⟩
          show B.G h_t 4 8 (mkF m 64 #[.val (.int p1), .val (.int p2), .val (.int p3), .val (.int p4), .val (.int (1 : Int32)), .val (.int c0_), .val (.int c1_), .val (.int c2_), .unset, .unset, .unset] [(.ref so)])
          refine B.astore 66 rfl at_64 rfl #[.val (.int p1), .val (.int p2), .val (.int p3), .val (.int p4), .val (.int (1 : Int32)), .val (.int c0_), .val (.int c1_), .val (.int c2_), .val (.ref so), .unset, .unset] rfl ?_
          refine B.goto 127 rfl (by decide) at_66 ?_
          refine B.ldcI 129 rfl at_127 (wd hw 28 rfl) ?_
          refine B.istore 131 rfl at_129 #[.val (.int p1), .val (.int p2), .val (.int p3), .val (.int p4), .val (.int (1 : Int32)), .val (.int c0_), .val (.int c1_), .val (.int c2_), .val (.ref so), .val (.int (65533 : Int32)), .unset] rfl ?_
          refine B.iload 133 rfl at_131 rfl ?_
          refine B.iconst 134 rfl (1 : Int32) at_133 rfl ?_
          refine B.icmp_lt 144 137 rfl (by decide) rfl at_134 (fun c134 => ?_) (fun c134 => ?_)
          · exact absurd c134 (by decide)
          · refine B.iload 139 rfl at_137 rfl ?_
            refine B.iload 141 rfl at_139 rfl ?_
            refine B.icmp_eq 170 144 rfl (by decide) rfl at_141 (fun c141 => ?_) (fun c141 => ?_)
            · refine B.iconst 171 rfl (1 : Int32) at_170 rfl ?_
              refine B.goto 175 rfl (by decide) at_171 ?_
              refine B.istore 177 rfl at_175 #[.val (.int p1), .val (.int p2), .val (.int p3), .val (.int p4), .val (.int (1 : Int32)), .val (.int c0_), .val (.int c1_), .val (.int c2_), .val (.ref so), .val (.int (65533 : Int32)), .val (.int (1 : Int32))] rfl ?_
              refine B.aload 179 rfl at_177 rfl rfl ?_
              refine B.olds fun Y5 => ?_
              refine B.callS 182 rfl at_179 (wd hw 29 rfl) (wd hw 30 rfl) (wd hw 31 rfl) (wd hw 32 rfl) (by decide) [(.ref so)] [] (rm_un1_1 l Z a0 hw so vb c0_ cs vf h_t hcs hvf (S.ext Y5) (SA.ext Y5) (SH.ext Y5) (SO.ext Y5) (SF.ext Y5) q0 E_t Fc_t Fv_t A_t) rfl rfl pd__Ljava_lang_String__Z rfl rfl 0 rfl (by decide) (by decide) (by decide) (by decide) (fun _ q => nomatch q) ?_
              rintro _ _ - ⟨rfl, rfl⟩
              show B.G h_t 4 8 (mkF m 182 #[.val (.int p1), .val (.int p2), .val (.int p3), .val (.int p4), .val (.int (1 : Int32)), .val (.int c0_), .val (.int c1_), .val (.int c2_), .val (.ref so), .val (.int (65533 : Int32)), .val (.int (1 : Int32))] [(.int (if own_ix1 c0_ < 0 then 0 else 1))])
              refine B.iload 184 rfl at_182 rfl ?_
              refine B.icmp_ne 191 187 rfl (by decide) rfl at_184 (fun c184 => ?_) (fun c184 => ?_)
              · exact absurd (by simp [own_ix1, c141]) c184
              · refine B.iconst 188 rfl (1 : Int32) at_187 rfl ?_
                refine B.goto 192 rfl (by decide) at_188 ?_
                refine B.retN (by simp) at_192 (by decide) (by decide) ?_
                exact rfl
            · refine B.iload 146 rfl at_144 rfl ?_
              refine B.iconst 147 rfl (2 : Int32) at_146 rfl ?_
              refine B.icmp_lt 157 150 rfl (by decide) rfl at_147 (fun c147 => ?_) (fun c147 => ?_)
              · refine B.iload 159 rfl at_157 rfl ?_
                refine B.iconst 160 rfl (3 : Int32) at_159 rfl ?_
                refine B.icmp_lt 174 163 rfl (by decide) rfl at_160 (fun c160 => ?_) (fun c160 => ?_)
                · refine B.iconst 175 rfl (0 : Int32) at_174 rfl ?_
                  refine B.istore 177 rfl at_175 #[.val (.int p1), .val (.int p2), .val (.int p3), .val (.int p4), .val (.int (1 : Int32)), .val (.int c0_), .val (.int c1_), .val (.int c2_), .val (.ref so), .val (.int (65533 : Int32)), .val (.int (0 : Int32))] rfl ?_
                  refine B.aload 179 rfl at_177 rfl rfl ?_
                  refine B.olds fun Y6 => ?_
                  refine B.callS 182 rfl at_179 (wd hw 29 rfl) (wd hw 30 rfl) (wd hw 31 rfl) (wd hw 32 rfl) (by decide) [(.ref so)] [] (rm_un1_1 l Z a0 hw so vb c0_ cs vf h_t hcs hvf (S.ext Y6) (SA.ext Y6) (SH.ext Y6) (SO.ext Y6) (SF.ext Y6) q0 E_t Fc_t Fv_t A_t) rfl rfl pd__Ljava_lang_String__Z rfl rfl 0 rfl (by decide) (by decide) (by decide) (by decide) (fun _ q => nomatch q) ?_
                  rintro _ _ - ⟨rfl, rfl⟩
                  show B.G h_t 4 8 (mkF m 182 #[.val (.int p1), .val (.int p2), .val (.int p3), .val (.int p4), .val (.int (1 : Int32)), .val (.int c0_), .val (.int c1_), .val (.int c2_), .val (.ref so), .val (.int (65533 : Int32)), .val (.int (0 : Int32))] [(.int (if own_ix1 c0_ < 0 then 0 else 1))])
                  refine B.iload 184 rfl at_182 rfl ?_
                  refine B.icmp_ne 191 187 rfl (by decide) rfl at_184 (fun c184 => ?_) (fun c184 => ?_)
                  · exact absurd (by simp [own_ix1, c141]) c184
                  · refine B.iconst 188 rfl (1 : Int32) at_187 rfl ?_
                    refine B.goto 192 rfl (by decide) at_188 ?_
                    refine B.retN (by simp) at_192 (by decide) (by decide) ?_
                    exact rfl
                · exact absurd c160 (by decide)
              · exact absurd c147 (by decide)
        · refine B.olds fun Y7 => ?_
          refine B.callI 64 rfl at_61 rfl (wd hw 10 rfl) (wd hw 11 rfl) (wd hw 8 rfl) (wd hw 12 rfl) (by decide) [(.ref ca)] [(.ref so)] (rm_st1_1 l Z a0 hw so ca c0_ cs vf hs3 hcs hvf (S.ext Y7) (SA.ext Y7) (SH.ext Y7) (SO.ext Y7) (SF.ext Y7) E_so_3 F0_so_3 F1_so_3 hx0 q0 As3) rfl rfl pd___C_V rfl rfl 1 rfl (by decide) (by decide) (by decide) (by decide) (fun x z => Or.inr (by cases List.mem_singleton.mp z; exact g_so)) ?_
          rintro _ h_t K_t ⟨rfl, E_t, vb, Fc_t, Fv_t, A_t⟩
          show B.G h_t 3 6 (mkF m 64 #[.val (.int p1), .val (.int p2), .val (.int p3), .val (.int p4), .val (.int (1 : Int32)), .val (.int c0_), .val (.int c1_), .val (.int c2_), .unset, .unset, .unset] [(.ref so)])
          refine B.astore 66 rfl at_64 rfl #[.val (.int p1), .val (.int p2), .val (.int p3), .val (.int p4), .val (.int (1 : Int32)), .val (.int c0_), .val (.int c1_), .val (.int c2_), .val (.ref so), .unset, .unset] rfl ?_
          refine B.goto 127 rfl (by decide) at_66 ?_
          refine B.ldcI 129 rfl at_127 (wd hw 28 rfl) ?_
          refine B.istore 131 rfl at_129 #[.val (.int p1), .val (.int p2), .val (.int p3), .val (.int p4), .val (.int (1 : Int32)), .val (.int c0_), .val (.int c1_), .val (.int c2_), .val (.ref so), .val (.int (65533 : Int32)), .unset] rfl ?_
          refine B.iload 133 rfl at_131 rfl ?_
          refine B.iconst 134 rfl (1 : Int32) at_133 rfl ?_
          refine B.icmp_lt 144 137 rfl (by decide) rfl at_134 (fun c134 => ?_) (fun c134 => ?_)
          · exact absurd c134 (by decide)
          · refine B.iload 139 rfl at_137 rfl ?_
            refine B.iload 141 rfl at_139 rfl ?_
            refine B.icmp_eq 170 144 rfl (by decide) rfl at_141 (fun c141 => ?_) (fun c141 => ?_)
            · exact absurd (by rw [c141]; decide) hx0
            · refine B.iload 146 rfl at_144 rfl ?_
              refine B.iconst 147 rfl (2 : Int32) at_146 rfl ?_
              refine B.icmp_lt 157 150 rfl (by decide) rfl at_147 (fun c147 => ?_) (fun c147 => ?_)
              · refine B.iload 159 rfl at_157 rfl ?_
                refine B.iconst 160 rfl (3 : Int32) at_159 rfl ?_
                refine B.icmp_lt 174 163 rfl (by decide) rfl at_160 (fun c160 => ?_) (fun c160 => ?_)
                · refine B.iconst 175 rfl (0 : Int32) at_174 rfl ?_
                  refine B.istore 177 rfl at_175 #[.val (.int p1), .val (.int p2), .val (.int p3), .val (.int p4), .val (.int (1 : Int32)), .val (.int c0_), .val (.int c1_), .val (.int c2_), .val (.ref so), .val (.int (65533 : Int32)), .val (.int (0 : Int32))] rfl ?_
                  refine B.aload 179 rfl at_177 rfl rfl ?_
                  refine B.olds fun Y8 => ?_
                  refine B.callS 182 rfl at_179 (wd hw 29 rfl) (wd hw 30 rfl) (wd hw 31 rfl) (wd hw 32 rfl) (by decide) [(.ref so)] [] (rm_un1_0 l Z a0 hw so vb [(.int ((c0_.toInt8.toInt32).toInt8.toInt32))] cs vf h_t hcs hvf (S.ext Y8) (SA.ext Y8) (SH.ext Y8) (SO.ext Y8) (SF.ext Y8) rfl E_t Fc_t Fv_t A_t) rfl rfl pd__Ljava_lang_String__Z rfl rfl 0 rfl (by decide) (by decide) (by decide) (by decide) (fun _ q => nomatch q) ?_
                  rintro _ _ - ⟨rfl, rfl⟩
                  show B.G h_t 3 6 (mkF m 182 #[.val (.int p1), .val (.int p2), .val (.int p3), .val (.int p4), .val (.int (1 : Int32)), .val (.int c0_), .val (.int c1_), .val (.int c2_), .val (.ref so), .val (.int (65533 : Int32)), .val (.int (0 : Int32))] [(.int (0 : Int32))])
                  refine B.iload 184 rfl at_182 rfl ?_
                  refine B.icmp_ne 191 187 rfl (by decide) rfl at_184 (fun c184 => ?_) (fun c184 => ?_)
                  · exact absurd rfl c184
                  · refine B.iconst 188 rfl (1 : Int32) at_187 rfl ?_
                    refine B.goto 192 rfl (by decide) at_188 ?_
                    refine B.retN (by simp) at_192 (by decide) (by decide) ?_
                    exact rfl
                · exact absurd c160 (by decide)
              · exact absurd c147 (by decide)
    · exact absurd c25 (by decide)
  · refine B.topI (2 : Int32) qn ?_
    refine B.istore 5 rfl at_3 #[.val (.int p1), .val (.int p2), .val (.int p3), .val (.int p4), .val (.int (2 : Int32)), .unset, .unset, .unset, .unset, .unset, .unset] rfl ?_
    refine B.iloadN 6 rfl at_5 rfl ?_
    refine B.callS 9 rfl at_6 (wd hw 0 rfl) (wd hw 1 rfl) (wd hw 2 rfl) (wd hw 3 rfl) (by decide) [(.int p2)] [] (rm_draw l Z a0 hw p2 h0) rfl rfl pd__I_C rfl rfl 0 rfl (by decide) (by decide) (by decide) (by decide) (fun _ q => nomatch q) ?_
    rintro _ _ - ⟨c0_, rfl, q0, rfl⟩
    show B.G h0 0 0 (mkF m 9 #[.val (.int p1), .val (.int p2), .val (.int p3), .val (.int p4), .val (.int (2 : Int32)), .unset, .unset, .unset, .unset, .unset, .unset] [(.int c0_)])
    refine B.istore 11 rfl at_9 #[.val (.int p1), .val (.int p2), .val (.int p3), .val (.int p4), .val (.int (2 : Int32)), .val (.int c0_), .unset, .unset, .unset, .unset, .unset] rfl ?_
    refine B.iloadN 12 rfl at_11 rfl ?_
    refine B.callS 15 rfl at_12 (wd hw 0 rfl) (wd hw 1 rfl) (wd hw 2 rfl) (wd hw 3 rfl) (by decide) [(.int p3)] [] (rm_draw l Z a0 hw p3 h0) rfl rfl pd__I_C rfl rfl 0 rfl (by decide) (by decide) (by decide) (by decide) (fun _ q => nomatch q) ?_
    rintro _ _ - ⟨c1_, rfl, q1, rfl⟩
    show B.G h0 0 0 (mkF m 15 #[.val (.int p1), .val (.int p2), .val (.int p3), .val (.int p4), .val (.int (2 : Int32)), .val (.int c0_), .unset, .unset, .unset, .unset, .unset] [(.int c1_)])
    refine B.istore 17 rfl at_15 #[.val (.int p1), .val (.int p2), .val (.int p3), .val (.int p4), .val (.int (2 : Int32)), .val (.int c0_), .val (.int c1_), .unset, .unset, .unset, .unset] rfl ?_
    refine B.iloadN 18 rfl at_17 rfl ?_
    refine B.callS 21 rfl at_18 (wd hw 0 rfl) (wd hw 1 rfl) (wd hw 2 rfl) (wd hw 3 rfl) (by decide) [(.int p4)] [] (rm_draw l Z a0 hw p4 h0) rfl rfl pd__I_C rfl rfl 0 rfl (by decide) (by decide) (by decide) (by decide) (fun _ q => nomatch q) ?_
    rintro _ _ - ⟨c2_, rfl, q2, rfl⟩
    show B.G h0 0 0 (mkF m 21 #[.val (.int p1), .val (.int p2), .val (.int p3), .val (.int p4), .val (.int (2 : Int32)), .val (.int c0_), .val (.int c1_), .unset, .unset, .unset, .unset] [(.int c2_)])
    refine B.istore 23 rfl at_21 #[.val (.int p1), .val (.int p2), .val (.int p3), .val (.int p4), .val (.int (2 : Int32)), .val (.int c0_), .val (.int c1_), .val (.int c2_), .unset, .unset, .unset] rfl ?_
    refine B.iload 25 rfl at_23 rfl ?_
    refine B.if0_ne 43 28 rfl (by decide) rfl at_25 (fun c25 => ?_) (fun c25 => ?_)
    · refine B.iload 45 rfl at_43 rfl ?_
      refine B.iconst 46 rfl (1 : Int32) at_45 rfl ?_
      refine B.icmp_ne 69 49 rfl (by decide) rfl at_46 (fun c46 => ?_) (fun c46 => ?_)
      · refine B.iload 71 rfl at_69 rfl ?_
        refine B.iconst 72 rfl (2 : Int32) at_71 rfl ?_
        refine B.icmp_ne 100 75 rfl (by decide) rfl at_72 (fun c72 => ?_) (fun c72 => ?_)
        · exact absurd c72 (by decide)
        · refine B.newO 78 rfl at_75 (wd hw 6 rfl) (wd hw 7 rfl) (wd hw 8 rfl) (by decide) (by decide) ?_
          intro h_so so e_so g_so X_so E_so D_so
          show B.G h_so 1 4 (mkF m 78 #[.val (.int p1), .val (.int p2), .val (.int p3), .val (.int p4), .val (.int (2 : Int32)), .val (.int c0_), .val (.int c1_), .val (.int c2_), .unset, .unset, .unset] [(.ref so)])
          have F0_so : Fld Z h_so so "java/lang/String" "coder" "B" (.int 0) := D_so (Or.inr (wd hw 23 rfl)) (ty := .byte) (by decide)
          have F1_so : Fld Z h_so so "java/lang/String" "value" "[B" .null := D_so (Or.inr (wd hw 22 rfl)) (ty := (.array .byte)) (by decide)
          refine B.dup 79 rfl at_78 rfl ?_
          refine B.iconst 80 rfl (2 : Int32) at_79 rfl ?_
          refine B.newP 82 rfl at_80 (wd hw 9 rfl) (by decide) 2 (by decide) (by decide) (by decide) (by decide) ?_
          intro h_ca ca e_ca g_ca X_ca A_ca
          replace A_ca : Ary Z h_ca ca .char [(.int (0 : Int32)), (.int (0 : Int32))] := A_ca
          show B.G h_ca 2 6 (mkF m 82 #[.val (.int p1), .val (.int p2), .val (.int p3), .val (.int p4), .val (.int (2 : Int32)), .val (.int c0_), .val (.int c1_), .val (.int c2_), .unset, .unset, .unset] [(.ref ca), (.ref so), (.ref so)])
          have n_so_ca : so ≠ ca := fun q => absurd E_so.lt (by rw [q, e_ca]; exact Nat.lt_irrefl _)
          have E_so_2 := E_so.ext X_ca
          have F0_so_2 := F0_so.ext X_ca
          have F1_so_2 := F1_so.ext X_ca
          refine B.dup 83 rfl at_82 rfl ?_
          refine B.iconst 84 rfl (0 : Int32) at_83 rfl ?_
          refine B.iload 86 rfl at_84 rfl ?_
          refine B.castore 87 rfl at_86 A_ca (by decide) 0 rfl (by simp) (Or.inr g_ca) ?_
          intro hs9 Ws9 As9
          rw [show c0_.toUInt32.toUInt16.toUInt32.toInt32 = c0_ from q0] at As9
          replace As9 : Ary Z hs9 ca .char [(.int c0_), (.int (0 : Int32))] := As9
          have E_so_3 := E_so_2.wr Ws9
          have F0_so_3 := F0_so_2.other Ws9 (Or.inl n_so_ca)
          have F1_so_3 := F1_so_2.other Ws9 (Or.inl n_so_ca)
          refine B.dup 88 rfl at_87 rfl ?_
          refine B.iconst 89 rfl (1 : Int32) at_88 rfl ?_
          refine B.iload 91 rfl at_89 rfl ?_
          refine B.castore 92 rfl at_91 As9 (by decide) 1 rfl (by simp) (Or.inr g_ca) ?_
          intro hs10 Ws10 As10
          rw [show c1_.toUInt32.toUInt16.toUInt32.toInt32 = c1_ from q1] at As10
          replace As10 : Ary Z hs10 ca .char [(.int c0_), (.int c1_)] := As10
          have E_so_4 := E_so_3.wr Ws10
          have F0_so_4 := F0_so_3.other Ws10 (Or.inl n_so_ca)
          have F1_so_4 := F1_so_3.other Ws10 (Or.inl n_so_ca)
          by_cases hx0 : (255 : Int32) < c0_
          · refine B.olds fun Y11 => ?_
            refine B.callI 95 rfl at_92 rfl (wd hw 10 rfl) (wd hw 11 rfl) (wd hw 8 rfl) (wd hw 12 rfl) (by decide) [(.ref ca)] [(.ref so)] (rm_st2_0 l Z a0 hw so ca c0_ c1_ cs vf hs10 hcs hvf (S.ext Y11) (SA.ext Y11) (SH.ext Y11) (SO.ext Y11) (SF.ext Y11) E_so_4 F0_so_4 F1_so_4 hx0 q0 q1 As10) rfl rfl pd___C_V rfl rfl 1 rfl (by decide) (by decide) (by decide) (by decide) (fun x z => Or.inr (by cases List.mem_singleton.mp z; exact g_so)) ?_
            rintro _ h_t K_t ⟨rfl, E_t, vb, Fc_t, Fv_t, A_t⟩
            show B.G h_t 4 12 (mkF m 95 #[.val (.int p1), .val (.int p2), .val (.int p3), .val (.int p4), .val (.int (2 : Int32)), .val (.int c0_), .val (.int c1_), .val (.int c2_), .unset, .unset, .unset] [(.ref so)])
            refine B.astore 97 rfl at_95 rfl #[.val (.int p1), .val (.int p2), .val (.int p3), .val (.int p4), .val (.int (2 : Int32)), .val (.int c0_), .val (.int c1_), .val (.int c2_), .val (.ref so), .unset, .unset] rfl ?_
            refine B.goto 127 rfl (by decide) at_97 ?_
            refine B.ldcI 129 rfl at_127 (wd hw 28 rfl) ?_
            refine B.istore 131 rfl at_129 #[.val (.int p1), .val (.int p2), .val (.int p3), .val (.int p4), .val (.int (2 : Int32)), .val (.int c0_), .val (.int c1_), .val (.int c2_), .val (.ref so), .val (.int (65533 : Int32)), .unset] rfl ?_
            refine B.iload 133 rfl at_131 rfl ?_
            refine B.iconst 134 rfl (1 : Int32) at_133 rfl ?_
            refine B.icmp_lt 144 137 rfl (by decide) rfl at_134 (fun c134 => ?_) (fun c134 => ?_)
            · exact absurd c134 (by decide)
            · refine B.iload 139 rfl at_137 rfl ?_
              refine B.iload 141 rfl at_139 rfl ?_
              refine B.icmp_eq 170 144 rfl (by decide) rfl at_141 (fun c141 => ?_) (fun c141 => ?_)
              · refine B.iconst 171 rfl (1 : Int32) at_170 rfl ?_
                refine B.goto 175 rfl (by decide) at_171 ?_
                refine B.istore 177 rfl at_175 #[.val (.int p1), .val (.int p2), .val (.int p3), .val (.int p4), .val (.int (2 : Int32)), .val (.int c0_), .val (.int c1_), .val (.int c2_), .val (.ref so), .val (.int (65533 : Int32)), .val (.int (1 : Int32))] rfl ?_
                refine B.aload 179 rfl at_177 rfl rfl ?_
                refine B.olds fun Y12 => ?_
                refine B.callS 182 rfl at_179 (wd hw 29 rfl) (wd hw 30 rfl) (wd hw 31 rfl) (wd hw 32 rfl) (by decide) [(.ref so)] [] (rm_un2_1 l Z a0 hw so vb c0_ c1_ cs vf h_t hcs hvf (S.ext Y12) (SA.ext Y12) (SH.ext Y12) (SO.ext Y12) (SF.ext Y12) q0 q1 E_t Fc_t Fv_t A_t) rfl rfl pd__Ljava_lang_String__Z rfl rfl 0 rfl (by decide) (by decide) (by decide) (by decide) (fun _ q => nomatch q) ?_
                rintro _ _ - ⟨rfl, rfl⟩
                show B.G h_t 4 12 (mkF m 182 #[.val (.int p1), .val (.int p2), .val (.int p3), .val (.int p4), .val (.int (2 : Int32)), .val (.int c0_), .val (.int c1_), .val (.int c2_), .val (.ref so), .val (.int (65533 : Int32)), .val (.int (1 : Int32))] [(.int (if own_ix2 c0_ c1_ < 0 then 0 else 1))])
                refine B.iload 184 rfl at_182 rfl ?_
                refine B.icmp_ne 191 187 rfl (by decide) rfl at_184 (fun c184 => ?_) (fun c184 => ?_)
                · exact absurd (by simp [own_ix2, c141]) c184
                · refine B.iconst 188 rfl (1 : Int32) at_187 rfl ?_
                  refine B.goto 192 rfl (by decide) at_188 ?_
                  refine B.retN (by simp) at_192 (by decide) (by decide) ?_
                  exact rfl
              · refine B.iload 146 rfl at_144 rfl ?_
                refine B.iconst 147 rfl (2 : Int32) at_146 rfl ?_
                refine B.icmp_lt 157 150 rfl (by decide) rfl at_147 (fun c147 => ?_) (fun c147 => ?_)
                · exact absurd c147 (by decide)
                · refine B.iload 152 rfl at_150 rfl ?_
                  refine B.iload 154 rfl at_152 rfl ?_
                  refine B.icmp_eq 170 157 rfl (by decide) rfl at_154 (fun c154 => ?_) (fun c154 => ?_)
                  · refine B.iconst 171 rfl (1 : Int32) at_170 rfl ?_
                    refine B.goto 175 rfl (by decide) at_171 ?_
                    refine B.istore 177 rfl at_175 #[.val (.int p1), .val (.int p2), .val (.int p3), .val (.int p4), .val (.int (2 : Int32)), .val (.int c0_), .val (.int c1_), .val (.int c2_), .val (.ref so), .val (.int (65533 : Int32)), .val (.int (1 : Int32))] rfl ?_
                    refine B.aload 179 rfl at_177 rfl rfl ?_
                    refine B.olds fun Y13 => ?_
                    refine B.callS 182 rfl at_179 (wd hw 29 rfl) (wd hw 30 rfl) (wd hw 31 rfl) (wd hw 32 rfl) (by decide) [(.ref so)] [] (rm_un2_1 l Z a0 hw so vb c0_ c1_ cs vf h_t hcs hvf (S.ext Y13) (SA.ext Y13) (SH.ext Y13) (SO.ext Y13) (SF.ext Y13) q0 q1 E_t Fc_t Fv_t A_t) rfl rfl pd__Ljava_lang_String__Z rfl rfl 0 rfl (by decide) (by decide) (by decide) (by decide) (fun _ q => nomatch q) ?_
                    rintro _ _ - ⟨rfl, rfl⟩
                    show B.G h_t 4 12 (mkF m 182 #[.val (.int p1), .val (.int p2), .val (.int p3), .val (.int p4), .val (.int (2 : Int32)), .val (.int c0_), .val (.int c1_), .val (.int c2_), .val (.ref so), .val (.int (65533 : Int32)), .val (.int (1 : Int32))] [(.int (if own_ix2 c0_ c1_ < 0 then 0 else 1))])
                    refine B.iload 184 rfl at_182 rfl ?_
                    refine B.icmp_ne 191 187 rfl (by decide) rfl at_184 (fun c184 => ?_) (fun c184 => ?_)
                    · exact absurd (by simp [own_ix2, c141, c154]) c184
                    · refine B.iconst 188 rfl (1 : Int32) at_187 rfl ?_
                      refine B.goto 192 rfl (by decide) at_188 ?_
                      refine B.retN (by simp) at_192 (by decide) (by decide) ?_
                      exact rfl
                  · refine B.iload 159 rfl at_157 rfl ?_
                    refine B.iconst 160 rfl (3 : Int32) at_159 rfl ?_
                    refine B.icmp_lt 174 163 rfl (by decide) rfl at_160 (fun c160 => ?_) (fun c160 => ?_)
                    · refine B.iconst 175 rfl (0 : Int32) at_174 rfl ?_
                      refine B.istore 177 rfl at_175 #[.val (.int p1), .val (.int p2), .val (.int p3), .val (.int p4), .val (.int (2 : Int32)), .val (.int c0_), .val (.int c1_), .val (.int c2_), .val (.ref so), .val (.int (65533 : Int32)), .val (.int (0 : Int32))] rfl ?_
                      refine B.aload 179 rfl at_177 rfl rfl ?_
                      refine B.olds fun Y14 => ?_
                      refine B.callS 182 rfl at_179 (wd hw 29 rfl) (wd hw 30 rfl) (wd hw 31 rfl) (wd hw 32 rfl) (by decide) [(.ref so)] [] (rm_un2_1 l Z a0 hw so vb c0_ c1_ cs vf h_t hcs hvf (S.ext Y14) (SA.ext Y14) (SH.ext Y14) (SO.ext Y14) (SF.ext Y14) q0 q1 E_t Fc_t Fv_t A_t) rfl rfl pd__Ljava_lang_String__Z rfl rfl 0 rfl (by decide) (by decide) (by decide) (by decide) (fun _ q => nomatch q) ?_
                      rintro _ _ - ⟨rfl, rfl⟩
                      show B.G h_t 4 12 (mkF m 182 #[.val (.int p1), .val (.int p2), .val (.int p3), .val (.int p4), .val (.int (2 : Int32)), .val (.int c0_), .val (.int c1_), .val (.int c2_), .val (.ref so), .val (.int (65533 : Int32)), .val (.int (0 : Int32))] [(.int (if own_ix2 c0_ c1_ < 0 then 0 else 1))])
                      refine B.iload 184 rfl at_182 rfl ?_
                      refine B.icmp_ne 191 187 rfl (by decide) rfl at_184 (fun c184 => ?_) (fun c184 => ?_)
                      · exact absurd (by simp [own_ix2, c141, c154]) c184
                      · refine B.iconst 188 rfl (1 : Int32) at_187 rfl ?_
                        refine B.goto 192 rfl (by decide) at_188 ?_
                        refine B.retN (by simp) at_192 (by decide) (by decide) ?_
                        exact rfl
                    · exact absurd c160 (by decide)
          · by_cases hx1 : (255 : Int32) < c1_
            · refine B.olds fun Y15 => ?_
              refine B.callI 95 rfl at_92 rfl (wd hw 10 rfl) (wd hw 11 rfl) (wd hw 8 rfl) (wd hw 12 rfl) (by decide) [(.ref ca)] [(.ref so)] (rm_st2_1 l Z a0 hw so ca c0_ c1_ cs vf hs10 hcs hvf (S.ext Y15) (SA.ext Y15) (SH.ext Y15) (SO.ext Y15) (SF.ext Y15) E_so_4 F0_so_4 F1_so_4 hx0 hx1 q0 q1 As10) rfl rfl pd___C_V rfl rfl 1 rfl (by decide) (by decide) (by decide) (by decide) (fun x z => Or.inr (by cases List.mem_singleton.mp z; exact g_so)) ?_
              rintro _ h_t K_t ⟨rfl, E_t, vb, Fc_t, Fv_t, A_t⟩
              show B.G h_t 4 12 (mkF m 95 #[.val (.int p1), .val (.int p2), .val (.int p3), .val (.int p4), .val (.int (2 : Int32)), .val (.int c0_), .val (.int c1_), .val (.int c2_), .unset, .unset, .unset] [(.ref so)])
              refine B.astore 97 rfl at_95 rfl #[.val (.int p1), .val (.int p2), .val (.int p3), .val (.int p4), .val (.int (2 : Int32)), .val (.int c0_), .val (.int c1_), .val (.int c2_), .val (.ref so), .unset, .unset] rfl ?_
              refine B.goto 127 rfl (by decide) at_97 ?_
              refine B.ldcI 129 rfl at_127 (wd hw 28 rfl) ?_
              refine B.istore 131 rfl at_129 #[.val (.int p1), .val (.int p2), .val (.int p3), .val (.int p4), .val (.int (2 : Int32)), .val (.int c0_), .val (.int c1_), .val (.int c2_), .val (.ref so), .val (.int (65533 : Int32)), .unset] rfl ?_
              refine B.iload 133 rfl at_131 rfl ?_
              refine B.iconst 134 rfl (1 : Int32) at_133 rfl ?_
              refine B.icmp_lt 144 137 rfl (by decide) rfl at_134 (fun c134 => ?_) (fun c134 => ?_)
              · exact absurd c134 (by decide)
              · refine B.iload 139 rfl at_137 rfl ?_
                refine B.iload 141 rfl at_139 rfl ?_
                refine B.icmp_eq 170 144 rfl (by decide) rfl at_141 (fun c141 => ?_) (fun c141 => ?_)
                · refine B.iconst 171 rfl (1 : Int32) at_170 rfl ?_
                  refine B.goto 175 rfl (by decide) at_171 ?_
                  refine B.istore 177 rfl at_175 #[.val (.int p1), .val (.int p2), .val (.int p3), .val (.int p4), .val (.int (2 : Int32)), .val (.int c0_), .val (.int c1_), .val (.int c2_), .val (.ref so), .val (.int (65533 : Int32)), .val (.int (1 : Int32))] rfl ?_
                  refine B.aload 179 rfl at_177 rfl rfl ?_
                  refine B.olds fun Y16 => ?_
                  refine B.callS 182 rfl at_179 (wd hw 29 rfl) (wd hw 30 rfl) (wd hw 31 rfl) (wd hw 32 rfl) (by decide) [(.ref so)] [] (rm_un2_1 l Z a0 hw so vb c0_ c1_ cs vf h_t hcs hvf (S.ext Y16) (SA.ext Y16) (SH.ext Y16) (SO.ext Y16) (SF.ext Y16) q0 q1 E_t Fc_t Fv_t A_t) rfl rfl pd__Ljava_lang_String__Z rfl rfl 0 rfl (by decide) (by decide) (by decide) (by decide) (fun _ q => nomatch q) ?_
                  rintro _ _ - ⟨rfl, rfl⟩
                  show B.G h_t 4 12 (mkF m 182 #[.val (.int p1), .val (.int p2), .val (.int p3), .val (.int p4), .val (.int (2 : Int32)), .val (.int c0_), .val (.int c1_), .val (.int c2_), .val (.ref so), .val (.int (65533 : Int32)), .val (.int (1 : Int32))] [(.int (if own_ix2 c0_ c1_ < 0 then 0 else 1))])
                  refine B.iload 184 rfl at_182 rfl ?_
                  refine B.icmp_ne 191 187 rfl (by decide) rfl at_184 (fun c184 => ?_) (fun c184 => ?_)
                  · exact absurd (by simp [own_ix2, c141]) c184
                  · refine B.iconst 188 rfl (1 : Int32) at_187 rfl ?_
                    refine B.goto 192 rfl (by decide) at_188 ?_
                    refine B.retN (by simp) at_192 (by decide) (by decide) ?_
                    exact rfl
                · refine B.iload 146 rfl at_144 rfl ?_
                  refine B.iconst 147 rfl (2 : Int32) at_146 rfl ?_
                  refine B.icmp_lt 157 150 rfl (by decide) rfl at_147 (fun c147 => ?_) (fun c147 => ?_)
                  · exact absurd c147 (by decide)
                  · refine B.iload 152 rfl at_150 rfl ?_
                    refine B.iload 154 rfl at_152 rfl ?_
                    refine B.icmp_eq 170 157 rfl (by decide) rfl at_154 (fun c154 => ?_) (fun c154 => ?_)
                    · refine B.iconst 171 rfl (1 : Int32) at_170 rfl ?_
                      refine B.goto 175 rfl (by decide) at_171 ?_
                      refine B.istore 177 rfl at_175 #[.val (.int p1), .val (.int p2), .val (.int p3), .val (.int p4), .val (.int (2 : Int32)), .val (.int c0_), .val (.int c1_), .val (.int c2_), .val (.ref so), .val (.int (65533 : Int32)), .val (.int (1 : Int32))] rfl ?_
                      refine B.aload 179 rfl at_177 rfl rfl ?_
                      refine B.olds fun Y17 => ?_
                      refine B.callS 182 rfl at_179 (wd hw 29 rfl) (wd hw 30 rfl) (wd hw 31 rfl) (wd hw 32 rfl) (by decide) [(.ref so)] [] (rm_un2_1 l Z a0 hw so vb c0_ c1_ cs vf h_t hcs hvf (S.ext Y17) (SA.ext Y17) (SH.ext Y17) (SO.ext Y17) (SF.ext Y17) q0 q1 E_t Fc_t Fv_t A_t) rfl rfl pd__Ljava_lang_String__Z rfl rfl 0 rfl (by decide) (by decide) (by decide) (by decide) (fun _ q => nomatch q) ?_
                      rintro _ _ - ⟨rfl, rfl⟩
                      show B.G h_t 4 12 (mkF m 182 #[.val (.int p1), .val (.int p2), .val (.int p3), .val (.int p4), .val (.int (2 : Int32)), .val (.int c0_), .val (.int c1_), .val (.int c2_), .val (.ref so), .val (.int (65533 : Int32)), .val (.int (1 : Int32))] [(.int (if own_ix2 c0_ c1_ < 0 then 0 else 1))])
                      refine B.iload 184 rfl at_182 rfl ?_
                      refine B.icmp_ne 191 187 rfl (by decide) rfl at_184 (fun c184 => ?_) (fun c184 => ?_)
                      · exact absurd (by simp [own_ix2, c141, c154]) c184
                      · refine B.iconst 188 rfl (1 : Int32) at_187 rfl ?_
                        refine B.goto 192 rfl (by decide) at_188 ?_
                        refine B.retN (by simp) at_192 (by decide) (by decide) ?_
                        exact rfl
                    · refine B.iload 159 rfl at_157 rfl ?_
                      refine B.iconst 160 rfl (3 : Int32) at_159 rfl ?_
                      refine B.icmp_lt 174 163 rfl (by decide) rfl at_160 (fun c160 => ?_) (fun c160 => ?_)
                      · refine B.iconst 175 rfl (0 : Int32) at_174 rfl ?_
                        refine B.istore 177 rfl at_175 #[.val (.int p1), .val (.int p2), .val (.int p3), .val (.int p4), .val (.int (2 : Int32)), .val (.int c0_), .val (.int c1_), .val (.int c2_), .val (.ref so), .val (.int (65533 : Int32)), .val (.int (0 : Int32))] rfl ?_
                        refine B.aload 179 rfl at_177 rfl rfl ?_
                        refine B.olds fun Y18 => ?_
                        refine B.callS 182 rfl at_179 (wd hw 29 rfl) (wd hw 30 rfl) (wd hw 31 rfl) (wd hw 32 rfl) (by decide) [(.ref so)] [] (rm_un2_1 l Z a0 hw so vb c0_ c1_ cs vf h_t hcs hvf (S.ext Y18) (SA.ext Y18) (SH.ext Y18) (SO.ext Y18) (SF.ext Y18) q0 q1 E_t Fc_t Fv_t A_t) rfl rfl pd__Ljava_lang_String__Z rfl rfl 0 rfl (by decide) (by decide) (by decide) (by decide) (fun _ q => nomatch q) ?_
                        rintro _ _ - ⟨rfl, rfl⟩
                        show B.G h_t 4 12 (mkF m 182 #[.val (.int p1), .val (.int p2), .val (.int p3), .val (.int p4), .val (.int (2 : Int32)), .val (.int c0_), .val (.int c1_), .val (.int c2_), .val (.ref so), .val (.int (65533 : Int32)), .val (.int (0 : Int32))] [(.int (if own_ix2 c0_ c1_ < 0 then 0 else 1))])
                        refine B.iload 184 rfl at_182 rfl ?_
                        refine B.icmp_ne 191 187 rfl (by decide) rfl at_184 (fun c184 => ?_) (fun c184 => ?_)
                        · exact absurd (by simp [own_ix2, c141, c154]) c184
                        · refine B.iconst 188 rfl (1 : Int32) at_187 rfl ?_
                          refine B.goto 192 rfl (by decide) at_188 ?_
                          refine B.retN (by simp) at_192 (by decide) (by decide) ?_
                          exact rfl
                      · exact absurd c160 (by decide)
            · refine B.olds fun Y19 => ?_
              refine B.callI 95 rfl at_92 rfl (wd hw 10 rfl) (wd hw 11 rfl) (wd hw 8 rfl) (wd hw 12 rfl) (by decide) [(.ref ca)] [(.ref so)] (rm_st2_2 l Z a0 hw so ca c0_ c1_ cs vf hs10 hcs hvf (S.ext Y19) (SA.ext Y19) (SH.ext Y19) (SO.ext Y19) (SF.ext Y19) E_so_4 F0_so_4 F1_so_4 hx0 hx1 q0 q1 As10) rfl rfl pd___C_V rfl rfl 1 rfl (by decide) (by decide) (by decide) (by decide) (fun x z => Or.inr (by cases List.mem_singleton.mp z; exact g_so)) ?_
              rintro _ h_t K_t ⟨rfl, E_t, vb, Fc_t, Fv_t, A_t⟩
              show B.G h_t 3 8 (mkF m 95 #[.val (.int p1), .val (.int p2), .val (.int p3), .val (.int p4), .val (.int (2 : Int32)), .val (.int c0_), .val (.int c1_), .val (.int c2_), .unset, .unset, .unset] [(.ref so)])
              refine B.astore 97 rfl at_95 rfl #[.val (.int p1), .val (.int p2), .val (.int p3), .val (.int p4), .val (.int (2 : Int32)), .val (.int c0_), .val (.int c1_), .val (.int c2_), .val (.ref so), .unset, .unset] rfl ?_
              refine B.goto 127 rfl (by decide) at_97 ?_
              refine B.ldcI 129 rfl at_127 (wd hw 28 rfl) ?_
              refine B.istore 131 rfl at_129 #[.val (.int p1), .val (.int p2), .val (.int p3), .val (.int p4), .val (.int (2 : Int32)), .val (.int c0_), .val (.int c1_), .val (.int c2_), .val (.ref so), .val (.int (65533 : Int32)), .unset] rfl ?_
              refine B.iload 133 rfl at_131 rfl ?_
              refine B.iconst 134 rfl (1 : Int32) at_133 rfl ?_
              refine B.icmp_lt 144 137 rfl (by decide) rfl at_134 (fun c134 => ?_) (fun c134 => ?_)
              · exact absurd c134 (by decide)
              · refine B.iload 139 rfl at_137 rfl ?_
                refine B.iload 141 rfl at_139 rfl ?_
                refine B.icmp_eq 170 144 rfl (by decide) rfl at_141 (fun c141 => ?_) (fun c141 => ?_)
                · exact absurd (by rw [c141]; decide) hx0
                · refine B.iload 146 rfl at_144 rfl ?_
                  refine B.iconst 147 rfl (2 : Int32) at_146 rfl ?_
                  refine B.icmp_lt 157 150 rfl (by decide) rfl at_147 (fun c147 => ?_) (fun c147 => ?_)
                  · exact absurd c147 (by decide)
                  · refine B.iload 152 rfl at_150 rfl ?_
                    refine B.iload 154 rfl at_152 rfl ?_
                    refine B.icmp_eq 170 157 rfl (by decide) rfl at_154 (fun c154 => ?_) (fun c154 => ?_)
                    · exact absurd (by rw [c154]; decide) hx1
                    · refine B.iload 159 rfl at_157 rfl ?_
                      refine B.iconst 160 rfl (3 : Int32) at_159 rfl ?_
                      refine B.icmp_lt 174 163 rfl (by decide) rfl at_160 (fun c160 => ?_) (fun c160 => ?_)
                      · refine B.iconst 175 rfl (0 : Int32) at_174 rfl ?_
                        refine B.istore 177 rfl at_175 #[.val (.int p1), .val (.int p2), .val (.int p3), .val (.int p4), .val (.int (2 : Int32)), .val (.int c0_), .val (.int c1_), .val (.int c2_), .val (.ref so), .val (.int (65533 : Int32)), .val (.int (0 : Int32))] rfl ?_
                        refine B.aload 179 rfl at_177 rfl rfl ?_
                        refine B.olds fun Y20 => ?_
                        refine B.callS 182 rfl at_179 (wd hw 29 rfl) (wd hw 30 rfl) (wd hw 31 rfl) (wd hw 32 rfl) (by decide) [(.ref so)] [] (rm_un2_0 l Z a0 hw so vb [(.int ((c0_.toInt8.toInt32).toInt8.toInt32)), (.int ((c1_.toInt8.toInt32).toInt8.toInt32))] cs vf h_t hcs hvf (S.ext Y20) (SA.ext Y20) (SH.ext Y20) (SO.ext Y20) (SF.ext Y20) rfl E_t Fc_t Fv_t A_t) rfl rfl pd__Ljava_lang_String__Z rfl rfl 0 rfl (by decide) (by decide) (by decide) (by decide) (fun _ q => nomatch q) ?_
                        rintro _ _ - ⟨rfl, rfl⟩
                        show B.G h_t 3 8 (mkF m 182 #[.val (.int p1), .val (.int p2), .val (.int p3), .val (.int p4), .val (.int (2 : Int32)), .val (.int c0_), .val (.int c1_), .val (.int c2_), .val (.ref so), .val (.int (65533 : Int32)), .val (.int (0 : Int32))] [(.int (0 : Int32))])
                        refine B.iload 184 rfl at_182 rfl ?_
                        refine B.icmp_ne 191 187 rfl (by decide) rfl at_184 (fun c184 => ?_) (fun c184 => ?_)
                        · exact absurd rfl c184
                        · refine B.iconst 188 rfl (1 : Int32) at_187 rfl ?_
                          refine B.goto 192 rfl (by decide) at_188 ?_
                          refine B.retN (by simp) at_192 (by decide) (by decide) ?_
                          exact rfl
                      · exact absurd c160 (by decide)
      · exact absurd c46 (by decide)
    · exact absurd c25 (by decide)
  · refine B.topI (3 : Int32) qn ?_
    refine B.istore 5 rfl at_3 #[.val (.int p1), .val (.int p2), .val (.int p3), .val (.int p4), .val (.int (3 : Int32)), .unset, .unset, .unset, .unset, .unset, .unset] rfl ?_
    refine B.iloadN 6 rfl at_5 rfl ?_
    refine B.callS 9 rfl at_6 (wd hw 0 rfl) (wd hw 1 rfl) (wd hw 2 rfl) (wd hw 3 rfl) (by decide) [(.int p2)] [] (rm_draw l Z a0 hw p2 h0) rfl rfl pd__I_C rfl rfl 0 rfl (by decide) (by decide) (by decide) (by decide) (fun _ q => nomatch q) ?_
    rintro _ _ - ⟨c0_, rfl, q0, rfl⟩
    show B.G h0 0 0 (mkF m 9 #[.val (.int p1), .val (.int p2), .val (.int p3), .val (.int p4), .val (.int (3 : Int32)), .unset, .unset, .unset, .unset, .unset, .unset] [(.int c0_)])
    refine B.istore 11 rfl at_9 #[.val (.int p1), .val (.int p2), .val (.int p3), .val (.int p4), .val (.int (3 : Int32)), .val (.int c0_), .unset, .unset, .unset, .unset, .unset] rfl ?_
    refine B.iloadN 12 rfl at_11 rfl ?_
    refine B.callS 15 rfl at_12 (wd hw 0 rfl) (wd hw 1 rfl) (wd hw 2 rfl) (wd hw 3 rfl) (by decide) [(.int p3)] [] (rm_draw l Z a0 hw p3 h0) rfl rfl pd__I_C rfl rfl 0 rfl (by decide) (by decide) (by decide) (by decide) (fun _ q => nomatch q) ?_
    rintro _ _ - ⟨c1_, rfl, q1, rfl⟩
    show B.G h0 0 0 (mkF m 15 #[.val (.int p1), .val (.int p2), .val (.int p3), .val (.int p4), .val (.int (3 : Int32)), .val (.int c0_), .unset, .unset, .unset, .unset, .unset] [(.int c1_)])
    refine B.istore 17 rfl at_15 #[.val (.int p1), .val (.int p2), .val (.int p3), .val (.int p4), .val (.int (3 : Int32)), .val (.int c0_), .val (.int c1_), .unset, .unset, .unset, .unset] rfl ?_
    refine B.iloadN 18 rfl at_17 rfl ?_
    refine B.callS 21 rfl at_18 (wd hw 0 rfl) (wd hw 1 rfl) (wd hw 2 rfl) (wd hw 3 rfl) (by decide) [(.int p4)] [] (rm_draw l Z a0 hw p4 h0) rfl rfl pd__I_C rfl rfl 0 rfl (by decide) (by decide) (by decide) (by decide) (fun _ q => nomatch q) ?_
    rintro _ _ - ⟨c2_, rfl, q2, rfl⟩
    show B.G h0 0 0 (mkF m 21 #[.val (.int p1), .val (.int p2), .val (.int p3), .val (.int p4), .val (.int (3 : Int32)), .val (.int c0_), .val (.int c1_), .unset, .unset, .unset, .unset] [(.int c2_)])
    refine B.istore 23 rfl at_21 #[.val (.int p1), .val (.int p2), .val (.int p3), .val (.int p4), .val (.int (3 : Int32)), .val (.int c0_), .val (.int c1_), .val (.int c2_), .unset, .unset, .unset] rfl ?_
    refine B.iload 25 rfl at_23 rfl ?_
    refine B.if0_ne 43 28 rfl (by decide) rfl at_25 (fun c25 => ?_) (fun c25 => ?_)
    · refine B.iload 45 rfl at_43 rfl ?_
      refine B.iconst 46 rfl (1 : Int32) at_45 rfl ?_
      refine B.icmp_ne 69 49 rfl (by decide) rfl at_46 (fun c46 => ?_) (fun c46 => ?_)
      · refine B.iload 71 rfl at_69 rfl ?_
        refine B.iconst 72 rfl (2 : Int32) at_71 rfl ?_
        refine B.icmp_ne 100 75 rfl (by decide) rfl at_72 (fun c72 => ?_) (fun c72 => ?_)
        · refine B.newO 103 rfl at_100 (wd hw 6 rfl) (wd hw 7 rfl) (wd hw 8 rfl) (by decide) (by decide) ?_
          intro h_so so e_so g_so X_so E_so D_so
          show B.G h_so 1 4 (mkF m 103 #[.val (.int p1), .val (.int p2), .val (.int p3), .val (.int p4), .val (.int (3 : Int32)), .val (.int c0_), .val (.int c1_), .val (.int c2_), .unset, .unset, .unset] [(.ref so)])
          have F0_so : Fld Z h_so so "java/lang/String" "coder" "B" (.int 0) := D_so (Or.inr (wd hw 23 rfl)) (ty := .byte) (by decide)
          have F1_so : Fld Z h_so so "java/lang/String" "value" "[B" .null := D_so (Or.inr (wd hw 22 rfl)) (ty := (.array .byte)) (by decide)
          refine B.dup 104 rfl at_103 rfl ?_
          refine B.iconst 105 rfl (3 : Int32) at_104 rfl ?_
          refine B.newP 107 rfl at_105 (wd hw 9 rfl) (by decide) 3 (by decide) (by decide) (by decide) (by decide) ?_
          intro h_ca ca e_ca g_ca X_ca A_ca
          replace A_ca : Ary Z h_ca ca .char [(.int (0 : Int32)), (.int (0 : Int32)), (.int (0 : Int32))] := A_ca
          show B.G h_ca 2 7 (mkF m 107 #[.val (.int p1), .val (.int p2), .val (.int p3), .val (.int p4), .val (.int (3 : Int32)), .val (.int c0_), .val (.int c1_), .val (.int c2_), .unset, .unset, .unset] [(.ref ca), (.ref so), (.ref so)])
          have n_so_ca : so ≠ ca := fun q => absurd E_so.lt (by rw [q, e_ca]; exact Nat.lt_irrefl _)
          have E_so_2 := E_so.ext X_ca
          have F0_so_2 := F0_so.ext X_ca
          have F1_so_2 := F1_so.ext X_ca
          refine B.dup 108 rfl at_107 rfl ?_
          refine B.iconst 109 rfl (0 : Int32) at_108 rfl ?_
          refine B.iload 111 rfl at_109 rfl ?_
          refine B.castore 112 rfl at_111 A_ca (by decide) 0 rfl (by simp) (Or.inr g_ca) ?_
          intro hs21 Ws21 As21
          rw [show c0_.toUInt32.toUInt16.toUInt32.toInt32 = c0_ from q0] at As21
          replace As21 : Ary Z hs21 ca .char [(.int c0_), (.int (0 : Int32)), (.int (0 : Int32))] := As21
          have E_so_3 := E_so_2.wr Ws21
          have F0_so_3 := F0_so_2.other Ws21 (Or.inl n_so_ca)
          have F1_so_3 := F1_so_2.other Ws21 (Or.inl n_so_ca)
          refine B.dup 113 rfl at_112 rfl ?_
          refine B.iconst 114 rfl (1 : Int32) at_113 rfl ?_
          refine B.iload 116 rfl at_114 rfl ?_
          refine B.castore 117 rfl at_116 As21 (by decide) 1 rfl (by simp) (Or.inr g_ca) ?_
          intro hs22 Ws22 As22
          rw [show c1_.toUInt32.toUInt16.toUInt32.toInt32 = c1_ from q1] at As22
          replace As22 : Ary Z hs22 ca .char [(.int c0_), (.int c1_), (.int (0 : Int32))] := As22
          have E_so_4 := E_so_3.wr Ws22
          have F0_so_4 := F0_so_3.other Ws22 (Or.inl n_so_ca)
          have F1_so_4 := F1_so_3.other Ws22 (Or.inl n_so_ca)
          refine B.dup 118 rfl at_117 rfl ?_
          refine B.iconst 119 rfl (2 : Int32) at_118 rfl ?_
          refine B.iload 121 rfl at_119 rfl ?_
          refine B.castore 122 rfl at_121 As22 (by decide) 2 rfl (by simp) (Or.inr g_ca) ?_
          intro hs23 Ws23 As23
          rw [show c2_.toUInt32.toUInt16.toUInt32.toInt32 = c2_ from q2] at As23
          replace As23 : Ary Z hs23 ca .char [(.int c0_), (.int c1_), (.int c2_)] := As23
          have E_so_5 := E_so_4.wr Ws23
          have F0_so_5 := F0_so_4.other Ws23 (Or.inl n_so_ca)
          have F1_so_5 := F1_so_4.other Ws23 (Or.inl n_so_ca)
          by_cases hx0 : (255 : Int32) < c0_
          · refine B.olds fun Y24 => ?_
            refine B.callI 125 rfl at_122 rfl (wd hw 10 rfl) (wd hw 11 rfl) (wd hw 8 rfl) (wd hw 12 rfl) (by decide) [(.ref ca)] [(.ref so)] (rm_st3_0 l Z a0 hw so ca c0_ c1_ c2_ cs vf hs23 hcs hvf (S.ext Y24) (SA.ext Y24) (SH.ext Y24) (SO.ext Y24) (SF.ext Y24) E_so_5 F0_so_5 F1_so_5 hx0 q0 q1 q2 As23) rfl rfl pd___C_V rfl rfl 1 rfl (by decide) (by decide) (by decide) (by decide) (fun x z => Or.inr (by cases List.mem_singleton.mp z; exact g_so)) ?_
            rintro _ h_t K_t ⟨rfl, E_t, vb, Fc_t, Fv_t, A_t⟩
            show B.G h_t 4 16 (mkF m 125 #[.val (.int p1), .val (.int p2), .val (.int p3), .val (.int p4), .val (.int (3 : Int32)), .val (.int c0_), .val (.int c1_), .val (.int c2_), .unset, .unset, .unset] [(.ref so)])
            refine B.astore 127 rfl at_125 rfl #[.val (.int p1), .val (.int p2), .val (.int p3), .val (.int p4), .val (.int (3 : Int32)), .val (.int c0_), .val (.int c1_), .val (.int c2_), .val (.ref so), .unset, .unset] rfl ?_
            refine B.ldcI 129 rfl at_127 (wd hw 28 rfl) ?_
            refine B.istore 131 rfl at_129 #[.val (.int p1), .val (.int p2), .val (.int p3), .val (.int p4), .val (.int (3 : Int32)), .val (.int c0_), .val (.int c1_), .val (.int c2_), .val (.ref so), .val (.int (65533 : Int32)), .unset] rfl ?_
            refine B.iload 133 rfl at_131 rfl ?_
            refine B.iconst 134 rfl (1 : Int32) at_133 rfl ?_
            refine B.icmp_lt 144 137 rfl (by decide) rfl at_134 (fun c134 => ?_) (fun c134 => ?_)
            · exact absurd c134 (by decide)
            · refine B.iload 139 rfl at_137 rfl ?_
              refine B.iload 141 rfl at_139 rfl ?_
              refine B.icmp_eq 170 144 rfl (by decide) rfl at_141 (fun c141 => ?_) (fun c141 => ?_)
              · refine B.iconst 171 rfl (1 : Int32) at_170 rfl ?_
                refine B.goto 175 rfl (by decide) at_171 ?_
                refine B.istore 177 rfl at_175 #[.val (.int p1), .val (.int p2), .val (.int p3), .val (.int p4), .val (.int (3 : Int32)), .val (.int c0_), .val (.int c1_), .val (.int c2_), .val (.ref so), .val (.int (65533 : Int32)), .val (.int (1 : Int32))] rfl ?_
                refine B.aload 179 rfl at_177 rfl rfl ?_
                refine B.olds fun Y25 => ?_
                refine B.callS 182 rfl at_179 (wd hw 29 rfl) (wd hw 30 rfl) (wd hw 31 rfl) (wd hw 32 rfl) (by decide) [(.ref so)] [] (rm_un3_1 l Z a0 hw so vb c0_ c1_ c2_ cs vf h_t hcs hvf (S.ext Y25) (SA.ext Y25) (SH.ext Y25) (SO.ext Y25) (SF.ext Y25) q0 q1 q2 E_t Fc_t Fv_t A_t) rfl rfl pd__Ljava_lang_String__Z rfl rfl 0 rfl (by decide) (by decide) (by decide) (by decide) (fun _ q => nomatch q) ?_
                rintro _ _ - ⟨rfl, rfl⟩
                show B.G h_t 4 16 (mkF m 182 #[.val (.int p1), .val (.int p2), .val (.int p3), .val (.int p4), .val (.int (3 : Int32)), .val (.int c0_), .val (.int c1_), .val (.int c2_), .val (.ref so), .val (.int (65533 : Int32)), .val (.int (1 : Int32))] [(.int (if own_ix3 c0_ c1_ c2_ < 0 then 0 else 1))])
                refine B.iload 184 rfl at_182 rfl ?_
                refine B.icmp_ne 191 187 rfl (by decide) rfl at_184 (fun c184 => ?_) (fun c184 => ?_)
                · exact absurd (by simp [own_ix3, c141]) c184
                · refine B.iconst 188 rfl (1 : Int32) at_187 rfl ?_
                  refine B.goto 192 rfl (by decide) at_188 ?_
                  refine B.retN (by simp) at_192 (by decide) (by decide) ?_
                  exact rfl
              · refine B.iload 146 rfl at_144 rfl ?_
                refine B.iconst 147 rfl (2 : Int32) at_146 rfl ?_
                refine B.icmp_lt 157 150 rfl (by decide) rfl at_147 (fun c147 => ?_) (fun c147 => ?_)
                · exact absurd c147 (by decide)
                · refine B.iload 152 rfl at_150 rfl ?_
                  refine B.iload 154 rfl at_152 rfl ?_
                  refine B.icmp_eq 170 157 rfl (by decide) rfl at_154 (fun c154 => ?_) (fun c154 => ?_)
                  · refine B.iconst 171 rfl (1 : Int32) at_170 rfl ?_
                    refine B.goto 175 rfl (by decide) at_171 ?_
                    refine B.istore 177 rfl at_175 #[.val (.int p1), .val (.int p2), .val (.int p3), .val (.int p4), .val (.int (3 : Int32)), .val (.int c0_), .val (.int c1_), .val (.int c2_), .val (.ref so), .val (.int (65533 : Int32)), .val (.int (1 : Int32))] rfl ?_
                    refine B.aload 179 rfl at_177 rfl rfl ?_
                    refine B.olds fun Y26 => ?_
                    refine B.callS 182 rfl at_179 (wd hw 29 rfl) (wd hw 30 rfl) (wd hw 31 rfl) (wd hw 32 rfl) (by decide) [(.ref so)] [] (rm_un3_1 l Z a0 hw so vb c0_ c1_ c2_ cs vf h_t hcs hvf (S.ext Y26) (SA.ext Y26) (SH.ext Y26) (SO.ext Y26) (SF.ext Y26) q0 q1 q2 E_t Fc_t Fv_t A_t) rfl rfl pd__Ljava_lang_String__Z rfl rfl 0 rfl (by decide) (by decide) (by decide) (by decide) (fun _ q => nomatch q) ?_
                    rintro _ _ - ⟨rfl, rfl⟩
                    show B.G h_t 4 16 (mkF m 182 #[.val (.int p1), .val (.int p2), .val (.int p3), .val (.int p4), .val (.int (3 : Int32)), .val (.int c0_), .val (.int c1_), .val (.int c2_), .val (.ref so), .val (.int (65533 : Int32)), .val (.int (1 : Int32))] [(.int (if own_ix3 c0_ c1_ c2_ < 0 then 0 else 1))])
                    refine B.iload 184 rfl at_182 rfl ?_
                    refine B.icmp_ne 191 187 rfl (by decide) rfl at_184 (fun c184 => ?_) (fun c184 => ?_)
                    · exact absurd (by simp [own_ix3, c141, c154]) c184
                    · refine B.iconst 188 rfl (1 : Int32) at_187 rfl ?_
                      refine B.goto 192 rfl (by decide) at_188 ?_
                      refine B.retN (by simp) at_192 (by decide) (by decide) ?_
                      exact rfl
                  · refine B.iload 159 rfl at_157 rfl ?_
                    refine B.iconst 160 rfl (3 : Int32) at_159 rfl ?_
                    refine B.icmp_lt 174 163 rfl (by decide) rfl at_160 (fun c160 => ?_) (fun c160 => ?_)
                    · exact absurd c160 (by decide)
                    · refine B.iload 165 rfl at_163 rfl ?_
                      refine B.iload 167 rfl at_165 rfl ?_
                      refine B.icmp_ne 174 170 rfl (by decide) rfl at_167 (fun c167 => ?_) (fun c167 => ?_)
                      · refine B.iconst 175 rfl (0 : Int32) at_174 rfl ?_
                        refine B.istore 177 rfl at_175 #[.val (.int p1), .val (.int p2), .val (.int p3), .val (.int p4), .val (.int (3 : Int32)), .val (.int c0_), .val (.int c1_), .val (.int c2_), .val (.ref so), .val (.int (65533 : Int32)), .val (.int (0 : Int32))] rfl ?_
                        refine B.aload 179 rfl at_177 rfl rfl ?_
                        refine B.olds fun Y27 => ?_
                        refine B.callS 182 rfl at_179 (wd hw 29 rfl) (wd hw 30 rfl) (wd hw 31 rfl) (wd hw 32 rfl) (by decide) [(.ref so)] [] (rm_un3_1 l Z a0 hw so vb c0_ c1_ c2_ cs vf h_t hcs hvf (S.ext Y27) (SA.ext Y27) (SH.ext Y27) (SO.ext Y27) (SF.ext Y27) q0 q1 q2 E_t Fc_t Fv_t A_t) rfl rfl pd__Ljava_lang_String__Z rfl rfl 0 rfl (by decide) (by decide) (by decide) (by decide) (fun _ q => nomatch q) ?_
                        rintro _ _ - ⟨rfl, rfl⟩
                        show B.G h_t 4 16 (mkF m 182 #[.val (.int p1), .val (.int p2), .val (.int p3), .val (.int p4), .val (.int (3 : Int32)), .val (.int c0_), .val (.int c1_), .val (.int c2_), .val (.ref so), .val (.int (65533 : Int32)), .val (.int (0 : Int32))] [(.int (if own_ix3 c0_ c1_ c2_ < 0 then 0 else 1))])
                        refine B.iload 184 rfl at_182 rfl ?_
                        refine B.icmp_ne 191 187 rfl (by decide) rfl at_184 (fun c184 => ?_) (fun c184 => ?_)
                        · exact absurd (by simp [own_ix3, c141, c154, c167]) c184
                        · refine B.iconst 188 rfl (1 : Int32) at_187 rfl ?_
                          refine B.goto 192 rfl (by decide) at_188 ?_
                          refine B.retN (by simp) at_192 (by decide) (by decide) ?_
                          exact rfl
                      · refine B.iconst 171 rfl (1 : Int32) at_170 rfl ?_
                        refine B.goto 175 rfl (by decide) at_171 ?_
                        refine B.istore 177 rfl at_175 #[.val (.int p1), .val (.int p2), .val (.int p3), .val (.int p4), .val (.int (3 : Int32)), .val (.int c0_), .val (.int c1_), .val (.int c2_), .val (.ref so), .val (.int (65533 : Int32)), .val (.int (1 : Int32))] rfl ?_
                        refine B.aload 179 rfl at_177 rfl rfl ?_
                        refine B.olds fun Y28 => ?_
                        refine B.callS 182 rfl at_179 (wd hw 29 rfl) (wd hw 30 rfl) (wd hw 31 rfl) (wd hw 32 rfl) (by decide) [(.ref so)] [] (rm_un3_1 l Z a0 hw so vb c0_ c1_ c2_ cs vf h_t hcs hvf (S.ext Y28) (SA.ext Y28) (SH.ext Y28) (SO.ext Y28) (SF.ext Y28) q0 q1 q2 E_t Fc_t Fv_t A_t) rfl rfl pd__Ljava_lang_String__Z rfl rfl 0 rfl (by decide) (by decide) (by decide) (by decide) (fun _ q => nomatch q) ?_
                        rintro _ _ - ⟨rfl, rfl⟩
                        show B.G h_t 4 16 (mkF m 182 #[.val (.int p1), .val (.int p2), .val (.int p3), .val (.int p4), .val (.int (3 : Int32)), .val (.int c0_), .val (.int c1_), .val (.int c2_), .val (.ref so), .val (.int (65533 : Int32)), .val (.int (1 : Int32))] [(.int (if own_ix3 c0_ c1_ c2_ < 0 then 0 else 1))])
                        refine B.iload 184 rfl at_182 rfl ?_
                        refine B.icmp_ne 191 187 rfl (by decide) rfl at_184 (fun c184 => ?_) (fun c184 => ?_)
                        · exact absurd (by simp [own_ix3, c141, c154, c167]) c184
                        · refine B.iconst 188 rfl (1 : Int32) at_187 rfl ?_
                          refine B.goto 192 rfl (by decide) at_188 ?_
                          refine B.retN (by simp) at_192 (by decide) (by decide) ?_
                          exact rfl
          · by_cases hx1 : (255 : Int32) < c1_
            · refine B.olds fun Y29 => ?_
              refine B.callI 125 rfl at_122 rfl (wd hw 10 rfl) (wd hw 11 rfl) (wd hw 8 rfl) (wd hw 12 rfl) (by decide) [(.ref ca)] [(.ref so)] (rm_st3_1 l Z a0 hw so ca c0_ c1_ c2_ cs vf hs23 hcs hvf (S.ext Y29) (SA.ext Y29) (SH.ext Y29) (SO.ext Y29) (SF.ext Y29) E_so_5 F0_so_5 F1_so_5 hx0 hx1 q0 q1 q2 As23) rfl rfl pd___C_V rfl rfl 1 rfl (by decide) (by decide) (by decide) (by decide) (fun x z => Or.inr (by cases List.mem_singleton.mp z; exact g_so)) ?_
              rintro _ h_t K_t ⟨rfl, E_t, vb, Fc_t, Fv_t, A_t⟩
              show B.G h_t 4 16 (mkF m 125 #[.val (.int p1), .val (.int p2), .val (.int p3), .val (.int p4), .val (.int (3 : Int32)), .val (.int c0_), .val (.int c1_), .val (.int c2_), .unset, .unset, .unset] [(.ref so)])
              refine B.astore 127 rfl at_125 rfl #[.val (.int p1), .val (.int p2), .val (.int p3), .val (.int p4), .val (.int (3 : Int32)), .val (.int c0_), .val (.int c1_), .val (.int c2_), .val (.ref so), .unset, .unset] rfl ?_
              refine B.ldcI 129 rfl at_127 (wd hw 28 rfl) ?_
              refine B.istore 131 rfl at_129 #[.val (.int p1), .val (.int p2), .val (.int p3), .val (.int p4), .val (.int (3 : Int32)), .val (.int c0_), .val (.int c1_), .val (.int c2_), .val (.ref so), .val (.int (65533 : Int32)), .unset] rfl ?_
              refine B.iload 133 rfl at_131 rfl ?_
              refine B.iconst 134 rfl (1 : Int32) at_133 rfl ?_
              refine B.icmp_lt 144 137 rfl (by decide) rfl at_134 (fun c134 => ?_) (fun c134 => ?_)
              · exact absurd c134 (by decide)
              · refine B.iload 139 rfl at_137 rfl ?_
                refine B.iload 141 rfl at_139 rfl ?_
                refine B.icmp_eq 170 144 rfl (by decide) rfl at_141 (fun c141 => ?_) (fun c141 => ?_)
                · refine B.iconst 171 rfl (1 : Int32) at_170 rfl ?_
                  refine B.goto 175 rfl (by decide) at_171 ?_
                  refine B.istore 177 rfl at_175 #[.val (.int p1), .val (.int p2), .val (.int p3), .val (.int p4), .val (.int (3 : Int32)), .val (.int c0_), .val (.int c1_), .val (.int c2_), .val (.ref so), .val (.int (65533 : Int32)), .val (.int (1 : Int32))] rfl ?_
                  refine B.aload 179 rfl at_177 rfl rfl ?_
                  refine B.olds fun Y30 => ?_
                  refine B.callS 182 rfl at_179 (wd hw 29 rfl) (wd hw 30 rfl) (wd hw 31 rfl) (wd hw 32 rfl) (by decide) [(.ref so)] [] (rm_un3_1 l Z a0 hw so vb c0_ c1_ c2_ cs vf h_t hcs hvf (S.ext Y30) (SA.ext Y30) (SH.ext Y30) (SO.ext Y30) (SF.ext Y30) q0 q1 q2 E_t Fc_t Fv_t A_t) rfl rfl pd__Ljava_lang_String__Z rfl rfl 0 rfl (by decide) (by decide) (by decide) (by decide) (fun _ q => nomatch q) ?_
                  rintro _ _ - ⟨rfl, rfl⟩
                  show B.G h_t 4 16 (mkF m 182 #[.val (.int p1), .val (.int p2), .val (.int p3), .val (.int p4), .val (.int (3 : Int32)), .val (.int c0_), .val (.int c1_), .val (.int c2_), .val (.ref so), .val (.int (65533 : Int32)), .val (.int (1 : Int32))] [(.int (if own_ix3 c0_ c1_ c2_ < 0 then 0 else 1))])
                  refine B.iload 184 rfl at_182 rfl ?_
                  refine B.icmp_ne 191 187 rfl (by decide) rfl at_184 (fun c184 => ?_) (fun c184 => ?_)
                  · exact absurd (by simp [own_ix3, c141]) c184
                  · refine B.iconst 188 rfl (1 : Int32) at_187 rfl ?_
                    refine B.goto 192 rfl (by decide) at_188 ?_
                    refine B.retN (by simp) at_192 (by decide) (by decide) ?_
                    exact rfl
                · refine B.iload 146 rfl at_144 rfl ?_
                  refine B.iconst 147 rfl (2 : Int32) at_146 rfl ?_
                  refine B.icmp_lt 157 150 rfl (by decide) rfl at_147 (fun c147 => ?_) (fun c147 => ?_)
                  · exact absurd c147 (by decide)
                  · refine B.iload 152 rfl at_150 rfl ?_
                    refine B.iload 154 rfl at_152 rfl ?_
                    refine B.icmp_eq 170 157 rfl (by decide) rfl at_154 (fun c154 => ?_) (fun c154 => ?_)
                    · refine B.iconst 171 rfl (1 : Int32) at_170 rfl ?_
                      refine B.goto 175 rfl (by decide) at_171 ?_
                      refine B.istore 177 rfl at_175 #[.val (.int p1), .val (.int p2), .val (.int p3), .val (.int p4), .val (.int (3 : Int32)), .val (.int c0_), .val (.int c1_), .val (.int c2_), .val (.ref so), .val (.int (65533 : Int32)), .val (.int (1 : Int32))] rfl ?_
                      refine B.aload 179 rfl at_177 rfl rfl ?_
                      refine B.olds fun Y31 => ?_
                      refine B.callS 182 rfl at_179 (wd hw 29 rfl) (wd hw 30 rfl) (wd hw 31 rfl) (wd hw 32 rfl) (by decide) [(.ref so)] [] (rm_un3_1 l Z a0 hw so vb c0_ c1_ c2_ cs vf h_t hcs hvf (S.ext Y31) (SA.ext Y31) (SH.ext Y31) (SO.ext Y31) (SF.ext Y31) q0 q1 q2 E_t Fc_t Fv_t A_t) rfl rfl pd__Ljava_lang_String__Z rfl rfl 0 rfl (by decide) (by decide) (by decide) (by decide) (fun _ q => nomatch q) ?_
                      rintro _ _ - ⟨rfl, rfl⟩
                      show B.G h_t 4 16 (mkF m 182 #[.val (.int p1), .val (.int p2), .val (.int p3), .val (.int p4), .val (.int (3 : Int32)), .val (.int c0_), .val (.int c1_), .val (.int c2_), .val (.ref so), .val (.int (65533 : Int32)), .val (.int (1 : Int32))] [(.int (if own_ix3 c0_ c1_ c2_ < 0 then 0 else 1))])
                      refine B.iload 184 rfl at_182 rfl ?_
                      refine B.icmp_ne 191 187 rfl (by decide) rfl at_184 (fun c184 => ?_) (fun c184 => ?_)
                      · exact absurd (by simp [own_ix3, c141, c154]) c184
                      · refine B.iconst 188 rfl (1 : Int32) at_187 rfl ?_
                        refine B.goto 192 rfl (by decide) at_188 ?_
                        refine B.retN (by simp) at_192 (by decide) (by decide) ?_
                        exact rfl
                    · refine B.iload 159 rfl at_157 rfl ?_
                      refine B.iconst 160 rfl (3 : Int32) at_159 rfl ?_
                      refine B.icmp_lt 174 163 rfl (by decide) rfl at_160 (fun c160 => ?_) (fun c160 => ?_)
                      · exact absurd c160 (by decide)
                      · refine B.iload 165 rfl at_163 rfl ?_
                        refine B.iload 167 rfl at_165 rfl ?_
                        refine B.icmp_ne 174 170 rfl (by decide) rfl at_167 (fun c167 => ?_) (fun c167 => ?_)
                        · refine B.iconst 175 rfl (0 : Int32) at_174 rfl ?_
                          refine B.istore 177 rfl at_175 #[.val (.int p1), .val (.int p2), .val (.int p3), .val (.int p4), .val (.int (3 : Int32)), .val (.int c0_), .val (.int c1_), .val (.int c2_), .val (.ref so), .val (.int (65533 : Int32)), .val (.int (0 : Int32))] rfl ?_
                          refine B.aload 179 rfl at_177 rfl rfl ?_
                          refine B.olds fun Y32 => ?_
                          refine B.callS 182 rfl at_179 (wd hw 29 rfl) (wd hw 30 rfl) (wd hw 31 rfl) (wd hw 32 rfl) (by decide) [(.ref so)] [] (rm_un3_1 l Z a0 hw so vb c0_ c1_ c2_ cs vf h_t hcs hvf (S.ext Y32) (SA.ext Y32) (SH.ext Y32) (SO.ext Y32) (SF.ext Y32) q0 q1 q2 E_t Fc_t Fv_t A_t) rfl rfl pd__Ljava_lang_String__Z rfl rfl 0 rfl (by decide) (by decide) (by decide) (by decide) (fun _ q => nomatch q) ?_
                          rintro _ _ - ⟨rfl, rfl⟩
                          show B.G h_t 4 16 (mkF m 182 #[.val (.int p1), .val (.int p2), .val (.int p3), .val (.int p4), .val (.int (3 : Int32)), .val (.int c0_), .val (.int c1_), .val (.int c2_), .val (.ref so), .val (.int (65533 : Int32)), .val (.int (0 : Int32))] [(.int (if own_ix3 c0_ c1_ c2_ < 0 then 0 else 1))])
                          refine B.iload 184 rfl at_182 rfl ?_
                          refine B.icmp_ne 191 187 rfl (by decide) rfl at_184 (fun c184 => ?_) (fun c184 => ?_)
                          · exact absurd (by simp [own_ix3, c141, c154, c167]) c184
                          · refine B.iconst 188 rfl (1 : Int32) at_187 rfl ?_
                            refine B.goto 192 rfl (by decide) at_188 ?_
                            refine B.retN (by simp) at_192 (by decide) (by decide) ?_
                            exact rfl
                        · refine B.iconst 171 rfl (1 : Int32) at_170 rfl ?_
                          refine B.goto 175 rfl (by decide) at_171 ?_
                          refine B.istore 177 rfl at_175 #[.val (.int p1), .val (.int p2), .val (.int p3), .val (.int p4), .val (.int (3 : Int32)), .val (.int c0_), .val (.int c1_), .val (.int c2_), .val (.ref so), .val (.int (65533 : Int32)), .val (.int (1 : Int32))] rfl ?_
                          refine B.aload 179 rfl at_177 rfl rfl ?_
                          refine B.olds fun Y33 => ?_
                          refine B.callS 182 rfl at_179 (wd hw 29 rfl) (wd hw 30 rfl) (wd hw 31 rfl) (wd hw 32 rfl) (by decide) [(.ref so)] [] (rm_un3_1 l Z a0 hw so vb c0_ c1_ c2_ cs vf h_t hcs hvf (S.ext Y33) (SA.ext Y33) (SH.ext Y33) (SO.ext Y33) (SF.ext Y33) q0 q1 q2 E_t Fc_t Fv_t A_t) rfl rfl pd__Ljava_lang_String__Z rfl rfl 0 rfl (by decide) (by decide) (by decide) (by decide) (fun _ q => nomatch q) ?_
                          rintro _ _ - ⟨rfl, rfl⟩
                          show B.G h_t 4 16 (mkF m 182 #[.val (.int p1), .val (.int p2), .val (.int p3), .val (.int p4), .val (.int (3 : Int32)), .val (.int c0_), .val (.int c1_), .val (.int c2_), .val (.ref so), .val (.int (65533 : Int32)), .val (.int (1 : Int32))] [(.int (if own_ix3 c0_ c1_ c2_ < 0 then 0 else 1))])
                          refine B.iload 184 rfl at_182 rfl ?_
                          refine B.icmp_ne 191 187 rfl (by decide) rfl at_184 (fun c184 => ?_) (fun c184 => ?_)
                          · exact absurd (by simp [own_ix3, c141, c154, c167]) c184
                          · refine B.iconst 188 rfl (1 : Int32) at_187 rfl ?_
                            refine B.goto 192 rfl (by decide) at_188 ?_
                            refine B.retN (by simp) at_192 (by decide) (by decide) ?_
                            exact rfl
            · by_cases hx2 : (255 : Int32) < c2_
              · refine B.olds fun Y34 => ?_
                refine B.callI 125 rfl at_122 rfl (wd hw 10 rfl) (wd hw 11 rfl) (wd hw 8 rfl) (wd hw 12 rfl) (by decide) [(.ref ca)] [(.ref so)] (rm_st3_2 l Z a0 hw so ca c0_ c1_ c2_ cs vf hs23 hcs hvf (S.ext Y34) (SA.ext Y34) (SH.ext Y34) (SO.ext Y34) (SF.ext Y34) E_so_5 F0_so_5 F1_so_5 hx0 hx1 hx2 q0 q1 q2 As23) rfl rfl pd___C_V rfl rfl 1 rfl (by decide) (by decide) (by decide) (by decide) (fun x z => Or.inr (by cases List.mem_singleton.mp z; exact g_so)) ?_
                rintro _ h_t K_t ⟨rfl, E_t, vb, Fc_t, Fv_t, A_t⟩
                show B.G h_t 4 16 (mkF m 125 #[.val (.int p1), .val (.int p2), .val (.int p3), .val (.int p4), .val (.int (3 : Int32)), .val (.int c0_), .val (.int c1_), .val (.int c2_), .unset, .unset, .unset] [(.ref so)])
                refine B.astore 127 rfl at_125 rfl #[.val (.int p1), .val (.int p2), .val (.int p3), .val (.int p4), .val (.int (3 : Int32)), .val (.int c0_), .val (.int c1_), .val (.int c2_), .val (.ref so), .unset, .unset] rfl ?_
                refine B.ldcI 129 rfl at_127 (wd hw 28 rfl) ?_
                refine B.istore 131 rfl at_129 #[.val (.int p1), .val (.int p2), .val (.int p3), .val (.int p4), .val (.int (3 : Int32)), .val (.int c0_), .val (.int c1_), .val (.int c2_), .val (.ref so), .val (.int (65533 : Int32)), .unset] rfl ?_
                refine B.iload 133 rfl at_131 rfl ?_
                refine B.iconst 134 rfl (1 : Int32) at_133 rfl ?_
                refine B.icmp_lt 144 137 rfl (by decide) rfl at_134 (fun c134 => ?_) (fun c134 => ?_)
                · exact absurd c134 (by decide)
                · refine B.iload 139 rfl at_137 rfl ?_
                  refine B.iload 141 rfl at_139 rfl ?_
                  refine B.icmp_eq 170 144 rfl (by decide) rfl at_141 (fun c141 => ?_) (fun c141 => ?_)
                  · refine B.iconst 171 rfl (1 : Int32) at_170 rfl ?_
                    refine B.goto 175 rfl (by decide) at_171 ?_
                    refine B.istore 177 rfl at_175 #[.val (.int p1), .val (.int p2), .val (.int p3), .val (.int p4), .val (.int (3 : Int32)), .val (.int c0_), .val (.int c1_), .val (.int c2_), .val (.ref so), .val (.int (65533 : Int32)), .val (.int (1 : Int32))] rfl ?_
                    refine B.aload 179 rfl at_177 rfl rfl ?_
                    refine B.olds fun Y35 => ?_
                    refine B.callS 182 rfl at_179 (wd hw 29 rfl) (wd hw 30 rfl) (wd hw 31 rfl) (wd hw 32 rfl) (by decide) [(.ref so)] [] (rm_un3_1 l Z a0 hw so vb c0_ c1_ c2_ cs vf h_t hcs hvf (S.ext Y35) (SA.ext Y35) (SH.ext Y35) (SO.ext Y35) (SF.ext Y35) q0 q1 q2 E_t Fc_t Fv_t A_t) rfl rfl pd__Ljava_lang_String__Z rfl rfl 0 rfl (by decide) (by decide) (by decide) (by decide) (fun _ q => nomatch q) ?_
                    rintro _ _ - ⟨rfl, rfl⟩
                    show B.G h_t 4 16 (mkF m 182 #[.val (.int p1), .val (.int p2), .val (.int p3), .val (.int p4), .val (.int (3 : Int32)), .val (.int c0_), .val (.int c1_), .val (.int c2_), .val (.ref so), .val (.int (65533 : Int32)), .val (.int (1 : Int32))] [(.int (if own_ix3 c0_ c1_ c2_ < 0 then 0 else 1))])
                    refine B.iload 184 rfl at_182 rfl ?_
                    refine B.icmp_ne 191 187 rfl (by decide) rfl at_184 (fun c184 => ?_) (fun c184 => ?_)
                    · exact absurd (by simp [own_ix3, c141]) c184
                    · refine B.iconst 188 rfl (1 : Int32) at_187 rfl ?_
                      refine B.goto 192 rfl (by decide) at_188 ?_
                      refine B.retN (by simp) at_192 (by decide) (by decide) ?_
                      exact rfl
                  · refine B.iload 146 rfl at_144 rfl ?_
                    refine B.iconst 147 rfl (2 : Int32) at_146 rfl ?_
                    refine B.icmp_lt 157 150 rfl (by decide) rfl at_147 (fun c147 => ?_) (fun c147 => ?_)
                    · exact absurd c147 (by decide)
                    · refine B.iload 152 rfl at_150 rfl ?_
                      refine B.iload 154 rfl at_152 rfl ?_
                      refine B.icmp_eq 170 157 rfl (by decide) rfl at_154 (fun c154 => ?_) (fun c154 => ?_)
                      · refine B.iconst 171 rfl (1 : Int32) at_170 rfl ?_
                        refine B.goto 175 rfl (by decide) at_171 ?_
                        refine B.istore 177 rfl at_175 #[.val (.int p1), .val (.int p2), .val (.int p3), .val (.int p4), .val (.int (3 : Int32)), .val (.int c0_), .val (.int c1_), .val (.int c2_), .val (.ref so), .val (.int (65533 : Int32)), .val (.int (1 : Int32))] rfl ?_
                        refine B.aload 179 rfl at_177 rfl rfl ?_
                        refine B.olds fun Y36 => ?_
                        refine B.callS 182 rfl at_179 (wd hw 29 rfl) (wd hw 30 rfl) (wd hw 31 rfl) (wd hw 32 rfl) (by decide) [(.ref so)] [] (rm_un3_1 l Z a0 hw so vb c0_ c1_ c2_ cs vf h_t hcs hvf (S.ext Y36) (SA.ext Y36) (SH.ext Y36) (SO.ext Y36) (SF.ext Y36) q0 q1 q2 E_t Fc_t Fv_t A_t) rfl rfl pd__Ljava_lang_String__Z rfl rfl 0 rfl (by decide) (by decide) (by decide) (by decide) (fun _ q => nomatch q) ?_
                        rintro _ _ - ⟨rfl, rfl⟩
                        show B.G h_t 4 16 (mkF m 182 #[.val (.int p1), .val (.int p2), .val (.int p3), .val (.int p4), .val (.int (3 : Int32)), .val (.int c0_), .val (.int c1_), .val (.int c2_), .val (.ref so), .val (.int (65533 : Int32)), .val (.int (1 : Int32))] [(.int (if own_ix3 c0_ c1_ c2_ < 0 then 0 else 1))])
                        refine B.iload 184 rfl at_182 rfl ?_
                        refine B.icmp_ne 191 187 rfl (by decide) rfl at_184 (fun c184 => ?_) (fun c184 => ?_)
                        · exact absurd (by simp [own_ix3, c141, c154]) c184
                        · refine B.iconst 188 rfl (1 : Int32) at_187 rfl ?_
                          refine B.goto 192 rfl (by decide) at_188 ?_
                          refine B.retN (by simp) at_192 (by decide) (by decide) ?_
                          exact rfl
                      · refine B.iload 159 rfl at_157 rfl ?_
                        refine B.iconst 160 rfl (3 : Int32) at_159 rfl ?_
                        refine B.icmp_lt 174 163 rfl (by decide) rfl at_160 (fun c160 => ?_) (fun c160 => ?_)
                        · exact absurd c160 (by decide)
                        · refine B.iload 165 rfl at_163 rfl ?_
                          refine B.iload 167 rfl at_165 rfl ?_
                          refine B.icmp_ne 174 170 rfl (by decide) rfl at_167 (fun c167 => ?_) (fun c167 => ?_)
                          · refine B.iconst 175 rfl (0 : Int32) at_174 rfl ?_
                            refine B.istore 177 rfl at_175 #[.val (.int p1), .val (.int p2), .val (.int p3), .val (.int p4), .val (.int (3 : Int32)), .val (.int c0_), .val (.int c1_), .val (.int c2_), .val (.ref so), .val (.int (65533 : Int32)), .val (.int (0 : Int32))] rfl ?_
                            refine B.aload 179 rfl at_177 rfl rfl ?_
                            refine B.olds fun Y37 => ?_
                            refine B.callS 182 rfl at_179 (wd hw 29 rfl) (wd hw 30 rfl) (wd hw 31 rfl) (wd hw 32 rfl) (by decide) [(.ref so)] [] (rm_un3_1 l Z a0 hw so vb c0_ c1_ c2_ cs vf h_t hcs hvf (S.ext Y37) (SA.ext Y37) (SH.ext Y37) (SO.ext Y37) (SF.ext Y37) q0 q1 q2 E_t Fc_t Fv_t A_t) rfl rfl pd__Ljava_lang_String__Z rfl rfl 0 rfl (by decide) (by decide) (by decide) (by decide) (fun _ q => nomatch q) ?_
                            rintro _ _ - ⟨rfl, rfl⟩
                            show B.G h_t 4 16 (mkF m 182 #[.val (.int p1), .val (.int p2), .val (.int p3), .val (.int p4), .val (.int (3 : Int32)), .val (.int c0_), .val (.int c1_), .val (.int c2_), .val (.ref so), .val (.int (65533 : Int32)), .val (.int (0 : Int32))] [(.int (if own_ix3 c0_ c1_ c2_ < 0 then 0 else 1))])
                            refine B.iload 184 rfl at_182 rfl ?_
                            refine B.icmp_ne 191 187 rfl (by decide) rfl at_184 (fun c184 => ?_) (fun c184 => ?_)
                            · exact absurd (by simp [own_ix3, c141, c154, c167]) c184
                            · refine B.iconst 188 rfl (1 : Int32) at_187 rfl ?_
                              refine B.goto 192 rfl (by decide) at_188 ?_
                              refine B.retN (by simp) at_192 (by decide) (by decide) ?_
                              exact rfl
                          · refine B.iconst 171 rfl (1 : Int32) at_170 rfl ?_
                            refine B.goto 175 rfl (by decide) at_171 ?_
                            refine B.istore 177 rfl at_175 #[.val (.int p1), .val (.int p2), .val (.int p3), .val (.int p4), .val (.int (3 : Int32)), .val (.int c0_), .val (.int c1_), .val (.int c2_), .val (.ref so), .val (.int (65533 : Int32)), .val (.int (1 : Int32))] rfl ?_
                            refine B.aload 179 rfl at_177 rfl rfl ?_
                            refine B.olds fun Y38 => ?_
                            refine B.callS 182 rfl at_179 (wd hw 29 rfl) (wd hw 30 rfl) (wd hw 31 rfl) (wd hw 32 rfl) (by decide) [(.ref so)] [] (rm_un3_1 l Z a0 hw so vb c0_ c1_ c2_ cs vf h_t hcs hvf (S.ext Y38) (SA.ext Y38) (SH.ext Y38) (SO.ext Y38) (SF.ext Y38) q0 q1 q2 E_t Fc_t Fv_t A_t) rfl rfl pd__Ljava_lang_String__Z rfl rfl 0 rfl (by decide) (by decide) (by decide) (by decide) (fun _ q => nomatch q) ?_
                            rintro _ _ - ⟨rfl, rfl⟩
                            show B.G h_t 4 16 (mkF m 182 #[.val (.int p1), .val (.int p2), .val (.int p3), .val (.int p4), .val (.int (3 : Int32)), .val (.int c0_), .val (.int c1_), .val (.int c2_), .val (.ref so), .val (.int (65533 : Int32)), .val (.int (1 : Int32))] [(.int (if own_ix3 c0_ c1_ c2_ < 0 then 0 else 1))])
                            refine B.iload 184 rfl at_182 rfl ?_
                            refine B.icmp_ne 191 187 rfl (by decide) rfl at_184 (fun c184 => ?_) (fun c184 => ?_)
                            · exact absurd (by simp [own_ix3, c141, c154, c167]) c184
                            · refine B.iconst 188 rfl (1 : Int32) at_187 rfl ?_
                              refine B.goto 192 rfl (by decide) at_188 ?_
                              refine B.retN (by simp) at_192 (by decide) (by decide) ?_
                              exact rfl
              · refine B.olds fun Y39 => ?_
                refine B.callI 125 rfl at_122 rfl (wd hw 10 rfl) (wd hw 11 rfl) (wd hw 8 rfl) (wd hw 12 rfl) (by decide) [(.ref ca)] [(.ref so)] (rm_st3_3 l Z a0 hw so ca c0_ c1_ c2_ cs vf hs23 hcs hvf (S.ext Y39) (SA.ext Y39) (SH.ext Y39) (SO.ext Y39) (SF.ext Y39) E_so_5 F0_so_5 F1_so_5 hx0 hx1 hx2 q0 q1 q2 As23) rfl rfl pd___C_V rfl rfl 1 rfl (by decide) (by decide) (by decide) (by decide) (fun x z => Or.inr (by cases List.mem_singleton.mp z; exact g_so)) ?_
                rintro _ h_t K_t ⟨rfl, E_t, vb, Fc_t, Fv_t, A_t⟩
                show B.G h_t 3 10 (mkF m 125 #[.val (.int p1), .val (.int p2), .val (.int p3), .val (.int p4), .val (.int (3 : Int32)), .val (.int c0_), .val (.int c1_), .val (.int c2_), .unset, .unset, .unset] [(.ref so)])
                refine B.astore 127 rfl at_125 rfl #[.val (.int p1), .val (.int p2), .val (.int p3), .val (.int p4), .val (.int (3 : Int32)), .val (.int c0_), .val (.int c1_), .val (.int c2_), .val (.ref so), .unset, .unset] rfl ?_
                refine B.ldcI 129 rfl at_127 (wd hw 28 rfl) ?_
                refine B.istore 131 rfl at_129 #[.val (.int p1), .val (.int p2), .val (.int p3), .val (.int p4), .val (.int (3 : Int32)), .val (.int c0_), .val (.int c1_), .val (.int c2_), .val (.ref so), .val (.int (65533 : Int32)), .unset] rfl ?_
                refine B.iload 133 rfl at_131 rfl ?_
                refine B.iconst 134 rfl (1 : Int32) at_133 rfl ?_
                refine B.icmp_lt 144 137 rfl (by decide) rfl at_134 (fun c134 => ?_) (fun c134 => ?_)
                · exact absurd c134 (by decide)
                · refine B.iload 139 rfl at_137 rfl ?_
                  refine B.iload 141 rfl at_139 rfl ?_
                  refine B.icmp_eq 170 144 rfl (by decide) rfl at_141 (fun c141 => ?_) (fun c141 => ?_)
                  · exact absurd (by rw [c141]; decide) hx0
                  · refine B.iload 146 rfl at_144 rfl ?_
                    refine B.iconst 147 rfl (2 : Int32) at_146 rfl ?_
                    refine B.icmp_lt 157 150 rfl (by decide) rfl at_147 (fun c147 => ?_) (fun c147 => ?_)
                    · exact absurd c147 (by decide)
                    · refine B.iload 152 rfl at_150 rfl ?_
                      refine B.iload 154 rfl at_152 rfl ?_
                      refine B.icmp_eq 170 157 rfl (by decide) rfl at_154 (fun c154 => ?_) (fun c154 => ?_)
                      · exact absurd (by rw [c154]; decide) hx1
                      · refine B.iload 159 rfl at_157 rfl ?_
                        refine B.iconst 160 rfl (3 : Int32) at_159 rfl ?_
                        refine B.icmp_lt 174 163 rfl (by decide) rfl at_160 (fun c160 => ?_) (fun c160 => ?_)
                        · exact absurd c160 (by decide)
                        · refine B.iload 165 rfl at_163 rfl ?_
                          refine B.iload 167 rfl at_165 rfl ?_
                          refine B.icmp_ne 174 170 rfl (by decide) rfl at_167 (fun c167 => ?_) (fun c167 => ?_)
                          · refine B.iconst 175 rfl (0 : Int32) at_174 rfl ?_
                            refine B.istore 177 rfl at_175 #[.val (.int p1), .val (.int p2), .val (.int p3), .val (.int p4), .val (.int (3 : Int32)), .val (.int c0_), .val (.int c1_), .val (.int c2_), .val (.ref so), .val (.int (65533 : Int32)), .val (.int (0 : Int32))] rfl ?_
                            refine B.aload 179 rfl at_177 rfl rfl ?_
                            refine B.olds fun Y40 => ?_
                            refine B.callS 182 rfl at_179 (wd hw 29 rfl) (wd hw 30 rfl) (wd hw 31 rfl) (wd hw 32 rfl) (by decide) [(.ref so)] [] (rm_un3_0 l Z a0 hw so vb [(.int ((c0_.toInt8.toInt32).toInt8.toInt32)), (.int ((c1_.toInt8.toInt32).toInt8.toInt32)), (.int ((c2_.toInt8.toInt32).toInt8.toInt32))] cs vf h_t hcs hvf (S.ext Y40) (SA.ext Y40) (SH.ext Y40) (SO.ext Y40) (SF.ext Y40) rfl E_t Fc_t Fv_t A_t) rfl rfl pd__Ljava_lang_String__Z rfl rfl 0 rfl (by decide) (by decide) (by decide) (by decide) (fun _ q => nomatch q) ?_
                            rintro _ _ - ⟨rfl, rfl⟩
                            show B.G h_t 3 10 (mkF m 182 #[.val (.int p1), .val (.int p2), .val (.int p3), .val (.int p4), .val (.int (3 : Int32)), .val (.int c0_), .val (.int c1_), .val (.int c2_), .val (.ref so), .val (.int (65533 : Int32)), .val (.int (0 : Int32))] [(.int (0 : Int32))])
                            refine B.iload 184 rfl at_182 rfl ?_
                            refine B.icmp_ne 191 187 rfl (by decide) rfl at_184 (fun c184 => ?_) (fun c184 => ?_)
                            · exact absurd rfl c184
                            · refine B.iconst 188 rfl (1 : Int32) at_187 rfl ?_
                              refine B.goto 192 rfl (by decide) at_188 ?_
                              refine B.retN (by simp) at_192 (by decide) (by decide) ?_
                              exact rfl
                          · exact absurd (by rw [c167]; decide) hx2
        · exact absurd c72 (by decide)
      · exact absurd c46 (by decide)
    · exact absurd c25 (by decide)
set_option maxRecDepth 65536 in
set_option maxHeartbeats 4000000 in
theorem comes_1 {Post : Tables → Env → Array Value → State → Outcome → State → Prop} (hpost : ∀ tb e args s v u, (limb_1_1.after args s (.returned v) u = true ∧ limb_1_2.after args s (.returned v) u = true ∧ True) → FramedW s (.returned v) u (Jvm.fieldLocs frame_1_writes args s ++ Jvm.arrayLocs frame_1_arrays args s ++ Jvm.staticLocs frame_1_statics s) 24 1152 → Post tb e args s (.returned v) u) :
    ArmFor flags0 classFile x code maxLocals ret World_1 tables_1 room_1 Calls_1 rest_1 Pre_1 Post := by
  intro l hfl _ _ p e ha hc hk s m args below hf hA hF happ hP
  obtain ⟨hcalls, hrest, hpre⟩ := hP
  obtain ⟨-, -, -, hnamed, -, -, -, hat⟩ := (Spec.applies_iff hf).mp happ
  obtain ⟨hg, hn⟩ := and_e (Cond.before_iff.mp (show (Jvm.Cond.and given_1 narrow_1).before args s = true from hpre))
  obtain ⟨g0, gg0⟩ := and_e hg
  obtain ⟨k0, gg1⟩ := and_e gg0
  obtain ⟨k1, gg2⟩ := and_e gg1
  obtain ⟨k2, gg3⟩ := and_e gg2
  obtain ⟨w0, w1, w2, w3, rfl⟩ : ∃ w0 w1 w2 w3 : Value, args = #[w0, w1, w2, w3] := by
    have hs : args.size = 4 := by simpa [Cond.value, given_1] using g0
    obtain ⟨L⟩ := args
    match L, hs with
    | [w0, w1, w2, w3], _ => exact ⟨w0, w1, w2, w3, rfl⟩
  have hw := fun d (hd : d ∈ tables_1) => atoms_spec (ws := Jvm.Cond.code x code maxLocals ret :: tables_1) hat d (List.mem_cons_of_mem _ hd)
  obtain ⟨i0, ei0⟩ := is_v k0
  obtain rfl : w0 = (.int i0) := Option.some.inj ei0
  obtain ⟨i1, ei1⟩ := is_v k1
  obtain rfl : w1 = (.int i1) := Option.some.inj ei1
  obtain ⟨i2, ei2⟩ := is_v k2
  obtain rfl : w2 = (.int i2) := Option.some.inj ei2
  obtain ⟨i3, ei3⟩ := is_v gg3
  obtain rfl : w3 = (.int i3) := Option.some.inj ei3
  obtain ⟨hsets, hown0⟩ := atoms_of _ (rest_1_c_eq ▸ (show rest_1_c.before _ s = true from hrest))
  obtain ⟨cs, vcs⟩ := is_v (Cond.before_iff.mp (hsets _ (List.mem_of_getElem? (i := 1) rfl)))
  have hcs : ¬ cs = 0 := fun q => by
    subst q
    have z : Option.map (fun x => !x) ((Jvm.Cond.eq (Jvm.Term.static "java/lang/String" "COMPACT_STRINGS" "Z") (.int 0)).value _ s none s []) = some true := Cond.before_iff.mp (hsets _ (List.mem_of_getElem? (i := 2) rfl))
    rw [eq_i vcs (Term.int_eval (0)) rfl] at z
    exact absurd z (by decide)
  have Ss := Sta.start vcs (Or.inl (hsets _ (List.mem_of_getElem? (i := 0) rfl)))
  have S := Ss
  obtain ⟨vf, evf, hvf⟩ : ∃ v : Value, (Jvm.Term.static "jdk/internal/util/Preconditions" "SIOOBE_FORMATTER" "Ljava/util/function/BiFunction;").eval _ s none [] s = some v ∧ v.isRef = true := own_rv (Cond.before_iff.mp (hsets _ (List.mem_of_getElem? (i := 8) rfl)))
  have SF := Sta.start evf (Or.inl (hsets _ (List.mem_of_getElem? (i := 7) rfl)))
  have SA := Sta.start (eval_int (Cond.before_iff.mp (hsets _ (List.mem_of_getElem? (i := 12) rfl))) rfl) (Or.inl (hsets _ (List.mem_of_getElem? (i := 11) rfl)))
  have SH := Sta.start (eval_int (Cond.before_iff.mp (hsets _ (List.mem_of_getElem? (i := 15) rfl))) rfl) (Or.inl (hsets _ (List.mem_of_getElem? (i := 14) rfl)))
  have SO := Sta.start (eval_int (Cond.before_iff.mp (hsets _ (List.mem_of_getElem? (i := 18) rfl))) rfl) (Or.inl (hsets _ (List.mem_of_getElem? (i := 17) rfl)))
  have hh : Jvm.Lit.constHeld s "java/lang/String" 7 := hcalls.1 ("java/lang/String", 7) (by decide)
  have hcw : Jvm.Lit.compactW.before _ s = true := (hsets _ (List.mem_of_getElem? (i := 2) rfl))
  obtain ⟨n, o, h1, h2, h3, _, L, rfl, ⟨rfl, N, -⟩, hq⟩ := rm0 l s _ hw tables_1 i0 i1 i2 i3 s.heap cs vf hcs hvf S SA SH SO SF hh hcw rfl p e ha hc hk s m _ below hf ((Spec.applies_iff_loose hf).mp happ).1 ⟨rfl, State.Warmed39.refl s, rfl, IB.start⟩ trivial
  refine ⟨n, _, h1, h2, h3, hpost _ _ _ _ _ _ ⟨Cond.after_iff.mpr rfl, Cond.after_iff.mpr (eq_i res_at (Term.int_eval (1)) rfl), trivial⟩ ⟨hq.1, hq.2.1, hq.2.2.1, (hq.2.2.2.sift fun y hy => Or.inr ((N y hy).resolve_left (by simp))).mono (by decide) (by decide)⟩⟩
theorem main_1_1 : Claimed_1_1 := comes_1 fun _ _ _ _ _ _ h hF => ⟨h.1, hF⟩
theorem main_1_2 : Claimed_1_2 := comes_1 fun _ _ _ _ _ _ h hF => ⟨h.2.1, hF⟩
end Jvm.Pilot.@@N@@
namespace Jvm.Pilot.@@N@@
open Jvm Jvm.ClassFile Sem Op Lib Jvm.Free Jvm.Stand Jvm.Pilot.@@N@@.Jvm.D
/-! MADE BY PROGRAM (witnessworld.py) out of the Statement's table words and the real class files: 21 classes; the members and pool entries that the words name. The judged class is class 1, her method 2. -/
namespace start1
open Jvm.ClassFile
def u (s : String) : CpInfo := .utf8 (stringToUtf16 s)
/-- a pool by its gaps: so many unusable entries, then the entry; so many at the end -/
def gap : Nat → List CpInfo → List CpInfo
  | 0, r => r
  | n + 1, r => .unusable :: gap n r
def poolList (es : List (Nat × CpInfo)) (last : Nat) : List CpInfo := es.foldr (fun e r => gap e.1 (e.2 :: r)) (gap last [])
def pool (es : List (Nat × CpInfo)) (last : Nat) : Array CpInfo := ⟨poolList es last⟩
def fileOf (pool : Array CpInfo) (this : Nat) (attrs : Array Attribute := #[]) (ms : Array MethodInfo := #[]) (fl : Nat := 33) (sup : Nat := 0) (ifs : Array Nat := #[]) (fds : Array FieldInfo := #[]) : ClassFile where
  minorVersion := 0
  majorVersion := 65
  constantPool := pool
  accessFlags := fl
  thisClass := this
  superClass := sup
  interfaces := ifs
  fields := fds
  methods := ms
  attributes := attrs
def plain (name : String) (sup : Option ClassId) : Class where
  name := name
  kind := .ordinary
  loader := none
  accessFlags := 33
  super := sup
  interfaces := #[]
  cf := none
  fields := #[]
  methods := #[]
  instanceTypes := #[]
  staticTypes := #[]
  resolved := #[]
  callSites := []
  init := .initialized
  statics := none
  mirror := none

def pool0 : Array CpInfo := pool [(5, u "<init>"), (0, u "()V"), (1, .class_ 10), (1, u "java/lang/Object")] 113

def k0c0 : Code := { maxStack := 0, maxLocals := 1, code := object_method_1_code, exceptionTable := #[], attributes := #[] }
def k0m0 : Method := { name := "<init>", desc := "()V", sig := { parameters := [], returnType := none }, accessFlags := 1, code := some k0c0 }
/-- java/lang/Object -/
def k0 : Class := { plain "java/lang/Object" none with
  accessFlags := 33
  interfaces := #[]
  cf := some (fileOf pool0 8 #[] #[{ accessFlags := 1, nameIndex := 5, descriptorIndex := 6, attributes := #[] }] 33 0 #[] #[])
  fields := #[]
  methods := #[k0m0]
  instanceTypes := #[]
  staticTypes := #[]
  resolved := Array.replicate 124 none
  statics := none }

def pool1 : Array CpInfo := pool [(2, .class_ 4), (1, u "java/lang/Object"), (0, u "<init>"), (0, u "()V"), (0, .integer 65536), (0, .integer 65532), (0, .integer 65535), (0, .methodref 11 12), (0, .class_ 13), (0, .nameAndType 14 15), (0, u "io/keyvouch/cli/ArgumentsUndecodedPinLaw"), (0, u "draw"), (0, u "(I)C"), (0, .class_ 17), (0, u "java/lang/String"), (0, .methodref 16 19), (0, .nameAndType 5 20), (0, u "([C)V"), (0, .integer 65533), (0, .methodref 23 24), (0, .class_ 25), (0, .nameAndType 26 27), (0, u "io/keyvouch/cli/Arguments"), (0, u "undecoded"), (0, u "(Ljava/lang/String;)Z"), (3, u "law"), (0, u "(IIII)Z")] 2

def k1m0 : Method := { name := "<init>", desc := "()V", sig := { parameters := [], returnType := none }, accessFlags := 1, code := none }
def k1c1 : Code := { maxStack := 3, maxLocals := 1, code := method_2_code, exceptionTable := #[], attributes := #[] }
def k1m1 : Method := { name := "draw", desc := "(I)C", sig := { parameters := [.int], returnType := some .char }, accessFlags := 10, code := some k1c1 }
def k1c2 : Code := { maxStack := 6, maxLocals := 11, code := code, exceptionTable := #[], attributes := #[] }
def k1m2 : Method := { name := "law", desc := "(IIII)Z", sig := { parameters := [.int, .int, .int, .int], returnType := some .boolean }, accessFlags := 9, code := some k1c2 }
/-- io/keyvouch/cli/ArgumentsUndecodedPinLaw -/
def k1 : Class := { plain "io/keyvouch/cli/ArgumentsUndecodedPinLaw" (some 0) with
  accessFlags := 49
  interfaces := #[]
  cf := some (fileOf pool1 11 #[] #[{ accessFlags := 1, nameIndex := 5, descriptorIndex := 6, attributes := #[] }, { accessFlags := 10, nameIndex := 14, descriptorIndex := 15, attributes := #[] }, { accessFlags := 9, nameIndex := 31, descriptorIndex := 32, attributes := #[] }] 49 2 #[] #[])
  fields := #[]
  methods := #[k1m0, k1m1, k1m2]
  instanceTypes := #[]
  staticTypes := #[]
  resolved := Array.replicate 35 none
  statics := none }

def pool2 : Array CpInfo := pool [(1, .class_ 2), (0, u "java/io/Serializable"), (0, .class_ 4), (0, u "java/lang/Object")] 2

/-- java/io/Serializable -/
def k2 : Class := { plain "java/io/Serializable" (some 0) with
  accessFlags := 1537
  interfaces := #[]
  cf := some (fileOf pool2 1 #[] #[] 1537 3 #[] #[])
  fields := #[]
  methods := #[]
  instanceTypes := #[]
  staticTypes := #[]
  resolved := Array.replicate 7 none
  statics := none }

def pool3 : Array CpInfo := pool [(1, .class_ 2), (0, u "java/lang/Comparable"), (0, .class_ 4), (0, u "java/lang/Object")] 7

/-- java/lang/Comparable -/
def k3 : Class := { plain "java/lang/Comparable" (some 0) with
  accessFlags := 1537
  interfaces := #[]
  cf := some (fileOf pool3 1 #[] #[] 1537 3 #[] #[])
  fields := #[]
  methods := #[]
  instanceTypes := #[]
  staticTypes := #[]
  resolved := Array.replicate 12 none
  statics := none }

def pool4 : Array CpInfo := pool [(2, .class_ 4), (1, u "java/lang/CharSequence"), (42, .class_ 48), (0, u "java/lang/CharSequence$1CodePointIterator"), (10, .class_ 60), (0, u "java/lang/CharSequence$1CharIterator"), (5, .class_ 67), (0, u "java/lang/Object")] 63

/-- java/lang/CharSequence -/
def k4 : Class := { plain "java/lang/CharSequence" (some 0) with
  accessFlags := 1537
  interfaces := #[]
  cf := some (fileOf pool4 2 #[.nestMembers #[47, 59]] #[] 1537 66 #[] #[])
  fields := #[]
  methods := #[]
  instanceTypes := #[]
  staticTypes := #[]
  resolved := Array.replicate 131 none
  statics := none }

def pool5 : Array CpInfo := pool [(1, .class_ 2), (0, u "java/lang/constant/Constable"), (0, .class_ 4), (0, u "java/lang/Object")] 6

/-- java/lang/constant/Constable -/
def k5 : Class := { plain "java/lang/constant/Constable" (some 0) with
  accessFlags := 1537
  interfaces := #[]
  cf := some (fileOf pool5 1 #[] #[] 1537 3 #[] #[])
  fields := #[]
  methods := #[]
  instanceTypes := #[]
  staticTypes := #[]
  resolved := Array.replicate 11 none
  statics := none }

def pool6 : Array CpInfo := pool [(1, .class_ 2), (0, u "java/lang/constant/ConstantDesc"), (0, .class_ 4), (0, u "java/lang/Object")] 32

/-- java/lang/constant/ConstantDesc -/
def k6 : Class := { plain "java/lang/constant/ConstantDesc" (some 0) with
  accessFlags := 1537
  interfaces := #[]
  cf := some (fileOf pool6 1 #[] #[] 1537 3 #[] #[])
  fields := #[]
  methods := #[]
  instanceTypes := #[]
  staticTypes := #[]
  resolved := Array.replicate 37 none
  statics := none }

def pool7 : Array CpInfo := pool [(1, .methodref 2 3), (0, .class_ 4), (0, .nameAndType 5 6), (0, u "java/lang/Object"), (0, u "<init>"), (0, u "()V"), (0, .string 8), (0, u ""), (0, .fieldref 10 11), (0, .class_ 12), (0, .nameAndType 13 14), (0, u "java/lang/String"), (0, u "value"), (0, u "[B"), (0, .fieldref 10 16), (0, .nameAndType 17 18), (0, u "coder"), (0, u "B"), (2, u "hash"), (0, u "I"), (2, u "hashIsZero"), (0, u "Z"), (0, .methodref 10 28), (0, .nameAndType 5 29), (0, u "([CIILjava/lang/Void;)V"), (8, .fieldref 10 39), (0, .nameAndType 40 26), (0, u "COMPACT_STRINGS"), (1, .class_ 44), (1, u "java/lang/StringUTF16"), (0, u "compress"), (1, .methodref 42 48), (0, .nameAndType 49 50), (0, u "coderFromArrayLen"), (0, u "([BI)B"), (56, .class_ 109), (1, u "java/lang/StringLatin1"), (32, u "()Z"), (34, .methodref 42 178), (0, .nameAndType 45 179), (0, u "([CII)[B"), (154, u "()I"), (0, .methodref 10 336), (0, .nameAndType 17 337), (0, u "()B"), (154, .methodref 10 493), (0, .nameAndType 494 142), (0, u "isLatin1"), (10, .methodref 10 506), (0, .nameAndType 507 334), (0, u "length"), (5, u "checkFromToIndex"), (9, u "checkBoundsBeginEnd"), (0, u "(III)V"), (50, .class_ 576), (0, u "java/lang/CharSequence"), (22, u "CASE_INSENSITIVE_ORDER"), (0, u "Ljava/util/Comparator;"), (32, .methodref 10 634), (0, .nameAndType 635 636), (0, u "indexOf"), (0, u "(II)I"), (0, .methodref 107 638), (0, .nameAndType 635 639), (0, u "([BIII)I"), (0, .methodref 42 638), (124, u "(I)I"), (244, u "([C)V"), (42, .fieldref 1054 1055), (0, .class_ 1056), (0, .nameAndType 1057 1058), (0, u "jdk/internal/util/Preconditions"), (0, u "SIOOBE_FORMATTER"), (0, u "Ljava/util/function/BiFunction;"), (3, .methodref 1054 1063), (0, .nameAndType 513 1064), (0, u "(IIILjava/util/function/BiFunction;)I"), (36, u "serialPersistentFields"), (0, u "[Ljava/io/ObjectStreamField;"), (0, .class_ 1104), (0, u "java/lang/String$CaseInsensitiveComparator"), (1, .class_ 1107), (0, u "java/io/Serializable"), (0, .class_ 1109), (0, u "java/lang/Comparable"), (0, .class_ 1111), (0, u "java/lang/constant/Constable"), (0, .class_ 1113), (0, u "java/lang/constant/ConstantDesc"), (2, u "serialVersionUID"), (0, u "J"), (3, u "REPL"), (0, u "C"), (2, u "LATIN1"), (1, u "UTF16")] 323

def k7m0 : Method := { name := "<init>", desc := "()V", sig := { parameters := [], returnType := none }, accessFlags := 1, code := none }
def k7c1 : Code := { maxStack := 5, maxLocals := 2, code := jdk_42_method_3_code, exceptionTable := #[], attributes := #[] }
def k7m1 : Method := { name := "<init>", desc := "([C)V", sig := { parameters := [(.array .char)], returnType := none }, accessFlags := 1, code := some k7c1 }
def k7c2 : Code := { maxStack := 2, maxLocals := 1, code := jdk_42_method_54_code, exceptionTable := #[], attributes := #[] }
def k7m2 : Method := { name := "length", desc := "()I", sig := { parameters := [], returnType := some .int }, accessFlags := 1, code := some k7c2 }
def k7c3 : Code := { maxStack := 3, maxLocals := 2, code := jdk_42_method_79_code, exceptionTable := #[], attributes := #[] }
def k7m3 : Method := { name := "indexOf", desc := "(I)I", sig := { parameters := [.int], returnType := some .int }, accessFlags := 1, code := some k7c3 }
def k7c4 : Code := { maxStack := 4, maxLocals := 3, code := jdk_42_method_80_code, exceptionTable := #[], attributes := #[] }
def k7m4 : Method := { name := "indexOf", desc := "(II)I", sig := { parameters := [.int, .int], returnType := some .int }, accessFlags := 1, code := some k7c4 }
def k7c5 : Code := { maxStack := 4, maxLocals := 6, code := jdk_42_method_149_code, exceptionTable := #[], attributes := #[] }
def k7m5 : Method := { name := "<init>", desc := "([CIILjava/lang/Void;)V", sig := { parameters := [(.array .char), .int, .int, (.object "java/lang/Void")], returnType := none }, accessFlags := 2, code := some k7c5 }
def k7c6 : Code := { maxStack := 1, maxLocals := 1, code := jdk_42_method_152_code, exceptionTable := #[], attributes := #[] }
def k7m6 : Method := { name := "coder", desc := "()B", sig := { parameters := [], returnType := some .byte }, accessFlags := 0, code := some k7c6 }
def k7c7 : Code := { maxStack := 1, maxLocals := 1, code := jdk_42_method_154_code, exceptionTable := #[], attributes := #[] }
def k7m7 : Method := { name := "isLatin1", desc := "()Z", sig := { parameters := [], returnType := some .boolean }, accessFlags := 0, code := some k7c7 }
def k7c8 : Code := { maxStack := 4, maxLocals := 3, code := jdk_42_method_158_code, exceptionTable := #[], attributes := #[] }
def k7m8 : Method := { name := "checkBoundsBeginEnd", desc := "(III)V", sig := { parameters := [.int, .int, .int], returnType := none }, accessFlags := 8, code := some k7c8 }
/-- java/lang/String -/
def k7 : Class := { plain "java/lang/String" (some 0) with
  accessFlags := 49
  interfaces := #[2, 3, 4, 5, 6]
  cf := some (fileOf pool7 10 #[.nestMembers #[1103]] #[{ accessFlags := 1, nameIndex := 5, descriptorIndex := 6, attributes := #[] }, { accessFlags := 1, nameIndex := 5, descriptorIndex := 1010, attributes := #[] }, { accessFlags := 1, nameIndex := 507, descriptorIndex := 334, attributes := #[] }, { accessFlags := 1, nameIndex := 635, descriptorIndex := 765, attributes := #[] }, { accessFlags := 1, nameIndex := 635, descriptorIndex := 636, attributes := #[] }, { accessFlags := 2, nameIndex := 5, descriptorIndex := 29, attributes := #[] }, { accessFlags := 0, nameIndex := 17, descriptorIndex := 337, attributes := #[] }, { accessFlags := 0, nameIndex := 494, descriptorIndex := 142, attributes := #[] }, { accessFlags := 8, nameIndex := 523, descriptorIndex := 524, attributes := #[] }] 49 2 #[1106, 1108, 575, 1110, 1112] #[{ accessFlags := 18, nameIndex := 13, descriptorIndex := 14, attributes := #[] }, { accessFlags := 18, nameIndex := 17, descriptorIndex := 18, attributes := #[] }, { accessFlags := 2, nameIndex := 21, descriptorIndex := 22, attributes := #[] }, { accessFlags := 2, nameIndex := 25, descriptorIndex := 26, attributes := #[] }, { accessFlags := 26, nameIndex := 1116, descriptorIndex := 1117, attributes := #[] }, { accessFlags := 24, nameIndex := 40, descriptorIndex := 26, attributes := #[] }, { accessFlags := 26, nameIndex := 1101, descriptorIndex := 1102, attributes := #[] }, { accessFlags := 26, nameIndex := 1121, descriptorIndex := 1122, attributes := #[] }, { accessFlags := 25, nameIndex := 599, descriptorIndex := 600, attributes := #[] }, { accessFlags := 24, nameIndex := 1125, descriptorIndex := 18, attributes := #[] }, { accessFlags := 24, nameIndex := 1127, descriptorIndex := 18, attributes := #[] }])
  fields := #[{ name := "value", type := (.array .byte), accessFlags := 18, slot := 0, constantValue := 0 }, { name := "coder", type := .byte, accessFlags := 18, slot := 1, constantValue := 0 }, { name := "hash", type := .int, accessFlags := 2, slot := 2, constantValue := 0 }, { name := "hashIsZero", type := .boolean, accessFlags := 2, slot := 3, constantValue := 0 }, { name := "serialVersionUID", type := .long, accessFlags := 26, slot := 0, constantValue := 0 }, { name := "COMPACT_STRINGS", type := .boolean, accessFlags := 24, slot := 1, constantValue := 0 }, { name := "serialPersistentFields", type := (.array (.object "java/io/ObjectStreamField")), accessFlags := 26, slot := 2, constantValue := 0 }, { name := "REPL", type := .char, accessFlags := 26, slot := 3, constantValue := 0 }, { name := "CASE_INSENSITIVE_ORDER", type := (.object "java/util/Comparator"), accessFlags := 25, slot := 4, constantValue := 0 }, { name := "LATIN1", type := .byte, accessFlags := 24, slot := 5, constantValue := 0 }, { name := "UTF16", type := .byte, accessFlags := 24, slot := 6, constantValue := 0 }]
  methods := #[k7m0, k7m1, k7m2, k7m3, k7m4, k7m5, k7m6, k7m7, k7m8]
  instanceTypes := #[(.array .byte), .byte, .int, .boolean]
  staticTypes := #[.long, .boolean, (.array (.object "java/io/ObjectStreamField")), .char, (.object "java/util/Comparator"), .byte, .byte]
  resolved := Array.replicate 1451 none
  statics := some 0 }

def pool8 : Array CpInfo := pool [(2, .class_ 4), (1, u "java/lang/Object"), (0, u "<init>"), (0, u "()V"), (0, .class_ 8), (0, u "io/keyvouch/cli/Arguments"), (0, .integer 65533), (0, .methodref 11 12), (0, .class_ 13), (0, .nameAndType 14 15), (0, u "java/lang/String"), (0, u "indexOf"), (0, u "(I)I"), (0, u "UNDECODED"), (0, u "Ljava/lang/String;"), (3, u "REPLACEMENT"), (0, u "C"), (2, u "undecoded"), (0, u "(Ljava/lang/String;)Z")] 3

def k8m0 : Method := { name := "<init>", desc := "()V", sig := { parameters := [], returnType := none }, accessFlags := 2, code := none }
def k8c1 : Code := { maxStack := 2, maxLocals := 1, code := prog_2_method_2_code, exceptionTable := #[], attributes := #[] }
def k8m1 : Method := { name := "undecoded", desc := "(Ljava/lang/String;)Z", sig := { parameters := [(.object "java/lang/String")], returnType := some .boolean }, accessFlags := 8, code := some k8c1 }
/-- io/keyvouch/cli/Arguments -/
def k8 : Class := { plain "io/keyvouch/cli/Arguments" (some 0) with
  accessFlags := 48
  interfaces := #[]
  cf := some (fileOf pool8 7 #[] #[{ accessFlags := 2, nameIndex := 5, descriptorIndex := 6, attributes := #[] }, { accessFlags := 8, nameIndex := 25, descriptorIndex := 26, attributes := #[] }] 48 2 #[] #[{ accessFlags := 24, nameIndex := 16, descriptorIndex := 17, attributes := #[] }, { accessFlags := 26, nameIndex := 21, descriptorIndex := 22, attributes := #[] }])
  fields := #[{ name := "UNDECODED", type := (.object "java/lang/String"), accessFlags := 24, slot := 0, constantValue := 0 }, { name := "REPLACEMENT", type := .char, accessFlags := 26, slot := 1, constantValue := 0 }]
  methods := #[k8m0, k8m1]
  instanceTypes := #[]
  staticTypes := #[(.object "java/lang/String"), .char]
  resolved := Array.replicate 30 none
  statics := none }

def pool9 : Array CpInfo := pool [(4, .class_ 6), (1, u "java/lang/Object"), (0, u "<init>"), (0, u "()V"), (5, .class_ 16), (1, u "java/lang/StringLatin1"), (71, .methodref 14 89), (0, .nameAndType 90 91), (0, u "canEncode"), (0, u "(I)Z"), (6, u "([BIII)I"), (2, u "indexOf"), (19, u "$assertionsDisabled"), (0, u "Z"), (98, .class_ 223), (1, u "java/lang/StringLatin1$LinesSpliterator"), (166, .class_ 391), (0, u "java/lang/StringLatin1$CharsSpliterator")] 3

def k9m0 : Method := { name := "<init>", desc := "()V", sig := { parameters := [], returnType := none }, accessFlags := 0, code := none }
def k9c1 : Code := { maxStack := 2, maxLocals := 1, code := jdk_43_method_4_code, exceptionTable := #[], attributes := #[] }
def k9m1 : Method := { name := "canEncode", desc := "(I)Z", sig := { parameters := [.int], returnType := some .boolean }, accessFlags := 9, code := some k9c1 }
def k9c2 : Code := { maxStack := 4, maxLocals := 4, code := jdk_43_method_22_code, exceptionTable := #[], attributes := #[] }
def k9m2 : Method := { name := "indexOf", desc := "([BIII)I", sig := { parameters := [(.array .byte), .int, .int, .int], returnType := some .int }, accessFlags := 9, code := some k9c2 }
/-- java/lang/StringLatin1 -/
def k9 : Class := { plain "java/lang/StringLatin1" (some 0) with
  accessFlags := 48
  interfaces := #[]
  cf := some (fileOf pool9 14 #[.nestMembers #[390, 221]] #[{ accessFlags := 0, nameIndex := 7, descriptorIndex := 8, attributes := #[] }, { accessFlags := 9, nameIndex := 90, descriptorIndex := 91, attributes := #[] }, { accessFlags := 9, nameIndex := 101, descriptorIndex := 98, attributes := #[] }] 48 4 #[] #[{ accessFlags := 4120, nameIndex := 121, descriptorIndex := 122, attributes := #[] }])
  fields := #[{ name := "$assertionsDisabled", type := .boolean, accessFlags := 4120, slot := 0, constantValue := 0 }]
  methods := #[k9m0, k9m1, k9m2]
  instanceTypes := #[]
  staticTypes := #[.boolean]
  resolved := Array.replicate 395 none
  statics := none }

def pool10 : Array CpInfo := pool [(3, .class_ 4), (0, u "java/lang/String"), (1, .class_ 8), (1, u "java/lang/Object"), (0, u "<init>"), (0, u "()V"), (0, .methodref 12 13), (0, .class_ 14), (0, .nameAndType 15 16), (0, u "java/lang/StringUTF16"), (0, u "newBytesLength"), (0, u "(I)I"), (3, .integer 1073741823), (23, .fieldref 12 45), (0, .nameAndType 46 47), (0, u "$assertionsDisabled"), (0, u "Z"), (0, .methodref 12 49), (0, .nameAndType 50 51), (0, u "length"), (0, u "([B)I"), (7, .fieldref 12 60), (0, .nameAndType 61 62), (0, u "HI_BYTE_SHIFT"), (0, u "I"), (0, .fieldref 12 64), (0, .nameAndType 65 62), (0, u "LO_BYTE_SHIFT"), (5, .methodref 12 72), (0, .nameAndType 73 74), (0, u "getChar"), (0, u "([BI)C"), (21, .methodref 12 97), (0, .nameAndType 98 99), (0, u "checkBoundsBeginEnd"), (0, u "(II[B)V"), (7, .methodref 12 108), (0, .nameAndType 109 110), (0, u "newBytesFor"), (0, u "(I)[B"), (0, .methodref 12 112), (0, .nameAndType 113 114), (0, u "putChar"), (0, u "([BII)V"), (0, .methodref 12 116), (0, .nameAndType 117 118), (0, u "compress"), (0, u "([CI[BII)I"), (0, .methodref 12 120), (0, .nameAndType 121 122), (0, u "toBytes"), (0, u "([CII)[B"), (60, .methodref 184 185), (0, .class_ 186), (0, .nameAndType 187 188), (0, u "java/lang/Math"), (0, u "min"), (0, u "(II)I"), (35, .methodref 184 225), (0, .nameAndType 226 188), (0, u "max"), (0, .integer 65536), (0, .methodref 12 229), (0, .nameAndType 230 231), (0, u "indexOfChar"), (0, u "([BIII)I"), (9, .methodref 3 242), (0, .nameAndType 98 243), (0, u "(III)V"), (0, .methodref 12 245), (0, .nameAndType 246 231), (0, u "indexOfCharUnsafe"), (14, u "coderFromArrayLen"), (0, u "([BI)B"), (5, u "indexOf"), (100, .class_ 371), (1, u "java/lang/StringUTF16$LinesSpliterator"), (58, u "MAX_LENGTH"), (196, .class_ 628), (0, u "java/lang/StringUTF16$CodePointsSpliterator"), (0, .class_ 630), (0, u "java/lang/StringUTF16$CharsSpliterator")] 4

def k10m0 : Method := { name := "<init>", desc := "()V", sig := { parameters := [], returnType := none }, accessFlags := 0, code := none }
def k10c1 : Code := { maxStack := 1, maxLocals := 1, code := jdk_52_method_2_code, exceptionTable := #[], attributes := #[] }
def k10m1 : Method := { name := "newBytesFor", desc := "(I)[B", sig := { parameters := [.int], returnType := some (.array .byte) }, accessFlags := 9, code := some k10c1 }
def k10c2 : Code := { maxStack := 4, maxLocals := 1, code := jdk_52_method_3_code, exceptionTable := #[], attributes := #[] }
def k10m2 : Method := { name := "newBytesLength", desc := "(I)I", sig := { parameters := [.int], returnType := some .int }, accessFlags := 9, code := some k10c2 }
def k10c3 : Code := { maxStack := 4, maxLocals := 3, code := jdk_52_method_4_code, exceptionTable := #[], attributes := #[] }
def k10m3 : Method := { name := "putChar", desc := "([BII)V", sig := { parameters := [(.array .byte), .int, .int], returnType := none }, accessFlags := 8, code := some k10c3 }
def k10c4 : Code := { maxStack := 3, maxLocals := 2, code := jdk_52_method_5_code, exceptionTable := #[], attributes := #[] }
def k10m4 : Method := { name := "getChar", desc := "([BI)C", sig := { parameters := [(.array .byte), .int], returnType := some .char }, accessFlags := 8, code := some k10c4 }
def k10c5 : Code := { maxStack := 2, maxLocals := 1, code := jdk_52_method_6_code, exceptionTable := #[], attributes := #[] }
def k10m5 : Method := { name := "length", desc := "([B)I", sig := { parameters := [(.array .byte)], returnType := some .int }, accessFlags := 9, code := some k10c5 }
def k10c6 : Code := { maxStack := 4, maxLocals := 5, code := jdk_52_method_14_code, exceptionTable := #[], attributes := #[] }
def k10m6 : Method := { name := "toBytes", desc := "([CII)[B", sig := { parameters := [(.array .char), .int, .int], returnType := some (.array .byte) }, accessFlags := 9, code := some k10c6 }
def k10c7 : Code := { maxStack := 2, maxLocals := 2, code := jdk_52_method_15_code, exceptionTable := #[], attributes := #[] }
def k10m7 : Method := { name := "coderFromArrayLen", desc := "([BI)B", sig := { parameters := [(.array .byte), .int], returnType := some .byte }, accessFlags := 8, code := some k10c7 }
def k10c8 : Code := { maxStack := 5, maxLocals := 6, code := jdk_52_method_16_code, exceptionTable := #[], attributes := #[] }
def k10m8 : Method := { name := "compress", desc := "([CII)[B", sig := { parameters := [(.array .char), .int, .int], returnType := some (.array .byte) }, accessFlags := 9, code := some k10c8 }
def k10c9 : Code := { maxStack := 3, maxLocals := 7, code := jdk_52_method_21_code, exceptionTable := #[], attributes := #[] }
def k10m9 : Method := { name := "compress", desc := "([CI[BII)I", sig := { parameters := [(.array .char), .int, (.array .byte), .int, .int], returnType := some .int }, accessFlags := 9, code := some k10c9 }
def k10c10 : Code := { maxStack := 4, maxLocals := 4, code := jdk_52_method_40_code, exceptionTable := #[], attributes := #[] }
def k10m10 : Method := { name := "indexOf", desc := "([BIII)I", sig := { parameters := [(.array .byte), .int, .int, .int], returnType := some .int }, accessFlags := 9, code := some k10c10 }
def k10c11 : Code := { maxStack := 4, maxLocals := 4, code := jdk_52_method_47_code, exceptionTable := #[], attributes := #[] }
def k10m11 : Method := { name := "indexOfChar", desc := "([BIII)I", sig := { parameters := [(.array .byte), .int, .int, .int], returnType := some .int }, accessFlags := 10, code := some k10c11 }
def k10c12 : Code := { maxStack := 2, maxLocals := 5, code := jdk_52_method_48_code, exceptionTable := #[], attributes := #[] }
def k10m12 : Method := { name := "indexOfCharUnsafe", desc := "([BIII)I", sig := { parameters := [(.array .byte), .int, .int, .int], returnType := some .int }, accessFlags := 10, code := some k10c12 }
def k10c13 : Code := { maxStack := 3, maxLocals := 3, code := jdk_52_method_93_code, exceptionTable := #[], attributes := #[] }
def k10m13 : Method := { name := "checkBoundsBeginEnd", desc := "(II[B)V", sig := { parameters := [.int, .int, (.array .byte)], returnType := none }, accessFlags := 9, code := some k10c13 }
/-- java/lang/StringUTF16 -/
def k10 : Class := { plain "java/lang/StringUTF16" (some 0) with
  accessFlags := 48
  interfaces := #[]
  cf := some (fileOf pool10 12 #[.nestMembers #[627, 629, 369]] #[{ accessFlags := 0, nameIndex := 9, descriptorIndex := 10, attributes := #[] }, { accessFlags := 9, nameIndex := 109, descriptorIndex := 110, attributes := #[] }, { accessFlags := 9, nameIndex := 15, descriptorIndex := 16, attributes := #[] }, { accessFlags := 8, nameIndex := 113, descriptorIndex := 114, attributes := #[] }, { accessFlags := 8, nameIndex := 73, descriptorIndex := 74, attributes := #[] }, { accessFlags := 9, nameIndex := 50, descriptorIndex := 51, attributes := #[] }, { accessFlags := 9, nameIndex := 121, descriptorIndex := 122, attributes := #[] }, { accessFlags := 8, nameIndex := 261, descriptorIndex := 262, attributes := #[] }, { accessFlags := 9, nameIndex := 117, descriptorIndex := 122, attributes := #[] }, { accessFlags := 9, nameIndex := 117, descriptorIndex := 118, attributes := #[] }, { accessFlags := 9, nameIndex := 268, descriptorIndex := 231, attributes := #[] }, { accessFlags := 10, nameIndex := 230, descriptorIndex := 231, attributes := #[] }, { accessFlags := 10, nameIndex := 246, descriptorIndex := 231, attributes := #[] }, { accessFlags := 9, nameIndex := 98, descriptorIndex := 99, attributes := #[] }] 48 6 #[] #[{ accessFlags := 26, nameIndex := 61, descriptorIndex := 62, attributes := #[] }, { accessFlags := 26, nameIndex := 65, descriptorIndex := 62, attributes := #[] }, { accessFlags := 24, nameIndex := 430, descriptorIndex := 62, attributes := #[] }, { accessFlags := 4120, nameIndex := 46, descriptorIndex := 47, attributes := #[] }])
  fields := #[{ name := "HI_BYTE_SHIFT", type := .int, accessFlags := 26, slot := 0, constantValue := 0 }, { name := "LO_BYTE_SHIFT", type := .int, accessFlags := 26, slot := 1, constantValue := 0 }, { name := "MAX_LENGTH", type := .int, accessFlags := 24, slot := 2, constantValue := 0 }, { name := "$assertionsDisabled", type := .boolean, accessFlags := 4120, slot := 3, constantValue := 0 }]
  methods := #[k10m0, k10m1, k10m2, k10m3, k10m4, k10m5, k10m6, k10m7, k10m8, k10m9, k10m10, k10m11, k10m12, k10m13]
  instanceTypes := #[]
  staticTypes := #[.int, .int, .int, .boolean]
  resolved := Array.replicate 635 none
  statics := some 1 }

def pool11 : Array CpInfo := pool [(1, .class_ 2), (0, u "java/lang/Math"), (1, .class_ 6), (1, u "java/lang/Object"), (0, u "<init>"), (0, u "()V"), (89, .class_ 100), (1, u "java/lang/Math$RandomNumberGeneratorHolder"), (71, u "negativeZeroFloatBits"), (0, u "J"), (2, u "negativeZeroDoubleBits"), (21, u "max"), (2, u "min"), (43, u "$assertionsDisabled"), (0, u "Z"), (88, u "(II)I"), (2, u "twoToTheDoubleScaleDown"), (0, u "D"), (4, u "twoToTheDoubleScaleUp"), (9, u "E"), (3, u "PI"), (2, u "TAU"), (2, u "DEGREES_TO_RADIANS"), (0, u "RADIANS_TO_DEGREES")] 94

def k11m0 : Method := { name := "<init>", desc := "()V", sig := { parameters := [], returnType := none }, accessFlags := 2, code := none }
def k11c1 : Code := { maxStack := 2, maxLocals := 2, code := jdk_29_method_65_code, exceptionTable := #[], attributes := #[] }
def k11m1 : Method := { name := "max", desc := "(II)I", sig := { parameters := [.int, .int], returnType := some .int }, accessFlags := 9, code := some k11c1 }
def k11c2 : Code := { maxStack := 2, maxLocals := 2, code := jdk_29_method_69_code, exceptionTable := #[], attributes := #[] }
def k11m2 : Method := { name := "min", desc := "(II)I", sig := { parameters := [.int, .int], returnType := some .int }, accessFlags := 9, code := some k11c2 }
/-- java/lang/Math -/
def k11 : Class := { plain "java/lang/Math" (some 0) with
  accessFlags := 49
  interfaces := #[]
  cf := some (fileOf pool11 1 #[.nestMembers #[98]] #[{ accessFlags := 2, nameIndex := 7, descriptorIndex := 8, attributes := #[] }, { accessFlags := 9, nameIndex := 198, descriptorIndex := 335, attributes := #[] }, { accessFlags := 9, nameIndex := 201, descriptorIndex := 335, attributes := #[] }] 49 4 #[] #[{ accessFlags := 25, nameIndex := 354, descriptorIndex := 339, attributes := #[] }, { accessFlags := 25, nameIndex := 358, descriptorIndex := 339, attributes := #[] }, { accessFlags := 25, nameIndex := 361, descriptorIndex := 339, attributes := #[] }, { accessFlags := 26, nameIndex := 364, descriptorIndex := 339, attributes := #[] }, { accessFlags := 26, nameIndex := 365, descriptorIndex := 339, attributes := #[] }, { accessFlags := 26, nameIndex := 172, descriptorIndex := 173, attributes := #[] }, { accessFlags := 26, nameIndex := 176, descriptorIndex := 173, attributes := #[] }, { accessFlags := 8, nameIndex := 344, descriptorIndex := 339, attributes := #[] }, { accessFlags := 8, nameIndex := 338, descriptorIndex := 339, attributes := #[] }, { accessFlags := 4120, nameIndex := 245, descriptorIndex := 246, attributes := #[] }])
  fields := #[{ name := "E", type := .double, accessFlags := 25, slot := 0, constantValue := 0 }, { name := "PI", type := .double, accessFlags := 25, slot := 1, constantValue := 0 }, { name := "TAU", type := .double, accessFlags := 25, slot := 2, constantValue := 0 }, { name := "DEGREES_TO_RADIANS", type := .double, accessFlags := 26, slot := 3, constantValue := 0 }, { name := "RADIANS_TO_DEGREES", type := .double, accessFlags := 26, slot := 4, constantValue := 0 }, { name := "negativeZeroFloatBits", type := .long, accessFlags := 26, slot := 5, constantValue := 0 }, { name := "negativeZeroDoubleBits", type := .long, accessFlags := 26, slot := 6, constantValue := 0 }, { name := "twoToTheDoubleScaleUp", type := .double, accessFlags := 8, slot := 7, constantValue := 0 }, { name := "twoToTheDoubleScaleDown", type := .double, accessFlags := 8, slot := 8, constantValue := 0 }, { name := "$assertionsDisabled", type := .boolean, accessFlags := 4120, slot := 9, constantValue := 0 }]
  methods := #[k11m0, k11m1, k11m2]
  instanceTypes := #[]
  staticTypes := #[.double, .double, .double, .double, .double, .long, .long, .double, .double, .boolean]
  resolved := Array.replicate 460 none
  statics := none }

def pool12 : Array CpInfo := pool [(2, .class_ 4), (1, u "java/lang/Object"), (0, u "<init>"), (0, u "()V"), (17, .class_ 26), (1, u "jdk/internal/util/Preconditions"), (20, u "checkFromToIndex"), (7, .class_ 56), (0, u "jdk/internal/util/Preconditions$4"), (57, .class_ 115), (0, u "jdk/internal/util/Preconditions$1"), (7, u "SIOOBE_FORMATTER"), (0, u "Ljava/util/function/BiFunction;"), (0, .class_ 126), (0, u "jdk/internal/util/Preconditions$2"), (3, u "AIOOBE_FORMATTER"), (0, .class_ 132), (0, u "jdk/internal/util/Preconditions$3"), (3, u "IOOBE_FORMATTER"), (46, u "(IIILjava/util/function/BiFunction;)I")] 10

def k12m0 : Method := { name := "<init>", desc := "()V", sig := { parameters := [], returnType := none }, accessFlags := 1, code := none }
def k12c1 : Code := { maxStack := 4, maxLocals := 4, code := jdk_41_method_12_code, exceptionTable := #[], attributes := #[] }
def k12m1 : Method := { name := "checkFromToIndex", desc := "(IIILjava/util/function/BiFunction;)I", sig := { parameters := [.int, .int, .int, (.object "java/util/function/BiFunction")], returnType := some .int }, accessFlags := 9, code := some k12c1 }
/-- jdk/internal/util/Preconditions -/
def k12 : Class := { plain "jdk/internal/util/Preconditions" (some 0) with
  accessFlags := 33
  interfaces := #[]
  cf := some (fileOf pool12 24 #[.nestMembers #[55, 131, 125, 114]] #[{ accessFlags := 1, nameIndex := 5, descriptorIndex := 6, attributes := #[] }, { accessFlags := 9, nameIndex := 47, descriptorIndex := 183, attributes := #[] }] 33 2 #[] #[{ accessFlags := 25, nameIndex := 123, descriptorIndex := 124, attributes := #[] }, { accessFlags := 25, nameIndex := 130, descriptorIndex := 124, attributes := #[] }, { accessFlags := 25, nameIndex := 136, descriptorIndex := 124, attributes := #[] }])
  fields := #[{ name := "SIOOBE_FORMATTER", type := (.object "java/util/function/BiFunction"), accessFlags := 25, slot := 0, constantValue := 0 }, { name := "AIOOBE_FORMATTER", type := (.object "java/util/function/BiFunction"), accessFlags := 25, slot := 1, constantValue := 0 }, { name := "IOOBE_FORMATTER", type := (.object "java/util/function/BiFunction"), accessFlags := 25, slot := 2, constantValue := 0 }]
  methods := #[k12m0, k12m1]
  instanceTypes := #[]
  staticTypes := #[(.object "java/util/function/BiFunction"), (.object "java/util/function/BiFunction"), (.object "java/util/function/BiFunction")]
  resolved := Array.replicate 194 none
  statics := some 2 }

def pool13 : Array CpInfo := pool [(9, u "<init>"), (6, .class_ 18), (1, u "java/lang/Object"), (0, u "()V"), (1, .class_ 23), (1, u "jdk/internal/util/ArraysSupport"), (0, u "LOG2_ARRAY_LONG_INDEX_SCALE"), (0, u "I"), (2, u "U"), (0, u "Ljdk/internal/misc/Unsafe;"), (8, u "BIG_ENDIAN"), (0, u "Z"), (8, u "LOG2_BYTE_BIT_SIZE"), (4, u "LOG2_ARRAY_INT_INDEX_SCALE"), (54, u "JLA"), (0, u "Ljdk/internal/access/JavaLangAccess;"), (11, u "LOG2_ARRAY_BOOLEAN_INDEX_SCALE"), (9, u "LOG2_ARRAY_BYTE_INDEX_SCALE"), (5, u "LOG2_ARRAY_CHAR_INDEX_SCALE"), (5, u "LOG2_ARRAY_SHORT_INDEX_SCALE"), (18, u "LOG2_ARRAY_FLOAT_INDEX_SCALE"), (24, u "LOG2_ARRAY_DOUBLE_INDEX_SCALE"), (89, u "T_BOOLEAN"), (2, u "T_CHAR"), (1, u "T_FLOAT"), (1, u "T_DOUBLE"), (1, u "T_BYTE"), (1, u "T_SHORT"), (1, u "T_INT"), (1, u "T_LONG"), (1, u "SOFT_MAX_ARRAY_LENGTH")] 83

def k13m0 : Method := { name := "<init>", desc := "()V", sig := { parameters := [], returnType := none }, accessFlags := 2, code := none }
/-- jdk/internal/util/ArraysSupport -/
def k13 : Class := { plain "jdk/internal/util/ArraysSupport" (some 0) with
  accessFlags := 33
  interfaces := #[]
  cf := some (fileOf pool13 21 #[] #[{ accessFlags := 2, nameIndex := 9, descriptorIndex := 19, attributes := #[] }] 33 16 #[] #[{ accessFlags := 24, nameIndex := 28, descriptorIndex := 29, attributes := #[] }, { accessFlags := 26, nameIndex := 38, descriptorIndex := 39, attributes := #[] }, { accessFlags := 25, nameIndex := 121, descriptorIndex := 25, attributes := #[] }, { accessFlags := 25, nameIndex := 131, descriptorIndex := 25, attributes := #[] }, { accessFlags := 25, nameIndex := 137, descriptorIndex := 25, attributes := #[] }, { accessFlags := 25, nameIndex := 143, descriptorIndex := 25, attributes := #[] }, { accessFlags := 25, nameIndex := 53, descriptorIndex := 25, attributes := #[] }, { accessFlags := 25, nameIndex := 24, descriptorIndex := 25, attributes := #[] }, { accessFlags := 25, nameIndex := 162, descriptorIndex := 25, attributes := #[] }, { accessFlags := 25, nameIndex := 187, descriptorIndex := 25, attributes := #[] }, { accessFlags := 26, nameIndex := 48, descriptorIndex := 25, attributes := #[] }, { accessFlags := 25, nameIndex := 277, descriptorIndex := 25, attributes := #[] }, { accessFlags := 25, nameIndex := 280, descriptorIndex := 25, attributes := #[] }, { accessFlags := 25, nameIndex := 282, descriptorIndex := 25, attributes := #[] }, { accessFlags := 25, nameIndex := 284, descriptorIndex := 25, attributes := #[] }, { accessFlags := 25, nameIndex := 286, descriptorIndex := 25, attributes := #[] }, { accessFlags := 25, nameIndex := 288, descriptorIndex := 25, attributes := #[] }, { accessFlags := 25, nameIndex := 290, descriptorIndex := 25, attributes := #[] }, { accessFlags := 25, nameIndex := 292, descriptorIndex := 25, attributes := #[] }, { accessFlags := 26, nameIndex := 108, descriptorIndex := 109, attributes := #[] }, { accessFlags := 25, nameIndex := 294, descriptorIndex := 25, attributes := #[] }])
  fields := #[{ name := "U", type := (.object "jdk/internal/misc/Unsafe"), accessFlags := 24, slot := 0, constantValue := 0 }, { name := "BIG_ENDIAN", type := .boolean, accessFlags := 26, slot := 1, constantValue := 0 }, { name := "LOG2_ARRAY_BOOLEAN_INDEX_SCALE", type := .int, accessFlags := 25, slot := 2, constantValue := 0 }, { name := "LOG2_ARRAY_BYTE_INDEX_SCALE", type := .int, accessFlags := 25, slot := 3, constantValue := 0 }, { name := "LOG2_ARRAY_CHAR_INDEX_SCALE", type := .int, accessFlags := 25, slot := 4, constantValue := 0 }, { name := "LOG2_ARRAY_SHORT_INDEX_SCALE", type := .int, accessFlags := 25, slot := 5, constantValue := 0 }, { name := "LOG2_ARRAY_INT_INDEX_SCALE", type := .int, accessFlags := 25, slot := 6, constantValue := 0 }, { name := "LOG2_ARRAY_LONG_INDEX_SCALE", type := .int, accessFlags := 25, slot := 7, constantValue := 0 }, { name := "LOG2_ARRAY_FLOAT_INDEX_SCALE", type := .int, accessFlags := 25, slot := 8, constantValue := 0 }, { name := "LOG2_ARRAY_DOUBLE_INDEX_SCALE", type := .int, accessFlags := 25, slot := 9, constantValue := 0 }, { name := "LOG2_BYTE_BIT_SIZE", type := .int, accessFlags := 26, slot := 10, constantValue := 0 }, { name := "T_BOOLEAN", type := .int, accessFlags := 25, slot := 11, constantValue := 0 }, { name := "T_CHAR", type := .int, accessFlags := 25, slot := 12, constantValue := 0 }, { name := "T_FLOAT", type := .int, accessFlags := 25, slot := 13, constantValue := 0 }, { name := "T_DOUBLE", type := .int, accessFlags := 25, slot := 14, constantValue := 0 }, { name := "T_BYTE", type := .int, accessFlags := 25, slot := 15, constantValue := 0 }, { name := "T_SHORT", type := .int, accessFlags := 25, slot := 16, constantValue := 0 }, { name := "T_INT", type := .int, accessFlags := 25, slot := 17, constantValue := 0 }, { name := "T_LONG", type := .int, accessFlags := 25, slot := 18, constantValue := 0 }, { name := "JLA", type := (.object "jdk/internal/access/JavaLangAccess"), accessFlags := 26, slot := 19, constantValue := 0 }, { name := "SOFT_MAX_ARRAY_LENGTH", type := .int, accessFlags := 25, slot := 20, constantValue := 0 }]
  methods := #[k13m0]
  instanceTypes := #[]
  staticTypes := #[(.object "jdk/internal/misc/Unsafe"), .boolean, .int, .int, .int, .int, .int, .int, .int, .int, .int, .int, .int, .int, .int, .int, .int, .int, .int, (.object "jdk/internal/access/JavaLangAccess"), .int]
  resolved := Array.replicate 378 none
  statics := none }

def pool14 : Array CpInfo := pool [(1, u "java/lang/Cloneable"), (0, .class_ 1), (0, u "java/lang/Object"), (0, .class_ 3)] 3

/-- java/lang/Cloneable -/
def k14 : Class := { plain "java/lang/Cloneable" (some 0) with
  accessFlags := 1537
  interfaces := #[]
  cf := some (fileOf pool14 2 #[] #[] 1537 4 #[] #[])
  fields := #[]
  methods := #[]
  instanceTypes := #[]
  staticTypes := #[]
  resolved := Array.replicate 8 none
  statics := none }

/-- the primitive byte -/
def k15 : Class := { plain "byte" none with kind := .primitive 'B', accessFlags := 0x411 }
/-- [B -/
def k16 : Class := { plain "[B" (some 0) with kind := .array 15 .byte, interfaces := #[14, 2], accessFlags := 1041 }

/-- the primitive char -/
def k17 : Class := { plain "char" none with kind := .primitive 'C', accessFlags := 0x411 }
/-- [C -/
def k18 : Class := { plain "[C" (some 0) with kind := .array 17 .char, interfaces := #[14, 2], accessFlags := 1041 }

/-- the primitive int -/
def k19 : Class := { plain "int" none with kind := .primitive 'I', accessFlags := 0x411 }
/-- [I -/
def k20 : Class := { plain "[I" (some 0) with kind := .array 19 .int, interfaces := #[14, 2], accessFlags := 1041 }

def heap : Heap := #[{ cls := 7, slots := #[.long 0, .int 1, .null, .int 0, .null, .int 0, .int 0], vm := .statics 7 },
  { cls := 10, slots := #[.int 0, .int 8, .int 0, .int 1], vm := .statics 10 },
  { cls := 12, slots := #[.null, .null, .null], vm := .statics 12 }]
def classes : Array Class := #[k0, k1, k2, k3, k4, k5, k6, k7, k8, k9, k10, k11, k12, k13, k14, k15, k16, k17, k18, k19, k20]
def interned : List (Array UInt16 × Addr) := []
def slotsUsed : Nat := 14
def theMethod : MethodId := ⟨1, 2⟩
def args0 : Array Value := #[.int 5, .int 6, .int 7, .int 8]
def aboutOver (below : List Frame) : State where
  vm := { classes := classes, interned := interned.toArray }
  heap := heap
  slotsUsed := slotsUsed
  threads := #[{ frames := .invoking theMethod args0 :: below }]
def below0 : List Frame := [.native { method := ⟨0, 0⟩, args := #[] }]
def about1 : State := aboutOver below0
def p0 : Program := .bare "" "" ""
def e0 : Env := launch0.env 0 0 0
theorem w_frames : about1.frames = Frame.invoking theMethod args0 :: below0 := rfl
set_option maxRecDepth 65536 in
theorem w_args : argsFit about1.vm theMethod args0 = true := by decide +kernel
set_option maxRecDepth 65536 in
theorem w_heap : heapFits about1 = true := by decide +kernel
set_option maxRecDepth 65536 in
theorem w_runnable : about1.curStatus? = some .runnable := by decide +kernel
set_option maxRecDepth 65536 in
theorem w_alone : about1.alone = true := by decide +kernel
set_option maxRecDepth 65536 in
theorem w_named : about1.methodNamed? x = some theMethod := by decide +kernel
set_option maxRecDepth 65536 in
theorem w_hears : about1.hears theMethod below0 = true := by decide +kernel
set_option maxRecDepth 65536 in
theorem w_ripe : about1.ripe theMethod args0 below0 = true := by decide +kernel
theorem w_running : about1.status = .running := rfl
set_option maxRecDepth 65536 in
theorem w_room : about1.hasRoom e0.platform room_1 = true :=
  launch0.hasRoom_least _ room_1 (by decide +kernel) (by decide +kernel) (by decide +kernel) (by decide +kernel) (by decide +kernel) (by decide +kernel)
theorem allAtoms_all (ts : List Jvm.Cond) (a : Array Jvm.Value) (st : Jvm.State) : (allAtoms ts).before a st = ts.all (fun c => c.before a st) := by
  induction ts with
  | nil => rfl
  | cons c t ih =>
    show (Jvm.Cond.and c (allAtoms t)).before a st = _
    rw [Jvm.Cond.before_and, ih, List.all_cons]
def words1 : List Jvm.Cond := Jvm.Cond.code x code maxLocals ret :: tables_1
/-- a 'code' word, met by the world's own term for the bytes: nothing is compared byte by byte -/
theorem code_word {y : MethodName} {bytes : ByteArray} {mx : Nat} {rt : Option FieldType} {a : Array Value} {s : State} {m : MethodId} {meth : Method} {c : Code} (h1 : s.methodNamed? y = some m) (h2 : s.vm.method? m = some meth) (h3 : meth.code = some c) (h4 : c.code = bytes)
    (h5 : (c.maxLocals == mx && c.exceptionTable.isEmpty && decide (c.maxStack ≤ mostOperands) && decide (meth.sig.returnType = rt) && !meth.locks && decide (parseMethodDescriptor y.desc = some meth.sig)) = true) : (Jvm.Cond.code y bytes mx rt).before a s = true := by
  simp only [Bool.and_eq_true, beq_iff_eq, Bool.not_eq_true', decide_eq_true_eq] at h5
  obtain ⟨⟨⟨⟨⟨g1, g2⟩, g3⟩, g4⟩, g5⟩, g6⟩ := h5
  simp [Cond.before, Cond.holds, Cond.value, h1, h2, h3, h4, g1, g2, g3, g4, g5, g6]
def isCode : Jvm.Cond → Bool
  | .code _ _ _ _ => true
  | _ => false
theorem all_split {L : List Jvm.Cond} {P : Jvm.Cond → Bool} (h1 : L.all (fun c => isCode c || P c) = true) (h2 : ∀ c ∈ L.filter isCode, P c = true) : L.all P = true := by
  refine List.all_eq_true.mpr fun c hc => ?_
  have h := List.all_eq_true.mp h1 c hc
  rcases Bool.eq_false_or_eq_true (isCode c) with hi | hi
  · exact h2 c (List.mem_filter.mpr ⟨hc, hi⟩)
  · simpa [hi] using h
set_option maxRecDepth 65536 in
theorem w_c0 : (Jvm.Cond.code x code maxLocals ret).before args0 about1 = true := code_word (m := ⟨1, 2⟩) (meth := k1m2) (c := k1c2) (by decide +kernel) rfl rfl rfl (by decide +kernel)
set_option maxRecDepth 65536 in
theorem w_c1 : (Jvm.Cond.code ({ cls := "io/keyvouch/cli/ArgumentsUndecodedPinLaw", name := "draw", desc := "(I)C" } : Jvm.MethodName) method_2_code (1 : Nat) (Option.some Jvm.ClassFile.FieldType.char)).before args0 about1 = true := code_word (m := ⟨1, 1⟩) (meth := k1m1) (c := k1c1) (by decide +kernel) rfl rfl rfl (by decide +kernel)
set_option maxRecDepth 65536 in
theorem w_c2 : (Jvm.Cond.code ({ cls := "java/lang/String", name := "<init>", desc := "([C)V" } : Jvm.MethodName) jdk_42_method_3_code (2 : Nat) (Option.none : Option Jvm.ClassFile.FieldType)).before args0 about1 = true := code_word (m := ⟨7, 1⟩) (meth := k7m1) (c := k7c1) (by decide +kernel) rfl rfl rfl (by decide +kernel)
set_option maxRecDepth 65536 in
theorem w_c3 : (Jvm.Cond.code ({ cls := "java/lang/String", name := "<init>", desc := "([CIILjava/lang/Void;)V" } : Jvm.MethodName) jdk_42_method_149_code (6 : Nat) (Option.none : Option Jvm.ClassFile.FieldType)).before args0 about1 = true := code_word (m := ⟨7, 5⟩) (meth := k7m5) (c := k7c5) (by decide +kernel) rfl rfl rfl (by decide +kernel)
set_option maxRecDepth 65536 in
theorem w_c4 : (Jvm.Cond.code ({ cls := "java/lang/Object", name := "<init>", desc := "()V" } : Jvm.MethodName) object_method_1_code (1 : Nat) (Option.none : Option Jvm.ClassFile.FieldType)).before args0 about1 = true := code_word (m := ⟨0, 0⟩) (meth := k0m0) (c := k0c0) (by decide +kernel) rfl rfl rfl (by decide +kernel)
set_option maxRecDepth 65536 in
theorem w_c5 : (Jvm.Cond.code ({ cls := "io/keyvouch/cli/Arguments", name := "undecoded", desc := "(Ljava/lang/String;)Z" } : Jvm.MethodName) prog_2_method_2_code (1 : Nat) (Option.some Jvm.ClassFile.FieldType.boolean)).before args0 about1 = true := code_word (m := ⟨8, 1⟩) (meth := k8m1) (c := k8c1) (by decide +kernel) rfl rfl rfl (by decide +kernel)
set_option maxRecDepth 65536 in
theorem w_c6 : (Jvm.Cond.code ({ cls := "java/lang/String", name := "indexOf", desc := "(I)I" } : Jvm.MethodName) jdk_42_method_79_code (2 : Nat) (Option.some Jvm.ClassFile.FieldType.int)).before args0 about1 = true := code_word (m := ⟨7, 3⟩) (meth := k7m3) (c := k7c3) (by decide +kernel) rfl rfl rfl (by decide +kernel)
set_option maxRecDepth 65536 in
theorem w_c7 : (Jvm.Cond.code ({ cls := "java/lang/String", name := "indexOf", desc := "(II)I" } : Jvm.MethodName) jdk_42_method_80_code (3 : Nat) (Option.some Jvm.ClassFile.FieldType.int)).before args0 about1 = true := code_word (m := ⟨7, 4⟩) (meth := k7m4) (c := k7c4) (by decide +kernel) rfl rfl rfl (by decide +kernel)
set_option maxRecDepth 65536 in
theorem w_c8 : (Jvm.Cond.code ({ cls := "java/lang/String", name := "isLatin1", desc := "()Z" } : Jvm.MethodName) jdk_42_method_154_code (1 : Nat) (Option.some Jvm.ClassFile.FieldType.boolean)).before args0 about1 = true := code_word (m := ⟨7, 7⟩) (meth := k7m7) (c := k7c7) (by decide +kernel) rfl rfl rfl (by decide +kernel)
set_option maxRecDepth 65536 in
theorem w_c9 : (Jvm.Cond.code ({ cls := "java/lang/String", name := "length", desc := "()I" } : Jvm.MethodName) jdk_42_method_54_code (1 : Nat) (Option.some Jvm.ClassFile.FieldType.int)).before args0 about1 = true := code_word (m := ⟨7, 2⟩) (meth := k7m2) (c := k7c2) (by decide +kernel) rfl rfl rfl (by decide +kernel)
set_option maxRecDepth 65536 in
theorem w_c10 : (Jvm.Cond.code ({ cls := "java/lang/String", name := "coder", desc := "()B" } : Jvm.MethodName) jdk_42_method_152_code (1 : Nat) (Option.some Jvm.ClassFile.FieldType.byte)).before args0 about1 = true := code_word (m := ⟨7, 6⟩) (meth := k7m6) (c := k7c6) (by decide +kernel) rfl rfl rfl (by decide +kernel)
set_option maxRecDepth 65536 in
theorem w_c11 : (Jvm.Cond.code ({ cls := "java/lang/StringLatin1", name := "indexOf", desc := "([BIII)I" } : Jvm.MethodName) jdk_43_method_22_code (4 : Nat) (Option.some Jvm.ClassFile.FieldType.int)).before args0 about1 = true := code_word (m := ⟨9, 2⟩) (meth := k9m2) (c := k9c2) (by decide +kernel) rfl rfl rfl (by decide +kernel)
set_option maxRecDepth 65536 in
theorem w_c12 : (Jvm.Cond.code ({ cls := "java/lang/StringLatin1", name := "canEncode", desc := "(I)Z" } : Jvm.MethodName) jdk_43_method_4_code (1 : Nat) (Option.some Jvm.ClassFile.FieldType.boolean)).before args0 about1 = true := code_word (m := ⟨9, 1⟩) (meth := k9m1) (c := k9c1) (by decide +kernel) rfl rfl rfl (by decide +kernel)
set_option maxRecDepth 65536 in
theorem w_c13 : (Jvm.Cond.code ({ cls := "java/lang/StringUTF16", name := "compress", desc := "([CII)[B" } : Jvm.MethodName) jdk_52_method_16_code (6 : Nat) (Option.some (Jvm.ClassFile.FieldType.array Jvm.ClassFile.FieldType.byte))).before args0 about1 = true := code_word (m := ⟨10, 8⟩) (meth := k10m8) (c := k10c8) (by decide +kernel) rfl rfl rfl (by decide +kernel)
set_option maxRecDepth 65536 in
theorem w_c14 : (Jvm.Cond.code ({ cls := "java/lang/StringUTF16", name := "compress", desc := "([CI[BII)I" } : Jvm.MethodName) jdk_52_method_21_code (7 : Nat) (Option.some Jvm.ClassFile.FieldType.int)).before args0 about1 = true := code_word (m := ⟨10, 9⟩) (meth := k10m9) (c := k10c9) (by decide +kernel) rfl rfl rfl (by decide +kernel)
set_option maxRecDepth 65536 in
theorem w_c15 : (Jvm.Cond.code ({ cls := "java/lang/StringUTF16", name := "coderFromArrayLen", desc := "([BI)B" } : Jvm.MethodName) jdk_52_method_15_code (2 : Nat) (Option.some Jvm.ClassFile.FieldType.byte)).before args0 about1 = true := code_word (m := ⟨10, 7⟩) (meth := k10m7) (c := k10c7) (by decide +kernel) rfl rfl rfl (by decide +kernel)
set_option maxRecDepth 65536 in
theorem w_c16 : (Jvm.Cond.code ({ cls := "java/lang/StringUTF16", name := "toBytes", desc := "([CII)[B" } : Jvm.MethodName) jdk_52_method_14_code (5 : Nat) (Option.some (Jvm.ClassFile.FieldType.array Jvm.ClassFile.FieldType.byte))).before args0 about1 = true := code_word (m := ⟨10, 6⟩) (meth := k10m6) (c := k10c6) (by decide +kernel) rfl rfl rfl (by decide +kernel)
set_option maxRecDepth 65536 in
theorem w_c17 : (Jvm.Cond.code ({ cls := "java/lang/StringUTF16", name := "newBytesFor", desc := "(I)[B" } : Jvm.MethodName) jdk_52_method_2_code (1 : Nat) (Option.some (Jvm.ClassFile.FieldType.array Jvm.ClassFile.FieldType.byte))).before args0 about1 = true := code_word (m := ⟨10, 1⟩) (meth := k10m1) (c := k10c1) (by decide +kernel) rfl rfl rfl (by decide +kernel)
set_option maxRecDepth 65536 in
theorem w_c18 : (Jvm.Cond.code ({ cls := "java/lang/StringUTF16", name := "newBytesLength", desc := "(I)I" } : Jvm.MethodName) jdk_52_method_3_code (1 : Nat) (Option.some Jvm.ClassFile.FieldType.int)).before args0 about1 = true := code_word (m := ⟨10, 2⟩) (meth := k10m2) (c := k10c2) (by decide +kernel) rfl rfl rfl (by decide +kernel)
set_option maxRecDepth 65536 in
theorem w_c19 : (Jvm.Cond.code ({ cls := "java/lang/StringUTF16", name := "putChar", desc := "([BII)V" } : Jvm.MethodName) jdk_52_method_4_code (3 : Nat) (Option.none : Option Jvm.ClassFile.FieldType)).before args0 about1 = true := code_word (m := ⟨10, 3⟩) (meth := k10m3) (c := k10c3) (by decide +kernel) rfl rfl rfl (by decide +kernel)
set_option maxRecDepth 65536 in
theorem w_c20 : (Jvm.Cond.code ({ cls := "java/lang/StringUTF16", name := "getChar", desc := "([BI)C" } : Jvm.MethodName) jdk_52_method_5_code (2 : Nat) (Option.some Jvm.ClassFile.FieldType.char)).before args0 about1 = true := code_word (m := ⟨10, 4⟩) (meth := k10m4) (c := k10c4) (by decide +kernel) rfl rfl rfl (by decide +kernel)
set_option maxRecDepth 65536 in
theorem w_c21 : (Jvm.Cond.code ({ cls := "java/lang/StringUTF16", name := "indexOf", desc := "([BIII)I" } : Jvm.MethodName) jdk_52_method_40_code (4 : Nat) (Option.some Jvm.ClassFile.FieldType.int)).before args0 about1 = true := code_word (m := ⟨10, 10⟩) (meth := k10m10) (c := k10c10) (by decide +kernel) rfl rfl rfl (by decide +kernel)
set_option maxRecDepth 65536 in
theorem w_c22 : (Jvm.Cond.code ({ cls := "java/lang/Math", name := "max", desc := "(II)I" } : Jvm.MethodName) jdk_29_method_65_code (2 : Nat) (Option.some Jvm.ClassFile.FieldType.int)).before args0 about1 = true := code_word (m := ⟨11, 1⟩) (meth := k11m1) (c := k11c1) (by decide +kernel) rfl rfl rfl (by decide +kernel)
set_option maxRecDepth 65536 in
theorem w_c23 : (Jvm.Cond.code ({ cls := "java/lang/Math", name := "min", desc := "(II)I" } : Jvm.MethodName) jdk_29_method_69_code (2 : Nat) (Option.some Jvm.ClassFile.FieldType.int)).before args0 about1 = true := code_word (m := ⟨11, 2⟩) (meth := k11m2) (c := k11c2) (by decide +kernel) rfl rfl rfl (by decide +kernel)
set_option maxRecDepth 65536 in
theorem w_c24 : (Jvm.Cond.code ({ cls := "java/lang/StringUTF16", name := "indexOfChar", desc := "([BIII)I" } : Jvm.MethodName) jdk_52_method_47_code (4 : Nat) (Option.some Jvm.ClassFile.FieldType.int)).before args0 about1 = true := code_word (m := ⟨10, 11⟩) (meth := k10m11) (c := k10c11) (by decide +kernel) rfl rfl rfl (by decide +kernel)
set_option maxRecDepth 65536 in
theorem w_c25 : (Jvm.Cond.code ({ cls := "java/lang/StringUTF16", name := "checkBoundsBeginEnd", desc := "(II[B)V" } : Jvm.MethodName) jdk_52_method_93_code (3 : Nat) (Option.none : Option Jvm.ClassFile.FieldType)).before args0 about1 = true := code_word (m := ⟨10, 13⟩) (meth := k10m13) (c := k10c13) (by decide +kernel) rfl rfl rfl (by decide +kernel)
set_option maxRecDepth 65536 in
theorem w_c26 : (Jvm.Cond.code ({ cls := "java/lang/StringUTF16", name := "length", desc := "([B)I" } : Jvm.MethodName) jdk_52_method_6_code (1 : Nat) (Option.some Jvm.ClassFile.FieldType.int)).before args0 about1 = true := code_word (m := ⟨10, 5⟩) (meth := k10m5) (c := k10c5) (by decide +kernel) rfl rfl rfl (by decide +kernel)
set_option maxRecDepth 65536 in
theorem w_c27 : (Jvm.Cond.code ({ cls := "java/lang/String", name := "checkBoundsBeginEnd", desc := "(III)V" } : Jvm.MethodName) jdk_42_method_158_code (3 : Nat) (Option.none : Option Jvm.ClassFile.FieldType)).before args0 about1 = true := code_word (m := ⟨7, 8⟩) (meth := k7m8) (c := k7c8) (by decide +kernel) rfl rfl rfl (by decide +kernel)
set_option maxRecDepth 65536 in
theorem w_c28 : (Jvm.Cond.code ({ cls := "jdk/internal/util/Preconditions", name := "checkFromToIndex", desc := "(IIILjava/util/function/BiFunction;)I" } : Jvm.MethodName) jdk_41_method_12_code (4 : Nat) (Option.some Jvm.ClassFile.FieldType.int)).before args0 about1 = true := code_word (m := ⟨12, 1⟩) (meth := k12m1) (c := k12c1) (by decide +kernel) rfl rfl rfl (by decide +kernel)
set_option maxRecDepth 65536 in
theorem w_c29 : (Jvm.Cond.code ({ cls := "java/lang/StringUTF16", name := "indexOfCharUnsafe", desc := "([BIII)I" } : Jvm.MethodName) jdk_52_method_48_code (5 : Nat) (Option.some Jvm.ClassFile.FieldType.int)).before args0 about1 = true := code_word (m := ⟨10, 12⟩) (meth := k10m12) (c := k10c12) (by decide +kernel) rfl rfl rfl (by decide +kernel)
def codes1 : List Jvm.Cond := [Jvm.Cond.code x code maxLocals ret, Jvm.Cond.code ({ cls := "io/keyvouch/cli/ArgumentsUndecodedPinLaw", name := "draw", desc := "(I)C" } : Jvm.MethodName) method_2_code (1 : Nat) (Option.some Jvm.ClassFile.FieldType.char), Jvm.Cond.code ({ cls := "java/lang/String", name := "<init>", desc := "([C)V" } : Jvm.MethodName) jdk_42_method_3_code (2 : Nat) (Option.none : Option Jvm.ClassFile.FieldType), Jvm.Cond.code ({ cls := "java/lang/String", name := "<init>", desc := "([CIILjava/lang/Void;)V" } : Jvm.MethodName) jdk_42_method_149_code (6 : Nat) (Option.none : Option Jvm.ClassFile.FieldType), Jvm.Cond.code ({ cls := "java/lang/Object", name := "<init>", desc := "()V" } : Jvm.MethodName) object_method_1_code (1 : Nat) (Option.none : Option Jvm.ClassFile.FieldType), Jvm.Cond.code ({ cls := "io/keyvouch/cli/Arguments", name := "undecoded", desc := "(Ljava/lang/String;)Z" } : Jvm.MethodName) prog_2_method_2_code (1 : Nat) (Option.some Jvm.ClassFile.FieldType.boolean), Jvm.Cond.code ({ cls := "java/lang/String", name := "indexOf", desc := "(I)I" } : Jvm.MethodName) jdk_42_method_79_code (2 : Nat) (Option.some Jvm.ClassFile.FieldType.int), Jvm.Cond.code ({ cls := "java/lang/String", name := "indexOf", desc := "(II)I" } : Jvm.MethodName) jdk_42_method_80_code (3 : Nat) (Option.some Jvm.ClassFile.FieldType.int), Jvm.Cond.code ({ cls := "java/lang/String", name := "isLatin1", desc := "()Z" } : Jvm.MethodName) jdk_42_method_154_code (1 : Nat) (Option.some Jvm.ClassFile.FieldType.boolean), Jvm.Cond.code ({ cls := "java/lang/String", name := "length", desc := "()I" } : Jvm.MethodName) jdk_42_method_54_code (1 : Nat) (Option.some Jvm.ClassFile.FieldType.int), Jvm.Cond.code ({ cls := "java/lang/String", name := "coder", desc := "()B" } : Jvm.MethodName) jdk_42_method_152_code (1 : Nat) (Option.some Jvm.ClassFile.FieldType.byte), Jvm.Cond.code ({ cls := "java/lang/StringLatin1", name := "indexOf", desc := "([BIII)I" } : Jvm.MethodName) jdk_43_method_22_code (4 : Nat) (Option.some Jvm.ClassFile.FieldType.int), Jvm.Cond.code ({ cls := "java/lang/StringLatin1", name := "canEncode", desc := "(I)Z" } : Jvm.MethodName) jdk_43_method_4_code (1 : Nat) (Option.some Jvm.ClassFile.FieldType.boolean), Jvm.Cond.code ({ cls := "java/lang/StringUTF16", name := "compress", desc := "([CII)[B" } : Jvm.MethodName) jdk_52_method_16_code (6 : Nat) (Option.some (Jvm.ClassFile.FieldType.array Jvm.ClassFile.FieldType.byte)), Jvm.Cond.code ({ cls := "java/lang/StringUTF16", name := "compress", desc := "([CI[BII)I" } : Jvm.MethodName) jdk_52_method_21_code (7 : Nat) (Option.some Jvm.ClassFile.FieldType.int), Jvm.Cond.code ({ cls := "java/lang/StringUTF16", name := "coderFromArrayLen", desc := "([BI)B" } : Jvm.MethodName) jdk_52_method_15_code (2 : Nat) (Option.some Jvm.ClassFile.FieldType.byte), Jvm.Cond.code ({ cls := "java/lang/StringUTF16", name := "toBytes", desc := "([CII)[B" } : Jvm.MethodName) jdk_52_method_14_code (5 : Nat) (Option.some (Jvm.ClassFile.FieldType.array Jvm.ClassFile.FieldType.byte)), Jvm.Cond.code ({ cls := "java/lang/StringUTF16", name := "newBytesFor", desc := "(I)[B" } : Jvm.MethodName) jdk_52_method_2_code (1 : Nat) (Option.some (Jvm.ClassFile.FieldType.array Jvm.ClassFile.FieldType.byte)), Jvm.Cond.code ({ cls := "java/lang/StringUTF16", name := "newBytesLength", desc := "(I)I" } : Jvm.MethodName) jdk_52_method_3_code (1 : Nat) (Option.some Jvm.ClassFile.FieldType.int), Jvm.Cond.code ({ cls := "java/lang/StringUTF16", name := "putChar", desc := "([BII)V" } : Jvm.MethodName) jdk_52_method_4_code (3 : Nat) (Option.none : Option Jvm.ClassFile.FieldType), Jvm.Cond.code ({ cls := "java/lang/StringUTF16", name := "getChar", desc := "([BI)C" } : Jvm.MethodName) jdk_52_method_5_code (2 : Nat) (Option.some Jvm.ClassFile.FieldType.char), Jvm.Cond.code ({ cls := "java/lang/StringUTF16", name := "indexOf", desc := "([BIII)I" } : Jvm.MethodName) jdk_52_method_40_code (4 : Nat) (Option.some Jvm.ClassFile.FieldType.int), Jvm.Cond.code ({ cls := "java/lang/Math", name := "max", desc := "(II)I" } : Jvm.MethodName) jdk_29_method_65_code (2 : Nat) (Option.some Jvm.ClassFile.FieldType.int), Jvm.Cond.code ({ cls := "java/lang/Math", name := "min", desc := "(II)I" } : Jvm.MethodName) jdk_29_method_69_code (2 : Nat) (Option.some Jvm.ClassFile.FieldType.int), Jvm.Cond.code ({ cls := "java/lang/StringUTF16", name := "indexOfChar", desc := "([BIII)I" } : Jvm.MethodName) jdk_52_method_47_code (4 : Nat) (Option.some Jvm.ClassFile.FieldType.int), Jvm.Cond.code ({ cls := "java/lang/StringUTF16", name := "checkBoundsBeginEnd", desc := "(II[B)V" } : Jvm.MethodName) jdk_52_method_93_code (3 : Nat) (Option.none : Option Jvm.ClassFile.FieldType), Jvm.Cond.code ({ cls := "java/lang/StringUTF16", name := "length", desc := "([B)I" } : Jvm.MethodName) jdk_52_method_6_code (1 : Nat) (Option.some Jvm.ClassFile.FieldType.int), Jvm.Cond.code ({ cls := "java/lang/String", name := "checkBoundsBeginEnd", desc := "(III)V" } : Jvm.MethodName) jdk_42_method_158_code (3 : Nat) (Option.none : Option Jvm.ClassFile.FieldType), Jvm.Cond.code ({ cls := "jdk/internal/util/Preconditions", name := "checkFromToIndex", desc := "(IIILjava/util/function/BiFunction;)I" } : Jvm.MethodName) jdk_41_method_12_code (4 : Nat) (Option.some Jvm.ClassFile.FieldType.int), Jvm.Cond.code ({ cls := "java/lang/StringUTF16", name := "indexOfCharUnsafe", desc := "([BIII)I" } : Jvm.MethodName) jdk_52_method_48_code (5 : Nat) (Option.some Jvm.ClassFile.FieldType.int)]
set_option maxRecDepth 65536 in
theorem codes_eq : words1.filter isCode = codes1 := rfl
theorem w_codes : ∀ c ∈ words1.filter isCode, c.before args0 about1 = true := by
  rw [codes_eq]
  intro c hc
  simp only [codes1, List.mem_cons, List.not_mem_nil, or_false] at hc
  rcases hc with rfl | rfl | rfl | rfl | rfl | rfl | rfl | rfl | rfl | rfl | rfl | rfl | rfl | rfl | rfl | rfl | rfl | rfl | rfl | rfl | rfl | rfl | rfl | rfl | rfl | rfl | rfl | rfl | rfl | rfl
  · exact w_c0
  · exact w_c1
  · exact w_c2
  · exact w_c3
  · exact w_c4
  · exact w_c5
  · exact w_c6
  · exact w_c7
  · exact w_c8
  · exact w_c9
  · exact w_c10
  · exact w_c11
  · exact w_c12
  · exact w_c13
  · exact w_c14
  · exact w_c15
  · exact w_c16
  · exact w_c17
  · exact w_c18
  · exact w_c19
  · exact w_c20
  · exact w_c21
  · exact w_c22
  · exact w_c23
  · exact w_c24
  · exact w_c25
  · exact w_c26
  · exact w_c27
  · exact w_c28
  · exact w_c29
set_option maxRecDepth 65536 in
theorem w_t1 : (words1.take 24).all (fun c => isCode c || c.before args0 about1) = true := by decide +kernel
set_option maxRecDepth 65536 in
theorem w_t2 : ((words1.drop 24).take 24).all (fun c => isCode c || c.before args0 about1) = true := by decide +kernel
set_option maxRecDepth 65536 in
theorem w_t3 : (((words1.drop 24).drop 24).take 24).all (fun c => isCode c || c.before args0 about1) = true := by decide +kernel
set_option maxRecDepth 65536 in
theorem w_t4 : ((((words1.drop 24).drop 24).drop 24).take 24).all (fun c => isCode c || c.before args0 about1) = true := by decide +kernel
set_option maxRecDepth 65536 in
theorem w_t5 : (((((words1.drop 24).drop 24).drop 24).drop 24).take 24).all (fun c => isCode c || c.before args0 about1) = true := by decide +kernel
set_option maxRecDepth 65536 in
theorem w_t6 : (((((words1.drop 24).drop 24).drop 24).drop 24).drop 24).all (fun c => isCode c || c.before args0 about1) = true := by decide +kernel
theorem w_tables : (allAtoms (Jvm.Cond.code x code maxLocals ret :: tables_1)).before args0 about1 = true := by
  rw [allAtoms_all]
  show words1.all (fun c => c.before args0 about1) = true
  refine all_split ?_ w_codes
  rw [← List.take_append_drop 24 words1, List.all_append, w_t1, ← List.take_append_drop 24 (words1.drop 24), List.all_append, w_t2, ← List.take_append_drop 24 ((words1.drop 24).drop 24), List.all_append, w_t3, ← List.take_append_drop 24 (((words1.drop 24).drop 24).drop 24), List.all_append, w_t4, ← List.take_append_drop 24 ((((words1.drop 24).drop 24).drop 24).drop 24), List.all_append, w_t5, w_t6]
  rfl
set_option maxRecDepth 65536 in
theorem w_rest : rest_1_c.before args0 about1 = true := by decide +kernel
set_option maxRecDepth 65536 in
theorem w_case : (Jvm.Cond.and given_1 narrow_1).before args0 about1 = true := by decide +kernel
set_option maxRecDepth 65536 in
theorem w_consts : constsHeld consts_1 about1 := Jvm.Lit.constsHeldB_iff.mp (by decide +kernel)
theorem w_applies : (headSpec (Jvm.Cond.code x code maxLocals ret :: tables_1) room_1).applies x e0.platform about1 = true :=
  (Spec.applies_iff w_frames).mpr ⟨w_running, w_runnable, w_alone, w_named, w_hears, w_ripe, w_room, w_tables⟩
theorem atStart : AtStart classFile x code maxLocals ret World_1 tables_1 room_1 Calls_1 rest_1 Pre_1 launch0 p0 e0 about1 theMethod args0 below0 :=
  ⟨lists_1, trivial, launch0.admits_env _ _ _, launch0.least_env, fairChoices_fair.cas, fairChoices_fair.clock, w_frames, w_args, w_heap, w_applies, ⟨w_consts, trivial⟩, w_rest, w_case⟩
end start1
theorem witness_1 : WitnessClaimed_1 := ⟨start1.p0, start1.e0, start1.about1, start1.theMethod, start1.args0, start1.below0, start1.atStart⟩
end Jvm.Pilot.@@N@@
