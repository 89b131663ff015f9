import JvmDerived
import JvmDerived.Pilot.@@N@@Statement
import JvmDerived.Pilot.@@N@@Code
set_option linter.unusedVariables false
set_option linter.unusedSimpArgs false
@@BLOCK:NumsL.lean.txt@@
namespace Jvm.Own
open Jvm Jvm.ClassFile Sem Op Lib Jvm.Free Jvm.Stand Jvm.LawKit Jvm.RoadKit
/-! THE WALKER's LAYER: 'B.G h cl sl g': from every place where the walk stands over the heap h with the frame g (cl cells, sl slots made), the method returns as its contract says. One law a step, backwards. -/
/-- written places lie in cells of ws or in new cells -/
def Frw (ws : List Addr) (k : Nat) (L : List Loc) : Prop := ∀ y ∈ L, y.base ∈ ws ∨ k ≤ y.base
/-- what a contract says at the end -/
def Qw (C : Option Value → Heap → Prop) (ws : List Addr) (h0 : Heap) (v : Option Value) (h : Heap) (L : List Loc) : Prop := C v h ∧ Frw ws h0.size L ∧ Keep h0 h ws
/-- a contract: called with the arguments as over the heap h0, it returns, as C says, writing in ws or in new cells alone -/
def Met (l : Launch) (Z : State) (y : MethodName) (bytes : ByteArray) (maxL : Nat) (ret : Option FieldType) (wds : List Jvm.Cond) (rm : Room) (as : Array Value) (h0 : Heap) (ws : List Addr) (C : Option Value → Heap → Prop) : Prop :=
  MetFree l y (head1 (Jvm.Cond.code y bytes maxL ret :: wds) rm) (fun a U => a = as ∧ Z.Warmed39 U.vm ∧ U.heap = h0) (fun _ _ _ _ _ => True) (fun _ U o U' => ∃ v L, o = .returned v ∧ Qw C ws h0 v U'.heap L ∧ FrameEnd U o U' L rm.cells rm.slots)
/-- what stands still through a body's walk -/
def Base (p : Program) (l : Launch) (e : Env) (R : Room) (s : State) (m : MethodId) (args : Array Value) (below : List Frame) (meth : Method) (c : Code) (Z : State) (y : MethodName) (bytes : ByteArray) (maxL : Nat) (ret : Option FieldType) (h0 : Heap) (ws : List Addr) (C : Option Value → Heap → Prop) : Prop :=
  p.tables.exec = Jvm.exec ∧ c.code = bytes ∧ c.maxLocals = maxL ∧ Z.Warmed39 s.vm ∧ s.vm.findClass y.cls = some m.cls ∧ meth.sig.returnType = ret ∧ meth.locks = false ∧ meth.name = y.name ∧ s.heap = h0
section Walk
variable {p : Program} {l : Launch} {e : Env} {R : Room} {s : State} {m : MethodId} {args : Array Value} {below : List Frame} {meth : Method} {c : Code} {Z : State} {a0 : Array Value} {y : MethodName} {bytes : ByteArray} {maxL : Nat} {ret : Option FieldType} {h0 : Heap} {ws : List Addr} {C : Option Value → Heap → Prop}
/-- from here the method returns as its contract says -/
def Base.G (B : Base p l e R s m args below meth c Z y bytes maxL ret h0 ws C) (h : Heap) (cl sl : Nat) (g : JFrame) : Prop :=
  ∀ (T : State) (locs : List Loc), Stand p l e R s m args below meth c T locs cl sl → Frw ws h0.size locs → T.heap = h → ∃ (t : State) (o : Outcome), Steps p.tables e below (T.setTop g) t ∧ t.status = .running ∧ Ended t below o ∧ ∃ v L, o = .returned v ∧ Qw C ws h0 v t.heap L ∧ FrameEnd s o t L R.cells R.slots
variable {h : Heap} {cl sl : Nat} {g g' : JFrame} {pc : Nat} {Ls : Array Slot} {st : List Value}
theorem Base.via (B : Base p l e R s m args below meth c Z y bytes maxL ret h0 ws C) (st : ∀ (T t : State), At T m c below → Steps p.tables e below (T.setTop g') t → Steps p.tables e below (T.setTop g) t) (k : B.G h cl sl g') : B.G h cl sl g := fun T locs X N eT => by
  obtain ⟨t, o, q, r⟩ := k T locs X N eT
  exact ⟨t, o, st T t X.here q, r⟩
theorem Base.viaX (B : Base p l e R s m args below meth c Z y bytes maxL ret h0 ws C) (st : ∀ (T t : State) (locs : List Loc), Stand p l e R s m args below meth c T locs cl sl → T.heap = h → Steps p.tables e below (T.setTop g') t → Steps p.tables e below (T.setTop g) t) (k : B.G h cl sl g') : B.G h cl sl g := fun T locs X N eT => by
  obtain ⟨t, o, q, r⟩ := k T locs X N eT
  exact ⟨t, o, st T t locs X eT q, r⟩
theorem Frw.nil (ws : List Addr) (k : Nat) : Frw ws k [] := fun _ q => nomatch q
theorem Frw.app {k : Nat} {L L' : List Loc} (N : Frw ws k L) (N' : Frw ws k L') : Frw ws k (L ++ L') := fun y q => (List.mem_append.mp q).elim (N y) (N' y)
theorem Frw.one {k : Nat} {L : List Loc} {a : Addr} {i : Nat} (N : Frw ws k L) (q : a ∈ ws ∨ k ≤ a) : Frw ws k (L ++ [⟨a, i⟩]) := N.app fun y hy => by cases List.mem_singleton.mp hy; exact q
theorem keep_of {T : State} {locs : List Loc} (X : Stand p l e R s m args below meth c T locs cl sl) (N : Frw ws s.heap.size locs) : Keep s.heap T.heap ws := by
  obtain ⟨-, h1, -, -, -, h2⟩ := X.same
  refine ⟨h1, fun x cc hc hn => ?_, fun x cc hc => ?_⟩
  · obtain ⟨c', e1, e2, e3, e4⟩ := h2 x cc hc
    have hlt := (Array.getElem?_eq_some_iff.mp hc).1
    have q : c'.slots = cc.slots := Array.ext_getElem? fun i => e4 i fun hm => by
      rcases N _ hm with z | z
      · exact hn z
      · exact absurd hlt (Nat.not_lt.mpr z)
    have e1' : T.heap[x]? = some c' := e1
    rw [e1', e2, q]
  · obtain ⟨c', e1, e2, e3, -⟩ := h2 x cc hc
    exact ⟨c', e1, by rw [e2], by rw [e2], e3⟩
theorem Met.walk (hpn : plainFor y = true) {as : Array Value} {rm : Room} {wds : List Jvm.Cond} (hef : ∀ m, entryFrame m as maxL = mkF m 0 Ls [])
    (body : ∀ (p : Program) (e : Env) (s : State) (m : MethodId) (below : List Frame) (meth : Method) (c : Code) (B : Base p l e rm s m as below meth c Z y bytes maxL ret h0 ws C), B.G h0 0 0 (mkF m 0 Ls [])) : Met l Z y bytes maxL ret wds rm as h0 ws C := by
  refine MetFree.of_bodySF hpn hisR ?_
  intro p e s m args below meth c s₁ Bd hml0 hP hK
  obtain ⟨rfl, hZ, hh⟩ := hP
  have X0 : Stand p l e rm s m args below meth c s₁ [] 0 0 := Stand.of_body Bd
  have e0 : s₁.heap = h0 := by rw [← hh, Bd.state]; rfl
  obtain ⟨t, o, q, r⟩ := body p e s m below meth c ⟨Bd.exec, Bd.bytes, hml0, hZ, findClass_of_methodNamed Bd.named, Bd.returns, Bd.notSynchronized, (name_of_methodNamed Bd.named Bd.method).1, hh⟩ s₁ [] X0 (Frw.nil _ _) e0
  exact ⟨t, o, castTop (hef m) q, r⟩
theorem Met.mono {as : Array Value} {rm : Room} {wds : List Jvm.Cond} {C' : Option Value → Heap → Prop} (M : Met l Z y bytes maxL ret wds rm as h0 ws C) (q : ∀ v h, C v h → C' v h) : Met l Z y bytes maxL ret wds rm as h0 ws C' := by
  intro p e ha hc hk s m args below hf happ hP hK
  obtain ⟨n, o, q1, q2, q3, v, L, q4, ⟨r1, r2⟩, q5⟩ := M p e ha hc hk s m args below hf happ hP hK
  exact ⟨n, o, q1, q2, q3, v, L, q4, ⟨q _ _ r1, r2⟩, q5⟩
/-! 1. steps that touch no heap -/
theorem Base.aloadN (B : Base p l e R s m args below meth c Z y bytes maxL ret h0 ws C) (pc' : Nat) (hp : pc' = pc + 1) {i : Fin 4} (hd : decode bytes pc = .ok (.aload_n i, 1)) {v : Value} (hl : Ls[i.val]? = some (.val v)) (hv : v.isRef = true) (k : B.G h cl sl (mkF m pc' Ls (v :: st))) : B.G h cl sl (mkF m pc Ls st) := by
  subst hp; exact B.via (fun T t X r => XS.aloadN X B.1 rfl (hb B.2.1 hd) hl hv r) k
theorem Base.aload (B : Base p l e R s m args below meth c Z y bytes maxL ret h0 ws C) (pc' : Nat) (hp : pc' = pc + 2) {i : Nat} (hd : decode bytes pc = .ok (.aload i, 2)) {v : Value} (hl : Ls[i]? = some (.val v)) (hv : v.isRef = true) (k : B.G h cl sl (mkF m pc' Ls (v :: st))) : B.G h cl sl (mkF m pc Ls st) := by
  subst hp; exact B.via (fun T t X r => XS.aload X B.1 rfl (hb B.2.1 hd) hl hv r) k
theorem Base.iloadN (B : Base p l e R s m args below meth c Z y bytes maxL ret h0 ws C) (pc' : Nat) (hp : pc' = pc + 1) {i : Fin 4} (hd : decode bytes pc = .ok (.iload_n i, 1)) {v : Int32} (hl : Ls[i.val]? = some (.val (.int v))) (k : B.G h cl sl (mkF m pc' Ls (.int v :: st))) : B.G h cl sl (mkF m pc Ls st) := by
  subst hp; exact B.via (fun T t X r => XS.iloadN X B.1 rfl (hb B.2.1 hd) hl r) k
theorem Base.iload (B : Base p l e R s m args below meth c Z y bytes maxL ret h0 ws C) (pc' : Nat) (hp : pc' = pc + 2) {i : Nat} (hd : decode bytes pc = .ok (.iload i, 2)) {v : Int32} (hl : Ls[i]? = some (.val (.int v))) (k : B.G h cl sl (mkF m pc' Ls (.int v :: st))) : B.G h cl sl (mkF m pc Ls st) := by
  subst hp; exact B.via (fun T t X r => XS.iload X B.1 rfl (hb B.2.1 hd) hl r) k
theorem Base.lloadN (B : Base p l e R s m args below meth c Z y bytes maxL ret h0 ws C) (pc' : Nat) (hp : pc' = pc + 1) {i : Fin 4} (hd : decode bytes pc = .ok (.lload_n i, 1)) {v : Int64} (hl : Ls[i.val]? = some (.val (.long v))) (k : B.G h cl sl (mkF m pc' Ls (.long v :: st))) : B.G h cl sl (mkF m pc Ls st) := by
  subst hp; exact B.via (fun T t X r => XT.lloadN X B.1 rfl (hb B.2.1 hd) hl r) k
theorem Base.lload (B : Base p l e R s m args below meth c Z y bytes maxL ret h0 ws C) (pc' : Nat) (hp : pc' = pc + 2) {i : Nat} (hd : decode bytes pc = .ok (.lload i, 2)) {v : Int64} (hl : Ls[i]? = some (.val (.long v))) (k : B.G h cl sl (mkF m pc' Ls (.long v :: st))) : B.G h cl sl (mkF m pc Ls st) := by
  subst hp; exact B.via (fun T t X r => XT.lload X B.1 rfl (hb B.2.1 hd) hl r) k
theorem Base.istoreN (B : Base p l e R s m args below meth c Z y bytes maxL ret h0 ws C) (pc' : Nat) (hp : pc' = pc + 1) {i : Fin 4} {x : Int32} (hd : decode bytes pc = .ok (.istore_n i, 1)) (Ls' : Array Slot) (hl : storeLocals Ls i.val (.int x) = some Ls') (k : B.G h cl sl (mkF m pc' Ls' st)) : B.G h cl sl (mkF m pc Ls (.int x :: st)) := by
  subst hp; exact B.via (fun T t X r => XS.istoreN X B.1 rfl (hb B.2.1 hd) rfl hl r) k
theorem Base.istore (B : Base p l e R s m args below meth c Z y bytes maxL ret h0 ws C) (pc' : Nat) (hp : pc' = pc + 2) {i : Nat} {x : Int32} (hd : decode bytes pc = .ok (.istore i, 2)) (Ls' : Array Slot) (hl : storeLocals Ls i (.int x) = some Ls') (k : B.G h cl sl (mkF m pc' Ls' st)) : B.G h cl sl (mkF m pc Ls (.int x :: st)) := by
  subst hp; exact B.via (fun T t X r => XS.istore X B.1 rfl (hb B.2.1 hd) rfl hl r) k
theorem Base.lstoreN (B : Base p l e R s m args below meth c Z y bytes maxL ret h0 ws C) (pc' : Nat) (hp : pc' = pc + 1) {i : Fin 4} {x : Int64} (hd : decode bytes pc = .ok (.lstore_n i, 1)) (Ls' : Array Slot) (hl : storeLocals Ls i.val (.long x) = some Ls') (k : B.G h cl sl (mkF m pc' Ls' st)) : B.G h cl sl (mkF m pc Ls (.long x :: st)) := by
  subst hp; exact B.via (fun T t X r => XT.lstoreN X B.1 rfl (hb B.2.1 hd) rfl hl r) k
theorem Base.lstore (B : Base p l e R s m args below meth c Z y bytes maxL ret h0 ws C) (pc' : Nat) (hp : pc' = pc + 2) {i : Nat} {x : Int64} (hd : decode bytes pc = .ok (.lstore i, 2)) (Ls' : Array Slot) (hl : storeLocals Ls i (.long x) = some Ls') (k : B.G h cl sl (mkF m pc' Ls' st)) : B.G h cl sl (mkF m pc Ls (.long x :: st)) := by
  subst hp; exact B.via (fun T t X r => XT.lstore X B.1 rfl (hb B.2.1 hd) rfl hl r) k
theorem Base.astoreN (B : Base p l e R s m args below meth c Z y bytes maxL ret h0 ws C) (pc' : Nat) (hp : pc' = pc + 1) {i : Fin 4} {x : Value} (hd : decode bytes pc = .ok (.astore_n i, 1)) (hv : x.isRef = true) (Ls' : Array Slot) (hl : storeLocals Ls i.val x = some Ls') (k : B.G h cl sl (mkF m pc' Ls' st)) : B.G h cl sl (mkF m pc Ls (x :: st)) := by
  subst hp; exact B.via (fun T t X r => XS.astoreN X B.1 rfl (hb B.2.1 hd) rfl hv hl r) k
theorem Base.astore (B : Base p l e R s m args below meth c Z y bytes maxL ret h0 ws C) (pc' : Nat) (hp : pc' = pc + 2) {i : Nat} {x : Value} (hd : decode bytes pc = .ok (.astore i, 2)) (hv : x.isRef = true) (Ls' : Array Slot) (hl : storeLocals Ls i x = some Ls') (k : B.G h cl sl (mkF m pc' Ls' st)) : B.G h cl sl (mkF m pc Ls (x :: st)) := by
  subst hp; exact B.via (fun T t X r => XS.astore X B.1 rfl (hb B.2.1 hd) rfl hv hl r) k
theorem Base.iinc (B : Base p l e R s m args below meth c Z y bytes maxL ret h0 ws C) (pc' : Nat) (hp : pc' = pc + 3) {i : Nat} {cst : Int} (v : Int32) {x : Int32} (hd : decode bytes pc = .ok (.iinc i cst, 3)) (hv : Int32.ofInt cst = v) (hl : Ls[i]? = some (.val (.int x))) (Ls' : Array Slot) (hl' : storeLocals Ls i (.int (x + v)) = some Ls') (k : B.G h cl sl (mkF m pc' Ls' st)) : B.G h cl sl (mkF m pc Ls st) := by
  subst hp hv; exact B.via (fun T t X r => XS.iinc X B.1 rfl (hb B.2.1 hd) hl hl' r) k
theorem Base.iconst (B : Base p l e R s m args below meth c Z y bytes maxL ret h0 ws C) (pc' : Nat) (hp : pc' = pc + 1) {i : Int} (v : Int32) (hd : decode bytes pc = .ok (.iconst i, 1)) (hv : Int32.ofInt i = v) (k : B.G h cl sl (mkF m pc' Ls (.int v :: st))) : B.G h cl sl (mkF m pc Ls st) := by
  subst hp hv; exact B.via (fun T t X r => XS.iconst X B.1 rfl (hb B.2.1 hd) r) k
theorem Base.bipush (B : Base p l e R s m args below meth c Z y bytes maxL ret h0 ws C) (pc' : Nat) (hp : pc' = pc + 2) {i : Int} (v : Int32) (hd : decode bytes pc = .ok (.bipush i, 2)) (hv : (Int8.ofInt i).toInt32 = v) (k : B.G h cl sl (mkF m pc' Ls (.int v :: st))) : B.G h cl sl (mkF m pc Ls st) := by
  subst hp hv; exact B.via (fun T t X r => XS.bipush X B.1 rfl (hb B.2.1 hd) r) k
theorem Base.sipush (B : Base p l e R s m args below meth c Z y bytes maxL ret h0 ws C) (pc' : Nat) (hp : pc' = pc + 3) {i : Int} (v : Int32) (hd : decode bytes pc = .ok (.sipush i, 3)) (hv : (Int16.ofInt i).toInt32 = v) (k : B.G h cl sl (mkF m pc' Ls (.int v :: st))) : B.G h cl sl (mkF m pc Ls st) := by
  subst hp hv; exact B.via (fun T t X r => XS.sipush X B.1 rfl (hb B.2.1 hd) r) k
theorem Base.lconst (B : Base p l e R s m args below meth c Z y bytes maxL ret h0 ws C) (pc' : Nat) (hp : pc' = pc + 1) {i : Fin 2} (v : Int64) (hd : decode bytes pc = .ok (.lconst i, 1)) (hv : Int64.ofNat i = v) (k : B.G h cl sl (mkF m pc' Ls (.long v :: st))) : B.G h cl sl (mkF m pc Ls st) := by
  subst hp hv; exact B.via (fun T t X r => XT.lconst X B.1 rfl (hb B.2.1 hd) r) k
theorem Base.aconstNull (B : Base p l e R s m args below meth c Z y bytes maxL ret h0 ws C) (pc' : Nat) (hp : pc' = pc + 1) (hd : decode bytes pc = .ok (.aconst_null, 1)) (k : B.G h cl sl (mkF m pc' Ls (.null :: st))) : B.G h cl sl (mkF m pc Ls st) := by
  subst hp; exact B.via (fun T t X r => XS.aconstNull X B.1 rfl (hb B.2.1 hd) r) k
theorem Base.ldcI (B : Base p l e R s m args below meth c Z y bytes maxL ret h0 ws C) (pc' : Nat) (hp : pc' = pc + 2) {i : Nat} {v : Int32} (hd : decode bytes pc = .ok (.ldc i, 2)) (w : (Cond.constant y.cls i v).before a0 Z = true) (k : B.G h cl sl (mkF m pc' Ls (.int v :: st))) : B.G h cl sl (mkF m pc Ls st) := by
  subst hp; exact B.viaX (fun T t L X _ r => X.ldcI B.1 B.2.2.2.2.1 (mv B.2.2.2.1 w) rfl (hb B.2.1 hd) r) k
theorem Base.ldcWI (B : Base p l e R s m args below meth c Z y bytes maxL ret h0 ws C) (pc' : Nat) (hp : pc' = pc + 3) {i : Nat} {v : Int32} (hd : decode bytes pc = .ok (.ldc_w i, 3)) (w : (Cond.constant y.cls i v).before a0 Z = true) (k : B.G h cl sl (mkF m pc' Ls (.int v :: st))) : B.G h cl sl (mkF m pc Ls st) := by
  subst hp; exact B.viaX (fun T t L X _ r => X.ldcWI B.1 B.2.2.2.2.1 (mv B.2.2.2.1 w) rfl (hb B.2.1 hd) r) k
theorem Base.ldc2J (B : Base p l e R s m args below meth c Z y bytes maxL ret h0 ws C) (pc' : Nat) (hp : pc' = pc + 3) {i : Nat} {v : Int64} (hd : decode bytes pc = .ok (.ldc2_w i, 3)) (w : (Cond.constantLong y.cls i v).before a0 Z = true) (k : B.G h cl sl (mkF m pc' Ls (.long v :: st))) : B.G h cl sl (mkF m pc Ls st) := by
  subst hp; exact B.viaX (fun T t L X _ r => X.ldc2J B.1 B.2.2.2.2.1 (mv B.2.2.2.1 w) rfl (hb B.2.1 hd) r) k
theorem Base.goto (B : Base p l e R s m args below meth c Z y bytes maxL ret h0 ws C) (pc' : Nat) {o : Int} (hp : ((pc : Int) + o).toNat = pc') (ho : 0 ≤ (pc : Int) + o) (hd : decode bytes pc = .ok (.goto o, 3)) (k : B.G h cl sl (mkF m pc' Ls st)) : B.G h cl sl (mkF m pc Ls st) :=
  B.via (fun T t X r => XS.goto X B.1 rfl rfl (hb B.2.1 hd) ho hp r) k
theorem Base.dup (B : Base p l e R s m args below meth c Z y bytes maxL ret h0 ws C) (pc' : Nat) (hp : pc' = pc + 1) {x : Value} (hd : decode bytes pc = .ok (.dup, 1)) (hc : x.category = 1) (k : B.G h cl sl (mkF m pc' Ls (x :: x :: st))) : B.G h cl sl (mkF m pc Ls (x :: st)) := by
  subst hp; exact B.via (fun T t X r => XS.dup X B.1 rfl (hb B.2.1 hd) rfl hc r) k
theorem Base.pop (B : Base p l e R s m args below meth c Z y bytes maxL ret h0 ws C) (pc' : Nat) (hp : pc' = pc + 1) {x : Value} (hd : decode bytes pc = .ok (.pop, 1)) (hc : x.category = 1) (k : B.G h cl sl (mkF m pc' Ls st)) : B.G h cl sl (mkF m pc Ls (x :: st)) := by
  subst hp; exact B.via (fun T t X r => XT.pop X B.1 rfl (hb B.2.1 hd) rfl hc r) k
theorem Base.dupX1 (B : Base p l e R s m args below meth c Z y bytes maxL ret h0 ws C) (pc' : Nat) (hp : pc' = pc + 1) {x z : Value} (hd : decode bytes pc = .ok (.dup_x1, 1)) (hc : x.category = 1) (hc' : z.category = 1) (k : B.G h cl sl (mkF m pc' Ls (x :: z :: x :: st))) : B.G h cl sl (mkF m pc Ls (x :: z :: st)) := by
  subst hp; exact B.via (fun T t X r => XT.dupX1 X B.1 rfl (hb B.2.1 hd) rfl hc hc' r) k
theorem Base.dup2 (B : Base p l e R s m args below meth c Z y bytes maxL ret h0 ws C) (pc' : Nat) (hp : pc' = pc + 1) {x z : Value} (hd : decode bytes pc = .ok (.dup2, 1)) (hc : x.category = 1) (hc' : z.category = 1) (k : B.G h cl sl (mkF m pc' Ls (x :: z :: x :: z :: st))) : B.G h cl sl (mkF m pc Ls (x :: z :: st)) := by
  subst hp; exact B.via (fun T t X r => XT.dup2 X B.1 rfl (hb B.2.1 hd) rfl hc hc' r) k
theorem Base.iadd (B : Base p l e R s m args below meth c Z y bytes maxL ret h0 ws C) (pc' : Nat) (hp : pc' = pc + 1) {x : Int32} {z : Int32} (hd : decode bytes pc = .ok (.iadd, 1)) (k : B.G h cl sl (mkF m pc' Ls (.int (x + z) :: st))) : B.G h cl sl (mkF m pc Ls (.int z :: .int x :: st)) := by
  subst hp; exact B.via (fun T t X r => XS.iadd X B.1 rfl (hb B.2.1 hd) rfl r) k
theorem Base.isub (B : Base p l e R s m args below meth c Z y bytes maxL ret h0 ws C) (pc' : Nat) (hp : pc' = pc + 1) {x : Int32} {z : Int32} (hd : decode bytes pc = .ok (.isub, 1)) (k : B.G h cl sl (mkF m pc' Ls (.int (x - z) :: st))) : B.G h cl sl (mkF m pc Ls (.int z :: .int x :: st)) := by
  subst hp; exact B.via (fun T t X r => XS.isub X B.1 rfl (hb B.2.1 hd) rfl r) k
theorem Base.iand (B : Base p l e R s m args below meth c Z y bytes maxL ret h0 ws C) (pc' : Nat) (hp : pc' = pc + 1) {x : Int32} {z : Int32} (hd : decode bytes pc = .ok (.iand, 1)) (k : B.G h cl sl (mkF m pc' Ls (.int (x &&& z) :: st))) : B.G h cl sl (mkF m pc Ls (.int z :: .int x :: st)) := by
  subst hp; exact B.via (fun T t X r => XS.iand X B.1 rfl (hb B.2.1 hd) rfl r) k
theorem Base.imul (B : Base p l e R s m args below meth c Z y bytes maxL ret h0 ws C) (pc' : Nat) (hp : pc' = pc + 1) {x : Int32} {z : Int32} (hd : decode bytes pc = .ok (.imul, 1)) (k : B.G h cl sl (mkF m pc' Ls (.int (x * z) :: st))) : B.G h cl sl (mkF m pc Ls (.int z :: .int x :: st)) := by
  subst hp; exact B.via (fun T t X r => XS.imul X B.1 rfl (hb B.2.1 hd) rfl r) k
theorem Base.ixor (B : Base p l e R s m args below meth c Z y bytes maxL ret h0 ws C) (pc' : Nat) (hp : pc' = pc + 1) {x : Int32} {z : Int32} (hd : decode bytes pc = .ok (.ixor, 1)) (k : B.G h cl sl (mkF m pc' Ls (.int (x ^^^ z) :: st))) : B.G h cl sl (mkF m pc Ls (.int z :: .int x :: st)) := by
  subst hp; exact B.via (fun T t X r => XT.ixor X B.1 rfl (hb B.2.1 hd) rfl r) k
theorem Base.ior (B : Base p l e R s m args below meth c Z y bytes maxL ret h0 ws C) (pc' : Nat) (hp : pc' = pc + 1) {x : Int32} {z : Int32} (hd : decode bytes pc = .ok (.ior, 1)) (k : B.G h cl sl (mkF m pc' Ls (.int (x ||| z) :: st))) : B.G h cl sl (mkF m pc Ls (.int z :: .int x :: st)) := by
  subst hp; exact B.via (fun T t X r => XT.ior X B.1 rfl (hb B.2.1 hd) rfl r) k
theorem Base.ishl (B : Base p l e R s m args below meth c Z y bytes maxL ret h0 ws C) (pc' : Nat) (hp : pc' = pc + 1) {x : Int32} {z : Int32} (hd : decode bytes pc = .ok (.ishl, 1)) (k : B.G h cl sl (mkF m pc' Ls (.int (x <<< (z &&& 31)) :: st))) : B.G h cl sl (mkF m pc Ls (.int z :: .int x :: st)) := by
  subst hp; exact B.via (fun T t X r => XT.ishl X B.1 rfl (hb B.2.1 hd) rfl r) k
theorem Base.ishr (B : Base p l e R s m args below meth c Z y bytes maxL ret h0 ws C) (pc' : Nat) (hp : pc' = pc + 1) {x : Int32} {z : Int32} (hd : decode bytes pc = .ok (.ishr, 1)) (k : B.G h cl sl (mkF m pc' Ls (.int (x >>> (z &&& 31)) :: st))) : B.G h cl sl (mkF m pc Ls (.int z :: .int x :: st)) := by
  subst hp; exact B.via (fun T t X r => XT.ishr X B.1 rfl (hb B.2.1 hd) rfl r) k
theorem Base.iushr (B : Base p l e R s m args below meth c Z y bytes maxL ret h0 ws C) (pc' : Nat) (hp : pc' = pc + 1) {x : Int32} {z : Int32} (hd : decode bytes pc = .ok (.iushr, 1)) (k : B.G h cl sl (mkF m pc' Ls (.int (XT.ushr x z) :: st))) : B.G h cl sl (mkF m pc Ls (.int z :: .int x :: st)) := by
  subst hp; exact B.via (fun T t X r => XT.iushr X B.1 rfl (hb B.2.1 hd) rfl r) k
theorem Base.ladd (B : Base p l e R s m args below meth c Z y bytes maxL ret h0 ws C) (pc' : Nat) (hp : pc' = pc + 1) {x : Int64} {z : Int64} (hd : decode bytes pc = .ok (.ladd, 1)) (k : B.G h cl sl (mkF m pc' Ls (.long (x + z) :: st))) : B.G h cl sl (mkF m pc Ls (.long z :: .long x :: st)) := by
  subst hp; exact B.via (fun T t X r => XT.ladd X B.1 rfl (hb B.2.1 hd) rfl r) k
theorem Base.lsub (B : Base p l e R s m args below meth c Z y bytes maxL ret h0 ws C) (pc' : Nat) (hp : pc' = pc + 1) {x : Int64} {z : Int64} (hd : decode bytes pc = .ok (.lsub, 1)) (k : B.G h cl sl (mkF m pc' Ls (.long (x - z) :: st))) : B.G h cl sl (mkF m pc Ls (.long z :: .long x :: st)) := by
  subst hp; exact B.via (fun T t X r => XT.lsub X B.1 rfl (hb B.2.1 hd) rfl r) k
theorem Base.lmul (B : Base p l e R s m args below meth c Z y bytes maxL ret h0 ws C) (pc' : Nat) (hp : pc' = pc + 1) {x : Int64} {z : Int64} (hd : decode bytes pc = .ok (.lmul, 1)) (k : B.G h cl sl (mkF m pc' Ls (.long (x * z) :: st))) : B.G h cl sl (mkF m pc Ls (.long z :: .long x :: st)) := by
  subst hp; exact B.via (fun T t X r => XT.lmul X B.1 rfl (hb B.2.1 hd) rfl r) k
theorem Base.land (B : Base p l e R s m args below meth c Z y bytes maxL ret h0 ws C) (pc' : Nat) (hp : pc' = pc + 1) {x : Int64} {z : Int64} (hd : decode bytes pc = .ok (.land, 1)) (k : B.G h cl sl (mkF m pc' Ls (.long (x &&& z) :: st))) : B.G h cl sl (mkF m pc Ls (.long z :: .long x :: st)) := by
  subst hp; exact B.via (fun T t X r => XT.land X B.1 rfl (hb B.2.1 hd) rfl r) k
theorem Base.lor (B : Base p l e R s m args below meth c Z y bytes maxL ret h0 ws C) (pc' : Nat) (hp : pc' = pc + 1) {x : Int64} {z : Int64} (hd : decode bytes pc = .ok (.lor, 1)) (k : B.G h cl sl (mkF m pc' Ls (.long (x ||| z) :: st))) : B.G h cl sl (mkF m pc Ls (.long z :: .long x :: st)) := by
  subst hp; exact B.via (fun T t X r => XT.lor X B.1 rfl (hb B.2.1 hd) rfl r) k
theorem Base.lxor (B : Base p l e R s m args below meth c Z y bytes maxL ret h0 ws C) (pc' : Nat) (hp : pc' = pc + 1) {x : Int64} {z : Int64} (hd : decode bytes pc = .ok (.lxor, 1)) (k : B.G h cl sl (mkF m pc' Ls (.long (x ^^^ z) :: st))) : B.G h cl sl (mkF m pc Ls (.long z :: .long x :: st)) := by
  subst hp; exact B.via (fun T t X r => XT.lxor X B.1 rfl (hb B.2.1 hd) rfl r) k
theorem Base.lshl (B : Base p l e R s m args below meth c Z y bytes maxL ret h0 ws C) (pc' : Nat) (hp : pc' = pc + 1) {x : Int64} {z : Int32} (hd : decode bytes pc = .ok (.lshl, 1)) (k : B.G h cl sl (mkF m pc' Ls (.long (x <<< (z.toInt64 &&& 63)) :: st))) : B.G h cl sl (mkF m pc Ls (.int z :: .long x :: st)) := by
  subst hp; exact B.via (fun T t X r => XT.lshl X B.1 rfl (hb B.2.1 hd) rfl r) k
theorem Base.lshr (B : Base p l e R s m args below meth c Z y bytes maxL ret h0 ws C) (pc' : Nat) (hp : pc' = pc + 1) {x : Int64} {z : Int32} (hd : decode bytes pc = .ok (.lshr, 1)) (k : B.G h cl sl (mkF m pc' Ls (.long (x >>> (z.toInt64 &&& 63)) :: st))) : B.G h cl sl (mkF m pc Ls (.int z :: .long x :: st)) := by
  subst hp; exact B.via (fun T t X r => XT.lshr X B.1 rfl (hb B.2.1 hd) rfl r) k
theorem Base.lushr (B : Base p l e R s m args below meth c Z y bytes maxL ret h0 ws C) (pc' : Nat) (hp : pc' = pc + 1) {x : Int64} {z : Int32} (hd : decode bytes pc = .ok (.lushr, 1)) (k : B.G h cl sl (mkF m pc' Ls (.long (XT.ushrL x z) :: st))) : B.G h cl sl (mkF m pc Ls (.int z :: .long x :: st)) := by
  subst hp; exact B.via (fun T t X r => XT.lushr X B.1 rfl (hb B.2.1 hd) rfl r) k
theorem Base.lcmp (B : Base p l e R s m args below meth c Z y bytes maxL ret h0 ws C) (pc' : Nat) (hp : pc' = pc + 1) {x : Int64} {z : Int64} (hd : decode bytes pc = .ok (.lcmp, 1)) (k : B.G h cl sl (mkF m pc' Ls (.int (XT.cmpL x z) :: st))) : B.G h cl sl (mkF m pc Ls (.long z :: .long x :: st)) := by
  subst hp; exact B.via (fun T t X r => XT.lcmp X B.1 rfl (hb B.2.1 hd) rfl r) k
theorem Base.idiv (B : Base p l e R s m args below meth c Z y bytes maxL ret h0 ws C) (pc' : Nat) (hp : pc' = pc + 1) {x : Int32} {z : Int32} (hd : decode bytes pc = .ok (.idiv, 1)) (hz : z ≠ 0) (k : B.G h cl sl (mkF m pc' Ls (.int (x / z) :: st))) : B.G h cl sl (mkF m pc Ls (.int z :: .int x :: st)) := by
  subst hp; exact B.via (fun T t X r => XS.idiv X B.1 rfl (hb B.2.1 hd) rfl hz r) k
theorem Base.ldiv (B : Base p l e R s m args below meth c Z y bytes maxL ret h0 ws C) (pc' : Nat) (hp : pc' = pc + 1) {x : Int64} {z : Int64} (hd : decode bytes pc = .ok (.ldiv, 1)) (hz : z ≠ 0) (k : B.G h cl sl (mkF m pc' Ls (.long (x / z) :: st))) : B.G h cl sl (mkF m pc Ls (.long z :: .long x :: st)) := by
  subst hp; exact B.via (fun T t X r => XT.ldiv X B.1 rfl (hb B.2.1 hd) rfl hz r) k
theorem Base.irem (B : Base p l e R s m args below meth c Z y bytes maxL ret h0 ws C) (pc' : Nat) (hp : pc' = pc + 1) {x z : Int32} (hd : decode bytes pc = .ok (.irem, 1)) (hz : z ≠ 0) (k : B.G h cl sl (mkF m pc' Ls (.int (x % z) :: st))) : B.G h cl sl (mkF m pc Ls (.int z :: .int x :: st)) := by
  subst hp; exact B.viaX (fun T t L X _ r => iremM X B.1 rfl (hb B.2.1 hd) rfl hz r) k
theorem Base.ineg (B : Base p l e R s m args below meth c Z y bytes maxL ret h0 ws C) (pc' : Nat) (hp : pc' = pc + 1) {x : Int32} (hd : decode bytes pc = .ok (.ineg, 1)) (k : B.G h cl sl (mkF m pc' Ls (.int (-x) :: st))) : B.G h cl sl (mkF m pc Ls (.int x :: st)) := by
  subst hp; exact B.via (fun T t X r => XS.ineg X B.1 rfl (hb B.2.1 hd) rfl r) k
theorem Base.lneg (B : Base p l e R s m args below meth c Z y bytes maxL ret h0 ws C) (pc' : Nat) (hp : pc' = pc + 1) {x : Int64} (hd : decode bytes pc = .ok (.lneg, 1)) (k : B.G h cl sl (mkF m pc' Ls (.long (-x) :: st))) : B.G h cl sl (mkF m pc Ls (.long x :: st)) := by
  subst hp; exact B.via (fun T t X r => XT.lneg X B.1 rfl (hb B.2.1 hd) rfl r) k
theorem Base.i2l (B : Base p l e R s m args below meth c Z y bytes maxL ret h0 ws C) (pc' : Nat) (hp : pc' = pc + 1) {x : Int32} (hd : decode bytes pc = .ok (.i2l, 1)) (k : B.G h cl sl (mkF m pc' Ls (.long (x.toInt64) :: st))) : B.G h cl sl (mkF m pc Ls (.int x :: st)) := by
  subst hp; exact B.via (fun T t X r => XT.i2l X B.1 rfl (hb B.2.1 hd) rfl r) k
theorem Base.l2i (B : Base p l e R s m args below meth c Z y bytes maxL ret h0 ws C) (pc' : Nat) (hp : pc' = pc + 1) {x : Int64} (hd : decode bytes pc = .ok (.l2i, 1)) (k : B.G h cl sl (mkF m pc' Ls (.int (x.toInt32) :: st))) : B.G h cl sl (mkF m pc Ls (.long x :: st)) := by
  subst hp; exact B.via (fun T t X r => XT.l2i X B.1 rfl (hb B.2.1 hd) rfl r) k
theorem Base.i2b (B : Base p l e R s m args below meth c Z y bytes maxL ret h0 ws C) (pc' : Nat) (hp : pc' = pc + 1) {x : Int32} (hd : decode bytes pc = .ok (.i2b, 1)) (k : B.G h cl sl (mkF m pc' Ls (.int (x.toInt8.toInt32) :: st))) : B.G h cl sl (mkF m pc Ls (.int x :: st)) := by
  subst hp; exact B.via (fun T t X r => XT.i2b X B.1 rfl (hb B.2.1 hd) rfl r) k
theorem Base.i2c (B : Base p l e R s m args below meth c Z y bytes maxL ret h0 ws C) (pc' : Nat) (hp : pc' = pc + 1) {x : Int32} (hd : decode bytes pc = .ok (.i2c, 1)) (k : B.G h cl sl (mkF m pc' Ls (.int (x.toUInt32.toUInt16.toUInt32.toInt32) :: st))) : B.G h cl sl (mkF m pc Ls (.int x :: st)) := by
  subst hp; exact B.via (fun T t X r => XT.i2c X B.1 rfl (hb B.2.1 hd) rfl r) k
theorem Base.i2s (B : Base p l e R s m args below meth c Z y bytes maxL ret h0 ws C) (pc' : Nat) (hp : pc' = pc + 1) {x : Int32} (hd : decode bytes pc = .ok (.i2s, 1)) (k : B.G h cl sl (mkF m pc' Ls (.int (x.toInt16.toInt32) :: st))) : B.G h cl sl (mkF m pc Ls (.int x :: st)) := by
  subst hp; exact B.via (fun T t X r => XT.i2s X B.1 rfl (hb B.2.1 hd) rfl r) k
theorem Base.icmp_eq (B : Base p l e R s m args below meth c Z y bytes maxL ret h0 ws C) (pt pf : Nat) {o : Int} (hpt : ((pc : Int) + o).toNat = pt) (ho : 0 ≤ (pc : Int) + o) (hpf : pf = pc + 3) {x z : Int32} (hd : decode bytes pc = .ok (.if_icmp .eq o, 3)) (kt : x = z → B.G h cl sl (mkF m pt Ls st)) (kf : ¬ x = z → B.G h cl sl (mkF m pf Ls st)) : B.G h cl sl (mkF m pc Ls (.int z :: .int x :: st)) := by
  subst hpt hpf
  by_cases q : x = z
  · exact B.via (fun T t X r => XS.icmpYes X B.1 rfl rfl (hb B.2.1 hd) rfl (XT.ii_eq_t q) ho rfl r) (kt q)
  · exact B.via (fun T t X r => XS.icmpNo X B.1 rfl (hb B.2.1 hd) rfl (XT.ii_eq_f q) r) (kf q)
theorem Base.if0_eq (B : Base p l e R s m args below meth c Z y bytes maxL ret h0 ws C) (pt pf : Nat) {o : Int} (hpt : ((pc : Int) + o).toNat = pt) (ho : 0 ≤ (pc : Int) + o) (hpf : pf = pc + 3) {x : Int32} (hd : decode bytes pc = .ok (.ifCond .eq o, 3)) (kt : x = 0 → B.G h cl sl (mkF m pt Ls st)) (kf : ¬ x = 0 → B.G h cl sl (mkF m pf Ls st)) : B.G h cl sl (mkF m pc Ls (.int x :: st)) := by
  subst hpt hpf
  by_cases q : x = 0
  · exact B.via (fun T t X r => XS.ifYes X B.1 rfl rfl (hb B.2.1 hd) rfl (XT.i0_eq_t q) ho rfl r) (kt q)
  · exact B.via (fun T t X r => XS.ifNo X B.1 rfl (hb B.2.1 hd) rfl (XT.i0_eq_f q) r) (kf q)
theorem Base.lif_eq (B : Base p l e R s m args below meth c Z y bytes maxL ret h0 ws C) (pt pf : Nat) {o : Int} (hpt : ((pc : Int) + o).toNat = pt) (ho : 0 ≤ (pc : Int) + o) (hpf : pf = pc + 3) {x z : Int64} (hd : decode bytes pc = .ok (.ifCond .eq o, 3)) (kt : x = z → B.G h cl sl (mkF m pt Ls st)) (kf : ¬ x = z → B.G h cl sl (mkF m pf Ls st)) : B.G h cl sl (mkF m pc Ls (.int (XT.cmpL x z) :: st)) := by
  subst hpt hpf
  by_cases q : x = z
  · exact B.via (fun T t X r => XS.ifYes X B.1 rfl rfl (hb B.2.1 hd) rfl (XT.ll_eq_t q) ho rfl r) (kt q)
  · exact B.via (fun T t X r => XS.ifNo X B.1 rfl (hb B.2.1 hd) rfl (XT.ll_eq_f q) r) (kf q)
theorem Base.icmp_ne (B : Base p l e R s m args below meth c Z y bytes maxL ret h0 ws C) (pt pf : Nat) {o : Int} (hpt : ((pc : Int) + o).toNat = pt) (ho : 0 ≤ (pc : Int) + o) (hpf : pf = pc + 3) {x z : Int32} (hd : decode bytes pc = .ok (.if_icmp .ne o, 3)) (kt : ¬ x = z → B.G h cl sl (mkF m pt Ls st)) (kf : x = z → B.G h cl sl (mkF m pf Ls st)) : B.G h cl sl (mkF m pc Ls (.int z :: .int x :: st)) := by
  subst hpt hpf
  by_cases q : x = z
  · exact B.via (fun T t X r => XS.icmpNo X B.1 rfl (hb B.2.1 hd) rfl (XT.ii_ne_f q) r) (kf q)
  · exact B.via (fun T t X r => XS.icmpYes X B.1 rfl rfl (hb B.2.1 hd) rfl (XT.ii_ne_t q) ho rfl r) (kt q)
theorem Base.if0_ne (B : Base p l e R s m args below meth c Z y bytes maxL ret h0 ws C) (pt pf : Nat) {o : Int} (hpt : ((pc : Int) + o).toNat = pt) (ho : 0 ≤ (pc : Int) + o) (hpf : pf = pc + 3) {x : Int32} (hd : decode bytes pc = .ok (.ifCond .ne o, 3)) (kt : ¬ x = 0 → B.G h cl sl (mkF m pt Ls st)) (kf : x = 0 → B.G h cl sl (mkF m pf Ls st)) : B.G h cl sl (mkF m pc Ls (.int x :: st)) := by
  subst hpt hpf
  by_cases q : x = 0
  · exact B.via (fun T t X r => XS.ifNo X B.1 rfl (hb B.2.1 hd) rfl (XT.i0_ne_f q) r) (kf q)
  · exact B.via (fun T t X r => XS.ifYes X B.1 rfl rfl (hb B.2.1 hd) rfl (XT.i0_ne_t q) ho rfl r) (kt q)
theorem Base.lif_ne (B : Base p l e R s m args below meth c Z y bytes maxL ret h0 ws C) (pt pf : Nat) {o : Int} (hpt : ((pc : Int) + o).toNat = pt) (ho : 0 ≤ (pc : Int) + o) (hpf : pf = pc + 3) {x z : Int64} (hd : decode bytes pc = .ok (.ifCond .ne o, 3)) (kt : ¬ x = z → B.G h cl sl (mkF m pt Ls st)) (kf : x = z → B.G h cl sl (mkF m pf Ls st)) : B.G h cl sl (mkF m pc Ls (.int (XT.cmpL x z) :: st)) := by
  subst hpt hpf
  by_cases q : x = z
  · exact B.via (fun T t X r => XS.ifNo X B.1 rfl (hb B.2.1 hd) rfl (XT.ll_ne_f q) r) (kf q)
  · exact B.via (fun T t X r => XS.ifYes X B.1 rfl rfl (hb B.2.1 hd) rfl (XT.ll_ne_t q) ho rfl r) (kt q)
theorem Base.icmp_lt (B : Base p l e R s m args below meth c Z y bytes maxL ret h0 ws C) (pt pf : Nat) {o : Int} (hpt : ((pc : Int) + o).toNat = pt) (ho : 0 ≤ (pc : Int) + o) (hpf : pf = pc + 3) {x z : Int32} (hd : decode bytes pc = .ok (.if_icmp .lt o, 3)) (kt : x < z → B.G h cl sl (mkF m pt Ls st)) (kf : ¬ x < z → B.G h cl sl (mkF m pf Ls st)) : B.G h cl sl (mkF m pc Ls (.int z :: .int x :: st)) := by
  subst hpt hpf
  by_cases q : x < z
  · exact B.via (fun T t X r => XS.icmpYes X B.1 rfl rfl (hb B.2.1 hd) rfl (XT.ii_lt_t q) ho rfl r) (kt q)
  · exact B.via (fun T t X r => XS.icmpNo X B.1 rfl (hb B.2.1 hd) rfl (XT.ii_lt_f q) r) (kf q)
theorem Base.if0_lt (B : Base p l e R s m args below meth c Z y bytes maxL ret h0 ws C) (pt pf : Nat) {o : Int} (hpt : ((pc : Int) + o).toNat = pt) (ho : 0 ≤ (pc : Int) + o) (hpf : pf = pc + 3) {x : Int32} (hd : decode bytes pc = .ok (.ifCond .lt o, 3)) (kt : x < 0 → B.G h cl sl (mkF m pt Ls st)) (kf : ¬ x < 0 → B.G h cl sl (mkF m pf Ls st)) : B.G h cl sl (mkF m pc Ls (.int x :: st)) := by
  subst hpt hpf
  by_cases q : x < 0
  · exact B.via (fun T t X r => XS.ifYes X B.1 rfl rfl (hb B.2.1 hd) rfl (XT.i0_lt_t q) ho rfl r) (kt q)
  · exact B.via (fun T t X r => XS.ifNo X B.1 rfl (hb B.2.1 hd) rfl (XT.i0_lt_f q) r) (kf q)
theorem Base.lif_lt (B : Base p l e R s m args below meth c Z y bytes maxL ret h0 ws C) (pt pf : Nat) {o : Int} (hpt : ((pc : Int) + o).toNat = pt) (ho : 0 ≤ (pc : Int) + o) (hpf : pf = pc + 3) {x z : Int64} (hd : decode bytes pc = .ok (.ifCond .lt o, 3)) (kt : x < z → B.G h cl sl (mkF m pt Ls st)) (kf : ¬ x < z → B.G h cl sl (mkF m pf Ls st)) : B.G h cl sl (mkF m pc Ls (.int (XT.cmpL x z) :: st)) := by
  subst hpt hpf
  by_cases q : x < z
  · exact B.via (fun T t X r => XS.ifYes X B.1 rfl rfl (hb B.2.1 hd) rfl (XT.ll_lt_t q) ho rfl r) (kt q)
  · exact B.via (fun T t X r => XS.ifNo X B.1 rfl (hb B.2.1 hd) rfl (XT.ll_lt_f q) r) (kf q)
theorem Base.icmp_ge (B : Base p l e R s m args below meth c Z y bytes maxL ret h0 ws C) (pt pf : Nat) {o : Int} (hpt : ((pc : Int) + o).toNat = pt) (ho : 0 ≤ (pc : Int) + o) (hpf : pf = pc + 3) {x z : Int32} (hd : decode bytes pc = .ok (.if_icmp .ge o, 3)) (kt : ¬ x < z → B.G h cl sl (mkF m pt Ls st)) (kf : x < z → B.G h cl sl (mkF m pf Ls st)) : B.G h cl sl (mkF m pc Ls (.int z :: .int x :: st)) := by
  subst hpt hpf
  by_cases q : x < z
  · exact B.via (fun T t X r => XS.icmpNo X B.1 rfl (hb B.2.1 hd) rfl (XT.ii_ge_f q) r) (kf q)
  · exact B.via (fun T t X r => XS.icmpYes X B.1 rfl rfl (hb B.2.1 hd) rfl (XT.ii_ge_t q) ho rfl r) (kt q)
theorem Base.if0_ge (B : Base p l e R s m args below meth c Z y bytes maxL ret h0 ws C) (pt pf : Nat) {o : Int} (hpt : ((pc : Int) + o).toNat = pt) (ho : 0 ≤ (pc : Int) + o) (hpf : pf = pc + 3) {x : Int32} (hd : decode bytes pc = .ok (.ifCond .ge o, 3)) (kt : ¬ x < 0 → B.G h cl sl (mkF m pt Ls st)) (kf : x < 0 → B.G h cl sl (mkF m pf Ls st)) : B.G h cl sl (mkF m pc Ls (.int x :: st)) := by
  subst hpt hpf
  by_cases q : x < 0
  · exact B.via (fun T t X r => XS.ifNo X B.1 rfl (hb B.2.1 hd) rfl (XT.i0_ge_f q) r) (kf q)
  · exact B.via (fun T t X r => XS.ifYes X B.1 rfl rfl (hb B.2.1 hd) rfl (XT.i0_ge_t q) ho rfl r) (kt q)
theorem Base.lif_ge (B : Base p l e R s m args below meth c Z y bytes maxL ret h0 ws C) (pt pf : Nat) {o : Int} (hpt : ((pc : Int) + o).toNat = pt) (ho : 0 ≤ (pc : Int) + o) (hpf : pf = pc + 3) {x z : Int64} (hd : decode bytes pc = .ok (.ifCond .ge o, 3)) (kt : ¬ x < z → B.G h cl sl (mkF m pt Ls st)) (kf : x < z → B.G h cl sl (mkF m pf Ls st)) : B.G h cl sl (mkF m pc Ls (.int (XT.cmpL x z) :: st)) := by
  subst hpt hpf
  by_cases q : x < z
  · exact B.via (fun T t X r => XS.ifNo X B.1 rfl (hb B.2.1 hd) rfl (XT.ll_ge_f q) r) (kf q)
  · exact B.via (fun T t X r => XS.ifYes X B.1 rfl rfl (hb B.2.1 hd) rfl (XT.ll_ge_t q) ho rfl r) (kt q)
theorem Base.icmp_gt (B : Base p l e R s m args below meth c Z y bytes maxL ret h0 ws C) (pt pf : Nat) {o : Int} (hpt : ((pc : Int) + o).toNat = pt) (ho : 0 ≤ (pc : Int) + o) (hpf : pf = pc + 3) {x z : Int32} (hd : decode bytes pc = .ok (.if_icmp .gt o, 3)) (kt : z < x → B.G h cl sl (mkF m pt Ls st)) (kf : ¬ z < x → B.G h cl sl (mkF m pf Ls st)) : B.G h cl sl (mkF m pc Ls (.int z :: .int x :: st)) := by
  subst hpt hpf
  by_cases q : z < x
  · exact B.via (fun T t X r => XS.icmpYes X B.1 rfl rfl (hb B.2.1 hd) rfl (XT.ii_gt_t q) ho rfl r) (kt q)
  · exact B.via (fun T t X r => XS.icmpNo X B.1 rfl (hb B.2.1 hd) rfl (XT.ii_gt_f q) r) (kf q)
theorem Base.if0_gt (B : Base p l e R s m args below meth c Z y bytes maxL ret h0 ws C) (pt pf : Nat) {o : Int} (hpt : ((pc : Int) + o).toNat = pt) (ho : 0 ≤ (pc : Int) + o) (hpf : pf = pc + 3) {x : Int32} (hd : decode bytes pc = .ok (.ifCond .gt o, 3)) (kt : 0 < x → B.G h cl sl (mkF m pt Ls st)) (kf : ¬ 0 < x → B.G h cl sl (mkF m pf Ls st)) : B.G h cl sl (mkF m pc Ls (.int x :: st)) := by
  subst hpt hpf
  by_cases q : 0 < x
  · exact B.via (fun T t X r => XS.ifYes X B.1 rfl rfl (hb B.2.1 hd) rfl (XT.i0_gt_t q) ho rfl r) (kt q)
  · exact B.via (fun T t X r => XS.ifNo X B.1 rfl (hb B.2.1 hd) rfl (XT.i0_gt_f q) r) (kf q)
theorem Base.lif_gt (B : Base p l e R s m args below meth c Z y bytes maxL ret h0 ws C) (pt pf : Nat) {o : Int} (hpt : ((pc : Int) + o).toNat = pt) (ho : 0 ≤ (pc : Int) + o) (hpf : pf = pc + 3) {x z : Int64} (hd : decode bytes pc = .ok (.ifCond .gt o, 3)) (kt : z < x → B.G h cl sl (mkF m pt Ls st)) (kf : ¬ z < x → B.G h cl sl (mkF m pf Ls st)) : B.G h cl sl (mkF m pc Ls (.int (XT.cmpL x z) :: st)) := by
  subst hpt hpf
  by_cases q : z < x
  · exact B.via (fun T t X r => XS.ifYes X B.1 rfl rfl (hb B.2.1 hd) rfl (XT.ll_gt_t q) ho rfl r) (kt q)
  · exact B.via (fun T t X r => XS.ifNo X B.1 rfl (hb B.2.1 hd) rfl (XT.ll_gt_f q) r) (kf q)
theorem Base.icmp_le (B : Base p l e R s m args below meth c Z y bytes maxL ret h0 ws C) (pt pf : Nat) {o : Int} (hpt : ((pc : Int) + o).toNat = pt) (ho : 0 ≤ (pc : Int) + o) (hpf : pf = pc + 3) {x z : Int32} (hd : decode bytes pc = .ok (.if_icmp .le o, 3)) (kt : ¬ z < x → B.G h cl sl (mkF m pt Ls st)) (kf : z < x → B.G h cl sl (mkF m pf Ls st)) : B.G h cl sl (mkF m pc Ls (.int z :: .int x :: st)) := by
  subst hpt hpf
  by_cases q : z < x
  · exact B.via (fun T t X r => XS.icmpNo X B.1 rfl (hb B.2.1 hd) rfl (XT.ii_le_f q) r) (kf q)
  · exact B.via (fun T t X r => XS.icmpYes X B.1 rfl rfl (hb B.2.1 hd) rfl (XT.ii_le_t q) ho rfl r) (kt q)
theorem Base.if0_le (B : Base p l e R s m args below meth c Z y bytes maxL ret h0 ws C) (pt pf : Nat) {o : Int} (hpt : ((pc : Int) + o).toNat = pt) (ho : 0 ≤ (pc : Int) + o) (hpf : pf = pc + 3) {x : Int32} (hd : decode bytes pc = .ok (.ifCond .le o, 3)) (kt : ¬ 0 < x → B.G h cl sl (mkF m pt Ls st)) (kf : 0 < x → B.G h cl sl (mkF m pf Ls st)) : B.G h cl sl (mkF m pc Ls (.int x :: st)) := by
  subst hpt hpf
  by_cases q : 0 < x
  · exact B.via (fun T t X r => XS.ifNo X B.1 rfl (hb B.2.1 hd) rfl (XT.i0_le_f q) r) (kf q)
  · exact B.via (fun T t X r => XS.ifYes X B.1 rfl rfl (hb B.2.1 hd) rfl (XT.i0_le_t q) ho rfl r) (kt q)
theorem Base.lif_le (B : Base p l e R s m args below meth c Z y bytes maxL ret h0 ws C) (pt pf : Nat) {o : Int} (hpt : ((pc : Int) + o).toNat = pt) (ho : 0 ≤ (pc : Int) + o) (hpf : pf = pc + 3) {x z : Int64} (hd : decode bytes pc = .ok (.ifCond .le o, 3)) (kt : ¬ z < x → B.G h cl sl (mkF m pt Ls st)) (kf : z < x → B.G h cl sl (mkF m pf Ls st)) : B.G h cl sl (mkF m pc Ls (.int (XT.cmpL x z) :: st)) := by
  subst hpt hpf
  by_cases q : z < x
  · exact B.via (fun T t X r => XS.ifNo X B.1 rfl (hb B.2.1 hd) rfl (XT.ll_le_f q) r) (kf q)
  · exact B.via (fun T t X r => XS.ifYes X B.1 rfl rfl (hb B.2.1 hd) rfl (XT.ll_le_t q) ho rfl r) (kt q)
theorem Base.acmp_eq (B : Base p l e R s m args below meth c Z y bytes maxL ret h0 ws C) (pt pf : Nat) {o : Int} (hpt : ((pc : Int) + o).toNat = pt) (ho : 0 ≤ (pc : Int) + o) (hpf : pf = pc + 3) {x z : Value} (hd : decode bytes pc = .ok (.if_acmp .eq o, 3)) (hx' : x.isRef = true) (hz' : z.isRef = true) (kt : x = z → B.G h cl sl (mkF m pt Ls st)) (kf : ¬ x = z → B.G h cl sl (mkF m pf Ls st)) : B.G h cl sl (mkF m pc Ls (z :: x :: st)) := by
  subst hpt hpf
  by_cases q : x = z
  · exact B.via (fun T t X r => XT.acmpYes X B.1 rfl rfl (hb B.2.1 hd) rfl hx' hz' (XT.aa_eq_t q) ho rfl r) (kt q)
  · exact B.via (fun T t X r => XT.acmpNo X B.1 rfl (hb B.2.1 hd) rfl hx' hz' (XT.aa_eq_f q) r) (kf q)
theorem Base.acmp_ne (B : Base p l e R s m args below meth c Z y bytes maxL ret h0 ws C) (pt pf : Nat) {o : Int} (hpt : ((pc : Int) + o).toNat = pt) (ho : 0 ≤ (pc : Int) + o) (hpf : pf = pc + 3) {x z : Value} (hd : decode bytes pc = .ok (.if_acmp .ne o, 3)) (hx' : x.isRef = true) (hz' : z.isRef = true) (kt : ¬ x = z → B.G h cl sl (mkF m pt Ls st)) (kf : x = z → B.G h cl sl (mkF m pf Ls st)) : B.G h cl sl (mkF m pc Ls (z :: x :: st)) := by
  subst hpt hpf
  by_cases q : x = z
  · exact B.via (fun T t X r => XT.acmpNo X B.1 rfl (hb B.2.1 hd) rfl hx' hz' (XT.aa_ne_f q) r) (kf q)
  · exact B.via (fun T t X r => XT.acmpYes X B.1 rfl rfl (hb B.2.1 hd) rfl hx' hz' (XT.aa_ne_t q) ho rfl r) (kt q)
theorem Base.ifnull (B : Base p l e R s m args below meth c Z y bytes maxL ret h0 ws C) (pt pf : Nat) {o : Int} (hpt : ((pc : Int) + o).toNat = pt) (ho : 0 ≤ (pc : Int) + o) (hpf : pf = pc + 3) {x : Value} (hd : decode bytes pc = .ok (.ifnull o, 3)) (hx' : x.isRef = true) (kt : x = .null → B.G h cl sl (mkF m pt Ls st)) (kf : ¬ x = .null → B.G h cl sl (mkF m pf Ls st)) : B.G h cl sl (mkF m pc Ls (x :: st)) := by
  subst hpt hpf
  by_cases q : x = .null
  · exact B.via (fun T t X r => XT.nullYes X B.1 rfl rfl (hb B.2.1 hd) rfl q ho rfl r) (kt q)
  · exact B.via (fun T t X r => XT.nullNo X B.1 rfl (hb B.2.1 hd) rfl hx' q r) (kf q)
theorem Base.ifnonnull (B : Base p l e R s m args below meth c Z y bytes maxL ret h0 ws C) (pt pf : Nat) {o : Int} (hpt : ((pc : Int) + o).toNat = pt) (ho : 0 ≤ (pc : Int) + o) (hpf : pf = pc + 3) {x : Value} (hd : decode bytes pc = .ok (.ifnonnull o, 3)) (hx' : x.isRef = true) (kt : ¬ x = .null → B.G h cl sl (mkF m pt Ls st)) (kf : x = .null → B.G h cl sl (mkF m pf Ls st)) : B.G h cl sl (mkF m pc Ls (x :: st)) := by
  subst hpt hpf
  by_cases q : x = .null
  · exact B.via (fun T t X r => XT.nonnullNo X B.1 rfl (hb B.2.1 hd) rfl q r) (kf q)
  · exact B.via (fun T t X r => XT.nonnullYes X B.1 rfl rfl (hb B.2.1 hd) rfl hx' q ho rfl r) (kt q)
theorem Base.topI (B : Base p l e R s m args below meth c Z y bytes maxL ret h0 ws C) {x : Int32} (v : Int32) (q : x = v) (k : B.G h cl sl (mkF m pc Ls (.int v :: st))) : B.G h cl sl (mkF m pc Ls (.int x :: st)) := by subst q; exact k
theorem Base.topL (B : Base p l e R s m args below meth c Z y bytes maxL ret h0 ws C) {x : Int64} (v : Int64) (q : x = v) (k : B.G h cl sl (mkF m pc Ls (.long v :: st))) : B.G h cl sl (mkF m pc Ls (.long x :: st)) := by subst q; exact k
/-! 2. the ends -/
theorem Base.leave (B : Base p l e R s m args below meth c Z y bytes maxL ret h0 ws C) (hcl : cl ≤ R.cells) (hsl : sl ≤ R.slots) {v : Option Value} (hv : meth.sig.returnType = none → v = none) (hC : C v h)
    (st : ∀ (T : State) (locs : List Loc) (fs : List Frame), Stand p l e R s m args below meth c T locs cl sl → (∀ (f : JFrame) (acts : List Action), f.method = m → f.locked = none → f.entered = [] → (doReturn e (T.setTop f) acts v).1 = T.setFrames fs) → Steps p.tables e below (T.setTop g) (T.setFrames fs)) : B.G h cl sl g := fun T locs X N eT => by
  have hlk : meth.locks = false := B.2.2.2.2.2.2.1
  obtain ⟨fs, hr, hrun, hended, hW, hsame⟩ := X.leave (v := v) hv hlk
  have e0 := B.2.2.2.2.2.2.2.2
  refine ⟨_, _, st T locs fs X hr, hrun, hended, _, _, rfl, ⟨?_, N, ?_⟩, ⟨_, rfl⟩, hW, hsame.mono hcl hsl⟩
  · show C v T.heap
    rw [eT]; exact hC
  · show Keep h0 T.heap ws
    rw [← e0] at N ⊢
    exact keep_of X N
theorem Base.ret0 (B : Base p l e R s m args below meth c Z y bytes maxL none h0 ws C) (hd : decode bytes pc = .ok (.return_, 1)) (hcl : cl ≤ R.cells) (hsl : sl ≤ R.slots) (hC : C none h) : B.G h cl sl (mkF m pc Ls []) :=
  B.leave hcl hsl (fun _ => rfl) hC fun T locs fs X hr => X.returnOut B.1 B.2.2.2.2.2.1 (hb B.2.1 hd) hr
theorem Base.retI (B : Base p l e R s m args below meth c Z y bytes maxL (some .int) h0 ws C) {x : Int32} (hd : decode bytes pc = .ok (.ireturn, 1)) (hcl : cl ≤ R.cells) (hsl : sl ≤ R.slots) (hC : C (some (.int x)) h) : B.G h cl sl (mkF m pc Ls (.int x :: st)) :=
  B.leave hcl hsl (fun q => by rw [B.2.2.2.2.2.1] at q; cases q) hC fun T locs fs X hr => retOut X B.1 B.2.2.2.2.2.1 rfl (Or.inl ⟨rfl, Or.inl rfl, _, rfl⟩) (hb B.2.1 hd) hr
theorem Base.retL (B : Base p l e R s m args below meth c Z y bytes maxL (some .long) h0 ws C) {x : Int64} (hd : decode bytes pc = .ok (.lreturn, 1)) (hcl : cl ≤ R.cells) (hsl : sl ≤ R.slots) (hC : C (some (.long x)) h) : B.G h cl sl (mkF m pc Ls (.long x :: st)) :=
  B.leave hcl hsl (fun q => by rw [B.2.2.2.2.2.1] at q; cases q) hC fun T locs fs X hr => retOut X B.1 B.2.2.2.2.2.1 rfl (Or.inr (Or.inl ⟨rfl, rfl, _, rfl⟩)) (hb B.2.1 hd) hr
/-- a boolean, byte, char, short: what comes back is narrowed -/
theorem Base.retN {t : FieldType} (B : Base p l e R s m args below meth c Z y bytes maxL (some t) h0 ws C) {x : Int32} (ht : t = .boolean ∨ t = .byte ∨ t = .char ∨ t = .short) (hd : decode bytes pc = .ok (.ireturn, 1)) (hcl : cl ≤ R.cells) (hsl : sl ≤ R.slots) (hC : C (some (.int (nar t x))) h) : B.G h cl sl (mkF m pc Ls (.int x :: st)) :=
  B.leave hcl hsl (fun q => by rw [B.2.2.2.2.2.1] at q; cases q) hC fun T locs fs X hr => Jvm.RoadKit.retN X B.1 B.2.2.2.2.2.1 ht (hb B.2.1 hd) hr
theorem Base.retA {t : FieldType} (B : Base p l e R s m args below meth c Z y bytes maxL (some t) h0 ws C) {x : Value} (ht : t.isReference = true) (hx' : x.isRef = true) (hd : decode bytes pc = .ok (.areturn, 1)) (hcl : cl ≤ R.cells) (hsl : sl ≤ R.slots) (hC : C (some x) h) : B.G h cl sl (mkF m pc Ls (x :: st)) :=
  B.leave hcl hsl (fun q => by rw [B.2.2.2.2.2.1] at q; cases q) hC fun T locs fs X hr => retOut X B.1 B.2.2.2.2.2.1 (by rcases ref_cases hx' with rfl | ⟨a, rfl⟩ <;> cases t <;> simp_all [narrow, FieldType.isReference]) (Or.inr (Or.inr (Or.inr (Or.inr ⟨rfl, ht, hx'⟩)))) (hb B.2.1 hd) hr
/-! 3. the heap -/
theorem Base.size (B : Base p l e R s m args below meth c Z y bytes maxL ret h0 ws C) {T : State} {locs : List Loc} (X : Stand p l e R s m args below meth c T locs cl sl) : h0.size ≤ T.heap.size := by
  have q := X.same.2.1
  rw [B.2.2.2.2.2.2.2.2] at q; exact q
/-- the heap has only grown -/
theorem Base.grown (B : Base p l e R s m args below meth c Z y bytes maxL ret h0 ws C) (k : h0.size ≤ h.size → B.G h cl sl g) : B.G h cl sl g := fun T locs X N eT => k (by rw [← eT]; exact B.size X) T locs X N eT
theorem Base.getF (B : Base p l e R s m args below meth c Z y bytes maxL ret h0 ws C) (pc' : Nat) (hp : pc' = pc + 3) {i : Nat} {O n d : String} {a : Addr} {v : Value} (hd : decode bytes pc = .ok (.getfield i, 3)) (w : (Cond.fieldLink y.cls i O n d).before a0 Z = true) (F : Fld Z h a O n d v) (k : B.G h cl sl (mkF m pc' Ls (v :: st))) : B.G h cl sl (mkF m pc Ls (.ref a :: st)) := fun T locs X N eT => by
  subst hp
  obtain ⟨T', X', e', stp⟩ := Jvm.RoadKit.getF X B.1 B.2.2.2.1 B.2.2.2.2.1 (host := "") (Or.inl w) Via.refl eT F (g := mkF m pc Ls (.ref a :: st)) rfl rfl (hb B.2.1 hd)
  obtain ⟨t, o, q, r⟩ := k T' locs X' N e'
  exact ⟨t, o, stp _ q, r⟩
theorem Base.getS (B : Base p l e R s m args below meth c Z y bytes maxL ret h0 ws C) (pc' : Nat) (hp : pc' = pc + 3) {i : Nat} {O n d : String} {v : Value} (hd : decode bytes pc = .ok (.getstatic i, 3)) (w : (Cond.fieldLink y.cls i O n d).before a0 Z = true) (F : Sta Z h O n d v) (k : B.G h cl sl (mkF m pc' Ls (v :: st))) : B.G h cl sl (mkF m pc Ls st) := fun T locs X N eT => by
  subst hp
  obtain ⟨T', X', e', stp⟩ := Jvm.RoadKit.getS (host := "") X B.1 B.2.2.2.1 B.2.2.2.2.1 w Via.refl eT F (g := mkF m pc Ls st) rfl (hb B.2.1 hd)
  obtain ⟨t, o, q, r⟩ := k T' locs X' N e'
  exact ⟨t, o, stp _ q, r⟩
theorem Base.putF (B : Base p l e R s m args below meth c Z y bytes maxL ret h0 ws C) (pc' : Nat) (hp : pc' = pc + 3) {i kk : Nat} {O n d CC : String} {a : Addr} {v old : Value} {ty : FieldType} (hd : decode bytes pc = .ok (.putfield i, 3)) (w : (Cond.fieldLink y.cls i O n d).before a0 Z = true) (F : Fld Z h a O n d old) (E : Exa Z h a CC)
    (L : (Cond.lays CC O n d).before a0 Z = true ∨ ((Cond.laysFinal CC O n d).before a0 Z = true ∧ y.cls = O ∧ y.name = "<init>")) (wi : (Cond.instantiable CC kk).before a0 Z = true) (hty : parseFieldDescriptor d = some ty) (hn : narrow ty v = v) (hf : fits ty v = true) (hw : a ∈ ws ∨ h0.size ≤ a)
    (k : ∀ h', Wr h h' a (Jvm.RoadKit.slotOf Z O n d) v → B.G h' cl sl (mkF m pc' Ls st)) : B.G h cl sl (mkF m pc Ls (v :: .ref a :: st)) := fun T locs X N eT => by
  subst hp
  obtain ⟨T', h', X', e', W, stp⟩ := Jvm.RoadKit.putF X B.1 B.2.2.2.1 B.2.2.2.2.1 (host := "") (Or.inl w) Via.refl eT F E (L.imp id fun q => ⟨q.1, q.2.1, B.2.2.2.2.2.2.2.1.trans q.2.2⟩) wi hty hn hf (g := mkF m pc Ls (v :: .ref a :: st)) rfl rfl (hb B.2.1 hd)
  obtain ⟨t, o, q, r⟩ := k h' W T' _ X' (N.one hw) e'
  exact ⟨t, o, stp _ q, r⟩
theorem Base.newO (B : Base p l e R s m args below meth c Z y bytes maxL ret h0 ws C) (pc' : Nat) (hp : pc' = pc + 3) {i n : Nat} {CC : String} (hd : decode bytes pc = .ok (.new i, 3)) (w : (Cond.classLink y.cls i CC).before a0 Z = true) (wi : (Cond.instantiable CC n).before a0 Z = true) (wz : (Cond.initialized CC).before a0 Z = true) (hc : cl + 1 ≤ R.cells) (hs : sl + n ≤ R.slots)
    (k : ∀ h' a, a = h.size → h0.size ≤ a → Ext h h' → Exa Z h' a CC → (∀ {O nm d : String} {ty : FieldType}, Laid Z a0 CC O nm d → parseFieldDescriptor d = some ty → Fld Z h' a O nm d (defaultValue ty)) → B.G h' (cl + 1) (sl + n) (mkF m pc' Ls (.ref a :: st))) : B.G h cl sl (mkF m pc Ls st) := fun T locs X N eT => by
  subst hp
  obtain ⟨T', h', X', e', E, A, D, -, stp⟩ := Jvm.RoadKit.newO X B.1 B.2.2.2.1 B.2.2.2.2.1 w wi wz eT (g := mkF m pc Ls st) rfl (hb B.2.1 hd) hc hs
  obtain ⟨t, o, q, r⟩ := k h' _ rfl (by rw [← eT]; exact B.size X) E A D T' locs X' N e'
  exact ⟨t, o, stp _ q, r⟩
theorem Base.initO (B : Base p l e R s m args below meth c Z y bytes maxL ret h0 ws C) (pc' : Nat) (hp : pc' = pc + 3) {i : Nat} {a : Addr} (hd : decode bytes pc = .ok (.invokespecial i, 3)) (w1 : (Cond.methodLink y.cls i Lib.objectInit).before a0 Z = true) (w2 : (Cond.instanceMethod Lib.objectInit).before a0 Z = true) (w3 : (Cond.code Lib.objectInit ⟨#[0xb1]⟩ 1 none).before a0 Z = true)
    (hLs : Ls.size = maxL) (W : Nat) (hW : (st.map fun v => v.category).sum = W) (hf : 1 ≤ R.frames) (hl : W + 12 ≤ R.locals) (k : B.G h cl sl (mkF m pc' Ls st)) : B.G h cl sl (mkF m pc Ls (.ref a :: st)) := fun T locs X N eT => by
  subst hp
  obtain ⟨T', X', e', stp⟩ := Jvm.RoadKit.initO X B.1 B.2.2.2.1 B.2.2.2.2.1 w1 w2 w3 eT (g := mkF m pc Ls (.ref a :: st)) rfl (hLs.trans B.2.2.1.symm) rfl (hb B.2.1 hd) hf (W := W) (by show 2 * 0 + _ ≤ _; omega) hl
  obtain ⟨t, o, q, r⟩ := k T' locs X' N e'
  exact ⟨t, o, stp _ q, r⟩
/-! 4. calls -/
section Calls
variable {z : MethodName} {i : Nat} {cb : ByteArray} {cm : Nat} {cr : Option FieldType} {rm : Room} {as : Array Value} {ws' : List Addr} {C' : Option Value → Heap → Prop} {argsL rest : List Value} {ps : List FieldType} {rt : Option FieldType} {W : Nat}
theorem Base.callS (B : Base p l e R s m args below meth c Z y bytes maxL ret h0 ws C) (pc' : Nat) (hp : pc' = pc + 3) (hd : decode bytes pc = .ok (.invokestatic i, 3))
    (w1 : (Cond.methodLink y.cls i z).before a0 Z = true) (w2 : (Cond.static z).before a0 Z = true) (w3 : (Cond.initialized z.cls).before a0 Z = true) (w4 : (Cond.code z cb cm cr).before a0 Z = true)
    (hz : z.cls ≠ "java/lang/invoke/MethodHandle" ∧ z.cls ≠ "java/lang/invoke/VarHandle") (argsL rest : List Value) (M : Met l Z z cb cm cr [] rm as h ws' C') (has : argsL.toArray = as) (hst : st = argsL.reverse ++ rest) (hpd : parseMethodDescriptor z.desc = some ⟨ps, rt⟩) (hlen : argsL.length = ps.length) (hLs : Ls.size = maxL)
    (W : Nat) (hW : (rest.map fun v => v.category).sum = W) (hf : rm.frames + 1 ≤ R.frames) (hl : W + (cm + 11) + rm.locals ≤ R.locals) (hc : cl + rm.cells ≤ R.cells) (hs : sl + rm.slots ≤ R.slots) (hws : ∀ x ∈ ws', x ∈ ws ∨ h0.size ≤ x)
    (k : ∀ v h', Keep h h' ws' → C' v h' → B.G h' (cl + rm.cells) (sl + rm.slots) (mkF m pc' Ls (v.toList ++ rest))) : B.G h cl sl (mkF m pc Ls st) := fun T locs X N eT => by
  subst hp
  have hZ := B.2.2.2.1
  obtain ⟨v, _, ⟨T', L', k', n'⟩, -, X', ⟨Lc, hQ, l', y', z'⟩, stp⟩ := Jvm.LawKit.callS X B.1 (y := z) B.2.2.2.2.1 (mvT hZ w1) (mvT hZ w2) (mvT hZ w3) (mvT hZ w4) hz (backOf (W := W) M hZ w4 w3 hf hl) (g := mkF m pc Ls st) rfl (hLs.trans B.2.2.1.symm) (argsL := argsL) (rest := rest) (lenOf hpd hlen) hst (by show 2 * 0 + _ ≤ _; omega) (hb B.2.1 hd) (fun _ _ => ⟨has, eT, hc, hs⟩)
  dsimp only [Pt.U, Pt.locs, Pt.cells, Pt.slots] at X' l' y' z' stp hQ
  subst l' y' z'
  obtain ⟨hC, hN, hK⟩ := hQ
  obtain ⟨t, o, q, r⟩ := k v T'.heap hK hC T' _ X' (N.app fun u hu => (hN u hu).elim (fun q => hws _ q) fun q => Or.inr (Nat.le_trans (by rw [← eT]; exact B.size X) q)) rfl
  exact ⟨t, o, stp _ q, r⟩
theorem Base.callI (B : Base p l e R s m args below meth c Z y bytes maxL ret h0 ws C) (pc' : Nat) (hp : pc' = pc + 3) (hd : decode bytes pc = .ok (.invokespecial i, 3)) (hin : z.name = "<init>")
    (w1 : (Cond.methodLink y.cls i z).before a0 Z = true) (w2 : (Cond.instanceMethod z).before a0 Z = true) (w3 : (Cond.initialized z.cls).before a0 Z = true) (w4 : (Cond.code z cb cm none).before a0 Z = true)
    (hz : z.cls ≠ "java/lang/invoke/MethodHandle" ∧ z.cls ≠ "java/lang/invoke/VarHandle") {a : Addr} (argsL rest : List Value) (M : Met l Z z cb cm none [] rm as h ws' C') (has : (.ref a :: argsL).toArray = as) (hst : st = argsL.reverse ++ .ref a :: rest) (hpd : parseMethodDescriptor z.desc = some ⟨ps, rt⟩) (hlen : argsL.length = ps.length) (hLs : Ls.size = maxL)
    (W : Nat) (hW : (rest.map fun v => v.category).sum = W) (hf : rm.frames + 1 ≤ R.frames) (hl : W + (cm + 11) + rm.locals ≤ R.locals) (hc : cl + rm.cells ≤ R.cells) (hs : sl + rm.slots ≤ R.slots) (hws : ∀ x ∈ ws', x ∈ ws ∨ h0.size ≤ x)
    (k : ∀ v h', Keep h h' ws' → C' v h' → B.G h' (cl + rm.cells) (sl + rm.slots) (mkF m pc' Ls (v.toList ++ rest))) : B.G h cl sl (mkF m pc Ls st) := fun T locs X N eT => by
  subst hp
  have hZ := B.2.2.2.1
  obtain ⟨v, _, ⟨T', L', k', n'⟩, -, X', ⟨Lc, hQ, l', y', z'⟩, stp⟩ := X.specialBack B.1 (y := z) hin B.2.2.2.2.1 (mvT hZ w1) (mvT hZ w2) (mvT hZ w4) hz (backOf (W := W) M hZ w4 w3 hf hl) (g := mkF m pc Ls st) rfl (hLs.trans B.2.2.1.symm) (Steps.refl _) (a := a) (argsL := argsL) (rest := rest) (lenOf hpd hlen) hst (by show 2 * 0 + _ ≤ _; omega) (hb B.2.1 hd) (fun _ _ => ⟨has, eT, hc, hs⟩)
  dsimp only [Pt.U, Pt.locs, Pt.cells, Pt.slots] at X' l' y' z' stp hQ
  subst l' y' z'
  obtain ⟨hC, hN, hK⟩ := hQ
  obtain ⟨t, o, q, r⟩ := k v T'.heap hK hC T' _ X' (N.app fun u hu => (hN u hu).elim (fun q => hws _ q) fun q => Or.inr (Nat.le_trans (by rw [← eT]; exact B.size X) q)) rfl
  exact ⟨t, o, stp.trans q, r⟩
theorem Base.callV (B : Base p l e R s m args below meth c Z y bytes maxL ret h0 ws C) (pc' : Nat) (hp : pc' = pc + 3) (hd : decode bytes pc = .ok (.invokevirtual i, 3)) {CC : String}
    (w1 : (Cond.methodLink y.cls i z).before a0 Z = true) (w2 : (Cond.declares z).before a0 Z = true) (w5 : (Cond.selects CC z z).before a0 Z = true) (w6 : (Cond.instanceMethod z).before a0 Z = true) (w3 : (Cond.initialized z.cls).before a0 Z = true) (w4 : (Cond.code z cb cm cr).before a0 Z = true)
    (hz : z.cls ≠ "java/lang/invoke/MethodHandle" ∧ z.cls ≠ "java/lang/invoke/VarHandle") {a : Addr} (E : Exa Z h a CC) (argsL rest : List Value) (M : Met l Z z cb cm cr [] rm as h ws' C') (has : (.ref a :: argsL).toArray = as) (hst : st = argsL.reverse ++ .ref a :: rest) (hpd : parseMethodDescriptor z.desc = some ⟨ps, rt⟩) (hlen : argsL.length = ps.length) (hLs : Ls.size = maxL)
    (W : Nat) (hW : (rest.map fun v => v.category).sum = W) (hf : rm.frames + 1 ≤ R.frames) (hl : W + (cm + 11) + rm.locals ≤ R.locals) (hc : cl + rm.cells ≤ R.cells) (hs : sl + rm.slots ≤ R.slots) (hws : ∀ x ∈ ws', x ∈ ws ∨ h0.size ≤ x)
    (k : ∀ v h', Keep h h' ws' → C' v h' → B.G h' (cl + rm.cells) (sl + rm.slots) (mkF m pc' Ls (v.toList ++ rest))) : B.G h cl sl (mkF m pc Ls st) := fun T locs X N eT => by
  subst hp
  have hZ := B.2.2.2.1
  obtain ⟨cq, kq, qa, qb, qc⟩ := isOf hZ eT E
  obtain ⟨v, _, ⟨T', L', k', n'⟩, -, X', ⟨Lc, hQ, l', y', z'⟩, stp⟩ := X.virtualBack B.1 (y := z) (z := z) B.2.2.2.2.1 (mvT hZ w1) (mvT hZ w2) (notFace_of_selects (args := args) (mvT hZ w5)) (mvT hZ w5) (mvT hZ w6) hz (backOf (W := W) M hZ w4 w3 hf hl) qa qc (g := mkF m pc Ls st) rfl (hLs.trans B.2.2.1.symm) (Steps.refl _) (argsL := argsL) (rest := rest) (lenOf hpd hlen) hst (by show 2 * 0 + _ ≤ _; omega) (hb B.2.1 hd) (fun _ _ => ⟨has, eT, hc, hs⟩)
  dsimp only [Pt.U, Pt.locs, Pt.cells, Pt.slots] at X' l' y' z' stp hQ
  subst l' y' z'
  obtain ⟨hC, hN, hK⟩ := hQ
  obtain ⟨t, o, q, r⟩ := k v T'.heap hK hC T' _ X' (N.app fun u hu => (hN u hu).elim (fun q => hws _ q) fun q => Or.inr (Nat.le_trans (by rw [← eT]; exact B.size X) q)) rfl
  exact ⟨t, o, stp.trans q, r⟩
theorem Base.callVU (B : Base p l e R s m args below meth c Z y bytes maxL ret h0 ws C) (pc' : Nat) (hp : pc' = pc + 3) (hd : decode bytes pc = .ok (.invokevirtual i, 3)) {x : MethodName} {CC ow : String}
    (w1 : (Cond.methodLink y.cls i x).before a0 Z = true) (w0 : (Cond.sameMethod x.cls ow x.name x.desc).before a0 Z = true) (w2 : (Cond.declares ⟨ow, x.name, x.desc⟩).before a0 Z = true) (w5 : (Cond.selects CC x z).before a0 Z = true) (w6 : (Cond.instanceMethod z).before a0 Z = true) (w3 : (Cond.initialized z.cls).before a0 Z = true) (w4 : (Cond.code z cb cm cr).before a0 Z = true)
    (hz : ow ≠ "java/lang/invoke/MethodHandle" ∧ ow ≠ "java/lang/invoke/VarHandle") {a : Addr} (E : Exa Z h a CC) (argsL rest : List Value) (M : Met l Z z cb cm cr [] rm as h ws' C') (has : (.ref a :: argsL).toArray = as) (hst : st = argsL.reverse ++ .ref a :: rest) (hpd : parseMethodDescriptor x.desc = some ⟨ps, rt⟩) (hlen : argsL.length = ps.length) (hLs : Ls.size = maxL)
    (W : Nat) (hW : (rest.map fun v => v.category).sum = W) (hf : rm.frames + 1 ≤ R.frames) (hl : W + (cm + 11) + rm.locals ≤ R.locals) (hc : cl + rm.cells ≤ R.cells) (hs : sl + rm.slots ≤ R.slots) (hws : ∀ x ∈ ws', x ∈ ws ∨ h0.size ≤ x)
    (k : ∀ v h', Keep h h' ws' → C' v h' → B.G h' (cl + rm.cells) (sl + rm.slots) (mkF m pc' Ls (v.toList ++ rest))) : B.G h cl sl (mkF m pc Ls st) := fun T locs X N eT => by
  subst hp
  have hZ := B.2.2.2.1
  obtain ⟨cq, kq, qa, qb, qc⟩ := isOf hZ eT E
  obtain ⟨v, _, ⟨T', L', k', n'⟩, -, X', ⟨Lc, hQ, l', y', z'⟩, stp⟩ := X.virtualBackUp B.1 (x := x) (y := z) B.2.2.2.2.1 (mvT hZ w1) (mvT hZ w0) (mvT hZ w2) hz (mvT hZ w5) (mvT hZ w6) (backOf (W := W) M hZ w4 w3 hf hl) qa qc (g := mkF m pc Ls st) rfl (hLs.trans B.2.2.1.symm) (Steps.refl _) (argsL := argsL) (rest := rest) (lenOf hpd hlen) hst (by show 2 * 0 + _ ≤ _; omega) (hb B.2.1 hd) (fun _ _ => ⟨has, eT, hc, hs⟩)
  dsimp only [Pt.U, Pt.locs, Pt.cells, Pt.slots] at X' l' y' z' stp hQ
  subst l' y' z'
  obtain ⟨hC, hN, hK⟩ := hQ
  obtain ⟨t, o, q, r⟩ := k v T'.heap hK hC T' _ X' (N.app fun u hu => (hN u hu).elim (fun q => hws _ q) fun q => Or.inr (Nat.le_trans (by rw [← eT]; exact B.size X) q)) rfl
  exact ⟨t, o, stp.trans q, r⟩
theorem Base.callP (B : Base p l e R s m args below meth c Z y bytes maxL ret h0 ws C) (pc' : Nat) (hp : pc' = pc + 3) (hd : decode bytes pc = .ok (.invokevirtual i, 3)) {x : MethodName} {CC : String}
    (w1 : (Cond.methodLink y.cls i z).before a0 Z = true) (w7 : (Cond.privateMethod z).before a0 Z = true) (w6 : (Cond.instanceMethod z).before a0 Z = true) (w5 : (Cond.selects CC x x).before a0 Z = true) (hxc : x.cls = z.cls) (w3 : (Cond.initialized z.cls).before a0 Z = true) (w4 : (Cond.code z cb cm cr).before a0 Z = true)
    (hz : z.cls ≠ "java/lang/invoke/MethodHandle" ∧ z.cls ≠ "java/lang/invoke/VarHandle") {a : Addr} {CE : String} (E : Exa Z h a CE) (argsL rest : List Value) (M : Met l Z z cb cm cr [] rm as h ws' C') (has : (.ref a :: argsL).toArray = as) (hst : st = argsL.reverse ++ .ref a :: rest) (hpd : parseMethodDescriptor z.desc = some ⟨ps, rt⟩) (hlen : argsL.length = ps.length) (hLs : Ls.size = maxL)
    (W : Nat) (hW : (rest.map fun v => v.category).sum = W) (hf : rm.frames + 1 ≤ R.frames) (hl : W + (cm + 11) + rm.locals ≤ R.locals) (hc : cl + rm.cells ≤ R.cells) (hs : sl + rm.slots ≤ R.slots) (hws : ∀ x ∈ ws', x ∈ ws ∨ h0.size ≤ x)
    (k : ∀ v h', Keep h h' ws' → C' v h' → B.G h' (cl + rm.cells) (sl + rm.slots) (mkF m pc' Ls (v.toList ++ rest))) : B.G h cl sl (mkF m pc Ls st) := fun T locs X N eT => by
  subst hp
  have hZ := B.2.2.2.1
  obtain ⟨cq, q1, q2⟩ := E.cell
  have hpr : s.PrivateAt z := Cond.privateMethod_at (mvP hZ w7 (args := args))
  have hi : (Cond.instanceMethod z).before args s = true := mvT hZ w6
  have hsel : (Cond.selects z.cls z z).before args s = true := by
    obtain ⟨c2, r2, m2, -, -, q3, -, kP, hkP, hkPi⟩ := Cond.selects_spec (mvT hZ w5 (args := args))
    have hc2 := findClass_of_methodNamed q3
    rw [hxc] at hc2
    exact selects_self_of_private hc2 hkP hkPi hpr hi hz
  obtain ⟨v, _, ⟨T', L', k', n'⟩, -, X', ⟨Lc, hQ, l', y', z'⟩, stp⟩ := X.privateBack B.1 (y := z) B.2.2.2.2.1 (mvT hZ w1) hi hsel hpr (mvT hZ w4) hz (backOf (W := W) M hZ w4 w3 hf hl) (g := mkF m pc Ls st) rfl (hLs.trans B.2.2.1.symm) (Steps.refl _) (a := a) (by rw [eT]; exact q1) q2 (argsL := argsL) (rest := rest) (lenOf hpd hlen) hst (by show 2 * 0 + _ ≤ _; omega) (hb B.2.1 hd) (fun _ _ => ⟨has, eT, hc, hs⟩)
  dsimp only [Pt.U, Pt.locs, Pt.cells, Pt.slots] at X' l' y' z' stp hQ
  subst l' y' z'
  obtain ⟨hC, hN, hK⟩ := hQ
  obtain ⟨t, o, q, r⟩ := k v T'.heap hK hC T' _ X' (N.app fun u hu => (hN u hu).elim (fun q => hws _ q) fun q => Or.inr (Nat.le_trans (by rw [← eT]; exact B.size X) q)) rfl
  exact ⟨t, o, stp.trans q, r⟩
end Calls
/-- where nothing old is written, all that stood at the start stands -/
theorem Base.olds (B : Base p l e R s m args below meth c Z y bytes maxL ret h0 [] C) (k : Ext h0 h → B.G h cl sl g) : B.G h cl sl g := fun T locs X N eT => by
  refine k ?_ T locs X N eT
  have e0 := B.2.2.2.2.2.2.2.2
  have N' := N
  rw [← e0] at N'
  have q := keep_of X N'
  rw [e0, eT] at q
  exact ⟨q.1, fun a c hc => q.2.1 a c hc (by simp)⟩
end Walk
/-! 3b. arrays: 'Ary': the array at a holds just the list vs -/
def Ary (Z : State) (h : Heap) (a : Addr) (ty : FieldType) (vs : List Value) : Prop := ∃ c : Cell, Arr Z h a c ty ∧ c.slots.toList = vs
section Arrays
variable {p : Program} {l : Launch} {e : Env} {R : Room} {s : State} {m : MethodId} {args : Array Value} {below : List Frame} {meth : Method} {c : Code} {Z : State} {a0 : Array Value} {y : MethodName} {bytes : ByteArray} {maxL : Nat} {ret : Option FieldType} {h0 : Heap} {ws : List Addr} {C : Option Value → Heap → Prop}
variable {h h' : Heap} {cl sl : Nat} {g g' : JFrame} {pc : Nat} {Ls : Array Slot} {st : List Value} {a b : Addr} {ty : FieldType} {vs : List Value} {j : Int32} {i : Nat} {v w : Value} {wl : List Addr}
theorem Ary.lt (A : Ary Z h a ty vs) : a < h.size := by obtain ⟨c, A, -⟩ := A; exact A.lt
theorem Ary.ext (A : Ary Z h a ty vs) (E : Ext h h') : Ary Z h' a ty vs := by obtain ⟨c, A, r⟩ := A; exact ⟨c, A.ext E, r⟩
theorem Ary.other (A : Ary Z h b ty vs) (W : Wr h h' a i v) (q : b ≠ a) : Ary Z h' b ty vs := by obtain ⟨c, A, r⟩ := A; exact ⟨c, A.other W q, r⟩
theorem Ary.keep (A : Ary Z h a ty vs) (K : Keep h h' wl) (q : a ∉ wl) : Ary Z h' a ty vs := by obtain ⟨c, A, r⟩ := A; exact ⟨c, ⟨K.2.1 a c A.1 q, A.2⟩, r⟩
theorem Ary.set (A : Ary Z h a ty vs) (W : Wr h h' a i v) : Ary Z h' a ty (vs.set i v) := by
  obtain ⟨c, A, rfl⟩ := A
  exact ⟨_, A.same W, by simp [Cell.setSlot]⟩
theorem Ary.new {cA : ClassId} {n : Int32} (A : Arr Z h a (newA cA ty n) ty) : Ary Z h a ty (List.replicate n.toNatClampNeg (defaultValue ty)) := ⟨_, A, by simp [newA]⟩
theorem ary_in {c : Cell} (r : c.slots.toList = vs) (hj : ¬ j < 0) (hi : j.toNatClampNeg = i) (hv : vs[i]? = some v) : ¬ (j < 0 ∨ c.slots.size ≤ j.toNatClampNeg) ∧ c.slots[j.toNatClampNeg]? = some v := by
  subst r hi
  rw [Array.getElem?_toList] at hv
  exact ⟨fun q => q.elim hj fun q => absurd (Array.getElem?_eq_some_iff.mp hv).1 (Nat.not_lt.mpr q), hv⟩
theorem ary_lt {c : Cell} (r : c.slots.toList = vs) (hj : ¬ j < 0) (hi : j.toNatClampNeg = i) (hv : i < vs.length) : ¬ (j < 0 ∨ c.slots.size ≤ j.toNatClampNeg) := by
  subst r hi
  rw [Array.length_toList] at hv
  exact fun q => q.elim hj fun q => absurd hv (Nat.not_lt.mpr q)
theorem Base.arrlen (B : Base p l e R s m args below meth c Z y bytes maxL ret h0 ws C) (pc' : Nat) (hp : pc' = pc + 1) (hd : decode bytes pc = .ok (.arraylength, 1)) (A : Ary Z h a ty vs) (n : Int32) (hn : vs.length.toInt32 = n) (k : B.G h cl sl (mkF m pc' Ls (.int n :: st))) : B.G h cl sl (mkF m pc Ls (.ref a :: st)) := by
  subst hp hn
  obtain ⟨c1, A, rfl⟩ := A
  rw [Array.length_toList] at k
  exact B.viaX (fun T t L X eT r => X.arraylength (g := mkF m pc Ls (.ref a :: st)) B.1 (by rw [eT]; exact A.1) (State.isArrayOf_alike (T := s) B.2.2.2.1.alike A.2.1) rfl rfl (hb B.2.1 hd) t r) k
theorem Base.baload (B : Base p l e R s m args below meth c Z y bytes maxL ret h0 ws C) (pc' : Nat) (hp : pc' = pc + 1) (hd : decode bytes pc = .ok (.baload, 1)) (A : Ary Z h a .byte vs) (hj : ¬ j < 0) (i : Nat) (hi : j.toNatClampNeg = i) (v : Value) (hv : vs[i]? = some v) (k : B.G h cl sl (mkF m pc' Ls (v :: st))) : B.G h cl sl (mkF m pc Ls (.int j :: .ref a :: st)) := by
  subst hp
  obtain ⟨c1, A, r⟩ := A
  obtain ⟨q1, q2⟩ := ary_in r hj hi hv
  exact B.viaX (fun T t L X eT r => X.baloadBytes (g := mkF m pc Ls (.int j :: .ref a :: st)) B.1 (by rw [eT]; exact A.1) (State.isArrayOf_alike (T := s) B.2.2.2.1.alike A.2.1) A.2.2 q1 q2 rfl rfl (hb B.2.1 hd) t r) k
theorem Base.iaload (B : Base p l e R s m args below meth c Z y bytes maxL ret h0 ws C) (pc' : Nat) (hp : pc' = pc + 1) (hd : decode bytes pc = .ok (.iaload, 1)) (A : Ary Z h a .int vs) (hj : ¬ j < 0) (i : Nat) (hi : j.toNatClampNeg = i) (v : Value) (hv : vs[i]? = some v) (k : B.G h cl sl (mkF m pc' Ls (v :: st))) : B.G h cl sl (mkF m pc Ls (.int j :: .ref a :: st)) := by
  subst hp
  obtain ⟨c1, A, r⟩ := A
  obtain ⟨q1, q2⟩ := ary_in r hj hi hv
  exact B.viaX (fun T t L X eT r => X.iaload (g := mkF m pc Ls (.int j :: .ref a :: st)) B.1 (by rw [eT]; exact A.1) (State.isArrayOf_alike (T := s) B.2.2.2.1.alike A.2.1) A.2.2 q1 q2 rfl rfl (hb B.2.1 hd) t r) k
theorem Base.laload (B : Base p l e R s m args below meth c Z y bytes maxL ret h0 ws C) (pc' : Nat) (hp : pc' = pc + 1) (hd : decode bytes pc = .ok (.laload, 1)) (A : Ary Z h a .long vs) (hj : ¬ j < 0) (i : Nat) (hi : j.toNatClampNeg = i) (v : Value) (hv : vs[i]? = some v) (k : B.G h cl sl (mkF m pc' Ls (v :: st))) : B.G h cl sl (mkF m pc Ls (.int j :: .ref a :: st)) := by
  subst hp
  obtain ⟨c1, A, r⟩ := A
  obtain ⟨q1, q2⟩ := ary_in r hj hi hv
  exact B.viaX (fun T t L X eT r => X.laload (g := mkF m pc Ls (.int j :: .ref a :: st)) B.1 (by rw [eT]; exact A.1) (State.isArrayOf_alike (T := s) B.2.2.2.1.alike A.2.1) A.2.2 q1 q2 rfl rfl (hb B.2.1 hd) t r) k
theorem Base.newP (B : Base p l e R s m args below meth c Z y bytes maxL ret h0 ws C) (pc' : Nat) (hp : pc' = pc + 2) {aty : ArrayType} (hd : decode bytes pc = .ok (.newarray aty, 2)) (w : (Cond.arrayClass (newarray.typeOf aty)).before a0 Z = true) {n : Int32} (hn : ¬ n < 0) (cap : Nat) (hcap : n.toNatClampNeg ≤ cap) (hb' : cap * 8 ≤ 536870912) (hc : cl + 1 ≤ R.cells) (hs : sl + cap ≤ R.slots)
    (k : ∀ h' a, a = h.size → h0.size ≤ a → Ext h h' → Ary Z h' a (newarray.typeOf aty) (List.replicate n.toNatClampNeg (defaultValue (newarray.typeOf aty))) → B.G h' (cl + 1) (sl + cap) (mkF m pc' Ls (.ref a :: st))) : B.G h cl sl (mkF m pc Ls (.int n :: st)) := fun T locs X N eT => by
  subst hp
  obtain ⟨T', h', cA, X', e', E, A, stp⟩ := Jvm.RoadKit.newP X B.1 B.2.2.2.1 w eT (g := mkF m pc Ls (.int n :: st)) rfl (hb B.2.1 hd) rfl hn hcap hb' hc hs
  obtain ⟨t, o, q, r⟩ := k h' _ rfl (by rw [← eT]; exact B.size X) E (Ary.new A) T' locs X' N e'
  exact ⟨t, o, stp _ q, r⟩
theorem Base.bastore (B : Base p l e R s m args below meth c Z y bytes maxL ret h0 ws C) (pc' : Nat) (hp : pc' = pc + 1) (hd : decode bytes pc = .ok (.bastore, 1)) (A : Ary Z h a .byte vs) (hj : ¬ j < 0) (i : Nat) (hi : j.toNatClampNeg = i) (hlt : i < vs.length) (hw : a ∈ ws ∨ h0.size ≤ a) {x : Int32} (k : ∀ h', Wr h h' a i (.int x.toInt8.toInt32) → Ary Z h' a .byte (vs.set i (.int x.toInt8.toInt32)) → B.G h' cl sl (mkF m pc' Ls st)) : B.G h cl sl (mkF m pc Ls (.int x :: .int j :: .ref a :: st)) := fun T locs X N eT => by
  subst hp
  obtain ⟨c1, A1, r1⟩ := A
  obtain ⟨T', h', X', e', W, stp⟩ := stB X B.1 B.2.2.2.1 eT A1 (ary_lt r1 hj hi hlt) (g := mkF m pc Ls (.int x :: .int j :: .ref a :: st)) rfl rfl (hb B.2.1 hd)
  rw [hi] at W
  obtain ⟨t, o, q, r⟩ := k h' W (Ary.set ⟨c1, A1, r1⟩ W) T' _ X' (N.one hw) e'
  exact ⟨t, o, stp _ q, r⟩
theorem Base.iastore (B : Base p l e R s m args below meth c Z y bytes maxL ret h0 ws C) (pc' : Nat) (hp : pc' = pc + 1) (hd : decode bytes pc = .ok (.iastore, 1)) (A : Ary Z h a .int vs) (hj : ¬ j < 0) (i : Nat) (hi : j.toNatClampNeg = i) (hlt : i < vs.length) (hw : a ∈ ws ∨ h0.size ≤ a) {x : Int32} (k : ∀ h', Wr h h' a i (.int x) → Ary Z h' a .int (vs.set i (.int x)) → B.G h' cl sl (mkF m pc' Ls st)) : B.G h cl sl (mkF m pc Ls (.int x :: .int j :: .ref a :: st)) := fun T locs X N eT => by
  subst hp
  obtain ⟨c1, A1, r1⟩ := A
  obtain ⟨T', h', X', e', W, stp⟩ := stI X B.1 B.2.2.2.1 eT A1 (ary_lt r1 hj hi hlt) (g := mkF m pc Ls (.int x :: .int j :: .ref a :: st)) rfl rfl (hb B.2.1 hd)
  rw [hi] at W
  obtain ⟨t, o, q, r⟩ := k h' W (Ary.set ⟨c1, A1, r1⟩ W) T' _ X' (N.one hw) e'
  exact ⟨t, o, stp _ q, r⟩
theorem Base.lastore (B : Base p l e R s m args below meth c Z y bytes maxL ret h0 ws C) (pc' : Nat) (hp : pc' = pc + 1) (hd : decode bytes pc = .ok (.lastore, 1)) (A : Ary Z h a .long vs) (hj : ¬ j < 0) (i : Nat) (hi : j.toNatClampNeg = i) (hlt : i < vs.length) (hw : a ∈ ws ∨ h0.size ≤ a) {x : Int64} (k : ∀ h', Wr h h' a i (.long x) → Ary Z h' a .long (vs.set i (.long x)) → B.G h' cl sl (mkF m pc' Ls st)) : B.G h cl sl (mkF m pc Ls (.long x :: .int j :: .ref a :: st)) := fun T locs X N eT => by
  subst hp
  obtain ⟨c1, A1, r1⟩ := A
  obtain ⟨T', h', X', e', W, stp⟩ := stJ X B.1 B.2.2.2.1 eT A1 (ary_lt r1 hj hi hlt) (g := mkF m pc Ls (.long x :: .int j :: .ref a :: st)) rfl rfl (hb B.2.1 hd)
  rw [hi] at W
  obtain ⟨t, o, q, r⟩ := k h' W (Ary.set ⟨c1, A1, r1⟩ W) T' _ X' (N.one hw) e'
  exact ⟨t, o, stp _ q, r⟩
theorem Base.newPE (B : Base p l e R s m args below meth c Z y bytes maxL ret h0 ws C) (pc' : Nat) (hp : pc' = pc + 2) {aty : ArrayType} (hd : decode bytes pc = .ok (.newarray aty, 2)) (w : (Cond.arrayClass (newarray.typeOf aty)).before a0 Z = true) {n : Int32} (hn : ¬ n < 0) (cap : Nat) (hcap : n.toNatClampNeg ≤ cap) (hb' : cap * 8 ≤ 536870912) (hc : cl + 1 ≤ R.cells) (hs : sl + cap ≤ R.slots) (ad : String) (had : "[" ++ (newarray.typeOf aty).toString = ad)
    (k : ∀ h' a, a = h.size → h0.size ≤ a → Ext h h' → Ary Z h' a (newarray.typeOf aty) (List.replicate n.toNatClampNeg (defaultValue (newarray.typeOf aty))) → Exa Z h' a ad → B.G h' (cl + 1) (sl + cap) (mkF m pc' Ls (.ref a :: st))) : B.G h cl sl (mkF m pc Ls (.int n :: st)) := fun T locs X N eT => by
  subst hp
  obtain ⟨T', h', cA, X', e', E, A, A2, stp⟩ := Jvm.RoadKit.newPE X B.1 B.2.2.2.1 w eT (g := mkF m pc Ls (.int n :: st)) rfl (hb B.2.1 hd) rfl hn hcap hb' hc hs had
  obtain ⟨t, o, q, r⟩ := k h' _ rfl (by rw [← eT]; exact B.size X) E (Ary.new A) A2 T' locs X' N e'
  exact ⟨t, o, stp _ q, r⟩
theorem Base.clone (B : Base p l e R s m args below meth c Z y bytes maxL ret h0 ws C) (pc' : Nat) (hp : pc' = pc + 3) {ix : Nat} {ad : String} (hd : decode bytes pc = .ok (.invokevirtual ix, 3))
    (w1 : (Cond.methodLink y.cls ix ⟨ad, "clone", "()Ljava/lang/Object;"⟩).before a0 Z = true) (w2 : (Cond.sameMethod ad "java/lang/Object" "clone" "()Ljava/lang/Object;").before a0 Z = true) (w3 : (Cond.native ⟨"java/lang/Object", "clone", "()Ljava/lang/Object;"⟩).before a0 Z = true)
    (w4 : (Cond.instanceMethod ⟨"java/lang/Object", "clone", "()Ljava/lang/Object;"⟩).before a0 Z = true) (w5 : (Cond.selects ad ⟨ad, "clone", "()Ljava/lang/Object;"⟩ ⟨"java/lang/Object", "clone", "()Ljava/lang/Object;"⟩).before a0 Z = true) (w6 : (Cond.castable ad "java/lang/Cloneable").before a0 Z = true)
    (A : Ary Z h a ty vs) (E : Exa Z h a ad) (hfit : ∀ v ∈ vs, fits ty v = true) (hLs : Ls.size = maxL) (W : Nat) (hW : (st.map fun v => v.category).sum = W) (hf : 1 ≤ R.frames) (hl : W + 14 ≤ R.locals) (cap : Nat) (hcap : vs.length ≤ cap) (hc : cl + 1 ≤ R.cells) (hs : sl + cap ≤ R.slots)
    (k : ∀ h' b, b = h.size → h0.size ≤ b → Ext h h' → Ary Z h' b ty vs → Exa Z h' b ad → B.G h' (cl + 1) (sl + cap) (mkF m pc' Ls (.ref b :: st))) : B.G h cl sl (mkF m pc Ls (.ref a :: st)) := fun T locs X N eT => by
  subst hp
  obtain ⟨c1, A1, r1⟩ := A
  have FC : FitC Z c1 := fitC_of A1 fun i hi v hv => hfit v (by rw [← r1]; exact Array.mem_toList_iff.mpr (Array.mem_of_getElem? hv))
  obtain ⟨T', h', X', e', ex, A', E', stp⟩ := cloneA X B.1 B.2.2.2.1 B.2.2.2.2.1 w1 w2 w3 w4 w5 w6 eT A1 E FC (g := mkF m pc Ls (.ref a :: st)) rfl (hLs.trans B.2.2.1.symm) rfl (hb B.2.1 hd) hf (W := W) (cap := cap) (by show 2 * 0 + _ ≤ _; omega) hl (by rw [← r1, Array.length_toList] at hcap; exact hcap) hc hs
  obtain ⟨t, o, q, r⟩ := k h' _ rfl (by rw [← eT]; exact B.size X) ex ⟨_, A', r1⟩ E' T' locs X' N e'
  exact ⟨t, o, stp _ q, r⟩
theorem Base.castY (B : Base p l e R s m args below meth c Z y bytes maxL ret h0 ws C) (pc' : Nat) (hp : pc' = pc + 3) {ix : Nat} {K : String} (hd : decode bytes pc = .ok (.checkcast ix, 3)) (w : (Cond.classLink y.cls ix K).before a0 Z = true) (F : Ins Z h a K true) (k : B.G h cl sl (mkF m pc' Ls (.ref a :: st))) : B.G h cl sl (mkF m pc Ls (.ref a :: st)) := fun T locs X N eT => by
  subst hp
  obtain ⟨T', X', e', stp⟩ := Jvm.RoadKit.castY X B.1 B.2.2.2.1 B.2.2.2.2.1 w eT F (g := mkF m pc Ls (.ref a :: st)) rfl rfl (hb B.2.1 hd)
  obtain ⟨t, o, q, r⟩ := k T' locs X' N e'
  exact ⟨t, o, stp _ q, r⟩
theorem Base.instY (B : Base p l e R s m args below meth c Z y bytes maxL ret h0 ws C) (pc' : Nat) (hp : pc' = pc + 3) {ix : Nat} {K : String} (hd : decode bytes pc = .ok (.instanceof ix, 3)) (w : (Cond.classLink y.cls ix K).before a0 Z = true) (F : Ins Z h a K true) (k : B.G h cl sl (mkF m pc' Ls (.int 1 :: st))) : B.G h cl sl (mkF m pc Ls (.ref a :: st)) := fun T locs X N eT => by
  subst hp
  obtain ⟨T', X', e', stp⟩ := Jvm.RoadKit.instY X B.1 B.2.2.2.1 B.2.2.2.2.1 w eT F (g := mkF m pc Ls (.ref a :: st)) rfl rfl (hb B.2.1 hd)
  obtain ⟨t, o, q, r⟩ := k T' locs X' N e'
  exact ⟨t, o, stp _ q, r⟩
theorem Base.instN (B : Base p l e R s m args below meth c Z y bytes maxL ret h0 ws C) (pc' : Nat) (hp : pc' = pc + 3) {ix : Nat} {K CC : String} (hd : decode bytes pc = .ok (.instanceof ix, 3)) (w : (Cond.classLink y.cls ix K).before a0 Z = true) (E : Exa Z h a CC) (F : ∃ c t, Z.vm.findClass CC = some c ∧ Z.vm.findClass K = some t ∧ Z.vm.assignable c t = false) (k : B.G h cl sl (mkF m pc' Ls (.int 0 :: st))) : B.G h cl sl (mkF m pc Ls (.ref a :: st)) := fun T locs X N eT => by
  subst hp
  obtain ⟨T', X', e', stp⟩ := instNo X B.1 B.2.2.2.1 B.2.2.2.2.1 w eT E F (g := mkF m pc Ls (.ref a :: st)) rfl rfl (hb B.2.1 hd)
  obtain ⟨t, o, q, r⟩ := k T' locs X' N e'
  exact ⟨t, o, stp _ q, r⟩
theorem Base.inst0 (B : Base p l e R s m args below meth c Z y bytes maxL ret h0 ws C) (pc' : Nat) (hp : pc' = pc + 3) {ix : Nat} (hd : decode bytes pc = .ok (.instanceof ix, 3)) (k : B.G h cl sl (mkF m pc' Ls (.int 0 :: st))) : B.G h cl sl (mkF m pc Ls (.null :: st)) := by
  subst hp
  exact B.viaX (fun T t L X eT r => X.instanceofNull B.1 (g := mkF m pc Ls (.null :: st)) rfl rfl (hb B.2.1 hd) t r) k
theorem Base.aaload (B : Base p l e R s m args below meth c Z y bytes maxL ret h0 ws C) (pc' : Nat) (hp : pc' = pc + 1) (hd : decode bytes pc = .ok (.aaload, 1)) (A : Ary Z h a ty vs) (hty : ty.isReference = true) (hj : ¬ j < 0) (i : Nat) (hi : j.toNatClampNeg = i) (v : Value) (hv : vs[i]? = some v) (k : B.G h cl sl (mkF m pc' Ls (v :: st))) : B.G h cl sl (mkF m pc Ls (.int j :: .ref a :: st)) := by
  subst hp
  obtain ⟨c1, A, r⟩ := A
  obtain ⟨q1, q2⟩ := ary_in r hj hi hv
  exact B.viaX (fun T t L X eT r => X.aaload (g := mkF m pc Ls (.int j :: .ref a :: st)) B.1 (by rw [eT]; exact A.1) (State.isArrayOf_alike (T := s) B.2.2.2.1.alike A.2.1) hty A.2.2 q1 q2 rfl rfl (hb B.2.1 hd) t r) k
theorem ns_root {O K : String} {n : Nat} (w : (Cond.noSuperclass O).before a0 Z = true) (wk : (Cond.instantiable K n).before a0 Z = true) (hn : O ≠ K) : NS Z O K := by
  obtain ⟨c, k, h1, h2, h3, -, -⟩ := Cond.noSuperclass_spec w
  obtain ⟨t, -, g1, -⟩ := Cond.instantiable_spec wk
  have ne := ids_ne h1 g1 hn
  refine ⟨c, t, h1, g1, fun fuel => ?_⟩
  cases fuel with
  | zero => rfl
  | succ f => simp [Vm.isSubclassAux, ne, h2, h3]
theorem ns_no {CC K : String} {n n' : Nat} (w : (Cond.instantiable CC n').before a0 Z = true) (wk : (Cond.instantiable K n).before a0 Z = true) (q : NS Z CC K) (hn : CC ≠ K) : ∃ c t, Z.vm.findClass CC = some c ∧ Z.vm.findClass K = some t ∧ Z.vm.assignable c t = false := by
  obtain ⟨c, t, h0, g0, n3⟩ := q
  obtain ⟨c1, k, h1, h2, h5, -⟩ := Cond.instantiable_spec w
  obtain ⟨t1, k', g1, g2, g5, g7, -⟩ := Cond.instantiable_spec wk
  cases h0.symm.trans h1
  cases g0.symm.trans g1
  have ne := ids_ne h0 g0 hn
  have g8 : k'.isInterface = false := by simp only [Bool.or_eq_false_iff] at g7; exact g7.1
  refine ⟨c, t, h0, g0, ?_⟩
  show Z.vm.assignableAux (255 + 1) c t = false
  simp [Vm.assignableAux, ne, h2, g2, h5, g5, g8, Vm.isSubclass, n3]
end Arrays
/-! 5. the words -/
theorem wd {L : List Jvm.Cond} {a0 : Array Value} {Z : State} (hw : ∀ d ∈ L, d.before a0 Z = true) (i : Nat) {d : Jvm.Cond} (q : L[i]? = some d) : d.before a0 Z = true := hw d (List.mem_of_getElem? q)
/-! 6. from the words of a case -/
theorem fld_start {args : Array Value} {s : State} {t : Term} {a : Addr} {O n d : String} {z : Int32} (ht : t.eval args s none [] s = some (.ref a)) (q : (Cond.eq (.field t O n d) (.int z)).value args s none s [] = some true) : Fld s s.heap a O n d (.int z) :=
  Fld.start ((fld_at ht).symm.trans (eqv_i rfl q))
theorem eval_int {args : Array Value} {s : State} {u w : Term} {z : Int32} (q : (Cond.eq u w).value args s none s [] = some true) (hw : w.eval args s none [] s = some (.int z)) : u.eval args s none [] s = some (.int z) := by
  cases hv : u.eval args s none [] s with
  | none => simp [Cond.value, hv] at q
  | some v =>
    cases v <;> simp [Cond.value, hv, hw] at q
    subst q; rfl
theorem eval_ref {args : Array Value} {s : State} {u w : Term} {z : Addr} (q : (Cond.eq u w).value args s none s [] = some true) (hw : w.eval args s none [] s = some (.ref z)) : u.eval args s none [] s = some (.ref z) := by
  cases hv : u.eval args s none [] s with
  | none => simp [Cond.value, hv] at q
  | some v =>
    cases v <;> simp [Cond.value, hv, hw] at q
    subst q; rfl
/-- an array of the start, of known length and places -/
theorem ary_start {args : Array Value} {s : State} {t : Term} {a : Addr} {ty : FieldType} {vs : List Value} {n : Int32} (ht : t.eval args s none [] s = some (.ref a)) (hA : (Cond.arrayOf t ty).value args s none s [] = some true)
    (hl : (Cond.eq (.length t) (.int n)).value args s none s [] = some true) (hn : n.toNatClampNeg = vs.length) (hn0 : ¬ n < 0) (he : ∀ i, i < vs.length → ∃ v, vs[i]? = some v ∧ (Term.elem t (.int (Int32.ofNat i))).eval args s none [] s = some v) : Ary s s.heap a ty vs := by
  obtain ⟨c, A⟩ := Arr.start ht hA
  have e1 := eval_int hl rfl
  simp only [Term.eval, ht, Option.bind_eq_bind, Option.bind_some] at e1
  have hat : s.arrayAt? a = some c := A.fin (Vm.Alike.refl _)
  rw [hat] at e1
  simp only [Option.bind_some] at e1
  split at e1
  · rename_i hs
    simp only [Option.pure_def, Option.some.injEq, Value.int.injEq] at e1
    have hsz : c.slots.size = vs.length := by
      rw [← hn, ← e1]
      have := len_toInt hs
      simp only [Int32.toNatClampNeg, this]; omega
    refine ⟨c, A, ?_⟩
    apply List.ext_getElem?
    intro i
    by_cases hi : i < vs.length
    · obtain ⟨v, q1, q2⟩ := he i hi
      obtain ⟨cell, r1, -, r3⟩ := elem_at q2 ht rfl
      cases A.1.symm.trans r1
      have : (Int32.ofNat i).toNatClampNeg = i := by
        have := Int32.toInt_ofNat_small (show i < 2 ^ 31 by omega)
        simp only [Int32.toNatClampNeg, this]; omega
      rw [this] at r3
      rw [q1, Array.getElem?_toList]; exact r3
    · rw [List.getElem?_eq_none (by rw [Array.length_toList, hsz]; omega), List.getElem?_eq_none (by omega)]
  · simp at e1
end Jvm.Own
namespace Jvm.Pilot.@@N@@
open Jvm Jvm.ClassFile Sem Op Lib Jvm.Free Jvm.Stand Jvm.LawKit Jvm.RoadKit Jvm.Own Bundle Jvm.Pilot.@@N@@.Jvm.D
theorem pd__IIIII_J : parseMethodDescriptor "(IIIII)J" = some ⟨[.int, .int, .int, .int, .int], some .long⟩ := by decide +kernel
theorem pd__I_Lsealgram_record_DropReason_ : parseMethodDescriptor "(I)Lsealgram/record/DropReason;" = some ⟨[.int], some (.object "sealgram/record/DropReason")⟩ := by decide +kernel
theorem pd__Lsealgram_record_DropReason__J : parseMethodDescriptor "(Lsealgram/record/DropReason;)J" = some ⟨[(.object "sealgram/record/DropReason")], some .long⟩ := by decide +kernel
theorem pd__Lsealgram_record_DropReason__V : parseMethodDescriptor "(Lsealgram/record/DropReason;)V" = some ⟨[(.object "sealgram/record/DropReason")], none⟩ := by decide +kernel
theorem pd___I : parseMethodDescriptor "()I" = some ⟨[], some .int⟩ := by decide +kernel
theorem pd___V : parseMethodDescriptor "()V" = some ⟨[], none⟩ := by decide +kernel
theorem pd____Lsealgram_record_DropReason_ : parseMethodDescriptor "()[Lsealgram/record/DropReason;" = some ⟨[], some (.array (.object "sealgram/record/DropReason"))⟩ := by decide +kernel
def own_cs (c : Nat → Int64) : List Value := [.long (c 0), .long (c 1), .long (c 2), .long (c 3), .long (c 4)]
def own_inc (c : Nat → Int64) (k : Nat) : Nat → Int64 := fun i => if i = k then c i + 1 else c i
theorem own_at (c : Nat → Int64) (k : Nat) (h : k < 5) : (own_cs c)[k]? = some (.long (c k)) := by
  match k, h with
  | 0, _ => rfl
  | 1, _ => rfl
  | 2, _ => rfl
  | 3, _ => rfl
  | 4, _ => rfl
theorem own_set (c : Nat → Int64) (k : Nat) (h : k < 5) : (own_cs c).set k (.long (c k + 1)) = own_cs (own_inc c k) := by
  match k, h with
  | 0, _ => rfl
  | 1, _ => rfl
  | 2, _ => rfl
  | 3, _ => rfl
  | 4, _ => rfl
theorem own_nn (k : Nat) (h : k < 5) : ¬ Int32.ofNat k < 0 ∧ (Int32.ofNat k).toNatClampNeg = k := by
  match k, h with
  | 0, _ => decide
  | 1, _ => decide
  | 2, _ => decide
  | 3, _ => decide
  | 4, _ => decide
theorem own_k (x : Int32) : ∃ k : Nat, k < 5 ∧ (x &&& 2147483647) % 5 = Int32.ofNat k := by
  have h1 := (c_andS x 2147483647).2.2 (by decide)
  have h2 : ((x &&& 2147483647) % 5).toInt = (x &&& 2147483647).toInt % 5 := by rw [Int32.toInt_mod]; exact Int.tmod_eq_emod_of_nonneg h1
  refine ⟨((x &&& 2147483647).toInt % 5).toNat, by omega, ?_⟩
  rw [← Int32.toInt_inj, h2, Int32.toInt_ofNat_of_lt (by omega)]
  omega
theorem own_m (x : Int32) : x &&& 3 = 0 ∨ x &&& 3 = 1 ∨ x &&& 3 = 2 ∨ x &&& 3 = 3 := by
  have h : (x &&& 3).toInt = x.toInt % 2 ^ 2 := Jvm.Kit.i32_mask x 3 (k := 2) (by decide) (by decide)
  simp only [← Int32.toInt_inj, Int32.reduceToInt]
  omega
theorem own_lit (k j : Nat) (hk : k < 5) (hj : j < 5) : Int32.ofNat k = Int32.ofNat j ↔ k = j := by
  constructor
  · intro q
    have := congrArg Int32.toInt q
    rw [Int32.toInt_ofNat_of_lt (by omega), Int32.toInt_ofNat_of_lt (by omega)] at this
    omega
  · rintro rfl; rfl
def own_e (j m ka kb kc : Int32) : Int64 :=
  let e1 : Int64 := if m < 1 then 0 else if ka = j then 0 + 1 else 0
  let e2 : Int64 := if m < 2 then e1 else if kb = j then e1 + 1 else e1
  if m < 3 then e2 else if kc = j then e2 + 1 else e2
theorem d3_0 : decode prog_96_method_1_code 0 = .ok (.getstatic 19, 3) := by decide +kernel
theorem d3_3 : decode prog_96_method_1_code 3 = .ok (.invokevirtual 23, 3) := by decide +kernel
theorem d3_6 : decode prog_96_method_1_code 6 = .ok (.checkcast 24, 3) := by decide +kernel
theorem d3_9 : decode prog_96_method_1_code 9 = .ok (.areturn, 1) := by decide +kernel
theorem pn_3 : plainFor (⟨"sealgram/record/DropReason", "values", "()[Lsealgram/record/DropReason;"⟩ : MethodName) = true := by first | exact plainFor_of_name (by first | (simp [plainName, overriddenIn]; done) | decide +kernel) | decide +kernel
set_option maxRecDepth 65536 in
set_option maxHeartbeats 4000000 in
theorem rm_values (l : Launch) (Z : State) (a0 : Array Value) (hw : ∀ d ∈ tables_1, d.before a0 Z = true) (v a_REPLAYED a_TOO_OLD a_BAD_TAG a_MALFORMED a_WRONG_EPOCH : Addr) (h0 : Heap) (S : Sta Z h0 "sealgram/record/DropReason" "$VALUES" "[Lsealgram/record/DropReason;" (.ref v)) (A : Ary Z h0 v (.object "sealgram/record/DropReason") [(.ref a_REPLAYED), (.ref a_TOO_OLD), (.ref a_BAD_TAG), (.ref a_MALFORMED), (.ref a_WRONG_EPOCH)]) (E : Exa Z h0 v "[Lsealgram/record/DropReason;") :
    Met l Z (⟨"sealgram/record/DropReason", "values", "()[Lsealgram/record/DropReason;"⟩ : MethodName) prog_96_method_1_code 0 (some (.array (.object "sealgram/record/DropReason"))) [] ({ frames := 1, cells := 1, slots := 5, locals := 14 } : Room) #[] h0 [] (fun u h => ∃ r, u = some (.ref r) ∧ Ary Z h r (.object "sealgram/record/DropReason") [(.ref a_REPLAYED), (.ref a_TOO_OLD), (.ref a_BAD_TAG), (.ref a_MALFORMED), (.ref a_WRONG_EPOCH)]) := by
  refine Met.walk pn_3 (Ls := #[]) (fun m => by first | (simp [entryFrame, mkF, argsToLocals, Value.category, maxLocals]; done) | rfl) ?_
  intro p e s m below meth c B
  refine B.getS 3 rfl d3_0 (wd hw 14 rfl) S ?_
  refine B.clone 6 rfl d3_3 (wd hw 16 rfl) (wd hw 17 rfl) (wd hw 21 rfl) (wd hw 19 rfl) (wd hw 20 rfl) (wd hw 22 rfl) A E (by simp [fits]) rfl 0 rfl (by decide) (by decide) 5 (by simp) (by decide) (by decide) ?_
  intro h1 r er gr X1 A1 E1
  show B.G h1 1 5 (mkF m 6 #[] [(.ref r)])
  refine B.castY 9 rfl d3_6 (wd hw 29 rfl) (Ins.self E1) ?_
  refine B.retA rfl rfl d3_9 (by decide) (by decide) ?_
  exact ⟨r, rfl, A1⟩
theorem d1_0 : decode prog_94_method_1_code 0 = .ok (.aload_n 0, 1) := by decide +kernel
theorem d1_1 : decode prog_94_method_1_code 1 = .ok (.invokespecial 1, 3) := by decide +kernel
theorem d1_4 : decode prog_94_method_1_code 4 = .ok (.aload_n 0, 1) := by decide +kernel
theorem d1_5 : decode prog_94_method_1_code 5 = .ok (.invokestatic 7, 3) := by decide +kernel
theorem d1_8 : decode prog_94_method_1_code 8 = .ok (.arraylength, 1) := by decide +kernel
theorem d1_9 : decode prog_94_method_1_code 9 = .ok (.newarray .long, 2) := by decide +kernel
theorem d1_11 : decode prog_94_method_1_code 11 = .ok (.putfield 13, 3) := by decide +kernel
theorem d1_14 : decode prog_94_method_1_code 14 = .ok (.return_, 1) := by decide +kernel
theorem pn_1 : plainFor (⟨"sealgram/record/DropCounts", "<init>", "()V"⟩ : MethodName) = true := by first | exact plainFor_of_name (by first | (simp [plainName, overriddenIn]; done) | decide +kernel) | decide +kernel
set_option maxRecDepth 65536 in
set_option maxHeartbeats 4000000 in
theorem rm_init (l : Launch) (Z : State) (a0 : Array Value) (hw : ∀ d ∈ tables_1, d.before a0 Z = true) (a v a_REPLAYED a_TOO_OLD a_BAD_TAG a_MALFORMED a_WRONG_EPOCH : Addr) (h0 : Heap) (S : Sta Z h0 "sealgram/record/DropReason" "$VALUES" "[Lsealgram/record/DropReason;" (.ref v)) (A : Ary Z h0 v (.object "sealgram/record/DropReason") [(.ref a_REPLAYED), (.ref a_TOO_OLD), (.ref a_BAD_TAG), (.ref a_MALFORMED), (.ref a_WRONG_EPOCH)]) (E : Exa Z h0 v "[Lsealgram/record/DropReason;") (Ea : Exa Z h0 a "sealgram/record/DropCounts") (F : Fld Z h0 a "sealgram/record/DropCounts" "mCounts" "[J" .null) :
    Met l Z (⟨"sealgram/record/DropCounts", "<init>", "()V"⟩ : MethodName) prog_94_method_1_code 1 none [] ({ frames := 2, cells := 2, slots := 10, locals := 26 } : Room) #[(.ref a)] h0 [a] (fun u h => u = none ∧ Exa Z h a "sealgram/record/DropCounts" ∧ ∃ mc, h0.size ≤ mc ∧ Fld Z h a "sealgram/record/DropCounts" "mCounts" "[J" (.ref mc) ∧ Ary Z h mc .long (own_cs fun _ => 0)) := by
  refine Met.walk pn_1 (Ls := #[.val (.ref a)]) (fun m => by first | (simp [entryFrame, mkF, argsToLocals, Value.category, maxLocals]; done) | rfl) ?_
  intro p e s m below meth c B
  refine B.aloadN 1 rfl d1_0 rfl rfl ?_
  refine B.initO 4 rfl d1_1 (wd hw 7 rfl) (wd hw 8 rfl) (wd hw 9 rfl) rfl 0 rfl (by decide) (by decide) ?_
  refine B.aloadN 5 rfl d1_4 rfl rfl ?_
  refine B.callS 8 rfl d1_5 (wd hw 10 rfl) (wd hw 11 rfl) (wd hw 12 rfl) (wd hw 13 rfl) (by decide) [] [(.ref a)] (rm_values l Z a0 hw v a_REPLAYED a_TOO_OLD a_BAD_TAG a_MALFORMED a_WRONG_EPOCH h0 S A E) rfl rfl pd____Lsealgram_record_DropReason_ rfl rfl 1 rfl (by decide) (by decide) (by decide) (by decide) (fun _ q => nomatch q) ?_
  rintro _ h1 K1 ⟨r, rfl, A1⟩
  show B.G h1 1 5 (mkF m 8 #[.val (.ref a)] [(.ref r), (.ref a)])
  have E1 := Ea.keep K1
  have F1 := F.keep K1 nin0
  refine B.arrlen 9 rfl d1_8 A1 (5 : Int32) rfl ?_
  refine B.newP 11 rfl d1_9 (wd hw 31 rfl) (by decide) 5 (by decide) (by decide) (by decide) (by decide) ?_
  intro h2 mc em gm X2 A2
  replace A2 : Ary Z h2 mc .long (own_cs fun _ => 0) := A2
  have E2 := E1.ext X2
  have F2 := F1.ext X2
  have ne : mc ≠ a := fun q => absurd E1.lt (by rw [← q, em]; exact Nat.lt_irrefl _)
  show B.G h2 2 10 (mkF m 11 #[.val (.ref a)] [(.ref mc), (.ref a)])
  refine B.putF 14 rfl d1_11 (wd hw 32 rfl) F2 E2 (Or.inr ⟨(wd hw 33 rfl), rfl, rfl⟩) (wd hw 2 rfl) (ty := (.array .long)) (by decide) rfl rfl (Or.inl (by simp)) ?_
  intro h3 W3
  refine B.ret0 d1_14 (by decide) (by decide) ?_
  exact ⟨rfl, E2.wr W3, mc, gm, F2.same W3, A2.other W3 ne⟩
theorem d6_0 : decode jdk_37_method_2_code 0 = .ok (.aload_n 0, 1) := by decide +kernel
theorem d6_1 : decode jdk_37_method_2_code 1 = .ok (.getfield 7, 3) := by decide +kernel
theorem d6_4 : decode jdk_37_method_2_code 4 = .ok (.ireturn, 1) := by decide +kernel
theorem pn_6 : plainFor (⟨"java/lang/Enum", "ordinal", "()I"⟩ : MethodName) = true := by first | exact plainFor_of_name (by first | (simp [plainName, overriddenIn]; done) | decide +kernel) | decide +kernel
set_option maxRecDepth 65536 in
set_option maxHeartbeats 4000000 in
theorem rm_ord (l : Launch) (Z : State) (a0 : Array Value) (hw : ∀ d ∈ tables_1, d.before a0 Z = true) (r : Addr) (k : Int32) (h0 : Heap) (F : Fld Z h0 r "java/lang/Enum" "ordinal" "I" (.int k)) :
    Met l Z (⟨"java/lang/Enum", "ordinal", "()I"⟩ : MethodName) jdk_37_method_2_code 1 (some .int) [] ({ frames := 0, cells := 0, slots := 0, locals := 0 } : Room) #[(.ref r)] h0 [] (fun v h => v = some (.int k) ∧ h0 = h) := by
  refine Met.walk pn_6 (Ls := #[.val (.ref r)]) (fun m => by first | (simp [entryFrame, mkF, argsToLocals, Value.category, maxLocals]; done) | rfl) ?_
  intro p e s m below meth c B
  refine B.aloadN 1 rfl d6_0 rfl rfl ?_
  refine B.getF 4 rfl d6_1 (wd hw 51 rfl) F ?_
  refine B.retI d6_4 (by decide) (by decide) ?_
  exact ⟨rfl, rfl⟩
theorem d4_0 : decode method_2_code 0 = .ok (.iload_n 0, 1) := by decide +kernel
theorem d4_1 : decode method_2_code 1 = .ok (.ifCond .ne 7, 3) := by decide +kernel
theorem d4_4 : decode method_2_code 4 = .ok (.getstatic 7, 3) := by decide +kernel
theorem d4_7 : decode method_2_code 7 = .ok (.areturn, 1) := by decide +kernel
theorem d4_8 : decode method_2_code 8 = .ok (.iload_n 0, 1) := by decide +kernel
theorem d4_9 : decode method_2_code 9 = .ok (.iconst 1, 1) := by decide +kernel
theorem d4_10 : decode method_2_code 10 = .ok (.if_icmp .ne 7, 3) := by decide +kernel
theorem d4_13 : decode method_2_code 13 = .ok (.getstatic 13, 3) := by decide +kernel
theorem d4_16 : decode method_2_code 16 = .ok (.areturn, 1) := by decide +kernel
theorem d4_17 : decode method_2_code 17 = .ok (.iload_n 0, 1) := by decide +kernel
theorem d4_18 : decode method_2_code 18 = .ok (.iconst 2, 1) := by decide +kernel
theorem d4_19 : decode method_2_code 19 = .ok (.if_icmp .ne 7, 3) := by decide +kernel
theorem d4_22 : decode method_2_code 22 = .ok (.getstatic 16, 3) := by decide +kernel
theorem d4_25 : decode method_2_code 25 = .ok (.areturn, 1) := by decide +kernel
theorem d4_26 : decode method_2_code 26 = .ok (.iload_n 0, 1) := by decide +kernel
theorem d4_27 : decode method_2_code 27 = .ok (.iconst 3, 1) := by decide +kernel
theorem d4_28 : decode method_2_code 28 = .ok (.if_icmp .ne 7, 3) := by decide +kernel
theorem d4_31 : decode method_2_code 31 = .ok (.getstatic 19, 3) := by decide +kernel
theorem d4_34 : decode method_2_code 34 = .ok (.areturn, 1) := by decide +kernel
theorem d4_35 : decode method_2_code 35 = .ok (.getstatic 22, 3) := by decide +kernel
theorem d4_38 : decode method_2_code 38 = .ok (.areturn, 1) := by decide +kernel
theorem pn_4 : plainFor (⟨"sealgram/record/DropCountsAdd44PinLaw", "reasonOf", "(I)Lsealgram/record/DropReason;"⟩ : MethodName) = true := by first | exact plainFor_of_name (by first | (simp [plainName, overriddenIn]; done) | decide +kernel) | decide +kernel
set_option maxRecDepth 65536 in
set_option maxHeartbeats 4000000 in
theorem rm_reason (l : Launch) (Z : State) (a0 : Array Value) (hw : ∀ d ∈ tables_1, d.before a0 Z = true) (k : Nat) (a_REPLAYED a_TOO_OLD a_BAD_TAG a_MALFORMED a_WRONG_EPOCH : Addr) (h0 : Heap) (hk : k < 5) (S_REPLAYED : Sta Z h0 "sealgram/record/DropReason" "REPLAYED" "Lsealgram/record/DropReason;" (.ref a_REPLAYED)) (E_REPLAYED : Exa Z h0 a_REPLAYED "sealgram/record/DropReason") (F_REPLAYED : Fld Z h0 a_REPLAYED "java/lang/Enum" "ordinal" "I" (.int (0 : Int32))) (S_TOO_OLD : Sta Z h0 "sealgram/record/DropReason" "TOO_OLD" "Lsealgram/record/DropReason;" (.ref a_TOO_OLD)) (E_TOO_OLD : Exa Z h0 a_TOO_OLD "sealgram/record/DropReason") (F_TOO_OLD : Fld Z h0 a_TOO_OLD "java/lang/Enum" "ordinal" "I" (.int (1 : Int32))) (S_BAD_TAG : Sta Z h0 "sealgram/record/DropReason" "BAD_TAG" "Lsealgram/record/DropReason;" (.ref a_BAD_TAG)) (E_BAD_TAG : Exa Z h0 a_BAD_TAG "sealgram/record/DropReason") (F_BAD_TAG : Fld Z h0 a_BAD_TAG "java/lang/Enum" "ordinal" "I" (.int (2 : Int32))) (S_MALFORMED : Sta Z h0 "sealgram/record/DropReason" "MALFORMED" "Lsealgram/record/DropReason;" (.ref a_MALFORMED)) (E_MALFORMED : Exa Z h0 a_MALFORMED "sealgram/record/DropReason") (F_MALFORMED : Fld Z h0 a_MALFORMED "java/lang/Enum" "ordinal" "I" (.int (3 : Int32))) (S_WRONG_EPOCH : Sta Z h0 "sealgram/record/DropReason" "WRONG_EPOCH" "Lsealgram/record/DropReason;" (.ref a_WRONG_EPOCH)) (E_WRONG_EPOCH : Exa Z h0 a_WRONG_EPOCH "sealgram/record/DropReason") (F_WRONG_EPOCH : Fld Z h0 a_WRONG_EPOCH "java/lang/Enum" "ordinal" "I" (.int (4 : Int32))) :
    Met l Z (⟨"sealgram/record/DropCountsAdd44PinLaw", "reasonOf", "(I)Lsealgram/record/DropReason;"⟩ : MethodName) method_2_code 1 (some (.object "sealgram/record/DropReason")) [] ({ frames := 0, cells := 0, slots := 0, locals := 0 } : Room) #[(.int (Int32.ofNat k))] h0 [] (fun v h => ∃ r, v = some (.ref r) ∧ h0 = h ∧ Exa Z h0 r "sealgram/record/DropReason" ∧ Fld Z h0 r "java/lang/Enum" "ordinal" "I" (.int (Int32.ofNat k))) := by
  refine Met.walk pn_4 (Ls := #[.val (.int (Int32.ofNat k))]) (fun m => by first | (simp [entryFrame, mkF, argsToLocals, Value.category, maxLocals]; done) | rfl) ?_
  intro p e s m below meth c B
  refine B.iloadN 1 rfl d4_0 rfl ?_
  refine B.if0_ne 8 4 rfl (by decide) rfl d4_1 (fun c1 => ?_) (fun c1 => ?_)
  · refine B.iloadN 9 rfl d4_8 rfl ?_
    refine B.iconst 10 rfl (1 : Int32) d4_9 rfl ?_
    refine B.icmp_ne 17 13 rfl (by decide) rfl d4_10 (fun c10 => ?_) (fun c10 => ?_)
    · refine B.iloadN 18 rfl d4_17 rfl ?_
      refine B.iconst 19 rfl (2 : Int32) d4_18 rfl ?_
      refine B.icmp_ne 26 22 rfl (by decide) rfl d4_19 (fun c19 => ?_) (fun c19 => ?_)
      · refine B.iloadN 27 rfl d4_26 rfl ?_
        refine B.iconst 28 rfl (3 : Int32) d4_27 rfl ?_
        refine B.icmp_ne 35 31 rfl (by decide) rfl d4_28 (fun c28 => ?_) (fun c28 => ?_)
        · refine B.getS 38 rfl d4_35 (wd hw 64 rfl) S_WRONG_EPOCH ?_
          refine B.retA rfl rfl d4_38 (by decide) (by decide) ?_
          have ek : Int32.ofNat k = (4 : Int32) := by
            match k, hk with
            | 0, _ => exact absurd rfl c1
            | 1, _ => exact absurd rfl c10
            | 2, _ => exact absurd rfl c19
            | 3, _ => exact absurd rfl c28
            | 4, _ => rfl
          exact ⟨a_WRONG_EPOCH, rfl, rfl, E_WRONG_EPOCH, by rw [ek]; exact F_WRONG_EPOCH⟩
        · refine B.getS 34 rfl d4_31 (wd hw 63 rfl) S_MALFORMED ?_
          refine B.retA rfl rfl d4_34 (by decide) (by decide) ?_
          have ek : Int32.ofNat k = (3 : Int32) := by
            exact c28
          exact ⟨a_MALFORMED, rfl, rfl, E_MALFORMED, by rw [ek]; exact F_MALFORMED⟩
      · refine B.getS 25 rfl d4_22 (wd hw 62 rfl) S_BAD_TAG ?_
        refine B.retA rfl rfl d4_25 (by decide) (by decide) ?_
        have ek : Int32.ofNat k = (2 : Int32) := by
          exact c19
        exact ⟨a_BAD_TAG, rfl, rfl, E_BAD_TAG, by rw [ek]; exact F_BAD_TAG⟩
    · refine B.getS 16 rfl d4_13 (wd hw 61 rfl) S_TOO_OLD ?_
      refine B.retA rfl rfl d4_16 (by decide) (by decide) ?_
      have ek : Int32.ofNat k = (1 : Int32) := by
        exact c10
      exact ⟨a_TOO_OLD, rfl, rfl, E_TOO_OLD, by rw [ek]; exact F_TOO_OLD⟩
  · refine B.getS 7 rfl d4_4 (wd hw 38 rfl) S_REPLAYED ?_
    refine B.retA rfl rfl d4_7 (by decide) (by decide) ?_
    have ek : Int32.ofNat k = (0 : Int32) := by
      exact c1
    exact ⟨a_REPLAYED, rfl, rfl, E_REPLAYED, by rw [ek]; exact F_REPLAYED⟩
theorem d5_0 : decode prog_94_method_3_code 0 = .ok (.aload_n 0, 1) := by decide +kernel
theorem d5_1 : decode prog_94_method_3_code 1 = .ok (.getfield 13, 3) := by decide +kernel
theorem d5_4 : decode prog_94_method_3_code 4 = .ok (.aload_n 1, 1) := by decide +kernel
theorem d5_5 : decode prog_94_method_3_code 5 = .ok (.invokevirtual 24, 3) := by decide +kernel
theorem d5_8 : decode prog_94_method_3_code 8 = .ok (.dup2, 1) := by decide +kernel
theorem d5_9 : decode prog_94_method_3_code 9 = .ok (.laload, 1) := by decide +kernel
theorem d5_10 : decode prog_94_method_3_code 10 = .ok (.lconst 1, 1) := by decide +kernel
theorem d5_11 : decode prog_94_method_3_code 11 = .ok (.ladd, 1) := by decide +kernel
theorem d5_12 : decode prog_94_method_3_code 12 = .ok (.lastore, 1) := by decide +kernel
theorem d5_13 : decode prog_94_method_3_code 13 = .ok (.return_, 1) := by decide +kernel
theorem pn_5 : plainFor (⟨"sealgram/record/DropCounts", "add", "(Lsealgram/record/DropReason;)V"⟩ : MethodName) = true := by first | exact plainFor_of_name (by first | (simp [plainName, overriddenIn]; done) | decide +kernel) | decide +kernel
set_option maxRecDepth 65536 in
set_option maxHeartbeats 4000000 in
theorem rm_add (l : Launch) (Z : State) (a0 : Array Value) (hw : ∀ d ∈ tables_1, d.before a0 Z = true) (a mc r : Addr) (k : Nat) (cf : Nat → Int64) (h0 : Heap) (hk : k < 5) (Ea : Exa Z h0 a "sealgram/record/DropCounts") (F : Fld Z h0 a "sealgram/record/DropCounts" "mCounts" "[J" (.ref mc)) (A : Ary Z h0 mc .long (own_cs cf)) (Er : Exa Z h0 r "sealgram/record/DropReason") (Fr : Fld Z h0 r "java/lang/Enum" "ordinal" "I" (.int (Int32.ofNat k))) :
    Met l Z (⟨"sealgram/record/DropCounts", "add", "(Lsealgram/record/DropReason;)V"⟩ : MethodName) prog_94_method_3_code 2 none [] ({ frames := 1, cells := 0, slots := 0, locals := 13 } : Room) #[(.ref a), (.ref r)] h0 [mc] (fun v h => v = none ∧ Ary Z h mc .long (own_cs (own_inc cf k))) := by
  refine Met.walk pn_5 (Ls := #[.val (.ref a), .val (.ref r)]) (fun m => by first | (simp [entryFrame, mkF, argsToLocals, Value.category, maxLocals]; done) | rfl) ?_
  intro p e s m below meth c B
  refine B.aloadN 1 rfl d5_0 rfl rfl ?_
  refine B.getF 4 rfl d5_1 (wd hw 32 rfl) F ?_
  refine B.aloadN 5 rfl d5_4 rfl rfl ?_
  refine B.callVU 8 rfl d5_5 (ow := "java/lang/Enum") (wd hw 44 rfl) (wd hw 45 rfl) (wd hw 46 rfl) (wd hw 48 rfl) (wd hw 47 rfl) (wd hw 49 rfl) (wd hw 50 rfl) (by decide) Er [] [(.ref mc)] (rm_ord l Z a0 hw r (Int32.ofNat k) h0 Fr) rfl rfl pd___I rfl rfl 1 rfl (by decide) (by decide) (by decide) (by decide) (fun _ q => nomatch q) ?_
  rintro _ _ - ⟨rfl, rfl⟩
  show B.G h0 0 0 (mkF m 8 #[.val (.ref a), .val (.ref r)] [(.int (Int32.ofNat k)), (.ref mc)])
  refine B.dup2 9 rfl d5_8 rfl rfl ?_
  refine B.laload 10 rfl d5_9 A (own_nn k hk).1 k (own_nn k hk).2 (.long (cf k)) (own_at cf k hk) ?_
  refine B.lconst 11 rfl (1 : Int64) d5_10 rfl ?_
  refine B.ladd 12 rfl d5_11 ?_
  refine B.lastore 13 rfl d5_12 A (own_nn k hk).1 k (own_nn k hk).2 hk (Or.inl (by simp)) ?_
  intro h1 W1 A1
  rw [own_set cf k hk] at A1
  refine B.ret0 d5_13 (by decide) (by decide) ?_
  exact ⟨rfl, A1⟩
theorem d7_0 : decode prog_94_method_5_code 0 = .ok (.aload_n 0, 1) := by decide +kernel
theorem d7_1 : decode prog_94_method_5_code 1 = .ok (.getfield 13, 3) := by decide +kernel
theorem d7_4 : decode prog_94_method_5_code 4 = .ok (.aload_n 1, 1) := by decide +kernel
theorem d7_5 : decode prog_94_method_5_code 5 = .ok (.invokevirtual 24, 3) := by decide +kernel
theorem d7_8 : decode prog_94_method_5_code 8 = .ok (.laload, 1) := by decide +kernel
theorem d7_9 : decode prog_94_method_5_code 9 = .ok (.lreturn, 1) := by decide +kernel
theorem pn_7 : plainFor (⟨"sealgram/record/DropCounts", "count", "(Lsealgram/record/DropReason;)J"⟩ : MethodName) = true := by first | exact plainFor_of_name (by first | (simp [plainName, overriddenIn]; done) | decide +kernel) | decide +kernel
set_option maxRecDepth 65536 in
set_option maxHeartbeats 4000000 in
theorem rm_count (l : Launch) (Z : State) (a0 : Array Value) (hw : ∀ d ∈ tables_1, d.before a0 Z = true) (a mc r : Addr) (k : Nat) (cf : Nat → Int64) (h0 : Heap) (hk : k < 5) (Ea : Exa Z h0 a "sealgram/record/DropCounts") (F : Fld Z h0 a "sealgram/record/DropCounts" "mCounts" "[J" (.ref mc)) (A : Ary Z h0 mc .long (own_cs cf)) (Er : Exa Z h0 r "sealgram/record/DropReason") (Fr : Fld Z h0 r "java/lang/Enum" "ordinal" "I" (.int (Int32.ofNat k))) :
    Met l Z (⟨"sealgram/record/DropCounts", "count", "(Lsealgram/record/DropReason;)J"⟩ : MethodName) prog_94_method_5_code 2 (some .long) [] ({ frames := 1, cells := 0, slots := 0, locals := 13 } : Room) #[(.ref a), (.ref r)] h0 [] (fun v h => v = some (.long (cf k)) ∧ h0 = h) := by
  refine Met.walk pn_7 (Ls := #[.val (.ref a), .val (.ref r)]) (fun m => by first | (simp [entryFrame, mkF, argsToLocals, Value.category, maxLocals]; done) | rfl) ?_
  intro p e s m below meth c B
  refine B.aloadN 1 rfl d7_0 rfl rfl ?_
  refine B.getF 4 rfl d7_1 (wd hw 32 rfl) F ?_
  refine B.aloadN 5 rfl d7_4 rfl rfl ?_
  refine B.callVU 8 rfl d7_5 (ow := "java/lang/Enum") (wd hw 44 rfl) (wd hw 45 rfl) (wd hw 46 rfl) (wd hw 48 rfl) (wd hw 47 rfl) (wd hw 49 rfl) (wd hw 50 rfl) (by decide) Er [] [(.ref mc)] (rm_ord l Z a0 hw r (Int32.ofNat k) h0 Fr) rfl rfl pd___I rfl rfl 1 rfl (by decide) (by decide) (by decide) (by decide) (fun _ q => nomatch q) ?_
  rintro _ _ - ⟨rfl, rfl⟩
  show B.G h0 0 0 (mkF m 8 #[.val (.ref a), .val (.ref r)] [(.int (Int32.ofNat k)), (.ref mc)])
  refine B.laload 9 rfl d7_8 A (own_nn k hk).1 k (own_nn k hk).2 (.long (cf k)) (own_at cf k hk) ?_
  refine B.retL d7_9 (by decide) (by decide) ?_
  exact ⟨rfl, rfl⟩
theorem d8_0 : decode method_3_code 0 = .ok (.lconst 0, 1) := by decide +kernel
theorem d8_1 : decode method_3_code 1 = .ok (.lstore 5, 2) := by decide +kernel
theorem d8_3 : decode method_3_code 3 = .ok (.iload_n 1, 1) := by decide +kernel
theorem d8_4 : decode method_3_code 4 = .ok (.iconst 1, 1) := by decide +kernel
theorem d8_5 : decode method_3_code 5 = .ok (.if_icmp .lt 14, 3) := by decide +kernel
theorem d8_8 : decode method_3_code 8 = .ok (.iload_n 2, 1) := by decide +kernel
theorem d8_9 : decode method_3_code 9 = .ok (.iload_n 0, 1) := by decide +kernel
theorem d8_10 : decode method_3_code 10 = .ok (.if_icmp .ne 9, 3) := by decide +kernel
theorem d8_13 : decode method_3_code 13 = .ok (.lload 5, 2) := by decide +kernel
theorem d8_15 : decode method_3_code 15 = .ok (.lconst 1, 1) := by decide +kernel
theorem d8_16 : decode method_3_code 16 = .ok (.ladd, 1) := by decide +kernel
theorem d8_17 : decode method_3_code 17 = .ok (.lstore 5, 2) := by decide +kernel
theorem d8_19 : decode method_3_code 19 = .ok (.iload_n 1, 1) := by decide +kernel
theorem d8_20 : decode method_3_code 20 = .ok (.iconst 2, 1) := by decide +kernel
theorem d8_21 : decode method_3_code 21 = .ok (.if_icmp .lt 14, 3) := by decide +kernel
theorem d8_24 : decode method_3_code 24 = .ok (.iload_n 3, 1) := by decide +kernel
theorem d8_25 : decode method_3_code 25 = .ok (.iload_n 0, 1) := by decide +kernel
theorem d8_26 : decode method_3_code 26 = .ok (.if_icmp .ne 9, 3) := by decide +kernel
theorem d8_29 : decode method_3_code 29 = .ok (.lload 5, 2) := by decide +kernel
theorem d8_31 : decode method_3_code 31 = .ok (.lconst 1, 1) := by decide +kernel
theorem d8_32 : decode method_3_code 32 = .ok (.ladd, 1) := by decide +kernel
theorem d8_33 : decode method_3_code 33 = .ok (.lstore 5, 2) := by decide +kernel
theorem d8_35 : decode method_3_code 35 = .ok (.iload_n 1, 1) := by decide +kernel
theorem d8_36 : decode method_3_code 36 = .ok (.iconst 3, 1) := by decide +kernel
theorem d8_37 : decode method_3_code 37 = .ok (.if_icmp .lt 15, 3) := by decide +kernel
theorem d8_40 : decode method_3_code 40 = .ok (.iload 4, 2) := by decide +kernel
theorem d8_42 : decode method_3_code 42 = .ok (.iload_n 0, 1) := by decide +kernel
theorem d8_43 : decode method_3_code 43 = .ok (.if_icmp .ne 9, 3) := by decide +kernel
theorem d8_46 : decode method_3_code 46 = .ok (.lload 5, 2) := by decide +kernel
theorem d8_48 : decode method_3_code 48 = .ok (.lconst 1, 1) := by decide +kernel
theorem d8_49 : decode method_3_code 49 = .ok (.ladd, 1) := by decide +kernel
theorem d8_50 : decode method_3_code 50 = .ok (.lstore 5, 2) := by decide +kernel
theorem d8_52 : decode method_3_code 52 = .ok (.lload 5, 2) := by decide +kernel
theorem d8_54 : decode method_3_code 54 = .ok (.lreturn, 1) := by decide +kernel
theorem pn_8 : plainFor (⟨"sealgram/record/DropCountsAdd44PinLaw", "expected", "(IIIII)J"⟩ : MethodName) = true := by first | exact plainFor_of_name (by first | (simp [plainName, overriddenIn]; done) | decide +kernel) | decide +kernel
set_option maxRecDepth 65536 in
set_option maxHeartbeats 4000000 in
theorem rm_exp (l : Launch) (Z : State) (a0 : Array Value) (hw : ∀ d ∈ tables_1, d.before a0 Z = true) (j m0 ka kb kc : Int32) (h0 : Heap)  :
    Met l Z (⟨"sealgram/record/DropCountsAdd44PinLaw", "expected", "(IIIII)J"⟩ : MethodName) method_3_code 7 (some .long) [] ({ frames := 0, cells := 0, slots := 0, locals := 0 } : Room) #[(.int j), (.int m0), (.int ka), (.int kb), (.int kc)] h0 [] (fun v h => v = some (.long (own_e j m0 ka kb kc)) ∧ h0 = h) := by
  refine Met.walk pn_8 (Ls := #[.val (.int j), .val (.int m0), .val (.int ka), .val (.int kb), .val (.int kc), .unset, .unset]) (fun m => by first | (simp [entryFrame, mkF, argsToLocals, Value.category, maxLocals]; done) | rfl) ?_
  intro p e s m below meth c B
  refine B.lconst 1 rfl (0 : Int64) d8_0 rfl ?_
  refine B.lstore 3 rfl d8_1 #[.val (.int j), .val (.int m0), .val (.int ka), .val (.int kb), .val (.int kc), .val (.long (0 : Int64)), .second] rfl ?_
  refine B.iloadN 4 rfl d8_3 rfl ?_
  refine B.iconst 5 rfl (1 : Int32) d8_4 rfl ?_
  refine B.icmp_lt 19 8 rfl (by decide) rfl d8_5 (fun c5 => ?_) (fun c5 => ?_)
  · refine B.iloadN 20 rfl d8_19 rfl ?_
    refine B.iconst 21 rfl (2 : Int32) d8_20 rfl ?_
    refine B.icmp_lt 35 24 rfl (by decide) rfl d8_21 (fun c21 => ?_) (fun c21 => ?_)
    · refine B.iloadN 36 rfl d8_35 rfl ?_
      refine B.iconst 37 rfl (3 : Int32) d8_36 rfl ?_
      refine B.icmp_lt 52 40 rfl (by decide) rfl d8_37 (fun c37 => ?_) (fun c37 => ?_)
      · refine B.lload 54 rfl d8_52 rfl ?_
        refine B.retL d8_54 (by decide) (by decide) ?_
        exact ⟨by simp [own_e, c5, c21, c37], rfl⟩
      · refine B.iload 42 rfl d8_40 rfl ?_
        refine B.iloadN 43 rfl d8_42 rfl ?_
        refine B.icmp_ne 52 46 rfl (by decide) rfl d8_43 (fun c43 => ?_) (fun c43 => ?_)
        · refine B.lload 54 rfl d8_52 rfl ?_
          refine B.retL d8_54 (by decide) (by decide) ?_
          exact ⟨by simp [own_e, c5, c21, c37, c43], rfl⟩
        · refine B.lload 48 rfl d8_46 rfl ?_
          refine B.lconst 49 rfl (1 : Int64) d8_48 rfl ?_
          refine B.ladd 50 rfl d8_49 ?_
          refine B.lstore 52 rfl d8_50 #[.val (.int j), .val (.int m0), .val (.int ka), .val (.int kb), .val (.int kc), .val (.long ((0 : Int64) + (1 : Int64))), .second] rfl ?_
          refine B.lload 54 rfl d8_52 rfl ?_
          refine B.retL d8_54 (by decide) (by decide) ?_
          exact ⟨by simp [own_e, c5, c21, c37, c43], rfl⟩
    · refine B.iloadN 25 rfl d8_24 rfl ?_
      refine B.iloadN 26 rfl d8_25 rfl ?_
      refine B.icmp_ne 35 29 rfl (by decide) rfl d8_26 (fun c26 => ?_) (fun c26 => ?_)
      · refine B.iloadN 36 rfl d8_35 rfl ?_
        refine B.iconst 37 rfl (3 : Int32) d8_36 rfl ?_
        refine B.icmp_lt 52 40 rfl (by decide) rfl d8_37 (fun c37 => ?_) (fun c37 => ?_)
        · refine B.lload 54 rfl d8_52 rfl ?_
          refine B.retL d8_54 (by decide) (by decide) ?_
          exact ⟨by simp [own_e, c5, c21, c26, c37], rfl⟩
        · refine B.iload 42 rfl d8_40 rfl ?_
          refine B.iloadN 43 rfl d8_42 rfl ?_
          refine B.icmp_ne 52 46 rfl (by decide) rfl d8_43 (fun c43 => ?_) (fun c43 => ?_)
          · refine B.lload 54 rfl d8_52 rfl ?_
            refine B.retL d8_54 (by decide) (by decide) ?_
            exact ⟨by simp [own_e, c5, c21, c26, c37, c43], rfl⟩
          · refine B.lload 48 rfl d8_46 rfl ?_
            refine B.lconst 49 rfl (1 : Int64) d8_48 rfl ?_
            refine B.ladd 50 rfl d8_49 ?_
            refine B.lstore 52 rfl d8_50 #[.val (.int j), .val (.int m0), .val (.int ka), .val (.int kb), .val (.int kc), .val (.long ((0 : Int64) + (1 : Int64))), .second] rfl ?_
            refine B.lload 54 rfl d8_52 rfl ?_
            refine B.retL d8_54 (by decide) (by decide) ?_
            exact ⟨by simp [own_e, c5, c21, c26, c37, c43], rfl⟩
      · refine B.lload 31 rfl d8_29 rfl ?_
        refine B.lconst 32 rfl (1 : Int64) d8_31 rfl ?_
        refine B.ladd 33 rfl d8_32 ?_
        refine B.lstore 35 rfl d8_33 #[.val (.int j), .val (.int m0), .val (.int ka), .val (.int kb), .val (.int kc), .val (.long ((0 : Int64) + (1 : Int64))), .second] rfl ?_
        refine B.iloadN 36 rfl d8_35 rfl ?_
        refine B.iconst 37 rfl (3 : Int32) d8_36 rfl ?_
        refine B.icmp_lt 52 40 rfl (by decide) rfl d8_37 (fun c37 => ?_) (fun c37 => ?_)
        · refine B.lload 54 rfl d8_52 rfl ?_
          refine B.retL d8_54 (by decide) (by decide) ?_
          exact ⟨by simp [own_e, c5, c21, c26, c37], rfl⟩
        · refine B.iload 42 rfl d8_40 rfl ?_
          refine B.iloadN 43 rfl d8_42 rfl ?_
          refine B.icmp_ne 52 46 rfl (by decide) rfl d8_43 (fun c43 => ?_) (fun c43 => ?_)
          · refine B.lload 54 rfl d8_52 rfl ?_
            refine B.retL d8_54 (by decide) (by decide) ?_
            exact ⟨by simp [own_e, c5, c21, c26, c37, c43], rfl⟩
          · refine B.lload 48 rfl d8_46 rfl ?_
            refine B.lconst 49 rfl (1 : Int64) d8_48 rfl ?_
            refine B.ladd 50 rfl d8_49 ?_
            refine B.lstore 52 rfl d8_50 #[.val (.int j), .val (.int m0), .val (.int ka), .val (.int kb), .val (.int kc), .val (.long (((0 : Int64) + (1 : Int64)) + (1 : Int64))), .second] rfl ?_
            refine B.lload 54 rfl d8_52 rfl ?_
            refine B.retL d8_54 (by decide) (by decide) ?_
            exact ⟨by simp [own_e, c5, c21, c26, c37, c43], rfl⟩
  · refine B.iloadN 9 rfl d8_8 rfl ?_
    refine B.iloadN 10 rfl d8_9 rfl ?_
    refine B.icmp_ne 19 13 rfl (by decide) rfl d8_10 (fun c10 => ?_) (fun c10 => ?_)
    · refine B.iloadN 20 rfl d8_19 rfl ?_
      refine B.iconst 21 rfl (2 : Int32) d8_20 rfl ?_
      refine B.icmp_lt 35 24 rfl (by decide) rfl d8_21 (fun c21 => ?_) (fun c21 => ?_)
      · refine B.iloadN 36 rfl d8_35 rfl ?_
        refine B.iconst 37 rfl (3 : Int32) d8_36 rfl ?_
        refine B.icmp_lt 52 40 rfl (by decide) rfl d8_37 (fun c37 => ?_) (fun c37 => ?_)
        · refine B.lload 54 rfl d8_52 rfl ?_
          refine B.retL d8_54 (by decide) (by decide) ?_
          exact ⟨by simp [own_e, c5, c10, c21, c37], rfl⟩
        · refine B.iload 42 rfl d8_40 rfl ?_
          refine B.iloadN 43 rfl d8_42 rfl ?_
          refine B.icmp_ne 52 46 rfl (by decide) rfl d8_43 (fun c43 => ?_) (fun c43 => ?_)
          · refine B.lload 54 rfl d8_52 rfl ?_
            refine B.retL d8_54 (by decide) (by decide) ?_
            exact ⟨by simp [own_e, c5, c10, c21, c37, c43], rfl⟩
          · refine B.lload 48 rfl d8_46 rfl ?_
            refine B.lconst 49 rfl (1 : Int64) d8_48 rfl ?_
            refine B.ladd 50 rfl d8_49 ?_
            refine B.lstore 52 rfl d8_50 #[.val (.int j), .val (.int m0), .val (.int ka), .val (.int kb), .val (.int kc), .val (.long ((0 : Int64) + (1 : Int64))), .second] rfl ?_
            refine B.lload 54 rfl d8_52 rfl ?_
            refine B.retL d8_54 (by decide) (by decide) ?_
            exact ⟨by simp [own_e, c5, c10, c21, c37, c43], rfl⟩
      · refine B.iloadN 25 rfl d8_24 rfl ?_
        refine B.iloadN 26 rfl d8_25 rfl ?_
        refine B.icmp_ne 35 29 rfl (by decide) rfl d8_26 (fun c26 => ?_) (fun c26 => ?_)
        · refine B.iloadN 36 rfl d8_35 rfl ?_
          refine B.iconst 37 rfl (3 : Int32) d8_36 rfl ?_
          refine B.icmp_lt 52 40 rfl (by decide) rfl d8_37 (fun c37 => ?_) (fun c37 => ?_)
          · refine B.lload 54 rfl d8_52 rfl ?_
            refine B.retL d8_54 (by decide) (by decide) ?_
            exact ⟨by simp [own_e, c5, c10, c21, c26, c37], rfl⟩
          · refine B.iload 42 rfl d8_40 rfl ?_
            refine B.iloadN 43 rfl d8_42 rfl ?_
            refine B.icmp_ne 52 46 rfl (by decide) rfl d8_43 (fun c43 => ?_) (fun c43 => ?_)
            · refine B.lload 54 rfl d8_52 rfl ?_
              refine B.retL d8_54 (by decide) (by decide) ?_
              exact ⟨by simp [own_e, c5, c10, c21, c26, c37, c43], rfl⟩
            · refine B.lload 48 rfl d8_46 rfl ?_
              refine B.lconst 49 rfl (1 : Int64) d8_48 rfl ?_
              refine B.ladd 50 rfl d8_49 ?_
              refine B.lstore 52 rfl d8_50 #[.val (.int j), .val (.int m0), .val (.int ka), .val (.int kb), .val (.int kc), .val (.long ((0 : Int64) + (1 : Int64))), .second] rfl ?_
              refine B.lload 54 rfl d8_52 rfl ?_
              refine B.retL d8_54 (by decide) (by decide) ?_
              exact ⟨by simp [own_e, c5, c10, c21, c26, c37, c43], rfl⟩
        · refine B.lload 31 rfl d8_29 rfl ?_
          refine B.lconst 32 rfl (1 : Int64) d8_31 rfl ?_
          refine B.ladd 33 rfl d8_32 ?_
          refine B.lstore 35 rfl d8_33 #[.val (.int j), .val (.int m0), .val (.int ka), .val (.int kb), .val (.int kc), .val (.long ((0 : Int64) + (1 : Int64))), .second] rfl ?_
          refine B.iloadN 36 rfl d8_35 rfl ?_
          refine B.iconst 37 rfl (3 : Int32) d8_36 rfl ?_
          refine B.icmp_lt 52 40 rfl (by decide) rfl d8_37 (fun c37 => ?_) (fun c37 => ?_)
          · refine B.lload 54 rfl d8_52 rfl ?_
            refine B.retL d8_54 (by decide) (by decide) ?_
            exact ⟨by simp [own_e, c5, c10, c21, c26, c37], rfl⟩
          · refine B.iload 42 rfl d8_40 rfl ?_
            refine B.iloadN 43 rfl d8_42 rfl ?_
            refine B.icmp_ne 52 46 rfl (by decide) rfl d8_43 (fun c43 => ?_) (fun c43 => ?_)
            · refine B.lload 54 rfl d8_52 rfl ?_
              refine B.retL d8_54 (by decide) (by decide) ?_
              exact ⟨by simp [own_e, c5, c10, c21, c26, c37, c43], rfl⟩
            · refine B.lload 48 rfl d8_46 rfl ?_
              refine B.lconst 49 rfl (1 : Int64) d8_48 rfl ?_
              refine B.ladd 50 rfl d8_49 ?_
              refine B.lstore 52 rfl d8_50 #[.val (.int j), .val (.int m0), .val (.int ka), .val (.int kb), .val (.int kc), .val (.long (((0 : Int64) + (1 : Int64)) + (1 : Int64))), .second] rfl ?_
              refine B.lload 54 rfl d8_52 rfl ?_
              refine B.retL d8_54 (by decide) (by decide) ?_
              exact ⟨by simp [own_e, c5, c10, c21, c26, c37, c43], rfl⟩
    · refine B.lload 15 rfl d8_13 rfl ?_
      refine B.lconst 16 rfl (1 : Int64) d8_15 rfl ?_
      refine B.ladd 17 rfl d8_16 ?_
      refine B.lstore 19 rfl d8_17 #[.val (.int j), .val (.int m0), .val (.int ka), .val (.int kb), .val (.int kc), .val (.long ((0 : Int64) + (1 : Int64))), .second] rfl ?_
      refine B.iloadN 20 rfl d8_19 rfl ?_
      refine B.iconst 21 rfl (2 : Int32) d8_20 rfl ?_
      refine B.icmp_lt 35 24 rfl (by decide) rfl d8_21 (fun c21 => ?_) (fun c21 => ?_)
      · refine B.iloadN 36 rfl d8_35 rfl ?_
        refine B.iconst 37 rfl (3 : Int32) d8_36 rfl ?_
        refine B.icmp_lt 52 40 rfl (by decide) rfl d8_37 (fun c37 => ?_) (fun c37 => ?_)
        · refine B.lload 54 rfl d8_52 rfl ?_
          refine B.retL d8_54 (by decide) (by decide) ?_
          exact ⟨by simp [own_e, c5, c10, c21, c37], rfl⟩
        · refine B.iload 42 rfl d8_40 rfl ?_
          refine B.iloadN 43 rfl d8_42 rfl ?_
          refine B.icmp_ne 52 46 rfl (by decide) rfl d8_43 (fun c43 => ?_) (fun c43 => ?_)
          · refine B.lload 54 rfl d8_52 rfl ?_
            refine B.retL d8_54 (by decide) (by decide) ?_
            exact ⟨by simp [own_e, c5, c10, c21, c37, c43], rfl⟩
          · refine B.lload 48 rfl d8_46 rfl ?_
            refine B.lconst 49 rfl (1 : Int64) d8_48 rfl ?_
            refine B.ladd 50 rfl d8_49 ?_
            refine B.lstore 52 rfl d8_50 #[.val (.int j), .val (.int m0), .val (.int ka), .val (.int kb), .val (.int kc), .val (.long (((0 : Int64) + (1 : Int64)) + (1 : Int64))), .second] rfl ?_
            refine B.lload 54 rfl d8_52 rfl ?_
            refine B.retL d8_54 (by decide) (by decide) ?_
            exact ⟨by simp [own_e, c5, c10, c21, c37, c43], rfl⟩
      · refine B.iloadN 25 rfl d8_24 rfl ?_
        refine B.iloadN 26 rfl d8_25 rfl ?_
        refine B.icmp_ne 35 29 rfl (by decide) rfl d8_26 (fun c26 => ?_) (fun c26 => ?_)
        · refine B.iloadN 36 rfl d8_35 rfl ?_
          refine B.iconst 37 rfl (3 : Int32) d8_36 rfl ?_
          refine B.icmp_lt 52 40 rfl (by decide) rfl d8_37 (fun c37 => ?_) (fun c37 => ?_)
          · refine B.lload 54 rfl d8_52 rfl ?_
            refine B.retL d8_54 (by decide) (by decide) ?_
            exact ⟨by simp [own_e, c5, c10, c21, c26, c37], rfl⟩
          · refine B.iload 42 rfl d8_40 rfl ?_
            refine B.iloadN 43 rfl d8_42 rfl ?_
            refine B.icmp_ne 52 46 rfl (by decide) rfl d8_43 (fun c43 => ?_) (fun c43 => ?_)
            · refine B.lload 54 rfl d8_52 rfl ?_
              refine B.retL d8_54 (by decide) (by decide) ?_
              exact ⟨by simp [own_e, c5, c10, c21, c26, c37, c43], rfl⟩
            · refine B.lload 48 rfl d8_46 rfl ?_
              refine B.lconst 49 rfl (1 : Int64) d8_48 rfl ?_
              refine B.ladd 50 rfl d8_49 ?_
              refine B.lstore 52 rfl d8_50 #[.val (.int j), .val (.int m0), .val (.int ka), .val (.int kb), .val (.int kc), .val (.long (((0 : Int64) + (1 : Int64)) + (1 : Int64))), .second] rfl ?_
              refine B.lload 54 rfl d8_52 rfl ?_
              refine B.retL d8_54 (by decide) (by decide) ?_
              exact ⟨by simp [own_e, c5, c10, c21, c26, c37, c43], rfl⟩
        · refine B.lload 31 rfl d8_29 rfl ?_
          refine B.lconst 32 rfl (1 : Int64) d8_31 rfl ?_
          refine B.ladd 33 rfl d8_32 ?_
          refine B.lstore 35 rfl d8_33 #[.val (.int j), .val (.int m0), .val (.int ka), .val (.int kb), .val (.int kc), .val (.long (((0 : Int64) + (1 : Int64)) + (1 : Int64))), .second] rfl ?_
          refine B.iloadN 36 rfl d8_35 rfl ?_
          refine B.iconst 37 rfl (3 : Int32) d8_36 rfl ?_
          refine B.icmp_lt 52 40 rfl (by decide) rfl d8_37 (fun c37 => ?_) (fun c37 => ?_)
          · refine B.lload 54 rfl d8_52 rfl ?_
            refine B.retL d8_54 (by decide) (by decide) ?_
            exact ⟨by simp [own_e, c5, c10, c21, c26, c37], rfl⟩
          · refine B.iload 42 rfl d8_40 rfl ?_
            refine B.iloadN 43 rfl d8_42 rfl ?_
            refine B.icmp_ne 52 46 rfl (by decide) rfl d8_43 (fun c43 => ?_) (fun c43 => ?_)
            · refine B.lload 54 rfl d8_52 rfl ?_
              refine B.retL d8_54 (by decide) (by decide) ?_
              exact ⟨by simp [own_e, c5, c10, c21, c26, c37, c43], rfl⟩
            · refine B.lload 48 rfl d8_46 rfl ?_
              refine B.lconst 49 rfl (1 : Int64) d8_48 rfl ?_
              refine B.ladd 50 rfl d8_49 ?_
              refine B.lstore 52 rfl d8_50 #[.val (.int j), .val (.int m0), .val (.int ka), .val (.int kb), .val (.int kc), .val (.long ((((0 : Int64) + (1 : Int64)) + (1 : Int64)) + (1 : Int64))), .second] rfl ?_
              refine B.lload 54 rfl d8_52 rfl ?_
              refine B.retL d8_54 (by decide) (by decide) ?_
              exact ⟨by simp [own_e, c5, c10, c21, c26, c37, c43], rfl⟩
theorem pn_0 : plainFor x = true := by first | exact plainFor_of_name (by first | (simp [plainName, overriddenIn]; done) | decide +kernel) | decide +kernel
set_option maxRecDepth 65536 in
set_option maxHeartbeats 4000000 in
theorem rm0 (l : Launch) (Z : State) (a0 : Array Value) (hw : ∀ d ∈ tables_1, d.before a0 Z = true) (wds : List Jvm.Cond) (p1 p2 p3 p4 : Int32) (h0 : Heap) (v a_REPLAYED a_TOO_OLD a_BAD_TAG a_MALFORMED a_WRONG_EPOCH : Addr) (S : Sta Z h0 "sealgram/record/DropReason" "$VALUES" "[Lsealgram/record/DropReason;" (.ref v)) (A : Ary Z h0 v (.object "sealgram/record/DropReason") [(.ref a_REPLAYED), (.ref a_TOO_OLD), (.ref a_BAD_TAG), (.ref a_MALFORMED), (.ref a_WRONG_EPOCH)]) (E : Exa Z h0 v "[Lsealgram/record/DropReason;") (S_REPLAYED : Sta Z h0 "sealgram/record/DropReason" "REPLAYED" "Lsealgram/record/DropReason;" (.ref a_REPLAYED)) (E_REPLAYED : Exa Z h0 a_REPLAYED "sealgram/record/DropReason") (F_REPLAYED : Fld Z h0 a_REPLAYED "java/lang/Enum" "ordinal" "I" (.int (0 : Int32))) (S_TOO_OLD : Sta Z h0 "sealgram/record/DropReason" "TOO_OLD" "Lsealgram/record/DropReason;" (.ref a_TOO_OLD)) (E_TOO_OLD : Exa Z h0 a_TOO_OLD "sealgram/record/DropReason") (F_TOO_OLD : Fld Z h0 a_TOO_OLD "java/lang/Enum" "ordinal" "I" (.int (1 : Int32))) (S_BAD_TAG : Sta Z h0 "sealgram/record/DropReason" "BAD_TAG" "Lsealgram/record/DropReason;" (.ref a_BAD_TAG)) (E_BAD_TAG : Exa Z h0 a_BAD_TAG "sealgram/record/DropReason") (F_BAD_TAG : Fld Z h0 a_BAD_TAG "java/lang/Enum" "ordinal" "I" (.int (2 : Int32))) (S_MALFORMED : Sta Z h0 "sealgram/record/DropReason" "MALFORMED" "Lsealgram/record/DropReason;" (.ref a_MALFORMED)) (E_MALFORMED : Exa Z h0 a_MALFORMED "sealgram/record/DropReason") (F_MALFORMED : Fld Z h0 a_MALFORMED "java/lang/Enum" "ordinal" "I" (.int (3 : Int32))) (S_WRONG_EPOCH : Sta Z h0 "sealgram/record/DropReason" "WRONG_EPOCH" "Lsealgram/record/DropReason;" (.ref a_WRONG_EPOCH)) (E_WRONG_EPOCH : Exa Z h0 a_WRONG_EPOCH "sealgram/record/DropReason") (F_WRONG_EPOCH : Fld Z h0 a_WRONG_EPOCH "java/lang/Enum" "ordinal" "I" (.int (4 : Int32))) :
    Met l Z x code maxLocals ret wds room_1 #[(.int p1), (.int p2), (.int p3), (.int p4)] h0 [] (fun v _ => v = some (.int 1)) := by
  refine Met.walk pn_0 (Ls := #[.val (.int p1), .val (.int p2), .val (.int p3), .val (.int p4), .unset, .unset, .unset, .unset, .unset, .unset]) (fun m => by first | (simp [entryFrame, mkF, argsToLocals, Value.category, maxLocals]; done) | rfl) ?_
  intro p e s m below meth c B
  refine B.iloadN 1 rfl at_0 rfl ?_
  refine B.ldcI 3 rfl at_1 (wd hw 0 rfl) ?_
  refine B.iand 4 rfl at_3 ?_
  refine B.iconst 5 rfl (5 : Int32) at_4 rfl ?_
  refine B.irem 6 rfl at_5 (by decide) ?_
  obtain ⟨ka, hka, eka⟩ := own_k p1
  rw [eka]
  refine B.istore 8 rfl at_6 #[.val (.int p1), .val (.int p2), .val (.int p3), .val (.int p4), .val (.int (Int32.ofNat ka)), .unset, .unset, .unset, .unset, .unset] rfl ?_
  refine B.iloadN 9 rfl at_8 rfl ?_
  refine B.ldcI 11 rfl at_9 (wd hw 0 rfl) ?_
  refine B.iand 12 rfl at_11 ?_
  refine B.iconst 13 rfl (5 : Int32) at_12 rfl ?_
  refine B.irem 14 rfl at_13 (by decide) ?_
  obtain ⟨kb, hkb, ekb⟩ := own_k p2
  rw [ekb]
  refine B.istore 16 rfl at_14 #[.val (.int p1), .val (.int p2), .val (.int p3), .val (.int p4), .val (.int (Int32.ofNat ka)), .val (.int (Int32.ofNat kb)), .unset, .unset, .unset, .unset] rfl ?_
  refine B.iloadN 17 rfl at_16 rfl ?_
  refine B.ldcI 19 rfl at_17 (wd hw 0 rfl) ?_
  refine B.iand 20 rfl at_19 ?_
  refine B.iconst 21 rfl (5 : Int32) at_20 rfl ?_
  refine B.irem 22 rfl at_21 (by decide) ?_
  obtain ⟨kc, hkc, ekc⟩ := own_k p3
  rw [ekc]
  refine B.istore 24 rfl at_22 #[.val (.int p1), .val (.int p2), .val (.int p3), .val (.int p4), .val (.int (Int32.ofNat ka)), .val (.int (Int32.ofNat kb)), .val (.int (Int32.ofNat kc)), .unset, .unset, .unset] rfl ?_
  refine B.iloadN 25 rfl at_24 rfl ?_
  refine B.iconst 26 rfl (3 : Int32) at_25 rfl ?_
  refine B.iand 27 rfl at_26 ?_
  have hm := own_m p4
  generalize p4 &&& (3 : Int32) = mm at hm ⊢
  rcases hm with rfl | rfl | rfl | rfl
  · refine B.istore 29 rfl at_27 #[.val (.int p1), .val (.int p2), .val (.int p3), .val (.int p4), .val (.int (Int32.ofNat ka)), .val (.int (Int32.ofNat kb)), .val (.int (Int32.ofNat kc)), .val (.int (0 : Int32)), .unset, .unset] rfl ?_
    refine B.newO 32 rfl at_29 (wd hw 1 rfl) (wd hw 2 rfl) (wd hw 3 rfl) (by decide) (by decide) ?_
    intro h1 a ea ga X1 A1 D1
    show B.G h1 1 1 (mkF m 32 #[.val (.int p1), .val (.int p2), .val (.int p3), .val (.int p4), .val (.int (Int32.ofNat ka)), .val (.int (Int32.ofNat kb)), .val (.int (Int32.ofNat kc)), .val (.int (0 : Int32)), .unset, .unset] [(.ref a)])
    refine B.dup 33 rfl at_32 rfl ?_
    have F1 : Fld Z h1 a "sealgram/record/DropCounts" "mCounts" "[J" .null := D1 (Or.inr (wd hw 33 rfl)) (ty := .array .long) (by decide)
    refine B.callI 36 rfl at_33 rfl (wd hw 4 rfl) (wd hw 5 rfl) (wd hw 3 rfl) (wd hw 6 rfl) (by decide) [] [(.ref a)] (rm_init l Z a0 hw a v a_REPLAYED a_TOO_OLD a_BAD_TAG a_MALFORMED a_WRONG_EPOCH h1 (S.ext X1) (A.ext X1) (E.ext X1) A1 F1) rfl rfl pd___V rfl rfl 1 rfl (by decide) (by decide) (by decide) (by decide) (fun x z => Or.inr (by cases List.mem_singleton.mp z; exact ga)) ?_
    rintro _ h2 K2 ⟨rfl, Ea, mc, gm, Fm, Am⟩
    show B.G h2 3 11 (mkF m 36 #[.val (.int p1), .val (.int p2), .val (.int p3), .val (.int p4), .val (.int (Int32.ofNat ka)), .val (.int (Int32.ofNat kb)), .val (.int (Int32.ofNat kc)), .val (.int (0 : Int32)), .unset, .unset] [(.ref a)])
    have gm0 : h0.size ≤ mc := Nat.le_trans X1.1 gm
    have ne : a ≠ mc := fun q => absurd A1.lt (by rw [q]; exact Nat.not_lt.mpr gm)
    refine B.astore 38 rfl at_36 rfl #[.val (.int p1), .val (.int p2), .val (.int p3), .val (.int p4), .val (.int (Int32.ofNat ka)), .val (.int (Int32.ofNat kb)), .val (.int (Int32.ofNat kc)), .val (.int (0 : Int32)), .val (.ref a), .unset] rfl ?_
    refine B.iload 40 rfl at_38 rfl ?_
    refine B.iconst 41 rfl (1 : Int32) at_40 rfl ?_
    refine B.icmp_lt 54 44 rfl (by decide) rfl at_41 (fun c41 => ?_) (fun c41 => ?_)
    · refine B.iload 56 rfl at_54 rfl ?_
      refine B.iconst 57 rfl (2 : Int32) at_56 rfl ?_
      refine B.icmp_lt 70 60 rfl (by decide) rfl at_57 (fun c57 => ?_) (fun c57 => ?_)
      · refine B.iload 72 rfl at_70 rfl ?_
        refine B.iconst 73 rfl (3 : Int32) at_72 rfl ?_
        refine B.icmp_lt 86 76 rfl (by decide) rfl at_73 (fun c73 => ?_) (fun c73 => ?_)
        · refine B.iconst 87 rfl (1 : Int32) at_86 rfl ?_
          refine B.istore 89 rfl at_87 #[.val (.int p1), .val (.int p2), .val (.int p3), .val (.int p4), .val (.int (Int32.ofNat ka)), .val (.int (Int32.ofNat kb)), .val (.int (Int32.ofNat kc)), .val (.int (0 : Int32)), .val (.ref a), .val (.int (1 : Int32))] rfl ?_
          refine B.iload 91 rfl at_89 rfl ?_
          refine B.if0_eq 123 94 rfl (by decide) rfl at_91 (fun c91 => ?_) (fun c91 => ?_)
          · exact absurd c91 (by decide)
          · refine B.aload 96 rfl at_94 rfl rfl ?_
            refine B.iconst 97 rfl (0 : Int32) at_96 rfl ?_
            refine B.olds fun Y1 => ?_
            refine B.callS 100 rfl at_97 (wd hw 34 rfl) (wd hw 35 rfl) (wd hw 36 rfl) (wd hw 37 rfl) (by decide) [(.int (0 : Int32))] [(.ref a)] (rm_reason l Z a0 hw 0 a_REPLAYED a_TOO_OLD a_BAD_TAG a_MALFORMED a_WRONG_EPOCH h2 (by decide) (S_REPLAYED.ext Y1) (E_REPLAYED.ext Y1) (F_REPLAYED.ext Y1) (S_TOO_OLD.ext Y1) (E_TOO_OLD.ext Y1) (F_TOO_OLD.ext Y1) (S_BAD_TAG.ext Y1) (E_BAD_TAG.ext Y1) (F_BAD_TAG.ext Y1) (S_MALFORMED.ext Y1) (E_MALFORMED.ext Y1) (F_MALFORMED.ext Y1) (S_WRONG_EPOCH.ext Y1) (E_WRONG_EPOCH.ext Y1) (F_WRONG_EPOCH.ext Y1)) rfl rfl pd__I_Lsealgram_record_DropReason_ rfl rfl 1 rfl (by decide) (by decide) (by decide) (by decide) (fun _ q => nomatch q) ?_
            rintro _ _ - ⟨r2, rfl, rfl, Er2, Fr2⟩
            show B.G h2 3 11 (mkF m 100 #[.val (.int p1), .val (.int p2), .val (.int p3), .val (.int p4), .val (.int (Int32.ofNat ka)), .val (.int (Int32.ofNat kb)), .val (.int (Int32.ofNat kc)), .val (.int (0 : Int32)), .val (.ref a), .val (.int (1 : Int32))] [(.ref r2), (.ref a)])
            refine B.callV 103 rfl at_100 (wd hw 53 rfl) (wd hw 54 rfl) (wd hw 56 rfl) (wd hw 55 rfl) (wd hw 3 rfl) (wd hw 57 rfl) (by decide) Ea [(.ref r2)] [] (rm_count l Z a0 hw a mc r2 0 (fun _ => 0) h2 (by decide) Ea Fm Am Er2 Fr2) rfl rfl pd__Lsealgram_record_DropReason__J rfl rfl 0 rfl (by decide) (by decide) (by decide) (by decide) (fun _ q => nomatch q) ?_
            rintro _ _ - ⟨rfl, rfl⟩
            show B.G h2 3 11 (mkF m 103 #[.val (.int p1), .val (.int p2), .val (.int p3), .val (.int p4), .val (.int (Int32.ofNat ka)), .val (.int (Int32.ofNat kb)), .val (.int (Int32.ofNat kc)), .val (.int (0 : Int32)), .val (.ref a), .val (.int (1 : Int32))] [(.long ((fun _ => 0) 0))])
            refine B.iconst 104 rfl (0 : Int32) at_103 rfl ?_
            refine B.iload 106 rfl at_104 rfl ?_
            refine B.iload 108 rfl at_106 rfl ?_
            refine B.iload 110 rfl at_108 rfl ?_
            refine B.iload 112 rfl at_110 rfl ?_
            refine B.callS 115 rfl at_112 (wd hw 58 rfl) (wd hw 59 rfl) (wd hw 36 rfl) (wd hw 60 rfl) (by decide) [(.int (0 : Int32)), (.int (0 : Int32)), (.int (Int32.ofNat ka)), (.int (Int32.ofNat kb)), (.int (Int32.ofNat kc))] [(.long ((fun _ => 0) 0))] (rm_exp l Z a0 hw (0 : Int32) (0 : Int32) (Int32.ofNat ka) (Int32.ofNat kb) (Int32.ofNat kc) h2) rfl rfl pd__IIIII_J rfl rfl 2 rfl (by decide) (by decide) (by decide) (by decide) (fun _ q => nomatch q) ?_
            rintro _ _ - ⟨rfl, rfl⟩
            show B.G h2 3 11 (mkF m 115 #[.val (.int p1), .val (.int p2), .val (.int p3), .val (.int p4), .val (.int (Int32.ofNat ka)), .val (.int (Int32.ofNat kb)), .val (.int (Int32.ofNat kc)), .val (.int (0 : Int32)), .val (.ref a), .val (.int (1 : Int32))] [(.long (own_e (0 : Int32) (0 : Int32) (Int32.ofNat ka) (Int32.ofNat kb) (Int32.ofNat kc))), (.long ((fun _ => 0) 0))])
            refine B.lcmp 116 rfl at_115 ?_
            refine B.lif_ne 123 119 rfl (by decide) rfl at_116 (fun c116 => ?_) (fun c116 => ?_)
            · exact absurd (by simp [own_e, own_inc, ]) c116
            · refine B.iconst 120 rfl (1 : Int32) at_119 rfl ?_
              refine B.goto 124 rfl (by decide) at_120 ?_
              refine B.istore 126 rfl at_124 #[.val (.int p1), .val (.int p2), .val (.int p3), .val (.int p4), .val (.int (Int32.ofNat ka)), .val (.int (Int32.ofNat kb)), .val (.int (Int32.ofNat kc)), .val (.int (0 : Int32)), .val (.ref a), .val (.int (1 : Int32))] rfl ?_
              refine B.iload 128 rfl at_126 rfl ?_
              refine B.if0_eq 160 131 rfl (by decide) rfl at_128 (fun c128 => ?_) (fun c128 => ?_)
              · exact absurd c128 (by decide)
              · refine B.aload 133 rfl at_131 rfl rfl ?_
                refine B.iconst 134 rfl (1 : Int32) at_133 rfl ?_
                refine B.olds fun Y3 => ?_
                refine B.callS 137 rfl at_134 (wd hw 34 rfl) (wd hw 35 rfl) (wd hw 36 rfl) (wd hw 37 rfl) (by decide) [(.int (1 : Int32))] [(.ref a)] (rm_reason l Z a0 hw 1 a_REPLAYED a_TOO_OLD a_BAD_TAG a_MALFORMED a_WRONG_EPOCH h2 (by decide) (S_REPLAYED.ext Y3) (E_REPLAYED.ext Y3) (F_REPLAYED.ext Y3) (S_TOO_OLD.ext Y3) (E_TOO_OLD.ext Y3) (F_TOO_OLD.ext Y3) (S_BAD_TAG.ext Y3) (E_BAD_TAG.ext Y3) (F_BAD_TAG.ext Y3) (S_MALFORMED.ext Y3) (E_MALFORMED.ext Y3) (F_MALFORMED.ext Y3) (S_WRONG_EPOCH.ext Y3) (E_WRONG_EPOCH.ext Y3) (F_WRONG_EPOCH.ext Y3)) rfl rfl pd__I_Lsealgram_record_DropReason_ rfl rfl 1 rfl (by decide) (by decide) (by decide) (by decide) (fun _ q => nomatch q) ?_
                rintro _ _ - ⟨r4, rfl, rfl, Er4, Fr4⟩
                show B.G h2 3 11 (mkF m 137 #[.val (.int p1), .val (.int p2), .val (.int p3), .val (.int p4), .val (.int (Int32.ofNat ka)), .val (.int (Int32.ofNat kb)), .val (.int (Int32.ofNat kc)), .val (.int (0 : Int32)), .val (.ref a), .val (.int (1 : Int32))] [(.ref r4), (.ref a)])
                refine B.callV 140 rfl at_137 (wd hw 53 rfl) (wd hw 54 rfl) (wd hw 56 rfl) (wd hw 55 rfl) (wd hw 3 rfl) (wd hw 57 rfl) (by decide) Ea [(.ref r4)] [] (rm_count l Z a0 hw a mc r4 1 (fun _ => 0) h2 (by decide) Ea Fm Am Er4 Fr4) rfl rfl pd__Lsealgram_record_DropReason__J rfl rfl 0 rfl (by decide) (by decide) (by decide) (by decide) (fun _ q => nomatch q) ?_
                rintro _ _ - ⟨rfl, rfl⟩
                show B.G h2 3 11 (mkF m 140 #[.val (.int p1), .val (.int p2), .val (.int p3), .val (.int p4), .val (.int (Int32.ofNat ka)), .val (.int (Int32.ofNat kb)), .val (.int (Int32.ofNat kc)), .val (.int (0 : Int32)), .val (.ref a), .val (.int (1 : Int32))] [(.long ((fun _ => 0) 1))])
                refine B.iconst 141 rfl (1 : Int32) at_140 rfl ?_
                refine B.iload 143 rfl at_141 rfl ?_
                refine B.iload 145 rfl at_143 rfl ?_
                refine B.iload 147 rfl at_145 rfl ?_
                refine B.iload 149 rfl at_147 rfl ?_
                refine B.callS 152 rfl at_149 (wd hw 58 rfl) (wd hw 59 rfl) (wd hw 36 rfl) (wd hw 60 rfl) (by decide) [(.int (1 : Int32)), (.int (0 : Int32)), (.int (Int32.ofNat ka)), (.int (Int32.ofNat kb)), (.int (Int32.ofNat kc))] [(.long ((fun _ => 0) 1))] (rm_exp l Z a0 hw (1 : Int32) (0 : Int32) (Int32.ofNat ka) (Int32.ofNat kb) (Int32.ofNat kc) h2) rfl rfl pd__IIIII_J rfl rfl 2 rfl (by decide) (by decide) (by decide) (by decide) (fun _ q => nomatch q) ?_
                rintro _ _ - ⟨rfl, rfl⟩
                show B.G h2 3 11 (mkF m 152 #[.val (.int p1), .val (.int p2), .val (.int p3), .val (.int p4), .val (.int (Int32.ofNat ka)), .val (.int (Int32.ofNat kb)), .val (.int (Int32.ofNat kc)), .val (.int (0 : Int32)), .val (.ref a), .val (.int (1 : Int32))] [(.long (own_e (1 : Int32) (0 : Int32) (Int32.ofNat ka) (Int32.ofNat kb) (Int32.ofNat kc))), (.long ((fun _ => 0) 1))])
                refine B.lcmp 153 rfl at_152 ?_
                refine B.lif_ne 160 156 rfl (by decide) rfl at_153 (fun c153 => ?_) (fun c153 => ?_)
                · exact absurd (by simp [own_e, own_inc, ]) c153
                · refine B.iconst 157 rfl (1 : Int32) at_156 rfl ?_
                  refine B.goto 161 rfl (by decide) at_157 ?_
                  refine B.istore 163 rfl at_161 #[.val (.int p1), .val (.int p2), .val (.int p3), .val (.int p4), .val (.int (Int32.ofNat ka)), .val (.int (Int32.ofNat kb)), .val (.int (Int32.ofNat kc)), .val (.int (0 : Int32)), .val (.ref a), .val (.int (1 : Int32))] rfl ?_
                  refine B.iload 165 rfl at_163 rfl ?_
                  refine B.if0_eq 197 168 rfl (by decide) rfl at_165 (fun c165 => ?_) (fun c165 => ?_)
                  · exact absurd c165 (by decide)
                  · refine B.aload 170 rfl at_168 rfl rfl ?_
                    refine B.iconst 171 rfl (2 : Int32) at_170 rfl ?_
                    refine B.olds fun Y5 => ?_
                    refine B.callS 174 rfl at_171 (wd hw 34 rfl) (wd hw 35 rfl) (wd hw 36 rfl) (wd hw 37 rfl) (by decide) [(.int (2 : Int32))] [(.ref a)] (rm_reason l Z a0 hw 2 a_REPLAYED a_TOO_OLD a_BAD_TAG a_MALFORMED a_WRONG_EPOCH h2 (by decide) (S_REPLAYED.ext Y5) (E_REPLAYED.ext Y5) (F_REPLAYED.ext Y5) (S_TOO_OLD.ext Y5) (E_TOO_OLD.ext Y5) (F_TOO_OLD.ext Y5) (S_BAD_TAG.ext Y5) (E_BAD_TAG.ext Y5) (F_BAD_TAG.ext Y5) (S_MALFORMED.ext Y5) (E_MALFORMED.ext Y5) (F_MALFORMED.ext Y5) (S_WRONG_EPOCH.ext Y5) (E_WRONG_EPOCH.ext Y5) (F_WRONG_EPOCH.ext Y5)) rfl rfl pd__I_Lsealgram_record_DropReason_ rfl rfl 1 rfl (by decide) (by decide) (by decide) (by decide) (fun _ q => nomatch q) ?_
                    rintro _ _ - ⟨r6, rfl, rfl, Er6, Fr6⟩
                    show B.G h2 3 11 (mkF m 174 #[.val (.int p1), .val (.int p2), .val (.int p3), .val (.int p4), .val (.int (Int32.ofNat ka)), .val (.int (Int32.ofNat kb)), .val (.int (Int32.ofNat kc)), .val (.int (0 : Int32)), .val (.ref a), .val (.int (1 : Int32))] [(.ref r6), (.ref a)])
                    refine B.callV 177 rfl at_174 (wd hw 53 rfl) (wd hw 54 rfl) (wd hw 56 rfl) (wd hw 55 rfl) (wd hw 3 rfl) (wd hw 57 rfl) (by decide) Ea [(.ref r6)] [] (rm_count l Z a0 hw a mc r6 2 (fun _ => 0) h2 (by decide) Ea Fm Am Er6 Fr6) rfl rfl pd__Lsealgram_record_DropReason__J rfl rfl 0 rfl (by decide) (by decide) (by decide) (by decide) (fun _ q => nomatch q) ?_
                    rintro _ _ - ⟨rfl, rfl⟩
                    show B.G h2 3 11 (mkF m 177 #[.val (.int p1), .val (.int p2), .val (.int p3), .val (.int p4), .val (.int (Int32.ofNat ka)), .val (.int (Int32.ofNat kb)), .val (.int (Int32.ofNat kc)), .val (.int (0 : Int32)), .val (.ref a), .val (.int (1 : Int32))] [(.long ((fun _ => 0) 2))])
                    refine B.iconst 178 rfl (2 : Int32) at_177 rfl ?_
                    refine B.iload 180 rfl at_178 rfl ?_
                    refine B.iload 182 rfl at_180 rfl ?_
                    refine B.iload 184 rfl at_182 rfl ?_
                    refine B.iload 186 rfl at_184 rfl ?_
                    refine B.callS 189 rfl at_186 (wd hw 58 rfl) (wd hw 59 rfl) (wd hw 36 rfl) (wd hw 60 rfl) (by decide) [(.int (2 : Int32)), (.int (0 : Int32)), (.int (Int32.ofNat ka)), (.int (Int32.ofNat kb)), (.int (Int32.ofNat kc))] [(.long ((fun _ => 0) 2))] (rm_exp l Z a0 hw (2 : Int32) (0 : Int32) (Int32.ofNat ka) (Int32.ofNat kb) (Int32.ofNat kc) h2) rfl rfl pd__IIIII_J rfl rfl 2 rfl (by decide) (by decide) (by decide) (by decide) (fun _ q => nomatch q) ?_
                    rintro _ _ - ⟨rfl, rfl⟩
                    show B.G h2 3 11 (mkF m 189 #[.val (.int p1), .val (.int p2), .val (.int p3), .val (.int p4), .val (.int (Int32.ofNat ka)), .val (.int (Int32.ofNat kb)), .val (.int (Int32.ofNat kc)), .val (.int (0 : Int32)), .val (.ref a), .val (.int (1 : Int32))] [(.long (own_e (2 : Int32) (0 : Int32) (Int32.ofNat ka) (Int32.ofNat kb) (Int32.ofNat kc))), (.long ((fun _ => 0) 2))])
                    refine B.lcmp 190 rfl at_189 ?_
                    refine B.lif_ne 197 193 rfl (by decide) rfl at_190 (fun c190 => ?_) (fun c190 => ?_)
                    · exact absurd (by simp [own_e, own_inc, ]) c190
                    · refine B.iconst 194 rfl (1 : Int32) at_193 rfl ?_
                      refine B.goto 198 rfl (by decide) at_194 ?_
                      refine B.istore 200 rfl at_198 #[.val (.int p1), .val (.int p2), .val (.int p3), .val (.int p4), .val (.int (Int32.ofNat ka)), .val (.int (Int32.ofNat kb)), .val (.int (Int32.ofNat kc)), .val (.int (0 : Int32)), .val (.ref a), .val (.int (1 : Int32))] rfl ?_
                      refine B.iload 202 rfl at_200 rfl ?_
                      refine B.if0_eq 234 205 rfl (by decide) rfl at_202 (fun c202 => ?_) (fun c202 => ?_)
                      · exact absurd c202 (by decide)
                      · refine B.aload 207 rfl at_205 rfl rfl ?_
                        refine B.iconst 208 rfl (3 : Int32) at_207 rfl ?_
                        refine B.olds fun Y7 => ?_
                        refine B.callS 211 rfl at_208 (wd hw 34 rfl) (wd hw 35 rfl) (wd hw 36 rfl) (wd hw 37 rfl) (by decide) [(.int (3 : Int32))] [(.ref a)] (rm_reason l Z a0 hw 3 a_REPLAYED a_TOO_OLD a_BAD_TAG a_MALFORMED a_WRONG_EPOCH h2 (by decide) (S_REPLAYED.ext Y7) (E_REPLAYED.ext Y7) (F_REPLAYED.ext Y7) (S_TOO_OLD.ext Y7) (E_TOO_OLD.ext Y7) (F_TOO_OLD.ext Y7) (S_BAD_TAG.ext Y7) (E_BAD_TAG.ext Y7) (F_BAD_TAG.ext Y7) (S_MALFORMED.ext Y7) (E_MALFORMED.ext Y7) (F_MALFORMED.ext Y7) (S_WRONG_EPOCH.ext Y7) (E_WRONG_EPOCH.ext Y7) (F_WRONG_EPOCH.ext Y7)) rfl rfl pd__I_Lsealgram_record_DropReason_ rfl rfl 1 rfl (by decide) (by decide) (by decide) (by decide) (fun _ q => nomatch q) ?_
                        rintro _ _ - ⟨r8, rfl, rfl, Er8, Fr8⟩
                        show B.G h2 3 11 (mkF m 211 #[.val (.int p1), .val (.int p2), .val (.int p3), .val (.int p4), .val (.int (Int32.ofNat ka)), .val (.int (Int32.ofNat kb)), .val (.int (Int32.ofNat kc)), .val (.int (0 : Int32)), .val (.ref a), .val (.int (1 : Int32))] [(.ref r8), (.ref a)])
                        refine B.callV 214 rfl at_211 (wd hw 53 rfl) (wd hw 54 rfl) (wd hw 56 rfl) (wd hw 55 rfl) (wd hw 3 rfl) (wd hw 57 rfl) (by decide) Ea [(.ref r8)] [] (rm_count l Z a0 hw a mc r8 3 (fun _ => 0) h2 (by decide) Ea Fm Am Er8 Fr8) rfl rfl pd__Lsealgram_record_DropReason__J rfl rfl 0 rfl (by decide) (by decide) (by decide) (by decide) (fun _ q => nomatch q) ?_
                        rintro _ _ - ⟨rfl, rfl⟩
                        show B.G h2 3 11 (mkF m 214 #[.val (.int p1), .val (.int p2), .val (.int p3), .val (.int p4), .val (.int (Int32.ofNat ka)), .val (.int (Int32.ofNat kb)), .val (.int (Int32.ofNat kc)), .val (.int (0 : Int32)), .val (.ref a), .val (.int (1 : Int32))] [(.long ((fun _ => 0) 3))])
                        refine B.iconst 215 rfl (3 : Int32) at_214 rfl ?_
                        refine B.iload 217 rfl at_215 rfl ?_
                        refine B.iload 219 rfl at_217 rfl ?_
                        refine B.iload 221 rfl at_219 rfl ?_
                        refine B.iload 223 rfl at_221 rfl ?_
                        refine B.callS 226 rfl at_223 (wd hw 58 rfl) (wd hw 59 rfl) (wd hw 36 rfl) (wd hw 60 rfl) (by decide) [(.int (3 : Int32)), (.int (0 : Int32)), (.int (Int32.ofNat ka)), (.int (Int32.ofNat kb)), (.int (Int32.ofNat kc))] [(.long ((fun _ => 0) 3))] (rm_exp l Z a0 hw (3 : Int32) (0 : Int32) (Int32.ofNat ka) (Int32.ofNat kb) (Int32.ofNat kc) h2) rfl rfl pd__IIIII_J rfl rfl 2 rfl (by decide) (by decide) (by decide) (by decide) (fun _ q => nomatch q) ?_
                        rintro _ _ - ⟨rfl, rfl⟩
                        show B.G h2 3 11 (mkF m 226 #[.val (.int p1), .val (.int p2), .val (.int p3), .val (.int p4), .val (.int (Int32.ofNat ka)), .val (.int (Int32.ofNat kb)), .val (.int (Int32.ofNat kc)), .val (.int (0 : Int32)), .val (.ref a), .val (.int (1 : Int32))] [(.long (own_e (3 : Int32) (0 : Int32) (Int32.ofNat ka) (Int32.ofNat kb) (Int32.ofNat kc))), (.long ((fun _ => 0) 3))])
                        refine B.lcmp 227 rfl at_226 ?_
                        refine B.lif_ne 234 230 rfl (by decide) rfl at_227 (fun c227 => ?_) (fun c227 => ?_)
                        · exact absurd (by simp [own_e, own_inc, ]) c227
                        · refine B.iconst 231 rfl (1 : Int32) at_230 rfl ?_
                          refine B.goto 235 rfl (by decide) at_231 ?_
                          refine B.istore 237 rfl at_235 #[.val (.int p1), .val (.int p2), .val (.int p3), .val (.int p4), .val (.int (Int32.ofNat ka)), .val (.int (Int32.ofNat kb)), .val (.int (Int32.ofNat kc)), .val (.int (0 : Int32)), .val (.ref a), .val (.int (1 : Int32))] rfl ?_
                          refine B.iload 239 rfl at_237 rfl ?_
                          refine B.if0_eq 271 242 rfl (by decide) rfl at_239 (fun c239 => ?_) (fun c239 => ?_)
                          · exact absurd c239 (by decide)
                          · refine B.aload 244 rfl at_242 rfl rfl ?_
                            refine B.iconst 245 rfl (4 : Int32) at_244 rfl ?_
                            refine B.olds fun Y9 => ?_
                            refine B.callS 248 rfl at_245 (wd hw 34 rfl) (wd hw 35 rfl) (wd hw 36 rfl) (wd hw 37 rfl) (by decide) [(.int (4 : Int32))] [(.ref a)] (rm_reason l Z a0 hw 4 a_REPLAYED a_TOO_OLD a_BAD_TAG a_MALFORMED a_WRONG_EPOCH h2 (by decide) (S_REPLAYED.ext Y9) (E_REPLAYED.ext Y9) (F_REPLAYED.ext Y9) (S_TOO_OLD.ext Y9) (E_TOO_OLD.ext Y9) (F_TOO_OLD.ext Y9) (S_BAD_TAG.ext Y9) (E_BAD_TAG.ext Y9) (F_BAD_TAG.ext Y9) (S_MALFORMED.ext Y9) (E_MALFORMED.ext Y9) (F_MALFORMED.ext Y9) (S_WRONG_EPOCH.ext Y9) (E_WRONG_EPOCH.ext Y9) (F_WRONG_EPOCH.ext Y9)) rfl rfl pd__I_Lsealgram_record_DropReason_ rfl rfl 1 rfl (by decide) (by decide) (by decide) (by decide) (fun _ q => nomatch q) ?_
                            rintro _ _ - ⟨r10, rfl, rfl, Er10, Fr10⟩
                            show B.G h2 3 11 (mkF m 248 #[.val (.int p1), .val (.int p2), .val (.int p3), .val (.int p4), .val (.int (Int32.ofNat ka)), .val (.int (Int32.ofNat kb)), .val (.int (Int32.ofNat kc)), .val (.int (0 : Int32)), .val (.ref a), .val (.int (1 : Int32))] [(.ref r10), (.ref a)])
                            refine B.callV 251 rfl at_248 (wd hw 53 rfl) (wd hw 54 rfl) (wd hw 56 rfl) (wd hw 55 rfl) (wd hw 3 rfl) (wd hw 57 rfl) (by decide) Ea [(.ref r10)] [] (rm_count l Z a0 hw a mc r10 4 (fun _ => 0) h2 (by decide) Ea Fm Am Er10 Fr10) rfl rfl pd__Lsealgram_record_DropReason__J rfl rfl 0 rfl (by decide) (by decide) (by decide) (by decide) (fun _ q => nomatch q) ?_
                            rintro _ _ - ⟨rfl, rfl⟩
                            show B.G h2 3 11 (mkF m 251 #[.val (.int p1), .val (.int p2), .val (.int p3), .val (.int p4), .val (.int (Int32.ofNat ka)), .val (.int (Int32.ofNat kb)), .val (.int (Int32.ofNat kc)), .val (.int (0 : Int32)), .val (.ref a), .val (.int (1 : Int32))] [(.long ((fun _ => 0) 4))])
                            refine B.iconst 252 rfl (4 : Int32) at_251 rfl ?_
                            refine B.iload 254 rfl at_252 rfl ?_
                            refine B.iload 256 rfl at_254 rfl ?_
                            refine B.iload 258 rfl at_256 rfl ?_
                            refine B.iload 260 rfl at_258 rfl ?_
                            refine B.callS 263 rfl at_260 (wd hw 58 rfl) (wd hw 59 rfl) (wd hw 36 rfl) (wd hw 60 rfl) (by decide) [(.int (4 : Int32)), (.int (0 : Int32)), (.int (Int32.ofNat ka)), (.int (Int32.ofNat kb)), (.int (Int32.ofNat kc))] [(.long ((fun _ => 0) 4))] (rm_exp l Z a0 hw (4 : Int32) (0 : Int32) (Int32.ofNat ka) (Int32.ofNat kb) (Int32.ofNat kc) h2) rfl rfl pd__IIIII_J rfl rfl 2 rfl (by decide) (by decide) (by decide) (by decide) (fun _ q => nomatch q) ?_
                            rintro _ _ - ⟨rfl, rfl⟩
                            show B.G h2 3 11 (mkF m 263 #[.val (.int p1), .val (.int p2), .val (.int p3), .val (.int p4), .val (.int (Int32.ofNat ka)), .val (.int (Int32.ofNat kb)), .val (.int (Int32.ofNat kc)), .val (.int (0 : Int32)), .val (.ref a), .val (.int (1 : Int32))] [(.long (own_e (4 : Int32) (0 : Int32) (Int32.ofNat ka) (Int32.ofNat kb) (Int32.ofNat kc))), (.long ((fun _ => 0) 4))])
                            refine B.lcmp 264 rfl at_263 ?_
                            refine B.lif_ne 271 267 rfl (by decide) rfl at_264 (fun c264 => ?_) (fun c264 => ?_)
                            · exact absurd (by simp [own_e, own_inc, ]) c264
                            · refine B.iconst 268 rfl (1 : Int32) at_267 rfl ?_
                              refine B.goto 272 rfl (by decide) at_268 ?_
                              refine B.istore 274 rfl at_272 #[.val (.int p1), .val (.int p2), .val (.int p3), .val (.int p4), .val (.int (Int32.ofNat ka)), .val (.int (Int32.ofNat kb)), .val (.int (Int32.ofNat kc)), .val (.int (0 : Int32)), .val (.ref a), .val (.int (1 : Int32))] rfl ?_
                              refine B.iload 276 rfl at_274 rfl ?_
                              refine B.retN (by simp) at_276 (by decide) (by decide) ?_
                              exact rfl
        · exact absurd c73 (by decide)
      · exact absurd c57 (by decide)
    · exact absurd c41 (by decide)
  · refine B.istore 29 rfl at_27 #[.val (.int p1), .val (.int p2), .val (.int p3), .val (.int p4), .val (.int (Int32.ofNat ka)), .val (.int (Int32.ofNat kb)), .val (.int (Int32.ofNat kc)), .val (.int (1 : Int32)), .unset, .unset] rfl ?_
    refine B.newO 32 rfl at_29 (wd hw 1 rfl) (wd hw 2 rfl) (wd hw 3 rfl) (by decide) (by decide) ?_
    intro h1 a ea ga X1 A1 D1
    show B.G h1 1 1 (mkF m 32 #[.val (.int p1), .val (.int p2), .val (.int p3), .val (.int p4), .val (.int (Int32.ofNat ka)), .val (.int (Int32.ofNat kb)), .val (.int (Int32.ofNat kc)), .val (.int (1 : Int32)), .unset, .unset] [(.ref a)])
    refine B.dup 33 rfl at_32 rfl ?_
    have F1 : Fld Z h1 a "sealgram/record/DropCounts" "mCounts" "[J" .null := D1 (Or.inr (wd hw 33 rfl)) (ty := .array .long) (by decide)
    refine B.callI 36 rfl at_33 rfl (wd hw 4 rfl) (wd hw 5 rfl) (wd hw 3 rfl) (wd hw 6 rfl) (by decide) [] [(.ref a)] (rm_init l Z a0 hw a v a_REPLAYED a_TOO_OLD a_BAD_TAG a_MALFORMED a_WRONG_EPOCH h1 (S.ext X1) (A.ext X1) (E.ext X1) A1 F1) rfl rfl pd___V rfl rfl 1 rfl (by decide) (by decide) (by decide) (by decide) (fun x z => Or.inr (by cases List.mem_singleton.mp z; exact ga)) ?_
    rintro _ h2 K2 ⟨rfl, Ea, mc, gm, Fm, Am⟩
    show B.G h2 3 11 (mkF m 36 #[.val (.int p1), .val (.int p2), .val (.int p3), .val (.int p4), .val (.int (Int32.ofNat ka)), .val (.int (Int32.ofNat kb)), .val (.int (Int32.ofNat kc)), .val (.int (1 : Int32)), .unset, .unset] [(.ref a)])
    have gm0 : h0.size ≤ mc := Nat.le_trans X1.1 gm
    have ne : a ≠ mc := fun q => absurd A1.lt (by rw [q]; exact Nat.not_lt.mpr gm)
    refine B.astore 38 rfl at_36 rfl #[.val (.int p1), .val (.int p2), .val (.int p3), .val (.int p4), .val (.int (Int32.ofNat ka)), .val (.int (Int32.ofNat kb)), .val (.int (Int32.ofNat kc)), .val (.int (1 : Int32)), .val (.ref a), .unset] rfl ?_
    refine B.iload 40 rfl at_38 rfl ?_
    refine B.iconst 41 rfl (1 : Int32) at_40 rfl ?_
    refine B.icmp_lt 54 44 rfl (by decide) rfl at_41 (fun c41 => ?_) (fun c41 => ?_)
    · exact absurd c41 (by decide)
    · refine B.aload 46 rfl at_44 rfl rfl ?_
      refine B.iload 48 rfl at_46 rfl ?_
      refine B.olds fun Y11 => ?_
      refine B.callS 51 rfl at_48 (wd hw 34 rfl) (wd hw 35 rfl) (wd hw 36 rfl) (wd hw 37 rfl) (by decide) [(.int (Int32.ofNat ka))] [(.ref a)] (rm_reason l Z a0 hw ka a_REPLAYED a_TOO_OLD a_BAD_TAG a_MALFORMED a_WRONG_EPOCH h2 hka (S_REPLAYED.ext Y11) (E_REPLAYED.ext Y11) (F_REPLAYED.ext Y11) (S_TOO_OLD.ext Y11) (E_TOO_OLD.ext Y11) (F_TOO_OLD.ext Y11) (S_BAD_TAG.ext Y11) (E_BAD_TAG.ext Y11) (F_BAD_TAG.ext Y11) (S_MALFORMED.ext Y11) (E_MALFORMED.ext Y11) (F_MALFORMED.ext Y11) (S_WRONG_EPOCH.ext Y11) (E_WRONG_EPOCH.ext Y11) (F_WRONG_EPOCH.ext Y11)) rfl rfl pd__I_Lsealgram_record_DropReason_ rfl rfl 1 rfl (by decide) (by decide) (by decide) (by decide) (fun _ q => nomatch q) ?_
      rintro _ _ - ⟨r12, rfl, rfl, Er12, Fr12⟩
      show B.G h2 3 11 (mkF m 51 #[.val (.int p1), .val (.int p2), .val (.int p3), .val (.int p4), .val (.int (Int32.ofNat ka)), .val (.int (Int32.ofNat kb)), .val (.int (Int32.ofNat kc)), .val (.int (1 : Int32)), .val (.ref a), .unset] [(.ref r12), (.ref a)])
      refine B.callV 54 rfl at_51 (wd hw 39 rfl) (wd hw 40 rfl) (wd hw 42 rfl) (wd hw 41 rfl) (wd hw 3 rfl) (wd hw 43 rfl) (by decide) Ea [(.ref r12)] [] (rm_add l Z a0 hw a mc r12 ka (fun _ => 0) h2 hka Ea Fm Am Er12 Fr12) rfl rfl pd__Lsealgram_record_DropReason__V rfl rfl 0 rfl (by decide) (by decide) (by decide) (by decide) (fun x z => Or.inr (by cases List.mem_singleton.mp z; exact gm0)) ?_
      rintro _ hh13 K13 ⟨rfl, Am13⟩
      show B.G hh13 3 11 (mkF m 54 #[.val (.int p1), .val (.int p2), .val (.int p3), .val (.int p4), .val (.int (Int32.ofNat ka)), .val (.int (Int32.ofNat kb)), .val (.int (Int32.ofNat kc)), .val (.int (1 : Int32)), .val (.ref a), .unset] [])
      have Ea13 := Ea.keep K13
      have Fm13 := Fm.keep K13 (ninS ne nin0)
      refine B.iload 56 rfl at_54 rfl ?_
      refine B.iconst 57 rfl (2 : Int32) at_56 rfl ?_
      refine B.icmp_lt 70 60 rfl (by decide) rfl at_57 (fun c57 => ?_) (fun c57 => ?_)
      · refine B.iload 72 rfl at_70 rfl ?_
        refine B.iconst 73 rfl (3 : Int32) at_72 rfl ?_
        refine B.icmp_lt 86 76 rfl (by decide) rfl at_73 (fun c73 => ?_) (fun c73 => ?_)
        · refine B.iconst 87 rfl (1 : Int32) at_86 rfl ?_
          refine B.istore 89 rfl at_87 #[.val (.int p1), .val (.int p2), .val (.int p3), .val (.int p4), .val (.int (Int32.ofNat ka)), .val (.int (Int32.ofNat kb)), .val (.int (Int32.ofNat kc)), .val (.int (1 : Int32)), .val (.ref a), .val (.int (1 : Int32))] rfl ?_
          refine B.iload 91 rfl at_89 rfl ?_
          refine B.if0_eq 123 94 rfl (by decide) rfl at_91 (fun c91 => ?_) (fun c91 => ?_)
          · exact absurd c91 (by decide)
          · refine B.aload 96 rfl at_94 rfl rfl ?_
            refine B.iconst 97 rfl (0 : Int32) at_96 rfl ?_
            refine B.olds fun Y14 => ?_
            refine B.callS 100 rfl at_97 (wd hw 34 rfl) (wd hw 35 rfl) (wd hw 36 rfl) (wd hw 37 rfl) (by decide) [(.int (0 : Int32))] [(.ref a)] (rm_reason l Z a0 hw 0 a_REPLAYED a_TOO_OLD a_BAD_TAG a_MALFORMED a_WRONG_EPOCH hh13 (by decide) (S_REPLAYED.ext Y14) (E_REPLAYED.ext Y14) (F_REPLAYED.ext Y14) (S_TOO_OLD.ext Y14) (E_TOO_OLD.ext Y14) (F_TOO_OLD.ext Y14) (S_BAD_TAG.ext Y14) (E_BAD_TAG.ext Y14) (F_BAD_TAG.ext Y14) (S_MALFORMED.ext Y14) (E_MALFORMED.ext Y14) (F_MALFORMED.ext Y14) (S_WRONG_EPOCH.ext Y14) (E_WRONG_EPOCH.ext Y14) (F_WRONG_EPOCH.ext Y14)) rfl rfl pd__I_Lsealgram_record_DropReason_ rfl rfl 1 rfl (by decide) (by decide) (by decide) (by decide) (fun _ q => nomatch q) ?_
            rintro _ _ - ⟨r15, rfl, rfl, Er15, Fr15⟩
            show B.G hh13 3 11 (mkF m 100 #[.val (.int p1), .val (.int p2), .val (.int p3), .val (.int p4), .val (.int (Int32.ofNat ka)), .val (.int (Int32.ofNat kb)), .val (.int (Int32.ofNat kc)), .val (.int (1 : Int32)), .val (.ref a), .val (.int (1 : Int32))] [(.ref r15), (.ref a)])
            refine B.callV 103 rfl at_100 (wd hw 53 rfl) (wd hw 54 rfl) (wd hw 56 rfl) (wd hw 55 rfl) (wd hw 3 rfl) (wd hw 57 rfl) (by decide) Ea13 [(.ref r15)] [] (rm_count l Z a0 hw a mc r15 0 (own_inc (fun _ => 0) ka) hh13 (by decide) Ea13 Fm13 Am13 Er15 Fr15) rfl rfl pd__Lsealgram_record_DropReason__J rfl rfl 0 rfl (by decide) (by decide) (by decide) (by decide) (fun _ q => nomatch q) ?_
            rintro _ _ - ⟨rfl, rfl⟩
            show B.G hh13 3 11 (mkF m 103 #[.val (.int p1), .val (.int p2), .val (.int p3), .val (.int p4), .val (.int (Int32.ofNat ka)), .val (.int (Int32.ofNat kb)), .val (.int (Int32.ofNat kc)), .val (.int (1 : Int32)), .val (.ref a), .val (.int (1 : Int32))] [(.long ((own_inc (fun _ => 0) ka) 0))])
            refine B.iconst 104 rfl (0 : Int32) at_103 rfl ?_
            refine B.iload 106 rfl at_104 rfl ?_
            refine B.iload 108 rfl at_106 rfl ?_
            refine B.iload 110 rfl at_108 rfl ?_
            refine B.iload 112 rfl at_110 rfl ?_
            refine B.callS 115 rfl at_112 (wd hw 58 rfl) (wd hw 59 rfl) (wd hw 36 rfl) (wd hw 60 rfl) (by decide) [(.int (0 : Int32)), (.int (1 : Int32)), (.int (Int32.ofNat ka)), (.int (Int32.ofNat kb)), (.int (Int32.ofNat kc))] [(.long ((own_inc (fun _ => 0) ka) 0))] (rm_exp l Z a0 hw (0 : Int32) (1 : Int32) (Int32.ofNat ka) (Int32.ofNat kb) (Int32.ofNat kc) hh13) rfl rfl pd__IIIII_J rfl rfl 2 rfl (by decide) (by decide) (by decide) (by decide) (fun _ q => nomatch q) ?_
            rintro _ _ - ⟨rfl, rfl⟩
            show B.G hh13 3 11 (mkF m 115 #[.val (.int p1), .val (.int p2), .val (.int p3), .val (.int p4), .val (.int (Int32.ofNat ka)), .val (.int (Int32.ofNat kb)), .val (.int (Int32.ofNat kc)), .val (.int (1 : Int32)), .val (.ref a), .val (.int (1 : Int32))] [(.long (own_e (0 : Int32) (1 : Int32) (Int32.ofNat ka) (Int32.ofNat kb) (Int32.ofNat kc))), (.long ((own_inc (fun _ => 0) ka) 0))])
            refine B.lcmp 116 rfl at_115 ?_
            refine B.lif_ne 123 119 rfl (by decide) rfl at_116 (fun c116 => ?_) (fun c116 => ?_)
            · exact absurd (by simp [own_e, own_inc, (show Int32.ofNat ka = (0 : Int32) ↔ ka = 0 from own_lit ka 0 hka (by decide)), (@eq_comm Nat 0 ka)]) c116
            · refine B.iconst 120 rfl (1 : Int32) at_119 rfl ?_
              refine B.goto 124 rfl (by decide) at_120 ?_
              refine B.istore 126 rfl at_124 #[.val (.int p1), .val (.int p2), .val (.int p3), .val (.int p4), .val (.int (Int32.ofNat ka)), .val (.int (Int32.ofNat kb)), .val (.int (Int32.ofNat kc)), .val (.int (1 : Int32)), .val (.ref a), .val (.int (1 : Int32))] rfl ?_
              refine B.iload 128 rfl at_126 rfl ?_
              refine B.if0_eq 160 131 rfl (by decide) rfl at_128 (fun c128 => ?_) (fun c128 => ?_)
              · exact absurd c128 (by decide)
              · refine B.aload 133 rfl at_131 rfl rfl ?_
                refine B.iconst 134 rfl (1 : Int32) at_133 rfl ?_
                refine B.olds fun Y16 => ?_
                refine B.callS 137 rfl at_134 (wd hw 34 rfl) (wd hw 35 rfl) (wd hw 36 rfl) (wd hw 37 rfl) (by decide) [(.int (1 : Int32))] [(.ref a)] (rm_reason l Z a0 hw 1 a_REPLAYED a_TOO_OLD a_BAD_TAG a_MALFORMED a_WRONG_EPOCH hh13 (by decide) (S_REPLAYED.ext Y16) (E_REPLAYED.ext Y16) (F_REPLAYED.ext Y16) (S_TOO_OLD.ext Y16) (E_TOO_OLD.ext Y16) (F_TOO_OLD.ext Y16) (S_BAD_TAG.ext Y16) (E_BAD_TAG.ext Y16) (F_BAD_TAG.ext Y16) (S_MALFORMED.ext Y16) (E_MALFORMED.ext Y16) (F_MALFORMED.ext Y16) (S_WRONG_EPOCH.ext Y16) (E_WRONG_EPOCH.ext Y16) (F_WRONG_EPOCH.ext Y16)) rfl rfl pd__I_Lsealgram_record_DropReason_ rfl rfl 1 rfl (by decide) (by decide) (by decide) (by decide) (fun _ q => nomatch q) ?_
                rintro _ _ - ⟨r17, rfl, rfl, Er17, Fr17⟩
                show B.G hh13 3 11 (mkF m 137 #[.val (.int p1), .val (.int p2), .val (.int p3), .val (.int p4), .val (.int (Int32.ofNat ka)), .val (.int (Int32.ofNat kb)), .val (.int (Int32.ofNat kc)), .val (.int (1 : Int32)), .val (.ref a), .val (.int (1 : Int32))] [(.ref r17), (.ref a)])
                refine B.callV 140 rfl at_137 (wd hw 53 rfl) (wd hw 54 rfl) (wd hw 56 rfl) (wd hw 55 rfl) (wd hw 3 rfl) (wd hw 57 rfl) (by decide) Ea13 [(.ref r17)] [] (rm_count l Z a0 hw a mc r17 1 (own_inc (fun _ => 0) ka) hh13 (by decide) Ea13 Fm13 Am13 Er17 Fr17) rfl rfl pd__Lsealgram_record_DropReason__J rfl rfl 0 rfl (by decide) (by decide) (by decide) (by decide) (fun _ q => nomatch q) ?_
                rintro _ _ - ⟨rfl, rfl⟩
                show B.G hh13 3 11 (mkF m 140 #[.val (.int p1), .val (.int p2), .val (.int p3), .val (.int p4), .val (.int (Int32.ofNat ka)), .val (.int (Int32.ofNat kb)), .val (.int (Int32.ofNat kc)), .val (.int (1 : Int32)), .val (.ref a), .val (.int (1 : Int32))] [(.long ((own_inc (fun _ => 0) ka) 1))])
                refine B.iconst 141 rfl (1 : Int32) at_140 rfl ?_
                refine B.iload 143 rfl at_141 rfl ?_
                refine B.iload 145 rfl at_143 rfl ?_
                refine B.iload 147 rfl at_145 rfl ?_
                refine B.iload 149 rfl at_147 rfl ?_
                refine B.callS 152 rfl at_149 (wd hw 58 rfl) (wd hw 59 rfl) (wd hw 36 rfl) (wd hw 60 rfl) (by decide) [(.int (1 : Int32)), (.int (1 : Int32)), (.int (Int32.ofNat ka)), (.int (Int32.ofNat kb)), (.int (Int32.ofNat kc))] [(.long ((own_inc (fun _ => 0) ka) 1))] (rm_exp l Z a0 hw (1 : Int32) (1 : Int32) (Int32.ofNat ka) (Int32.ofNat kb) (Int32.ofNat kc) hh13) rfl rfl pd__IIIII_J rfl rfl 2 rfl (by decide) (by decide) (by decide) (by decide) (fun _ q => nomatch q) ?_
                rintro _ _ - ⟨rfl, rfl⟩
                show B.G hh13 3 11 (mkF m 152 #[.val (.int p1), .val (.int p2), .val (.int p3), .val (.int p4), .val (.int (Int32.ofNat ka)), .val (.int (Int32.ofNat kb)), .val (.int (Int32.ofNat kc)), .val (.int (1 : Int32)), .val (.ref a), .val (.int (1 : Int32))] [(.long (own_e (1 : Int32) (1 : Int32) (Int32.ofNat ka) (Int32.ofNat kb) (Int32.ofNat kc))), (.long ((own_inc (fun _ => 0) ka) 1))])
                refine B.lcmp 153 rfl at_152 ?_
                refine B.lif_ne 160 156 rfl (by decide) rfl at_153 (fun c153 => ?_) (fun c153 => ?_)
                · exact absurd (by simp [own_e, own_inc, (show Int32.ofNat ka = (1 : Int32) ↔ ka = 1 from own_lit ka 1 hka (by decide)), (@eq_comm Nat 1 ka)]) c153
                · refine B.iconst 157 rfl (1 : Int32) at_156 rfl ?_
                  refine B.goto 161 rfl (by decide) at_157 ?_
                  refine B.istore 163 rfl at_161 #[.val (.int p1), .val (.int p2), .val (.int p3), .val (.int p4), .val (.int (Int32.ofNat ka)), .val (.int (Int32.ofNat kb)), .val (.int (Int32.ofNat kc)), .val (.int (1 : Int32)), .val (.ref a), .val (.int (1 : Int32))] rfl ?_
                  refine B.iload 165 rfl at_163 rfl ?_
                  refine B.if0_eq 197 168 rfl (by decide) rfl at_165 (fun c165 => ?_) (fun c165 => ?_)
                  · exact absurd c165 (by decide)
                  · refine B.aload 170 rfl at_168 rfl rfl ?_
                    refine B.iconst 171 rfl (2 : Int32) at_170 rfl ?_
                    refine B.olds fun Y18 => ?_
                    refine B.callS 174 rfl at_171 (wd hw 34 rfl) (wd hw 35 rfl) (wd hw 36 rfl) (wd hw 37 rfl) (by decide) [(.int (2 : Int32))] [(.ref a)] (rm_reason l Z a0 hw 2 a_REPLAYED a_TOO_OLD a_BAD_TAG a_MALFORMED a_WRONG_EPOCH hh13 (by decide) (S_REPLAYED.ext Y18) (E_REPLAYED.ext Y18) (F_REPLAYED.ext Y18) (S_TOO_OLD.ext Y18) (E_TOO_OLD.ext Y18) (F_TOO_OLD.ext Y18) (S_BAD_TAG.ext Y18) (E_BAD_TAG.ext Y18) (F_BAD_TAG.ext Y18) (S_MALFORMED.ext Y18) (E_MALFORMED.ext Y18) (F_MALFORMED.ext Y18) (S_WRONG_EPOCH.ext Y18) (E_WRONG_EPOCH.ext Y18) (F_WRONG_EPOCH.ext Y18)) rfl rfl pd__I_Lsealgram_record_DropReason_ rfl rfl 1 rfl (by decide) (by decide) (by decide) (by decide) (fun _ q => nomatch q) ?_
                    rintro _ _ - ⟨r19, rfl, rfl, Er19, Fr19⟩
                    show B.G hh13 3 11 (mkF m 174 #[.val (.int p1), .val (.int p2), .val (.int p3), .val (.int p4), .val (.int (Int32.ofNat ka)), .val (.int (Int32.ofNat kb)), .val (.int (Int32.ofNat kc)), .val (.int (1 : Int32)), .val (.ref a), .val (.int (1 : Int32))] [(.ref r19), (.ref a)])
                    refine B.callV 177 rfl at_174 (wd hw 53 rfl) (wd hw 54 rfl) (wd hw 56 rfl) (wd hw 55 rfl) (wd hw 3 rfl) (wd hw 57 rfl) (by decide) Ea13 [(.ref r19)] [] (rm_count l Z a0 hw a mc r19 2 (own_inc (fun _ => 0) ka) hh13 (by decide) Ea13 Fm13 Am13 Er19 Fr19) rfl rfl pd__Lsealgram_record_DropReason__J rfl rfl 0 rfl (by decide) (by decide) (by decide) (by decide) (fun _ q => nomatch q) ?_
                    rintro _ _ - ⟨rfl, rfl⟩
                    show B.G hh13 3 11 (mkF m 177 #[.val (.int p1), .val (.int p2), .val (.int p3), .val (.int p4), .val (.int (Int32.ofNat ka)), .val (.int (Int32.ofNat kb)), .val (.int (Int32.ofNat kc)), .val (.int (1 : Int32)), .val (.ref a), .val (.int (1 : Int32))] [(.long ((own_inc (fun _ => 0) ka) 2))])
                    refine B.iconst 178 rfl (2 : Int32) at_177 rfl ?_
                    refine B.iload 180 rfl at_178 rfl ?_
                    refine B.iload 182 rfl at_180 rfl ?_
                    refine B.iload 184 rfl at_182 rfl ?_
                    refine B.iload 186 rfl at_184 rfl ?_
                    refine B.callS 189 rfl at_186 (wd hw 58 rfl) (wd hw 59 rfl) (wd hw 36 rfl) (wd hw 60 rfl) (by decide) [(.int (2 : Int32)), (.int (1 : Int32)), (.int (Int32.ofNat ka)), (.int (Int32.ofNat kb)), (.int (Int32.ofNat kc))] [(.long ((own_inc (fun _ => 0) ka) 2))] (rm_exp l Z a0 hw (2 : Int32) (1 : Int32) (Int32.ofNat ka) (Int32.ofNat kb) (Int32.ofNat kc) hh13) rfl rfl pd__IIIII_J rfl rfl 2 rfl (by decide) (by decide) (by decide) (by decide) (fun _ q => nomatch q) ?_
                    rintro _ _ - ⟨rfl, rfl⟩
                    show B.G hh13 3 11 (mkF m 189 #[.val (.int p1), .val (.int p2), .val (.int p3), .val (.int p4), .val (.int (Int32.ofNat ka)), .val (.int (Int32.ofNat kb)), .val (.int (Int32.ofNat kc)), .val (.int (1 : Int32)), .val (.ref a), .val (.int (1 : Int32))] [(.long (own_e (2 : Int32) (1 : Int32) (Int32.ofNat ka) (Int32.ofNat kb) (Int32.ofNat kc))), (.long ((own_inc (fun _ => 0) ka) 2))])
                    refine B.lcmp 190 rfl at_189 ?_
                    refine B.lif_ne 197 193 rfl (by decide) rfl at_190 (fun c190 => ?_) (fun c190 => ?_)
                    · exact absurd (by simp [own_e, own_inc, (show Int32.ofNat ka = (2 : Int32) ↔ ka = 2 from own_lit ka 2 hka (by decide)), (@eq_comm Nat 2 ka)]) c190
                    · refine B.iconst 194 rfl (1 : Int32) at_193 rfl ?_
                      refine B.goto 198 rfl (by decide) at_194 ?_
                      refine B.istore 200 rfl at_198 #[.val (.int p1), .val (.int p2), .val (.int p3), .val (.int p4), .val (.int (Int32.ofNat ka)), .val (.int (Int32.ofNat kb)), .val (.int (Int32.ofNat kc)), .val (.int (1 : Int32)), .val (.ref a), .val (.int (1 : Int32))] rfl ?_
                      refine B.iload 202 rfl at_200 rfl ?_
                      refine B.if0_eq 234 205 rfl (by decide) rfl at_202 (fun c202 => ?_) (fun c202 => ?_)
                      · exact absurd c202 (by decide)
                      · refine B.aload 207 rfl at_205 rfl rfl ?_
                        refine B.iconst 208 rfl (3 : Int32) at_207 rfl ?_
                        refine B.olds fun Y20 => ?_
                        refine B.callS 211 rfl at_208 (wd hw 34 rfl) (wd hw 35 rfl) (wd hw 36 rfl) (wd hw 37 rfl) (by decide) [(.int (3 : Int32))] [(.ref a)] (rm_reason l Z a0 hw 3 a_REPLAYED a_TOO_OLD a_BAD_TAG a_MALFORMED a_WRONG_EPOCH hh13 (by decide) (S_REPLAYED.ext Y20) (E_REPLAYED.ext Y20) (F_REPLAYED.ext Y20) (S_TOO_OLD.ext Y20) (E_TOO_OLD.ext Y20) (F_TOO_OLD.ext Y20) (S_BAD_TAG.ext Y20) (E_BAD_TAG.ext Y20) (F_BAD_TAG.ext Y20) (S_MALFORMED.ext Y20) (E_MALFORMED.ext Y20) (F_MALFORMED.ext Y20) (S_WRONG_EPOCH.ext Y20) (E_WRONG_EPOCH.ext Y20) (F_WRONG_EPOCH.ext Y20)) rfl rfl pd__I_Lsealgram_record_DropReason_ rfl rfl 1 rfl (by decide) (by decide) (by decide) (by decide) (fun _ q => nomatch q) ?_
                        rintro _ _ - ⟨r21, rfl, rfl, Er21, Fr21⟩
                        show B.G hh13 3 11 (mkF m 211 #[.val (.int p1), .val (.int p2), .val (.int p3), .val (.int p4), .val (.int (Int32.ofNat ka)), .val (.int (Int32.ofNat kb)), .val (.int (Int32.ofNat kc)), .val (.int (1 : Int32)), .val (.ref a), .val (.int (1 : Int32))] [(.ref r21), (.ref a)])
                        refine B.callV 214 rfl at_211 (wd hw 53 rfl) (wd hw 54 rfl) (wd hw 56 rfl) (wd hw 55 rfl) (wd hw 3 rfl) (wd hw 57 rfl) (by decide) Ea13 [(.ref r21)] [] (rm_count l Z a0 hw a mc r21 3 (own_inc (fun _ => 0) ka) hh13 (by decide) Ea13 Fm13 Am13 Er21 Fr21) rfl rfl pd__Lsealgram_record_DropReason__J rfl rfl 0 rfl (by decide) (by decide) (by decide) (by decide) (fun _ q => nomatch q) ?_
                        rintro _ _ - ⟨rfl, rfl⟩
                        show B.G hh13 3 11 (mkF m 214 #[.val (.int p1), .val (.int p2), .val (.int p3), .val (.int p4), .val (.int (Int32.ofNat ka)), .val (.int (Int32.ofNat kb)), .val (.int (Int32.ofNat kc)), .val (.int (1 : Int32)), .val (.ref a), .val (.int (1 : Int32))] [(.long ((own_inc (fun _ => 0) ka) 3))])
                        refine B.iconst 215 rfl (3 : Int32) at_214 rfl ?_
                        refine B.iload 217 rfl at_215 rfl ?_
                        refine B.iload 219 rfl at_217 rfl ?_
                        refine B.iload 221 rfl at_219 rfl ?_
                        refine B.iload 223 rfl at_221 rfl ?_
                        refine B.callS 226 rfl at_223 (wd hw 58 rfl) (wd hw 59 rfl) (wd hw 36 rfl) (wd hw 60 rfl) (by decide) [(.int (3 : Int32)), (.int (1 : Int32)), (.int (Int32.ofNat ka)), (.int (Int32.ofNat kb)), (.int (Int32.ofNat kc))] [(.long ((own_inc (fun _ => 0) ka) 3))] (rm_exp l Z a0 hw (3 : Int32) (1 : Int32) (Int32.ofNat ka) (Int32.ofNat kb) (Int32.ofNat kc) hh13) rfl rfl pd__IIIII_J rfl rfl 2 rfl (by decide) (by decide) (by decide) (by decide) (fun _ q => nomatch q) ?_
                        rintro _ _ - ⟨rfl, rfl⟩
                        show B.G hh13 3 11 (mkF m 226 #[.val (.int p1), .val (.int p2), .val (.int p3), .val (.int p4), .val (.int (Int32.ofNat ka)), .val (.int (Int32.ofNat kb)), .val (.int (Int32.ofNat kc)), .val (.int (1 : Int32)), .val (.ref a), .val (.int (1 : Int32))] [(.long (own_e (3 : Int32) (1 : Int32) (Int32.ofNat ka) (Int32.ofNat kb) (Int32.ofNat kc))), (.long ((own_inc (fun _ => 0) ka) 3))])
                        refine B.lcmp 227 rfl at_226 ?_
                        refine B.lif_ne 234 230 rfl (by decide) rfl at_227 (fun c227 => ?_) (fun c227 => ?_)
                        · exact absurd (by simp [own_e, own_inc, (show Int32.ofNat ka = (3 : Int32) ↔ ka = 3 from own_lit ka 3 hka (by decide)), (@eq_comm Nat 3 ka)]) c227
                        · refine B.iconst 231 rfl (1 : Int32) at_230 rfl ?_
                          refine B.goto 235 rfl (by decide) at_231 ?_
                          refine B.istore 237 rfl at_235 #[.val (.int p1), .val (.int p2), .val (.int p3), .val (.int p4), .val (.int (Int32.ofNat ka)), .val (.int (Int32.ofNat kb)), .val (.int (Int32.ofNat kc)), .val (.int (1 : Int32)), .val (.ref a), .val (.int (1 : Int32))] rfl ?_
                          refine B.iload 239 rfl at_237 rfl ?_
                          refine B.if0_eq 271 242 rfl (by decide) rfl at_239 (fun c239 => ?_) (fun c239 => ?_)
                          · exact absurd c239 (by decide)
                          · refine B.aload 244 rfl at_242 rfl rfl ?_
                            refine B.iconst 245 rfl (4 : Int32) at_244 rfl ?_
                            refine B.olds fun Y22 => ?_
                            refine B.callS 248 rfl at_245 (wd hw 34 rfl) (wd hw 35 rfl) (wd hw 36 rfl) (wd hw 37 rfl) (by decide) [(.int (4 : Int32))] [(.ref a)] (rm_reason l Z a0 hw 4 a_REPLAYED a_TOO_OLD a_BAD_TAG a_MALFORMED a_WRONG_EPOCH hh13 (by decide) (S_REPLAYED.ext Y22) (E_REPLAYED.ext Y22) (F_REPLAYED.ext Y22) (S_TOO_OLD.ext Y22) (E_TOO_OLD.ext Y22) (F_TOO_OLD.ext Y22) (S_BAD_TAG.ext Y22) (E_BAD_TAG.ext Y22) (F_BAD_TAG.ext Y22) (S_MALFORMED.ext Y22) (E_MALFORMED.ext Y22) (F_MALFORMED.ext Y22) (S_WRONG_EPOCH.ext Y22) (E_WRONG_EPOCH.ext Y22) (F_WRONG_EPOCH.ext Y22)) rfl rfl pd__I_Lsealgram_record_DropReason_ rfl rfl 1 rfl (by decide) (by decide) (by decide) (by decide) (fun _ q => nomatch q) ?_
                            rintro _ _ - ⟨r23, rfl, rfl, Er23, Fr23⟩
                            show B.G hh13 3 11 (mkF m 248 #[.val (.int p1), .val (.int p2), .val (.int p3), .val (.int p4), .val (.int (Int32.ofNat ka)), .val (.int (Int32.ofNat kb)), .val (.int (Int32.ofNat kc)), .val (.int (1 : Int32)), .val (.ref a), .val (.int (1 : Int32))] [(.ref r23), (.ref a)])
                            refine B.callV 251 rfl at_248 (wd hw 53 rfl) (wd hw 54 rfl) (wd hw 56 rfl) (wd hw 55 rfl) (wd hw 3 rfl) (wd hw 57 rfl) (by decide) Ea13 [(.ref r23)] [] (rm_count l Z a0 hw a mc r23 4 (own_inc (fun _ => 0) ka) hh13 (by decide) Ea13 Fm13 Am13 Er23 Fr23) rfl rfl pd__Lsealgram_record_DropReason__J rfl rfl 0 rfl (by decide) (by decide) (by decide) (by decide) (fun _ q => nomatch q) ?_
                            rintro _ _ - ⟨rfl, rfl⟩
                            show B.G hh13 3 11 (mkF m 251 #[.val (.int p1), .val (.int p2), .val (.int p3), .val (.int p4), .val (.int (Int32.ofNat ka)), .val (.int (Int32.ofNat kb)), .val (.int (Int32.ofNat kc)), .val (.int (1 : Int32)), .val (.ref a), .val (.int (1 : Int32))] [(.long ((own_inc (fun _ => 0) ka) 4))])
                            refine B.iconst 252 rfl (4 : Int32) at_251 rfl ?_
                            refine B.iload 254 rfl at_252 rfl ?_
                            refine B.iload 256 rfl at_254 rfl ?_
                            refine B.iload 258 rfl at_256 rfl ?_
                            refine B.iload 260 rfl at_258 rfl ?_
                            refine B.callS 263 rfl at_260 (wd hw 58 rfl) (wd hw 59 rfl) (wd hw 36 rfl) (wd hw 60 rfl) (by decide) [(.int (4 : Int32)), (.int (1 : Int32)), (.int (Int32.ofNat ka)), (.int (Int32.ofNat kb)), (.int (Int32.ofNat kc))] [(.long ((own_inc (fun _ => 0) ka) 4))] (rm_exp l Z a0 hw (4 : Int32) (1 : Int32) (Int32.ofNat ka) (Int32.ofNat kb) (Int32.ofNat kc) hh13) rfl rfl pd__IIIII_J rfl rfl 2 rfl (by decide) (by decide) (by decide) (by decide) (fun _ q => nomatch q) ?_
                            rintro _ _ - ⟨rfl, rfl⟩
                            show B.G hh13 3 11 (mkF m 263 #[.val (.int p1), .val (.int p2), .val (.int p3), .val (.int p4), .val (.int (Int32.ofNat ka)), .val (.int (Int32.ofNat kb)), .val (.int (Int32.ofNat kc)), .val (.int (1 : Int32)), .val (.ref a), .val (.int (1 : Int32))] [(.long (own_e (4 : Int32) (1 : Int32) (Int32.ofNat ka) (Int32.ofNat kb) (Int32.ofNat kc))), (.long ((own_inc (fun _ => 0) ka) 4))])
                            refine B.lcmp 264 rfl at_263 ?_
                            refine B.lif_ne 271 267 rfl (by decide) rfl at_264 (fun c264 => ?_) (fun c264 => ?_)
                            · exact absurd (by simp [own_e, own_inc, (show Int32.ofNat ka = (4 : Int32) ↔ ka = 4 from own_lit ka 4 hka (by decide)), (@eq_comm Nat 4 ka)]) c264
                            · refine B.iconst 268 rfl (1 : Int32) at_267 rfl ?_
                              refine B.goto 272 rfl (by decide) at_268 ?_
                              refine B.istore 274 rfl at_272 #[.val (.int p1), .val (.int p2), .val (.int p3), .val (.int p4), .val (.int (Int32.ofNat ka)), .val (.int (Int32.ofNat kb)), .val (.int (Int32.ofNat kc)), .val (.int (1 : Int32)), .val (.ref a), .val (.int (1 : Int32))] rfl ?_
                              refine B.iload 276 rfl at_274 rfl ?_
                              refine B.retN (by simp) at_276 (by decide) (by decide) ?_
                              exact rfl
        · exact absurd c73 (by decide)
      · exact absurd c57 (by decide)
  · refine B.istore 29 rfl at_27 #[.val (.int p1), .val (.int p2), .val (.int p3), .val (.int p4), .val (.int (Int32.ofNat ka)), .val (.int (Int32.ofNat kb)), .val (.int (Int32.ofNat kc)), .val (.int (2 : Int32)), .unset, .unset] rfl ?_
    refine B.newO 32 rfl at_29 (wd hw 1 rfl) (wd hw 2 rfl) (wd hw 3 rfl) (by decide) (by decide) ?_
    intro h1 a ea ga X1 A1 D1
    show B.G h1 1 1 (mkF m 32 #[.val (.int p1), .val (.int p2), .val (.int p3), .val (.int p4), .val (.int (Int32.ofNat ka)), .val (.int (Int32.ofNat kb)), .val (.int (Int32.ofNat kc)), .val (.int (2 : Int32)), .unset, .unset] [(.ref a)])
    refine B.dup 33 rfl at_32 rfl ?_
    have F1 : Fld Z h1 a "sealgram/record/DropCounts" "mCounts" "[J" .null := D1 (Or.inr (wd hw 33 rfl)) (ty := .array .long) (by decide)
    refine B.callI 36 rfl at_33 rfl (wd hw 4 rfl) (wd hw 5 rfl) (wd hw 3 rfl) (wd hw 6 rfl) (by decide) [] [(.ref a)] (rm_init l Z a0 hw a v a_REPLAYED a_TOO_OLD a_BAD_TAG a_MALFORMED a_WRONG_EPOCH h1 (S.ext X1) (A.ext X1) (E.ext X1) A1 F1) rfl rfl pd___V rfl rfl 1 rfl (by decide) (by decide) (by decide) (by decide) (fun x z => Or.inr (by cases List.mem_singleton.mp z; exact ga)) ?_
    rintro _ h2 K2 ⟨rfl, Ea, mc, gm, Fm, Am⟩
    show B.G h2 3 11 (mkF m 36 #[.val (.int p1), .val (.int p2), .val (.int p3), .val (.int p4), .val (.int (Int32.ofNat ka)), .val (.int (Int32.ofNat kb)), .val (.int (Int32.ofNat kc)), .val (.int (2 : Int32)), .unset, .unset] [(.ref a)])
    have gm0 : h0.size ≤ mc := Nat.le_trans X1.1 gm
    have ne : a ≠ mc := fun q => absurd A1.lt (by rw [q]; exact Nat.not_lt.mpr gm)
    refine B.astore 38 rfl at_36 rfl #[.val (.int p1), .val (.int p2), .val (.int p3), .val (.int p4), .val (.int (Int32.ofNat ka)), .val (.int (Int32.ofNat kb)), .val (.int (Int32.ofNat kc)), .val (.int (2 : Int32)), .val (.ref a), .unset] rfl ?_
    refine B.iload 40 rfl at_38 rfl ?_
    refine B.iconst 41 rfl (1 : Int32) at_40 rfl ?_
    refine B.icmp_lt 54 44 rfl (by decide) rfl at_41 (fun c41 => ?_) (fun c41 => ?_)
    · exact absurd c41 (by decide)
    · refine B.aload 46 rfl at_44 rfl rfl ?_
      refine B.iload 48 rfl at_46 rfl ?_
      refine B.olds fun Y24 => ?_
      refine B.callS 51 rfl at_48 (wd hw 34 rfl) (wd hw 35 rfl) (wd hw 36 rfl) (wd hw 37 rfl) (by decide) [(.int (Int32.ofNat ka))] [(.ref a)] (rm_reason l Z a0 hw ka a_REPLAYED a_TOO_OLD a_BAD_TAG a_MALFORMED a_WRONG_EPOCH h2 hka (S_REPLAYED.ext Y24) (E_REPLAYED.ext Y24) (F_REPLAYED.ext Y24) (S_TOO_OLD.ext Y24) (E_TOO_OLD.ext Y24) (F_TOO_OLD.ext Y24) (S_BAD_TAG.ext Y24) (E_BAD_TAG.ext Y24) (F_BAD_TAG.ext Y24) (S_MALFORMED.ext Y24) (E_MALFORMED.ext Y24) (F_MALFORMED.ext Y24) (S_WRONG_EPOCH.ext Y24) (E_WRONG_EPOCH.ext Y24) (F_WRONG_EPOCH.ext Y24)) rfl rfl pd__I_Lsealgram_record_DropReason_ rfl rfl 1 rfl (by decide) (by decide) (by decide) (by decide) (fun _ q => nomatch q) ?_
      rintro _ _ - ⟨r25, rfl, rfl, Er25, Fr25⟩
      show B.G h2 3 11 (mkF m 51 #[.val (.int p1), .val (.int p2), .val (.int p3), .val (.int p4), .val (.int (Int32.ofNat ka)), .val (.int (Int32.ofNat kb)), .val (.int (Int32.ofNat kc)), .val (.int (2 : Int32)), .val (.ref a), .unset] [(.ref r25), (.ref a)])
      refine B.callV 54 rfl at_51 (wd hw 39 rfl) (wd hw 40 rfl) (wd hw 42 rfl) (wd hw 41 rfl) (wd hw 3 rfl) (wd hw 43 rfl) (by decide) Ea [(.ref r25)] [] (rm_add l Z a0 hw a mc r25 ka (fun _ => 0) h2 hka Ea Fm Am Er25 Fr25) rfl rfl pd__Lsealgram_record_DropReason__V rfl rfl 0 rfl (by decide) (by decide) (by decide) (by decide) (fun x z => Or.inr (by cases List.mem_singleton.mp z; exact gm0)) ?_
      rintro _ hh26 K26 ⟨rfl, Am26⟩
      show B.G hh26 3 11 (mkF m 54 #[.val (.int p1), .val (.int p2), .val (.int p3), .val (.int p4), .val (.int (Int32.ofNat ka)), .val (.int (Int32.ofNat kb)), .val (.int (Int32.ofNat kc)), .val (.int (2 : Int32)), .val (.ref a), .unset] [])
      have Ea26 := Ea.keep K26
      have Fm26 := Fm.keep K26 (ninS ne nin0)
      refine B.iload 56 rfl at_54 rfl ?_
      refine B.iconst 57 rfl (2 : Int32) at_56 rfl ?_
      refine B.icmp_lt 70 60 rfl (by decide) rfl at_57 (fun c57 => ?_) (fun c57 => ?_)
      · exact absurd c57 (by decide)
      · refine B.aload 62 rfl at_60 rfl rfl ?_
        refine B.iload 64 rfl at_62 rfl ?_
        refine B.olds fun Y27 => ?_
        refine B.callS 67 rfl at_64 (wd hw 34 rfl) (wd hw 35 rfl) (wd hw 36 rfl) (wd hw 37 rfl) (by decide) [(.int (Int32.ofNat kb))] [(.ref a)] (rm_reason l Z a0 hw kb a_REPLAYED a_TOO_OLD a_BAD_TAG a_MALFORMED a_WRONG_EPOCH hh26 hkb (S_REPLAYED.ext Y27) (E_REPLAYED.ext Y27) (F_REPLAYED.ext Y27) (S_TOO_OLD.ext Y27) (E_TOO_OLD.ext Y27) (F_TOO_OLD.ext Y27) (S_BAD_TAG.ext Y27) (E_BAD_TAG.ext Y27) (F_BAD_TAG.ext Y27) (S_MALFORMED.ext Y27) (E_MALFORMED.ext Y27) (F_MALFORMED.ext Y27) (S_WRONG_EPOCH.ext Y27) (E_WRONG_EPOCH.ext Y27) (F_WRONG_EPOCH.ext Y27)) rfl rfl pd__I_Lsealgram_record_DropReason_ rfl rfl 1 rfl (by decide) (by decide) (by decide) (by decide) (fun _ q => nomatch q) ?_
        rintro _ _ - ⟨r28, rfl, rfl, Er28, Fr28⟩
        show B.G hh26 3 11 (mkF m 67 #[.val (.int p1), .val (.int p2), .val (.int p3), .val (.int p4), .val (.int (Int32.ofNat ka)), .val (.int (Int32.ofNat kb)), .val (.int (Int32.ofNat kc)), .val (.int (2 : Int32)), .val (.ref a), .unset] [(.ref r28), (.ref a)])
        refine B.callV 70 rfl at_67 (wd hw 39 rfl) (wd hw 40 rfl) (wd hw 42 rfl) (wd hw 41 rfl) (wd hw 3 rfl) (wd hw 43 rfl) (by decide) Ea26 [(.ref r28)] [] (rm_add l Z a0 hw a mc r28 kb (own_inc (fun _ => 0) ka) hh26 hkb Ea26 Fm26 Am26 Er28 Fr28) rfl rfl pd__Lsealgram_record_DropReason__V rfl rfl 0 rfl (by decide) (by decide) (by decide) (by decide) (fun x z => Or.inr (by cases List.mem_singleton.mp z; exact gm0)) ?_
        rintro _ hh29 K29 ⟨rfl, Am29⟩
        show B.G hh29 3 11 (mkF m 70 #[.val (.int p1), .val (.int p2), .val (.int p3), .val (.int p4), .val (.int (Int32.ofNat ka)), .val (.int (Int32.ofNat kb)), .val (.int (Int32.ofNat kc)), .val (.int (2 : Int32)), .val (.ref a), .unset] [])
        have Ea29 := Ea26.keep K29
        have Fm29 := Fm26.keep K29 (ninS ne nin0)
        refine B.iload 72 rfl at_70 rfl ?_
        refine B.iconst 73 rfl (3 : Int32) at_72 rfl ?_
        refine B.icmp_lt 86 76 rfl (by decide) rfl at_73 (fun c73 => ?_) (fun c73 => ?_)
        · refine B.iconst 87 rfl (1 : Int32) at_86 rfl ?_
          refine B.istore 89 rfl at_87 #[.val (.int p1), .val (.int p2), .val (.int p3), .val (.int p4), .val (.int (Int32.ofNat ka)), .val (.int (Int32.ofNat kb)), .val (.int (Int32.ofNat kc)), .val (.int (2 : Int32)), .val (.ref a), .val (.int (1 : Int32))] rfl ?_
          refine B.iload 91 rfl at_89 rfl ?_
          refine B.if0_eq 123 94 rfl (by decide) rfl at_91 (fun c91 => ?_) (fun c91 => ?_)
          · exact absurd c91 (by decide)
          · refine B.aload 96 rfl at_94 rfl rfl ?_
            refine B.iconst 97 rfl (0 : Int32) at_96 rfl ?_
            refine B.olds fun Y30 => ?_
            refine B.callS 100 rfl at_97 (wd hw 34 rfl) (wd hw 35 rfl) (wd hw 36 rfl) (wd hw 37 rfl) (by decide) [(.int (0 : Int32))] [(.ref a)] (rm_reason l Z a0 hw 0 a_REPLAYED a_TOO_OLD a_BAD_TAG a_MALFORMED a_WRONG_EPOCH hh29 (by decide) (S_REPLAYED.ext Y30) (E_REPLAYED.ext Y30) (F_REPLAYED.ext Y30) (S_TOO_OLD.ext Y30) (E_TOO_OLD.ext Y30) (F_TOO_OLD.ext Y30) (S_BAD_TAG.ext Y30) (E_BAD_TAG.ext Y30) (F_BAD_TAG.ext Y30) (S_MALFORMED.ext Y30) (E_MALFORMED.ext Y30) (F_MALFORMED.ext Y30) (S_WRONG_EPOCH.ext Y30) (E_WRONG_EPOCH.ext Y30) (F_WRONG_EPOCH.ext Y30)) rfl rfl pd__I_Lsealgram_record_DropReason_ rfl rfl 1 rfl (by decide) (by decide) (by decide) (by decide) (fun _ q => nomatch q) ?_
            rintro _ _ - ⟨r31, rfl, rfl, Er31, Fr31⟩
            show B.G hh29 3 11 (mkF m 100 #[.val (.int p1), .val (.int p2), .val (.int p3), .val (.int p4), .val (.int (Int32.ofNat ka)), .val (.int (Int32.ofNat kb)), .val (.int (Int32.ofNat kc)), .val (.int (2 : Int32)), .val (.ref a), .val (.int (1 : Int32))] [(.ref r31), (.ref a)])
            refine B.callV 103 rfl at_100 (wd hw 53 rfl) (wd hw 54 rfl) (wd hw 56 rfl) (wd hw 55 rfl) (wd hw 3 rfl) (wd hw 57 rfl) (by decide) Ea29 [(.ref r31)] [] (rm_count l Z a0 hw a mc r31 0 (own_inc (own_inc (fun _ => 0) ka) kb) hh29 (by decide) Ea29 Fm29 Am29 Er31 Fr31) rfl rfl pd__Lsealgram_record_DropReason__J rfl rfl 0 rfl (by decide) (by decide) (by decide) (by decide) (fun _ q => nomatch q) ?_
            rintro _ _ - ⟨rfl, rfl⟩
            show B.G hh29 3 11 (mkF m 103 #[.val (.int p1), .val (.int p2), .val (.int p3), .val (.int p4), .val (.int (Int32.ofNat ka)), .val (.int (Int32.ofNat kb)), .val (.int (Int32.ofNat kc)), .val (.int (2 : Int32)), .val (.ref a), .val (.int (1 : Int32))] [(.long ((own_inc (own_inc (fun _ => 0) ka) kb) 0))])
            refine B.iconst 104 rfl (0 : Int32) at_103 rfl ?_
            refine B.iload 106 rfl at_104 rfl ?_
            refine B.iload 108 rfl at_106 rfl ?_
            refine B.iload 110 rfl at_108 rfl ?_
            refine B.iload 112 rfl at_110 rfl ?_
            refine B.callS 115 rfl at_112 (wd hw 58 rfl) (wd hw 59 rfl) (wd hw 36 rfl) (wd hw 60 rfl) (by decide) [(.int (0 : Int32)), (.int (2 : Int32)), (.int (Int32.ofNat ka)), (.int (Int32.ofNat kb)), (.int (Int32.ofNat kc))] [(.long ((own_inc (own_inc (fun _ => 0) ka) kb) 0))] (rm_exp l Z a0 hw (0 : Int32) (2 : Int32) (Int32.ofNat ka) (Int32.ofNat kb) (Int32.ofNat kc) hh29) rfl rfl pd__IIIII_J rfl rfl 2 rfl (by decide) (by decide) (by decide) (by decide) (fun _ q => nomatch q) ?_
            rintro _ _ - ⟨rfl, rfl⟩
            show B.G hh29 3 11 (mkF m 115 #[.val (.int p1), .val (.int p2), .val (.int p3), .val (.int p4), .val (.int (Int32.ofNat ka)), .val (.int (Int32.ofNat kb)), .val (.int (Int32.ofNat kc)), .val (.int (2 : Int32)), .val (.ref a), .val (.int (1 : Int32))] [(.long (own_e (0 : Int32) (2 : Int32) (Int32.ofNat ka) (Int32.ofNat kb) (Int32.ofNat kc))), (.long ((own_inc (own_inc (fun _ => 0) ka) kb) 0))])
            refine B.lcmp 116 rfl at_115 ?_
            refine B.lif_ne 123 119 rfl (by decide) rfl at_116 (fun c116 => ?_) (fun c116 => ?_)
            · exact absurd (by simp [own_e, own_inc, (show Int32.ofNat ka = (0 : Int32) ↔ ka = 0 from own_lit ka 0 hka (by decide)), (@eq_comm Nat 0 ka), (show Int32.ofNat kb = (0 : Int32) ↔ kb = 0 from own_lit kb 0 hkb (by decide)), (@eq_comm Nat 0 kb)]) c116
            · refine B.iconst 120 rfl (1 : Int32) at_119 rfl ?_
              refine B.goto 124 rfl (by decide) at_120 ?_
              refine B.istore 126 rfl at_124 #[.val (.int p1), .val (.int p2), .val (.int p3), .val (.int p4), .val (.int (Int32.ofNat ka)), .val (.int (Int32.ofNat kb)), .val (.int (Int32.ofNat kc)), .val (.int (2 : Int32)), .val (.ref a), .val (.int (1 : Int32))] rfl ?_
              refine B.iload 128 rfl at_126 rfl ?_
              refine B.if0_eq 160 131 rfl (by decide) rfl at_128 (fun c128 => ?_) (fun c128 => ?_)
              · exact absurd c128 (by decide)
              · refine B.aload 133 rfl at_131 rfl rfl ?_
                refine B.iconst 134 rfl (1 : Int32) at_133 rfl ?_
                refine B.olds fun Y32 => ?_
                refine B.callS 137 rfl at_134 (wd hw 34 rfl) (wd hw 35 rfl) (wd hw 36 rfl) (wd hw 37 rfl) (by decide) [(.int (1 : Int32))] [(.ref a)] (rm_reason l Z a0 hw 1 a_REPLAYED a_TOO_OLD a_BAD_TAG a_MALFORMED a_WRONG_EPOCH hh29 (by decide) (S_REPLAYED.ext Y32) (E_REPLAYED.ext Y32) (F_REPLAYED.ext Y32) (S_TOO_OLD.ext Y32) (E_TOO_OLD.ext Y32) (F_TOO_OLD.ext Y32) (S_BAD_TAG.ext Y32) (E_BAD_TAG.ext Y32) (F_BAD_TAG.ext Y32) (S_MALFORMED.ext Y32) (E_MALFORMED.ext Y32) (F_MALFORMED.ext Y32) (S_WRONG_EPOCH.ext Y32) (E_WRONG_EPOCH.ext Y32) (F_WRONG_EPOCH.ext Y32)) rfl rfl pd__I_Lsealgram_record_DropReason_ rfl rfl 1 rfl (by decide) (by decide) (by decide) (by decide) (fun _ q => nomatch q) ?_
                rintro _ _ - ⟨r33, rfl, rfl, Er33, Fr33⟩
                show B.G hh29 3 11 (mkF m 137 #[.val (.int p1), .val (.int p2), .val (.int p3), .val (.int p4), .val (.int (Int32.ofNat ka)), .val (.int (Int32.ofNat kb)), .val (.int (Int32.ofNat kc)), .val (.int (2 : Int32)), .val (.ref a), .val (.int (1 : Int32))] [(.ref r33), (.ref a)])
                refine B.callV 140 rfl at_137 (wd hw 53 rfl) (wd hw 54 rfl) (wd hw 56 rfl) (wd hw 55 rfl) (wd hw 3 rfl) (wd hw 57 rfl) (by decide) Ea29 [(.ref r33)] [] (rm_count l Z a0 hw a mc r33 1 (own_inc (own_inc (fun _ => 0) ka) kb) hh29 (by decide) Ea29 Fm29 Am29 Er33 Fr33) rfl rfl pd__Lsealgram_record_DropReason__J rfl rfl 0 rfl (by decide) (by decide) (by decide) (by decide) (fun _ q => nomatch q) ?_
                rintro _ _ - ⟨rfl, rfl⟩
                show B.G hh29 3 11 (mkF m 140 #[.val (.int p1), .val (.int p2), .val (.int p3), .val (.int p4), .val (.int (Int32.ofNat ka)), .val (.int (Int32.ofNat kb)), .val (.int (Int32.ofNat kc)), .val (.int (2 : Int32)), .val (.ref a), .val (.int (1 : Int32))] [(.long ((own_inc (own_inc (fun _ => 0) ka) kb) 1))])
                refine B.iconst 141 rfl (1 : Int32) at_140 rfl ?_
                refine B.iload 143 rfl at_141 rfl ?_
                refine B.iload 145 rfl at_143 rfl ?_
                refine B.iload 147 rfl at_145 rfl ?_
                refine B.iload 149 rfl at_147 rfl ?_
                refine B.callS 152 rfl at_149 (wd hw 58 rfl) (wd hw 59 rfl) (wd hw 36 rfl) (wd hw 60 rfl) (by decide) [(.int (1 : Int32)), (.int (2 : Int32)), (.int (Int32.ofNat ka)), (.int (Int32.ofNat kb)), (.int (Int32.ofNat kc))] [(.long ((own_inc (own_inc (fun _ => 0) ka) kb) 1))] (rm_exp l Z a0 hw (1 : Int32) (2 : Int32) (Int32.ofNat ka) (Int32.ofNat kb) (Int32.ofNat kc) hh29) rfl rfl pd__IIIII_J rfl rfl 2 rfl (by decide) (by decide) (by decide) (by decide) (fun _ q => nomatch q) ?_
                rintro _ _ - ⟨rfl, rfl⟩
                show B.G hh29 3 11 (mkF m 152 #[.val (.int p1), .val (.int p2), .val (.int p3), .val (.int p4), .val (.int (Int32.ofNat ka)), .val (.int (Int32.ofNat kb)), .val (.int (Int32.ofNat kc)), .val (.int (2 : Int32)), .val (.ref a), .val (.int (1 : Int32))] [(.long (own_e (1 : Int32) (2 : Int32) (Int32.ofNat ka) (Int32.ofNat kb) (Int32.ofNat kc))), (.long ((own_inc (own_inc (fun _ => 0) ka) kb) 1))])
                refine B.lcmp 153 rfl at_152 ?_
                refine B.lif_ne 160 156 rfl (by decide) rfl at_153 (fun c153 => ?_) (fun c153 => ?_)
                · exact absurd (by simp [own_e, own_inc, (show Int32.ofNat ka = (1 : Int32) ↔ ka = 1 from own_lit ka 1 hka (by decide)), (@eq_comm Nat 1 ka), (show Int32.ofNat kb = (1 : Int32) ↔ kb = 1 from own_lit kb 1 hkb (by decide)), (@eq_comm Nat 1 kb)]) c153
                · refine B.iconst 157 rfl (1 : Int32) at_156 rfl ?_
                  refine B.goto 161 rfl (by decide) at_157 ?_
                  refine B.istore 163 rfl at_161 #[.val (.int p1), .val (.int p2), .val (.int p3), .val (.int p4), .val (.int (Int32.ofNat ka)), .val (.int (Int32.ofNat kb)), .val (.int (Int32.ofNat kc)), .val (.int (2 : Int32)), .val (.ref a), .val (.int (1 : Int32))] rfl ?_
                  refine B.iload 165 rfl at_163 rfl ?_
                  refine B.if0_eq 197 168 rfl (by decide) rfl at_165 (fun c165 => ?_) (fun c165 => ?_)
                  · exact absurd c165 (by decide)
                  · refine B.aload 170 rfl at_168 rfl rfl ?_
                    refine B.iconst 171 rfl (2 : Int32) at_170 rfl ?_
                    refine B.olds fun Y34 => ?_
                    refine B.callS 174 rfl at_171 (wd hw 34 rfl) (wd hw 35 rfl) (wd hw 36 rfl) (wd hw 37 rfl) (by decide) [(.int (2 : Int32))] [(.ref a)] (rm_reason l Z a0 hw 2 a_REPLAYED a_TOO_OLD a_BAD_TAG a_MALFORMED a_WRONG_EPOCH hh29 (by decide) (S_REPLAYED.ext Y34) (E_REPLAYED.ext Y34) (F_REPLAYED.ext Y34) (S_TOO_OLD.ext Y34) (E_TOO_OLD.ext Y34) (F_TOO_OLD.ext Y34) (S_BAD_TAG.ext Y34) (E_BAD_TAG.ext Y34) (F_BAD_TAG.ext Y34) (S_MALFORMED.ext Y34) (E_MALFORMED.ext Y34) (F_MALFORMED.ext Y34) (S_WRONG_EPOCH.ext Y34) (E_WRONG_EPOCH.ext Y34) (F_WRONG_EPOCH.ext Y34)) rfl rfl pd__I_Lsealgram_record_DropReason_ rfl rfl 1 rfl (by decide) (by decide) (by decide) (by decide) (fun _ q => nomatch q) ?_
                    rintro _ _ - ⟨r35, rfl, rfl, Er35, Fr35⟩
                    show B.G hh29 3 11 (mkF m 174 #[.val (.int p1), .val (.int p2), .val (.int p3), .val (.int p4), .val (.int (Int32.ofNat ka)), .val (.int (Int32.ofNat kb)), .val (.int (Int32.ofNat kc)), .val (.int (2 : Int32)), .val (.ref a), .val (.int (1 : Int32))] [(.ref r35), (.ref a)])
                    refine B.callV 177 rfl at_174 (wd hw 53 rfl) (wd hw 54 rfl) (wd hw 56 rfl) (wd hw 55 rfl) (wd hw 3 rfl) (wd hw 57 rfl) (by decide) Ea29 [(.ref r35)] [] (rm_count l Z a0 hw a mc r35 2 (own_inc (own_inc (fun _ => 0) ka) kb) hh29 (by decide) Ea29 Fm29 Am29 Er35 Fr35) rfl rfl pd__Lsealgram_record_DropReason__J rfl rfl 0 rfl (by decide) (by decide) (by decide) (by decide) (fun _ q => nomatch q) ?_
                    rintro _ _ - ⟨rfl, rfl⟩
                    show B.G hh29 3 11 (mkF m 177 #[.val (.int p1), .val (.int p2), .val (.int p3), .val (.int p4), .val (.int (Int32.ofNat ka)), .val (.int (Int32.ofNat kb)), .val (.int (Int32.ofNat kc)), .val (.int (2 : Int32)), .val (.ref a), .val (.int (1 : Int32))] [(.long ((own_inc (own_inc (fun _ => 0) ka) kb) 2))])
                    refine B.iconst 178 rfl (2 : Int32) at_177 rfl ?_
                    refine B.iload 180 rfl at_178 rfl ?_
                    refine B.iload 182 rfl at_180 rfl ?_
                    refine B.iload 184 rfl at_182 rfl ?_
                    refine B.iload 186 rfl at_184 rfl ?_
                    refine B.callS 189 rfl at_186 (wd hw 58 rfl) (wd hw 59 rfl) (wd hw 36 rfl) (wd hw 60 rfl) (by decide) [(.int (2 : Int32)), (.int (2 : Int32)), (.int (Int32.ofNat ka)), (.int (Int32.ofNat kb)), (.int (Int32.ofNat kc))] [(.long ((own_inc (own_inc (fun _ => 0) ka) kb) 2))] (rm_exp l Z a0 hw (2 : Int32) (2 : Int32) (Int32.ofNat ka) (Int32.ofNat kb) (Int32.ofNat kc) hh29) rfl rfl pd__IIIII_J rfl rfl 2 rfl (by decide) (by decide) (by decide) (by decide) (fun _ q => nomatch q) ?_
                    rintro _ _ - ⟨rfl, rfl⟩
                    show B.G hh29 3 11 (mkF m 189 #[.val (.int p1), .val (.int p2), .val (.int p3), .val (.int p4), .val (.int (Int32.ofNat ka)), .val (.int (Int32.ofNat kb)), .val (.int (Int32.ofNat kc)), .val (.int (2 : Int32)), .val (.ref a), .val (.int (1 : Int32))] [(.long (own_e (2 : Int32) (2 : Int32) (Int32.ofNat ka) (Int32.ofNat kb) (Int32.ofNat kc))), (.long ((own_inc (own_inc (fun _ => 0) ka) kb) 2))])
                    refine B.lcmp 190 rfl at_189 ?_
                    refine B.lif_ne 197 193 rfl (by decide) rfl at_190 (fun c190 => ?_) (fun c190 => ?_)
                    · exact absurd (by simp [own_e, own_inc, (show Int32.ofNat ka = (2 : Int32) ↔ ka = 2 from own_lit ka 2 hka (by decide)), (@eq_comm Nat 2 ka), (show Int32.ofNat kb = (2 : Int32) ↔ kb = 2 from own_lit kb 2 hkb (by decide)), (@eq_comm Nat 2 kb)]) c190
                    · refine B.iconst 194 rfl (1 : Int32) at_193 rfl ?_
                      refine B.goto 198 rfl (by decide) at_194 ?_
                      refine B.istore 200 rfl at_198 #[.val (.int p1), .val (.int p2), .val (.int p3), .val (.int p4), .val (.int (Int32.ofNat ka)), .val (.int (Int32.ofNat kb)), .val (.int (Int32.ofNat kc)), .val (.int (2 : Int32)), .val (.ref a), .val (.int (1 : Int32))] rfl ?_
                      refine B.iload 202 rfl at_200 rfl ?_
                      refine B.if0_eq 234 205 rfl (by decide) rfl at_202 (fun c202 => ?_) (fun c202 => ?_)
                      · exact absurd c202 (by decide)
                      · refine B.aload 207 rfl at_205 rfl rfl ?_
                        refine B.iconst 208 rfl (3 : Int32) at_207 rfl ?_
                        refine B.olds fun Y36 => ?_
                        refine B.callS 211 rfl at_208 (wd hw 34 rfl) (wd hw 35 rfl) (wd hw 36 rfl) (wd hw 37 rfl) (by decide) [(.int (3 : Int32))] [(.ref a)] (rm_reason l Z a0 hw 3 a_REPLAYED a_TOO_OLD a_BAD_TAG a_MALFORMED a_WRONG_EPOCH hh29 (by decide) (S_REPLAYED.ext Y36) (E_REPLAYED.ext Y36) (F_REPLAYED.ext Y36) (S_TOO_OLD.ext Y36) (E_TOO_OLD.ext Y36) (F_TOO_OLD.ext Y36) (S_BAD_TAG.ext Y36) (E_BAD_TAG.ext Y36) (F_BAD_TAG.ext Y36) (S_MALFORMED.ext Y36) (E_MALFORMED.ext Y36) (F_MALFORMED.ext Y36) (S_WRONG_EPOCH.ext Y36) (E_WRONG_EPOCH.ext Y36) (F_WRONG_EPOCH.ext Y36)) rfl rfl pd__I_Lsealgram_record_DropReason_ rfl rfl 1 rfl (by decide) (by decide) (by decide) (by decide) (fun _ q => nomatch q) ?_
                        rintro _ _ - ⟨r37, rfl, rfl, Er37, Fr37⟩
                        show B.G hh29 3 11 (mkF m 211 #[.val (.int p1), .val (.int p2), .val (.int p3), .val (.int p4), .val (.int (Int32.ofNat ka)), .val (.int (Int32.ofNat kb)), .val (.int (Int32.ofNat kc)), .val (.int (2 : Int32)), .val (.ref a), .val (.int (1 : Int32))] [(.ref r37), (.ref a)])
                        refine B.callV 214 rfl at_211 (wd hw 53 rfl) (wd hw 54 rfl) (wd hw 56 rfl) (wd hw 55 rfl) (wd hw 3 rfl) (wd hw 57 rfl) (by decide) Ea29 [(.ref r37)] [] (rm_count l Z a0 hw a mc r37 3 (own_inc (own_inc (fun _ => 0) ka) kb) hh29 (by decide) Ea29 Fm29 Am29 Er37 Fr37) rfl rfl pd__Lsealgram_record_DropReason__J rfl rfl 0 rfl (by decide) (by decide) (by decide) (by decide) (fun _ q => nomatch q) ?_
                        rintro _ _ - ⟨rfl, rfl⟩
                        show B.G hh29 3 11 (mkF m 214 #[.val (.int p1), .val (.int p2), .val (.int p3), .val (.int p4), .val (.int (Int32.ofNat ka)), .val (.int (Int32.ofNat kb)), .val (.int (Int32.ofNat kc)), .val (.int (2 : Int32)), .val (.ref a), .val (.int (1 : Int32))] [(.long ((own_inc (own_inc (fun _ => 0) ka) kb) 3))])
                        refine B.iconst 215 rfl (3 : Int32) at_214 rfl ?_
                        refine B.iload 217 rfl at_215 rfl ?_
                        refine B.iload 219 rfl at_217 rfl ?_
                        refine B.iload 221 rfl at_219 rfl ?_
                        refine B.iload 223 rfl at_221 rfl ?_
                        refine B.callS 226 rfl at_223 (wd hw 58 rfl) (wd hw 59 rfl) (wd hw 36 rfl) (wd hw 60 rfl) (by decide) [(.int (3 : Int32)), (.int (2 : Int32)), (.int (Int32.ofNat ka)), (.int (Int32.ofNat kb)), (.int (Int32.ofNat kc))] [(.long ((own_inc (own_inc (fun _ => 0) ka) kb) 3))] (rm_exp l Z a0 hw (3 : Int32) (2 : Int32) (Int32.ofNat ka) (Int32.ofNat kb) (Int32.ofNat kc) hh29) rfl rfl pd__IIIII_J rfl rfl 2 rfl (by decide) (by decide) (by decide) (by decide) (fun _ q => nomatch q) ?_
                        rintro _ _ - ⟨rfl, rfl⟩
                        show B.G hh29 3 11 (mkF m 226 #[.val (.int p1), .val (.int p2), .val (.int p3), .val (.int p4), .val (.int (Int32.ofNat ka)), .val (.int (Int32.ofNat kb)), .val (.int (Int32.ofNat kc)), .val (.int (2 : Int32)), .val (.ref a), .val (.int (1 : Int32))] [(.long (own_e (3 : Int32) (2 : Int32) (Int32.ofNat ka) (Int32.ofNat kb) (Int32.ofNat kc))), (.long ((own_inc (own_inc (fun _ => 0) ka) kb) 3))])
                        refine B.lcmp 227 rfl at_226 ?_
                        refine B.lif_ne 234 230 rfl (by decide) rfl at_227 (fun c227 => ?_) (fun c227 => ?_)
                        · exact absurd (by simp [own_e, own_inc, (show Int32.ofNat ka = (3 : Int32) ↔ ka = 3 from own_lit ka 3 hka (by decide)), (@eq_comm Nat 3 ka), (show Int32.ofNat kb = (3 : Int32) ↔ kb = 3 from own_lit kb 3 hkb (by decide)), (@eq_comm Nat 3 kb)]) c227
                        · refine B.iconst 231 rfl (1 : Int32) at_230 rfl ?_
                          refine B.goto 235 rfl (by decide) at_231 ?_
                          refine B.istore 237 rfl at_235 #[.val (.int p1), .val (.int p2), .val (.int p3), .val (.int p4), .val (.int (Int32.ofNat ka)), .val (.int (Int32.ofNat kb)), .val (.int (Int32.ofNat kc)), .val (.int (2 : Int32)), .val (.ref a), .val (.int (1 : Int32))] rfl ?_
                          refine B.iload 239 rfl at_237 rfl ?_
                          refine B.if0_eq 271 242 rfl (by decide) rfl at_239 (fun c239 => ?_) (fun c239 => ?_)
                          · exact absurd c239 (by decide)
                          · refine B.aload 244 rfl at_242 rfl rfl ?_
                            refine B.iconst 245 rfl (4 : Int32) at_244 rfl ?_
                            refine B.olds fun Y38 => ?_
                            refine B.callS 248 rfl at_245 (wd hw 34 rfl) (wd hw 35 rfl) (wd hw 36 rfl) (wd hw 37 rfl) (by decide) [(.int (4 : Int32))] [(.ref a)] (rm_reason l Z a0 hw 4 a_REPLAYED a_TOO_OLD a_BAD_TAG a_MALFORMED a_WRONG_EPOCH hh29 (by decide) (S_REPLAYED.ext Y38) (E_REPLAYED.ext Y38) (F_REPLAYED.ext Y38) (S_TOO_OLD.ext Y38) (E_TOO_OLD.ext Y38) (F_TOO_OLD.ext Y38) (S_BAD_TAG.ext Y38) (E_BAD_TAG.ext Y38) (F_BAD_TAG.ext Y38) (S_MALFORMED.ext Y38) (E_MALFORMED.ext Y38) (F_MALFORMED.ext Y38) (S_WRONG_EPOCH.ext Y38) (E_WRONG_EPOCH.ext Y38) (F_WRONG_EPOCH.ext Y38)) rfl rfl pd__I_Lsealgram_record_DropReason_ rfl rfl 1 rfl (by decide) (by decide) (by decide) (by decide) (fun _ q => nomatch q) ?_
                            rintro _ _ - ⟨r39, rfl, rfl, Er39, Fr39⟩
                            show B.G hh29 3 11 (mkF m 248 #[.val (.int p1), .val (.int p2), .val (.int p3), .val (.int p4), .val (.int (Int32.ofNat ka)), .val (.int (Int32.ofNat kb)), .val (.int (Int32.ofNat kc)), .val (.int (2 : Int32)), .val (.ref a), .val (.int (1 : Int32))] [(.ref r39), (.ref a)])
                            refine B.callV 251 rfl at_248 (wd hw 53 rfl) (wd hw 54 rfl) (wd hw 56 rfl) (wd hw 55 rfl) (wd hw 3 rfl) (wd hw 57 rfl) (by decide) Ea29 [(.ref r39)] [] (rm_count l Z a0 hw a mc r39 4 (own_inc (own_inc (fun _ => 0) ka) kb) hh29 (by decide) Ea29 Fm29 Am29 Er39 Fr39) rfl rfl pd__Lsealgram_record_DropReason__J rfl rfl 0 rfl (by decide) (by decide) (by decide) (by decide) (fun _ q => nomatch q) ?_
                            rintro _ _ - ⟨rfl, rfl⟩
                            show B.G hh29 3 11 (mkF m 251 #[.val (.int p1), .val (.int p2), .val (.int p3), .val (.int p4), .val (.int (Int32.ofNat ka)), .val (.int (Int32.ofNat kb)), .val (.int (Int32.ofNat kc)), .val (.int (2 : Int32)), .val (.ref a), .val (.int (1 : Int32))] [(.long ((own_inc (own_inc (fun _ => 0) ka) kb) 4))])
                            refine B.iconst 252 rfl (4 : Int32) at_251 rfl ?_
                            refine B.iload 254 rfl at_252 rfl ?_
                            refine B.iload 256 rfl at_254 rfl ?_
                            refine B.iload 258 rfl at_256 rfl ?_
                            refine B.iload 260 rfl at_258 rfl ?_
                            refine B.callS 263 rfl at_260 (wd hw 58 rfl) (wd hw 59 rfl) (wd hw 36 rfl) (wd hw 60 rfl) (by decide) [(.int (4 : Int32)), (.int (2 : Int32)), (.int (Int32.ofNat ka)), (.int (Int32.ofNat kb)), (.int (Int32.ofNat kc))] [(.long ((own_inc (own_inc (fun _ => 0) ka) kb) 4))] (rm_exp l Z a0 hw (4 : Int32) (2 : Int32) (Int32.ofNat ka) (Int32.ofNat kb) (Int32.ofNat kc) hh29) rfl rfl pd__IIIII_J rfl rfl 2 rfl (by decide) (by decide) (by decide) (by decide) (fun _ q => nomatch q) ?_
                            rintro _ _ - ⟨rfl, rfl⟩
                            show B.G hh29 3 11 (mkF m 263 #[.val (.int p1), .val (.int p2), .val (.int p3), .val (.int p4), .val (.int (Int32.ofNat ka)), .val (.int (Int32.ofNat kb)), .val (.int (Int32.ofNat kc)), .val (.int (2 : Int32)), .val (.ref a), .val (.int (1 : Int32))] [(.long (own_e (4 : Int32) (2 : Int32) (Int32.ofNat ka) (Int32.ofNat kb) (Int32.ofNat kc))), (.long ((own_inc (own_inc (fun _ => 0) ka) kb) 4))])
                            refine B.lcmp 264 rfl at_263 ?_
                            refine B.lif_ne 271 267 rfl (by decide) rfl at_264 (fun c264 => ?_) (fun c264 => ?_)
                            · exact absurd (by simp [own_e, own_inc, (show Int32.ofNat ka = (4 : Int32) ↔ ka = 4 from own_lit ka 4 hka (by decide)), (@eq_comm Nat 4 ka), (show Int32.ofNat kb = (4 : Int32) ↔ kb = 4 from own_lit kb 4 hkb (by decide)), (@eq_comm Nat 4 kb)]) c264
                            · refine B.iconst 268 rfl (1 : Int32) at_267 rfl ?_
                              refine B.goto 272 rfl (by decide) at_268 ?_
                              refine B.istore 274 rfl at_272 #[.val (.int p1), .val (.int p2), .val (.int p3), .val (.int p4), .val (.int (Int32.ofNat ka)), .val (.int (Int32.ofNat kb)), .val (.int (Int32.ofNat kc)), .val (.int (2 : Int32)), .val (.ref a), .val (.int (1 : Int32))] rfl ?_
                              refine B.iload 276 rfl at_274 rfl ?_
                              refine B.retN (by simp) at_276 (by decide) (by decide) ?_
                              exact rfl
        · exact absurd c73 (by decide)
  · refine B.istore 29 rfl at_27 #[.val (.int p1), .val (.int p2), .val (.int p3), .val (.int p4), .val (.int (Int32.ofNat ka)), .val (.int (Int32.ofNat kb)), .val (.int (Int32.ofNat kc)), .val (.int (3 : Int32)), .unset, .unset] rfl ?_
    refine B.newO 32 rfl at_29 (wd hw 1 rfl) (wd hw 2 rfl) (wd hw 3 rfl) (by decide) (by decide) ?_
    intro h1 a ea ga X1 A1 D1
    show B.G h1 1 1 (mkF m 32 #[.val (.int p1), .val (.int p2), .val (.int p3), .val (.int p4), .val (.int (Int32.ofNat ka)), .val (.int (Int32.ofNat kb)), .val (.int (Int32.ofNat kc)), .val (.int (3 : Int32)), .unset, .unset] [(.ref a)])
    refine B.dup 33 rfl at_32 rfl ?_
    have F1 : Fld Z h1 a "sealgram/record/DropCounts" "mCounts" "[J" .null := D1 (Or.inr (wd hw 33 rfl)) (ty := .array .long) (by decide)
    refine B.callI 36 rfl at_33 rfl (wd hw 4 rfl) (wd hw 5 rfl) (wd hw 3 rfl) (wd hw 6 rfl) (by decide) [] [(.ref a)] (rm_init l Z a0 hw a v a_REPLAYED a_TOO_OLD a_BAD_TAG a_MALFORMED a_WRONG_EPOCH h1 (S.ext X1) (A.ext X1) (E.ext X1) A1 F1) rfl rfl pd___V rfl rfl 1 rfl (by decide) (by decide) (by decide) (by decide) (fun x z => Or.inr (by cases List.mem_singleton.mp z; exact ga)) ?_
    rintro _ h2 K2 ⟨rfl, Ea, mc, gm, Fm, Am⟩
    show B.G h2 3 11 (mkF m 36 #[.val (.int p1), .val (.int p2), .val (.int p3), .val (.int p4), .val (.int (Int32.ofNat ka)), .val (.int (Int32.ofNat kb)), .val (.int (Int32.ofNat kc)), .val (.int (3 : Int32)), .unset, .unset] [(.ref a)])
    have gm0 : h0.size ≤ mc := Nat.le_trans X1.1 gm
    have ne : a ≠ mc := fun q => absurd A1.lt (by rw [q]; exact Nat.not_lt.mpr gm)
    refine B.astore 38 rfl at_36 rfl #[.val (.int p1), .val (.int p2), .val (.int p3), .val (.int p4), .val (.int (Int32.ofNat ka)), .val (.int (Int32.ofNat kb)), .val (.int (Int32.ofNat kc)), .val (.int (3 : Int32)), .val (.ref a), .unset] rfl ?_
    refine B.iload 40 rfl at_38 rfl ?_
    refine B.iconst 41 rfl (1 : Int32) at_40 rfl ?_
    refine B.icmp_lt 54 44 rfl (by decide) rfl at_41 (fun c41 => ?_) (fun c41 => ?_)
    · exact absurd c41 (by decide)
    · refine B.aload 46 rfl at_44 rfl rfl ?_
      refine B.iload 48 rfl at_46 rfl ?_
      refine B.olds fun Y40 => ?_
      refine B.callS 51 rfl at_48 (wd hw 34 rfl) (wd hw 35 rfl) (wd hw 36 rfl) (wd hw 37 rfl) (by decide) [(.int (Int32.ofNat ka))] [(.ref a)] (rm_reason l Z a0 hw ka a_REPLAYED a_TOO_OLD a_BAD_TAG a_MALFORMED a_WRONG_EPOCH h2 hka (S_REPLAYED.ext Y40) (E_REPLAYED.ext Y40) (F_REPLAYED.ext Y40) (S_TOO_OLD.ext Y40) (E_TOO_OLD.ext Y40) (F_TOO_OLD.ext Y40) (S_BAD_TAG.ext Y40) (E_BAD_TAG.ext Y40) (F_BAD_TAG.ext Y40) (S_MALFORMED.ext Y40) (E_MALFORMED.ext Y40) (F_MALFORMED.ext Y40) (S_WRONG_EPOCH.ext Y40) (E_WRONG_EPOCH.ext Y40) (F_WRONG_EPOCH.ext Y40)) rfl rfl pd__I_Lsealgram_record_DropReason_ rfl rfl 1 rfl (by decide) (by decide) (by decide) (by decide) (fun _ q => nomatch q) ?_
      rintro _ _ - ⟨r41, rfl, rfl, Er41, Fr41⟩
      show B.G h2 3 11 (mkF m 51 #[.val (.int p1), .val (.int p2), .val (.int p3), .val (.int p4), .val (.int (Int32.ofNat ka)), .val (.int (Int32.ofNat kb)), .val (.int (Int32.ofNat kc)), .val (.int (3 : Int32)), .val (.ref a), .unset] [(.ref r41), (.ref a)])
      refine B.callV 54 rfl at_51 (wd hw 39 rfl) (wd hw 40 rfl) (wd hw 42 rfl) (wd hw 41 rfl) (wd hw 3 rfl) (wd hw 43 rfl) (by decide) Ea [(.ref r41)] [] (rm_add l Z a0 hw a mc r41 ka (fun _ => 0) h2 hka Ea Fm Am Er41 Fr41) rfl rfl pd__Lsealgram_record_DropReason__V rfl rfl 0 rfl (by decide) (by decide) (by decide) (by decide) (fun x z => Or.inr (by cases List.mem_singleton.mp z; exact gm0)) ?_
      rintro _ hh42 K42 ⟨rfl, Am42⟩
      show B.G hh42 3 11 (mkF m 54 #[.val (.int p1), .val (.int p2), .val (.int p3), .val (.int p4), .val (.int (Int32.ofNat ka)), .val (.int (Int32.ofNat kb)), .val (.int (Int32.ofNat kc)), .val (.int (3 : Int32)), .val (.ref a), .unset] [])
      have Ea42 := Ea.keep K42
      have Fm42 := Fm.keep K42 (ninS ne nin0)
      refine B.iload 56 rfl at_54 rfl ?_
      refine B.iconst 57 rfl (2 : Int32) at_56 rfl ?_
      refine B.icmp_lt 70 60 rfl (by decide) rfl at_57 (fun c57 => ?_) (fun c57 => ?_)
      · exact absurd c57 (by decide)
      · refine B.aload 62 rfl at_60 rfl rfl ?_
        refine B.iload 64 rfl at_62 rfl ?_
        refine B.olds fun Y43 => ?_
        refine B.callS 67 rfl at_64 (wd hw 34 rfl) (wd hw 35 rfl) (wd hw 36 rfl) (wd hw 37 rfl) (by decide) [(.int (Int32.ofNat kb))] [(.ref a)] (rm_reason l Z a0 hw kb a_REPLAYED a_TOO_OLD a_BAD_TAG a_MALFORMED a_WRONG_EPOCH hh42 hkb (S_REPLAYED.ext Y43) (E_REPLAYED.ext Y43) (F_REPLAYED.ext Y43) (S_TOO_OLD.ext Y43) (E_TOO_OLD.ext Y43) (F_TOO_OLD.ext Y43) (S_BAD_TAG.ext Y43) (E_BAD_TAG.ext Y43) (F_BAD_TAG.ext Y43) (S_MALFORMED.ext Y43) (E_MALFORMED.ext Y43) (F_MALFORMED.ext Y43) (S_WRONG_EPOCH.ext Y43) (E_WRONG_EPOCH.ext Y43) (F_WRONG_EPOCH.ext Y43)) rfl rfl pd__I_Lsealgram_record_DropReason_ rfl rfl 1 rfl (by decide) (by decide) (by decide) (by decide) (fun _ q => nomatch q) ?_
        rintro _ _ - ⟨r44, rfl, rfl, Er44, Fr44⟩
        show B.G hh42 3 11 (mkF m 67 #[.val (.int p1), .val (.int p2), .val (.int p3), .val (.int p4), .val (.int (Int32.ofNat ka)), .val (.int (Int32.ofNat kb)), .val (.int (Int32.ofNat kc)), .val (.int (3 : Int32)), .val (.ref a), .unset] [(.ref r44), (.ref a)])
        refine B.callV 70 rfl at_67 (wd hw 39 rfl) (wd hw 40 rfl) (wd hw 42 rfl) (wd hw 41 rfl) (wd hw 3 rfl) (wd hw 43 rfl) (by decide) Ea42 [(.ref r44)] [] (rm_add l Z a0 hw a mc r44 kb (own_inc (fun _ => 0) ka) hh42 hkb Ea42 Fm42 Am42 Er44 Fr44) rfl rfl pd__Lsealgram_record_DropReason__V rfl rfl 0 rfl (by decide) (by decide) (by decide) (by decide) (fun x z => Or.inr (by cases List.mem_singleton.mp z; exact gm0)) ?_
        rintro _ hh45 K45 ⟨rfl, Am45⟩
        show B.G hh45 3 11 (mkF m 70 #[.val (.int p1), .val (.int p2), .val (.int p3), .val (.int p4), .val (.int (Int32.ofNat ka)), .val (.int (Int32.ofNat kb)), .val (.int (Int32.ofNat kc)), .val (.int (3 : Int32)), .val (.ref a), .unset] [])
        have Ea45 := Ea42.keep K45
        have Fm45 := Fm42.keep K45 (ninS ne nin0)
        refine B.iload 72 rfl at_70 rfl ?_
        refine B.iconst 73 rfl (3 : Int32) at_72 rfl ?_
        refine B.icmp_lt 86 76 rfl (by decide) rfl at_73 (fun c73 => ?_) (fun c73 => ?_)
        · exact absurd c73 (by decide)
        · refine B.aload 78 rfl at_76 rfl rfl ?_
          refine B.iload 80 rfl at_78 rfl ?_
          refine B.olds fun Y46 => ?_
          refine B.callS 83 rfl at_80 (wd hw 34 rfl) (wd hw 35 rfl) (wd hw 36 rfl) (wd hw 37 rfl) (by decide) [(.int (Int32.ofNat kc))] [(.ref a)] (rm_reason l Z a0 hw kc a_REPLAYED a_TOO_OLD a_BAD_TAG a_MALFORMED a_WRONG_EPOCH hh45 hkc (S_REPLAYED.ext Y46) (E_REPLAYED.ext Y46) (F_REPLAYED.ext Y46) (S_TOO_OLD.ext Y46) (E_TOO_OLD.ext Y46) (F_TOO_OLD.ext Y46) (S_BAD_TAG.ext Y46) (E_BAD_TAG.ext Y46) (F_BAD_TAG.ext Y46) (S_MALFORMED.ext Y46) (E_MALFORMED.ext Y46) (F_MALFORMED.ext Y46) (S_WRONG_EPOCH.ext Y46) (E_WRONG_EPOCH.ext Y46) (F_WRONG_EPOCH.ext Y46)) rfl rfl pd__I_Lsealgram_record_DropReason_ rfl rfl 1 rfl (by decide) (by decide) (by decide) (by decide) (fun _ q => nomatch q) ?_
          rintro _ _ - ⟨r47, rfl, rfl, Er47, Fr47⟩
          show B.G hh45 3 11 (mkF m 83 #[.val (.int p1), .val (.int p2), .val (.int p3), .val (.int p4), .val (.int (Int32.ofNat ka)), .val (.int (Int32.ofNat kb)), .val (.int (Int32.ofNat kc)), .val (.int (3 : Int32)), .val (.ref a), .unset] [(.ref r47), (.ref a)])
          refine B.callV 86 rfl at_83 (wd hw 39 rfl) (wd hw 40 rfl) (wd hw 42 rfl) (wd hw 41 rfl) (wd hw 3 rfl) (wd hw 43 rfl) (by decide) Ea45 [(.ref r47)] [] (rm_add l Z a0 hw a mc r47 kc (own_inc (own_inc (fun _ => 0) ka) kb) hh45 hkc Ea45 Fm45 Am45 Er47 Fr47) rfl rfl pd__Lsealgram_record_DropReason__V rfl rfl 0 rfl (by decide) (by decide) (by decide) (by decide) (fun x z => Or.inr (by cases List.mem_singleton.mp z; exact gm0)) ?_
          rintro _ hh48 K48 ⟨rfl, Am48⟩
          show B.G hh48 3 11 (mkF m 86 #[.val (.int p1), .val (.int p2), .val (.int p3), .val (.int p4), .val (.int (Int32.ofNat ka)), .val (.int (Int32.ofNat kb)), .val (.int (Int32.ofNat kc)), .val (.int (3 : Int32)), .val (.ref a), .unset] [])
          have Ea48 := Ea45.keep K48
          have Fm48 := Fm45.keep K48 (ninS ne nin0)
          refine B.iconst 87 rfl (1 : Int32) at_86 rfl ?_
          refine B.istore 89 rfl at_87 #[.val (.int p1), .val (.int p2), .val (.int p3), .val (.int p4), .val (.int (Int32.ofNat ka)), .val (.int (Int32.ofNat kb)), .val (.int (Int32.ofNat kc)), .val (.int (3 : Int32)), .val (.ref a), .val (.int (1 : Int32))] rfl ?_
          refine B.iload 91 rfl at_89 rfl ?_
          refine B.if0_eq 123 94 rfl (by decide) rfl at_91 (fun c91 => ?_) (fun c91 => ?_)
          · exact absurd c91 (by decide)
          · refine B.aload 96 rfl at_94 rfl rfl ?_
            refine B.iconst 97 rfl (0 : Int32) at_96 rfl ?_
            refine B.olds fun Y49 => ?_
            refine B.callS 100 rfl at_97 (wd hw 34 rfl) (wd hw 35 rfl) (wd hw 36 rfl) (wd hw 37 rfl) (by decide) [(.int (0 : Int32))] [(.ref a)] (rm_reason l Z a0 hw 0 a_REPLAYED a_TOO_OLD a_BAD_TAG a_MALFORMED a_WRONG_EPOCH hh48 (by decide) (S_REPLAYED.ext Y49) (E_REPLAYED.ext Y49) (F_REPLAYED.ext Y49) (S_TOO_OLD.ext Y49) (E_TOO_OLD.ext Y49) (F_TOO_OLD.ext Y49) (S_BAD_TAG.ext Y49) (E_BAD_TAG.ext Y49) (F_BAD_TAG.ext Y49) (S_MALFORMED.ext Y49) (E_MALFORMED.ext Y49) (F_MALFORMED.ext Y49) (S_WRONG_EPOCH.ext Y49) (E_WRONG_EPOCH.ext Y49) (F_WRONG_EPOCH.ext Y49)) rfl rfl pd__I_Lsealgram_record_DropReason_ rfl rfl 1 rfl (by decide) (by decide) (by decide) (by decide) (fun _ q => nomatch q) ?_
            rintro _ _ - ⟨r50, rfl, rfl, Er50, Fr50⟩
            show B.G hh48 3 11 (mkF m 100 #[.val (.int p1), .val (.int p2), .val (.int p3), .val (.int p4), .val (.int (Int32.ofNat ka)), .val (.int (Int32.ofNat kb)), .val (.int (Int32.ofNat kc)), .val (.int (3 : Int32)), .val (.ref a), .val (.int (1 : Int32))] [(.ref r50), (.ref a)])
            refine B.callV 103 rfl at_100 (wd hw 53 rfl) (wd hw 54 rfl) (wd hw 56 rfl) (wd hw 55 rfl) (wd hw 3 rfl) (wd hw 57 rfl) (by decide) Ea48 [(.ref r50)] [] (rm_count l Z a0 hw a mc r50 0 (own_inc (own_inc (own_inc (fun _ => 0) ka) kb) kc) hh48 (by decide) Ea48 Fm48 Am48 Er50 Fr50) rfl rfl pd__Lsealgram_record_DropReason__J rfl rfl 0 rfl (by decide) (by decide) (by decide) (by decide) (fun _ q => nomatch q) ?_
            rintro _ _ - ⟨rfl, rfl⟩
            show B.G hh48 3 11 (mkF m 103 #[.val (.int p1), .val (.int p2), .val (.int p3), .val (.int p4), .val (.int (Int32.ofNat ka)), .val (.int (Int32.ofNat kb)), .val (.int (Int32.ofNat kc)), .val (.int (3 : Int32)), .val (.ref a), .val (.int (1 : Int32))] [(.long ((own_inc (own_inc (own_inc (fun _ => 0) ka) kb) kc) 0))])
            refine B.iconst 104 rfl (0 : Int32) at_103 rfl ?_
            refine B.iload 106 rfl at_104 rfl ?_
            refine B.iload 108 rfl at_106 rfl ?_
            refine B.iload 110 rfl at_108 rfl ?_
            refine B.iload 112 rfl at_110 rfl ?_
            refine B.callS 115 rfl at_112 (wd hw 58 rfl) (wd hw 59 rfl) (wd hw 36 rfl) (wd hw 60 rfl) (by decide) [(.int (0 : Int32)), (.int (3 : Int32)), (.int (Int32.ofNat ka)), (.int (Int32.ofNat kb)), (.int (Int32.ofNat kc))] [(.long ((own_inc (own_inc (own_inc (fun _ => 0) ka) kb) kc) 0))] (rm_exp l Z a0 hw (0 : Int32) (3 : Int32) (Int32.ofNat ka) (Int32.ofNat kb) (Int32.ofNat kc) hh48) rfl rfl pd__IIIII_J rfl rfl 2 rfl (by decide) (by decide) (by decide) (by decide) (fun _ q => nomatch q) ?_
            rintro _ _ - ⟨rfl, rfl⟩
            show B.G hh48 3 11 (mkF m 115 #[.val (.int p1), .val (.int p2), .val (.int p3), .val (.int p4), .val (.int (Int32.ofNat ka)), .val (.int (Int32.ofNat kb)), .val (.int (Int32.ofNat kc)), .val (.int (3 : Int32)), .val (.ref a), .val (.int (1 : Int32))] [(.long (own_e (0 : Int32) (3 : Int32) (Int32.ofNat ka) (Int32.ofNat kb) (Int32.ofNat kc))), (.long ((own_inc (own_inc (own_inc (fun _ => 0) ka) kb) kc) 0))])
            refine B.lcmp 116 rfl at_115 ?_
            refine B.lif_ne 123 119 rfl (by decide) rfl at_116 (fun c116 => ?_) (fun c116 => ?_)
            · exact absurd (by simp [own_e, own_inc, (show Int32.ofNat ka = (0 : Int32) ↔ ka = 0 from own_lit ka 0 hka (by decide)), (@eq_comm Nat 0 ka), (show Int32.ofNat kb = (0 : Int32) ↔ kb = 0 from own_lit kb 0 hkb (by decide)), (@eq_comm Nat 0 kb), (show Int32.ofNat kc = (0 : Int32) ↔ kc = 0 from own_lit kc 0 hkc (by decide)), (@eq_comm Nat 0 kc)]) c116
            · refine B.iconst 120 rfl (1 : Int32) at_119 rfl ?_
              refine B.goto 124 rfl (by decide) at_120 ?_
              refine B.istore 126 rfl at_124 #[.val (.int p1), .val (.int p2), .val (.int p3), .val (.int p4), .val (.int (Int32.ofNat ka)), .val (.int (Int32.ofNat kb)), .val (.int (Int32.ofNat kc)), .val (.int (3 : Int32)), .val (.ref a), .val (.int (1 : Int32))] rfl ?_
              refine B.iload 128 rfl at_126 rfl ?_
              refine B.if0_eq 160 131 rfl (by decide) rfl at_128 (fun c128 => ?_) (fun c128 => ?_)
              · exact absurd c128 (by decide)
              · refine B.aload 133 rfl at_131 rfl rfl ?_
                refine B.iconst 134 rfl (1 : Int32) at_133 rfl ?_
                refine B.olds fun Y51 => ?_
                refine B.callS 137 rfl at_134 (wd hw 34 rfl) (wd hw 35 rfl) (wd hw 36 rfl) (wd hw 37 rfl) (by decide) [(.int (1 : Int32))] [(.ref a)] (rm_reason l Z a0 hw 1 a_REPLAYED a_TOO_OLD a_BAD_TAG a_MALFORMED a_WRONG_EPOCH hh48 (by decide) (S_REPLAYED.ext Y51) (E_REPLAYED.ext Y51) (F_REPLAYED.ext Y51) (S_TOO_OLD.ext Y51) (E_TOO_OLD.ext Y51) (F_TOO_OLD.ext Y51) (S_BAD_TAG.ext Y51) (E_BAD_TAG.ext Y51) (F_BAD_TAG.ext Y51) (S_MALFORMED.ext Y51) (E_MALFORMED.ext Y51) (F_MALFORMED.ext Y51) (S_WRONG_EPOCH.ext Y51) (E_WRONG_EPOCH.ext Y51) (F_WRONG_EPOCH.ext Y51)) rfl rfl pd__I_Lsealgram_record_DropReason_ rfl rfl 1 rfl (by decide) (by decide) (by decide) (by decide) (fun _ q => nomatch q) ?_
                rintro _ _ - ⟨r52, rfl, rfl, Er52, Fr52⟩
                show B.G hh48 3 11 (mkF m 137 #[.val (.int p1), .val (.int p2), .val (.int p3), .val (.int p4), .val (.int (Int32.ofNat ka)), .val (.int (Int32.ofNat kb)), .val (.int (Int32.ofNat kc)), .val (.int (3 : Int32)), .val (.ref a), .val (.int (1 : Int32))] [(.ref r52), (.ref a)])
                refine B.callV 140 rfl at_137 (wd hw 53 rfl) (wd hw 54 rfl) (wd hw 56 rfl) (wd hw 55 rfl) (wd hw 3 rfl) (wd hw 57 rfl) (by decide) Ea48 [(.ref r52)] [] (rm_count l Z a0 hw a mc r52 1 (own_inc (own_inc (own_inc (fun _ => 0) ka) kb) kc) hh48 (by decide) Ea48 Fm48 Am48 Er52 Fr52) rfl rfl pd__Lsealgram_record_DropReason__J rfl rfl 0 rfl (by decide) (by decide) (by decide) (by decide) (fun _ q => nomatch q) ?_
                rintro _ _ - ⟨rfl, rfl⟩
                show B.G hh48 3 11 (mkF m 140 #[.val (.int p1), .val (.int p2), .val (.int p3), .val (.int p4), .val (.int (Int32.ofNat ka)), .val (.int (Int32.ofNat kb)), .val (.int (Int32.ofNat kc)), .val (.int (3 : Int32)), .val (.ref a), .val (.int (1 : Int32))] [(.long ((own_inc (own_inc (own_inc (fun _ => 0) ka) kb) kc) 1))])
                refine B.iconst 141 rfl (1 : Int32) at_140 rfl ?_
                refine B.iload 143 rfl at_141 rfl ?_
                refine B.iload 145 rfl at_143 rfl ?_
                refine B.iload 147 rfl at_145 rfl ?_
                refine B.iload 149 rfl at_147 rfl ?_
                refine B.callS 152 rfl at_149 (wd hw 58 rfl) (wd hw 59 rfl) (wd hw 36 rfl) (wd hw 60 rfl) (by decide) [(.int (1 : Int32)), (.int (3 : Int32)), (.int (Int32.ofNat ka)), (.int (Int32.ofNat kb)), (.int (Int32.ofNat kc))] [(.long ((own_inc (own_inc (own_inc (fun _ => 0) ka) kb) kc) 1))] (rm_exp l Z a0 hw (1 : Int32) (3 : Int32) (Int32.ofNat ka) (Int32.ofNat kb) (Int32.ofNat kc) hh48) rfl rfl pd__IIIII_J rfl rfl 2 rfl (by decide) (by decide) (by decide) (by decide) (fun _ q => nomatch q) ?_
                rintro _ _ - ⟨rfl, rfl⟩
                show B.G hh48 3 11 (mkF m 152 #[.val (.int p1), .val (.int p2), .val (.int p3), .val (.int p4), .val (.int (Int32.ofNat ka)), .val (.int (Int32.ofNat kb)), .val (.int (Int32.ofNat kc)), .val (.int (3 : Int32)), .val (.ref a), .val (.int (1 : Int32))] [(.long (own_e (1 : Int32) (3 : Int32) (Int32.ofNat ka) (Int32.ofNat kb) (Int32.ofNat kc))), (.long ((own_inc (own_inc (own_inc (fun _ => 0) ka) kb) kc) 1))])
                refine B.lcmp 153 rfl at_152 ?_
                refine B.lif_ne 160 156 rfl (by decide) rfl at_153 (fun c153 => ?_) (fun c153 => ?_)
                · exact absurd (by simp [own_e, own_inc, (show Int32.ofNat ka = (1 : Int32) ↔ ka = 1 from own_lit ka 1 hka (by decide)), (@eq_comm Nat 1 ka), (show Int32.ofNat kb = (1 : Int32) ↔ kb = 1 from own_lit kb 1 hkb (by decide)), (@eq_comm Nat 1 kb), (show Int32.ofNat kc = (1 : Int32) ↔ kc = 1 from own_lit kc 1 hkc (by decide)), (@eq_comm Nat 1 kc)]) c153
                · refine B.iconst 157 rfl (1 : Int32) at_156 rfl ?_
                  refine B.goto 161 rfl (by decide) at_157 ?_
                  refine B.istore 163 rfl at_161 #[.val (.int p1), .val (.int p2), .val (.int p3), .val (.int p4), .val (.int (Int32.ofNat ka)), .val (.int (Int32.ofNat kb)), .val (.int (Int32.ofNat kc)), .val (.int (3 : Int32)), .val (.ref a), .val (.int (1 : Int32))] rfl ?_
                  refine B.iload 165 rfl at_163 rfl ?_
                  refine B.if0_eq 197 168 rfl (by decide) rfl at_165 (fun c165 => ?_) (fun c165 => ?_)
                  · exact absurd c165 (by decide)
                  · refine B.aload 170 rfl at_168 rfl rfl ?_
                    refine B.iconst 171 rfl (2 : Int32) at_170 rfl ?_
                    refine B.olds fun Y53 => ?_
                    refine B.callS 174 rfl at_171 (wd hw 34 rfl) (wd hw 35 rfl) (wd hw 36 rfl) (wd hw 37 rfl) (by decide) [(.int (2 : Int32))] [(.ref a)] (rm_reason l Z a0 hw 2 a_REPLAYED a_TOO_OLD a_BAD_TAG a_MALFORMED a_WRONG_EPOCH hh48 (by decide) (S_REPLAYED.ext Y53) (E_REPLAYED.ext Y53) (F_REPLAYED.ext Y53) (S_TOO_OLD.ext Y53) (E_TOO_OLD.ext Y53) (F_TOO_OLD.ext Y53) (S_BAD_TAG.ext Y53) (E_BAD_TAG.ext Y53) (F_BAD_TAG.ext Y53) (S_MALFORMED.ext Y53) (E_MALFORMED.ext Y53) (F_MALFORMED.ext Y53) (S_WRONG_EPOCH.ext Y53) (E_WRONG_EPOCH.ext Y53) (F_WRONG_EPOCH.ext Y53)) rfl rfl pd__I_Lsealgram_record_DropReason_ rfl rfl 1 rfl (by decide) (by decide) (by decide) (by decide) (fun _ q => nomatch q) ?_
                    rintro _ _ - ⟨r54, rfl, rfl, Er54, Fr54⟩
                    show B.G hh48 3 11 (mkF m 174 #[.val (.int p1), .val (.int p2), .val (.int p3), .val (.int p4), .val (.int (Int32.ofNat ka)), .val (.int (Int32.ofNat kb)), .val (.int (Int32.ofNat kc)), .val (.int (3 : Int32)), .val (.ref a), .val (.int (1 : Int32))] [(.ref r54), (.ref a)])
                    refine B.callV 177 rfl at_174 (wd hw 53 rfl) (wd hw 54 rfl) (wd hw 56 rfl) (wd hw 55 rfl) (wd hw 3 rfl) (wd hw 57 rfl) (by decide) Ea48 [(.ref r54)] [] (rm_count l Z a0 hw a mc r54 2 (own_inc (own_inc (own_inc (fun _ => 0) ka) kb) kc) hh48 (by decide) Ea48 Fm48 Am48 Er54 Fr54) rfl rfl pd__Lsealgram_record_DropReason__J rfl rfl 0 rfl (by decide) (by decide) (by decide) (by decide) (fun _ q => nomatch q) ?_
                    rintro _ _ - ⟨rfl, rfl⟩
                    show B.G hh48 3 11 (mkF m 177 #[.val (.int p1), .val (.int p2), .val (.int p3), .val (.int p4), .val (.int (Int32.ofNat ka)), .val (.int (Int32.ofNat kb)), .val (.int (Int32.ofNat kc)), .val (.int (3 : Int32)), .val (.ref a), .val (.int (1 : Int32))] [(.long ((own_inc (own_inc (own_inc (fun _ => 0) ka) kb) kc) 2))])
                    refine B.iconst 178 rfl (2 : Int32) at_177 rfl ?_
                    refine B.iload 180 rfl at_178 rfl ?_
                    refine B.iload 182 rfl at_180 rfl ?_
                    refine B.iload 184 rfl at_182 rfl ?_
                    refine B.iload 186 rfl at_184 rfl ?_
                    refine B.callS 189 rfl at_186 (wd hw 58 rfl) (wd hw 59 rfl) (wd hw 36 rfl) (wd hw 60 rfl) (by decide) [(.int (2 : Int32)), (.int (3 : Int32)), (.int (Int32.ofNat ka)), (.int (Int32.ofNat kb)), (.int (Int32.ofNat kc))] [(.long ((own_inc (own_inc (own_inc (fun _ => 0) ka) kb) kc) 2))] (rm_exp l Z a0 hw (2 : Int32) (3 : Int32) (Int32.ofNat ka) (Int32.ofNat kb) (Int32.ofNat kc) hh48) rfl rfl pd__IIIII_J rfl rfl 2 rfl (by decide) (by decide) (by decide) (by decide) (fun _ q => nomatch q) ?_
                    rintro _ _ - ⟨rfl, rfl⟩
                    show B.G hh48 3 11 (mkF m 189 #[.val (.int p1), .val (.int p2), .val (.int p3), .val (.int p4), .val (.int (Int32.ofNat ka)), .val (.int (Int32.ofNat kb)), .val (.int (Int32.ofNat kc)), .val (.int (3 : Int32)), .val (.ref a), .val (.int (1 : Int32))] [(.long (own_e (2 : Int32) (3 : Int32) (Int32.ofNat ka) (Int32.ofNat kb) (Int32.ofNat kc))), (.long ((own_inc (own_inc (own_inc (fun _ => 0) ka) kb) kc) 2))])
                    refine B.lcmp 190 rfl at_189 ?_
                    refine B.lif_ne 197 193 rfl (by decide) rfl at_190 (fun c190 => ?_) (fun c190 => ?_)
                    · exact absurd (by simp [own_e, own_inc, (show Int32.ofNat ka = (2 : Int32) ↔ ka = 2 from own_lit ka 2 hka (by decide)), (@eq_comm Nat 2 ka), (show Int32.ofNat kb = (2 : Int32) ↔ kb = 2 from own_lit kb 2 hkb (by decide)), (@eq_comm Nat 2 kb), (show Int32.ofNat kc = (2 : Int32) ↔ kc = 2 from own_lit kc 2 hkc (by decide)), (@eq_comm Nat 2 kc)]) c190
                    · refine B.iconst 194 rfl (1 : Int32) at_193 rfl ?_
                      refine B.goto 198 rfl (by decide) at_194 ?_
                      refine B.istore 200 rfl at_198 #[.val (.int p1), .val (.int p2), .val (.int p3), .val (.int p4), .val (.int (Int32.ofNat ka)), .val (.int (Int32.ofNat kb)), .val (.int (Int32.ofNat kc)), .val (.int (3 : Int32)), .val (.ref a), .val (.int (1 : Int32))] rfl ?_
                      refine B.iload 202 rfl at_200 rfl ?_
                      refine B.if0_eq 234 205 rfl (by decide) rfl at_202 (fun c202 => ?_) (fun c202 => ?_)
                      · exact absurd c202 (by decide)
                      · refine B.aload 207 rfl at_205 rfl rfl ?_
                        refine B.iconst 208 rfl (3 : Int32) at_207 rfl ?_
                        refine B.olds fun Y55 => ?_
                        refine B.callS 211 rfl at_208 (wd hw 34 rfl) (wd hw 35 rfl) (wd hw 36 rfl) (wd hw 37 rfl) (by decide) [(.int (3 : Int32))] [(.ref a)] (rm_reason l Z a0 hw 3 a_REPLAYED a_TOO_OLD a_BAD_TAG a_MALFORMED a_WRONG_EPOCH hh48 (by decide) (S_REPLAYED.ext Y55) (E_REPLAYED.ext Y55) (F_REPLAYED.ext Y55) (S_TOO_OLD.ext Y55) (E_TOO_OLD.ext Y55) (F_TOO_OLD.ext Y55) (S_BAD_TAG.ext Y55) (E_BAD_TAG.ext Y55) (F_BAD_TAG.ext Y55) (S_MALFORMED.ext Y55) (E_MALFORMED.ext Y55) (F_MALFORMED.ext Y55) (S_WRONG_EPOCH.ext Y55) (E_WRONG_EPOCH.ext Y55) (F_WRONG_EPOCH.ext Y55)) rfl rfl pd__I_Lsealgram_record_DropReason_ rfl rfl 1 rfl (by decide) (by decide) (by decide) (by decide) (fun _ q => nomatch q) ?_
                        rintro _ _ - ⟨r56, rfl, rfl, Er56, Fr56⟩
                        show B.G hh48 3 11 (mkF m 211 #[.val (.int p1), .val (.int p2), .val (.int p3), .val (.int p4), .val (.int (Int32.ofNat ka)), .val (.int (Int32.ofNat kb)), .val (.int (Int32.ofNat kc)), .val (.int (3 : Int32)), .val (.ref a), .val (.int (1 : Int32))] [(.ref r56), (.ref a)])
                        refine B.callV 214 rfl at_211 (wd hw 53 rfl) (wd hw 54 rfl) (wd hw 56 rfl) (wd hw 55 rfl) (wd hw 3 rfl) (wd hw 57 rfl) (by decide) Ea48 [(.ref r56)] [] (rm_count l Z a0 hw a mc r56 3 (own_inc (own_inc (own_inc (fun _ => 0) ka) kb) kc) hh48 (by decide) Ea48 Fm48 Am48 Er56 Fr56) rfl rfl pd__Lsealgram_record_DropReason__J rfl rfl 0 rfl (by decide) (by decide) (by decide) (by decide) (fun _ q => nomatch q) ?_
                        rintro _ _ - ⟨rfl, rfl⟩
                        show B.G hh48 3 11 (mkF m 214 #[.val (.int p1), .val (.int p2), .val (.int p3), .val (.int p4), .val (.int (Int32.ofNat ka)), .val (.int (Int32.ofNat kb)), .val (.int (Int32.ofNat kc)), .val (.int (3 : Int32)), .val (.ref a), .val (.int (1 : Int32))] [(.long ((own_inc (own_inc (own_inc (fun _ => 0) ka) kb) kc) 3))])
                        refine B.iconst 215 rfl (3 : Int32) at_214 rfl ?_
                        refine B.iload 217 rfl at_215 rfl ?_
                        refine B.iload 219 rfl at_217 rfl ?_
                        refine B.iload 221 rfl at_219 rfl ?_
                        refine B.iload 223 rfl at_221 rfl ?_
                        refine B.callS 226 rfl at_223 (wd hw 58 rfl) (wd hw 59 rfl) (wd hw 36 rfl) (wd hw 60 rfl) (by decide) [(.int (3 : Int32)), (.int (3 : Int32)), (.int (Int32.ofNat ka)), (.int (Int32.ofNat kb)), (.int (Int32.ofNat kc))] [(.long ((own_inc (own_inc (own_inc (fun _ => 0) ka) kb) kc) 3))] (rm_exp l Z a0 hw (3 : Int32) (3 : Int32) (Int32.ofNat ka) (Int32.ofNat kb) (Int32.ofNat kc) hh48) rfl rfl pd__IIIII_J rfl rfl 2 rfl (by decide) (by decide) (by decide) (by decide) (fun _ q => nomatch q) ?_
                        rintro _ _ - ⟨rfl, rfl⟩
                        show B.G hh48 3 11 (mkF m 226 #[.val (.int p1), .val (.int p2), .val (.int p3), .val (.int p4), .val (.int (Int32.ofNat ka)), .val (.int (Int32.ofNat kb)), .val (.int (Int32.ofNat kc)), .val (.int (3 : Int32)), .val (.ref a), .val (.int (1 : Int32))] [(.long (own_e (3 : Int32) (3 : Int32) (Int32.ofNat ka) (Int32.ofNat kb) (Int32.ofNat kc))), (.long ((own_inc (own_inc (own_inc (fun _ => 0) ka) kb) kc) 3))])
                        refine B.lcmp 227 rfl at_226 ?_
                        refine B.lif_ne 234 230 rfl (by decide) rfl at_227 (fun c227 => ?_) (fun c227 => ?_)
                        · exact absurd (by simp [own_e, own_inc, (show Int32.ofNat ka = (3 : Int32) ↔ ka = 3 from own_lit ka 3 hka (by decide)), (@eq_comm Nat 3 ka), (show Int32.ofNat kb = (3 : Int32) ↔ kb = 3 from own_lit kb 3 hkb (by decide)), (@eq_comm Nat 3 kb), (show Int32.ofNat kc = (3 : Int32) ↔ kc = 3 from own_lit kc 3 hkc (by decide)), (@eq_comm Nat 3 kc)]) c227
                        · refine B.iconst 231 rfl (1 : Int32) at_230 rfl ?_
                          refine B.goto 235 rfl (by decide) at_231 ?_
                          refine B.istore 237 rfl at_235 #[.val (.int p1), .val (.int p2), .val (.int p3), .val (.int p4), .val (.int (Int32.ofNat ka)), .val (.int (Int32.ofNat kb)), .val (.int (Int32.ofNat kc)), .val (.int (3 : Int32)), .val (.ref a), .val (.int (1 : Int32))] rfl ?_
                          refine B.iload 239 rfl at_237 rfl ?_
                          refine B.if0_eq 271 242 rfl (by decide) rfl at_239 (fun c239 => ?_) (fun c239 => ?_)
                          · exact absurd c239 (by decide)
                          · refine B.aload 244 rfl at_242 rfl rfl ?_
                            refine B.iconst 245 rfl (4 : Int32) at_244 rfl ?_
                            refine B.olds fun Y57 => ?_
                            refine B.callS 248 rfl at_245 (wd hw 34 rfl) (wd hw 35 rfl) (wd hw 36 rfl) (wd hw 37 rfl) (by decide) [(.int (4 : Int32))] [(.ref a)] (rm_reason l Z a0 hw 4 a_REPLAYED a_TOO_OLD a_BAD_TAG a_MALFORMED a_WRONG_EPOCH hh48 (by decide) (S_REPLAYED.ext Y57) (E_REPLAYED.ext Y57) (F_REPLAYED.ext Y57) (S_TOO_OLD.ext Y57) (E_TOO_OLD.ext Y57) (F_TOO_OLD.ext Y57) (S_BAD_TAG.ext Y57) (E_BAD_TAG.ext Y57) (F_BAD_TAG.ext Y57) (S_MALFORMED.ext Y57) (E_MALFORMED.ext Y57) (F_MALFORMED.ext Y57) (S_WRONG_EPOCH.ext Y57) (E_WRONG_EPOCH.ext Y57) (F_WRONG_EPOCH.ext Y57)) rfl rfl pd__I_Lsealgram_record_DropReason_ rfl rfl 1 rfl (by decide) (by decide) (by decide) (by decide) (fun _ q => nomatch q) ?_
                            rintro _ _ - ⟨r58, rfl, rfl, Er58, Fr58⟩
                            show B.G hh48 3 11 (mkF m 248 #[.val (.int p1), .val (.int p2), .val (.int p3), .val (.int p4), .val (.int (Int32.ofNat ka)), .val (.int (Int32.ofNat kb)), .val (.int (Int32.ofNat kc)), .val (.int (3 : Int32)), .val (.ref a), .val (.int (1 : Int32))] [(.ref r58), (.ref a)])
                            refine B.callV 251 rfl at_248 (wd hw 53 rfl) (wd hw 54 rfl) (wd hw 56 rfl) (wd hw 55 rfl) (wd hw 3 rfl) (wd hw 57 rfl) (by decide) Ea48 [(.ref r58)] [] (rm_count l Z a0 hw a mc r58 4 (own_inc (own_inc (own_inc (fun _ => 0) ka) kb) kc) hh48 (by decide) Ea48 Fm48 Am48 Er58 Fr58) rfl rfl pd__Lsealgram_record_DropReason__J rfl rfl 0 rfl (by decide) (by decide) (by decide) (by decide) (fun _ q => nomatch q) ?_
                            rintro _ _ - ⟨rfl, rfl⟩
                            show B.G hh48 3 11 (mkF m 251 #[.val (.int p1), .val (.int p2), .val (.int p3), .val (.int p4), .val (.int (Int32.ofNat ka)), .val (.int (Int32.ofNat kb)), .val (.int (Int32.ofNat kc)), .val (.int (3 : Int32)), .val (.ref a), .val (.int (1 : Int32))] [(.long ((own_inc (own_inc (own_inc (fun _ => 0) ka) kb) kc) 4))])
                            refine B.iconst 252 rfl (4 : Int32) at_251 rfl ?_
                            refine B.iload 254 rfl at_252 rfl ?_
                            refine B.iload 256 rfl at_254 rfl ?_
                            refine B.iload 258 rfl at_256 rfl ?_
                            refine B.iload 260 rfl at_258 rfl ?_
                            refine B.callS 263 rfl at_260 (wd hw 58 rfl) (wd hw 59 rfl) (wd hw 36 rfl) (wd hw 60 rfl) (by decide) [(.int (4 : Int32)), (.int (3 : Int32)), (.int (Int32.ofNat ka)), (.int (Int32.ofNat kb)), (.int (Int32.ofNat kc))] [(.long ((own_inc (own_inc (own_inc (fun _ => 0) ka) kb) kc) 4))] (rm_exp l Z a0 hw (4 : Int32) (3 : Int32) (Int32.ofNat ka) (Int32.ofNat kb) (Int32.ofNat kc) hh48) rfl rfl pd__IIIII_J rfl rfl 2 rfl (by decide) (by decide) (by decide) (by decide) (fun _ q => nomatch q) ?_
                            rintro _ _ - ⟨rfl, rfl⟩
                            show B.G hh48 3 11 (mkF m 263 #[.val (.int p1), .val (.int p2), .val (.int p3), .val (.int p4), .val (.int (Int32.ofNat ka)), .val (.int (Int32.ofNat kb)), .val (.int (Int32.ofNat kc)), .val (.int (3 : Int32)), .val (.ref a), .val (.int (1 : Int32))] [(.long (own_e (4 : Int32) (3 : Int32) (Int32.ofNat ka) (Int32.ofNat kb) (Int32.ofNat kc))), (.long ((own_inc (own_inc (own_inc (fun _ => 0) ka) kb) kc) 4))])
                            refine B.lcmp 264 rfl at_263 ?_
                            refine B.lif_ne 271 267 rfl (by decide) rfl at_264 (fun c264 => ?_) (fun c264 => ?_)
                            · exact absurd (by simp [own_e, own_inc, (show Int32.ofNat ka = (4 : Int32) ↔ ka = 4 from own_lit ka 4 hka (by decide)), (@eq_comm Nat 4 ka), (show Int32.ofNat kb = (4 : Int32) ↔ kb = 4 from own_lit kb 4 hkb (by decide)), (@eq_comm Nat 4 kb), (show Int32.ofNat kc = (4 : Int32) ↔ kc = 4 from own_lit kc 4 hkc (by decide)), (@eq_comm Nat 4 kc)]) c264
                            · refine B.iconst 268 rfl (1 : Int32) at_267 rfl ?_
                              refine B.goto 272 rfl (by decide) at_268 ?_
                              refine B.istore 274 rfl at_272 #[.val (.int p1), .val (.int p2), .val (.int p3), .val (.int p4), .val (.int (Int32.ofNat ka)), .val (.int (Int32.ofNat kb)), .val (.int (Int32.ofNat kc)), .val (.int (3 : Int32)), .val (.ref a), .val (.int (1 : Int32))] rfl ?_
                              refine B.iload 276 rfl at_274 rfl ?_
                              refine B.retN (by simp) at_276 (by decide) (by decide) ?_
                              exact rfl
set_option maxRecDepth 65536 in
set_option maxHeartbeats 4000000 in
theorem comes_1 {Post : Tables → Env → Array Value → State → Outcome → State → Prop} (hpost : ∀ tb e args s v u, (limb_1_1.after args s (.returned v) u = true ∧ limb_1_2.after args s (.returned v) u = true ∧ True) → FrameEnd s (.returned v) u (Jvm.fieldLocs frame_1_writes args s ++ Jvm.arrayLocs frame_1_arrays args s ++ Jvm.staticLocs frame_1_statics s) 16 128 → Post tb e args s (.returned v) u) :
    ArmFor flags0 classFile x code maxLocals ret World_1 tables_1 room_1 Calls_1 rest_1 Pre_1 Post := by
  intro l hfl _ _ p e ha hc hk s m args below hf hA hF happ hP
  obtain ⟨hcalls, hrest, hpre⟩ := hP
  obtain ⟨-, -, -, hnamed, -, -, -, hat⟩ := (Spec.applies_iff hf).mp happ
  obtain ⟨hg, hn⟩ := and_e (Cond.before_iff.mp (show (Jvm.Cond.and given_1 narrow_1).before args s = true from hpre))
  obtain ⟨g0, gg0⟩ := and_e hg
  obtain ⟨k0, gg1⟩ := and_e gg0
  obtain ⟨k1, gg2⟩ := and_e gg1
  obtain ⟨k2, gg3⟩ := and_e gg2
  obtain ⟨w0, w1, w2, w3, rfl⟩ : ∃ w0 w1 w2 w3 : Value, args = #[w0, w1, w2, w3] := by
    have hs : args.size = 4 := by simpa [Cond.value, given_1] using g0
    obtain ⟨L⟩ := args
    match L, hs with
    | [w0, w1, w2, w3], _ => exact ⟨w0, w1, w2, w3, rfl⟩
  have hw := fun d (hd : d ∈ tables_1) => atoms_spec (ws := Jvm.Cond.code x code maxLocals ret :: tables_1) hat d (List.mem_cons_of_mem _ hd)
  obtain ⟨i0, ei0⟩ := is_v k0
  obtain rfl : w0 = (.int i0) := Option.some.inj ei0
  obtain ⟨i1, ei1⟩ := is_v k1
  obtain rfl : w1 = (.int i1) := Option.some.inj ei1
  obtain ⟨i2, ei2⟩ := is_v k2
  obtain rfl : w2 = (.int i2) := Option.some.inj ei2
  obtain ⟨i3, ei3⟩ := is_v gg3
  obtain rfl : w3 = (.int i3) := Option.some.inj ei3
  obtain ⟨n0, n0r⟩ := and_e hn
  obtain ⟨n1, n1r⟩ := and_e n0r
  obtain ⟨n2, n2r⟩ := and_e n1r
  obtain ⟨n3, n3r⟩ := and_e n2r
  obtain ⟨n4, n4r⟩ := and_e n3r
  obtain ⟨n5, n5r⟩ := and_e n4r
  obtain ⟨n6, n6r⟩ := and_e n5r
  obtain ⟨n7, n7r⟩ := and_e n6r
  obtain ⟨n8, n8r⟩ := and_e n7r
  obtain ⟨n9, n9r⟩ := and_e n8r
  obtain ⟨n10, n10r⟩ := and_e n9r
  obtain ⟨n11, n11r⟩ := and_e n10r
  obtain ⟨n12, n12r⟩ := and_e n11r
  obtain ⟨n13, n13r⟩ := and_e n12r
  obtain ⟨n14, n14r⟩ := and_e n13r
  obtain ⟨n15, n15r⟩ := and_e n14r
  obtain ⟨n16, n16r⟩ := and_e n15r
  have n17 := n16r
  obtain ⟨a_VALUES, v_VALUES⟩ := exa_v n1
  have E_VALUES := Exa.start v_VALUES n1
  have S_VALUES := Sta.start v_VALUES (Or.inr ⟨wd hw 12 rfl, wd hw 15 rfl⟩)
  obtain ⟨a_REPLAYED, v_REPLAYED⟩ := exa_v n3
  have E_REPLAYED := Exa.start v_REPLAYED n3
  have S_REPLAYED := Sta.start v_REPLAYED (Or.inr ⟨wd hw 12 rfl, wd hw 23 rfl⟩)
  obtain ⟨a_TOO_OLD, v_TOO_OLD⟩ := exa_v n5
  have E_TOO_OLD := Exa.start v_TOO_OLD n5
  have S_TOO_OLD := Sta.start v_TOO_OLD (Or.inr ⟨wd hw 12 rfl, wd hw 24 rfl⟩)
  obtain ⟨a_BAD_TAG, v_BAD_TAG⟩ := exa_v n7
  have E_BAD_TAG := Exa.start v_BAD_TAG n7
  have S_BAD_TAG := Sta.start v_BAD_TAG (Or.inr ⟨wd hw 12 rfl, wd hw 25 rfl⟩)
  obtain ⟨a_MALFORMED, v_MALFORMED⟩ := exa_v n9
  have E_MALFORMED := Exa.start v_MALFORMED n9
  have S_MALFORMED := Sta.start v_MALFORMED (Or.inr ⟨wd hw 12 rfl, wd hw 26 rfl⟩)
  obtain ⟨a_WRONG_EPOCH, v_WRONG_EPOCH⟩ := exa_v n11
  have E_WRONG_EPOCH := Exa.start v_WRONG_EPOCH n11
  have S_WRONG_EPOCH := Sta.start v_WRONG_EPOCH (Or.inr ⟨wd hw 12 rfl, wd hw 27 rfl⟩)
  have F_REPLAYED_ordinal := fld_start v_REPLAYED n13
  have F_TOO_OLD_ordinal := fld_start v_TOO_OLD n14
  have F_BAD_TAG_ordinal := fld_start v_BAD_TAG n15
  have F_MALFORMED_ordinal := fld_start v_MALFORMED n16
  have F_WRONG_EPOCH_ordinal := fld_start v_WRONG_EPOCH n17
  have A_V : Ary s s.heap a_VALUES (.object "sealgram/record/DropReason") [(.ref a_REPLAYED), (.ref a_TOO_OLD), (.ref a_BAD_TAG), (.ref a_MALFORMED), (.ref a_WRONG_EPOCH)] := ary_start v_VALUES n0 n2 rfl (by decide) fun i hi => by
    match i, hi with
    | 0, _ => exact ⟨_, rfl, eval_ref n4 v_REPLAYED⟩
    | 1, _ => exact ⟨_, rfl, eval_ref n6 v_TOO_OLD⟩
    | 2, _ => exact ⟨_, rfl, eval_ref n8 v_BAD_TAG⟩
    | 3, _ => exact ⟨_, rfl, eval_ref n10 v_MALFORMED⟩
    | 4, _ => exact ⟨_, rfl, eval_ref n12 v_WRONG_EPOCH⟩
  obtain ⟨n, o, h1, h2, h3, _, L, rfl, ⟨rfl, N, -⟩, hq⟩ := rm0 l s _ hw tables_1 i0 i1 i2 i3 s.heap a_VALUES a_REPLAYED a_TOO_OLD a_BAD_TAG a_MALFORMED a_WRONG_EPOCH S_VALUES A_V E_VALUES S_REPLAYED E_REPLAYED F_REPLAYED_ordinal S_TOO_OLD E_TOO_OLD F_TOO_OLD_ordinal S_BAD_TAG E_BAD_TAG F_BAD_TAG_ordinal S_MALFORMED E_MALFORMED F_MALFORMED_ordinal S_WRONG_EPOCH E_WRONG_EPOCH F_WRONG_EPOCH_ordinal p e ha hc hk s m _ below hf ((Spec.applies_iff_loose hf).mp happ).1 ⟨rfl, State.Warmed39.refl s, rfl⟩ trivial
  refine ⟨n, _, h1, h2, h3, hpost _ _ _ _ _ _ ⟨Cond.after_iff.mpr rfl, Cond.after_iff.mpr (eq_i res_at (Term.int_eval (1)) rfl), trivial⟩ ⟨hq.1, hq.2.1, (hq.2.2.sift fun y hy => Or.inr ((N y hy).resolve_left (by simp))).mono (by decide) (by decide)⟩⟩
theorem main_1_1 : Claimed_1_1 := comes_1 fun _ _ _ _ _ _ h hF => ⟨h.1, hF⟩
theorem main_1_2 : Claimed_1_2 := comes_1 fun _ _ _ _ _ _ h hF => ⟨h.2.1, hF⟩
end Jvm.Pilot.@@N@@
namespace Jvm.Pilot.@@N@@
open Jvm Jvm.ClassFile Sem Op Lib Jvm.Free Jvm.Stand Jvm.Pilot.@@N@@.Jvm.D
/-! MADE BY PROGRAM (witnessworld.py) out of the Statement's table words and the real class files: 16 classes; the members and pool entries that the words name. The judged class is class 1, her method 3. -/
namespace start1
open Jvm.ClassFile
def u (s : String) : CpInfo := .utf8 (stringToUtf16 s)
/-- a pool by its gaps: so many unusable entries, then the entry; so many at the end -/
def gap : Nat → List CpInfo → List CpInfo
  | 0, r => r
  | n + 1, r => .unusable :: gap n r
def poolList (es : List (Nat × CpInfo)) (last : Nat) : List CpInfo := es.foldr (fun e r => gap e.1 (e.2 :: r)) (gap last [])
def pool (es : List (Nat × CpInfo)) (last : Nat) : Array CpInfo := ⟨poolList es last⟩
def fileOf (pool : Array CpInfo) (this : Nat) (attrs : Array Attribute := #[]) (ms : Array MethodInfo := #[]) (fl : Nat := 33) (sup : Nat := 0) (ifs : Array Nat := #[]) (fds : Array FieldInfo := #[]) : ClassFile where
  minorVersion := 0
  majorVersion := 65
  constantPool := pool
  accessFlags := fl
  thisClass := this
  superClass := sup
  interfaces := ifs
  fields := fds
  methods := ms
  attributes := attrs
def plain (name : String) (sup : Option ClassId) : Class where
  name := name
  kind := .ordinary
  loader := none
  accessFlags := 33
  super := sup
  interfaces := #[]
  cf := none
  fields := #[]
  methods := #[]
  instanceTypes := #[]
  staticTypes := #[]
  resolved := #[]
  callSites := []
  init := .initialized
  statics := none
  mirror := none

def pool0 : Array CpInfo := pool [(5, u "<init>"), (0, u "()V"), (1, .class_ 10), (1, u "java/lang/Object"), (85, u "clone"), (0, u "()Ljava/lang/Object;")] 26

def k0c0 : Code := { maxStack := 0, maxLocals := 1, code := object_method_1_code, exceptionTable := #[], attributes := #[] }
def k0m0 : Method := { name := "<init>", desc := "()V", sig := { parameters := [], returnType := none }, accessFlags := 1, code := some k0c0 }
def k0m1 : Method := { name := "clone", desc := "()Ljava/lang/Object;", sig := { parameters := [], returnType := some (.object "java/lang/Object") }, accessFlags := 260, code := none }
/-- java/lang/Object -/
def k0 : Class := { plain "java/lang/Object" none with
  accessFlags := 33
  interfaces := #[]
  cf := some (fileOf pool0 8 #[] #[{ accessFlags := 1, nameIndex := 5, descriptorIndex := 6, attributes := #[] }, { accessFlags := 260, nameIndex := 96, descriptorIndex := 97, attributes := #[] }] 33 0 #[] #[])
  fields := #[]
  methods := #[k0m0, k0m1]
  instanceTypes := #[]
  staticTypes := #[]
  resolved := Array.replicate 124 none
  statics := none }

def pool1 : Array CpInfo := pool [(2, .class_ 4), (0, .nameAndType 5 6), (0, u "java/lang/Object"), (0, u "<init>"), (0, u "()V"), (0, .fieldref 8 9), (0, .class_ 10), (0, .nameAndType 11 12), (0, u "sealgram/record/DropReason"), (0, u "REPLAYED"), (0, u "Lsealgram/record/DropReason;"), (0, .fieldref 8 14), (0, .nameAndType 15 12), (0, u "TOO_OLD"), (0, .fieldref 8 17), (0, .nameAndType 18 12), (0, u "BAD_TAG"), (0, .fieldref 8 20), (0, .nameAndType 21 12), (0, u "MALFORMED"), (0, .fieldref 8 23), (0, .nameAndType 24 12), (0, u "WRONG_EPOCH"), (0, .integer 2147483647), (0, .class_ 27), (0, u "sealgram/record/DropCounts"), (0, .methodref 26 3), (0, .methodref 30 31), (0, .class_ 32), (0, .nameAndType 33 34), (0, u "sealgram/record/DropCountsAdd44PinLaw"), (0, u "reasonOf"), (0, u "(I)Lsealgram/record/DropReason;"), (0, .methodref 26 36), (0, .nameAndType 37 38), (0, u "add"), (0, u "(Lsealgram/record/DropReason;)V"), (0, .methodref 26 40), (0, .nameAndType 41 42), (0, u "count"), (0, u "(Lsealgram/record/DropReason;)J"), (0, .methodref 30 44), (0, .nameAndType 45 46), (0, u "expected"), (0, u "(IIIII)J"), (3, u "law"), (0, u "(IIII)Z")] 2

def k1m0 : Method := { name := "<init>", desc := "()V", sig := { parameters := [], returnType := none }, accessFlags := 1, code := none }
def k1c1 : Code := { maxStack := 2, maxLocals := 1, code := method_2_code, exceptionTable := #[], attributes := #[] }
def k1m1 : Method := { name := "reasonOf", desc := "(I)Lsealgram/record/DropReason;", sig := { parameters := [.int], returnType := some (.object "sealgram/record/DropReason") }, accessFlags := 10, code := some k1c1 }
def k1c2 : Code := { maxStack := 4, maxLocals := 7, code := method_3_code, exceptionTable := #[], attributes := #[] }
def k1m2 : Method := { name := "expected", desc := "(IIIII)J", sig := { parameters := [.int, .int, .int, .int, .int], returnType := some .long }, accessFlags := 10, code := some k1c2 }
def k1c3 : Code := { maxStack := 7, maxLocals := 10, code := code, exceptionTable := #[], attributes := #[] }
def k1m3 : Method := { name := "law", desc := "(IIII)Z", sig := { parameters := [.int, .int, .int, .int], returnType := some .boolean }, accessFlags := 9, code := some k1c3 }
/-- sealgram/record/DropCountsAdd44PinLaw -/
def k1 : Class := { plain "sealgram/record/DropCountsAdd44PinLaw" (some 0) with
  accessFlags := 49
  interfaces := #[]
  cf := some (fileOf pool1 30 #[] #[{ accessFlags := 1, nameIndex := 5, descriptorIndex := 6, attributes := #[] }, { accessFlags := 10, nameIndex := 33, descriptorIndex := 34, attributes := #[] }, { accessFlags := 10, nameIndex := 45, descriptorIndex := 46, attributes := #[] }, { accessFlags := 9, nameIndex := 50, descriptorIndex := 51, attributes := #[] }] 49 2 #[] #[])
  fields := #[]
  methods := #[k1m0, k1m1, k1m2, k1m3]
  instanceTypes := #[]
  staticTypes := #[]
  resolved := Array.replicate 54 none
  statics := none }

def pool2 : Array CpInfo := pool [(1, .methodref 2 3), (0, .class_ 4), (0, .nameAndType 5 6), (0, u "java/lang/Object"), (0, u "<init>"), (0, u "()V"), (0, .methodref 8 9), (0, .class_ 10), (0, .nameAndType 11 12), (0, u "sealgram/record/DropReason"), (0, u "values"), (0, u "()[Lsealgram/record/DropReason;"), (0, .fieldref 14 15), (0, .class_ 16), (0, .nameAndType 17 18), (0, u "sealgram/record/DropCounts"), (0, u "mCounts"), (0, u "[J"), (3, u "add"), (1, .methodref 8 25), (0, .nameAndType 26 27), (0, u "ordinal"), (0, u "()I"), (45, u "count"), (0, u "(Lsealgram/record/DropReason;)J"), (8, u "(Lsealgram/record/DropReason;)V")] 35

def k2c0 : Code := { maxStack := 2, maxLocals := 1, code := prog_94_method_1_code, exceptionTable := #[], attributes := #[] }
def k2m0 : Method := { name := "<init>", desc := "()V", sig := { parameters := [], returnType := none }, accessFlags := 1, code := some k2c0 }
def k2c1 : Code := { maxStack := 6, maxLocals := 2, code := prog_94_method_3_code, exceptionTable := #[], attributes := #[] }
def k2m1 : Method := { name := "add", desc := "(Lsealgram/record/DropReason;)V", sig := { parameters := [(.object "sealgram/record/DropReason")], returnType := none }, accessFlags := 1, code := some k2c1 }
def k2c2 : Code := { maxStack := 2, maxLocals := 2, code := prog_94_method_5_code, exceptionTable := #[], attributes := #[] }
def k2m2 : Method := { name := "count", desc := "(Lsealgram/record/DropReason;)J", sig := { parameters := [(.object "sealgram/record/DropReason")], returnType := some .long }, accessFlags := 1, code := some k2c2 }
/-- sealgram/record/DropCounts -/
def k2 : Class := { plain "sealgram/record/DropCounts" (some 0) with
  accessFlags := 49
  interfaces := #[]
  cf := some (fileOf pool2 14 #[] #[{ accessFlags := 1, nameIndex := 5, descriptorIndex := 6, attributes := #[] }, { accessFlags := 1, nameIndex := 22, descriptorIndex := 83, attributes := #[] }, { accessFlags := 1, nameIndex := 73, descriptorIndex := 74, attributes := #[] }] 49 2 #[] #[{ accessFlags := 18, nameIndex := 17, descriptorIndex := 18, attributes := #[] }])
  fields := #[{ name := "mCounts", type := (.array .long), accessFlags := 18, slot := 0, constantValue := 0 }]
  methods := #[k2m0, k2m1, k2m2]
  instanceTypes := #[(.array .long)]
  staticTypes := #[]
  resolved := Array.replicate 119 none
  statics := none }

def pool3 : Array CpInfo := pool [(1, .class_ 2), (0, u "java/lang/constant/Constable"), (0, .class_ 4), (0, u "java/lang/Object")] 6

/-- java/lang/constant/Constable -/
def k3 : Class := { plain "java/lang/constant/Constable" (some 0) with
  accessFlags := 1537
  interfaces := #[]
  cf := some (fileOf pool3 1 #[] #[] 1537 3 #[] #[])
  fields := #[]
  methods := #[]
  instanceTypes := #[]
  staticTypes := #[]
  resolved := Array.replicate 11 none
  statics := none }

def pool4 : Array CpInfo := pool [(1, .class_ 2), (0, u "java/lang/Comparable"), (0, .class_ 4), (0, u "java/lang/Object")] 7

/-- java/lang/Comparable -/
def k4 : Class := { plain "java/lang/Comparable" (some 0) with
  accessFlags := 1537
  interfaces := #[]
  cf := some (fileOf pool4 1 #[] #[] 1537 3 #[] #[])
  fields := #[]
  methods := #[]
  instanceTypes := #[]
  staticTypes := #[]
  resolved := Array.replicate 12 none
  statics := none }

def pool5 : Array CpInfo := pool [(1, .class_ 2), (0, u "java/io/Serializable"), (0, .class_ 4), (0, u "java/lang/Object")] 2

/-- java/io/Serializable -/
def k5 : Class := { plain "java/io/Serializable" (some 0) with
  accessFlags := 1537
  interfaces := #[]
  cf := some (fileOf pool5 1 #[] #[] 1537 3 #[] #[])
  fields := #[]
  methods := #[]
  instanceTypes := #[]
  staticTypes := #[]
  resolved := Array.replicate 7 none
  statics := none }

def pool6 : Array CpInfo := pool [(2, .class_ 4), (1, u "java/lang/Enum"), (0, u "name"), (0, u "Ljava/lang/String;"), (0, .fieldref 2 8), (0, .nameAndType 9 10), (0, u "ordinal"), (0, u "I"), (1, .class_ 14), (1, u "java/lang/Object"), (4, u "hash"), (86, .class_ 108), (1, u "java/lang/Enum$EnumDesc"), (2, .class_ 112), (0, u "java/lang/constant/Constable"), (0, .class_ 114), (0, u "java/lang/Comparable"), (0, .class_ 116), (0, u "java/io/Serializable"), (9, u "()I")] 77

def k6c0 : Code := { maxStack := 1, maxLocals := 1, code := jdk_37_method_2_code, exceptionTable := #[], attributes := #[] }
def k6m0 : Method := { name := "ordinal", desc := "()I", sig := { parameters := [], returnType := some .int }, accessFlags := 17, code := some k6c0 }
/-- java/lang/Enum -/
def k6 : Class := { plain "java/lang/Enum" (some 0) with
  accessFlags := 1057
  interfaces := #[3, 4, 5]
  cf := some (fileOf pool6 2 #[.nestMembers #[106]] #[{ accessFlags := 17, nameIndex := 9, descriptorIndex := 126, attributes := #[] }] 1057 12 #[111, 113, 115] #[{ accessFlags := 18, nameIndex := 5, descriptorIndex := 6, attributes := #[] }, { accessFlags := 18, nameIndex := 9, descriptorIndex := 10, attributes := #[] }, { accessFlags := 2, nameIndex := 19, descriptorIndex := 10, attributes := #[] }])
  fields := #[{ name := "name", type := (.object "java/lang/String"), accessFlags := 18, slot := 0, constantValue := 0 }, { name := "ordinal", type := .int, accessFlags := 18, slot := 1, constantValue := 0 }, { name := "hash", type := .int, accessFlags := 2, slot := 2, constantValue := 0 }]
  methods := #[k6m0]
  instanceTypes := #[(.object "java/lang/String"), .int, .int]
  staticTypes := #[]
  resolved := Array.replicate 204 none
  statics := none }

def pool7 : Array CpInfo := pool [(1, .class_ 2), (0, u "sealgram/record/DropReason"), (2, u "REPLAYED"), (0, u "Lsealgram/record/DropReason;"), (2, u "TOO_OLD"), (2, u "BAD_TAG"), (2, u "MALFORMED"), (2, u "WRONG_EPOCH"), (0, .fieldref 1 20), (0, .nameAndType 21 22), (0, u "$VALUES"), (0, u "[Lsealgram/record/DropReason;"), (0, .methodref 24 25), (0, .class_ 22), (0, .nameAndType 26 27), (0, u "clone"), (0, u "()Ljava/lang/Object;"), (1, .class_ 31), (1, u "java/lang/Enum"), (8, u "mShortName"), (0, u "Ljava/lang/String;"), (21, u "()[Lsealgram/record/DropReason;"), (0, u "values")] 13

def k7c0 : Code := { maxStack := 1, maxLocals := 0, code := prog_96_method_1_code, exceptionTable := #[], attributes := #[] }
def k7m0 : Method := { name := "values", desc := "()[Lsealgram/record/DropReason;", sig := { parameters := [], returnType := some (.array (.object "sealgram/record/DropReason")) }, accessFlags := 9, code := some k7c0 }
/-- sealgram/record/DropReason -/
def k7 : Class := { plain "sealgram/record/DropReason" (some 6) with
  accessFlags := 16433
  interfaces := #[]
  cf := some (fileOf pool7 1 #[] #[{ accessFlags := 9, nameIndex := 64, descriptorIndex := 63, attributes := #[] }] 16433 29 #[] #[{ accessFlags := 16409, nameIndex := 5, descriptorIndex := 6, attributes := #[] }, { accessFlags := 16409, nameIndex := 9, descriptorIndex := 6, attributes := #[] }, { accessFlags := 16409, nameIndex := 12, descriptorIndex := 6, attributes := #[] }, { accessFlags := 16409, nameIndex := 15, descriptorIndex := 6, attributes := #[] }, { accessFlags := 16409, nameIndex := 18, descriptorIndex := 6, attributes := #[] }, { accessFlags := 18, nameIndex := 40, descriptorIndex := 41, attributes := #[] }, { accessFlags := 4122, nameIndex := 21, descriptorIndex := 22, attributes := #[] }])
  fields := #[{ name := "REPLAYED", type := (.object "sealgram/record/DropReason"), accessFlags := 16409, slot := 0, constantValue := 0 }, { name := "TOO_OLD", type := (.object "sealgram/record/DropReason"), accessFlags := 16409, slot := 1, constantValue := 0 }, { name := "BAD_TAG", type := (.object "sealgram/record/DropReason"), accessFlags := 16409, slot := 2, constantValue := 0 }, { name := "MALFORMED", type := (.object "sealgram/record/DropReason"), accessFlags := 16409, slot := 3, constantValue := 0 }, { name := "WRONG_EPOCH", type := (.object "sealgram/record/DropReason"), accessFlags := 16409, slot := 4, constantValue := 0 }, { name := "mShortName", type := (.object "java/lang/String"), accessFlags := 18, slot := 3, constantValue := 0 }, { name := "$VALUES", type := (.array (.object "sealgram/record/DropReason")), accessFlags := 4122, slot := 5, constantValue := 0 }]
  methods := #[k7m0]
  instanceTypes := #[(.object "java/lang/String"), .int, .int, (.object "java/lang/String")]
  staticTypes := #[(.object "sealgram/record/DropReason"), (.object "sealgram/record/DropReason"), (.object "sealgram/record/DropReason"), (.object "sealgram/record/DropReason"), (.object "sealgram/record/DropReason"), (.array (.object "sealgram/record/DropReason"))]
  resolved := Array.replicate 78 none
  statics := some 0 }

def pool8 : Array CpInfo := pool [(1, .class_ 2), (0, u "java/lang/Cloneable"), (0, .class_ 4), (0, u "java/lang/Object")] 2

/-- java/lang/Cloneable -/
def k8 : Class := { plain "java/lang/Cloneable" (some 0) with
  accessFlags := 1537
  interfaces := #[]
  cf := some (fileOf pool8 1 #[] #[] 1537 3 #[] #[])
  fields := #[]
  methods := #[]
  instanceTypes := #[]
  staticTypes := #[]
  resolved := Array.replicate 7 none
  statics := none }

/-- the primitive byte -/
def k9 : Class := { plain "byte" none with kind := .primitive 'B', accessFlags := 0x411 }
/-- [B -/
def k10 : Class := { plain "[B" (some 0) with kind := .array 9 .byte, interfaces := #[8, 5], accessFlags := 1041 }

/-- the primitive int -/
def k11 : Class := { plain "int" none with kind := .primitive 'I', accessFlags := 0x411 }
/-- [I -/
def k12 : Class := { plain "[I" (some 0) with kind := .array 11 .int, interfaces := #[8, 5], accessFlags := 1041 }

/-- the primitive long -/
def k13 : Class := { plain "long" none with kind := .primitive 'J', accessFlags := 0x411 }
/-- [J -/
def k14 : Class := { plain "[J" (some 0) with kind := .array 13 .long, interfaces := #[8, 5], accessFlags := 1041 }

/-- [Lsealgram/record/DropReason; -/
def k15 : Class := { plain "[Lsealgram/record/DropReason;" (some 0) with kind := .array 7 (.object "sealgram/record/DropReason"), interfaces := #[8, 5], accessFlags := 1041 }

def heap : Heap := #[{ cls := 7, slots := #[.ref 2, .ref 3, .ref 4, .ref 5, .ref 6, .ref 1], vm := .statics 7 },
  { cls := 15, slots := #[.ref 2, .ref 3, .ref 4, .ref 5, .ref 6], vm := .none },
  { cls := 7, slots := #[.null, .int 0, .int 0, .null], vm := .none },
  { cls := 7, slots := #[.null, .int 1, .int 0, .null], vm := .none },
  { cls := 7, slots := #[.null, .int 2, .int 0, .null], vm := .none },
  { cls := 7, slots := #[.null, .int 3, .int 0, .null], vm := .none },
  { cls := 7, slots := #[.null, .int 4, .int 0, .null], vm := .none }]
def classes : Array Class := #[k0, k1, k2, k3, k4, k5, k6, k7, k8, k9, k10, k11, k12, k13, k14, k15]
def interned : List (Array UInt16 × Addr) := []
def slotsUsed : Nat := 31
def theMethod : MethodId := ⟨1, 3⟩
def args0 : Array Value := #[.int 1, .int 2, .int 3, .int 3]
def aboutOver (below : List Frame) : State where
  vm := { classes := classes, interned := interned.toArray }
  heap := heap
  slotsUsed := slotsUsed
  threads := #[{ frames := .invoking theMethod args0 :: below }]
def below0 : List Frame := [.native { method := ⟨0, 0⟩, args := #[] }]
def about1 : State := aboutOver below0
def p0 : Program := .bare "" "" ""
def e0 : Env := launch0.env 0 0 0
theorem w_frames : about1.frames = Frame.invoking theMethod args0 :: below0 := rfl
set_option maxRecDepth 65536 in
theorem w_args : argsFit about1.vm theMethod args0 = true := by decide +kernel
set_option maxRecDepth 65536 in
theorem w_heap : heapFits about1 = true := by decide +kernel
set_option maxRecDepth 65536 in
theorem w_runnable : about1.curStatus? = some .runnable := by decide +kernel
set_option maxRecDepth 65536 in
theorem w_alone : about1.alone = true := by decide +kernel
set_option maxRecDepth 65536 in
theorem w_named : about1.methodNamed? x = some theMethod := by decide +kernel
set_option maxRecDepth 65536 in
theorem w_hears : about1.hears theMethod below0 = true := by decide +kernel
set_option maxRecDepth 65536 in
theorem w_ripe : about1.ripe theMethod args0 below0 = true := by decide +kernel
theorem w_running : about1.status = .running := rfl
set_option maxRecDepth 65536 in
theorem w_room : about1.hasRoom e0.platform room_1 = true :=
  launch0.hasRoom_least _ room_1 (by decide +kernel) (by decide +kernel) (by decide +kernel) (by decide +kernel) (by decide +kernel) (by decide +kernel)
theorem allAtoms_all (ts : List Jvm.Cond) (a : Array Jvm.Value) (st : Jvm.State) : (allAtoms ts).before a st = ts.all (fun c => c.before a st) := by
  induction ts with
  | nil => rfl
  | cons c t ih =>
    show (Jvm.Cond.and c (allAtoms t)).before a st = _
    rw [Jvm.Cond.before_and, ih, List.all_cons]
def words1 : List Jvm.Cond := Jvm.Cond.code x code maxLocals ret :: tables_1
/-- a 'code' word, met by the world's own term for the bytes: nothing is compared byte by byte -/
theorem code_word {y : MethodName} {bytes : ByteArray} {mx : Nat} {rt : Option FieldType} {a : Array Value} {s : State} {m : MethodId} {meth : Method} {c : Code} (h1 : s.methodNamed? y = some m) (h2 : s.vm.method? m = some meth) (h3 : meth.code = some c) (h4 : c.code = bytes)
    (h5 : (c.maxLocals == mx && c.exceptionTable.isEmpty && decide (c.maxStack ≤ mostOperands) && decide (meth.sig.returnType = rt) && !meth.locks && decide (parseMethodDescriptor y.desc = some meth.sig)) = true) : (Jvm.Cond.code y bytes mx rt).before a s = true := by
  simp only [Bool.and_eq_true, beq_iff_eq, Bool.not_eq_true', decide_eq_true_eq] at h5
  obtain ⟨⟨⟨⟨⟨g1, g2⟩, g3⟩, g4⟩, g5⟩, g6⟩ := h5
  simp [Cond.before, Cond.holds, Cond.value, h1, h2, h3, h4, g1, g2, g3, g4, g5, g6]
def isCode : Jvm.Cond → Bool
  | .code _ _ _ _ => true
  | _ => false
theorem all_split {L : List Jvm.Cond} {P : Jvm.Cond → Bool} (h1 : L.all (fun c => isCode c || P c) = true) (h2 : ∀ c ∈ L.filter isCode, P c = true) : L.all P = true := by
  refine List.all_eq_true.mpr fun c hc => ?_
  have h := List.all_eq_true.mp h1 c hc
  rcases Bool.eq_false_or_eq_true (isCode c) with hi | hi
  · exact h2 c (List.mem_filter.mpr ⟨hc, hi⟩)
  · simpa [hi] using h
set_option maxRecDepth 65536 in
theorem w_c0 : (Jvm.Cond.code x code maxLocals ret).before args0 about1 = true := code_word (m := ⟨1, 3⟩) (meth := k1m3) (c := k1c3) (by decide +kernel) rfl rfl rfl (by decide +kernel)
set_option maxRecDepth 65536 in
theorem w_c1 : (Jvm.Cond.code ({ cls := "sealgram/record/DropCounts", name := "<init>", desc := "()V" } : Jvm.MethodName) prog_94_method_1_code (1 : Nat) (Option.none : Option Jvm.ClassFile.FieldType)).before args0 about1 = true := code_word (m := ⟨2, 0⟩) (meth := k2m0) (c := k2c0) (by decide +kernel) rfl rfl rfl (by decide +kernel)
set_option maxRecDepth 65536 in
theorem w_c2 : (Jvm.Cond.code ({ cls := "java/lang/Object", name := "<init>", desc := "()V" } : Jvm.MethodName) object_method_1_code (1 : Nat) (Option.none : Option Jvm.ClassFile.FieldType)).before args0 about1 = true := code_word (m := ⟨0, 0⟩) (meth := k0m0) (c := k0c0) (by decide +kernel) rfl rfl rfl (by decide +kernel)
set_option maxRecDepth 65536 in
theorem w_c3 : (Jvm.Cond.code ({ cls := "sealgram/record/DropReason", name := "values", desc := "()[Lsealgram/record/DropReason;" } : Jvm.MethodName) prog_96_method_1_code (0 : Nat) (Option.some (Jvm.ClassFile.FieldType.array (Jvm.ClassFile.FieldType.object "sealgram/record/DropReason")))).before args0 about1 = true := code_word (m := ⟨7, 0⟩) (meth := k7m0) (c := k7c0) (by decide +kernel) rfl rfl rfl (by decide +kernel)
set_option maxRecDepth 65536 in
theorem w_c4 : (Jvm.Cond.code ({ cls := "sealgram/record/DropCountsAdd44PinLaw", name := "reasonOf", desc := "(I)Lsealgram/record/DropReason;" } : Jvm.MethodName) method_2_code (1 : Nat) (Option.some (Jvm.ClassFile.FieldType.object "sealgram/record/DropReason"))).before args0 about1 = true := code_word (m := ⟨1, 1⟩) (meth := k1m1) (c := k1c1) (by decide +kernel) rfl rfl rfl (by decide +kernel)
set_option maxRecDepth 65536 in
theorem w_c5 : (Jvm.Cond.code ({ cls := "sealgram/record/DropCounts", name := "add", desc := "(Lsealgram/record/DropReason;)V" } : Jvm.MethodName) prog_94_method_3_code (2 : Nat) (Option.none : Option Jvm.ClassFile.FieldType)).before args0 about1 = true := code_word (m := ⟨2, 1⟩) (meth := k2m1) (c := k2c1) (by decide +kernel) rfl rfl rfl (by decide +kernel)
set_option maxRecDepth 65536 in
theorem w_c6 : (Jvm.Cond.code ({ cls := "java/lang/Enum", name := "ordinal", desc := "()I" } : Jvm.MethodName) jdk_37_method_2_code (1 : Nat) (Option.some Jvm.ClassFile.FieldType.int)).before args0 about1 = true := code_word (m := ⟨6, 0⟩) (meth := k6m0) (c := k6c0) (by decide +kernel) rfl rfl rfl (by decide +kernel)
set_option maxRecDepth 65536 in
theorem w_c7 : (Jvm.Cond.code ({ cls := "sealgram/record/DropCounts", name := "count", desc := "(Lsealgram/record/DropReason;)J" } : Jvm.MethodName) prog_94_method_5_code (2 : Nat) (Option.some Jvm.ClassFile.FieldType.long)).before args0 about1 = true := code_word (m := ⟨2, 2⟩) (meth := k2m2) (c := k2c2) (by decide +kernel) rfl rfl rfl (by decide +kernel)
set_option maxRecDepth 65536 in
theorem w_c8 : (Jvm.Cond.code ({ cls := "sealgram/record/DropCountsAdd44PinLaw", name := "expected", desc := "(IIIII)J" } : Jvm.MethodName) method_3_code (7 : Nat) (Option.some Jvm.ClassFile.FieldType.long)).before args0 about1 = true := code_word (m := ⟨1, 2⟩) (meth := k1m2) (c := k1c2) (by decide +kernel) rfl rfl rfl (by decide +kernel)
def codes1 : List Jvm.Cond := [Jvm.Cond.code x code maxLocals ret, Jvm.Cond.code ({ cls := "sealgram/record/DropCounts", name := "<init>", desc := "()V" } : Jvm.MethodName) prog_94_method_1_code (1 : Nat) (Option.none : Option Jvm.ClassFile.FieldType), Jvm.Cond.code ({ cls := "java/lang/Object", name := "<init>", desc := "()V" } : Jvm.MethodName) object_method_1_code (1 : Nat) (Option.none : Option Jvm.ClassFile.FieldType), Jvm.Cond.code ({ cls := "sealgram/record/DropReason", name := "values", desc := "()[Lsealgram/record/DropReason;" } : Jvm.MethodName) prog_96_method_1_code (0 : Nat) (Option.some (Jvm.ClassFile.FieldType.array (Jvm.ClassFile.FieldType.object "sealgram/record/DropReason"))), Jvm.Cond.code ({ cls := "sealgram/record/DropCountsAdd44PinLaw", name := "reasonOf", desc := "(I)Lsealgram/record/DropReason;" } : Jvm.MethodName) method_2_code (1 : Nat) (Option.some (Jvm.ClassFile.FieldType.object "sealgram/record/DropReason")), Jvm.Cond.code ({ cls := "sealgram/record/DropCounts", name := "add", desc := "(Lsealgram/record/DropReason;)V" } : Jvm.MethodName) prog_94_method_3_code (2 : Nat) (Option.none : Option Jvm.ClassFile.FieldType), Jvm.Cond.code ({ cls := "java/lang/Enum", name := "ordinal", desc := "()I" } : Jvm.MethodName) jdk_37_method_2_code (1 : Nat) (Option.some Jvm.ClassFile.FieldType.int), Jvm.Cond.code ({ cls := "sealgram/record/DropCounts", name := "count", desc := "(Lsealgram/record/DropReason;)J" } : Jvm.MethodName) prog_94_method_5_code (2 : Nat) (Option.some Jvm.ClassFile.FieldType.long), Jvm.Cond.code ({ cls := "sealgram/record/DropCountsAdd44PinLaw", name := "expected", desc := "(IIIII)J" } : Jvm.MethodName) method_3_code (7 : Nat) (Option.some Jvm.ClassFile.FieldType.long)]
set_option maxRecDepth 65536 in
theorem codes_eq : words1.filter isCode = codes1 := rfl
theorem w_codes : ∀ c ∈ words1.filter isCode, c.before args0 about1 = true := by
  rw [codes_eq]
  intro c hc
  simp only [codes1, List.mem_cons, List.not_mem_nil, or_false] at hc
  rcases hc with rfl | rfl | rfl | rfl | rfl | rfl | rfl | rfl | rfl
  · exact w_c0
  · exact w_c1
  · exact w_c2
  · exact w_c3
  · exact w_c4
  · exact w_c5
  · exact w_c6
  · exact w_c7
  · exact w_c8
set_option maxRecDepth 65536 in
theorem w_t1 : (words1.take 24).all (fun c => isCode c || c.before args0 about1) = true := by decide +kernel
set_option maxRecDepth 65536 in
theorem w_t2 : ((words1.drop 24).take 24).all (fun c => isCode c || c.before args0 about1) = true := by decide +kernel
set_option maxRecDepth 65536 in
theorem w_t3 : ((words1.drop 24).drop 24).all (fun c => isCode c || c.before args0 about1) = true := by decide +kernel
theorem w_tables : (allAtoms (Jvm.Cond.code x code maxLocals ret :: tables_1)).before args0 about1 = true := by
  rw [allAtoms_all]
  show words1.all (fun c => c.before args0 about1) = true
  refine all_split ?_ w_codes
  rw [← List.take_append_drop 24 words1, List.all_append, w_t1, ← List.take_append_drop 24 (words1.drop 24), List.all_append, w_t2, w_t3]
  rfl
set_option maxRecDepth 65536 in
theorem w_case : (Jvm.Cond.and given_1 narrow_1).before args0 about1 = true := by decide +kernel
theorem w_applies : (headSpec (Jvm.Cond.code x code maxLocals ret :: tables_1) room_1).applies x e0.platform about1 = true :=
  (Spec.applies_iff w_frames).mpr ⟨w_running, w_runnable, w_alone, w_named, w_hears, w_ripe, w_room, w_tables⟩
theorem atStart : AtStart classFile x code maxLocals ret World_1 tables_1 room_1 Calls_1 rest_1 Pre_1 launch0 p0 e0 about1 theMethod args0 below0 :=
  ⟨lists_1, trivial, launch0.admits_env _ _ _, launch0.least_env, fairChoices_fair.cas, fairChoices_fair.clock, w_frames, w_args, w_heap, w_applies, trivial, trivial, w_case⟩
end start1
theorem witness_1 : WitnessClaimed_1 := ⟨start1.p0, start1.e0, start1.about1, start1.theMethod, start1.args0, start1.below0, start1.atStart⟩
end Jvm.Pilot.@@N@@
