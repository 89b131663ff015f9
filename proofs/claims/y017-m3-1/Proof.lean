import JvmDerived
import JvmDerived.Pilot.@@N@@Statement
import JvmDerived.Pilot.@@N@@Code
set_option linter.unusedVariables false
set_option linter.unusedSimpArgs false
@@BLOCK:NumsL.lean.txt@@
namespace Jvm.Own
open Jvm Jvm.ClassFile Sem Op Lib Jvm.Free Jvm.Stand Jvm.LawKit Jvm.RoadKit
/-! THE WALKER's LAYER: 'B.G h cl sl g': from every place where the walk stands over the heap h with the frame g (cl cells, sl slots made), the method returns as its contract says. One law a step, backwards. -/
/-- written places lie in cells of ws or in new cells -/
def Frw (ws : List Addr) (k : Nat) (L : List Loc) : Prop := ∀ y ∈ L, y.base ∈ ws ∨ k ≤ y.base
/-- what a contract says at the end -/
def Qw (C : Option Value → Heap → Prop) (ws : List Addr) (h0 : Heap) (v : Option Value) (h : Heap) (L : List Loc) : Prop := C v h ∧ Frw ws h0.size L ∧ Keep h0 h ws
/-- a contract: called with the arguments as over the heap h0, it returns, as C says, writing in ws or in new cells alone -/
def Met (l : Launch) (Z : State) (y : MethodName) (bytes : ByteArray) (maxL : Nat) (ret : Option FieldType) (wds : List Jvm.Cond) (rm : Room) (as : Array Value) (h0 : Heap) (ws : List Addr) (C : Option Value → Heap → Prop) : Prop :=
  MetFree l y (head1 (Jvm.Cond.code y bytes maxL ret :: wds) rm) (fun a U => a = as ∧ Z.Warmed39 U.vm ∧ U.heap = h0) (fun _ _ _ _ _ => True) (fun _ U o U' => ∃ v L, o = .returned v ∧ Qw C ws h0 v U'.heap L ∧ FrameEnd U o U' L rm.cells rm.slots)
/-- what stands still through a body's walk -/
def Base (p : Program) (l : Launch) (e : Env) (R : Room) (s : State) (m : MethodId) (args : Array Value) (below : List Frame) (meth : Method) (c : Code) (Z : State) (y : MethodName) (bytes : ByteArray) (maxL : Nat) (ret : Option FieldType) (h0 : Heap) (ws : List Addr) (C : Option Value → Heap → Prop) : Prop :=
  p.tables.exec = Jvm.exec ∧ c.code = bytes ∧ c.maxLocals = maxL ∧ Z.Warmed39 s.vm ∧ s.vm.findClass y.cls = some m.cls ∧ meth.sig.returnType = ret ∧ meth.locks = false ∧ meth.name = y.name ∧ s.heap = h0
section Walk
variable {p : Program} {l : Launch} {e : Env} {R : Room} {s : State} {m : MethodId} {args : Array Value} {below : List Frame} {meth : Method} {c : Code} {Z : State} {a0 : Array Value} {y : MethodName} {bytes : ByteArray} {maxL : Nat} {ret : Option FieldType} {h0 : Heap} {ws : List Addr} {C : Option Value → Heap → Prop}
/-- from here the method returns as its contract says -/
def Base.G (B : Base p l e R s m args below meth c Z y bytes maxL ret h0 ws C) (h : Heap) (cl sl : Nat) (g : JFrame) : Prop :=
  ∀ (T : State) (locs : List Loc), Stand p l e R s m args below meth c T locs cl sl → Frw ws h0.size locs → T.heap = h → ∃ (t : State) (o : Outcome), Steps p.tables e below (T.setTop g) t ∧ t.status = .running ∧ Ended t below o ∧ ∃ v L, o = .returned v ∧ Qw C ws h0 v t.heap L ∧ FrameEnd s o t L R.cells R.slots
variable {h : Heap} {cl sl : Nat} {g g' : JFrame} {pc : Nat} {Ls : Array Slot} {st : List Value}
theorem Base.via (B : Base p l e R s m args below meth c Z y bytes maxL ret h0 ws C) (st : ∀ (T t : State), At T m c below → Steps p.tables e below (T.setTop g') t → Steps p.tables e below (T.setTop g) t) (k : B.G h cl sl g') : B.G h cl sl g := fun T locs X N eT => by
  obtain ⟨t, o, q, r⟩ := k T locs X N eT
  exact ⟨t, o, st T t X.here q, r⟩
theorem Base.viaX (B : Base p l e R s m args below meth c Z y bytes maxL ret h0 ws C) (st : ∀ (T t : State) (locs : List Loc), Stand p l e R s m args below meth c T locs cl sl → T.heap = h → Steps p.tables e below (T.setTop g') t → Steps p.tables e below (T.setTop g) t) (k : B.G h cl sl g') : B.G h cl sl g := fun T locs X N eT => by
  obtain ⟨t, o, q, r⟩ := k T locs X N eT
  exact ⟨t, o, st T t locs X eT q, r⟩
theorem Frw.nil (ws : List Addr) (k : Nat) : Frw ws k [] := fun _ q => nomatch q
theorem Frw.app {k : Nat} {L L' : List Loc} (N : Frw ws k L) (N' : Frw ws k L') : Frw ws k (L ++ L') := fun y q => (List.mem_append.mp q).elim (N y) (N' y)
theorem Frw.one {k : Nat} {L : List Loc} {a : Addr} {i : Nat} (N : Frw ws k L) (q : a ∈ ws ∨ k ≤ a) : Frw ws k (L ++ [⟨a, i⟩]) := N.app fun y hy => by cases List.mem_singleton.mp hy; exact q
theorem keep_of {T : State} {locs : List Loc} (X : Stand p l e R s m args below meth c T locs cl sl) (N : Frw ws s.heap.size locs) : Keep s.heap T.heap ws := by
  obtain ⟨-, h1, -, -, -, h2⟩ := X.same
  refine ⟨h1, fun x cc hc hn => ?_, fun x cc hc => ?_⟩
  · obtain ⟨c', e1, e2, e3, e4⟩ := h2 x cc hc
    have hlt := (Array.getElem?_eq_some_iff.mp hc).1
    have q : c'.slots = cc.slots := Array.ext_getElem? fun i => e4 i fun hm => by
      rcases N _ hm with z | z
      · exact hn z
      · exact absurd hlt (Nat.not_lt.mpr z)
    have e1' : T.heap[x]? = some c' := e1
    rw [e1', e2, q]
  · obtain ⟨c', e1, e2, e3, -⟩ := h2 x cc hc
    exact ⟨c', e1, by rw [e2], by rw [e2], e3⟩
theorem Met.walk (hpn : plainFor y = true) {as : Array Value} {rm : Room} {wds : List Jvm.Cond} (hef : ∀ m, entryFrame m as maxL = mkF m 0 Ls [])
    (body : ∀ (p : Program) (e : Env) (s : State) (m : MethodId) (below : List Frame) (meth : Method) (c : Code) (B : Base p l e rm s m as below meth c Z y bytes maxL ret h0 ws C), B.G h0 0 0 (mkF m 0 Ls [])) : Met l Z y bytes maxL ret wds rm as h0 ws C := by
  refine MetFree.of_bodySF hpn hisR ?_
  intro p e s m args below meth c s₁ Bd hml0 hP hK
  obtain ⟨rfl, hZ, hh⟩ := hP
  have X0 : Stand p l e rm s m args below meth c s₁ [] 0 0 := Stand.of_body Bd
  have e0 : s₁.heap = h0 := by rw [← hh, Bd.state]; rfl
  obtain ⟨t, o, q, r⟩ := body p e s m below meth c ⟨Bd.exec, Bd.bytes, hml0, hZ, findClass_of_methodNamed Bd.named, Bd.returns, Bd.notSynchronized, (name_of_methodNamed Bd.named Bd.method).1, hh⟩ s₁ [] X0 (Frw.nil _ _) e0
  exact ⟨t, o, castTop (hef m) q, r⟩
theorem Met.mono {as : Array Value} {rm : Room} {wds : List Jvm.Cond} {C' : Option Value → Heap → Prop} (M : Met l Z y bytes maxL ret wds rm as h0 ws C) (q : ∀ v h, C v h → C' v h) : Met l Z y bytes maxL ret wds rm as h0 ws C' := by
  intro p e ha hc hk s m args below hf happ hP hK
  obtain ⟨n, o, q1, q2, q3, v, L, q4, ⟨r1, r2⟩, q5⟩ := M p e ha hc hk s m args below hf happ hP hK
  exact ⟨n, o, q1, q2, q3, v, L, q4, ⟨q _ _ r1, r2⟩, q5⟩
/-! 1. steps that touch no heap -/
theorem Base.aloadN (B : Base p l e R s m args below meth c Z y bytes maxL ret h0 ws C) (pc' : Nat) (hp : pc' = pc + 1) {i : Fin 4} (hd : decode bytes pc = .ok (.aload_n i, 1)) {v : Value} (hl : Ls[i.val]? = some (.val v)) (hv : v.isRef = true) (k : B.G h cl sl (mkF m pc' Ls (v :: st))) : B.G h cl sl (mkF m pc Ls st) := by
  subst hp; exact B.via (fun T t X r => XS.aloadN X B.1 rfl (hb B.2.1 hd) hl hv r) k
theorem Base.aload (B : Base p l e R s m args below meth c Z y bytes maxL ret h0 ws C) (pc' : Nat) (hp : pc' = pc + 2) {i : Nat} (hd : decode bytes pc = .ok (.aload i, 2)) {v : Value} (hl : Ls[i]? = some (.val v)) (hv : v.isRef = true) (k : B.G h cl sl (mkF m pc' Ls (v :: st))) : B.G h cl sl (mkF m pc Ls st) := by
  subst hp; exact B.via (fun T t X r => XS.aload X B.1 rfl (hb B.2.1 hd) hl hv r) k
theorem Base.iloadN (B : Base p l e R s m args below meth c Z y bytes maxL ret h0 ws C) (pc' : Nat) (hp : pc' = pc + 1) {i : Fin 4} (hd : decode bytes pc = .ok (.iload_n i, 1)) {v : Int32} (hl : Ls[i.val]? = some (.val (.int v))) (k : B.G h cl sl (mkF m pc' Ls (.int v :: st))) : B.G h cl sl (mkF m pc Ls st) := by
  subst hp; exact B.via (fun T t X r => XS.iloadN X B.1 rfl (hb B.2.1 hd) hl r) k
theorem Base.iload (B : Base p l e R s m args below meth c Z y bytes maxL ret h0 ws C) (pc' : Nat) (hp : pc' = pc + 2) {i : Nat} (hd : decode bytes pc = .ok (.iload i, 2)) {v : Int32} (hl : Ls[i]? = some (.val (.int v))) (k : B.G h cl sl (mkF m pc' Ls (.int v :: st))) : B.G h cl sl (mkF m pc Ls st) := by
  subst hp; exact B.via (fun T t X r => XS.iload X B.1 rfl (hb B.2.1 hd) hl r) k
theorem Base.lloadN (B : Base p l e R s m args below meth c Z y bytes maxL ret h0 ws C) (pc' : Nat) (hp : pc' = pc + 1) {i : Fin 4} (hd : decode bytes pc = .ok (.lload_n i, 1)) {v : Int64} (hl : Ls[i.val]? = some (.val (.long v))) (k : B.G h cl sl (mkF m pc' Ls (.long v :: st))) : B.G h cl sl (mkF m pc Ls st) := by
  subst hp; exact B.via (fun T t X r => XT.lloadN X B.1 rfl (hb B.2.1 hd) hl r) k
theorem Base.lload (B : Base p l e R s m args below meth c Z y bytes maxL ret h0 ws C) (pc' : Nat) (hp : pc' = pc + 2) {i : Nat} (hd : decode bytes pc = .ok (.lload i, 2)) {v : Int64} (hl : Ls[i]? = some (.val (.long v))) (k : B.G h cl sl (mkF m pc' Ls (.long v :: st))) : B.G h cl sl (mkF m pc Ls st) := by
  subst hp; exact B.via (fun T t X r => XT.lload X B.1 rfl (hb B.2.1 hd) hl r) k
theorem Base.istoreN (B : Base p l e R s m args below meth c Z y bytes maxL ret h0 ws C) (pc' : Nat) (hp : pc' = pc + 1) {i : Fin 4} {x : Int32} (hd : decode bytes pc = .ok (.istore_n i, 1)) (Ls' : Array Slot) (hl : storeLocals Ls i.val (.int x) = some Ls') (k : B.G h cl sl (mkF m pc' Ls' st)) : B.G h cl sl (mkF m pc Ls (.int x :: st)) := by
  subst hp; exact B.via (fun T t X r => XS.istoreN X B.1 rfl (hb B.2.1 hd) rfl hl r) k
theorem Base.istore (B : Base p l e R s m args below meth c Z y bytes maxL ret h0 ws C) (pc' : Nat) (hp : pc' = pc + 2) {i : Nat} {x : Int32} (hd : decode bytes pc = .ok (.istore i, 2)) (Ls' : Array Slot) (hl : storeLocals Ls i (.int x) = some Ls') (k : B.G h cl sl (mkF m pc' Ls' st)) : B.G h cl sl (mkF m pc Ls (.int x :: st)) := by
  subst hp; exact B.via (fun T t X r => XS.istore X B.1 rfl (hb B.2.1 hd) rfl hl r) k
theorem Base.lstoreN (B : Base p l e R s m args below meth c Z y bytes maxL ret h0 ws C) (pc' : Nat) (hp : pc' = pc + 1) {i : Fin 4} {x : Int64} (hd : decode bytes pc = .ok (.lstore_n i, 1)) (Ls' : Array Slot) (hl : storeLocals Ls i.val (.long x) = some Ls') (k : B.G h cl sl (mkF m pc' Ls' st)) : B.G h cl sl (mkF m pc Ls (.long x :: st)) := by
  subst hp; exact B.via (fun T t X r => XT.lstoreN X B.1 rfl (hb B.2.1 hd) rfl hl r) k
theorem Base.lstore (B : Base p l e R s m args below meth c Z y bytes maxL ret h0 ws C) (pc' : Nat) (hp : pc' = pc + 2) {i : Nat} {x : Int64} (hd : decode bytes pc = .ok (.lstore i, 2)) (Ls' : Array Slot) (hl : storeLocals Ls i (.long x) = some Ls') (k : B.G h cl sl (mkF m pc' Ls' st)) : B.G h cl sl (mkF m pc Ls (.long x :: st)) := by
  subst hp; exact B.via (fun T t X r => XT.lstore X B.1 rfl (hb B.2.1 hd) rfl hl r) k
theorem Base.astoreN (B : Base p l e R s m args below meth c Z y bytes maxL ret h0 ws C) (pc' : Nat) (hp : pc' = pc + 1) {i : Fin 4} {x : Value} (hd : decode bytes pc = .ok (.astore_n i, 1)) (hv : x.isRef = true) (Ls' : Array Slot) (hl : storeLocals Ls i.val x = some Ls') (k : B.G h cl sl (mkF m pc' Ls' st)) : B.G h cl sl (mkF m pc Ls (x :: st)) := by
  subst hp; exact B.via (fun T t X r => XS.astoreN X B.1 rfl (hb B.2.1 hd) rfl hv hl r) k
theorem Base.astore (B : Base p l e R s m args below meth c Z y bytes maxL ret h0 ws C) (pc' : Nat) (hp : pc' = pc + 2) {i : Nat} {x : Value} (hd : decode bytes pc = .ok (.astore i, 2)) (hv : x.isRef = true) (Ls' : Array Slot) (hl : storeLocals Ls i x = some Ls') (k : B.G h cl sl (mkF m pc' Ls' st)) : B.G h cl sl (mkF m pc Ls (x :: st)) := by
  subst hp; exact B.via (fun T t X r => XS.astore X B.1 rfl (hb B.2.1 hd) rfl hv hl r) k
theorem Base.iinc (B : Base p l e R s m args below meth c Z y bytes maxL ret h0 ws C) (pc' : Nat) (hp : pc' = pc + 3) {i : Nat} {cst : Int} (v : Int32) {x : Int32} (hd : decode bytes pc = .ok (.iinc i cst, 3)) (hv : Int32.ofInt cst = v) (hl : Ls[i]? = some (.val (.int x))) (Ls' : Array Slot) (hl' : storeLocals Ls i (.int (x + v)) = some Ls') (k : B.G h cl sl (mkF m pc' Ls' st)) : B.G h cl sl (mkF m pc Ls st) := by
  subst hp hv; exact B.via (fun T t X r => XS.iinc X B.1 rfl (hb B.2.1 hd) hl hl' r) k
theorem Base.iconst (B : Base p l e R s m args below meth c Z y bytes maxL ret h0 ws C) (pc' : Nat) (hp : pc' = pc + 1) {i : Int} (v : Int32) (hd : decode bytes pc = .ok (.iconst i, 1)) (hv : Int32.ofInt i = v) (k : B.G h cl sl (mkF m pc' Ls (.int v :: st))) : B.G h cl sl (mkF m pc Ls st) := by
  subst hp hv; exact B.via (fun T t X r => XS.iconst X B.1 rfl (hb B.2.1 hd) r) k
theorem Base.bipush (B : Base p l e R s m args below meth c Z y bytes maxL ret h0 ws C) (pc' : Nat) (hp : pc' = pc + 2) {i : Int} (v : Int32) (hd : decode bytes pc = .ok (.bipush i, 2)) (hv : (Int8.ofInt i).toInt32 = v) (k : B.G h cl sl (mkF m pc' Ls (.int v :: st))) : B.G h cl sl (mkF m pc Ls st) := by
  subst hp hv; exact B.via (fun T t X r => XS.bipush X B.1 rfl (hb B.2.1 hd) r) k
theorem Base.sipush (B : Base p l e R s m args below meth c Z y bytes maxL ret h0 ws C) (pc' : Nat) (hp : pc' = pc + 3) {i : Int} (v : Int32) (hd : decode bytes pc = .ok (.sipush i, 3)) (hv : (Int16.ofInt i).toInt32 = v) (k : B.G h cl sl (mkF m pc' Ls (.int v :: st))) : B.G h cl sl (mkF m pc Ls st) := by
  subst hp hv; exact B.via (fun T t X r => XS.sipush X B.1 rfl (hb B.2.1 hd) r) k
theorem Base.lconst (B : Base p l e R s m args below meth c Z y bytes maxL ret h0 ws C) (pc' : Nat) (hp : pc' = pc + 1) {i : Fin 2} (v : Int64) (hd : decode bytes pc = .ok (.lconst i, 1)) (hv : Int64.ofNat i = v) (k : B.G h cl sl (mkF m pc' Ls (.long v :: st))) : B.G h cl sl (mkF m pc Ls st) := by
  subst hp hv; exact B.via (fun T t X r => XT.lconst X B.1 rfl (hb B.2.1 hd) r) k
theorem Base.aconstNull (B : Base p l e R s m args below meth c Z y bytes maxL ret h0 ws C) (pc' : Nat) (hp : pc' = pc + 1) (hd : decode bytes pc = .ok (.aconst_null, 1)) (k : B.G h cl sl (mkF m pc' Ls (.null :: st))) : B.G h cl sl (mkF m pc Ls st) := by
  subst hp; exact B.via (fun T t X r => XS.aconstNull X B.1 rfl (hb B.2.1 hd) r) k
theorem Base.ldcI (B : Base p l e R s m args below meth c Z y bytes maxL ret h0 ws C) (pc' : Nat) (hp : pc' = pc + 2) {i : Nat} {v : Int32} (hd : decode bytes pc = .ok (.ldc i, 2)) (w : (Cond.constant y.cls i v).before a0 Z = true) (k : B.G h cl sl (mkF m pc' Ls (.int v :: st))) : B.G h cl sl (mkF m pc Ls st) := by
  subst hp; exact B.viaX (fun T t L X _ r => X.ldcI B.1 B.2.2.2.2.1 (mv B.2.2.2.1 w) rfl (hb B.2.1 hd) r) k
theorem Base.ldcWI (B : Base p l e R s m args below meth c Z y bytes maxL ret h0 ws C) (pc' : Nat) (hp : pc' = pc + 3) {i : Nat} {v : Int32} (hd : decode bytes pc = .ok (.ldc_w i, 3)) (w : (Cond.constant y.cls i v).before a0 Z = true) (k : B.G h cl sl (mkF m pc' Ls (.int v :: st))) : B.G h cl sl (mkF m pc Ls st) := by
  subst hp; exact B.viaX (fun T t L X _ r => X.ldcWI B.1 B.2.2.2.2.1 (mv B.2.2.2.1 w) rfl (hb B.2.1 hd) r) k
theorem Base.ldc2J (B : Base p l e R s m args below meth c Z y bytes maxL ret h0 ws C) (pc' : Nat) (hp : pc' = pc + 3) {i : Nat} {v : Int64} (hd : decode bytes pc = .ok (.ldc2_w i, 3)) (w : (Cond.constantLong y.cls i v).before a0 Z = true) (k : B.G h cl sl (mkF m pc' Ls (.long v :: st))) : B.G h cl sl (mkF m pc Ls st) := by
  subst hp; exact B.viaX (fun T t L X _ r => X.ldc2J B.1 B.2.2.2.2.1 (mv B.2.2.2.1 w) rfl (hb B.2.1 hd) r) k
theorem Base.goto (B : Base p l e R s m args below meth c Z y bytes maxL ret h0 ws C) (pc' : Nat) {o : Int} (hp : ((pc : Int) + o).toNat = pc') (ho : 0 ≤ (pc : Int) + o) (hd : decode bytes pc = .ok (.goto o, 3)) (k : B.G h cl sl (mkF m pc' Ls st)) : B.G h cl sl (mkF m pc Ls st) :=
  B.via (fun T t X r => XS.goto X B.1 rfl rfl (hb B.2.1 hd) ho hp r) k
theorem Base.dup (B : Base p l e R s m args below meth c Z y bytes maxL ret h0 ws C) (pc' : Nat) (hp : pc' = pc + 1) {x : Value} (hd : decode bytes pc = .ok (.dup, 1)) (hc : x.category = 1) (k : B.G h cl sl (mkF m pc' Ls (x :: x :: st))) : B.G h cl sl (mkF m pc Ls (x :: st)) := by
  subst hp; exact B.via (fun T t X r => XS.dup X B.1 rfl (hb B.2.1 hd) rfl hc r) k
theorem Base.pop (B : Base p l e R s m args below meth c Z y bytes maxL ret h0 ws C) (pc' : Nat) (hp : pc' = pc + 1) {x : Value} (hd : decode bytes pc = .ok (.pop, 1)) (hc : x.category = 1) (k : B.G h cl sl (mkF m pc' Ls st)) : B.G h cl sl (mkF m pc Ls (x :: st)) := by
  subst hp; exact B.via (fun T t X r => XT.pop X B.1 rfl (hb B.2.1 hd) rfl hc r) k
theorem Base.dupX1 (B : Base p l e R s m args below meth c Z y bytes maxL ret h0 ws C) (pc' : Nat) (hp : pc' = pc + 1) {x z : Value} (hd : decode bytes pc = .ok (.dup_x1, 1)) (hc : x.category = 1) (hc' : z.category = 1) (k : B.G h cl sl (mkF m pc' Ls (x :: z :: x :: st))) : B.G h cl sl (mkF m pc Ls (x :: z :: st)) := by
  subst hp; exact B.via (fun T t X r => XT.dupX1 X B.1 rfl (hb B.2.1 hd) rfl hc hc' r) k
theorem Base.dup2 (B : Base p l e R s m args below meth c Z y bytes maxL ret h0 ws C) (pc' : Nat) (hp : pc' = pc + 1) {x z : Value} (hd : decode bytes pc = .ok (.dup2, 1)) (hc : x.category = 1) (hc' : z.category = 1) (k : B.G h cl sl (mkF m pc' Ls (x :: z :: x :: z :: st))) : B.G h cl sl (mkF m pc Ls (x :: z :: st)) := by
  subst hp; exact B.via (fun T t X r => XT.dup2 X B.1 rfl (hb B.2.1 hd) rfl hc hc' r) k
theorem Base.iadd (B : Base p l e R s m args below meth c Z y bytes maxL ret h0 ws C) (pc' : Nat) (hp : pc' = pc + 1) {x : Int32} {z : Int32} (hd : decode bytes pc = .ok (.iadd, 1)) (k : B.G h cl sl (mkF m pc' Ls (.int (x + z) :: st))) : B.G h cl sl (mkF m pc Ls (.int z :: .int x :: st)) := by
  subst hp; exact B.via (fun T t X r => XS.iadd X B.1 rfl (hb B.2.1 hd) rfl r) k
theorem Base.isub (B : Base p l e R s m args below meth c Z y bytes maxL ret h0 ws C) (pc' : Nat) (hp : pc' = pc + 1) {x : Int32} {z : Int32} (hd : decode bytes pc = .ok (.isub, 1)) (k : B.G h cl sl (mkF m pc' Ls (.int (x - z) :: st))) : B.G h cl sl (mkF m pc Ls (.int z :: .int x :: st)) := by
  subst hp; exact B.via (fun T t X r => XS.isub X B.1 rfl (hb B.2.1 hd) rfl r) k
theorem Base.iand (B : Base p l e R s m args below meth c Z y bytes maxL ret h0 ws C) (pc' : Nat) (hp : pc' = pc + 1) {x : Int32} {z : Int32} (hd : decode bytes pc = .ok (.iand, 1)) (k : B.G h cl sl (mkF m pc' Ls (.int (x &&& z) :: st))) : B.G h cl sl (mkF m pc Ls (.int z :: .int x :: st)) := by
  subst hp; exact B.via (fun T t X r => XS.iand X B.1 rfl (hb B.2.1 hd) rfl r) k
theorem Base.imul (B : Base p l e R s m args below meth c Z y bytes maxL ret h0 ws C) (pc' : Nat) (hp : pc' = pc + 1) {x : Int32} {z : Int32} (hd : decode bytes pc = .ok (.imul, 1)) (k : B.G h cl sl (mkF m pc' Ls (.int (x * z) :: st))) : B.G h cl sl (mkF m pc Ls (.int z :: .int x :: st)) := by
  subst hp; exact B.via (fun T t X r => XS.imul X B.1 rfl (hb B.2.1 hd) rfl r) k
theorem Base.ixor (B : Base p l e R s m args below meth c Z y bytes maxL ret h0 ws C) (pc' : Nat) (hp : pc' = pc + 1) {x : Int32} {z : Int32} (hd : decode bytes pc = .ok (.ixor, 1)) (k : B.G h cl sl (mkF m pc' Ls (.int (x ^^^ z) :: st))) : B.G h cl sl (mkF m pc Ls (.int z :: .int x :: st)) := by
  subst hp; exact B.via (fun T t X r => XT.ixor X B.1 rfl (hb B.2.1 hd) rfl r) k
theorem Base.ior (B : Base p l e R s m args below meth c Z y bytes maxL ret h0 ws C) (pc' : Nat) (hp : pc' = pc + 1) {x : Int32} {z : Int32} (hd : decode bytes pc = .ok (.ior, 1)) (k : B.G h cl sl (mkF m pc' Ls (.int (x ||| z) :: st))) : B.G h cl sl (mkF m pc Ls (.int z :: .int x :: st)) := by
  subst hp; exact B.via (fun T t X r => XT.ior X B.1 rfl (hb B.2.1 hd) rfl r) k
theorem Base.ishl (B : Base p l e R s m args below meth c Z y bytes maxL ret h0 ws C) (pc' : Nat) (hp : pc' = pc + 1) {x : Int32} {z : Int32} (hd : decode bytes pc = .ok (.ishl, 1)) (k : B.G h cl sl (mkF m pc' Ls (.int (x <<< (z &&& 31)) :: st))) : B.G h cl sl (mkF m pc Ls (.int z :: .int x :: st)) := by
  subst hp; exact B.via (fun T t X r => XT.ishl X B.1 rfl (hb B.2.1 hd) rfl r) k
theorem Base.ishr (B : Base p l e R s m args below meth c Z y bytes maxL ret h0 ws C) (pc' : Nat) (hp : pc' = pc + 1) {x : Int32} {z : Int32} (hd : decode bytes pc = .ok (.ishr, 1)) (k : B.G h cl sl (mkF m pc' Ls (.int (x >>> (z &&& 31)) :: st))) : B.G h cl sl (mkF m pc Ls (.int z :: .int x :: st)) := by
  subst hp; exact B.via (fun T t X r => XT.ishr X B.1 rfl (hb B.2.1 hd) rfl r) k
theorem Base.iushr (B : Base p l e R s m args below meth c Z y bytes maxL ret h0 ws C) (pc' : Nat) (hp : pc' = pc + 1) {x : Int32} {z : Int32} (hd : decode bytes pc = .ok (.iushr, 1)) (k : B.G h cl sl (mkF m pc' Ls (.int (XT.ushr x z) :: st))) : B.G h cl sl (mkF m pc Ls (.int z :: .int x :: st)) := by
  subst hp; exact B.via (fun T t X r => XT.iushr X B.1 rfl (hb B.2.1 hd) rfl r) k
theorem Base.ladd (B : Base p l e R s m args below meth c Z y bytes maxL ret h0 ws C) (pc' : Nat) (hp : pc' = pc + 1) {x : Int64} {z : Int64} (hd : decode bytes pc = .ok (.ladd, 1)) (k : B.G h cl sl (mkF m pc' Ls (.long (x + z) :: st))) : B.G h cl sl (mkF m pc Ls (.long z :: .long x :: st)) := by
  subst hp; exact B.via (fun T t X r => XT.ladd X B.1 rfl (hb B.2.1 hd) rfl r) k
theorem Base.lsub (B : Base p l e R s m args below meth c Z y bytes maxL ret h0 ws C) (pc' : Nat) (hp : pc' = pc + 1) {x : Int64} {z : Int64} (hd : decode bytes pc = .ok (.lsub, 1)) (k : B.G h cl sl (mkF m pc' Ls (.long (x - z) :: st))) : B.G h cl sl (mkF m pc Ls (.long z :: .long x :: st)) := by
  subst hp; exact B.via (fun T t X r => XT.lsub X B.1 rfl (hb B.2.1 hd) rfl r) k
theorem Base.lmul (B : Base p l e R s m args below meth c Z y bytes maxL ret h0 ws C) (pc' : Nat) (hp : pc' = pc + 1) {x : Int64} {z : Int64} (hd : decode bytes pc = .ok (.lmul, 1)) (k : B.G h cl sl (mkF m pc' Ls (.long (x * z) :: st))) : B.G h cl sl (mkF m pc Ls (.long z :: .long x :: st)) := by
  subst hp; exact B.via (fun T t X r => XT.lmul X B.1 rfl (hb B.2.1 hd) rfl r) k
theorem Base.land (B : Base p l e R s m args below meth c Z y bytes maxL ret h0 ws C) (pc' : Nat) (hp : pc' = pc + 1) {x : Int64} {z : Int64} (hd : decode bytes pc = .ok (.land, 1)) (k : B.G h cl sl (mkF m pc' Ls (.long (x &&& z) :: st))) : B.G h cl sl (mkF m pc Ls (.long z :: .long x :: st)) := by
  subst hp; exact B.via (fun T t X r => XT.land X B.1 rfl (hb B.2.1 hd) rfl r) k
theorem Base.lor (B : Base p l e R s m args below meth c Z y bytes maxL ret h0 ws C) (pc' : Nat) (hp : pc' = pc + 1) {x : Int64} {z : Int64} (hd : decode bytes pc = .ok (.lor, 1)) (k : B.G h cl sl (mkF m pc' Ls (.long (x ||| z) :: st))) : B.G h cl sl (mkF m pc Ls (.long z :: .long x :: st)) := by
  subst hp; exact B.via (fun T t X r => XT.lor X B.1 rfl (hb B.2.1 hd) rfl r) k
theorem Base.lxor (B : Base p l e R s m args below meth c Z y bytes maxL ret h0 ws C) (pc' : Nat) (hp : pc' = pc + 1) {x : Int64} {z : Int64} (hd : decode bytes pc = .ok (.lxor, 1)) (k : B.G h cl sl (mkF m pc' Ls (.long (x ^^^ z) :: st))) : B.G h cl sl (mkF m pc Ls (.long z :: .long x :: st)) := by
  subst hp; exact B.via (fun T t X r => XT.lxor X B.1 rfl (hb B.2.1 hd) rfl r) k
theorem Base.lshl (B : Base p l e R s m args below meth c Z y bytes maxL ret h0 ws C) (pc' : Nat) (hp : pc' = pc + 1) {x : Int64} {z : Int32} (hd : decode bytes pc = .ok (.lshl, 1)) (k : B.G h cl sl (mkF m pc' Ls (.long (x <<< (z.toInt64 &&& 63)) :: st))) : B.G h cl sl (mkF m pc Ls (.int z :: .long x :: st)) := by
  subst hp; exact B.via (fun T t X r => XT.lshl X B.1 rfl (hb B.2.1 hd) rfl r) k
theorem Base.lshr (B : Base p l e R s m args below meth c Z y bytes maxL ret h0 ws C) (pc' : Nat) (hp : pc' = pc + 1) {x : Int64} {z : Int32} (hd : decode bytes pc = .ok (.lshr, 1)) (k : B.G h cl sl (mkF m pc' Ls (.long (x >>> (z.toInt64 &&& 63)) :: st))) : B.G h cl sl (mkF m pc Ls (.int z :: .long x :: st)) := by
  subst hp; exact B.via (fun T t X r => XT.lshr X B.1 rfl (hb B.2.1 hd) rfl r) k
theorem Base.lushr (B : Base p l e R s m args below meth c Z y bytes maxL ret h0 ws C) (pc' : Nat) (hp : pc' = pc + 1) {x : Int64} {z : Int32} (hd : decode bytes pc = .ok (.lushr, 1)) (k : B.G h cl sl (mkF m pc' Ls (.long (XT.ushrL x z) :: st))) : B.G h cl sl (mkF m pc Ls (.int z :: .long x :: st)) := by
  subst hp; exact B.via (fun T t X r => XT.lushr X B.1 rfl (hb B.2.1 hd) rfl r) k
theorem Base.lcmp (B : Base p l e R s m args below meth c Z y bytes maxL ret h0 ws C) (pc' : Nat) (hp : pc' = pc + 1) {x : Int64} {z : Int64} (hd : decode bytes pc = .ok (.lcmp, 1)) (k : B.G h cl sl (mkF m pc' Ls (.int (XT.cmpL x z) :: st))) : B.G h cl sl (mkF m pc Ls (.long z :: .long x :: st)) := by
  subst hp; exact B.via (fun T t X r => XT.lcmp X B.1 rfl (hb B.2.1 hd) rfl r) k
theorem Base.idiv (B : Base p l e R s m args below meth c Z y bytes maxL ret h0 ws C) (pc' : Nat) (hp : pc' = pc + 1) {x : Int32} {z : Int32} (hd : decode bytes pc = .ok (.idiv, 1)) (hz : z ≠ 0) (k : B.G h cl sl (mkF m pc' Ls (.int (x / z) :: st))) : B.G h cl sl (mkF m pc Ls (.int z :: .int x :: st)) := by
  subst hp; exact B.via (fun T t X r => XS.idiv X B.1 rfl (hb B.2.1 hd) rfl hz r) k
theorem Base.ldiv (B : Base p l e R s m args below meth c Z y bytes maxL ret h0 ws C) (pc' : Nat) (hp : pc' = pc + 1) {x : Int64} {z : Int64} (hd : decode bytes pc = .ok (.ldiv, 1)) (hz : z ≠ 0) (k : B.G h cl sl (mkF m pc' Ls (.long (x / z) :: st))) : B.G h cl sl (mkF m pc Ls (.long z :: .long x :: st)) := by
  subst hp; exact B.via (fun T t X r => XT.ldiv X B.1 rfl (hb B.2.1 hd) rfl hz r) k
theorem Base.irem (B : Base p l e R s m args below meth c Z y bytes maxL ret h0 ws C) (pc' : Nat) (hp : pc' = pc + 1) {x z : Int32} (hd : decode bytes pc = .ok (.irem, 1)) (hz : z ≠ 0) (k : B.G h cl sl (mkF m pc' Ls (.int (x % z) :: st))) : B.G h cl sl (mkF m pc Ls (.int z :: .int x :: st)) := by
  subst hp; exact B.viaX (fun T t L X _ r => iremM X B.1 rfl (hb B.2.1 hd) rfl hz r) k
theorem Base.ineg (B : Base p l e R s m args below meth c Z y bytes maxL ret h0 ws C) (pc' : Nat) (hp : pc' = pc + 1) {x : Int32} (hd : decode bytes pc = .ok (.ineg, 1)) (k : B.G h cl sl (mkF m pc' Ls (.int (-x) :: st))) : B.G h cl sl (mkF m pc Ls (.int x :: st)) := by
  subst hp; exact B.via (fun T t X r => XS.ineg X B.1 rfl (hb B.2.1 hd) rfl r) k
theorem Base.lneg (B : Base p l e R s m args below meth c Z y bytes maxL ret h0 ws C) (pc' : Nat) (hp : pc' = pc + 1) {x : Int64} (hd : decode bytes pc = .ok (.lneg, 1)) (k : B.G h cl sl (mkF m pc' Ls (.long (-x) :: st))) : B.G h cl sl (mkF m pc Ls (.long x :: st)) := by
  subst hp; exact B.via (fun T t X r => XT.lneg X B.1 rfl (hb B.2.1 hd) rfl r) k
theorem Base.i2l (B : Base p l e R s m args below meth c Z y bytes maxL ret h0 ws C) (pc' : Nat) (hp : pc' = pc + 1) {x : Int32} (hd : decode bytes pc = .ok (.i2l, 1)) (k : B.G h cl sl (mkF m pc' Ls (.long (x.toInt64) :: st))) : B.G h cl sl (mkF m pc Ls (.int x :: st)) := by
  subst hp; exact B.via (fun T t X r => XT.i2l X B.1 rfl (hb B.2.1 hd) rfl r) k
theorem Base.l2i (B : Base p l e R s m args below meth c Z y bytes maxL ret h0 ws C) (pc' : Nat) (hp : pc' = pc + 1) {x : Int64} (hd : decode bytes pc = .ok (.l2i, 1)) (k : B.G h cl sl (mkF m pc' Ls (.int (x.toInt32) :: st))) : B.G h cl sl (mkF m pc Ls (.long x :: st)) := by
  subst hp; exact B.via (fun T t X r => XT.l2i X B.1 rfl (hb B.2.1 hd) rfl r) k
theorem Base.i2b (B : Base p l e R s m args below meth c Z y bytes maxL ret h0 ws C) (pc' : Nat) (hp : pc' = pc + 1) {x : Int32} (hd : decode bytes pc = .ok (.i2b, 1)) (k : B.G h cl sl (mkF m pc' Ls (.int (x.toInt8.toInt32) :: st))) : B.G h cl sl (mkF m pc Ls (.int x :: st)) := by
  subst hp; exact B.via (fun T t X r => XT.i2b X B.1 rfl (hb B.2.1 hd) rfl r) k
theorem Base.i2c (B : Base p l e R s m args below meth c Z y bytes maxL ret h0 ws C) (pc' : Nat) (hp : pc' = pc + 1) {x : Int32} (hd : decode bytes pc = .ok (.i2c, 1)) (k : B.G h cl sl (mkF m pc' Ls (.int (x.toUInt32.toUInt16.toUInt32.toInt32) :: st))) : B.G h cl sl (mkF m pc Ls (.int x :: st)) := by
  subst hp; exact B.via (fun T t X r => XT.i2c X B.1 rfl (hb B.2.1 hd) rfl r) k
theorem Base.i2s (B : Base p l e R s m args below meth c Z y bytes maxL ret h0 ws C) (pc' : Nat) (hp : pc' = pc + 1) {x : Int32} (hd : decode bytes pc = .ok (.i2s, 1)) (k : B.G h cl sl (mkF m pc' Ls (.int (x.toInt16.toInt32) :: st))) : B.G h cl sl (mkF m pc Ls (.int x :: st)) := by
  subst hp; exact B.via (fun T t X r => XT.i2s X B.1 rfl (hb B.2.1 hd) rfl r) k
theorem Base.icmp_eq (B : Base p l e R s m args below meth c Z y bytes maxL ret h0 ws C) (pt pf : Nat) {o : Int} (hpt : ((pc : Int) + o).toNat = pt) (ho : 0 ≤ (pc : Int) + o) (hpf : pf = pc + 3) {x z : Int32} (hd : decode bytes pc = .ok (.if_icmp .eq o, 3)) (kt : x = z → B.G h cl sl (mkF m pt Ls st)) (kf : ¬ x = z → B.G h cl sl (mkF m pf Ls st)) : B.G h cl sl (mkF m pc Ls (.int z :: .int x :: st)) := by
  subst hpt hpf
  by_cases q : x = z
  · exact B.via (fun T t X r => XS.icmpYes X B.1 rfl rfl (hb B.2.1 hd) rfl (XT.ii_eq_t q) ho rfl r) (kt q)
  · exact B.via (fun T t X r => XS.icmpNo X B.1 rfl (hb B.2.1 hd) rfl (XT.ii_eq_f q) r) (kf q)
theorem Base.if0_eq (B : Base p l e R s m args below meth c Z y bytes maxL ret h0 ws C) (pt pf : Nat) {o : Int} (hpt : ((pc : Int) + o).toNat = pt) (ho : 0 ≤ (pc : Int) + o) (hpf : pf = pc + 3) {x : Int32} (hd : decode bytes pc = .ok (.ifCond .eq o, 3)) (kt : x = 0 → B.G h cl sl (mkF m pt Ls st)) (kf : ¬ x = 0 → B.G h cl sl (mkF m pf Ls st)) : B.G h cl sl (mkF m pc Ls (.int x :: st)) := by
  subst hpt hpf
  by_cases q : x = 0
  · exact B.via (fun T t X r => XS.ifYes X B.1 rfl rfl (hb B.2.1 hd) rfl (XT.i0_eq_t q) ho rfl r) (kt q)
  · exact B.via (fun T t X r => XS.ifNo X B.1 rfl (hb B.2.1 hd) rfl (XT.i0_eq_f q) r) (kf q)
theorem Base.lif_eq (B : Base p l e R s m args below meth c Z y bytes maxL ret h0 ws C) (pt pf : Nat) {o : Int} (hpt : ((pc : Int) + o).toNat = pt) (ho : 0 ≤ (pc : Int) + o) (hpf : pf = pc + 3) {x z : Int64} (hd : decode bytes pc = .ok (.ifCond .eq o, 3)) (kt : x = z → B.G h cl sl (mkF m pt Ls st)) (kf : ¬ x = z → B.G h cl sl (mkF m pf Ls st)) : B.G h cl sl (mkF m pc Ls (.int (XT.cmpL x z) :: st)) := by
  subst hpt hpf
  by_cases q : x = z
  · exact B.via (fun T t X r => XS.ifYes X B.1 rfl rfl (hb B.2.1 hd) rfl (XT.ll_eq_t q) ho rfl r) (kt q)
  · exact B.via (fun T t X r => XS.ifNo X B.1 rfl (hb B.2.1 hd) rfl (XT.ll_eq_f q) r) (kf q)
theorem Base.icmp_ne (B : Base p l e R s m args below meth c Z y bytes maxL ret h0 ws C) (pt pf : Nat) {o : Int} (hpt : ((pc : Int) + o).toNat = pt) (ho : 0 ≤ (pc : Int) + o) (hpf : pf = pc + 3) {x z : Int32} (hd : decode bytes pc = .ok (.if_icmp .ne o, 3)) (kt : ¬ x = z → B.G h cl sl (mkF m pt Ls st)) (kf : x = z → B.G h cl sl (mkF m pf Ls st)) : B.G h cl sl (mkF m pc Ls (.int z :: .int x :: st)) := by
  subst hpt hpf
  by_cases q : x = z
  · exact B.via (fun T t X r => XS.icmpNo X B.1 rfl (hb B.2.1 hd) rfl (XT.ii_ne_f q) r) (kf q)
  · exact B.via (fun T t X r => XS.icmpYes X B.1 rfl rfl (hb B.2.1 hd) rfl (XT.ii_ne_t q) ho rfl r) (kt q)
theorem Base.if0_ne (B : Base p l e R s m args below meth c Z y bytes maxL ret h0 ws C) (pt pf : Nat) {o : Int} (hpt : ((pc : Int) + o).toNat = pt) (ho : 0 ≤ (pc : Int) + o) (hpf : pf = pc + 3) {x : Int32} (hd : decode bytes pc = .ok (.ifCond .ne o, 3)) (kt : ¬ x = 0 → B.G h cl sl (mkF m pt Ls st)) (kf : x = 0 → B.G h cl sl (mkF m pf Ls st)) : B.G h cl sl (mkF m pc Ls (.int x :: st)) := by
  subst hpt hpf
  by_cases q : x = 0
  · exact B.via (fun T t X r => XS.ifNo X B.1 rfl (hb B.2.1 hd) rfl (XT.i0_ne_f q) r) (kf q)
  · exact B.via (fun T t X r => XS.ifYes X B.1 rfl rfl (hb B.2.1 hd) rfl (XT.i0_ne_t q) ho rfl r) (kt q)
theorem Base.lif_ne (B : Base p l e R s m args below meth c Z y bytes maxL ret h0 ws C) (pt pf : Nat) {o : Int} (hpt : ((pc : Int) + o).toNat = pt) (ho : 0 ≤ (pc : Int) + o) (hpf : pf = pc + 3) {x z : Int64} (hd : decode bytes pc = .ok (.ifCond .ne o, 3)) (kt : ¬ x = z → B.G h cl sl (mkF m pt Ls st)) (kf : x = z → B.G h cl sl (mkF m pf Ls st)) : B.G h cl sl (mkF m pc Ls (.int (XT.cmpL x z) :: st)) := by
  subst hpt hpf
  by_cases q : x = z
  · exact B.via (fun T t X r => XS.ifNo X B.1 rfl (hb B.2.1 hd) rfl (XT.ll_ne_f q) r) (kf q)
  · exact B.via (fun T t X r => XS.ifYes X B.1 rfl rfl (hb B.2.1 hd) rfl (XT.ll_ne_t q) ho rfl r) (kt q)
theorem Base.icmp_lt (B : Base p l e R s m args below meth c Z y bytes maxL ret h0 ws C) (pt pf : Nat) {o : Int} (hpt : ((pc : Int) + o).toNat = pt) (ho : 0 ≤ (pc : Int) + o) (hpf : pf = pc + 3) {x z : Int32} (hd : decode bytes pc = .ok (.if_icmp .lt o, 3)) (kt : x < z → B.G h cl sl (mkF m pt Ls st)) (kf : ¬ x < z → B.G h cl sl (mkF m pf Ls st)) : B.G h cl sl (mkF m pc Ls (.int z :: .int x :: st)) := by
  subst hpt hpf
  by_cases q : x < z
  · exact B.via (fun T t X r => XS.icmpYes X B.1 rfl rfl (hb B.2.1 hd) rfl (XT.ii_lt_t q) ho rfl r) (kt q)
  · exact B.via (fun T t X r => XS.icmpNo X B.1 rfl (hb B.2.1 hd) rfl (XT.ii_lt_f q) r) (kf q)
theorem Base.if0_lt (B : Base p l e R s m args below meth c Z y bytes maxL ret h0 ws C) (pt pf : Nat) {o : Int} (hpt : ((pc : Int) + o).toNat = pt) (ho : 0 ≤ (pc : Int) + o) (hpf : pf = pc + 3) {x : Int32} (hd : decode bytes pc = .ok (.ifCond .lt o, 3)) (kt : x < 0 → B.G h cl sl (mkF m pt Ls st)) (kf : ¬ x < 0 → B.G h cl sl (mkF m pf Ls st)) : B.G h cl sl (mkF m pc Ls (.int x :: st)) := by
  subst hpt hpf
  by_cases q : x < 0
  · exact B.via (fun T t X r => XS.ifYes X B.1 rfl rfl (hb B.2.1 hd) rfl (XT.i0_lt_t q) ho rfl r) (kt q)
  · exact B.via (fun T t X r => XS.ifNo X B.1 rfl (hb B.2.1 hd) rfl (XT.i0_lt_f q) r) (kf q)
theorem Base.lif_lt (B : Base p l e R s m args below meth c Z y bytes maxL ret h0 ws C) (pt pf : Nat) {o : Int} (hpt : ((pc : Int) + o).toNat = pt) (ho : 0 ≤ (pc : Int) + o) (hpf : pf = pc + 3) {x z : Int64} (hd : decode bytes pc = .ok (.ifCond .lt o, 3)) (kt : x < z → B.G h cl sl (mkF m pt Ls st)) (kf : ¬ x < z → B.G h cl sl (mkF m pf Ls st)) : B.G h cl sl (mkF m pc Ls (.int (XT.cmpL x z) :: st)) := by
  subst hpt hpf
  by_cases q : x < z
  · exact B.via (fun T t X r => XS.ifYes X B.1 rfl rfl (hb B.2.1 hd) rfl (XT.ll_lt_t q) ho rfl r) (kt q)
  · exact B.via (fun T t X r => XS.ifNo X B.1 rfl (hb B.2.1 hd) rfl (XT.ll_lt_f q) r) (kf q)
theorem Base.icmp_ge (B : Base p l e R s m args below meth c Z y bytes maxL ret h0 ws C) (pt pf : Nat) {o : Int} (hpt : ((pc : Int) + o).toNat = pt) (ho : 0 ≤ (pc : Int) + o) (hpf : pf = pc + 3) {x z : Int32} (hd : decode bytes pc = .ok (.if_icmp .ge o, 3)) (kt : ¬ x < z → B.G h cl sl (mkF m pt Ls st)) (kf : x < z → B.G h cl sl (mkF m pf Ls st)) : B.G h cl sl (mkF m pc Ls (.int z :: .int x :: st)) := by
  subst hpt hpf
  by_cases q : x < z
  · exact B.via (fun T t X r => XS.icmpNo X B.1 rfl (hb B.2.1 hd) rfl (XT.ii_ge_f q) r) (kf q)
  · exact B.via (fun T t X r => XS.icmpYes X B.1 rfl rfl (hb B.2.1 hd) rfl (XT.ii_ge_t q) ho rfl r) (kt q)
theorem Base.if0_ge (B : Base p l e R s m args below meth c Z y bytes maxL ret h0 ws C) (pt pf : Nat) {o : Int} (hpt : ((pc : Int) + o).toNat = pt) (ho : 0 ≤ (pc : Int) + o) (hpf : pf = pc + 3) {x : Int32} (hd : decode bytes pc = .ok (.ifCond .ge o, 3)) (kt : ¬ x < 0 → B.G h cl sl (mkF m pt Ls st)) (kf : x < 0 → B.G h cl sl (mkF m pf Ls st)) : B.G h cl sl (mkF m pc Ls (.int x :: st)) := by
  subst hpt hpf
  by_cases q : x < 0
  · exact B.via (fun T t X r => XS.ifNo X B.1 rfl (hb B.2.1 hd) rfl (XT.i0_ge_f q) r) (kf q)
  · exact B.via (fun T t X r => XS.ifYes X B.1 rfl rfl (hb B.2.1 hd) rfl (XT.i0_ge_t q) ho rfl r) (kt q)
theorem Base.lif_ge (B : Base p l e R s m args below meth c Z y bytes maxL ret h0 ws C) (pt pf : Nat) {o : Int} (hpt : ((pc : Int) + o).toNat = pt) (ho : 0 ≤ (pc : Int) + o) (hpf : pf = pc + 3) {x z : Int64} (hd : decode bytes pc = .ok (.ifCond .ge o, 3)) (kt : ¬ x < z → B.G h cl sl (mkF m pt Ls st)) (kf : x < z → B.G h cl sl (mkF m pf Ls st)) : B.G h cl sl (mkF m pc Ls (.int (XT.cmpL x z) :: st)) := by
  subst hpt hpf
  by_cases q : x < z
  · exact B.via (fun T t X r => XS.ifNo X B.1 rfl (hb B.2.1 hd) rfl (XT.ll_ge_f q) r) (kf q)
  · exact B.via (fun T t X r => XS.ifYes X B.1 rfl rfl (hb B.2.1 hd) rfl (XT.ll_ge_t q) ho rfl r) (kt q)
theorem Base.icmp_gt (B : Base p l e R s m args below meth c Z y bytes maxL ret h0 ws C) (pt pf : Nat) {o : Int} (hpt : ((pc : Int) + o).toNat = pt) (ho : 0 ≤ (pc : Int) + o) (hpf : pf = pc + 3) {x z : Int32} (hd : decode bytes pc = .ok (.if_icmp .gt o, 3)) (kt : z < x → B.G h cl sl (mkF m pt Ls st)) (kf : ¬ z < x → B.G h cl sl (mkF m pf Ls st)) : B.G h cl sl (mkF m pc Ls (.int z :: .int x :: st)) := by
  subst hpt hpf
  by_cases q : z < x
  · exact B.via (fun T t X r => XS.icmpYes X B.1 rfl rfl (hb B.2.1 hd) rfl (XT.ii_gt_t q) ho rfl r) (kt q)
  · exact B.via (fun T t X r => XS.icmpNo X B.1 rfl (hb B.2.1 hd) rfl (XT.ii_gt_f q) r) (kf q)
theorem Base.if0_gt (B : Base p l e R s m args below meth c Z y bytes maxL ret h0 ws C) (pt pf : Nat) {o : Int} (hpt : ((pc : Int) + o).toNat = pt) (ho : 0 ≤ (pc : Int) + o) (hpf : pf = pc + 3) {x : Int32} (hd : decode bytes pc = .ok (.ifCond .gt o, 3)) (kt : 0 < x → B.G h cl sl (mkF m pt Ls st)) (kf : ¬ 0 < x → B.G h cl sl (mkF m pf Ls st)) : B.G h cl sl (mkF m pc Ls (.int x :: st)) := by
  subst hpt hpf
  by_cases q : 0 < x
  · exact B.via (fun T t X r => XS.ifYes X B.1 rfl rfl (hb B.2.1 hd) rfl (XT.i0_gt_t q) ho rfl r) (kt q)
  · exact B.via (fun T t X r => XS.ifNo X B.1 rfl (hb B.2.1 hd) rfl (XT.i0_gt_f q) r) (kf q)
theorem Base.lif_gt (B : Base p l e R s m args below meth c Z y bytes maxL ret h0 ws C) (pt pf : Nat) {o : Int} (hpt : ((pc : Int) + o).toNat = pt) (ho : 0 ≤ (pc : Int) + o) (hpf : pf = pc + 3) {x z : Int64} (hd : decode bytes pc = .ok (.ifCond .gt o, 3)) (kt : z < x → B.G h cl sl (mkF m pt Ls st)) (kf : ¬ z < x → B.G h cl sl (mkF m pf Ls st)) : B.G h cl sl (mkF m pc Ls (.int (XT.cmpL x z) :: st)) := by
  subst hpt hpf
  by_cases q : z < x
  · exact B.via (fun T t X r => XS.ifYes X B.1 rfl rfl (hb B.2.1 hd) rfl (XT.ll_gt_t q) ho rfl r) (kt q)
  · exact B.via (fun T t X r => XS.ifNo X B.1 rfl (hb B.2.1 hd) rfl (XT.ll_gt_f q) r) (kf q)
theorem Base.icmp_le (B : Base p l e R s m args below meth c Z y bytes maxL ret h0 ws C) (pt pf : Nat) {o : Int} (hpt : ((pc : Int) + o).toNat = pt) (ho : 0 ≤ (pc : Int) + o) (hpf : pf = pc + 3) {x z : Int32} (hd : decode bytes pc = .ok (.if_icmp .le o, 3)) (kt : ¬ z < x → B.G h cl sl (mkF m pt Ls st)) (kf : z < x → B.G h cl sl (mkF m pf Ls st)) : B.G h cl sl (mkF m pc Ls (.int z :: .int x :: st)) := by
  subst hpt hpf
  by_cases q : z < x
  · exact B.via (fun T t X r => XS.icmpNo X B.1 rfl (hb B.2.1 hd) rfl (XT.ii_le_f q) r) (kf q)
  · exact B.via (fun T t X r => XS.icmpYes X B.1 rfl rfl (hb B.2.1 hd) rfl (XT.ii_le_t q) ho rfl r) (kt q)
theorem Base.if0_le (B : Base p l e R s m args below meth c Z y bytes maxL ret h0 ws C) (pt pf : Nat) {o : Int} (hpt : ((pc : Int) + o).toNat = pt) (ho : 0 ≤ (pc : Int) + o) (hpf : pf = pc + 3) {x : Int32} (hd : decode bytes pc = .ok (.ifCond .le o, 3)) (kt : ¬ 0 < x → B.G h cl sl (mkF m pt Ls st)) (kf : 0 < x → B.G h cl sl (mkF m pf Ls st)) : B.G h cl sl (mkF m pc Ls (.int x :: st)) := by
  subst hpt hpf
  by_cases q : 0 < x
  · exact B.via (fun T t X r => XS.ifNo X B.1 rfl (hb B.2.1 hd) rfl (XT.i0_le_f q) r) (kf q)
  · exact B.via (fun T t X r => XS.ifYes X B.1 rfl rfl (hb B.2.1 hd) rfl (XT.i0_le_t q) ho rfl r) (kt q)
theorem Base.lif_le (B : Base p l e R s m args below meth c Z y bytes maxL ret h0 ws C) (pt pf : Nat) {o : Int} (hpt : ((pc : Int) + o).toNat = pt) (ho : 0 ≤ (pc : Int) + o) (hpf : pf = pc + 3) {x z : Int64} (hd : decode bytes pc = .ok (.ifCond .le o, 3)) (kt : ¬ z < x → B.G h cl sl (mkF m pt Ls st)) (kf : z < x → B.G h cl sl (mkF m pf Ls st)) : B.G h cl sl (mkF m pc Ls (.int (XT.cmpL x z) :: st)) := by
  subst hpt hpf
  by_cases q : z < x
  · exact B.via (fun T t X r => XS.ifNo X B.1 rfl (hb B.2.1 hd) rfl (XT.ll_le_f q) r) (kf q)
  · exact B.via (fun T t X r => XS.ifYes X B.1 rfl rfl (hb B.2.1 hd) rfl (XT.ll_le_t q) ho rfl r) (kt q)
theorem Base.acmp_eq (B : Base p l e R s m args below meth c Z y bytes maxL ret h0 ws C) (pt pf : Nat) {o : Int} (hpt : ((pc : Int) + o).toNat = pt) (ho : 0 ≤ (pc : Int) + o) (hpf : pf = pc + 3) {x z : Value} (hd : decode bytes pc = .ok (.if_acmp .eq o, 3)) (hx' : x.isRef = true) (hz' : z.isRef = true) (kt : x = z → B.G h cl sl (mkF m pt Ls st)) (kf : ¬ x = z → B.G h cl sl (mkF m pf Ls st)) : B.G h cl sl (mkF m pc Ls (z :: x :: st)) := by
  subst hpt hpf
  by_cases q : x = z
  · exact B.via (fun T t X r => XT.acmpYes X B.1 rfl rfl (hb B.2.1 hd) rfl hx' hz' (XT.aa_eq_t q) ho rfl r) (kt q)
  · exact B.via (fun T t X r => XT.acmpNo X B.1 rfl (hb B.2.1 hd) rfl hx' hz' (XT.aa_eq_f q) r) (kf q)
theorem Base.acmp_ne (B : Base p l e R s m args below meth c Z y bytes maxL ret h0 ws C) (pt pf : Nat) {o : Int} (hpt : ((pc : Int) + o).toNat = pt) (ho : 0 ≤ (pc : Int) + o) (hpf : pf = pc + 3) {x z : Value} (hd : decode bytes pc = .ok (.if_acmp .ne o, 3)) (hx' : x.isRef = true) (hz' : z.isRef = true) (kt : ¬ x = z → B.G h cl sl (mkF m pt Ls st)) (kf : x = z → B.G h cl sl (mkF m pf Ls st)) : B.G h cl sl (mkF m pc Ls (z :: x :: st)) := by
  subst hpt hpf
  by_cases q : x = z
  · exact B.via (fun T t X r => XT.acmpNo X B.1 rfl (hb B.2.1 hd) rfl hx' hz' (XT.aa_ne_f q) r) (kf q)
  · exact B.via (fun T t X r => XT.acmpYes X B.1 rfl rfl (hb B.2.1 hd) rfl hx' hz' (XT.aa_ne_t q) ho rfl r) (kt q)
theorem Base.ifnull (B : Base p l e R s m args below meth c Z y bytes maxL ret h0 ws C) (pt pf : Nat) {o : Int} (hpt : ((pc : Int) + o).toNat = pt) (ho : 0 ≤ (pc : Int) + o) (hpf : pf = pc + 3) {x : Value} (hd : decode bytes pc = .ok (.ifnull o, 3)) (hx' : x.isRef = true) (kt : x = .null → B.G h cl sl (mkF m pt Ls st)) (kf : ¬ x = .null → B.G h cl sl (mkF m pf Ls st)) : B.G h cl sl (mkF m pc Ls (x :: st)) := by
  subst hpt hpf
  by_cases q : x = .null
  · exact B.via (fun T t X r => XT.nullYes X B.1 rfl rfl (hb B.2.1 hd) rfl q ho rfl r) (kt q)
  · exact B.via (fun T t X r => XT.nullNo X B.1 rfl (hb B.2.1 hd) rfl hx' q r) (kf q)
theorem Base.ifnonnull (B : Base p l e R s m args below meth c Z y bytes maxL ret h0 ws C) (pt pf : Nat) {o : Int} (hpt : ((pc : Int) + o).toNat = pt) (ho : 0 ≤ (pc : Int) + o) (hpf : pf = pc + 3) {x : Value} (hd : decode bytes pc = .ok (.ifnonnull o, 3)) (hx' : x.isRef = true) (kt : ¬ x = .null → B.G h cl sl (mkF m pt Ls st)) (kf : x = .null → B.G h cl sl (mkF m pf Ls st)) : B.G h cl sl (mkF m pc Ls (x :: st)) := by
  subst hpt hpf
  by_cases q : x = .null
  · exact B.via (fun T t X r => XT.nonnullNo X B.1 rfl (hb B.2.1 hd) rfl q r) (kf q)
  · exact B.via (fun T t X r => XT.nonnullYes X B.1 rfl rfl (hb B.2.1 hd) rfl hx' q ho rfl r) (kt q)
theorem Base.topI (B : Base p l e R s m args below meth c Z y bytes maxL ret h0 ws C) {x : Int32} (v : Int32) (q : x = v) (k : B.G h cl sl (mkF m pc Ls (.int v :: st))) : B.G h cl sl (mkF m pc Ls (.int x :: st)) := by subst q; exact k
theorem Base.topL (B : Base p l e R s m args below meth c Z y bytes maxL ret h0 ws C) {x : Int64} (v : Int64) (q : x = v) (k : B.G h cl sl (mkF m pc Ls (.long v :: st))) : B.G h cl sl (mkF m pc Ls (.long x :: st)) := by subst q; exact k
/-! 2. the ends -/
theorem Base.leave (B : Base p l e R s m args below meth c Z y bytes maxL ret h0 ws C) (hcl : cl ≤ R.cells) (hsl : sl ≤ R.slots) {v : Option Value} (hv : meth.sig.returnType = none → v = none) (hC : C v h)
    (st : ∀ (T : State) (locs : List Loc) (fs : List Frame), Stand p l e R s m args below meth c T locs cl sl → (∀ (f : JFrame) (acts : List Action), f.method = m → f.locked = none → f.entered = [] → (doReturn e (T.setTop f) acts v).1 = T.setFrames fs) → Steps p.tables e below (T.setTop g) (T.setFrames fs)) : B.G h cl sl g := fun T locs X N eT => by
  have hlk : meth.locks = false := B.2.2.2.2.2.2.1
  obtain ⟨fs, hr, hrun, hended, hW, hsame⟩ := X.leave (v := v) hv hlk
  have e0 := B.2.2.2.2.2.2.2.2
  refine ⟨_, _, st T locs fs X hr, hrun, hended, _, _, rfl, ⟨?_, N, ?_⟩, ⟨_, rfl⟩, hW, hsame.mono hcl hsl⟩
  · show C v T.heap
    rw [eT]; exact hC
  · show Keep h0 T.heap ws
    rw [← e0] at N ⊢
    exact keep_of X N
theorem Base.ret0 (B : Base p l e R s m args below meth c Z y bytes maxL none h0 ws C) (hd : decode bytes pc = .ok (.return_, 1)) (hcl : cl ≤ R.cells) (hsl : sl ≤ R.slots) (hC : C none h) : B.G h cl sl (mkF m pc Ls []) :=
  B.leave hcl hsl (fun _ => rfl) hC fun T locs fs X hr => X.returnOut B.1 B.2.2.2.2.2.1 (hb B.2.1 hd) hr
theorem Base.retI (B : Base p l e R s m args below meth c Z y bytes maxL (some .int) h0 ws C) {x : Int32} (hd : decode bytes pc = .ok (.ireturn, 1)) (hcl : cl ≤ R.cells) (hsl : sl ≤ R.slots) (hC : C (some (.int x)) h) : B.G h cl sl (mkF m pc Ls (.int x :: st)) :=
  B.leave hcl hsl (fun q => by rw [B.2.2.2.2.2.1] at q; cases q) hC fun T locs fs X hr => retOut X B.1 B.2.2.2.2.2.1 rfl (Or.inl ⟨rfl, Or.inl rfl, _, rfl⟩) (hb B.2.1 hd) hr
theorem Base.retL (B : Base p l e R s m args below meth c Z y bytes maxL (some .long) h0 ws C) {x : Int64} (hd : decode bytes pc = .ok (.lreturn, 1)) (hcl : cl ≤ R.cells) (hsl : sl ≤ R.slots) (hC : C (some (.long x)) h) : B.G h cl sl (mkF m pc Ls (.long x :: st)) :=
  B.leave hcl hsl (fun q => by rw [B.2.2.2.2.2.1] at q; cases q) hC fun T locs fs X hr => retOut X B.1 B.2.2.2.2.2.1 rfl (Or.inr (Or.inl ⟨rfl, rfl, _, rfl⟩)) (hb B.2.1 hd) hr
/-- a boolean, byte, char, short: what comes back is narrowed -/
theorem Base.retN {t : FieldType} (B : Base p l e R s m args below meth c Z y bytes maxL (some t) h0 ws C) {x : Int32} (ht : t = .boolean ∨ t = .byte ∨ t = .char ∨ t = .short) (hd : decode bytes pc = .ok (.ireturn, 1)) (hcl : cl ≤ R.cells) (hsl : sl ≤ R.slots) (hC : C (some (.int (nar t x))) h) : B.G h cl sl (mkF m pc Ls (.int x :: st)) :=
  B.leave hcl hsl (fun q => by rw [B.2.2.2.2.2.1] at q; cases q) hC fun T locs fs X hr => Jvm.RoadKit.retN X B.1 B.2.2.2.2.2.1 ht (hb B.2.1 hd) hr
theorem Base.retA {t : FieldType} (B : Base p l e R s m args below meth c Z y bytes maxL (some t) h0 ws C) {x : Value} (ht : t.isReference = true) (hx' : x.isRef = true) (hd : decode bytes pc = .ok (.areturn, 1)) (hcl : cl ≤ R.cells) (hsl : sl ≤ R.slots) (hC : C (some x) h) : B.G h cl sl (mkF m pc Ls (x :: st)) :=
  B.leave hcl hsl (fun q => by rw [B.2.2.2.2.2.1] at q; cases q) hC fun T locs fs X hr => retOut X B.1 B.2.2.2.2.2.1 (by rcases ref_cases hx' with rfl | ⟨a, rfl⟩ <;> cases t <;> simp_all [narrow, FieldType.isReference]) (Or.inr (Or.inr (Or.inr (Or.inr ⟨rfl, ht, hx'⟩)))) (hb B.2.1 hd) hr
/-! 3. the heap -/
theorem Base.size (B : Base p l e R s m args below meth c Z y bytes maxL ret h0 ws C) {T : State} {locs : List Loc} (X : Stand p l e R s m args below meth c T locs cl sl) : h0.size ≤ T.heap.size := by
  have q := X.same.2.1
  rw [B.2.2.2.2.2.2.2.2] at q; exact q
/-- the heap has only grown -/
theorem Base.grown (B : Base p l e R s m args below meth c Z y bytes maxL ret h0 ws C) (k : h0.size ≤ h.size → B.G h cl sl g) : B.G h cl sl g := fun T locs X N eT => k (by rw [← eT]; exact B.size X) T locs X N eT
theorem Base.getF (B : Base p l e R s m args below meth c Z y bytes maxL ret h0 ws C) (pc' : Nat) (hp : pc' = pc + 3) {i : Nat} {O n d : String} {a : Addr} {v : Value} (hd : decode bytes pc = .ok (.getfield i, 3)) (w : (Cond.fieldLink y.cls i O n d).before a0 Z = true) (F : Fld Z h a O n d v) (k : B.G h cl sl (mkF m pc' Ls (v :: st))) : B.G h cl sl (mkF m pc Ls (.ref a :: st)) := fun T locs X N eT => by
  subst hp
  obtain ⟨T', X', e', stp⟩ := Jvm.RoadKit.getF X B.1 B.2.2.2.1 B.2.2.2.2.1 (host := "") (Or.inl w) Via.refl eT F (g := mkF m pc Ls (.ref a :: st)) rfl rfl (hb B.2.1 hd)
  obtain ⟨t, o, q, r⟩ := k T' locs X' N e'
  exact ⟨t, o, stp _ q, r⟩
theorem Base.getS (B : Base p l e R s m args below meth c Z y bytes maxL ret h0 ws C) (pc' : Nat) (hp : pc' = pc + 3) {i : Nat} {O n d : String} {v : Value} (hd : decode bytes pc = .ok (.getstatic i, 3)) (w : (Cond.fieldLink y.cls i O n d).before a0 Z = true) (F : Sta Z h O n d v) (k : B.G h cl sl (mkF m pc' Ls (v :: st))) : B.G h cl sl (mkF m pc Ls st) := fun T locs X N eT => by
  subst hp
  obtain ⟨T', X', e', stp⟩ := Jvm.RoadKit.getS (host := "") X B.1 B.2.2.2.1 B.2.2.2.2.1 w Via.refl eT F (g := mkF m pc Ls st) rfl (hb B.2.1 hd)
  obtain ⟨t, o, q, r⟩ := k T' locs X' N e'
  exact ⟨t, o, stp _ q, r⟩
theorem Base.putF (B : Base p l e R s m args below meth c Z y bytes maxL ret h0 ws C) (pc' : Nat) (hp : pc' = pc + 3) {i kk : Nat} {O n d CC : String} {a : Addr} {v old : Value} {ty : FieldType} (hd : decode bytes pc = .ok (.putfield i, 3)) (w : (Cond.fieldLink y.cls i O n d).before a0 Z = true) (F : Fld Z h a O n d old) (E : Exa Z h a CC)
    (L : (Cond.lays CC O n d).before a0 Z = true ∨ ((Cond.laysFinal CC O n d).before a0 Z = true ∧ y.cls = O ∧ y.name = "<init>")) (wi : (Cond.instantiable CC kk).before a0 Z = true) (hty : parseFieldDescriptor d = some ty) (hn : narrow ty v = v) (hf : fits ty v = true) (hw : a ∈ ws ∨ h0.size ≤ a)
    (k : ∀ h', Wr h h' a (Jvm.RoadKit.slotOf Z O n d) v → B.G h' cl sl (mkF m pc' Ls st)) : B.G h cl sl (mkF m pc Ls (v :: .ref a :: st)) := fun T locs X N eT => by
  subst hp
  obtain ⟨T', h', X', e', W, stp⟩ := Jvm.RoadKit.putF X B.1 B.2.2.2.1 B.2.2.2.2.1 (host := "") (Or.inl w) Via.refl eT F E (L.imp id fun q => ⟨q.1, q.2.1, B.2.2.2.2.2.2.2.1.trans q.2.2⟩) wi hty hn hf (g := mkF m pc Ls (v :: .ref a :: st)) rfl rfl (hb B.2.1 hd)
  obtain ⟨t, o, q, r⟩ := k h' W T' _ X' (N.one hw) e'
  exact ⟨t, o, stp _ q, r⟩
theorem Base.newO (B : Base p l e R s m args below meth c Z y bytes maxL ret h0 ws C) (pc' : Nat) (hp : pc' = pc + 3) {i n : Nat} {CC : String} (hd : decode bytes pc = .ok (.new i, 3)) (w : (Cond.classLink y.cls i CC).before a0 Z = true) (wi : (Cond.instantiable CC n).before a0 Z = true) (wz : (Cond.initialized CC).before a0 Z = true) (hc : cl + 1 ≤ R.cells) (hs : sl + n ≤ R.slots)
    (k : ∀ h' a, a = h.size → h0.size ≤ a → Ext h h' → Exa Z h' a CC → (∀ {O nm d : String} {ty : FieldType}, Laid Z a0 CC O nm d → parseFieldDescriptor d = some ty → Fld Z h' a O nm d (defaultValue ty)) → B.G h' (cl + 1) (sl + n) (mkF m pc' Ls (.ref a :: st))) : B.G h cl sl (mkF m pc Ls st) := fun T locs X N eT => by
  subst hp
  obtain ⟨T', h', X', e', E, A, D, -, stp⟩ := Jvm.RoadKit.newO X B.1 B.2.2.2.1 B.2.2.2.2.1 w wi wz eT (g := mkF m pc Ls st) rfl (hb B.2.1 hd) hc hs
  obtain ⟨t, o, q, r⟩ := k h' _ rfl (by rw [← eT]; exact B.size X) E A D T' locs X' N e'
  exact ⟨t, o, stp _ q, r⟩
theorem Base.initO (B : Base p l e R s m args below meth c Z y bytes maxL ret h0 ws C) (pc' : Nat) (hp : pc' = pc + 3) {i : Nat} {a : Addr} (hd : decode bytes pc = .ok (.invokespecial i, 3)) (w1 : (Cond.methodLink y.cls i Lib.objectInit).before a0 Z = true) (w2 : (Cond.instanceMethod Lib.objectInit).before a0 Z = true) (w3 : (Cond.code Lib.objectInit ⟨#[0xb1]⟩ 1 none).before a0 Z = true)
    (hLs : Ls.size = maxL) (W : Nat) (hW : (st.map fun v => v.category).sum = W) (hf : 1 ≤ R.frames) (hl : W + 12 ≤ R.locals) (k : B.G h cl sl (mkF m pc' Ls st)) : B.G h cl sl (mkF m pc Ls (.ref a :: st)) := fun T locs X N eT => by
  subst hp
  obtain ⟨T', X', e', stp⟩ := Jvm.RoadKit.initO X B.1 B.2.2.2.1 B.2.2.2.2.1 w1 w2 w3 eT (g := mkF m pc Ls (.ref a :: st)) rfl (hLs.trans B.2.2.1.symm) rfl (hb B.2.1 hd) hf (W := W) (by show 2 * 0 + _ ≤ _; omega) hl
  obtain ⟨t, o, q, r⟩ := k T' locs X' N e'
  exact ⟨t, o, stp _ q, r⟩
/-! 4. calls -/
section Calls
variable {z : MethodName} {i : Nat} {cb : ByteArray} {cm : Nat} {cr : Option FieldType} {rm : Room} {as : Array Value} {ws' : List Addr} {C' : Option Value → Heap → Prop} {argsL rest : List Value} {ps : List FieldType} {rt : Option FieldType} {W : Nat}
theorem Base.callS (B : Base p l e R s m args below meth c Z y bytes maxL ret h0 ws C) (pc' : Nat) (hp : pc' = pc + 3) (hd : decode bytes pc = .ok (.invokestatic i, 3))
    (w1 : (Cond.methodLink y.cls i z).before a0 Z = true) (w2 : (Cond.static z).before a0 Z = true) (w3 : (Cond.initialized z.cls).before a0 Z = true) (w4 : (Cond.code z cb cm cr).before a0 Z = true)
    (hz : z.cls ≠ "java/lang/invoke/MethodHandle" ∧ z.cls ≠ "java/lang/invoke/VarHandle") (argsL rest : List Value) (M : Met l Z z cb cm cr [] rm as h ws' C') (has : argsL.toArray = as) (hst : st = argsL.reverse ++ rest) (hpd : parseMethodDescriptor z.desc = some ⟨ps, rt⟩) (hlen : argsL.length = ps.length) (hLs : Ls.size = maxL)
    (W : Nat) (hW : (rest.map fun v => v.category).sum = W) (hf : rm.frames + 1 ≤ R.frames) (hl : W + (cm + 11) + rm.locals ≤ R.locals) (hc : cl + rm.cells ≤ R.cells) (hs : sl + rm.slots ≤ R.slots) (hws : ∀ x ∈ ws', x ∈ ws ∨ h0.size ≤ x)
    (k : ∀ v h', Keep h h' ws' → C' v h' → B.G h' (cl + rm.cells) (sl + rm.slots) (mkF m pc' Ls (v.toList ++ rest))) : B.G h cl sl (mkF m pc Ls st) := fun T locs X N eT => by
  subst hp
  have hZ := B.2.2.2.1
  obtain ⟨v, _, ⟨T', L', k', n'⟩, -, X', ⟨Lc, hQ, l', y', z'⟩, stp⟩ := Jvm.LawKit.callS X B.1 (y := z) B.2.2.2.2.1 (mvT hZ w1) (mvT hZ w2) (mvT hZ w3) (mvT hZ w4) hz (backOf (W := W) M hZ w4 w3 hf hl) (g := mkF m pc Ls st) rfl (hLs.trans B.2.2.1.symm) (argsL := argsL) (rest := rest) (lenOf hpd hlen) hst (by show 2 * 0 + _ ≤ _; omega) (hb B.2.1 hd) (fun _ _ => ⟨has, eT, hc, hs⟩)
  dsimp only [Pt.U, Pt.locs, Pt.cells, Pt.slots] at X' l' y' z' stp hQ
  subst l' y' z'
  obtain ⟨hC, hN, hK⟩ := hQ
  obtain ⟨t, o, q, r⟩ := k v T'.heap hK hC T' _ X' (N.app fun u hu => (hN u hu).elim (fun q => hws _ q) fun q => Or.inr (Nat.le_trans (by rw [← eT]; exact B.size X) q)) rfl
  exact ⟨t, o, stp _ q, r⟩
theorem Base.callI (B : Base p l e R s m args below meth c Z y bytes maxL ret h0 ws C) (pc' : Nat) (hp : pc' = pc + 3) (hd : decode bytes pc = .ok (.invokespecial i, 3)) (hin : z.name = "<init>")
    (w1 : (Cond.methodLink y.cls i z).before a0 Z = true) (w2 : (Cond.instanceMethod z).before a0 Z = true) (w3 : (Cond.initialized z.cls).before a0 Z = true) (w4 : (Cond.code z cb cm none).before a0 Z = true)
    (hz : z.cls ≠ "java/lang/invoke/MethodHandle" ∧ z.cls ≠ "java/lang/invoke/VarHandle") {a : Addr} (argsL rest : List Value) (M : Met l Z z cb cm none [] rm as h ws' C') (has : (.ref a :: argsL).toArray = as) (hst : st = argsL.reverse ++ .ref a :: rest) (hpd : parseMethodDescriptor z.desc = some ⟨ps, rt⟩) (hlen : argsL.length = ps.length) (hLs : Ls.size = maxL)
    (W : Nat) (hW : (rest.map fun v => v.category).sum = W) (hf : rm.frames + 1 ≤ R.frames) (hl : W + (cm + 11) + rm.locals ≤ R.locals) (hc : cl + rm.cells ≤ R.cells) (hs : sl + rm.slots ≤ R.slots) (hws : ∀ x ∈ ws', x ∈ ws ∨ h0.size ≤ x)
    (k : ∀ v h', Keep h h' ws' → C' v h' → B.G h' (cl + rm.cells) (sl + rm.slots) (mkF m pc' Ls (v.toList ++ rest))) : B.G h cl sl (mkF m pc Ls st) := fun T locs X N eT => by
  subst hp
  have hZ := B.2.2.2.1
  obtain ⟨v, _, ⟨T', L', k', n'⟩, -, X', ⟨Lc, hQ, l', y', z'⟩, stp⟩ := X.specialBack B.1 (y := z) hin B.2.2.2.2.1 (mvT hZ w1) (mvT hZ w2) (mvT hZ w4) hz (backOf (W := W) M hZ w4 w3 hf hl) (g := mkF m pc Ls st) rfl (hLs.trans B.2.2.1.symm) (Steps.refl _) (a := a) (argsL := argsL) (rest := rest) (lenOf hpd hlen) hst (by show 2 * 0 + _ ≤ _; omega) (hb B.2.1 hd) (fun _ _ => ⟨has, eT, hc, hs⟩)
  dsimp only [Pt.U, Pt.locs, Pt.cells, Pt.slots] at X' l' y' z' stp hQ
  subst l' y' z'
  obtain ⟨hC, hN, hK⟩ := hQ
  obtain ⟨t, o, q, r⟩ := k v T'.heap hK hC T' _ X' (N.app fun u hu => (hN u hu).elim (fun q => hws _ q) fun q => Or.inr (Nat.le_trans (by rw [← eT]; exact B.size X) q)) rfl
  exact ⟨t, o, stp.trans q, r⟩
theorem Base.callV (B : Base p l e R s m args below meth c Z y bytes maxL ret h0 ws C) (pc' : Nat) (hp : pc' = pc + 3) (hd : decode bytes pc = .ok (.invokevirtual i, 3)) {CC : String}
    (w1 : (Cond.methodLink y.cls i z).before a0 Z = true) (w2 : (Cond.declares z).before a0 Z = true) (w5 : (Cond.selects CC z z).before a0 Z = true) (w6 : (Cond.instanceMethod z).before a0 Z = true) (w3 : (Cond.initialized z.cls).before a0 Z = true) (w4 : (Cond.code z cb cm cr).before a0 Z = true)
    (hz : z.cls ≠ "java/lang/invoke/MethodHandle" ∧ z.cls ≠ "java/lang/invoke/VarHandle") {a : Addr} (E : Exa Z h a CC) (argsL rest : List Value) (M : Met l Z z cb cm cr [] rm as h ws' C') (has : (.ref a :: argsL).toArray = as) (hst : st = argsL.reverse ++ .ref a :: rest) (hpd : parseMethodDescriptor z.desc = some ⟨ps, rt⟩) (hlen : argsL.length = ps.length) (hLs : Ls.size = maxL)
    (W : Nat) (hW : (rest.map fun v => v.category).sum = W) (hf : rm.frames + 1 ≤ R.frames) (hl : W + (cm + 11) + rm.locals ≤ R.locals) (hc : cl + rm.cells ≤ R.cells) (hs : sl + rm.slots ≤ R.slots) (hws : ∀ x ∈ ws', x ∈ ws ∨ h0.size ≤ x)
    (k : ∀ v h', Keep h h' ws' → C' v h' → B.G h' (cl + rm.cells) (sl + rm.slots) (mkF m pc' Ls (v.toList ++ rest))) : B.G h cl sl (mkF m pc Ls st) := fun T locs X N eT => by
  subst hp
  have hZ := B.2.2.2.1
  obtain ⟨cq, kq, qa, qb, qc⟩ := isOf hZ eT E
  obtain ⟨v, _, ⟨T', L', k', n'⟩, -, X', ⟨Lc, hQ, l', y', z'⟩, stp⟩ := X.virtualBack B.1 (y := z) (z := z) B.2.2.2.2.1 (mvT hZ w1) (mvT hZ w2) (notFace_of_selects (args := args) (mvT hZ w5)) (mvT hZ w5) (mvT hZ w6) hz (backOf (W := W) M hZ w4 w3 hf hl) qa qc (g := mkF m pc Ls st) rfl (hLs.trans B.2.2.1.symm) (Steps.refl _) (argsL := argsL) (rest := rest) (lenOf hpd hlen) hst (by show 2 * 0 + _ ≤ _; omega) (hb B.2.1 hd) (fun _ _ => ⟨has, eT, hc, hs⟩)
  dsimp only [Pt.U, Pt.locs, Pt.cells, Pt.slots] at X' l' y' z' stp hQ
  subst l' y' z'
  obtain ⟨hC, hN, hK⟩ := hQ
  obtain ⟨t, o, q, r⟩ := k v T'.heap hK hC T' _ X' (N.app fun u hu => (hN u hu).elim (fun q => hws _ q) fun q => Or.inr (Nat.le_trans (by rw [← eT]; exact B.size X) q)) rfl
  exact ⟨t, o, stp.trans q, r⟩
theorem Base.callVU (B : Base p l e R s m args below meth c Z y bytes maxL ret h0 ws C) (pc' : Nat) (hp : pc' = pc + 3) (hd : decode bytes pc = .ok (.invokevirtual i, 3)) {x : MethodName} {CC ow : String}
    (w1 : (Cond.methodLink y.cls i x).before a0 Z = true) (w0 : (Cond.sameMethod x.cls ow x.name x.desc).before a0 Z = true) (w2 : (Cond.declares ⟨ow, x.name, x.desc⟩).before a0 Z = true) (w5 : (Cond.selects CC x z).before a0 Z = true) (w6 : (Cond.instanceMethod z).before a0 Z = true) (w3 : (Cond.initialized z.cls).before a0 Z = true) (w4 : (Cond.code z cb cm cr).before a0 Z = true)
    (hz : ow ≠ "java/lang/invoke/MethodHandle" ∧ ow ≠ "java/lang/invoke/VarHandle") {a : Addr} (E : Exa Z h a CC) (argsL rest : List Value) (M : Met l Z z cb cm cr [] rm as h ws' C') (has : (.ref a :: argsL).toArray = as) (hst : st = argsL.reverse ++ .ref a :: rest) (hpd : parseMethodDescriptor x.desc = some ⟨ps, rt⟩) (hlen : argsL.length = ps.length) (hLs : Ls.size = maxL)
    (W : Nat) (hW : (rest.map fun v => v.category).sum = W) (hf : rm.frames + 1 ≤ R.frames) (hl : W + (cm + 11) + rm.locals ≤ R.locals) (hc : cl + rm.cells ≤ R.cells) (hs : sl + rm.slots ≤ R.slots) (hws : ∀ x ∈ ws', x ∈ ws ∨ h0.size ≤ x)
    (k : ∀ v h', Keep h h' ws' → C' v h' → B.G h' (cl + rm.cells) (sl + rm.slots) (mkF m pc' Ls (v.toList ++ rest))) : B.G h cl sl (mkF m pc Ls st) := fun T locs X N eT => by
  subst hp
  have hZ := B.2.2.2.1
  obtain ⟨cq, kq, qa, qb, qc⟩ := isOf hZ eT E
  obtain ⟨v, _, ⟨T', L', k', n'⟩, -, X', ⟨Lc, hQ, l', y', z'⟩, stp⟩ := X.virtualBackUp B.1 (x := x) (y := z) B.2.2.2.2.1 (mvT hZ w1) (mvT hZ w0) (mvT hZ w2) hz (mvT hZ w5) (mvT hZ w6) (backOf (W := W) M hZ w4 w3 hf hl) qa qc (g := mkF m pc Ls st) rfl (hLs.trans B.2.2.1.symm) (Steps.refl _) (argsL := argsL) (rest := rest) (lenOf hpd hlen) hst (by show 2 * 0 + _ ≤ _; omega) (hb B.2.1 hd) (fun _ _ => ⟨has, eT, hc, hs⟩)
  dsimp only [Pt.U, Pt.locs, Pt.cells, Pt.slots] at X' l' y' z' stp hQ
  subst l' y' z'
  obtain ⟨hC, hN, hK⟩ := hQ
  obtain ⟨t, o, q, r⟩ := k v T'.heap hK hC T' _ X' (N.app fun u hu => (hN u hu).elim (fun q => hws _ q) fun q => Or.inr (Nat.le_trans (by rw [← eT]; exact B.size X) q)) rfl
  exact ⟨t, o, stp.trans q, r⟩
theorem Base.callP (B : Base p l e R s m args below meth c Z y bytes maxL ret h0 ws C) (pc' : Nat) (hp : pc' = pc + 3) (hd : decode bytes pc = .ok (.invokevirtual i, 3)) {x : MethodName} {CC : String}
    (w1 : (Cond.methodLink y.cls i z).before a0 Z = true) (w7 : (Cond.privateMethod z).before a0 Z = true) (w6 : (Cond.instanceMethod z).before a0 Z = true) (w5 : (Cond.selects CC x x).before a0 Z = true) (hxc : x.cls = z.cls) (w3 : (Cond.initialized z.cls).before a0 Z = true) (w4 : (Cond.code z cb cm cr).before a0 Z = true)
    (hz : z.cls ≠ "java/lang/invoke/MethodHandle" ∧ z.cls ≠ "java/lang/invoke/VarHandle") {a : Addr} {CE : String} (E : Exa Z h a CE) (argsL rest : List Value) (M : Met l Z z cb cm cr [] rm as h ws' C') (has : (.ref a :: argsL).toArray = as) (hst : st = argsL.reverse ++ .ref a :: rest) (hpd : parseMethodDescriptor z.desc = some ⟨ps, rt⟩) (hlen : argsL.length = ps.length) (hLs : Ls.size = maxL)
    (W : Nat) (hW : (rest.map fun v => v.category).sum = W) (hf : rm.frames + 1 ≤ R.frames) (hl : W + (cm + 11) + rm.locals ≤ R.locals) (hc : cl + rm.cells ≤ R.cells) (hs : sl + rm.slots ≤ R.slots) (hws : ∀ x ∈ ws', x ∈ ws ∨ h0.size ≤ x)
    (k : ∀ v h', Keep h h' ws' → C' v h' → B.G h' (cl + rm.cells) (sl + rm.slots) (mkF m pc' Ls (v.toList ++ rest))) : B.G h cl sl (mkF m pc Ls st) := fun T locs X N eT => by
  subst hp
  have hZ := B.2.2.2.1
  obtain ⟨cq, q1, q2⟩ := E.cell
  have hpr : s.PrivateAt z := Cond.privateMethod_at (mvP hZ w7 (args := args))
  have hi : (Cond.instanceMethod z).before args s = true := mvT hZ w6
  have hsel : (Cond.selects z.cls z z).before args s = true := by
    obtain ⟨c2, r2, m2, -, -, q3, -, kP, hkP, hkPi⟩ := Cond.selects_spec (mvT hZ w5 (args := args))
    have hc2 := findClass_of_methodNamed q3
    rw [hxc] at hc2
    exact selects_self_of_private hc2 hkP hkPi hpr hi hz
  obtain ⟨v, _, ⟨T', L', k', n'⟩, -, X', ⟨Lc, hQ, l', y', z'⟩, stp⟩ := X.privateBack B.1 (y := z) B.2.2.2.2.1 (mvT hZ w1) hi hsel hpr (mvT hZ w4) hz (backOf (W := W) M hZ w4 w3 hf hl) (g := mkF m pc Ls st) rfl (hLs.trans B.2.2.1.symm) (Steps.refl _) (a := a) (by rw [eT]; exact q1) q2 (argsL := argsL) (rest := rest) (lenOf hpd hlen) hst (by show 2 * 0 + _ ≤ _; omega) (hb B.2.1 hd) (fun _ _ => ⟨has, eT, hc, hs⟩)
  dsimp only [Pt.U, Pt.locs, Pt.cells, Pt.slots] at X' l' y' z' stp hQ
  subst l' y' z'
  obtain ⟨hC, hN, hK⟩ := hQ
  obtain ⟨t, o, q, r⟩ := k v T'.heap hK hC T' _ X' (N.app fun u hu => (hN u hu).elim (fun q => hws _ q) fun q => Or.inr (Nat.le_trans (by rw [← eT]; exact B.size X) q)) rfl
  exact ⟨t, o, stp.trans q, r⟩
end Calls
/-- where nothing old is written, all that stood at the start stands -/
theorem Base.olds (B : Base p l e R s m args below meth c Z y bytes maxL ret h0 [] C) (k : Ext h0 h → B.G h cl sl g) : B.G h cl sl g := fun T locs X N eT => by
  refine k ?_ T locs X N eT
  have e0 := B.2.2.2.2.2.2.2.2
  have N' := N
  rw [← e0] at N'
  have q := keep_of X N'
  rw [e0, eT] at q
  exact ⟨q.1, fun a c hc => q.2.1 a c hc (by simp)⟩
end Walk
/-! 3b. arrays: 'Ary': the array at a holds just the list vs -/
def Ary (Z : State) (h : Heap) (a : Addr) (ty : FieldType) (vs : List Value) : Prop := ∃ c : Cell, Arr Z h a c ty ∧ c.slots.toList = vs
section Arrays
variable {p : Program} {l : Launch} {e : Env} {R : Room} {s : State} {m : MethodId} {args : Array Value} {below : List Frame} {meth : Method} {c : Code} {Z : State} {a0 : Array Value} {y : MethodName} {bytes : ByteArray} {maxL : Nat} {ret : Option FieldType} {h0 : Heap} {ws : List Addr} {C : Option Value → Heap → Prop}
variable {h h' : Heap} {cl sl : Nat} {g g' : JFrame} {pc : Nat} {Ls : Array Slot} {st : List Value} {a b : Addr} {ty : FieldType} {vs : List Value} {j : Int32} {i : Nat} {v w : Value} {wl : List Addr}
theorem Ary.lt (A : Ary Z h a ty vs) : a < h.size := by obtain ⟨c, A, -⟩ := A; exact A.lt
theorem Ary.ext (A : Ary Z h a ty vs) (E : Ext h h') : Ary Z h' a ty vs := by obtain ⟨c, A, r⟩ := A; exact ⟨c, A.ext E, r⟩
theorem Ary.other (A : Ary Z h b ty vs) (W : Wr h h' a i v) (q : b ≠ a) : Ary Z h' b ty vs := by obtain ⟨c, A, r⟩ := A; exact ⟨c, A.other W q, r⟩
theorem Ary.keep (A : Ary Z h a ty vs) (K : Keep h h' wl) (q : a ∉ wl) : Ary Z h' a ty vs := by obtain ⟨c, A, r⟩ := A; exact ⟨c, ⟨K.2.1 a c A.1 q, A.2⟩, r⟩
theorem Ary.set (A : Ary Z h a ty vs) (W : Wr h h' a i v) : Ary Z h' a ty (vs.set i v) := by
  obtain ⟨c, A, rfl⟩ := A
  exact ⟨_, A.same W, by simp [Cell.setSlot]⟩
theorem Ary.new {cA : ClassId} {n : Int32} (A : Arr Z h a (newA cA ty n) ty) : Ary Z h a ty (List.replicate n.toNatClampNeg (defaultValue ty)) := ⟨_, A, by simp [newA]⟩
theorem ary_in {c : Cell} (r : c.slots.toList = vs) (hj : ¬ j < 0) (hi : j.toNatClampNeg = i) (hv : vs[i]? = some v) : ¬ (j < 0 ∨ c.slots.size ≤ j.toNatClampNeg) ∧ c.slots[j.toNatClampNeg]? = some v := by
  subst r hi
  rw [Array.getElem?_toList] at hv
  exact ⟨fun q => q.elim hj fun q => absurd (Array.getElem?_eq_some_iff.mp hv).1 (Nat.not_lt.mpr q), hv⟩
theorem ary_lt {c : Cell} (r : c.slots.toList = vs) (hj : ¬ j < 0) (hi : j.toNatClampNeg = i) (hv : i < vs.length) : ¬ (j < 0 ∨ c.slots.size ≤ j.toNatClampNeg) := by
  subst r hi
  rw [Array.length_toList] at hv
  exact fun q => q.elim hj fun q => absurd hv (Nat.not_lt.mpr q)
theorem Base.arrlen (B : Base p l e R s m args below meth c Z y bytes maxL ret h0 ws C) (pc' : Nat) (hp : pc' = pc + 1) (hd : decode bytes pc = .ok (.arraylength, 1)) (A : Ary Z h a ty vs) (n : Int32) (hn : vs.length.toInt32 = n) (k : B.G h cl sl (mkF m pc' Ls (.int n :: st))) : B.G h cl sl (mkF m pc Ls (.ref a :: st)) := by
  subst hp hn
  obtain ⟨c1, A, rfl⟩ := A
  rw [Array.length_toList] at k
  exact B.viaX (fun T t L X eT r => X.arraylength (g := mkF m pc Ls (.ref a :: st)) B.1 (by rw [eT]; exact A.1) (State.isArrayOf_alike (T := s) B.2.2.2.1.alike A.2.1) rfl rfl (hb B.2.1 hd) t r) k
theorem Base.baload (B : Base p l e R s m args below meth c Z y bytes maxL ret h0 ws C) (pc' : Nat) (hp : pc' = pc + 1) (hd : decode bytes pc = .ok (.baload, 1)) (A : Ary Z h a .byte vs) (hj : ¬ j < 0) (i : Nat) (hi : j.toNatClampNeg = i) (v : Value) (hv : vs[i]? = some v) (k : B.G h cl sl (mkF m pc' Ls (v :: st))) : B.G h cl sl (mkF m pc Ls (.int j :: .ref a :: st)) := by
  subst hp
  obtain ⟨c1, A, r⟩ := A
  obtain ⟨q1, q2⟩ := ary_in r hj hi hv
  exact B.viaX (fun T t L X eT r => X.baloadBytes (g := mkF m pc Ls (.int j :: .ref a :: st)) B.1 (by rw [eT]; exact A.1) (State.isArrayOf_alike (T := s) B.2.2.2.1.alike A.2.1) A.2.2 q1 q2 rfl rfl (hb B.2.1 hd) t r) k
theorem Base.iaload (B : Base p l e R s m args below meth c Z y bytes maxL ret h0 ws C) (pc' : Nat) (hp : pc' = pc + 1) (hd : decode bytes pc = .ok (.iaload, 1)) (A : Ary Z h a .int vs) (hj : ¬ j < 0) (i : Nat) (hi : j.toNatClampNeg = i) (v : Value) (hv : vs[i]? = some v) (k : B.G h cl sl (mkF m pc' Ls (v :: st))) : B.G h cl sl (mkF m pc Ls (.int j :: .ref a :: st)) := by
  subst hp
  obtain ⟨c1, A, r⟩ := A
  obtain ⟨q1, q2⟩ := ary_in r hj hi hv
  exact B.viaX (fun T t L X eT r => X.iaload (g := mkF m pc Ls (.int j :: .ref a :: st)) B.1 (by rw [eT]; exact A.1) (State.isArrayOf_alike (T := s) B.2.2.2.1.alike A.2.1) A.2.2 q1 q2 rfl rfl (hb B.2.1 hd) t r) k
theorem Base.laload (B : Base p l e R s m args below meth c Z y bytes maxL ret h0 ws C) (pc' : Nat) (hp : pc' = pc + 1) (hd : decode bytes pc = .ok (.laload, 1)) (A : Ary Z h a .long vs) (hj : ¬ j < 0) (i : Nat) (hi : j.toNatClampNeg = i) (v : Value) (hv : vs[i]? = some v) (k : B.G h cl sl (mkF m pc' Ls (v :: st))) : B.G h cl sl (mkF m pc Ls (.int j :: .ref a :: st)) := by
  subst hp
  obtain ⟨c1, A, r⟩ := A
  obtain ⟨q1, q2⟩ := ary_in r hj hi hv
  exact B.viaX (fun T t L X eT r => X.laload (g := mkF m pc Ls (.int j :: .ref a :: st)) B.1 (by rw [eT]; exact A.1) (State.isArrayOf_alike (T := s) B.2.2.2.1.alike A.2.1) A.2.2 q1 q2 rfl rfl (hb B.2.1 hd) t r) k
theorem Base.newP (B : Base p l e R s m args below meth c Z y bytes maxL ret h0 ws C) (pc' : Nat) (hp : pc' = pc + 2) {aty : ArrayType} (hd : decode bytes pc = .ok (.newarray aty, 2)) (w : (Cond.arrayClass (newarray.typeOf aty)).before a0 Z = true) {n : Int32} (hn : ¬ n < 0) (cap : Nat) (hcap : n.toNatClampNeg ≤ cap) (hb' : cap * 8 ≤ 536870912) (hc : cl + 1 ≤ R.cells) (hs : sl + cap ≤ R.slots)
    (k : ∀ h' a, a = h.size → h0.size ≤ a → Ext h h' → Ary Z h' a (newarray.typeOf aty) (List.replicate n.toNatClampNeg (defaultValue (newarray.typeOf aty))) → B.G h' (cl + 1) (sl + cap) (mkF m pc' Ls (.ref a :: st))) : B.G h cl sl (mkF m pc Ls (.int n :: st)) := fun T locs X N eT => by
  subst hp
  obtain ⟨T', h', cA, X', e', E, A, stp⟩ := Jvm.RoadKit.newP X B.1 B.2.2.2.1 w eT (g := mkF m pc Ls (.int n :: st)) rfl (hb B.2.1 hd) rfl hn hcap hb' hc hs
  obtain ⟨t, o, q, r⟩ := k h' _ rfl (by rw [← eT]; exact B.size X) E (Ary.new A) T' locs X' N e'
  exact ⟨t, o, stp _ q, r⟩
theorem Base.bastore (B : Base p l e R s m args below meth c Z y bytes maxL ret h0 ws C) (pc' : Nat) (hp : pc' = pc + 1) (hd : decode bytes pc = .ok (.bastore, 1)) (A : Ary Z h a .byte vs) (hj : ¬ j < 0) (i : Nat) (hi : j.toNatClampNeg = i) (hlt : i < vs.length) (hw : a ∈ ws ∨ h0.size ≤ a) {x : Int32} (k : ∀ h', Wr h h' a i (.int x.toInt8.toInt32) → Ary Z h' a .byte (vs.set i (.int x.toInt8.toInt32)) → B.G h' cl sl (mkF m pc' Ls st)) : B.G h cl sl (mkF m pc Ls (.int x :: .int j :: .ref a :: st)) := fun T locs X N eT => by
  subst hp
  obtain ⟨c1, A1, r1⟩ := A
  obtain ⟨T', h', X', e', W, stp⟩ := stB X B.1 B.2.2.2.1 eT A1 (ary_lt r1 hj hi hlt) (g := mkF m pc Ls (.int x :: .int j :: .ref a :: st)) rfl rfl (hb B.2.1 hd)
  rw [hi] at W
  obtain ⟨t, o, q, r⟩ := k h' W (Ary.set ⟨c1, A1, r1⟩ W) T' _ X' (N.one hw) e'
  exact ⟨t, o, stp _ q, r⟩
theorem Base.iastore (B : Base p l e R s m args below meth c Z y bytes maxL ret h0 ws C) (pc' : Nat) (hp : pc' = pc + 1) (hd : decode bytes pc = .ok (.iastore, 1)) (A : Ary Z h a .int vs) (hj : ¬ j < 0) (i : Nat) (hi : j.toNatClampNeg = i) (hlt : i < vs.length) (hw : a ∈ ws ∨ h0.size ≤ a) {x : Int32} (k : ∀ h', Wr h h' a i (.int x) → Ary Z h' a .int (vs.set i (.int x)) → B.G h' cl sl (mkF m pc' Ls st)) : B.G h cl sl (mkF m pc Ls (.int x :: .int j :: .ref a :: st)) := fun T locs X N eT => by
  subst hp
  obtain ⟨c1, A1, r1⟩ := A
  obtain ⟨T', h', X', e', W, stp⟩ := stI X B.1 B.2.2.2.1 eT A1 (ary_lt r1 hj hi hlt) (g := mkF m pc Ls (.int x :: .int j :: .ref a :: st)) rfl rfl (hb B.2.1 hd)
  rw [hi] at W
  obtain ⟨t, o, q, r⟩ := k h' W (Ary.set ⟨c1, A1, r1⟩ W) T' _ X' (N.one hw) e'
  exact ⟨t, o, stp _ q, r⟩
theorem Base.lastore (B : Base p l e R s m args below meth c Z y bytes maxL ret h0 ws C) (pc' : Nat) (hp : pc' = pc + 1) (hd : decode bytes pc = .ok (.lastore, 1)) (A : Ary Z h a .long vs) (hj : ¬ j < 0) (i : Nat) (hi : j.toNatClampNeg = i) (hlt : i < vs.length) (hw : a ∈ ws ∨ h0.size ≤ a) {x : Int64} (k : ∀ h', Wr h h' a i (.long x) → Ary Z h' a .long (vs.set i (.long x)) → B.G h' cl sl (mkF m pc' Ls st)) : B.G h cl sl (mkF m pc Ls (.long x :: .int j :: .ref a :: st)) := fun T locs X N eT => by
  subst hp
  obtain ⟨c1, A1, r1⟩ := A
  obtain ⟨T', h', X', e', W, stp⟩ := stJ X B.1 B.2.2.2.1 eT A1 (ary_lt r1 hj hi hlt) (g := mkF m pc Ls (.long x :: .int j :: .ref a :: st)) rfl rfl (hb B.2.1 hd)
  rw [hi] at W
  obtain ⟨t, o, q, r⟩ := k h' W (Ary.set ⟨c1, A1, r1⟩ W) T' _ X' (N.one hw) e'
  exact ⟨t, o, stp _ q, r⟩
theorem Base.caload (B : Base p l e R s m args below meth c Z y bytes maxL ret h0 ws C) (pc' : Nat) (hp : pc' = pc + 1) (hd : decode bytes pc = .ok (.caload, 1)) (A : Ary Z h a .char vs) (hj : ¬ j < 0) (i : Nat) (hi : j.toNatClampNeg = i) (v : Value) (hv : vs[i]? = some v) (k : B.G h cl sl (mkF m pc' Ls (v :: st))) : B.G h cl sl (mkF m pc Ls (.int j :: .ref a :: st)) := by
  subst hp
  obtain ⟨c1, A, r⟩ := A
  obtain ⟨q1, q2⟩ := ary_in r hj hi hv
  exact B.viaX (fun T t L X eT r => X.caload (g := mkF m pc Ls (.int j :: .ref a :: st)) B.1 (by rw [eT]; exact A.1) (State.isArrayOf_alike (T := s) B.2.2.2.1.alike A.2.1) A.2.2 q1 q2 rfl rfl (hb B.2.1 hd) t r) k
theorem Base.castore (B : Base p l e R s m args below meth c Z y bytes maxL ret h0 ws C) (pc' : Nat) (hp : pc' = pc + 1) (hd : decode bytes pc = .ok (.castore, 1)) (A : Ary Z h a .char vs) (hj : ¬ j < 0) (i : Nat) (hi : j.toNatClampNeg = i) (hlt : i < vs.length) (hw : a ∈ ws ∨ h0.size ≤ a) {x : Int32} (k : ∀ h', Wr h h' a i (.int x.toUInt32.toUInt16.toUInt32.toInt32) → Ary Z h' a .char (vs.set i (.int x.toUInt32.toUInt16.toUInt32.toInt32)) → B.G h' cl sl (mkF m pc' Ls st)) : B.G h cl sl (mkF m pc Ls (.int x :: .int j :: .ref a :: st)) := fun T locs X N eT => by
  subst hp
  obtain ⟨c1, A1, r1⟩ := A
  obtain ⟨T', h', X', e', W, stp⟩ := stC X B.1 B.2.2.2.1 eT A1 (ary_lt r1 hj hi hlt) (g := mkF m pc Ls (.int x :: .int j :: .ref a :: st)) rfl rfl (hb B.2.1 hd)
  rw [hi] at W
  obtain ⟨t, o, q, r⟩ := k h' W (Ary.set ⟨c1, A1, r1⟩ W) T' _ X' (N.one hw) e'
  exact ⟨t, o, stp _ q, r⟩
theorem Base.newPE (B : Base p l e R s m args below meth c Z y bytes maxL ret h0 ws C) (pc' : Nat) (hp : pc' = pc + 2) {aty : ArrayType} (hd : decode bytes pc = .ok (.newarray aty, 2)) (w : (Cond.arrayClass (newarray.typeOf aty)).before a0 Z = true) {n : Int32} (hn : ¬ n < 0) (cap : Nat) (hcap : n.toNatClampNeg ≤ cap) (hb' : cap * 8 ≤ 536870912) (hc : cl + 1 ≤ R.cells) (hs : sl + cap ≤ R.slots) (ad : String) (had : "[" ++ (newarray.typeOf aty).toString = ad)
    (k : ∀ h' a, a = h.size → h0.size ≤ a → Ext h h' → Ary Z h' a (newarray.typeOf aty) (List.replicate n.toNatClampNeg (defaultValue (newarray.typeOf aty))) → Exa Z h' a ad → B.G h' (cl + 1) (sl + cap) (mkF m pc' Ls (.ref a :: st))) : B.G h cl sl (mkF m pc Ls (.int n :: st)) := fun T locs X N eT => by
  subst hp
  obtain ⟨T', h', cA, X', e', E, A, A2, stp⟩ := Jvm.RoadKit.newPE X B.1 B.2.2.2.1 w eT (g := mkF m pc Ls (.int n :: st)) rfl (hb B.2.1 hd) rfl hn hcap hb' hc hs had
  obtain ⟨t, o, q, r⟩ := k h' _ rfl (by rw [← eT]; exact B.size X) E (Ary.new A) A2 T' locs X' N e'
  exact ⟨t, o, stp _ q, r⟩
theorem Base.clone (B : Base p l e R s m args below meth c Z y bytes maxL ret h0 ws C) (pc' : Nat) (hp : pc' = pc + 3) {ix : Nat} {ad : String} (hd : decode bytes pc = .ok (.invokevirtual ix, 3))
    (w1 : (Cond.methodLink y.cls ix ⟨ad, "clone", "()Ljava/lang/Object;"⟩).before a0 Z = true) (w2 : (Cond.sameMethod ad "java/lang/Object" "clone" "()Ljava/lang/Object;").before a0 Z = true) (w3 : (Cond.native ⟨"java/lang/Object", "clone", "()Ljava/lang/Object;"⟩).before a0 Z = true)
    (w4 : (Cond.instanceMethod ⟨"java/lang/Object", "clone", "()Ljava/lang/Object;"⟩).before a0 Z = true) (w5 : (Cond.selects ad ⟨ad, "clone", "()Ljava/lang/Object;"⟩ ⟨"java/lang/Object", "clone", "()Ljava/lang/Object;"⟩).before a0 Z = true) (w6 : (Cond.castable ad "java/lang/Cloneable").before a0 Z = true)
    (A : Ary Z h a ty vs) (E : Exa Z h a ad) (hfit : ∀ v ∈ vs, fits ty v = true) (hLs : Ls.size = maxL) (W : Nat) (hW : (st.map fun v => v.category).sum = W) (hf : 1 ≤ R.frames) (hl : W + 14 ≤ R.locals) (cap : Nat) (hcap : vs.length ≤ cap) (hc : cl + 1 ≤ R.cells) (hs : sl + cap ≤ R.slots)
    (k : ∀ h' b, b = h.size → h0.size ≤ b → Ext h h' → Ary Z h' b ty vs → Exa Z h' b ad → B.G h' (cl + 1) (sl + cap) (mkF m pc' Ls (.ref b :: st))) : B.G h cl sl (mkF m pc Ls (.ref a :: st)) := fun T locs X N eT => by
  subst hp
  obtain ⟨c1, A1, r1⟩ := A
  have FC : FitC Z c1 := fitC_of A1 fun i hi v hv => hfit v (by rw [← r1]; exact Array.mem_toList_iff.mpr (Array.mem_of_getElem? hv))
  obtain ⟨T', h', X', e', ex, A', E', stp⟩ := cloneA X B.1 B.2.2.2.1 B.2.2.2.2.1 w1 w2 w3 w4 w5 w6 eT A1 E FC (g := mkF m pc Ls (.ref a :: st)) rfl (hLs.trans B.2.2.1.symm) rfl (hb B.2.1 hd) hf (W := W) (cap := cap) (by show 2 * 0 + _ ≤ _; omega) hl (by rw [← r1, Array.length_toList] at hcap; exact hcap) hc hs
  obtain ⟨t, o, q, r⟩ := k h' _ rfl (by rw [← eT]; exact B.size X) ex ⟨_, A', r1⟩ E' T' locs X' N e'
  exact ⟨t, o, stp _ q, r⟩
theorem Base.castY (B : Base p l e R s m args below meth c Z y bytes maxL ret h0 ws C) (pc' : Nat) (hp : pc' = pc + 3) {ix : Nat} {K : String} (hd : decode bytes pc = .ok (.checkcast ix, 3)) (w : (Cond.classLink y.cls ix K).before a0 Z = true) (F : Ins Z h a K true) (k : B.G h cl sl (mkF m pc' Ls (.ref a :: st))) : B.G h cl sl (mkF m pc Ls (.ref a :: st)) := fun T locs X N eT => by
  subst hp
  obtain ⟨T', X', e', stp⟩ := Jvm.RoadKit.castY X B.1 B.2.2.2.1 B.2.2.2.2.1 w eT F (g := mkF m pc Ls (.ref a :: st)) rfl rfl (hb B.2.1 hd)
  obtain ⟨t, o, q, r⟩ := k T' locs X' N e'
  exact ⟨t, o, stp _ q, r⟩
theorem Base.instY (B : Base p l e R s m args below meth c Z y bytes maxL ret h0 ws C) (pc' : Nat) (hp : pc' = pc + 3) {ix : Nat} {K : String} (hd : decode bytes pc = .ok (.instanceof ix, 3)) (w : (Cond.classLink y.cls ix K).before a0 Z = true) (F : Ins Z h a K true) (k : B.G h cl sl (mkF m pc' Ls (.int 1 :: st))) : B.G h cl sl (mkF m pc Ls (.ref a :: st)) := fun T locs X N eT => by
  subst hp
  obtain ⟨T', X', e', stp⟩ := Jvm.RoadKit.instY X B.1 B.2.2.2.1 B.2.2.2.2.1 w eT F (g := mkF m pc Ls (.ref a :: st)) rfl rfl (hb B.2.1 hd)
  obtain ⟨t, o, q, r⟩ := k T' locs X' N e'
  exact ⟨t, o, stp _ q, r⟩
theorem Base.instN (B : Base p l e R s m args below meth c Z y bytes maxL ret h0 ws C) (pc' : Nat) (hp : pc' = pc + 3) {ix : Nat} {K CC : String} (hd : decode bytes pc = .ok (.instanceof ix, 3)) (w : (Cond.classLink y.cls ix K).before a0 Z = true) (E : Exa Z h a CC) (F : ∃ c t, Z.vm.findClass CC = some c ∧ Z.vm.findClass K = some t ∧ Z.vm.assignable c t = false) (k : B.G h cl sl (mkF m pc' Ls (.int 0 :: st))) : B.G h cl sl (mkF m pc Ls (.ref a :: st)) := fun T locs X N eT => by
  subst hp
  obtain ⟨T', X', e', stp⟩ := instNo X B.1 B.2.2.2.1 B.2.2.2.2.1 w eT E F (g := mkF m pc Ls (.ref a :: st)) rfl rfl (hb B.2.1 hd)
  obtain ⟨t, o, q, r⟩ := k T' locs X' N e'
  exact ⟨t, o, stp _ q, r⟩
theorem Base.inst0 (B : Base p l e R s m args below meth c Z y bytes maxL ret h0 ws C) (pc' : Nat) (hp : pc' = pc + 3) {ix : Nat} (hd : decode bytes pc = .ok (.instanceof ix, 3)) (k : B.G h cl sl (mkF m pc' Ls (.int 0 :: st))) : B.G h cl sl (mkF m pc Ls (.null :: st)) := by
  subst hp
  exact B.viaX (fun T t L X eT r => X.instanceofNull B.1 (g := mkF m pc Ls (.null :: st)) rfl rfl (hb B.2.1 hd) t r) k
theorem Base.aaload (B : Base p l e R s m args below meth c Z y bytes maxL ret h0 ws C) (pc' : Nat) (hp : pc' = pc + 1) (hd : decode bytes pc = .ok (.aaload, 1)) (A : Ary Z h a ty vs) (hty : ty.isReference = true) (hj : ¬ j < 0) (i : Nat) (hi : j.toNatClampNeg = i) (v : Value) (hv : vs[i]? = some v) (k : B.G h cl sl (mkF m pc' Ls (v :: st))) : B.G h cl sl (mkF m pc Ls (.int j :: .ref a :: st)) := by
  subst hp
  obtain ⟨c1, A, r⟩ := A
  obtain ⟨q1, q2⟩ := ary_in r hj hi hv
  exact B.viaX (fun T t L X eT r => X.aaload (g := mkF m pc Ls (.int j :: .ref a :: st)) B.1 (by rw [eT]; exact A.1) (State.isArrayOf_alike (T := s) B.2.2.2.1.alike A.2.1) hty A.2.2 q1 q2 rfl rfl (hb B.2.1 hd) t r) k
theorem ns_root {O K : String} {n : Nat} (w : (Cond.noSuperclass O).before a0 Z = true) (wk : (Cond.instantiable K n).before a0 Z = true) (hn : O ≠ K) : NS Z O K := by
  obtain ⟨c, k, h1, h2, h3, -, -⟩ := Cond.noSuperclass_spec w
  obtain ⟨t, -, g1, -⟩ := Cond.instantiable_spec wk
  have ne := ids_ne h1 g1 hn
  refine ⟨c, t, h1, g1, fun fuel => ?_⟩
  cases fuel with
  | zero => rfl
  | succ f => simp [Vm.isSubclassAux, ne, h2, h3]
theorem ns_no {CC K : String} {n n' : Nat} (w : (Cond.instantiable CC n').before a0 Z = true) (wk : (Cond.instantiable K n).before a0 Z = true) (q : NS Z CC K) (hn : CC ≠ K) : ∃ c t, Z.vm.findClass CC = some c ∧ Z.vm.findClass K = some t ∧ Z.vm.assignable c t = false := by
  obtain ⟨c, t, h0, g0, n3⟩ := q
  obtain ⟨c1, k, h1, h2, h5, -⟩ := Cond.instantiable_spec w
  obtain ⟨t1, k', g1, g2, g5, g7, -⟩ := Cond.instantiable_spec wk
  cases h0.symm.trans h1
  cases g0.symm.trans g1
  have ne := ids_ne h0 g0 hn
  have g8 : k'.isInterface = false := by simp only [Bool.or_eq_false_iff] at g7; exact g7.1
  refine ⟨c, t, h0, g0, ?_⟩
  show Z.vm.assignableAux (255 + 1) c t = false
  simp [Vm.assignableAux, ne, h2, g2, h5, g5, g8, Vm.isSubclass, n3]
end Arrays
/-! 5. the words -/
theorem wd {L : List Jvm.Cond} {a0 : Array Value} {Z : State} (hw : ∀ d ∈ L, d.before a0 Z = true) (i : Nat) {d : Jvm.Cond} (q : L[i]? = some d) : d.before a0 Z = true := hw d (List.mem_of_getElem? q)
/-! 6. from the words of a case -/
theorem fld_start {args : Array Value} {s : State} {t : Term} {a : Addr} {O n d : String} {z : Int32} (ht : t.eval args s none [] s = some (.ref a)) (q : (Cond.eq (.field t O n d) (.int z)).value args s none s [] = some true) : Fld s s.heap a O n d (.int z) :=
  Fld.start ((fld_at ht).symm.trans (eqv_i rfl q))
theorem eval_int {args : Array Value} {s : State} {u w : Term} {z : Int32} (q : (Cond.eq u w).value args s none s [] = some true) (hw : w.eval args s none [] s = some (.int z)) : u.eval args s none [] s = some (.int z) := by
  cases hv : u.eval args s none [] s with
  | none => simp [Cond.value, hv] at q
  | some v =>
    cases v <;> simp [Cond.value, hv, hw] at q
    subst q; rfl
theorem eval_ref {args : Array Value} {s : State} {u w : Term} {z : Addr} (q : (Cond.eq u w).value args s none s [] = some true) (hw : w.eval args s none [] s = some (.ref z)) : u.eval args s none [] s = some (.ref z) := by
  cases hv : u.eval args s none [] s with
  | none => simp [Cond.value, hv] at q
  | some v =>
    cases v <;> simp [Cond.value, hv, hw] at q
    subst q; rfl
/-- an array of the start, of known length and places -/
theorem ary_start {args : Array Value} {s : State} {t : Term} {a : Addr} {ty : FieldType} {vs : List Value} {n : Int32} (ht : t.eval args s none [] s = some (.ref a)) (hA : (Cond.arrayOf t ty).value args s none s [] = some true)
    (hl : (Cond.eq (.length t) (.int n)).value args s none s [] = some true) (hn : n.toNatClampNeg = vs.length) (hn0 : ¬ n < 0) (he : ∀ i, i < vs.length → ∃ v, vs[i]? = some v ∧ (Term.elem t (.int (Int32.ofNat i))).eval args s none [] s = some v) : Ary s s.heap a ty vs := by
  obtain ⟨c, A⟩ := Arr.start ht hA
  have e1 := eval_int hl rfl
  simp only [Term.eval, ht, Option.bind_eq_bind, Option.bind_some] at e1
  have hat : s.arrayAt? a = some c := A.fin (Vm.Alike.refl _)
  rw [hat] at e1
  simp only [Option.bind_some] at e1
  split at e1
  · rename_i hs
    simp only [Option.pure_def, Option.some.injEq, Value.int.injEq] at e1
    have hsz : c.slots.size = vs.length := by
      rw [← hn, ← e1]
      have := len_toInt hs
      simp only [Int32.toNatClampNeg, this]; omega
    refine ⟨c, A, ?_⟩
    apply List.ext_getElem?
    intro i
    by_cases hi : i < vs.length
    · obtain ⟨v, q1, q2⟩ := he i hi
      obtain ⟨cell, r1, -, r3⟩ := elem_at q2 ht rfl
      cases A.1.symm.trans r1
      have : (Int32.ofNat i).toNatClampNeg = i := by
        have := Int32.toInt_ofNat_small (show i < 2 ^ 31 by omega)
        simp only [Int32.toNatClampNeg, this]; omega
      rw [this] at r3
      rw [q1, Array.getElem?_toList]; exact r3
    · rw [List.getElem?_eq_none (by rw [Array.length_toList, hsz]; omega), List.getElem?_eq_none (by omega)]
  · simp at e1
end Jvm.Own
namespace Jvm.Own
open Jvm Jvm.ClassFile Sem Op Lib Jvm.Free Jvm.Stand Jvm.LawKit Jvm.RoadKit
/-! System.arraycopy over arrays as lists (one primitive kind), and joins -/
section Copy
variable {p : Program} {l : Launch} {e : Env} {R : Room} {s : State} {m : MethodId} {args : Array Value} {below : List Frame} {meth : Method} {c : Code} {Z : State} {a0 : Array Value} {y : MethodName} {bytes : ByteArray} {maxL : Nat} {ret : Option FieldType} {h0 : Heap} {ws : List Addr} {C : Option Value → Heap → Prop} {h : Heap} {cl sl : Nat} {g : JFrame} {pc : Nat} {Ls : Array Slot} {st : List Value}
theorem Base.more (B : Base p l e R s m args below meth c Z y bytes maxL ret h0 ws C) {cl' sl' : Nat} (h1 : cl ≤ cl') (h2 : sl ≤ sl') (k : B.G h cl' sl' g) : B.G h cl sl g := fun T locs X N eT => k T locs (X.more h1 h2) N eT
theorem stretch_eq {cs : Cell} {us : List Value} (r : cs.slots.toList = us) {i n : Nat} (q : i + n ≤ us.length) : cs.stretch i n = (us.drop i).take n := by
  have hz : cs.slots.size = us.length := by rw [← r, Array.length_toList]
  apply List.ext_getElem?
  intro t
  by_cases ht : t < n
  · rw [List.getElem?_take_of_lt ht, List.getElem?_drop, ← r, Array.getElem?_toList]
    have hlt : i + t < cs.slots.size := by omega
    simp [Cell.stretch, ht, Array.getD_eq_getD_getElem?, Array.getElem?_eq_getElem hlt]
  · rw [List.getElem?_eq_none (by simp [Cell.stretch]; omega), List.getElem?_eq_none (by rw [List.length_take, List.length_drop]; omega)]
theorem run_eq {cd : Cell} {vd us : List Value} (r : cd.slots.toList = vd) {j : Nat} (q : j + us.length ≤ vd.length) : (cd.storeRun j us).slots.toList = vd.take j ++ us ++ vd.drop (j + us.length) := by
  have hz : cd.slots.size = vd.length := by rw [← r, Array.length_toList]
  have hlt : (vd.take j).length = j := by rw [List.length_take]; omega
  apply List.ext_getElem?
  intro t
  rw [Array.getElem?_toList, Cell.storeRun_get _ _ _ _ (by omega)]
  by_cases c1 : t < j
  · rw [if_neg (by omega), List.append_assoc, List.getElem?_append_left (by omega), List.getElem?_take_of_lt c1, ← r, Array.getElem?_toList]
  · by_cases c2 : t < j + us.length
    · rw [if_pos ⟨by omega, c2⟩, List.getElem?_append_left (by rw [List.length_append]; omega), List.getElem?_append_right (by omega), hlt]
    · rw [if_neg (by omega), List.getElem?_append_right (by rw [List.length_append]; omega), List.length_append, hlt, List.getElem?_drop, show j + us.length + (t - (j + us.length)) = t by omega, ← r, Array.getElem?_toList]
theorem Base.arrcp (B : Base p l e R s m args below meth c Z y bytes maxL ret h0 ws C) (pc' : Nat) (hp : pc' = pc + 3) {ix : Nat} (hd : decode bytes pc = .ok (.invokestatic ix, 3))
    (w1 : (Cond.methodLink y.cls ix Jvm.Stand.acN).before a0 Z = true) (w2 : (Cond.native Jvm.Stand.acN).before a0 Z = true) (w3 : (Cond.static Jvm.Stand.acN).before a0 Z = true) (w4 : (Cond.initialized "java/lang/System").before a0 Z = true)
    {a b : Addr} {ty : FieldType} {us vd : List Value} (A : Ary Z h a ty us) (D : Ary Z h b ty vd) (hr : refKind ty = false) (hfit : ∀ v ∈ us, fits ty v = true) {sp dp nn : Int32} (h1 : ¬ sp < 0) (h2 : ¬ dp < 0) (h3 : ¬ nn < 0) (i j n : Nat) (hi : sp.toNatClampNeg = i) (hj : dp.toNatClampNeg = j) (hn : nn.toNatClampNeg = n)
    (h4 : i + n ≤ us.length) (h5 : j + n ≤ vd.length) (hw : b ∈ ws ∨ h0.size ≤ b) (hLs : Ls.size = maxL) (W : Nat) (hW : (st.map fun v => v.category).sum = W) (hf : 1 ≤ R.frames) (hl : W + (nativeFrameWords "java/lang/System" "arraycopy" 5 + 11) ≤ R.locals)
    (k : ∀ h', Keep h h' [b] → Ary Z h' b ty (vd.take j ++ (us.drop i).take n ++ vd.drop (j + n)) → B.G h' cl sl (mkF m pc' Ls st)) : B.G h cl sl (mkF m pc Ls (.int nn :: .int dp :: .ref b :: .int sp :: .ref a :: st)) := fun T locs X N eT => by
  subst hp
  have hZ := B.2.2.2.1
  obtain ⟨cs, As, rs⟩ := A
  obtain ⟨cd, Ad, rd⟩ := D
  have zs : cs.slots.size = us.length := by rw [← rs, Array.length_toList]
  have zd : cd.slots.size = vd.length := by rw [← rd, Array.length_toList]
  have n1 := nat_of h1
  have n2 := nat_of h2
  have n3 := nat_of h3
  obtain ⟨os, ks, hks, sc, hsk⟩ := State.isArrayOf_alike (T := s) hZ.alike As.2.1
  obtain ⟨od, kd, hkd, dc, hdk⟩ := State.isArrayOf_alike (T := s) hZ.alike Ad.2.1
  obtain ⟨vm₁, -, X', stp⟩ := X.arraycopyK B.1 (own := y.cls) B.2.2.2.2.1 (mvT hZ w1) (mvT hZ w2) (mvT hZ w3) (mvT hZ w4) (by rw [eT]; exact As.1) (by rw [eT]; exact Ad.1) os od As.2.2 Ad.2.2 hks hkd hsk hdk (by simp [hr]) h1 h2 h3 (by rw [n1, n3, zs]; omega) (by rw [n2, n3, zd]; omega)
    (fun vm1 _ t ht => by
      have hlt : sp.toNatClampNeg + t < cs.slots.size := by omega
      have q : fits ty (cs.slots.getD (sp.toNatClampNeg + t) .null) = true := hfit _ (by rw [← rs, Array.getD_eq_getD_getElem?, Array.getElem?_eq_getElem hlt]; exact Array.mem_toList_iff.mpr (Array.getElem_mem hlt))
      refine ⟨q, ?_⟩
      generalize cs.slots.getD (sp.toNatClampNeg + t) .null = u at q ⊢
      cases u <;> first | trivial | exact (prim_no_ref hr q).elim) (g := mkF m pc Ls (.int nn :: .int dp :: .ref b :: .int sp :: .ref a :: st)) rfl (hLs.trans B.2.2.1.symm) rfl (hb B.2.1 hd) hf (by rw [hW]; show 2 * 0 + W + _ ≤ _; omega)
  have hbs : b < h.size := Ad.lt
  have f := cd.storeRun_facts dp.toNatClampNeg (cs.stretch sp.toNatClampNeg nn.toNatClampNeg)
  have est : cs.stretch sp.toNatClampNeg nn.toNatClampNeg = (us.drop i).take n := by rw [hi, hn]; exact stretch_eq rs h4
  have ul : ((us.drop i).take n).length = n := by rw [List.length_take, List.length_drop]; omega
  have eh : ((T.setVm vm₁).setCell b (copied cs cd sp dp nn)).heap = h.setIfInBounds b (copied cs cd sp dp nn) := by rw [← eT]; rfl
  have K : Keep h (h.setIfInBounds b (copied cs cd sp dp nn)) [b] := by
    refine ⟨by simp, fun x cc q r => ?_, fun x cc q => ?_⟩
    · rw [Array.getElem?_setIfInBounds_ne (fun z => r (by simp [z]))]; exact q
    · by_cases u : b = x
      · subst u; cases Ad.1.symm.trans q
        exact ⟨_, by rw [Array.getElem?_setIfInBounds_self_of_lt hbs], f.1, f.2.1, f.2.2.1⟩
      · exact ⟨cc, by rw [Array.getElem?_setIfInBounds_ne u]; exact q, rfl, rfl, rfl⟩
  have A' : Ary Z (h.setIfInBounds b (copied cs cd sp dp nn)) b ty (vd.take j ++ (us.drop i).take n ++ vd.drop (j + n)) := by
    refine ⟨copied cs cd sp dp nn, ⟨by rw [Array.getElem?_setIfInBounds_self_of_lt hbs], ?_, by show (cd.storeRun _ _).vm ≠ _; rw [f.2.1]; exact Ad.2.2⟩, ?_⟩
    · have := Ad.2.1
      unfold State.isArrayOf at this ⊢
      show _ ∧ _
      rw [show (copied cs cd sp dp nn).cls = cd.cls from f.1, show (copied cs cd sp dp nn).vm = cd.vm from f.2.1]; exact this
    · show (cd.storeRun dp.toNatClampNeg (cs.stretch sp.toNatClampNeg nn.toNatClampNeg)).slots.toList = _
      rw [est, hj, run_eq rd (by rw [ul]; exact h5), ul]
  obtain ⟨t, o, q, r⟩ := k _ K A' _ _ X' (N.app fun x hx => by rw [copyLocs_base hx]; exact hw) eh
  exact ⟨t, o, stp _ q, r⟩
end Copy
end Jvm.Own
namespace Jvm.Pilot.@@N@@
open Jvm Jvm.ClassFile Sem Op Lib Jvm.Free Jvm.Stand Jvm.LawKit Jvm.RoadKit Jvm.Own Bundle Jvm.Pilot.@@N@@.Jvm.D
theorem pd__II_I : parseMethodDescriptor "(II)I" = some ⟨[.int, .int], some .int⟩ := by decide +kernel
theorem pd__I_Lsealgram_codec_WireWriter_ : parseMethodDescriptor "(I)Lsealgram/codec/WireWriter;" = some ⟨[.int], some (.object "sealgram/codec/WireWriter")⟩ := by decide +kernel
theorem pd__I_V : parseMethodDescriptor "(I)V" = some ⟨[.int], none⟩ := by decide +kernel
theorem pd__JI_Lsealgram_codec_WireWriter_ : parseMethodDescriptor "(JI)Lsealgram/codec/WireWriter;" = some ⟨[.long, .int], some (.object "sealgram/codec/WireWriter")⟩ := by decide +kernel
theorem pd__J_Lsealgram_codec_WireWriter_ : parseMethodDescriptor "(J)Lsealgram/codec/WireWriter;" = some ⟨[.long], some (.object "sealgram/codec/WireWriter")⟩ := by decide +kernel
theorem pd___BIJI_Z : parseMethodDescriptor "([BIJI)Z" = some ⟨[(.array .byte), .int, .long, .int], some .boolean⟩ := by decide +kernel
theorem pd___BIZ_V : parseMethodDescriptor "([BIZ)V" = some ⟨[(.array .byte), .int, .boolean], none⟩ := by decide +kernel
theorem pd___BI__B : parseMethodDescriptor "([BI)[B" = some ⟨[(.array .byte), .int], some (.array .byte)⟩ := by decide +kernel
theorem pd___B_Lsealgram_codec_WireWriter_ : parseMethodDescriptor "([B)Lsealgram/codec/WireWriter;" = some ⟨[(.array .byte)], some (.object "sealgram/codec/WireWriter")⟩ := by decide +kernel
theorem pd___V : parseMethodDescriptor "()V" = some ⟨[], none⟩ := by decide +kernel
theorem pd____B : parseMethodDescriptor "()[B" = some ⟨[], some (.array .byte)⟩ := by decide +kernel
def own_s (f : Int32) (l : List Value) : List Value := if f = 0 then [] else l
theorem own_s0 {f : Int32} {l : List Value} (c : f = 0) : own_s f l = [] := by simp [own_s, c]
theorem own_s1 {f : Int32} {l : List Value} (c : ¬ f = 0) : own_s f l = l := by simp [own_s, c]
theorem own_sl (f : Int32) (l : List Value) : (own_s f l).length ≤ l.length := by unfold own_s; split <;> simp
theorem own_oi (k : Nat) (h : k ≤ 400) : (Int32.ofNat k).toInt = k := Int32.toInt_ofNat_of_lt (by omega)
theorem own_nn (k : Nat) (h : k ≤ 400) : ¬ Int32.ofNat k < 0 ∧ (Int32.ofNat k).toNatClampNeg = k := by
  have e := own_oi k h
  refine ⟨?_, by simp only [Int32.toNatClampNeg, e]; omega⟩
  rw [Int32.lt_iff_toInt_lt, e]; simp only [Int32.reduceToInt]; omega
theorem own_add (a b : Nat) : Int32.ofNat a + Int32.ofNat b = Int32.ofNat (a + b) := (Int32.ofNat_add a b).symm
theorem own_lt (a b : Nat) (ha : a ≤ 400) (hb : b ≤ 400) : Int32.ofNat a < Int32.ofNat b ↔ a < b := by rw [Int32.lt_iff_toInt_lt, own_oi a ha, own_oi b hb]; omega
theorem own_inj (a b : Nat) (ha : a ≤ 400) (hb : b ≤ 400) : Int32.ofNat a = Int32.ofNat b ↔ a = b := by rw [← Int32.toInt_inj, own_oi a ha, own_oi b hb]; omega
theorem own_sub (a : Nat) (h : a ≤ 400) (h1 : 1 ≤ a) : Int32.ofNat a - 1 = Int32.ofNat (a - 1) := by
  have : Int32.ofNat a = Int32.ofNat (a - 1) + Int32.ofNat 1 := by rw [own_add]; congr 1; omega
  rw [this]; show Int32.ofNat (a - 1) + 1 - 1 = _; simp
theorem own_mul (a : Nat) : (2 : Int32) * Int32.ofNat a = Int32.ofNat (2 * a) := (Int32.ofNat_mul 2 a).symm
theorem own_max (a b : Nat) (ha : a ≤ 400) (hb : b ≤ 400) : (if Int32.ofNat a < Int32.ofNat b then Int32.ofNat b else Int32.ofNat a) = Int32.ofNat (max a b) := by
  by_cases h : a < b
  · rw [if_pos ((own_lt a b ha hb).mpr h), Nat.max_eq_right (by omega)]
  · rw [if_neg (fun q => h ((own_lt a b ha hb).mp q)), Nat.max_eq_left (by omega)]
theorem own_min (a b : Nat) (ha : a ≤ 400) (hb : b ≤ 400) : (if Int32.ofNat b < Int32.ofNat a then Int32.ofNat b else Int32.ofNat a) = Int32.ofNat (min a b) := by
  by_cases h : b < a
  · rw [if_pos ((own_lt b a hb ha).mpr h), Nat.min_eq_right (by omega)]
  · rw [if_neg (fun q => h ((own_lt b a hb ha).mp q)), Nat.min_eq_left (by omega)]
theorem own_div (a : Nat) (h : a ≤ 400) : Int32.ofNat a / 2 = Int32.ofNat (a / 2) := by
  rw [← Int32.toInt_inj, Int32.toInt_div_of_ne_right _ _ (by decide), own_oi a h, own_oi (a / 2) (by omega)]
  show (a : Int).tdiv 2 = _
  rw [Int.tdiv_eq_ediv_of_nonneg (by omega)]; omega
theorem own_m (x : Int32) : ∃ k : Nat, k ≤ 127 ∧ x &&& 127 = Int32.ofNat k := by
  have h : (x &&& 127).toInt = x.toInt % 2 ^ 7 := Jvm.Kit.i32_mask x 127 (k := 7) (by decide) (by decide)
  refine ⟨(x.toInt % 2 ^ 7).toNat, by omega, ?_⟩
  rw [← Int32.toInt_inj, h, Int32.toInt_ofNat_of_lt (by omega)]
  omega
theorem own_b (x : Int32) : x.toInt8.toInt32.toInt8.toInt32 = x.toInt8.toInt32 := by simp
def own_copy (bs : List Value) (n : Nat) : List Value := bs.take n ++ List.replicate (n - bs.length) (.int 0)
theorem own_copy_len (bs : List Value) (n : Nat) : (own_copy bs n).length = n := by simp [own_copy]; omega
theorem own_copy_le (bs : List Value) (n : Nat) (h : n ≤ bs.length) : own_copy bs n = bs.take n := by simp [own_copy, Nat.sub_eq_zero_of_le h]
theorem own_copy_eq (bs : List Value) : own_copy bs bs.length = bs := by simp [own_copy]
theorem own_copy_take (bs : List Value) (n k : Nat) (h : k ≤ n) (h' : k ≤ bs.length) : (own_copy bs n).take k = bs.take k := by
  rw [own_copy, List.take_append_of_le_length (by rw [List.length_take]; omega), List.take_take, Nat.min_eq_left h]
theorem own_copy_fit (bs : List Value) (n : Nat) (hf : ∀ v ∈ bs, fits .byte v = true) : ∀ v ∈ own_copy bs n, fits .byte v = true := fun v hv => by
  rcases List.mem_append.mp hv with q | q
  · exact hf v (List.mem_of_mem_take q)
  · rw [(List.mem_replicate.mp q).2]; rfl
theorem own_cp (bs : List Value) (n : Nat) : (List.replicate n (Value.int 0)).take 0 ++ (bs.drop 0).take (min bs.length n) ++ (List.replicate n (Value.int 0)).drop (0 + min bs.length n) = own_copy bs n := by
  simp only [List.take_zero, List.drop_zero, List.nil_append, List.drop_replicate, Nat.zero_add, own_copy]
  by_cases h : n ≤ bs.length
  · rw [Nat.min_eq_right h, Nat.sub_self, Nat.sub_eq_zero_of_le h]
  · have h' : bs.length ≤ n := by omega
    rw [Nat.min_eq_left h', List.take_of_length_le h', List.take_of_length_le (Nat.le_refl _)]
def own_g (N L k : Nat) : Nat := if L + k ≤ N then N else max (2 * N) (L + k)
theorem own_g_le (N L k : Nat) : L + k ≤ own_g N L k := by unfold own_g; split <;> omega
def Wst (Z : State) (h : Heap) (w b : Addr) (bs : List Value) (L : Nat) : Prop :=
  Exa Z h w "sealgram/codec/WireWriter" ∧ Fld Z h w "sealgram/codec/WireWriter" "mBytes" "[B" (.ref b) ∧ Fld Z h w "sealgram/codec/WireWriter" "mLength" "I" (.int (Int32.ofNat L)) ∧ Fld Z h w "sealgram/codec/WireWriter" "mInPlace" "Z" (.int 0) ∧ Ary Z h b .byte bs ∧ Exa Z h b "[B" ∧ (∀ v ∈ bs, fits .byte v = true) ∧ b ≠ w
def Wout (Z : State) (h : Heap) (w b : Addr) (out : List Value) (N : Nat) : Prop := ∃ bs, Wst Z h w b bs out.length ∧ bs.take out.length = out ∧ out.length ≤ N ∧ bs.length = N
theorem Wout.keep {Z : State} {h h' : Heap} {w b : Addr} {out : List Value} {N : Nat} {ws : List Addr} (H : Wout Z h w b out N) (K : Keep h h' ws) (q1 : w ∉ ws) (q2 : b ∉ ws) : Wout Z h' w b out N := by
  obtain ⟨bs, ⟨a1, a2, a3, a4, a5, a6, a7, a8⟩, r⟩ := H
  exact ⟨bs, ⟨a1.keep K, a2.keep K q1, a3.keep K q1, a4.keep K q1, a5.keep K q2, a6.keep K, a7, a8⟩, r⟩
theorem Wout.other {Z : State} {h h' : Heap} {w b r : Addr} {out : List Value} {N i : Nat} {v : Value} (H : Wout Z h w b out N) (W : Wr h h' r i v) (q1 : w ≠ r) (q2 : b ≠ r) : Wout Z h' w b out N := by
  obtain ⟨bs, ⟨a1, a2, a3, a4, a5, a6, a7, a8⟩, s⟩ := H
  exact ⟨bs, ⟨a1.wr W, a2.other W (Or.inl q1), a3.other W (Or.inl q1), a4.other W (Or.inl q1), a5.other W q2, a6.wr W, a7, a8⟩, s⟩
theorem Wout.ltw {Z : State} {h : Heap} {w b : Addr} {out : List Value} {N : Nat} (H : Wout Z h w b out N) : w < h.size := by obtain ⟨bs, q, -⟩ := H; exact q.1.lt
theorem Wout.ltb {Z : State} {h : Heap} {w b : Addr} {out : List Value} {N : Nat} (H : Wout Z h w b out N) : b < h.size := by obtain ⟨bs, q, -⟩ := H; exact q.2.2.2.2.1.lt
theorem own_fs {bs : List Value} {i : Nat} {x : Value} (hf : ∀ v ∈ bs, fits .byte v = true) (hx : fits .byte x = true) : ∀ v ∈ bs.set i x, fits .byte v = true := fun v hv => (List.mem_or_eq_of_mem_set hv).elim (hf v) (fun q => q ▸ hx)
theorem own_ts (bs : List Value) (L : Nat) (x : Value) (h : L < bs.length) : (bs.set L x).take (L + 1) = bs.take L ++ [x] := by
  apply List.ext_getElem?
  intro t
  by_cases c1 : t < L
  · rw [List.getElem?_take_of_lt (by omega), List.getElem?_set_ne (by omega), List.getElem?_append_left (by rw [List.length_take]; omega), List.getElem?_take_of_lt c1]
  · by_cases c2 : t = L
    · subst c2
      rw [List.getElem?_take_of_lt (by omega), List.getElem?_set_self h, List.getElem?_append_right (by rw [List.length_take]; omega), List.length_take, Nat.min_eq_left (by omega), Nat.sub_self]; rfl
    · rw [List.getElem?_eq_none (by rw [List.length_take]; omega), List.getElem?_eq_none (by rw [List.length_append, List.length_take]; simp; omega)]
theorem own_pre {A B : List Value} {i : Nat} {v : Value} (h : A[i]? = some v) : (A ++ B)[i]? = some v := by
  rw [List.getElem?_append_left (List.getElem?_eq_some_iff.mp h).1]; exact h
theorem own_last {X s : List Value} {j : Nat} {v : Value} (h : s[j]? = some v) : (X ++ s)[X.length + j]? = some v := by
  rw [List.getElem?_append_right (by omega), Nat.add_sub_cancel_left]; exact h
theorem own_app (X Y : List Value) : Int32.ofNat X.length + Int32.ofNat Y.length = Int32.ofNat (X ++ Y).length := by rw [own_add, List.length_append]
def own_fl (m : Nat) (f1 f0 : Int32) : List Value := ((List.replicate m (.int 0)).set (m - 1) (.int f1)).set 0 (.int f0)
theorem own_fll (m : Nat) (f1 f0 : Int32) : (own_fl m f1 f0).length = m := by simp [own_fl]
theorem own_fl0 (m : Nat) (f1 f0 : Int32) (h : 0 < m) : (own_fl m f1 f0)[0]? = some (.int f0) := by rw [own_fl, List.getElem?_set_self (by simpa using h)]
def own_lv (m : Nat) (f1 f0 : Int32) : Int32 := if Int32.ofNat m = 1 then f0 else f1
theorem own_fl1 (m : Nat) (f1 f0 : Int32) (h : 0 < m) (hm : m ≤ 127) : (own_fl m f1 f0)[m - 1]? = some (.int (own_lv m f1 f0)) := by
  by_cases c : m = 1
  · subst c; rfl
  · have e : own_lv m f1 f0 = f1 := if_neg (fun q => c ((own_inj m 1 (by omega) (by omega)).mp q))
    rw [e, own_fl, List.getElem?_set_ne (by omega), List.getElem?_set_self (by simp; omega)]
theorem own_fl2 (m : Nat) (f1 f0 : Int32) (h : 3 ≤ m) : (own_fl m f1 f0)[m / 2]? = some (.int 0) := by
  rw [own_fl, List.getElem?_set_ne (by omega), List.getElem?_set_ne (by omega), List.getElem?_replicate_of_lt (by omega)]
theorem own_flf (m : Nat) (f1 f0 : Int32) (h1 : fits .byte (.int f1) = true) (h0 : fits .byte (.int f0) = true) : ∀ v ∈ own_fl m f1 f0, fits .byte v = true := own_fs (own_fs (fun v hv => by rw [(List.mem_replicate.mp hv).2]; rfl) h1) h0
theorem own_shr (v : Int64) (y : Int32) (k : Nat) (hk : k < 64) (hy : (y.toInt64.toUInt64 &&& Int64.toUInt64 63).toNat = k) (h0 : 0 ≤ v.toInt) (h1 : v.toInt < 2 ^ k) : XT.ushrL v y = 0 := by
  have e : v.toUInt64.toNat < 2 ^ k := by
    have q : v.toInt = v.toBitVec.toInt := rfl
    have q2 : v.toUInt64.toNat = v.toBitVec.toNat := rfl
    rw [q, BitVec.toInt_eq_toNat_cond] at h0 h1
    rw [q2]
    have hlt := v.toBitVec.isLt
    have h3 : ((v.toBitVec.toNat : Nat) : Int) < ((2 ^ k : Nat) : Int) := by
      rw [Int.natCast_pow]
      split at h1
      · exact h1
      · rename_i c; rw [if_neg c] at h0; omega
    exact Int.ofNat_lt.mp h3
  have z : v.toUInt64 >>> (y.toInt64.toUInt64 &&& Int64.toUInt64 63) = 0 := by
    apply UInt64.toNat_inj.mp
    rw [UInt64.toNat_shiftRight, hy, Nat.mod_eq_of_lt hk, Nat.shiftRight_eq_div_pow, Nat.div_eq_of_lt e]; rfl
  unfold XT.ushrL; rw [z]; rfl
theorem own_big (x M : Int32) (y : Int32) (k : Nat) (hk : k < 32) (hM : M.toBitVec.toNat = 2 ^ k - 1) (hy : (y.toInt64.toUInt64 &&& Int64.toUInt64 63).toNat = k) : ¬ (x &&& M).toInt64 < 0 ∧ XT.ushrL (x &&& M).toInt64 y = 0 := by
  have h := Jvm.Kit.i32_mask x M hk hM
  have h2 : 0 ≤ x.toInt % 2 ^ k := Int.emod_nonneg _ (by exact Int.ne_of_gt (Int.pow_pos (by decide)))
  have h3 : x.toInt % 2 ^ k < 2 ^ k := Int.emod_lt_of_pos _ (Int.pow_pos (by decide))
  refine ⟨?_, own_shr _ _ k (by omega) hy (by rw [Int32.toInt_toInt64, h]; exact h2) (by rw [Int32.toInt_toInt64, h]; exact h3)⟩
  rw [Int64.lt_iff_toInt_lt, Int32.toInt_toInt64, h]; simp only [Int64.reduceToInt]; exact Int.not_lt.mpr h2
theorem own_bigL (x M : Int64) (y : Int32) (k : Nat) (hk : k < 64) (hM : M.toBitVec.toNat = 2 ^ k - 1) (hy : (y.toInt64.toUInt64 &&& Int64.toUInt64 63).toNat = k) : ¬ x &&& M < 0 ∧ XT.ushrL (x &&& M) y = 0 := by
  have h := Jvm.Kit.i64_mask x M hk hM
  have h2 : 0 ≤ x.toInt % 2 ^ k := Int.emod_nonneg _ (by exact Int.ne_of_gt (Int.pow_pos (by decide)))
  have h3 : x.toInt % 2 ^ k < 2 ^ k := Int.emod_lt_of_pos _ (Int.pow_pos (by decide))
  refine ⟨?_, own_shr _ _ k hk hy (by rw [h]; exact h2) (by rw [h]; exact h3)⟩
  rw [Int64.lt_iff_toInt_lt, h]; simp only [Int64.reduceToInt]; exact Int.not_lt.mpr h2
theorem Wout.ex {Z : State} {h : Heap} {w b : Addr} {out : List Value} {N : Nat} (H : Wout Z h w b out N) : Exa Z h w "sealgram/codec/WireWriter" := by obtain ⟨bs, q, -⟩ := H; exact q.1
theorem Wout.fit {Z : State} {h : Heap} {w b : Addr} {out : List Value} {N : Nat} (H : Wout Z h w b out N) : ∀ v ∈ out, fits .byte v = true := by
  obtain ⟨bs, q, ht, -⟩ := H
  intro v hv
  rw [← ht] at hv
  exact q.2.2.2.2.2.2.1 v (List.mem_of_mem_take hv)
theorem own_int {l : List Value} (hf : ∀ v ∈ l, fits .byte v = true) (h : 0 < l.length) : ∃ z : Int32, l[0]? = some (.int z) := by
  cases l with
  | nil => simp at h
  | cons v r =>
    have q := hf v (by simp)
    cases v <;> simp [fits] at q
    exact ⟨_, rfl⟩
theorem own_close {Z : State} {h : Heap} {w b : Addr} {bs out ys : List Value} {N : Nat} (Ew : Exa Z h w "sealgram/codec/WireWriter") (Fb : Fld Z h w "sealgram/codec/WireWriter" "mBytes" "[B" (.ref b)) (Fl : Fld Z h w "sealgram/codec/WireWriter" "mLength" "I" (.int (Int32.ofNat (out.length + ys.length)))) (Fi : Fld Z h w "sealgram/codec/WireWriter" "mInPlace" "Z" (.int 0)) (A : Ary Z h b .byte bs) (Eb : Exa Z h b "[B") (hf : ∀ v ∈ bs, fits .byte v = true) (ne : b ≠ w)
    (ht : bs.take (out.length + ys.length) = out ++ ys) (hle : out.length + ys.length ≤ N) (hlen : bs.length = N) : Wout Z h w b (out ++ ys) N := by
  rw [← List.length_append] at Fl ht hle
  exact ⟨bs, ⟨Ew, Fb, Fl, Fi, A, Eb, hf, ne⟩, ht, hle, hlen⟩
theorem own_bt (bs fl : List Value) (L : Nat) (h : L + fl.length ≤ bs.length) : (bs.take L ++ (fl.drop 0).take fl.length ++ bs.drop (L + fl.length)).take (L + fl.length) = bs.take L ++ fl := by
  rw [List.drop_zero, List.take_of_length_le (Nat.le_refl fl.length)]
  exact List.take_left' (by rw [List.length_append, List.length_take]; omega)
theorem own_bl (bs fl : List Value) (L : Nat) (h : L + fl.length ≤ bs.length) : (bs.take L ++ (fl.drop 0).take fl.length ++ bs.drop (L + fl.length)).length = bs.length := by
  simp only [List.length_append, List.length_take, List.length_drop]; omega
theorem own_bf {bs fl : List Value} {L : Nat} (h1 : ∀ v ∈ bs, fits .byte v = true) (h2 : ∀ v ∈ fl, fits .byte v = true) : ∀ v ∈ bs.take L ++ (fl.drop 0).take fl.length ++ bs.drop (L + fl.length), fits .byte v = true := fun v hv => by
  rcases List.mem_append.mp hv with q | q
  · rcases List.mem_append.mp q with q | q
    · exact h1 v (List.mem_of_mem_take q)
    · exact h2 v (List.mem_of_mem_drop (List.mem_of_mem_take q))
  · exact h1 v (List.mem_of_mem_drop q)
theorem own_padd {f n : Int32} {l X : List Value} (c : ¬ f = 0) (hn : n = Int32.ofNat l.length) : Int32.ofNat X.length + n = Int32.ofNat (X ++ own_s f l).length := by subst hn; rw [own_s1 c]; exact own_app X l
theorem d6_0 : decode jdk_29_method_69_code 0 = .ok (.iload_n 0, 1) := by decide +kernel
theorem d6_1 : decode jdk_29_method_69_code 1 = .ok (.iload_n 1, 1) := by decide +kernel
theorem d6_2 : decode jdk_29_method_69_code 2 = .ok (.if_icmp .gt 7, 3) := by decide +kernel
theorem d6_5 : decode jdk_29_method_69_code 5 = .ok (.iload_n 0, 1) := by decide +kernel
theorem d6_6 : decode jdk_29_method_69_code 6 = .ok (.goto 4, 3) := by decide +kernel
theorem d6_9 : decode jdk_29_method_69_code 9 = .ok (.iload_n 1, 1) := by decide +kernel
theorem d6_10 : decode jdk_29_method_69_code 10 = .ok (.ireturn, 1) := by decide +kernel
theorem pn_6 : plainFor (⟨"java/lang/Math", "min", "(II)I"⟩ : MethodName) = true := by first | exact plainFor_of_name (by first | (simp [plainName, overriddenIn]; done) | decide +kernel) | decide +kernel
set_option maxRecDepth 65536 in
set_option maxHeartbeats 4000000 in
theorem rm_min (l : Launch) (Z : State) (a0 : Array Value) (hw : ∀ d ∈ tables_1, d.before a0 Z = true) (x1 y1 : Int32) (h0 : Heap)  :
    Met l Z (⟨"java/lang/Math", "min", "(II)I"⟩ : MethodName) jdk_29_method_69_code 2 (some .int) [] ({ frames := 0, cells := 0, slots := 0, locals := 0 } : Room) #[(.int x1), (.int y1)] h0 [] (fun v h => v = some (.int (if y1 < x1 then y1 else x1)) ∧ h0 = h) := by
  refine Met.walk pn_6 (Ls := #[.val (.int x1), .val (.int y1)]) (fun m => by first | (simp [entryFrame, mkF, argsToLocals, Value.category, maxLocals]; done) | rfl) ?_
  intro p e s m below meth c B
  refine B.iloadN 1 rfl d6_0 rfl ?_
  refine B.iloadN 2 rfl d6_1 rfl ?_
  refine B.icmp_gt 9 5 rfl (by decide) rfl d6_2 (fun c2 => ?_) (fun c2 => ?_)
  · refine B.iloadN 10 rfl d6_9 rfl ?_
    refine B.retI d6_10 (by decide) (by decide) ?_
    exact ⟨by simp [c2], rfl⟩
  · refine B.iloadN 6 rfl d6_5 rfl ?_
    refine B.goto 10 rfl (by decide) d6_6 ?_
    refine B.retI d6_10 (by decide) (by decide) ?_
    exact ⟨by simp [c2], rfl⟩
theorem d15_0 : decode jdk_29_method_65_code 0 = .ok (.iload_n 0, 1) := by decide +kernel
theorem d15_1 : decode jdk_29_method_65_code 1 = .ok (.iload_n 1, 1) := by decide +kernel
theorem d15_2 : decode jdk_29_method_65_code 2 = .ok (.if_icmp .lt 7, 3) := by decide +kernel
theorem d15_5 : decode jdk_29_method_65_code 5 = .ok (.iload_n 0, 1) := by decide +kernel
theorem d15_6 : decode jdk_29_method_65_code 6 = .ok (.goto 4, 3) := by decide +kernel
theorem d15_9 : decode jdk_29_method_65_code 9 = .ok (.iload_n 1, 1) := by decide +kernel
theorem d15_10 : decode jdk_29_method_65_code 10 = .ok (.ireturn, 1) := by decide +kernel
theorem pn_15 : plainFor (⟨"java/lang/Math", "max", "(II)I"⟩ : MethodName) = true := by first | exact plainFor_of_name (by first | (simp [plainName, overriddenIn]; done) | decide +kernel) | decide +kernel
set_option maxRecDepth 65536 in
set_option maxHeartbeats 4000000 in
theorem rm_max (l : Launch) (Z : State) (a0 : Array Value) (hw : ∀ d ∈ tables_1, d.before a0 Z = true) (x1 y1 : Int32) (h0 : Heap)  :
    Met l Z (⟨"java/lang/Math", "max", "(II)I"⟩ : MethodName) jdk_29_method_65_code 2 (some .int) [] ({ frames := 0, cells := 0, slots := 0, locals := 0 } : Room) #[(.int x1), (.int y1)] h0 [] (fun v h => v = some (.int (if x1 < y1 then y1 else x1)) ∧ h0 = h) := by
  refine Met.walk pn_15 (Ls := #[.val (.int x1), .val (.int y1)]) (fun m => by first | (simp [entryFrame, mkF, argsToLocals, Value.category, maxLocals]; done) | rfl) ?_
  intro p e s m below meth c B
  refine B.iloadN 1 rfl d15_0 rfl ?_
  refine B.iloadN 2 rfl d15_1 rfl ?_
  refine B.icmp_lt 9 5 rfl (by decide) rfl d15_2 (fun c2 => ?_) (fun c2 => ?_)
  · refine B.iloadN 10 rfl d15_9 rfl ?_
    refine B.retI d15_10 (by decide) (by decide) ?_
    exact ⟨by simp [c2], rfl⟩
  · refine B.iloadN 6 rfl d15_5 rfl ?_
    refine B.goto 10 rfl (by decide) d15_6 ?_
    refine B.retI d15_10 (by decide) (by decide) ?_
    exact ⟨by simp [c2], rfl⟩
theorem d5_0 : decode jdk_65_method_121_code 0 = .ok (.iload_n 1, 1) := by decide +kernel
theorem d5_1 : decode jdk_65_method_121_code 1 = .ok (.aload_n 0, 1) := by decide +kernel
theorem d5_2 : decode jdk_65_method_121_code 2 = .ok (.arraylength, 1) := by decide +kernel
theorem d5_3 : decode jdk_65_method_121_code 3 = .ok (.if_icmp .ne 11, 3) := by decide +kernel
theorem d5_6 : decode jdk_65_method_121_code 6 = .ok (.aload_n 0, 1) := by decide +kernel
theorem d5_7 : decode jdk_65_method_121_code 7 = .ok (.invokevirtual 310, 3) := by decide +kernel
theorem d5_10 : decode jdk_65_method_121_code 10 = .ok (.checkcast 311, 3) := by decide +kernel
theorem d5_13 : decode jdk_65_method_121_code 13 = .ok (.areturn, 1) := by decide +kernel
theorem d5_14 : decode jdk_65_method_121_code 14 = .ok (.iload_n 1, 1) := by decide +kernel
theorem d5_15 : decode jdk_65_method_121_code 15 = .ok (.newarray .byte, 2) := by decide +kernel
theorem d5_17 : decode jdk_65_method_121_code 17 = .ok (.astore_n 2, 1) := by decide +kernel
theorem d5_18 : decode jdk_65_method_121_code 18 = .ok (.aload_n 0, 1) := by decide +kernel
theorem d5_19 : decode jdk_65_method_121_code 19 = .ok (.iconst 0, 1) := by decide +kernel
theorem d5_20 : decode jdk_65_method_121_code 20 = .ok (.aload_n 2, 1) := by decide +kernel
theorem d5_21 : decode jdk_65_method_121_code 21 = .ok (.iconst 0, 1) := by decide +kernel
theorem d5_22 : decode jdk_65_method_121_code 22 = .ok (.aload_n 0, 1) := by decide +kernel
theorem d5_23 : decode jdk_65_method_121_code 23 = .ok (.arraylength, 1) := by decide +kernel
theorem d5_24 : decode jdk_65_method_121_code 24 = .ok (.iload_n 1, 1) := by decide +kernel
theorem d5_25 : decode jdk_65_method_121_code 25 = .ok (.invokestatic 304, 3) := by decide +kernel
theorem d5_28 : decode jdk_65_method_121_code 28 = .ok (.invokestatic 150, 3) := by decide +kernel
theorem d5_31 : decode jdk_65_method_121_code 31 = .ok (.aload_n 2, 1) := by decide +kernel
theorem d5_32 : decode jdk_65_method_121_code 32 = .ok (.areturn, 1) := by decide +kernel
theorem pn_5 : plainFor (⟨"java/util/Arrays", "copyOf", "([BI)[B"⟩ : MethodName) = true := by first | exact plainFor_of_name (by first | (simp [plainName, overriddenIn]; done) | decide +kernel) | decide +kernel
set_option maxRecDepth 65536 in
set_option maxHeartbeats 4000000 in
theorem rm_cpG (l : Launch) (Z : State) (a0 : Array Value) (hw : ∀ d ∈ tables_1, d.before a0 Z = true) (b0 : Addr) (bs : List Value) (n : Nat) (h0 : Heap) (A : Ary Z h0 b0 .byte bs) (E : Exa Z h0 b0 "[B") (hfit : ∀ v ∈ bs, fits .byte v = true) (hb : bs.length ≤ 300) (hn : n ≤ 272) :
    Met l Z (⟨"java/util/Arrays", "copyOf", "([BI)[B"⟩ : MethodName) jdk_65_method_121_code 3 (some (.array .byte)) [] ({ frames := 1, cells := 1, slots := 272, locals := 18 } : Room) #[(.ref b0), (.int (Int32.ofNat n))] h0 [] (fun v h => ∃ r, v = some (.ref r) ∧ h0.size ≤ r ∧ Ary Z h r .byte (own_copy bs n) ∧ Exa Z h r "[B") := by
  refine Met.walk pn_5 (Ls := #[.val (.ref b0), .val (.int (Int32.ofNat n)), .unset]) (fun m => by first | (simp [entryFrame, mkF, argsToLocals, Value.category, maxLocals]; done) | rfl) ?_
  intro p e s m below meth c B
  refine B.iloadN 1 rfl d5_0 rfl ?_
  refine B.aloadN 2 rfl d5_1 rfl rfl ?_
  refine B.arrlen 3 rfl d5_2 A (Int32.ofNat bs.length) rfl ?_
  refine B.icmp_ne 14 6 rfl (by decide) rfl d5_3 (fun c3 => ?_) (fun c3 => ?_)
  · refine B.iloadN 15 rfl d5_14 rfl ?_
    refine B.newPE 17 rfl d5_15 (wd hw 3 rfl) (own_nn n (by omega)).1 272 (by rw [(own_nn n (by omega)).2]; omega) (by decide) (by decide) (by decide) "[B" rfl ?_
    intro h1 r er gr X1 A1 E1
    rw [(own_nn n (by omega)).2] at A1
    replace A1 : Ary Z h1 r .byte (List.replicate n (.int 0)) := A1
    show B.G h1 1 272 (mkF m 17 #[.val (.ref b0), .val (.int (Int32.ofNat n)), .unset] [(.ref r)])
    refine B.astoreN 18 rfl d5_17 rfl #[.val (.ref b0), .val (.int (Int32.ofNat n)), .val (.ref r)] rfl ?_
    refine B.aloadN 19 rfl d5_18 rfl rfl ?_
    refine B.iconst 20 rfl (0 : Int32) d5_19 rfl ?_
    refine B.aloadN 21 rfl d5_20 rfl rfl ?_
    refine B.iconst 22 rfl (0 : Int32) d5_21 rfl ?_
    refine B.aloadN 23 rfl d5_22 rfl rfl ?_
    refine B.arrlen 24 rfl d5_23 (A.ext X1) (Int32.ofNat bs.length) rfl ?_
    refine B.iloadN 25 rfl d5_24 rfl ?_
    refine B.callS 28 rfl d5_25 (wd hw 31 rfl) (wd hw 32 rfl) (wd hw 33 rfl) (wd hw 34 rfl) (by decide) [(.int (Int32.ofNat bs.length)), (.int (Int32.ofNat n))] [(.int (0 : Int32)), (.ref r), (.int (0 : Int32)), (.ref b0)] (rm_min l Z a0 hw (Int32.ofNat bs.length) (Int32.ofNat n) h1) rfl rfl pd__II_I rfl rfl 4 rfl (by decide) (by decide) (by decide) (by decide) (fun _ q => nomatch q) ?_
    rintro _ _ - ⟨rfl, rfl⟩
    show B.G h1 1 272 (mkF m 28 #[.val (.ref b0), .val (.int (Int32.ofNat n)), .val (.ref r)] [(.int (if (Int32.ofNat n) < (Int32.ofNat bs.length) then (Int32.ofNat n) else (Int32.ofNat bs.length))), (.int (0 : Int32)), (.ref r), (.int (0 : Int32)), (.ref b0)])
    refine B.topI (Int32.ofNat (min bs.length n)) (own_min bs.length n (by omega) (by omega)) ?_
    refine B.arrcp 31 rfl d5_28 (wd hw 35 rfl) (wd hw 38 rfl) (wd hw 36 rfl) (wd hw 37 rfl) (A.ext X1) A1 rfl hfit (by decide) (by decide) (own_nn (min bs.length n) (by omega)).1 0 0 (min bs.length n) rfl rfl (own_nn (min bs.length n) (by omega)).2 (by omega) (by rw [List.length_replicate]; omega) (Or.inr gr) rfl 0 rfl (by decide) (by decide) ?_
    intro h2 K2 A2
    show B.G h2 1 272 (mkF m 31 #[.val (.ref b0), .val (.int (Int32.ofNat n)), .val (.ref r)] [])
    refine B.aloadN 32 rfl d5_31 rfl rfl ?_
    refine B.retA rfl rfl d5_32 (by decide) (by decide) ?_
    exact ⟨r, rfl, gr, by rw [← own_cp]; exact A2, E1.keep K2⟩
  · refine B.aloadN 7 rfl d5_6 rfl rfl ?_
    have en : n = bs.length := (own_inj n bs.length (by omega) (by omega)).mp c3
    refine B.clone 10 rfl d5_7 (wd hw 80 rfl) (wd hw 81 rfl) (wd hw 85 rfl) (wd hw 83 rfl) (wd hw 84 rfl) (wd hw 86 rfl) A E hfit rfl 0 rfl (by decide) (by decide) 272 (by omega) (by decide) (by decide) ?_
    intro h1 r er gr X1 A1 E1
    show B.G h1 1 272 (mkF m 10 #[.val (.ref b0), .val (.int (Int32.ofNat n)), .unset] [(.ref r)])
    refine B.castY 13 rfl d5_10 (wd hw 87 rfl) (Ins.self E1) ?_
    refine B.retA rfl rfl d5_13 (by decide) (by decide) ?_
    exact ⟨r, rfl, gr, by rw [en, own_copy_eq]; exact A1, E1⟩
theorem d2_0 : decode prog_64_method_2_code 0 = .ok (.aload_n 0, 1) := by decide +kernel
theorem d2_1 : decode prog_64_method_2_code 1 = .ok (.invokespecial 7, 3) := by decide +kernel
theorem d2_4 : decode prog_64_method_2_code 4 = .ok (.aload_n 0, 1) := by decide +kernel
theorem d2_5 : decode prog_64_method_2_code 5 = .ok (.aload_n 1, 1) := by decide +kernel
theorem d2_6 : decode prog_64_method_2_code 6 = .ok (.putfield 12, 3) := by decide +kernel
theorem d2_9 : decode prog_64_method_2_code 9 = .ok (.aload_n 0, 1) := by decide +kernel
theorem d2_10 : decode prog_64_method_2_code 10 = .ok (.iload_n 2, 1) := by decide +kernel
theorem d2_11 : decode prog_64_method_2_code 11 = .ok (.putfield 16, 3) := by decide +kernel
theorem d2_14 : decode prog_64_method_2_code 14 = .ok (.aload_n 0, 1) := by decide +kernel
theorem d2_15 : decode prog_64_method_2_code 15 = .ok (.iload_n 3, 1) := by decide +kernel
theorem d2_16 : decode prog_64_method_2_code 16 = .ok (.putfield 20, 3) := by decide +kernel
theorem d2_19 : decode prog_64_method_2_code 19 = .ok (.return_, 1) := by decide +kernel
theorem pn_2 : plainFor (⟨"sealgram/codec/WireWriter", "<init>", "([BIZ)V"⟩ : MethodName) = true := by first | exact plainFor_of_name (by first | (simp [plainName, overriddenIn]; done) | decide +kernel) | decide +kernel
set_option maxRecDepth 65536 in
set_option maxHeartbeats 4000000 in
theorem rm_i3 (l : Launch) (Z : State) (a0 : Array Value) (hw : ∀ d ∈ tables_1, d.before a0 Z = true) (w b0 : Addr) (h0 : Heap) (E : Exa Z h0 w "sealgram/codec/WireWriter") (Fb : Fld Z h0 w "sealgram/codec/WireWriter" "mBytes" "[B" .null) (Fl : Fld Z h0 w "sealgram/codec/WireWriter" "mLength" "I" (.int 0)) (Fi : Fld Z h0 w "sealgram/codec/WireWriter" "mInPlace" "Z" (.int 0)) :
    Met l Z (⟨"sealgram/codec/WireWriter", "<init>", "([BIZ)V"⟩ : MethodName) prog_64_method_2_code 4 none [] ({ frames := 1, cells := 0, slots := 0, locals := 12 } : Room) #[(.ref w), (.ref b0), (.int (0 : Int32)), (.int (0 : Int32))] h0 [w] (fun v h => v = none ∧ Exa Z h w "sealgram/codec/WireWriter" ∧ Fld Z h w "sealgram/codec/WireWriter" "mBytes" "[B" (.ref b0) ∧ Fld Z h w "sealgram/codec/WireWriter" "mLength" "I" (.int 0) ∧ Fld Z h w "sealgram/codec/WireWriter" "mInPlace" "Z" (.int 0)) := by
  refine Met.walk pn_2 (Ls := #[.val (.ref w), .val (.ref b0), .val (.int (0 : Int32)), .val (.int (0 : Int32))]) (fun m => by first | (simp [entryFrame, mkF, argsToLocals, Value.category, maxLocals]; done) | rfl) ?_
  intro p e s m below meth c B
  refine B.aloadN 1 rfl d2_0 rfl rfl ?_
  refine B.initO 4 rfl d2_1 (wd hw 13 rfl) (wd hw 14 rfl) (wd hw 15 rfl) rfl 0 rfl (by decide) (by decide) ?_
  refine B.aloadN 5 rfl d2_4 rfl rfl ?_
  refine B.aloadN 6 rfl d2_5 rfl rfl ?_
  refine B.putF 9 rfl d2_6 (wd hw 16 rfl) Fb E (Or.inl (wd hw 17 rfl)) (wd hw 5 rfl) (ty := (.array .byte)) (by decide) rfl rfl (Or.inl (by simp)) ?_
  intro h1 W1
  have E1 := E.wr W1
  have FB1 := Fb.same W1
  have FL1 := Fl.other W1 (Or.inr (slot_ne (Or.inl (wd hw 19 rfl)) (Or.inl (wd hw 17 rfl)) (by decide) (t := .int) (t' := (.array .byte)) (by decide) (by decide)))
  have FI1 := Fi.other W1 (Or.inr (slot_ne (Or.inr (wd hw 21 rfl)) (Or.inl (wd hw 17 rfl)) (by decide) (t := .boolean) (t' := (.array .byte)) (by decide) (by decide)))
  refine B.aloadN 10 rfl d2_9 rfl rfl ?_
  refine B.iloadN 11 rfl d2_10 rfl ?_
  refine B.putF 14 rfl d2_11 (wd hw 18 rfl) FL1 E1 (Or.inl (wd hw 19 rfl)) (wd hw 5 rfl) (ty := .int) (by decide) rfl rfl (Or.inl (by simp)) ?_
  intro h2 W2
  have E2 := E1.wr W2
  have FB2 := FB1.other W2 (Or.inr (slot_ne (Or.inl (wd hw 17 rfl)) (Or.inl (wd hw 19 rfl)) (by decide) (t := (.array .byte)) (t' := .int) (by decide) (by decide)))
  have FL2 := FL1.same W2
  have FI2 := FI1.other W2 (Or.inr (slot_ne (Or.inr (wd hw 21 rfl)) (Or.inl (wd hw 19 rfl)) (by decide) (t := .boolean) (t' := .int) (by decide) (by decide)))
  refine B.aloadN 15 rfl d2_14 rfl rfl ?_
  refine B.iloadN 16 rfl d2_15 rfl ?_
  refine B.putF 19 rfl d2_16 (wd hw 20 rfl) FI2 E2 (Or.inr ⟨(wd hw 21 rfl), rfl, rfl⟩) (wd hw 5 rfl) (ty := .boolean) (by decide) rfl rfl (Or.inl (by simp)) ?_
  intro h3 W3
  have E3 := E2.wr W3
  have FB3 := FB2.other W3 (Or.inr (slot_ne (Or.inl (wd hw 17 rfl)) (Or.inr (wd hw 21 rfl)) (by decide) (t := (.array .byte)) (t' := .boolean) (by decide) (by decide)))
  have FL3 := FL2.other W3 (Or.inr (slot_ne (Or.inl (wd hw 19 rfl)) (Or.inr (wd hw 21 rfl)) (by decide) (t := .int) (t' := .boolean) (by decide) (by decide)))
  have FI3 := FI2.same W3
  refine B.ret0 d2_19 (by decide) (by decide) ?_
  exact ⟨rfl, E3, FB3, FL3, FI3⟩
theorem d1_0 : decode prog_64_method_1_code 0 = .ok (.aload_n 0, 1) := by decide +kernel
theorem d1_1 : decode prog_64_method_1_code 1 = .ok (.bipush 64, 2) := by decide +kernel
theorem d1_3 : decode prog_64_method_1_code 3 = .ok (.newarray .byte, 2) := by decide +kernel
theorem d1_5 : decode prog_64_method_1_code 5 = .ok (.iconst 0, 1) := by decide +kernel
theorem d1_6 : decode prog_64_method_1_code 6 = .ok (.iconst 0, 1) := by decide +kernel
theorem d1_7 : decode prog_64_method_1_code 7 = .ok (.invokespecial 1, 3) := by decide +kernel
theorem d1_10 : decode prog_64_method_1_code 10 = .ok (.return_, 1) := by decide +kernel
theorem pn_1 : plainFor (⟨"sealgram/codec/WireWriter", "<init>", "()V"⟩ : MethodName) = true := by first | exact plainFor_of_name (by first | (simp [plainName, overriddenIn]; done) | decide +kernel) | decide +kernel
set_option maxRecDepth 65536 in
set_option maxHeartbeats 4000000 in
theorem rm_i0 (l : Launch) (Z : State) (a0 : Array Value) (hw : ∀ d ∈ tables_1, d.before a0 Z = true) (w : Addr) (h0 : Heap) (E : Exa Z h0 w "sealgram/codec/WireWriter") (Fb : Fld Z h0 w "sealgram/codec/WireWriter" "mBytes" "[B" .null) (Fl : Fld Z h0 w "sealgram/codec/WireWriter" "mLength" "I" (.int 0)) (Fi : Fld Z h0 w "sealgram/codec/WireWriter" "mInPlace" "Z" (.int 0)) :
    Met l Z (⟨"sealgram/codec/WireWriter", "<init>", "()V"⟩ : MethodName) prog_64_method_1_code 1 none [] ({ frames := 2, cells := 1, slots := 64, locals := 27 } : Room) #[(.ref w)] h0 [w] (fun v h => v = none ∧ ∃ b0, h0.size ≤ b0 ∧ Wout Z h w b0 [] 64) := by
  refine Met.walk pn_1 (Ls := #[.val (.ref w)]) (fun m => by first | (simp [entryFrame, mkF, argsToLocals, Value.category, maxLocals]; done) | rfl) ?_
  intro p e s m below meth c B
  refine B.aloadN 1 rfl d1_0 rfl rfl ?_
  refine B.bipush 3 rfl (64 : Int32) d1_1 rfl ?_
  refine B.newPE 5 rfl d1_3 (wd hw 3 rfl) (by decide) 64 (by decide) (by decide) (by decide) (by decide) "[B" rfl ?_
  intro h1 bq eq gb X1 A1 Eb1
  replace A1 : Ary Z h1 bq .byte (List.replicate 64 (.int 0)) := A1
  have nb : bq ≠ w := fun q => absurd E.lt (by rw [← q, eq]; exact Nat.lt_irrefl _)
  show B.G h1 1 64 (mkF m 5 #[.val (.ref w)] [(.ref bq), (.ref w)])
  refine B.iconst 6 rfl (0 : Int32) d1_5 rfl ?_
  refine B.iconst 7 rfl (0 : Int32) d1_6 rfl ?_
  refine B.callI 10 rfl d1_7 rfl (wd hw 10 rfl) (wd hw 11 rfl) (wd hw 6 rfl) (wd hw 12 rfl) (by decide) [(.ref bq), (.int (0 : Int32)), (.int (0 : Int32))] [] (rm_i3 l Z a0 hw w bq h1 (E.ext X1) (Fb.ext X1) (Fl.ext X1) (Fi.ext X1)) rfl rfl pd___BIZ_V rfl rfl 0 rfl (by decide) (by decide) (by decide) (by decide) (fun x z => Or.inl z) ?_
  rintro _ h2 K2 ⟨rfl, E2, Fb2, Fl2, Fi2⟩
  show B.G h2 1 64 (mkF m 10 #[.val (.ref w)] [])
  refine B.ret0 d1_10 (by decide) (by decide) ?_
  exact ⟨rfl, bq, gb, List.replicate 64 (.int 0), ⟨E2, Fb2, Fl2, Fi2, A1.keep K2 (ninS nb nin0), Eb1.keep K2, fun v hv => by rw [(List.mem_replicate.mp hv).2]; rfl, nb⟩, rfl, by decide, rfl⟩
theorem d9_0 : decode prog_64_method_15_code 0 = .ok (.aload_n 0, 1) := by decide +kernel
theorem d9_1 : decode prog_64_method_15_code 1 = .ok (.getfield 16, 3) := by decide +kernel
theorem d9_4 : decode prog_64_method_15_code 4 = .ok (.iload_n 1, 1) := by decide +kernel
theorem d9_5 : decode prog_64_method_15_code 5 = .ok (.iadd, 1) := by decide +kernel
theorem d9_6 : decode prog_64_method_15_code 6 = .ok (.aload_n 0, 1) := by decide +kernel
theorem d9_7 : decode prog_64_method_15_code 7 = .ok (.getfield 12, 3) := by decide +kernel
theorem d9_10 : decode prog_64_method_15_code 10 = .ok (.arraylength, 1) := by decide +kernel
theorem d9_11 : decode prog_64_method_15_code 11 = .ok (.if_icmp .le 60, 3) := by decide +kernel
theorem d9_14 : decode prog_64_method_15_code 14 = .ok (.aload_n 0, 1) := by decide +kernel
theorem d9_15 : decode prog_64_method_15_code 15 = .ok (.getfield 20, 3) := by decide +kernel
theorem d9_18 : decode prog_64_method_15_code 18 = .ok (.ifCond .eq 26, 3) := by decide +kernel
theorem d9_44 : decode prog_64_method_15_code 44 = .ok (.aload_n 0, 1) := by decide +kernel
theorem d9_45 : decode prog_64_method_15_code 45 = .ok (.aload_n 0, 1) := by decide +kernel
theorem d9_46 : decode prog_64_method_15_code 46 = .ok (.getfield 12, 3) := by decide +kernel
theorem d9_49 : decode prog_64_method_15_code 49 = .ok (.iconst 2, 1) := by decide +kernel
theorem d9_50 : decode prog_64_method_15_code 50 = .ok (.aload_n 0, 1) := by decide +kernel
theorem d9_51 : decode prog_64_method_15_code 51 = .ok (.getfield 12, 3) := by decide +kernel
theorem d9_54 : decode prog_64_method_15_code 54 = .ok (.arraylength, 1) := by decide +kernel
theorem d9_55 : decode prog_64_method_15_code 55 = .ok (.imul, 1) := by decide +kernel
theorem d9_56 : decode prog_64_method_15_code 56 = .ok (.aload_n 0, 1) := by decide +kernel
theorem d9_57 : decode prog_64_method_15_code 57 = .ok (.getfield 16, 3) := by decide +kernel
theorem d9_60 : decode prog_64_method_15_code 60 = .ok (.iload_n 1, 1) := by decide +kernel
theorem d9_61 : decode prog_64_method_15_code 61 = .ok (.iadd, 1) := by decide +kernel
theorem d9_62 : decode prog_64_method_15_code 62 = .ok (.invokestatic 87, 3) := by decide +kernel
theorem d9_65 : decode prog_64_method_15_code 65 = .ok (.invokestatic 66, 3) := by decide +kernel
theorem d9_68 : decode prog_64_method_15_code 68 = .ok (.putfield 12, 3) := by decide +kernel
theorem d9_71 : decode prog_64_method_15_code 71 = .ok (.return_, 1) := by decide +kernel
theorem pn_9 : plainFor (⟨"sealgram/codec/WireWriter", "grow", "(I)V"⟩ : MethodName) = true := by first | exact plainFor_of_name (by first | (simp [plainName, overriddenIn]; done) | decide +kernel) | decide +kernel
set_option maxRecDepth 65536 in
set_option maxHeartbeats 4000000 in
theorem rm_gr (l : Launch) (Z : State) (a0 : Array Value) (hw : ∀ d ∈ tables_1, d.before a0 Z = true) (w b0 : Addr) (out : List Value) (N : Nat) (k : Nat) (h0 : Heap) (H : Wout Z h0 w b0 out N) (hN : N ≤ 136) (hL : out.length + k ≤ 139) :
    Met l Z (⟨"sealgram/codec/WireWriter", "grow", "(I)V"⟩ : MethodName) prog_64_method_15_code 2 none [] ({ frames := 2, cells := 1, slots := 272, locals := 33 } : Room) #[(.ref w), (.int (Int32.ofNat k))] h0 [w] (fun v h => v = none ∧ ∃ b1, (b1 = b0 ∨ h0.size ≤ b1) ∧ Wout Z h w b1 out (own_g N out.length k)) := by
  refine Met.walk pn_9 (Ls := #[.val (.ref w), .val (.int (Int32.ofNat k))]) (fun m => by first | (simp [entryFrame, mkF, argsToLocals, Value.category, maxLocals]; done) | rfl) ?_
  intro p e s m below meth c B
  obtain ⟨bs, ⟨Ew, Fb, Fl, Fi, A, Eb, hf, ne⟩, ht, hle, hlen⟩ := H
  refine B.aloadN 1 rfl d9_0 rfl rfl ?_
  refine B.getF 4 rfl d9_1 (wd hw 18 rfl) Fl ?_
  refine B.iloadN 5 rfl d9_4 rfl ?_
  refine B.iadd 6 rfl d9_5 ?_
  refine B.topI (Int32.ofNat (out.length + k)) (own_add out.length k) ?_
  refine B.aloadN 7 rfl d9_6 rfl rfl ?_
  refine B.getF 10 rfl d9_7 (wd hw 16 rfl) Fb ?_
  refine B.arrlen 11 rfl d9_10 A (Int32.ofNat N) (by rw [hlen]) ?_
  refine B.icmp_le 71 14 rfl (by decide) rfl d9_11 (fun c11 => ?_) (fun c11 => ?_)
  · refine B.ret0 d9_71 (by decide) (by decide) ?_
    have hge : ¬ N < out.length + k := fun q => c11 ((own_lt N (out.length + k) (by omega) (by omega)).mpr q)
    have eg : own_g N out.length k = N := if_pos (by omega)
    rw [eg]
    exact ⟨rfl, b0, Or.inl rfl, bs, ⟨Ew, Fb, Fl, Fi, A, Eb, hf, ne⟩, ht, hle, hlen⟩
  · refine B.aloadN 15 rfl d9_14 rfl rfl ?_
    refine B.getF 18 rfl d9_15 (wd hw 20 rfl) Fi ?_
    refine B.if0_eq 44 21 rfl (by decide) rfl d9_18 (fun c18 => ?_) (fun c18 => ?_)
    · refine B.aloadN 45 rfl d9_44 rfl rfl ?_
      refine B.aloadN 46 rfl d9_45 rfl rfl ?_
      refine B.getF 49 rfl d9_46 (wd hw 16 rfl) Fb ?_
      refine B.iconst 50 rfl (2 : Int32) d9_49 rfl ?_
      refine B.aloadN 51 rfl d9_50 rfl rfl ?_
      refine B.getF 54 rfl d9_51 (wd hw 16 rfl) Fb ?_
      refine B.arrlen 55 rfl d9_54 A (Int32.ofNat N) (by rw [hlen]) ?_
      refine B.imul 56 rfl d9_55 ?_
      refine B.topI (Int32.ofNat (2 * N)) (own_mul N) ?_
      refine B.aloadN 57 rfl d9_56 rfl rfl ?_
      refine B.getF 60 rfl d9_57 (wd hw 18 rfl) Fl ?_
      refine B.iloadN 61 rfl d9_60 rfl ?_
      refine B.iadd 62 rfl d9_61 ?_
      refine B.topI (Int32.ofNat (out.length + k)) (own_add out.length k) ?_
      refine B.callS 65 rfl d9_62 (wd hw 77 rfl) (wd hw 78 rfl) (wd hw 33 rfl) (wd hw 79 rfl) (by decide) [(.int (Int32.ofNat (2 * N))), (.int (Int32.ofNat (out.length + k)))] [(.ref b0), (.ref w)] (rm_max l Z a0 hw (Int32.ofNat (2 * N)) (Int32.ofNat (out.length + k)) h0) rfl rfl pd__II_I rfl rfl 2 rfl (by decide) (by decide) (by decide) (by decide) (fun _ q => nomatch q) ?_
      rintro _ _ - ⟨rfl, rfl⟩
      show B.G h0 0 0 (mkF m 65 #[.val (.ref w), .val (.int (Int32.ofNat k))] [(.int (if (Int32.ofNat (2 * N)) < (Int32.ofNat (out.length + k)) then (Int32.ofNat (out.length + k)) else (Int32.ofNat (2 * N)))), (.ref b0), (.ref w)])
      refine B.topI (Int32.ofNat (max (2 * N) (out.length + k))) (own_max (2 * N) (out.length + k) (by omega) (by omega)) ?_
      refine B.callS 68 rfl d9_65 (wd hw 27 rfl) (wd hw 28 rfl) (wd hw 29 rfl) (wd hw 30 rfl) (by decide) [(.ref b0), (.int (Int32.ofNat (max (2 * N) (out.length + k))))] [(.ref w)] (rm_cpG l Z a0 hw b0 bs (max (2 * N) (out.length + k)) h0 A Eb hf (by omega) (by omega)) rfl rfl pd___BI__B rfl rfl 1 rfl (by decide) (by decide) (by decide) (by decide) (fun _ q => nomatch q) ?_
      rintro _ h1 K1 ⟨r, rfl, gr, Ar, Er⟩
      show B.G h1 1 272 (mkF m 68 #[.val (.ref w), .val (.int (Int32.ofNat k))] [(.ref r), (.ref w)])
      have Ew1 := Ew.keep K1
      have Fb1 := Fb.keep K1 nin0
      have Fl1 := Fl.keep K1 nin0
      have Fi1 := Fi.keep K1 nin0
      have nr : r ≠ w := fun q => absurd Ew.lt (by rw [← q]; exact Nat.not_lt.mpr gr)
      refine B.putF 71 rfl d9_68 (wd hw 16 rfl) Fb1 Ew1 (Or.inl (wd hw 17 rfl)) (wd hw 5 rfl) (ty := (.array .byte)) (by decide) rfl rfl (Or.inl (by simp)) ?_
      intro h2 W2
      refine B.ret0 d9_71 (by decide) (by decide) ?_
      have hlt : N < out.length + k := (own_lt N (out.length + k) (by omega) (by omega)).mp c11
      have eg : own_g N out.length k = (max (2 * N) (out.length + k)) := if_neg (by omega)
      rw [eg]
      exact ⟨rfl, r, Or.inr gr, own_copy bs (max (2 * N) (out.length + k)), ⟨Ew1.wr W2, Fb1.same W2, Fl1.other W2 (Or.inr (slot_ne (Or.inl (wd hw 19 rfl)) (Or.inl (wd hw 17 rfl)) (by decide) (t := .int) (t' := (.array .byte)) (by decide) (by decide))), Fi1.other W2 (Or.inr (slot_ne (Or.inr (wd hw 21 rfl)) (Or.inl (wd hw 17 rfl)) (by decide) (t := .boolean) (t' := (.array .byte)) (by decide) (by decide))), Ar.other W2 nr, Er.wr W2, own_copy_fit bs _ hf, nr⟩, by rw [own_copy_take bs _ _ (by omega) (by omega)]; exact ht, by omega, own_copy_len bs _⟩
    · exact absurd c18 (by decide)
theorem d8_0 : decode prog_64_method_14_code 0 = .ok (.lload_n 1, 1) := by decide +kernel
theorem d8_1 : decode prog_64_method_14_code 1 = .ok (.lconst 0, 1) := by decide +kernel
theorem d8_2 : decode prog_64_method_14_code 2 = .ok (.lcmp, 1) := by decide +kernel
theorem d8_3 : decode prog_64_method_14_code 3 = .ok (.ifCond .lt 14, 3) := by decide +kernel
theorem d8_6 : decode prog_64_method_14_code 6 = .ok (.lload_n 1, 1) := by decide +kernel
theorem d8_7 : decode prog_64_method_14_code 7 = .ok (.bipush 8, 2) := by decide +kernel
theorem d8_9 : decode prog_64_method_14_code 9 = .ok (.iload_n 3, 1) := by decide +kernel
theorem d8_10 : decode prog_64_method_14_code 10 = .ok (.imul, 1) := by decide +kernel
theorem d8_11 : decode prog_64_method_14_code 11 = .ok (.lushr, 1) := by decide +kernel
theorem d8_12 : decode prog_64_method_14_code 12 = .ok (.lconst 0, 1) := by decide +kernel
theorem d8_13 : decode prog_64_method_14_code 13 = .ok (.lcmp, 1) := by decide +kernel
theorem d8_14 : decode prog_64_method_14_code 14 = .ok (.ifCond .eq 18, 3) := by decide +kernel
theorem d8_32 : decode prog_64_method_14_code 32 = .ok (.aload_n 0, 1) := by decide +kernel
theorem d8_33 : decode prog_64_method_14_code 33 = .ok (.iload_n 3, 1) := by decide +kernel
theorem d8_34 : decode prog_64_method_14_code 34 = .ok (.invokevirtual 28, 3) := by decide +kernel
theorem d8_37 : decode prog_64_method_14_code 37 = .ok (.iload_n 3, 1) := by decide +kernel
theorem d8_38 : decode prog_64_method_14_code 38 = .ok (.iconst 1, 1) := by decide +kernel
theorem d8_39 : decode prog_64_method_14_code 39 = .ok (.isub, 1) := by decide +kernel
theorem d8_40 : decode prog_64_method_14_code 40 = .ok (.istore 4, 2) := by decide +kernel
theorem d8_42 : decode prog_64_method_14_code 42 = .ok (.iload 4, 2) := by decide +kernel
theorem d8_44 : decode prog_64_method_14_code 44 = .ok (.ifCond .lt 34, 3) := by decide +kernel
theorem d8_47 : decode prog_64_method_14_code 47 = .ok (.aload_n 0, 1) := by decide +kernel
theorem d8_48 : decode prog_64_method_14_code 48 = .ok (.getfield 12, 3) := by decide +kernel
theorem d8_51 : decode prog_64_method_14_code 51 = .ok (.aload_n 0, 1) := by decide +kernel
theorem d8_52 : decode prog_64_method_14_code 52 = .ok (.dup, 1) := by decide +kernel
theorem d8_53 : decode prog_64_method_14_code 53 = .ok (.getfield 16, 3) := by decide +kernel
theorem d8_56 : decode prog_64_method_14_code 56 = .ok (.dup_x1, 1) := by decide +kernel
theorem d8_57 : decode prog_64_method_14_code 57 = .ok (.iconst 1, 1) := by decide +kernel
theorem d8_58 : decode prog_64_method_14_code 58 = .ok (.iadd, 1) := by decide +kernel
theorem d8_59 : decode prog_64_method_14_code 59 = .ok (.putfield 16, 3) := by decide +kernel
theorem d8_62 : decode prog_64_method_14_code 62 = .ok (.lload_n 1, 1) := by decide +kernel
theorem d8_63 : decode prog_64_method_14_code 63 = .ok (.bipush 8, 2) := by decide +kernel
theorem d8_65 : decode prog_64_method_14_code 65 = .ok (.iload 4, 2) := by decide +kernel
theorem d8_67 : decode prog_64_method_14_code 67 = .ok (.imul, 1) := by decide +kernel
theorem d8_68 : decode prog_64_method_14_code 68 = .ok (.lushr, 1) := by decide +kernel
theorem d8_69 : decode prog_64_method_14_code 69 = .ok (.l2i, 1) := by decide +kernel
theorem d8_70 : decode prog_64_method_14_code 70 = .ok (.i2b, 1) := by decide +kernel
theorem d8_71 : decode prog_64_method_14_code 71 = .ok (.bastore, 1) := by decide +kernel
theorem d8_72 : decode prog_64_method_14_code 72 = .ok (.iinc 4 (-1), 3) := by decide +kernel
theorem d8_75 : decode prog_64_method_14_code 75 = .ok (.goto (-33), 3) := by decide +kernel
theorem d8_78 : decode prog_64_method_14_code 78 = .ok (.aload_n 0, 1) := by decide +kernel
theorem d8_79 : decode prog_64_method_14_code 79 = .ok (.areturn, 1) := by decide +kernel
theorem pn_8 : plainFor (⟨"sealgram/codec/WireWriter", "uint", "(JI)Lsealgram/codec/WireWriter;"⟩ : MethodName) = true := by first | exact plainFor_of_name (by first | (simp [plainName, overriddenIn]; done) | decide +kernel) | decide +kernel
set_option maxRecDepth 65536 in
set_option maxHeartbeats 4000000 in
theorem rm_u1 (l : Launch) (Z : State) (a0 : Array Value) (hw : ∀ d ∈ tables_1, d.before a0 Z = true) (w b0 : Addr) (v0 : Int64) (out : List Value) (N : Nat) (h0 : Heap) (H : Wout Z h0 w b0 out N) (hN : N ≤ 136) (hL : out.length + 1 ≤ 139) (hneg : ¬ v0 < 0) (hbig : XT.ushrL v0 (8 : Int32) = 0) :
    Met l Z (⟨"sealgram/codec/WireWriter", "uint", "(JI)Lsealgram/codec/WireWriter;"⟩ : MethodName) prog_64_method_14_code 5 (some (.object "sealgram/codec/WireWriter")) [] ({ frames := 3, cells := 1, slots := 272, locals := 46 } : Room) #[(.ref w), (.long v0), (.int (1 : Int32))] h0 [w, b0] (fun v h => v = some (.ref w) ∧ ∃ b1, (b1 = b0 ∨ h0.size ≤ b1) ∧ Wout Z h w b1 (out ++ [(.int ((XT.ushrL v0 (0 : Int32)).toInt32.toInt8.toInt32))]) (own_g N out.length 1)) := by
  refine Met.walk pn_8 (Ls := #[.val (.ref w), .val (.long v0), .second, .val (.int (1 : Int32)), .unset]) (fun m => by first | (simp [entryFrame, mkF, argsToLocals, Value.category, maxLocals]; done) | rfl) ?_
  intro p e s m below meth c B
  refine B.lloadN 1 rfl d8_0 rfl ?_
  refine B.lconst 2 rfl (0 : Int64) d8_1 rfl ?_
  refine B.lcmp 3 rfl d8_2 ?_
  refine B.lif_lt 17 6 rfl (by decide) rfl d8_3 (fun c3 => ?_) (fun c3 => ?_)
  · exact absurd c3 hneg
  · refine B.lloadN 7 rfl d8_6 rfl ?_
    refine B.bipush 9 rfl (8 : Int32) d8_7 rfl ?_
    refine B.iloadN 10 rfl d8_9 rfl ?_
    refine B.imul 11 rfl d8_10 ?_
    refine B.topI (8 : Int32) (by decide) ?_
    refine B.lushr 12 rfl d8_11 ?_
    refine B.lconst 13 rfl (0 : Int64) d8_12 rfl ?_
    refine B.lcmp 14 rfl d8_13 ?_
    refine B.lif_eq 32 17 rfl (by decide) rfl d8_14 (fun c14 => ?_) (fun c14 => ?_)
    · refine B.aloadN 33 rfl d8_32 rfl rfl ?_
      refine B.iloadN 34 rfl d8_33 rfl ?_
      refine B.callP 37 rfl d8_34 (wd hw 48 rfl) (wd hw 50 rfl) (wd hw 49 rfl) (wd hw 25 rfl) rfl (wd hw 6 rfl) (wd hw 51 rfl) (by decide) H.ex [(.int (1 : Int32))] [] (rm_gr l Z a0 hw w b0 out N 1 h0 H hN hL) rfl rfl pd__I_V rfl rfl 0 rfl (by decide) (by decide) (by decide) (by decide) (fun x z => Or.inl (by cases List.mem_singleton.mp z; simp)) ?_
      rintro _ h1 K1 ⟨rfl, b1, hb1, bs, ⟨Ew, Fb, Fl, Fi, A, Eb, hf, ne⟩, ht, hle, hlen⟩
      show B.G h1 1 272 (mkF m 37 #[.val (.ref w), .val (.long v0), .second, .val (.int (1 : Int32)), .unset] [])
      have hr : out.length + 1 ≤ bs.length := by rw [hlen]; exact own_g_le _ _ _
      refine B.iloadN 38 rfl d8_37 rfl ?_
      refine B.iconst 39 rfl (1 : Int32) d8_38 rfl ?_
      refine B.isub 40 rfl d8_39 ?_
      refine B.topI (0 : Int32) (by decide) ?_
      refine B.istore 42 rfl d8_40 #[.val (.ref w), .val (.long v0), .second, .val (.int (1 : Int32)), .val (.int (0 : Int32))] rfl ?_
      refine B.iload 44 rfl d8_42 rfl ?_
      refine B.if0_lt 78 47 rfl (by decide) rfl d8_44 (fun c44 => ?_) (fun c44 => ?_)
      · exact absurd c44 (by decide)
      · refine B.aloadN 48 rfl d8_47 rfl rfl ?_
        refine B.getF 51 rfl d8_48 (wd hw 16 rfl) Fb ?_
        refine B.aloadN 52 rfl d8_51 rfl rfl ?_
        refine B.dup 53 rfl d8_52 rfl ?_
        refine B.getF 56 rfl d8_53 (wd hw 18 rfl) Fl ?_
        refine B.dupX1 57 rfl d8_56 rfl rfl ?_
        refine B.iconst 58 rfl (1 : Int32) d8_57 rfl ?_
        refine B.iadd 59 rfl d8_58 ?_
        refine B.topI (Int32.ofNat (out.length + 1)) (own_add out.length 1) ?_
        refine B.putF 62 rfl d8_59 (wd hw 18 rfl) Fl Ew (Or.inl (wd hw 19 rfl)) (wd hw 5 rfl) (ty := .int) (by decide) rfl rfl (Or.inl (by simp)) ?_
        intro ha0 Wa0
        have Ew_a0 := Ew.wr Wa0
        have Fb_a0 := Fb.other Wa0 (Or.inr (slot_ne (Or.inl (wd hw 17 rfl)) (Or.inl (wd hw 19 rfl)) (by decide) (t := (.array .byte)) (t' := .int) (by decide) (by decide)))
        have Fl_a0 := Fl.same Wa0
        have Fi_a0 := Fi.other Wa0 (Or.inr (slot_ne (Or.inr (wd hw 21 rfl)) (Or.inl (wd hw 19 rfl)) (by decide) (t := .boolean) (t' := .int) (by decide) (by decide)))
        have A_a0 := A.other Wa0 ne
        have Eb_a0 := Eb.wr Wa0
        refine B.lloadN 63 rfl d8_62 rfl ?_
        refine B.bipush 65 rfl (8 : Int32) d8_63 rfl ?_
        refine B.iload 67 rfl d8_65 rfl ?_
        refine B.imul 68 rfl d8_67 ?_
        refine B.topI (0 : Int32) (by decide) ?_
        refine B.lushr 69 rfl d8_68 ?_
        refine B.l2i 70 rfl d8_69 ?_
        refine B.i2b 71 rfl d8_70 ?_
        refine B.bastore 72 rfl d8_71 A_a0 (own_nn out.length (by omega)).1 out.length (own_nn out.length (by omega)).2 (by omega) (hb1.elim (fun q => Or.inl (by rw [q]; simp)) Or.inr) ?_
        intro hb0_ Wb0 A_b0
        rw [own_b] at A_b0
        have Ew_b0 := Ew_a0.wr Wb0
        have Fb_b0 := Fb_a0.other Wb0 (Or.inl (Ne.symm ne))
        have Fl_b0 := Fl_a0.other Wb0 (Or.inl (Ne.symm ne))
        have Fi_b0 := Fi_a0.other Wb0 (Or.inl (Ne.symm ne))
        have Eb_b0 := Eb_a0.wr Wb0
        have hf0 : ∀ v ∈ (bs.set out.length (.int ((XT.ushrL v0 (0 : Int32)).toInt32.toInt8.toInt32))), fits .byte v = true := own_fs hf (fits_nar_byte _)
        have t1 : (bs.set out.length (.int ((XT.ushrL v0 (0 : Int32)).toInt32.toInt8.toInt32))).take (out.length + 1) = out ++ [(.int ((XT.ushrL v0 (0 : Int32)).toInt32.toInt8.toInt32))] := by rw [own_ts _ _ _ (by omega), ht]
        show B.G hb0_ 1 272 (mkF m 72 #[.val (.ref w), .val (.long v0), .second, .val (.int (1 : Int32)), .val (.int (0 : Int32))] [])
        refine B.iinc 75 rfl (-1 : Int32) d8_72 rfl rfl #[.val (.ref w), .val (.long v0), .second, .val (.int (1 : Int32)), .val (.int (-1 : Int32))] rfl ?_
        refine B.goto 42 rfl (by decide) d8_75 ?_
        refine B.iload 44 rfl d8_42 rfl ?_
        refine B.if0_lt 78 47 rfl (by decide) rfl d8_44 (fun c44_1 => ?_) (fun c44_1 => ?_)
        · refine B.aloadN 79 rfl d8_78 rfl rfl ?_
          refine B.retA rfl rfl d8_79 (by decide) (by decide) ?_
          exact ⟨rfl, b1, hb1, own_close (ys := [(.int ((XT.ushrL v0 (0 : Int32)).toInt32.toInt8.toInt32))]) Ew_b0 Fb_b0 Fl_b0 Fi_b0 A_b0 Eb_b0 hf0 ne t1 (by rw [← hlen]; exact hr) (by simp only [List.length_set]; exact hlen)⟩
        · exact absurd c44_1 (by decide)
    · exact absurd hbig c14
theorem d7_0 : decode prog_64_method_4_code 0 = .ok (.aload_n 0, 1) := by decide +kernel
theorem d7_1 : decode prog_64_method_4_code 1 = .ok (.iload_n 1, 1) := by decide +kernel
theorem d7_2 : decode prog_64_method_4_code 2 = .ok (.i2l, 1) := by decide +kernel
theorem d7_3 : decode prog_64_method_4_code 3 = .ok (.iconst 1, 1) := by decide +kernel
theorem d7_4 : decode prog_64_method_4_code 4 = .ok (.invokevirtual 24, 3) := by decide +kernel
theorem d7_7 : decode prog_64_method_4_code 7 = .ok (.areturn, 1) := by decide +kernel
theorem pn_7 : plainFor (⟨"sealgram/codec/WireWriter", "uint8", "(I)Lsealgram/codec/WireWriter;"⟩ : MethodName) = true := by first | exact plainFor_of_name (by first | (simp [plainName, overriddenIn]; done) | decide +kernel) | decide +kernel
set_option maxRecDepth 65536 in
set_option maxHeartbeats 4000000 in
theorem rm_w1 (l : Launch) (Z : State) (a0 : Array Value) (hw : ∀ d ∈ tables_1, d.before a0 Z = true) (w b0 : Addr) (x0 : Int32) (out : List Value) (N : Nat) (h0 : Heap) (H : Wout Z h0 w b0 out N) (hN : N ≤ 136) (hL : out.length + 1 ≤ 139) (hneg : ¬ x0.toInt64 < 0) (hbig : XT.ushrL x0.toInt64 (8 : Int32) = 0) :
    Met l Z (⟨"sealgram/codec/WireWriter", "uint8", "(I)Lsealgram/codec/WireWriter;"⟩ : MethodName) prog_64_method_4_code 2 (some (.object "sealgram/codec/WireWriter")) [] ({ frames := 4, cells := 1, slots := 272, locals := 62 } : Room) #[(.ref w), (.int x0)] h0 [w, b0] (fun v h => v = some (.ref w) ∧ ∃ b1, (b1 = b0 ∨ h0.size ≤ b1) ∧ Wout Z h w b1 (out ++ [(.int ((XT.ushrL x0.toInt64 (0 : Int32)).toInt32.toInt8.toInt32))]) (own_g N out.length 1)) := by
  refine Met.walk pn_7 (Ls := #[.val (.ref w), .val (.int x0)]) (fun m => by first | (simp [entryFrame, mkF, argsToLocals, Value.category, maxLocals]; done) | rfl) ?_
  intro p e s m below meth c B
  refine B.aloadN 1 rfl d7_0 rfl rfl ?_
  refine B.iloadN 2 rfl d7_1 rfl ?_
  refine B.i2l 3 rfl d7_2 ?_
  refine B.iconst 4 rfl (1 : Int32) d7_3 rfl ?_
  refine B.callP 7 rfl d7_4 (wd hw 44 rfl) (wd hw 46 rfl) (wd hw 45 rfl) (wd hw 25 rfl) rfl (wd hw 6 rfl) (wd hw 47 rfl) (by decide) H.ex [(.long ((x0).toInt64)), (.int (1 : Int32))] [] (rm_u1 l Z a0 hw w b0 x0.toInt64 out N h0 H hN hL hneg hbig) rfl rfl pd__JI_Lsealgram_codec_WireWriter_ rfl rfl 0 rfl (by decide) (by decide) (by decide) (by decide) (fun x z => Or.inl z) ?_
  rintro _ h1 K1 ⟨rfl, q⟩
  show B.G h1 1 272 (mkF m 7 #[.val (.ref w), .val (.int x0)] [(.ref w)])
  refine B.retA rfl rfl d7_7 (by decide) (by decide) ?_
  exact ⟨rfl, q⟩
set_option maxRecDepth 65536 in
set_option maxHeartbeats 4000000 in
theorem rm_u2 (l : Launch) (Z : State) (a0 : Array Value) (hw : ∀ d ∈ tables_1, d.before a0 Z = true) (w b0 : Addr) (v0 : Int64) (out : List Value) (N : Nat) (h0 : Heap) (H : Wout Z h0 w b0 out N) (hN : N ≤ 136) (hL : out.length + 2 ≤ 139) (hneg : ¬ v0 < 0) (hbig : XT.ushrL v0 (16 : Int32) = 0) :
    Met l Z (⟨"sealgram/codec/WireWriter", "uint", "(JI)Lsealgram/codec/WireWriter;"⟩ : MethodName) prog_64_method_14_code 5 (some (.object "sealgram/codec/WireWriter")) [] ({ frames := 3, cells := 1, slots := 272, locals := 46 } : Room) #[(.ref w), (.long v0), (.int (2 : Int32))] h0 [w, b0] (fun v h => v = some (.ref w) ∧ ∃ b1, (b1 = b0 ∨ h0.size ≤ b1) ∧ Wout Z h w b1 (out ++ [(.int ((XT.ushrL v0 (8 : Int32)).toInt32.toInt8.toInt32)), (.int ((XT.ushrL v0 (0 : Int32)).toInt32.toInt8.toInt32))]) (own_g N out.length 2)) := by
  refine Met.walk pn_8 (Ls := #[.val (.ref w), .val (.long v0), .second, .val (.int (2 : Int32)), .unset]) (fun m => by first | (simp [entryFrame, mkF, argsToLocals, Value.category, maxLocals]; done) | rfl) ?_
  intro p e s m below meth c B
  refine B.lloadN 1 rfl d8_0 rfl ?_
  refine B.lconst 2 rfl (0 : Int64) d8_1 rfl ?_
  refine B.lcmp 3 rfl d8_2 ?_
  refine B.lif_lt 17 6 rfl (by decide) rfl d8_3 (fun c3 => ?_) (fun c3 => ?_)
  · exact absurd c3 hneg
  · refine B.lloadN 7 rfl d8_6 rfl ?_
    refine B.bipush 9 rfl (8 : Int32) d8_7 rfl ?_
    refine B.iloadN 10 rfl d8_9 rfl ?_
    refine B.imul 11 rfl d8_10 ?_
    refine B.topI (16 : Int32) (by decide) ?_
    refine B.lushr 12 rfl d8_11 ?_
    refine B.lconst 13 rfl (0 : Int64) d8_12 rfl ?_
    refine B.lcmp 14 rfl d8_13 ?_
    refine B.lif_eq 32 17 rfl (by decide) rfl d8_14 (fun c14 => ?_) (fun c14 => ?_)
    · refine B.aloadN 33 rfl d8_32 rfl rfl ?_
      refine B.iloadN 34 rfl d8_33 rfl ?_
      refine B.callP 37 rfl d8_34 (wd hw 48 rfl) (wd hw 50 rfl) (wd hw 49 rfl) (wd hw 25 rfl) rfl (wd hw 6 rfl) (wd hw 51 rfl) (by decide) H.ex [(.int (2 : Int32))] [] (rm_gr l Z a0 hw w b0 out N 2 h0 H hN hL) rfl rfl pd__I_V rfl rfl 0 rfl (by decide) (by decide) (by decide) (by decide) (fun x z => Or.inl (by cases List.mem_singleton.mp z; simp)) ?_
      rintro _ h1 K1 ⟨rfl, b1, hb1, bs, ⟨Ew, Fb, Fl, Fi, A, Eb, hf, ne⟩, ht, hle, hlen⟩
      show B.G h1 1 272 (mkF m 37 #[.val (.ref w), .val (.long v0), .second, .val (.int (2 : Int32)), .unset] [])
      have hr : out.length + 2 ≤ bs.length := by rw [hlen]; exact own_g_le _ _ _
      refine B.iloadN 38 rfl d8_37 rfl ?_
      refine B.iconst 39 rfl (1 : Int32) d8_38 rfl ?_
      refine B.isub 40 rfl d8_39 ?_
      refine B.topI (1 : Int32) (by decide) ?_
      refine B.istore 42 rfl d8_40 #[.val (.ref w), .val (.long v0), .second, .val (.int (2 : Int32)), .val (.int (1 : Int32))] rfl ?_
      refine B.iload 44 rfl d8_42 rfl ?_
      refine B.if0_lt 78 47 rfl (by decide) rfl d8_44 (fun c44 => ?_) (fun c44 => ?_)
      · exact absurd c44 (by decide)
      · refine B.aloadN 48 rfl d8_47 rfl rfl ?_
        refine B.getF 51 rfl d8_48 (wd hw 16 rfl) Fb ?_
        refine B.aloadN 52 rfl d8_51 rfl rfl ?_
        refine B.dup 53 rfl d8_52 rfl ?_
        refine B.getF 56 rfl d8_53 (wd hw 18 rfl) Fl ?_
        refine B.dupX1 57 rfl d8_56 rfl rfl ?_
        refine B.iconst 58 rfl (1 : Int32) d8_57 rfl ?_
        refine B.iadd 59 rfl d8_58 ?_
        refine B.topI (Int32.ofNat (out.length + 1)) (own_add out.length 1) ?_
        refine B.putF 62 rfl d8_59 (wd hw 18 rfl) Fl Ew (Or.inl (wd hw 19 rfl)) (wd hw 5 rfl) (ty := .int) (by decide) rfl rfl (Or.inl (by simp)) ?_
        intro ha0 Wa0
        have Ew_a0 := Ew.wr Wa0
        have Fb_a0 := Fb.other Wa0 (Or.inr (slot_ne (Or.inl (wd hw 17 rfl)) (Or.inl (wd hw 19 rfl)) (by decide) (t := (.array .byte)) (t' := .int) (by decide) (by decide)))
        have Fl_a0 := Fl.same Wa0
        have Fi_a0 := Fi.other Wa0 (Or.inr (slot_ne (Or.inr (wd hw 21 rfl)) (Or.inl (wd hw 19 rfl)) (by decide) (t := .boolean) (t' := .int) (by decide) (by decide)))
        have A_a0 := A.other Wa0 ne
        have Eb_a0 := Eb.wr Wa0
        refine B.lloadN 63 rfl d8_62 rfl ?_
        refine B.bipush 65 rfl (8 : Int32) d8_63 rfl ?_
        refine B.iload 67 rfl d8_65 rfl ?_
        refine B.imul 68 rfl d8_67 ?_
        refine B.topI (8 : Int32) (by decide) ?_
        refine B.lushr 69 rfl d8_68 ?_
        refine B.l2i 70 rfl d8_69 ?_
        refine B.i2b 71 rfl d8_70 ?_
        refine B.bastore 72 rfl d8_71 A_a0 (own_nn out.length (by omega)).1 out.length (own_nn out.length (by omega)).2 (by omega) (hb1.elim (fun q => Or.inl (by rw [q]; simp)) Or.inr) ?_
        intro hb0_ Wb0 A_b0
        rw [own_b] at A_b0
        have Ew_b0 := Ew_a0.wr Wb0
        have Fb_b0 := Fb_a0.other Wb0 (Or.inl (Ne.symm ne))
        have Fl_b0 := Fl_a0.other Wb0 (Or.inl (Ne.symm ne))
        have Fi_b0 := Fi_a0.other Wb0 (Or.inl (Ne.symm ne))
        have Eb_b0 := Eb_a0.wr Wb0
        have hf0 : ∀ v ∈ (bs.set out.length (.int ((XT.ushrL v0 (8 : Int32)).toInt32.toInt8.toInt32))), fits .byte v = true := own_fs hf (fits_nar_byte _)
        have t1 : (bs.set out.length (.int ((XT.ushrL v0 (8 : Int32)).toInt32.toInt8.toInt32))).take (out.length + 1) = out ++ [(.int ((XT.ushrL v0 (8 : Int32)).toInt32.toInt8.toInt32))] := by rw [own_ts _ _ _ (by omega), ht]
        show B.G hb0_ 1 272 (mkF m 72 #[.val (.ref w), .val (.long v0), .second, .val (.int (2 : Int32)), .val (.int (1 : Int32))] [])
        refine B.iinc 75 rfl (-1 : Int32) d8_72 rfl rfl #[.val (.ref w), .val (.long v0), .second, .val (.int (2 : Int32)), .val (.int (0 : Int32))] rfl ?_
        refine B.goto 42 rfl (by decide) d8_75 ?_
        refine B.iload 44 rfl d8_42 rfl ?_
        refine B.if0_lt 78 47 rfl (by decide) rfl d8_44 (fun c44_1 => ?_) (fun c44_1 => ?_)
        · exact absurd c44_1 (by decide)
        · refine B.aloadN 48 rfl d8_47 rfl rfl ?_
          refine B.getF 51 rfl d8_48 (wd hw 16 rfl) Fb_b0 ?_
          refine B.aloadN 52 rfl d8_51 rfl rfl ?_
          refine B.dup 53 rfl d8_52 rfl ?_
          refine B.getF 56 rfl d8_53 (wd hw 18 rfl) Fl_b0 ?_
          refine B.dupX1 57 rfl d8_56 rfl rfl ?_
          refine B.iconst 58 rfl (1 : Int32) d8_57 rfl ?_
          refine B.iadd 59 rfl d8_58 ?_
          refine B.topI (Int32.ofNat (out.length + 2)) (own_add (out.length + 1) 1) ?_
          refine B.putF 62 rfl d8_59 (wd hw 18 rfl) Fl_b0 Ew_b0 (Or.inl (wd hw 19 rfl)) (wd hw 5 rfl) (ty := .int) (by decide) rfl rfl (Or.inl (by simp)) ?_
          intro ha1 Wa1
          have Ew_a1 := Ew_b0.wr Wa1
          have Fb_a1 := Fb_b0.other Wa1 (Or.inr (slot_ne (Or.inl (wd hw 17 rfl)) (Or.inl (wd hw 19 rfl)) (by decide) (t := (.array .byte)) (t' := .int) (by decide) (by decide)))
          have Fl_a1 := Fl_b0.same Wa1
          have Fi_a1 := Fi_b0.other Wa1 (Or.inr (slot_ne (Or.inr (wd hw 21 rfl)) (Or.inl (wd hw 19 rfl)) (by decide) (t := .boolean) (t' := .int) (by decide) (by decide)))
          have A_a1 := A_b0.other Wa1 ne
          have Eb_a1 := Eb_b0.wr Wa1
          refine B.lloadN 63 rfl d8_62 rfl ?_
          refine B.bipush 65 rfl (8 : Int32) d8_63 rfl ?_
          refine B.iload 67 rfl d8_65 rfl ?_
          refine B.imul 68 rfl d8_67 ?_
          refine B.topI (0 : Int32) (by decide) ?_
          refine B.lushr 69 rfl d8_68 ?_
          refine B.l2i 70 rfl d8_69 ?_
          refine B.i2b 71 rfl d8_70 ?_
          refine B.bastore 72 rfl d8_71 A_a1 (own_nn (out.length + 1) (by omega)).1 (out.length + 1) (own_nn (out.length + 1) (by omega)).2 (by simp only [List.length_set]; omega) (hb1.elim (fun q => Or.inl (by rw [q]; simp)) Or.inr) ?_
          intro hb1_ Wb1 A_b1
          rw [own_b] at A_b1
          have Ew_b1 := Ew_a1.wr Wb1
          have Fb_b1 := Fb_a1.other Wb1 (Or.inl (Ne.symm ne))
          have Fl_b1 := Fl_a1.other Wb1 (Or.inl (Ne.symm ne))
          have Fi_b1 := Fi_a1.other Wb1 (Or.inl (Ne.symm ne))
          have Eb_b1 := Eb_a1.wr Wb1
          have hf1 : ∀ v ∈ ((bs.set out.length (.int ((XT.ushrL v0 (8 : Int32)).toInt32.toInt8.toInt32))).set (out.length + 1) (.int ((XT.ushrL v0 (0 : Int32)).toInt32.toInt8.toInt32))), fits .byte v = true := own_fs hf0 (fits_nar_byte _)
          have t2 : ((bs.set out.length (.int ((XT.ushrL v0 (8 : Int32)).toInt32.toInt8.toInt32))).set (out.length + 1) (.int ((XT.ushrL v0 (0 : Int32)).toInt32.toInt8.toInt32))).take (out.length + 2) = out ++ [(.int ((XT.ushrL v0 (8 : Int32)).toInt32.toInt8.toInt32)), (.int ((XT.ushrL v0 (0 : Int32)).toInt32.toInt8.toInt32))] := by rw [show out.length + 2 = out.length + 1 + 1 from rfl, own_ts _ _ _ (by simp only [List.length_set]; omega), t1, List.append_assoc]; rfl
          show B.G hb1_ 1 272 (mkF m 72 #[.val (.ref w), .val (.long v0), .second, .val (.int (2 : Int32)), .val (.int (0 : Int32))] [])
          refine B.iinc 75 rfl (-1 : Int32) d8_72 rfl rfl #[.val (.ref w), .val (.long v0), .second, .val (.int (2 : Int32)), .val (.int (-1 : Int32))] rfl ?_
          refine B.goto 42 rfl (by decide) d8_75 ?_
          refine B.iload 44 rfl d8_42 rfl ?_
          refine B.if0_lt 78 47 rfl (by decide) rfl d8_44 (fun c44_2 => ?_) (fun c44_2 => ?_)
          · refine B.aloadN 79 rfl d8_78 rfl rfl ?_
            refine B.retA rfl rfl d8_79 (by decide) (by decide) ?_
            exact ⟨rfl, b1, hb1, own_close (ys := [(.int ((XT.ushrL v0 (8 : Int32)).toInt32.toInt8.toInt32)), (.int ((XT.ushrL v0 (0 : Int32)).toInt32.toInt8.toInt32))]) Ew_b1 Fb_b1 Fl_b1 Fi_b1 A_b1 Eb_b1 hf1 ne t2 (by rw [← hlen]; exact hr) (by simp only [List.length_set]; exact hlen)⟩
          · exact absurd c44_2 (by decide)
    · exact absurd hbig c14
theorem d10_0 : decode prog_64_method_5_code 0 = .ok (.aload_n 0, 1) := by decide +kernel
theorem d10_1 : decode prog_64_method_5_code 1 = .ok (.iload_n 1, 1) := by decide +kernel
theorem d10_2 : decode prog_64_method_5_code 2 = .ok (.i2l, 1) := by decide +kernel
theorem d10_3 : decode prog_64_method_5_code 3 = .ok (.iconst 2, 1) := by decide +kernel
theorem d10_4 : decode prog_64_method_5_code 4 = .ok (.invokevirtual 24, 3) := by decide +kernel
theorem d10_7 : decode prog_64_method_5_code 7 = .ok (.areturn, 1) := by decide +kernel
theorem pn_10 : plainFor (⟨"sealgram/codec/WireWriter", "uint16", "(I)Lsealgram/codec/WireWriter;"⟩ : MethodName) = true := by first | exact plainFor_of_name (by first | (simp [plainName, overriddenIn]; done) | decide +kernel) | decide +kernel
set_option maxRecDepth 65536 in
set_option maxHeartbeats 4000000 in
theorem rm_w2 (l : Launch) (Z : State) (a0 : Array Value) (hw : ∀ d ∈ tables_1, d.before a0 Z = true) (w b0 : Addr) (x0 : Int32) (out : List Value) (N : Nat) (h0 : Heap) (H : Wout Z h0 w b0 out N) (hN : N ≤ 136) (hL : out.length + 2 ≤ 139) (hneg : ¬ x0.toInt64 < 0) (hbig : XT.ushrL x0.toInt64 (16 : Int32) = 0) :
    Met l Z (⟨"sealgram/codec/WireWriter", "uint16", "(I)Lsealgram/codec/WireWriter;"⟩ : MethodName) prog_64_method_5_code 2 (some (.object "sealgram/codec/WireWriter")) [] ({ frames := 4, cells := 1, slots := 272, locals := 62 } : Room) #[(.ref w), (.int x0)] h0 [w, b0] (fun v h => v = some (.ref w) ∧ ∃ b1, (b1 = b0 ∨ h0.size ≤ b1) ∧ Wout Z h w b1 (out ++ [(.int ((XT.ushrL x0.toInt64 (8 : Int32)).toInt32.toInt8.toInt32)), (.int ((XT.ushrL x0.toInt64 (0 : Int32)).toInt32.toInt8.toInt32))]) (own_g N out.length 2)) := by
  refine Met.walk pn_10 (Ls := #[.val (.ref w), .val (.int x0)]) (fun m => by first | (simp [entryFrame, mkF, argsToLocals, Value.category, maxLocals]; done) | rfl) ?_
  intro p e s m below meth c B
  refine B.aloadN 1 rfl d10_0 rfl rfl ?_
  refine B.iloadN 2 rfl d10_1 rfl ?_
  refine B.i2l 3 rfl d10_2 ?_
  refine B.iconst 4 rfl (2 : Int32) d10_3 rfl ?_
  refine B.callP 7 rfl d10_4 (wd hw 44 rfl) (wd hw 46 rfl) (wd hw 45 rfl) (wd hw 25 rfl) rfl (wd hw 6 rfl) (wd hw 47 rfl) (by decide) H.ex [(.long ((x0).toInt64)), (.int (2 : Int32))] [] (rm_u2 l Z a0 hw w b0 x0.toInt64 out N h0 H hN hL hneg hbig) rfl rfl pd__JI_Lsealgram_codec_WireWriter_ rfl rfl 0 rfl (by decide) (by decide) (by decide) (by decide) (fun x z => Or.inl z) ?_
  rintro _ h1 K1 ⟨rfl, q⟩
  show B.G h1 1 272 (mkF m 7 #[.val (.ref w), .val (.int x0)] [(.ref w)])
  refine B.retA rfl rfl d10_7 (by decide) (by decide) ?_
  exact ⟨rfl, q⟩
set_option maxRecDepth 65536 in
set_option maxHeartbeats 4000000 in
theorem rm_u6 (l : Launch) (Z : State) (a0 : Array Value) (hw : ∀ d ∈ tables_1, d.before a0 Z = true) (w b0 : Addr) (v0 : Int64) (out : List Value) (N : Nat) (h0 : Heap) (H : Wout Z h0 w b0 out N) (hN : N ≤ 136) (hL : out.length + 6 ≤ 139) (hneg : ¬ v0 < 0) (hbig : XT.ushrL v0 (48 : Int32) = 0) :
    Met l Z (⟨"sealgram/codec/WireWriter", "uint", "(JI)Lsealgram/codec/WireWriter;"⟩ : MethodName) prog_64_method_14_code 5 (some (.object "sealgram/codec/WireWriter")) [] ({ frames := 3, cells := 1, slots := 272, locals := 46 } : Room) #[(.ref w), (.long v0), (.int (6 : Int32))] h0 [w, b0] (fun v h => v = some (.ref w) ∧ ∃ b1, (b1 = b0 ∨ h0.size ≤ b1) ∧ Wout Z h w b1 (out ++ [(.int ((XT.ushrL v0 (40 : Int32)).toInt32.toInt8.toInt32)), (.int ((XT.ushrL v0 (32 : Int32)).toInt32.toInt8.toInt32)), (.int ((XT.ushrL v0 (24 : Int32)).toInt32.toInt8.toInt32)), (.int ((XT.ushrL v0 (16 : Int32)).toInt32.toInt8.toInt32)), (.int ((XT.ushrL v0 (8 : Int32)).toInt32.toInt8.toInt32)), (.int ((XT.ushrL v0 (0 : Int32)).toInt32.toInt8.toInt32))]) (own_g N out.length 6)) := by
  refine Met.walk pn_8 (Ls := #[.val (.ref w), .val (.long v0), .second, .val (.int (6 : Int32)), .unset]) (fun m => by first | (simp [entryFrame, mkF, argsToLocals, Value.category, maxLocals]; done) | rfl) ?_
  intro p e s m below meth c B
  refine B.lloadN 1 rfl d8_0 rfl ?_
  refine B.lconst 2 rfl (0 : Int64) d8_1 rfl ?_
  refine B.lcmp 3 rfl d8_2 ?_
  refine B.lif_lt 17 6 rfl (by decide) rfl d8_3 (fun c3 => ?_) (fun c3 => ?_)
  · exact absurd c3 hneg
  · refine B.lloadN 7 rfl d8_6 rfl ?_
    refine B.bipush 9 rfl (8 : Int32) d8_7 rfl ?_
    refine B.iloadN 10 rfl d8_9 rfl ?_
    refine B.imul 11 rfl d8_10 ?_
    refine B.topI (48 : Int32) (by decide) ?_
    refine B.lushr 12 rfl d8_11 ?_
    refine B.lconst 13 rfl (0 : Int64) d8_12 rfl ?_
    refine B.lcmp 14 rfl d8_13 ?_
    refine B.lif_eq 32 17 rfl (by decide) rfl d8_14 (fun c14 => ?_) (fun c14 => ?_)
    · refine B.aloadN 33 rfl d8_32 rfl rfl ?_
      refine B.iloadN 34 rfl d8_33 rfl ?_
      refine B.callP 37 rfl d8_34 (wd hw 48 rfl) (wd hw 50 rfl) (wd hw 49 rfl) (wd hw 25 rfl) rfl (wd hw 6 rfl) (wd hw 51 rfl) (by decide) H.ex [(.int (6 : Int32))] [] (rm_gr l Z a0 hw w b0 out N 6 h0 H hN hL) rfl rfl pd__I_V rfl rfl 0 rfl (by decide) (by decide) (by decide) (by decide) (fun x z => Or.inl (by cases List.mem_singleton.mp z; simp)) ?_
      rintro _ h1 K1 ⟨rfl, b1, hb1, bs, ⟨Ew, Fb, Fl, Fi, A, Eb, hf, ne⟩, ht, hle, hlen⟩
      show B.G h1 1 272 (mkF m 37 #[.val (.ref w), .val (.long v0), .second, .val (.int (6 : Int32)), .unset] [])
      have hr : out.length + 6 ≤ bs.length := by rw [hlen]; exact own_g_le _ _ _
      refine B.iloadN 38 rfl d8_37 rfl ?_
      refine B.iconst 39 rfl (1 : Int32) d8_38 rfl ?_
      refine B.isub 40 rfl d8_39 ?_
      refine B.topI (5 : Int32) (by decide) ?_
      refine B.istore 42 rfl d8_40 #[.val (.ref w), .val (.long v0), .second, .val (.int (6 : Int32)), .val (.int (5 : Int32))] rfl ?_
      refine B.iload 44 rfl d8_42 rfl ?_
      refine B.if0_lt 78 47 rfl (by decide) rfl d8_44 (fun c44 => ?_) (fun c44 => ?_)
      · exact absurd c44 (by decide)
      · refine B.aloadN 48 rfl d8_47 rfl rfl ?_
        refine B.getF 51 rfl d8_48 (wd hw 16 rfl) Fb ?_
        refine B.aloadN 52 rfl d8_51 rfl rfl ?_
        refine B.dup 53 rfl d8_52 rfl ?_
        refine B.getF 56 rfl d8_53 (wd hw 18 rfl) Fl ?_
        refine B.dupX1 57 rfl d8_56 rfl rfl ?_
        refine B.iconst 58 rfl (1 : Int32) d8_57 rfl ?_
        refine B.iadd 59 rfl d8_58 ?_
        refine B.topI (Int32.ofNat (out.length + 1)) (own_add out.length 1) ?_
        refine B.putF 62 rfl d8_59 (wd hw 18 rfl) Fl Ew (Or.inl (wd hw 19 rfl)) (wd hw 5 rfl) (ty := .int) (by decide) rfl rfl (Or.inl (by simp)) ?_
        intro ha0 Wa0
        have Ew_a0 := Ew.wr Wa0
        have Fb_a0 := Fb.other Wa0 (Or.inr (slot_ne (Or.inl (wd hw 17 rfl)) (Or.inl (wd hw 19 rfl)) (by decide) (t := (.array .byte)) (t' := .int) (by decide) (by decide)))
        have Fl_a0 := Fl.same Wa0
        have Fi_a0 := Fi.other Wa0 (Or.inr (slot_ne (Or.inr (wd hw 21 rfl)) (Or.inl (wd hw 19 rfl)) (by decide) (t := .boolean) (t' := .int) (by decide) (by decide)))
        have A_a0 := A.other Wa0 ne
        have Eb_a0 := Eb.wr Wa0
        refine B.lloadN 63 rfl d8_62 rfl ?_
        refine B.bipush 65 rfl (8 : Int32) d8_63 rfl ?_
        refine B.iload 67 rfl d8_65 rfl ?_
        refine B.imul 68 rfl d8_67 ?_
        refine B.topI (40 : Int32) (by decide) ?_
        refine B.lushr 69 rfl d8_68 ?_
        refine B.l2i 70 rfl d8_69 ?_
        refine B.i2b 71 rfl d8_70 ?_
        refine B.bastore 72 rfl d8_71 A_a0 (own_nn out.length (by omega)).1 out.length (own_nn out.length (by omega)).2 (by omega) (hb1.elim (fun q => Or.inl (by rw [q]; simp)) Or.inr) ?_
        intro hb0_ Wb0 A_b0
        rw [own_b] at A_b0
        have Ew_b0 := Ew_a0.wr Wb0
        have Fb_b0 := Fb_a0.other Wb0 (Or.inl (Ne.symm ne))
        have Fl_b0 := Fl_a0.other Wb0 (Or.inl (Ne.symm ne))
        have Fi_b0 := Fi_a0.other Wb0 (Or.inl (Ne.symm ne))
        have Eb_b0 := Eb_a0.wr Wb0
        have hf0 : ∀ v ∈ (bs.set out.length (.int ((XT.ushrL v0 (40 : Int32)).toInt32.toInt8.toInt32))), fits .byte v = true := own_fs hf (fits_nar_byte _)
        have t1 : (bs.set out.length (.int ((XT.ushrL v0 (40 : Int32)).toInt32.toInt8.toInt32))).take (out.length + 1) = out ++ [(.int ((XT.ushrL v0 (40 : Int32)).toInt32.toInt8.toInt32))] := by rw [own_ts _ _ _ (by omega), ht]
        show B.G hb0_ 1 272 (mkF m 72 #[.val (.ref w), .val (.long v0), .second, .val (.int (6 : Int32)), .val (.int (5 : Int32))] [])
        refine B.iinc 75 rfl (-1 : Int32) d8_72 rfl rfl #[.val (.ref w), .val (.long v0), .second, .val (.int (6 : Int32)), .val (.int (4 : Int32))] rfl ?_
        refine B.goto 42 rfl (by decide) d8_75 ?_
        refine B.iload 44 rfl d8_42 rfl ?_
        refine B.if0_lt 78 47 rfl (by decide) rfl d8_44 (fun c44_1 => ?_) (fun c44_1 => ?_)
        · exact absurd c44_1 (by decide)
        · refine B.aloadN 48 rfl d8_47 rfl rfl ?_
          refine B.getF 51 rfl d8_48 (wd hw 16 rfl) Fb_b0 ?_
          refine B.aloadN 52 rfl d8_51 rfl rfl ?_
          refine B.dup 53 rfl d8_52 rfl ?_
          refine B.getF 56 rfl d8_53 (wd hw 18 rfl) Fl_b0 ?_
          refine B.dupX1 57 rfl d8_56 rfl rfl ?_
          refine B.iconst 58 rfl (1 : Int32) d8_57 rfl ?_
          refine B.iadd 59 rfl d8_58 ?_
          refine B.topI (Int32.ofNat (out.length + 2)) (own_add (out.length + 1) 1) ?_
          refine B.putF 62 rfl d8_59 (wd hw 18 rfl) Fl_b0 Ew_b0 (Or.inl (wd hw 19 rfl)) (wd hw 5 rfl) (ty := .int) (by decide) rfl rfl (Or.inl (by simp)) ?_
          intro ha1 Wa1
          have Ew_a1 := Ew_b0.wr Wa1
          have Fb_a1 := Fb_b0.other Wa1 (Or.inr (slot_ne (Or.inl (wd hw 17 rfl)) (Or.inl (wd hw 19 rfl)) (by decide) (t := (.array .byte)) (t' := .int) (by decide) (by decide)))
          have Fl_a1 := Fl_b0.same Wa1
          have Fi_a1 := Fi_b0.other Wa1 (Or.inr (slot_ne (Or.inr (wd hw 21 rfl)) (Or.inl (wd hw 19 rfl)) (by decide) (t := .boolean) (t' := .int) (by decide) (by decide)))
          have A_a1 := A_b0.other Wa1 ne
          have Eb_a1 := Eb_b0.wr Wa1
          refine B.lloadN 63 rfl d8_62 rfl ?_
          refine B.bipush 65 rfl (8 : Int32) d8_63 rfl ?_
          refine B.iload 67 rfl d8_65 rfl ?_
          refine B.imul 68 rfl d8_67 ?_
          refine B.topI (32 : Int32) (by decide) ?_
          refine B.lushr 69 rfl d8_68 ?_
          refine B.l2i 70 rfl d8_69 ?_
          refine B.i2b 71 rfl d8_70 ?_
          refine B.bastore 72 rfl d8_71 A_a1 (own_nn (out.length + 1) (by omega)).1 (out.length + 1) (own_nn (out.length + 1) (by omega)).2 (by simp only [List.length_set]; omega) (hb1.elim (fun q => Or.inl (by rw [q]; simp)) Or.inr) ?_
          intro hb1_ Wb1 A_b1
          rw [own_b] at A_b1
          have Ew_b1 := Ew_a1.wr Wb1
          have Fb_b1 := Fb_a1.other Wb1 (Or.inl (Ne.symm ne))
          have Fl_b1 := Fl_a1.other Wb1 (Or.inl (Ne.symm ne))
          have Fi_b1 := Fi_a1.other Wb1 (Or.inl (Ne.symm ne))
          have Eb_b1 := Eb_a1.wr Wb1
          have hf1 : ∀ v ∈ ((bs.set out.length (.int ((XT.ushrL v0 (40 : Int32)).toInt32.toInt8.toInt32))).set (out.length + 1) (.int ((XT.ushrL v0 (32 : Int32)).toInt32.toInt8.toInt32))), fits .byte v = true := own_fs hf0 (fits_nar_byte _)
          have t2 : ((bs.set out.length (.int ((XT.ushrL v0 (40 : Int32)).toInt32.toInt8.toInt32))).set (out.length + 1) (.int ((XT.ushrL v0 (32 : Int32)).toInt32.toInt8.toInt32))).take (out.length + 2) = out ++ [(.int ((XT.ushrL v0 (40 : Int32)).toInt32.toInt8.toInt32)), (.int ((XT.ushrL v0 (32 : Int32)).toInt32.toInt8.toInt32))] := by rw [show out.length + 2 = out.length + 1 + 1 from rfl, own_ts _ _ _ (by simp only [List.length_set]; omega), t1, List.append_assoc]; rfl
          show B.G hb1_ 1 272 (mkF m 72 #[.val (.ref w), .val (.long v0), .second, .val (.int (6 : Int32)), .val (.int (4 : Int32))] [])
          refine B.iinc 75 rfl (-1 : Int32) d8_72 rfl rfl #[.val (.ref w), .val (.long v0), .second, .val (.int (6 : Int32)), .val (.int (3 : Int32))] rfl ?_
          refine B.goto 42 rfl (by decide) d8_75 ?_
          refine B.iload 44 rfl d8_42 rfl ?_
          refine B.if0_lt 78 47 rfl (by decide) rfl d8_44 (fun c44_2 => ?_) (fun c44_2 => ?_)
          · exact absurd c44_2 (by decide)
          · refine B.aloadN 48 rfl d8_47 rfl rfl ?_
            refine B.getF 51 rfl d8_48 (wd hw 16 rfl) Fb_b1 ?_
            refine B.aloadN 52 rfl d8_51 rfl rfl ?_
            refine B.dup 53 rfl d8_52 rfl ?_
            refine B.getF 56 rfl d8_53 (wd hw 18 rfl) Fl_b1 ?_
            refine B.dupX1 57 rfl d8_56 rfl rfl ?_
            refine B.iconst 58 rfl (1 : Int32) d8_57 rfl ?_
            refine B.iadd 59 rfl d8_58 ?_
            refine B.topI (Int32.ofNat (out.length + 3)) (own_add (out.length + 2) 1) ?_
            refine B.putF 62 rfl d8_59 (wd hw 18 rfl) Fl_b1 Ew_b1 (Or.inl (wd hw 19 rfl)) (wd hw 5 rfl) (ty := .int) (by decide) rfl rfl (Or.inl (by simp)) ?_
            intro ha2 Wa2
            have Ew_a2 := Ew_b1.wr Wa2
            have Fb_a2 := Fb_b1.other Wa2 (Or.inr (slot_ne (Or.inl (wd hw 17 rfl)) (Or.inl (wd hw 19 rfl)) (by decide) (t := (.array .byte)) (t' := .int) (by decide) (by decide)))
            have Fl_a2 := Fl_b1.same Wa2
            have Fi_a2 := Fi_b1.other Wa2 (Or.inr (slot_ne (Or.inr (wd hw 21 rfl)) (Or.inl (wd hw 19 rfl)) (by decide) (t := .boolean) (t' := .int) (by decide) (by decide)))
            have A_a2 := A_b1.other Wa2 ne
            have Eb_a2 := Eb_b1.wr Wa2
            refine B.lloadN 63 rfl d8_62 rfl ?_
            refine B.bipush 65 rfl (8 : Int32) d8_63 rfl ?_
            refine B.iload 67 rfl d8_65 rfl ?_
            refine B.imul 68 rfl d8_67 ?_
            refine B.topI (24 : Int32) (by decide) ?_
            refine B.lushr 69 rfl d8_68 ?_
            refine B.l2i 70 rfl d8_69 ?_
            refine B.i2b 71 rfl d8_70 ?_
            refine B.bastore 72 rfl d8_71 A_a2 (own_nn (out.length + 2) (by omega)).1 (out.length + 2) (own_nn (out.length + 2) (by omega)).2 (by simp only [List.length_set]; omega) (hb1.elim (fun q => Or.inl (by rw [q]; simp)) Or.inr) ?_
            intro hb2_ Wb2 A_b2
            rw [own_b] at A_b2
            have Ew_b2 := Ew_a2.wr Wb2
            have Fb_b2 := Fb_a2.other Wb2 (Or.inl (Ne.symm ne))
            have Fl_b2 := Fl_a2.other Wb2 (Or.inl (Ne.symm ne))
            have Fi_b2 := Fi_a2.other Wb2 (Or.inl (Ne.symm ne))
            have Eb_b2 := Eb_a2.wr Wb2
            have hf2 : ∀ v ∈ (((bs.set out.length (.int ((XT.ushrL v0 (40 : Int32)).toInt32.toInt8.toInt32))).set (out.length + 1) (.int ((XT.ushrL v0 (32 : Int32)).toInt32.toInt8.toInt32))).set (out.length + 2) (.int ((XT.ushrL v0 (24 : Int32)).toInt32.toInt8.toInt32))), fits .byte v = true := own_fs hf1 (fits_nar_byte _)
            have t3 : (((bs.set out.length (.int ((XT.ushrL v0 (40 : Int32)).toInt32.toInt8.toInt32))).set (out.length + 1) (.int ((XT.ushrL v0 (32 : Int32)).toInt32.toInt8.toInt32))).set (out.length + 2) (.int ((XT.ushrL v0 (24 : Int32)).toInt32.toInt8.toInt32))).take (out.length + 3) = out ++ [(.int ((XT.ushrL v0 (40 : Int32)).toInt32.toInt8.toInt32)), (.int ((XT.ushrL v0 (32 : Int32)).toInt32.toInt8.toInt32)), (.int ((XT.ushrL v0 (24 : Int32)).toInt32.toInt8.toInt32))] := by rw [show out.length + 3 = out.length + 2 + 1 from rfl, own_ts _ _ _ (by simp only [List.length_set]; omega), t2, List.append_assoc]; rfl
            show B.G hb2_ 1 272 (mkF m 72 #[.val (.ref w), .val (.long v0), .second, .val (.int (6 : Int32)), .val (.int (3 : Int32))] [])
            refine B.iinc 75 rfl (-1 : Int32) d8_72 rfl rfl #[.val (.ref w), .val (.long v0), .second, .val (.int (6 : Int32)), .val (.int (2 : Int32))] rfl ?_
            refine B.goto 42 rfl (by decide) d8_75 ?_
            refine B.iload 44 rfl d8_42 rfl ?_
            refine B.if0_lt 78 47 rfl (by decide) rfl d8_44 (fun c44_3 => ?_) (fun c44_3 => ?_)
            · exact absurd c44_3 (by decide)
            · refine B.aloadN 48 rfl d8_47 rfl rfl ?_
              refine B.getF 51 rfl d8_48 (wd hw 16 rfl) Fb_b2 ?_
              refine B.aloadN 52 rfl d8_51 rfl rfl ?_
              refine B.dup 53 rfl d8_52 rfl ?_
              refine B.getF 56 rfl d8_53 (wd hw 18 rfl) Fl_b2 ?_
              refine B.dupX1 57 rfl d8_56 rfl rfl ?_
              refine B.iconst 58 rfl (1 : Int32) d8_57 rfl ?_
              refine B.iadd 59 rfl d8_58 ?_
              refine B.topI (Int32.ofNat (out.length + 4)) (own_add (out.length + 3) 1) ?_
              refine B.putF 62 rfl d8_59 (wd hw 18 rfl) Fl_b2 Ew_b2 (Or.inl (wd hw 19 rfl)) (wd hw 5 rfl) (ty := .int) (by decide) rfl rfl (Or.inl (by simp)) ?_
              intro ha3 Wa3
              have Ew_a3 := Ew_b2.wr Wa3
              have Fb_a3 := Fb_b2.other Wa3 (Or.inr (slot_ne (Or.inl (wd hw 17 rfl)) (Or.inl (wd hw 19 rfl)) (by decide) (t := (.array .byte)) (t' := .int) (by decide) (by decide)))
              have Fl_a3 := Fl_b2.same Wa3
              have Fi_a3 := Fi_b2.other Wa3 (Or.inr (slot_ne (Or.inr (wd hw 21 rfl)) (Or.inl (wd hw 19 rfl)) (by decide) (t := .boolean) (t' := .int) (by decide) (by decide)))
              have A_a3 := A_b2.other Wa3 ne
              have Eb_a3 := Eb_b2.wr Wa3
              refine B.lloadN 63 rfl d8_62 rfl ?_
              refine B.bipush 65 rfl (8 : Int32) d8_63 rfl ?_
              refine B.iload 67 rfl d8_65 rfl ?_
              refine B.imul 68 rfl d8_67 ?_
              refine B.topI (16 : Int32) (by decide) ?_
              refine B.lushr 69 rfl d8_68 ?_
              refine B.l2i 70 rfl d8_69 ?_
              refine B.i2b 71 rfl d8_70 ?_
              refine B.bastore 72 rfl d8_71 A_a3 (own_nn (out.length + 3) (by omega)).1 (out.length + 3) (own_nn (out.length + 3) (by omega)).2 (by simp only [List.length_set]; omega) (hb1.elim (fun q => Or.inl (by rw [q]; simp)) Or.inr) ?_
              intro hb3_ Wb3 A_b3
              rw [own_b] at A_b3
              have Ew_b3 := Ew_a3.wr Wb3
              have Fb_b3 := Fb_a3.other Wb3 (Or.inl (Ne.symm ne))
              have Fl_b3 := Fl_a3.other Wb3 (Or.inl (Ne.symm ne))
              have Fi_b3 := Fi_a3.other Wb3 (Or.inl (Ne.symm ne))
              have Eb_b3 := Eb_a3.wr Wb3
              have hf3 : ∀ v ∈ ((((bs.set out.length (.int ((XT.ushrL v0 (40 : Int32)).toInt32.toInt8.toInt32))).set (out.length + 1) (.int ((XT.ushrL v0 (32 : Int32)).toInt32.toInt8.toInt32))).set (out.length + 2) (.int ((XT.ushrL v0 (24 : Int32)).toInt32.toInt8.toInt32))).set (out.length + 3) (.int ((XT.ushrL v0 (16 : Int32)).toInt32.toInt8.toInt32))), fits .byte v = true := own_fs hf2 (fits_nar_byte _)
              have t4 : ((((bs.set out.length (.int ((XT.ushrL v0 (40 : Int32)).toInt32.toInt8.toInt32))).set (out.length + 1) (.int ((XT.ushrL v0 (32 : Int32)).toInt32.toInt8.toInt32))).set (out.length + 2) (.int ((XT.ushrL v0 (24 : Int32)).toInt32.toInt8.toInt32))).set (out.length + 3) (.int ((XT.ushrL v0 (16 : Int32)).toInt32.toInt8.toInt32))).take (out.length + 4) = out ++ [(.int ((XT.ushrL v0 (40 : Int32)).toInt32.toInt8.toInt32)), (.int ((XT.ushrL v0 (32 : Int32)).toInt32.toInt8.toInt32)), (.int ((XT.ushrL v0 (24 : Int32)).toInt32.toInt8.toInt32)), (.int ((XT.ushrL v0 (16 : Int32)).toInt32.toInt8.toInt32))] := by rw [show out.length + 4 = out.length + 3 + 1 from rfl, own_ts _ _ _ (by simp only [List.length_set]; omega), t3, List.append_assoc]; rfl
              show B.G hb3_ 1 272 (mkF m 72 #[.val (.ref w), .val (.long v0), .second, .val (.int (6 : Int32)), .val (.int (2 : Int32))] [])
              refine B.iinc 75 rfl (-1 : Int32) d8_72 rfl rfl #[.val (.ref w), .val (.long v0), .second, .val (.int (6 : Int32)), .val (.int (1 : Int32))] rfl ?_
              refine B.goto 42 rfl (by decide) d8_75 ?_
              refine B.iload 44 rfl d8_42 rfl ?_
              refine B.if0_lt 78 47 rfl (by decide) rfl d8_44 (fun c44_4 => ?_) (fun c44_4 => ?_)
              · exact absurd c44_4 (by decide)
              · refine B.aloadN 48 rfl d8_47 rfl rfl ?_
                refine B.getF 51 rfl d8_48 (wd hw 16 rfl) Fb_b3 ?_
                refine B.aloadN 52 rfl d8_51 rfl rfl ?_
                refine B.dup 53 rfl d8_52 rfl ?_
                refine B.getF 56 rfl d8_53 (wd hw 18 rfl) Fl_b3 ?_
                refine B.dupX1 57 rfl d8_56 rfl rfl ?_
                refine B.iconst 58 rfl (1 : Int32) d8_57 rfl ?_
                refine B.iadd 59 rfl d8_58 ?_
                refine B.topI (Int32.ofNat (out.length + 5)) (own_add (out.length + 4) 1) ?_
                refine B.putF 62 rfl d8_59 (wd hw 18 rfl) Fl_b3 Ew_b3 (Or.inl (wd hw 19 rfl)) (wd hw 5 rfl) (ty := .int) (by decide) rfl rfl (Or.inl (by simp)) ?_
                intro ha4 Wa4
                have Ew_a4 := Ew_b3.wr Wa4
                have Fb_a4 := Fb_b3.other Wa4 (Or.inr (slot_ne (Or.inl (wd hw 17 rfl)) (Or.inl (wd hw 19 rfl)) (by decide) (t := (.array .byte)) (t' := .int) (by decide) (by decide)))
                have Fl_a4 := Fl_b3.same Wa4
                have Fi_a4 := Fi_b3.other Wa4 (Or.inr (slot_ne (Or.inr (wd hw 21 rfl)) (Or.inl (wd hw 19 rfl)) (by decide) (t := .boolean) (t' := .int) (by decide) (by decide)))
                have A_a4 := A_b3.other Wa4 ne
                have Eb_a4 := Eb_b3.wr Wa4
                refine B.lloadN 63 rfl d8_62 rfl ?_
                refine B.bipush 65 rfl (8 : Int32) d8_63 rfl ?_
                refine B.iload 67 rfl d8_65 rfl ?_
                refine B.imul 68 rfl d8_67 ?_
                refine B.topI (8 : Int32) (by decide) ?_
                refine B.lushr 69 rfl d8_68 ?_
                refine B.l2i 70 rfl d8_69 ?_
                refine B.i2b 71 rfl d8_70 ?_
                refine B.bastore 72 rfl d8_71 A_a4 (own_nn (out.length + 4) (by omega)).1 (out.length + 4) (own_nn (out.length + 4) (by omega)).2 (by simp only [List.length_set]; omega) (hb1.elim (fun q => Or.inl (by rw [q]; simp)) Or.inr) ?_
                intro hb4_ Wb4 A_b4
                rw [own_b] at A_b4
                have Ew_b4 := Ew_a4.wr Wb4
                have Fb_b4 := Fb_a4.other Wb4 (Or.inl (Ne.symm ne))
                have Fl_b4 := Fl_a4.other Wb4 (Or.inl (Ne.symm ne))
                have Fi_b4 := Fi_a4.other Wb4 (Or.inl (Ne.symm ne))
                have Eb_b4 := Eb_a4.wr Wb4
                have hf4 : ∀ v ∈ (((((bs.set out.length (.int ((XT.ushrL v0 (40 : Int32)).toInt32.toInt8.toInt32))).set (out.length + 1) (.int ((XT.ushrL v0 (32 : Int32)).toInt32.toInt8.toInt32))).set (out.length + 2) (.int ((XT.ushrL v0 (24 : Int32)).toInt32.toInt8.toInt32))).set (out.length + 3) (.int ((XT.ushrL v0 (16 : Int32)).toInt32.toInt8.toInt32))).set (out.length + 4) (.int ((XT.ushrL v0 (8 : Int32)).toInt32.toInt8.toInt32))), fits .byte v = true := own_fs hf3 (fits_nar_byte _)
                have t5 : (((((bs.set out.length (.int ((XT.ushrL v0 (40 : Int32)).toInt32.toInt8.toInt32))).set (out.length + 1) (.int ((XT.ushrL v0 (32 : Int32)).toInt32.toInt8.toInt32))).set (out.length + 2) (.int ((XT.ushrL v0 (24 : Int32)).toInt32.toInt8.toInt32))).set (out.length + 3) (.int ((XT.ushrL v0 (16 : Int32)).toInt32.toInt8.toInt32))).set (out.length + 4) (.int ((XT.ushrL v0 (8 : Int32)).toInt32.toInt8.toInt32))).take (out.length + 5) = out ++ [(.int ((XT.ushrL v0 (40 : Int32)).toInt32.toInt8.toInt32)), (.int ((XT.ushrL v0 (32 : Int32)).toInt32.toInt8.toInt32)), (.int ((XT.ushrL v0 (24 : Int32)).toInt32.toInt8.toInt32)), (.int ((XT.ushrL v0 (16 : Int32)).toInt32.toInt8.toInt32)), (.int ((XT.ushrL v0 (8 : Int32)).toInt32.toInt8.toInt32))] := by rw [show out.length + 5 = out.length + 4 + 1 from rfl, own_ts _ _ _ (by simp only [List.length_set]; omega), t4, List.append_assoc]; rfl
                show B.G hb4_ 1 272 (mkF m 72 #[.val (.ref w), .val (.long v0), .second, .val (.int (6 : Int32)), .val (.int (1 : Int32))] [])
                refine B.iinc 75 rfl (-1 : Int32) d8_72 rfl rfl #[.val (.ref w), .val (.long v0), .second, .val (.int (6 : Int32)), .val (.int (0 : Int32))] rfl ?_
                refine B.goto 42 rfl (by decide) d8_75 ?_
                refine B.iload 44 rfl d8_42 rfl ?_
                refine B.if0_lt 78 47 rfl (by decide) rfl d8_44 (fun c44_5 => ?_) (fun c44_5 => ?_)
                · exact absurd c44_5 (by decide)
                · refine B.aloadN 48 rfl d8_47 rfl rfl ?_
                  refine B.getF 51 rfl d8_48 (wd hw 16 rfl) Fb_b4 ?_
                  refine B.aloadN 52 rfl d8_51 rfl rfl ?_
                  refine B.dup 53 rfl d8_52 rfl ?_
                  refine B.getF 56 rfl d8_53 (wd hw 18 rfl) Fl_b4 ?_
                  refine B.dupX1 57 rfl d8_56 rfl rfl ?_
                  refine B.iconst 58 rfl (1 : Int32) d8_57 rfl ?_
                  refine B.iadd 59 rfl d8_58 ?_
                  refine B.topI (Int32.ofNat (out.length + 6)) (own_add (out.length + 5) 1) ?_
                  refine B.putF 62 rfl d8_59 (wd hw 18 rfl) Fl_b4 Ew_b4 (Or.inl (wd hw 19 rfl)) (wd hw 5 rfl) (ty := .int) (by decide) rfl rfl (Or.inl (by simp)) ?_
                  intro ha5 Wa5
                  have Ew_a5 := Ew_b4.wr Wa5
                  have Fb_a5 := Fb_b4.other Wa5 (Or.inr (slot_ne (Or.inl (wd hw 17 rfl)) (Or.inl (wd hw 19 rfl)) (by decide) (t := (.array .byte)) (t' := .int) (by decide) (by decide)))
                  have Fl_a5 := Fl_b4.same Wa5
                  have Fi_a5 := Fi_b4.other Wa5 (Or.inr (slot_ne (Or.inr (wd hw 21 rfl)) (Or.inl (wd hw 19 rfl)) (by decide) (t := .boolean) (t' := .int) (by decide) (by decide)))
                  have A_a5 := A_b4.other Wa5 ne
                  have Eb_a5 := Eb_b4.wr Wa5
                  refine B.lloadN 63 rfl d8_62 rfl ?_
                  refine B.bipush 65 rfl (8 : Int32) d8_63 rfl ?_
                  refine B.iload 67 rfl d8_65 rfl ?_
                  refine B.imul 68 rfl d8_67 ?_
                  refine B.topI (0 : Int32) (by decide) ?_
                  refine B.lushr 69 rfl d8_68 ?_
                  refine B.l2i 70 rfl d8_69 ?_
                  refine B.i2b 71 rfl d8_70 ?_
                  refine B.bastore 72 rfl d8_71 A_a5 (own_nn (out.length + 5) (by omega)).1 (out.length + 5) (own_nn (out.length + 5) (by omega)).2 (by simp only [List.length_set]; omega) (hb1.elim (fun q => Or.inl (by rw [q]; simp)) Or.inr) ?_
                  intro hb5_ Wb5 A_b5
                  rw [own_b] at A_b5
                  have Ew_b5 := Ew_a5.wr Wb5
                  have Fb_b5 := Fb_a5.other Wb5 (Or.inl (Ne.symm ne))
                  have Fl_b5 := Fl_a5.other Wb5 (Or.inl (Ne.symm ne))
                  have Fi_b5 := Fi_a5.other Wb5 (Or.inl (Ne.symm ne))
                  have Eb_b5 := Eb_a5.wr Wb5
                  have hf5 : ∀ v ∈ ((((((bs.set out.length (.int ((XT.ushrL v0 (40 : Int32)).toInt32.toInt8.toInt32))).set (out.length + 1) (.int ((XT.ushrL v0 (32 : Int32)).toInt32.toInt8.toInt32))).set (out.length + 2) (.int ((XT.ushrL v0 (24 : Int32)).toInt32.toInt8.toInt32))).set (out.length + 3) (.int ((XT.ushrL v0 (16 : Int32)).toInt32.toInt8.toInt32))).set (out.length + 4) (.int ((XT.ushrL v0 (8 : Int32)).toInt32.toInt8.toInt32))).set (out.length + 5) (.int ((XT.ushrL v0 (0 : Int32)).toInt32.toInt8.toInt32))), fits .byte v = true := own_fs hf4 (fits_nar_byte _)
                  have t6 : ((((((bs.set out.length (.int ((XT.ushrL v0 (40 : Int32)).toInt32.toInt8.toInt32))).set (out.length + 1) (.int ((XT.ushrL v0 (32 : Int32)).toInt32.toInt8.toInt32))).set (out.length + 2) (.int ((XT.ushrL v0 (24 : Int32)).toInt32.toInt8.toInt32))).set (out.length + 3) (.int ((XT.ushrL v0 (16 : Int32)).toInt32.toInt8.toInt32))).set (out.length + 4) (.int ((XT.ushrL v0 (8 : Int32)).toInt32.toInt8.toInt32))).set (out.length + 5) (.int ((XT.ushrL v0 (0 : Int32)).toInt32.toInt8.toInt32))).take (out.length + 6) = out ++ [(.int ((XT.ushrL v0 (40 : Int32)).toInt32.toInt8.toInt32)), (.int ((XT.ushrL v0 (32 : Int32)).toInt32.toInt8.toInt32)), (.int ((XT.ushrL v0 (24 : Int32)).toInt32.toInt8.toInt32)), (.int ((XT.ushrL v0 (16 : Int32)).toInt32.toInt8.toInt32)), (.int ((XT.ushrL v0 (8 : Int32)).toInt32.toInt8.toInt32)), (.int ((XT.ushrL v0 (0 : Int32)).toInt32.toInt8.toInt32))] := by rw [show out.length + 6 = out.length + 5 + 1 from rfl, own_ts _ _ _ (by simp only [List.length_set]; omega), t5, List.append_assoc]; rfl
                  show B.G hb5_ 1 272 (mkF m 72 #[.val (.ref w), .val (.long v0), .second, .val (.int (6 : Int32)), .val (.int (0 : Int32))] [])
                  refine B.iinc 75 rfl (-1 : Int32) d8_72 rfl rfl #[.val (.ref w), .val (.long v0), .second, .val (.int (6 : Int32)), .val (.int (-1 : Int32))] rfl ?_
                  refine B.goto 42 rfl (by decide) d8_75 ?_
                  refine B.iload 44 rfl d8_42 rfl ?_
                  refine B.if0_lt 78 47 rfl (by decide) rfl d8_44 (fun c44_6 => ?_) (fun c44_6 => ?_)
                  · refine B.aloadN 79 rfl d8_78 rfl rfl ?_
                    refine B.retA rfl rfl d8_79 (by decide) (by decide) ?_
                    exact ⟨rfl, b1, hb1, own_close (ys := [(.int ((XT.ushrL v0 (40 : Int32)).toInt32.toInt8.toInt32)), (.int ((XT.ushrL v0 (32 : Int32)).toInt32.toInt8.toInt32)), (.int ((XT.ushrL v0 (24 : Int32)).toInt32.toInt8.toInt32)), (.int ((XT.ushrL v0 (16 : Int32)).toInt32.toInt8.toInt32)), (.int ((XT.ushrL v0 (8 : Int32)).toInt32.toInt8.toInt32)), (.int ((XT.ushrL v0 (0 : Int32)).toInt32.toInt8.toInt32))]) Ew_b5 Fb_b5 Fl_b5 Fi_b5 A_b5 Eb_b5 hf5 ne t6 (by rw [← hlen]; exact hr) (by simp only [List.length_set]; exact hlen)⟩
                  · exact absurd c44_6 (by decide)
    · exact absurd hbig c14
theorem d13_0 : decode prog_64_method_7_code 0 = .ok (.aload_n 0, 1) := by decide +kernel
theorem d13_1 : decode prog_64_method_7_code 1 = .ok (.lload_n 1, 1) := by decide +kernel
theorem d13_2 : decode prog_64_method_7_code 2 = .ok (.bipush 6, 2) := by decide +kernel
theorem d13_4 : decode prog_64_method_7_code 4 = .ok (.invokevirtual 24, 3) := by decide +kernel
theorem d13_7 : decode prog_64_method_7_code 7 = .ok (.areturn, 1) := by decide +kernel
theorem pn_13 : plainFor (⟨"sealgram/codec/WireWriter", "uint48", "(J)Lsealgram/codec/WireWriter;"⟩ : MethodName) = true := by first | exact plainFor_of_name (by first | (simp [plainName, overriddenIn]; done) | decide +kernel) | decide +kernel
set_option maxRecDepth 65536 in
set_option maxHeartbeats 4000000 in
theorem rm_w6 (l : Launch) (Z : State) (a0 : Array Value) (hw : ∀ d ∈ tables_1, d.before a0 Z = true) (w b0 : Addr) (v0 : Int64) (out : List Value) (N : Nat) (h0 : Heap) (H : Wout Z h0 w b0 out N) (hN : N ≤ 136) (hL : out.length + 6 ≤ 139) (hneg : ¬ v0 < 0) (hbig : XT.ushrL v0 (48 : Int32) = 0) :
    Met l Z (⟨"sealgram/codec/WireWriter", "uint48", "(J)Lsealgram/codec/WireWriter;"⟩ : MethodName) prog_64_method_7_code 3 (some (.object "sealgram/codec/WireWriter")) [] ({ frames := 4, cells := 1, slots := 272, locals := 62 } : Room) #[(.ref w), (.long v0)] h0 [w, b0] (fun v h => v = some (.ref w) ∧ ∃ b1, (b1 = b0 ∨ h0.size ≤ b1) ∧ Wout Z h w b1 (out ++ [(.int ((XT.ushrL v0 (40 : Int32)).toInt32.toInt8.toInt32)), (.int ((XT.ushrL v0 (32 : Int32)).toInt32.toInt8.toInt32)), (.int ((XT.ushrL v0 (24 : Int32)).toInt32.toInt8.toInt32)), (.int ((XT.ushrL v0 (16 : Int32)).toInt32.toInt8.toInt32)), (.int ((XT.ushrL v0 (8 : Int32)).toInt32.toInt8.toInt32)), (.int ((XT.ushrL v0 (0 : Int32)).toInt32.toInt8.toInt32))]) (own_g N out.length 6)) := by
  refine Met.walk pn_13 (Ls := #[.val (.ref w), .val (.long v0), .second]) (fun m => by first | (simp [entryFrame, mkF, argsToLocals, Value.category, maxLocals]; done) | rfl) ?_
  intro p e s m below meth c B
  refine B.aloadN 1 rfl d13_0 rfl rfl ?_
  refine B.lloadN 2 rfl d13_1 rfl ?_
  refine B.bipush 4 rfl (6 : Int32) d13_2 rfl ?_
  refine B.callP 7 rfl d13_4 (wd hw 44 rfl) (wd hw 46 rfl) (wd hw 45 rfl) (wd hw 25 rfl) rfl (wd hw 6 rfl) (wd hw 47 rfl) (by decide) H.ex [(.long v0), (.int (6 : Int32))] [] (rm_u6 l Z a0 hw w b0 v0 out N h0 H hN hL hneg hbig) rfl rfl pd__JI_Lsealgram_codec_WireWriter_ rfl rfl 0 rfl (by decide) (by decide) (by decide) (by decide) (fun x z => Or.inl z) ?_
  rintro _ h1 K1 ⟨rfl, q⟩
  show B.G h1 1 272 (mkF m 7 #[.val (.ref w), .val (.long v0), .second] [(.ref w)])
  refine B.retA rfl rfl d13_7 (by decide) (by decide) ?_
  exact ⟨rfl, q⟩
set_option maxRecDepth 65536 in
set_option maxHeartbeats 4000000 in
theorem rm_u3 (l : Launch) (Z : State) (a0 : Array Value) (hw : ∀ d ∈ tables_1, d.before a0 Z = true) (w b0 : Addr) (v0 : Int64) (out : List Value) (N : Nat) (h0 : Heap) (H : Wout Z h0 w b0 out N) (hN : N ≤ 136) (hL : out.length + 3 ≤ 139) (hneg : ¬ v0 < 0) (hbig : XT.ushrL v0 (24 : Int32) = 0) :
    Met l Z (⟨"sealgram/codec/WireWriter", "uint", "(JI)Lsealgram/codec/WireWriter;"⟩ : MethodName) prog_64_method_14_code 5 (some (.object "sealgram/codec/WireWriter")) [] ({ frames := 3, cells := 1, slots := 272, locals := 46 } : Room) #[(.ref w), (.long v0), (.int (3 : Int32))] h0 [w, b0] (fun v h => v = some (.ref w) ∧ ∃ b1, (b1 = b0 ∨ h0.size ≤ b1) ∧ Wout Z h w b1 (out ++ [(.int ((XT.ushrL v0 (16 : Int32)).toInt32.toInt8.toInt32)), (.int ((XT.ushrL v0 (8 : Int32)).toInt32.toInt8.toInt32)), (.int ((XT.ushrL v0 (0 : Int32)).toInt32.toInt8.toInt32))]) (own_g N out.length 3)) := by
  refine Met.walk pn_8 (Ls := #[.val (.ref w), .val (.long v0), .second, .val (.int (3 : Int32)), .unset]) (fun m => by first | (simp [entryFrame, mkF, argsToLocals, Value.category, maxLocals]; done) | rfl) ?_
  intro p e s m below meth c B
  refine B.lloadN 1 rfl d8_0 rfl ?_
  refine B.lconst 2 rfl (0 : Int64) d8_1 rfl ?_
  refine B.lcmp 3 rfl d8_2 ?_
  refine B.lif_lt 17 6 rfl (by decide) rfl d8_3 (fun c3 => ?_) (fun c3 => ?_)
  · exact absurd c3 hneg
  · refine B.lloadN 7 rfl d8_6 rfl ?_
    refine B.bipush 9 rfl (8 : Int32) d8_7 rfl ?_
    refine B.iloadN 10 rfl d8_9 rfl ?_
    refine B.imul 11 rfl d8_10 ?_
    refine B.topI (24 : Int32) (by decide) ?_
    refine B.lushr 12 rfl d8_11 ?_
    refine B.lconst 13 rfl (0 : Int64) d8_12 rfl ?_
    refine B.lcmp 14 rfl d8_13 ?_
    refine B.lif_eq 32 17 rfl (by decide) rfl d8_14 (fun c14 => ?_) (fun c14 => ?_)
    · refine B.aloadN 33 rfl d8_32 rfl rfl ?_
      refine B.iloadN 34 rfl d8_33 rfl ?_
      refine B.callP 37 rfl d8_34 (wd hw 48 rfl) (wd hw 50 rfl) (wd hw 49 rfl) (wd hw 25 rfl) rfl (wd hw 6 rfl) (wd hw 51 rfl) (by decide) H.ex [(.int (3 : Int32))] [] (rm_gr l Z a0 hw w b0 out N 3 h0 H hN hL) rfl rfl pd__I_V rfl rfl 0 rfl (by decide) (by decide) (by decide) (by decide) (fun x z => Or.inl (by cases List.mem_singleton.mp z; simp)) ?_
      rintro _ h1 K1 ⟨rfl, b1, hb1, bs, ⟨Ew, Fb, Fl, Fi, A, Eb, hf, ne⟩, ht, hle, hlen⟩
      show B.G h1 1 272 (mkF m 37 #[.val (.ref w), .val (.long v0), .second, .val (.int (3 : Int32)), .unset] [])
      have hr : out.length + 3 ≤ bs.length := by rw [hlen]; exact own_g_le _ _ _
      refine B.iloadN 38 rfl d8_37 rfl ?_
      refine B.iconst 39 rfl (1 : Int32) d8_38 rfl ?_
      refine B.isub 40 rfl d8_39 ?_
      refine B.topI (2 : Int32) (by decide) ?_
      refine B.istore 42 rfl d8_40 #[.val (.ref w), .val (.long v0), .second, .val (.int (3 : Int32)), .val (.int (2 : Int32))] rfl ?_
      refine B.iload 44 rfl d8_42 rfl ?_
      refine B.if0_lt 78 47 rfl (by decide) rfl d8_44 (fun c44 => ?_) (fun c44 => ?_)
      · exact absurd c44 (by decide)
      · refine B.aloadN 48 rfl d8_47 rfl rfl ?_
        refine B.getF 51 rfl d8_48 (wd hw 16 rfl) Fb ?_
        refine B.aloadN 52 rfl d8_51 rfl rfl ?_
        refine B.dup 53 rfl d8_52 rfl ?_
        refine B.getF 56 rfl d8_53 (wd hw 18 rfl) Fl ?_
        refine B.dupX1 57 rfl d8_56 rfl rfl ?_
        refine B.iconst 58 rfl (1 : Int32) d8_57 rfl ?_
        refine B.iadd 59 rfl d8_58 ?_
        refine B.topI (Int32.ofNat (out.length + 1)) (own_add out.length 1) ?_
        refine B.putF 62 rfl d8_59 (wd hw 18 rfl) Fl Ew (Or.inl (wd hw 19 rfl)) (wd hw 5 rfl) (ty := .int) (by decide) rfl rfl (Or.inl (by simp)) ?_
        intro ha0 Wa0
        have Ew_a0 := Ew.wr Wa0
        have Fb_a0 := Fb.other Wa0 (Or.inr (slot_ne (Or.inl (wd hw 17 rfl)) (Or.inl (wd hw 19 rfl)) (by decide) (t := (.array .byte)) (t' := .int) (by decide) (by decide)))
        have Fl_a0 := Fl.same Wa0
        have Fi_a0 := Fi.other Wa0 (Or.inr (slot_ne (Or.inr (wd hw 21 rfl)) (Or.inl (wd hw 19 rfl)) (by decide) (t := .boolean) (t' := .int) (by decide) (by decide)))
        have A_a0 := A.other Wa0 ne
        have Eb_a0 := Eb.wr Wa0
        refine B.lloadN 63 rfl d8_62 rfl ?_
        refine B.bipush 65 rfl (8 : Int32) d8_63 rfl ?_
        refine B.iload 67 rfl d8_65 rfl ?_
        refine B.imul 68 rfl d8_67 ?_
        refine B.topI (16 : Int32) (by decide) ?_
        refine B.lushr 69 rfl d8_68 ?_
        refine B.l2i 70 rfl d8_69 ?_
        refine B.i2b 71 rfl d8_70 ?_
        refine B.bastore 72 rfl d8_71 A_a0 (own_nn out.length (by omega)).1 out.length (own_nn out.length (by omega)).2 (by omega) (hb1.elim (fun q => Or.inl (by rw [q]; simp)) Or.inr) ?_
        intro hb0_ Wb0 A_b0
        rw [own_b] at A_b0
        have Ew_b0 := Ew_a0.wr Wb0
        have Fb_b0 := Fb_a0.other Wb0 (Or.inl (Ne.symm ne))
        have Fl_b0 := Fl_a0.other Wb0 (Or.inl (Ne.symm ne))
        have Fi_b0 := Fi_a0.other Wb0 (Or.inl (Ne.symm ne))
        have Eb_b0 := Eb_a0.wr Wb0
        have hf0 : ∀ v ∈ (bs.set out.length (.int ((XT.ushrL v0 (16 : Int32)).toInt32.toInt8.toInt32))), fits .byte v = true := own_fs hf (fits_nar_byte _)
        have t1 : (bs.set out.length (.int ((XT.ushrL v0 (16 : Int32)).toInt32.toInt8.toInt32))).take (out.length + 1) = out ++ [(.int ((XT.ushrL v0 (16 : Int32)).toInt32.toInt8.toInt32))] := by rw [own_ts _ _ _ (by omega), ht]
        show B.G hb0_ 1 272 (mkF m 72 #[.val (.ref w), .val (.long v0), .second, .val (.int (3 : Int32)), .val (.int (2 : Int32))] [])
        refine B.iinc 75 rfl (-1 : Int32) d8_72 rfl rfl #[.val (.ref w), .val (.long v0), .second, .val (.int (3 : Int32)), .val (.int (1 : Int32))] rfl ?_
        refine B.goto 42 rfl (by decide) d8_75 ?_
        refine B.iload 44 rfl d8_42 rfl ?_
        refine B.if0_lt 78 47 rfl (by decide) rfl d8_44 (fun c44_1 => ?_) (fun c44_1 => ?_)
        · exact absurd c44_1 (by decide)
        · refine B.aloadN 48 rfl d8_47 rfl rfl ?_
          refine B.getF 51 rfl d8_48 (wd hw 16 rfl) Fb_b0 ?_
          refine B.aloadN 52 rfl d8_51 rfl rfl ?_
          refine B.dup 53 rfl d8_52 rfl ?_
          refine B.getF 56 rfl d8_53 (wd hw 18 rfl) Fl_b0 ?_
          refine B.dupX1 57 rfl d8_56 rfl rfl ?_
          refine B.iconst 58 rfl (1 : Int32) d8_57 rfl ?_
          refine B.iadd 59 rfl d8_58 ?_
          refine B.topI (Int32.ofNat (out.length + 2)) (own_add (out.length + 1) 1) ?_
          refine B.putF 62 rfl d8_59 (wd hw 18 rfl) Fl_b0 Ew_b0 (Or.inl (wd hw 19 rfl)) (wd hw 5 rfl) (ty := .int) (by decide) rfl rfl (Or.inl (by simp)) ?_
          intro ha1 Wa1
          have Ew_a1 := Ew_b0.wr Wa1
          have Fb_a1 := Fb_b0.other Wa1 (Or.inr (slot_ne (Or.inl (wd hw 17 rfl)) (Or.inl (wd hw 19 rfl)) (by decide) (t := (.array .byte)) (t' := .int) (by decide) (by decide)))
          have Fl_a1 := Fl_b0.same Wa1
          have Fi_a1 := Fi_b0.other Wa1 (Or.inr (slot_ne (Or.inr (wd hw 21 rfl)) (Or.inl (wd hw 19 rfl)) (by decide) (t := .boolean) (t' := .int) (by decide) (by decide)))
          have A_a1 := A_b0.other Wa1 ne
          have Eb_a1 := Eb_b0.wr Wa1
          refine B.lloadN 63 rfl d8_62 rfl ?_
          refine B.bipush 65 rfl (8 : Int32) d8_63 rfl ?_
          refine B.iload 67 rfl d8_65 rfl ?_
          refine B.imul 68 rfl d8_67 ?_
          refine B.topI (8 : Int32) (by decide) ?_
          refine B.lushr 69 rfl d8_68 ?_
          refine B.l2i 70 rfl d8_69 ?_
          refine B.i2b 71 rfl d8_70 ?_
          refine B.bastore 72 rfl d8_71 A_a1 (own_nn (out.length + 1) (by omega)).1 (out.length + 1) (own_nn (out.length + 1) (by omega)).2 (by simp only [List.length_set]; omega) (hb1.elim (fun q => Or.inl (by rw [q]; simp)) Or.inr) ?_
          intro hb1_ Wb1 A_b1
          rw [own_b] at A_b1
          have Ew_b1 := Ew_a1.wr Wb1
          have Fb_b1 := Fb_a1.other Wb1 (Or.inl (Ne.symm ne))
          have Fl_b1 := Fl_a1.other Wb1 (Or.inl (Ne.symm ne))
          have Fi_b1 := Fi_a1.other Wb1 (Or.inl (Ne.symm ne))
          have Eb_b1 := Eb_a1.wr Wb1
          have hf1 : ∀ v ∈ ((bs.set out.length (.int ((XT.ushrL v0 (16 : Int32)).toInt32.toInt8.toInt32))).set (out.length + 1) (.int ((XT.ushrL v0 (8 : Int32)).toInt32.toInt8.toInt32))), fits .byte v = true := own_fs hf0 (fits_nar_byte _)
          have t2 : ((bs.set out.length (.int ((XT.ushrL v0 (16 : Int32)).toInt32.toInt8.toInt32))).set (out.length + 1) (.int ((XT.ushrL v0 (8 : Int32)).toInt32.toInt8.toInt32))).take (out.length + 2) = out ++ [(.int ((XT.ushrL v0 (16 : Int32)).toInt32.toInt8.toInt32)), (.int ((XT.ushrL v0 (8 : Int32)).toInt32.toInt8.toInt32))] := by rw [show out.length + 2 = out.length + 1 + 1 from rfl, own_ts _ _ _ (by simp only [List.length_set]; omega), t1, List.append_assoc]; rfl
          show B.G hb1_ 1 272 (mkF m 72 #[.val (.ref w), .val (.long v0), .second, .val (.int (3 : Int32)), .val (.int (1 : Int32))] [])
          refine B.iinc 75 rfl (-1 : Int32) d8_72 rfl rfl #[.val (.ref w), .val (.long v0), .second, .val (.int (3 : Int32)), .val (.int (0 : Int32))] rfl ?_
          refine B.goto 42 rfl (by decide) d8_75 ?_
          refine B.iload 44 rfl d8_42 rfl ?_
          refine B.if0_lt 78 47 rfl (by decide) rfl d8_44 (fun c44_2 => ?_) (fun c44_2 => ?_)
          · exact absurd c44_2 (by decide)
          · refine B.aloadN 48 rfl d8_47 rfl rfl ?_
            refine B.getF 51 rfl d8_48 (wd hw 16 rfl) Fb_b1 ?_
            refine B.aloadN 52 rfl d8_51 rfl rfl ?_
            refine B.dup 53 rfl d8_52 rfl ?_
            refine B.getF 56 rfl d8_53 (wd hw 18 rfl) Fl_b1 ?_
            refine B.dupX1 57 rfl d8_56 rfl rfl ?_
            refine B.iconst 58 rfl (1 : Int32) d8_57 rfl ?_
            refine B.iadd 59 rfl d8_58 ?_
            refine B.topI (Int32.ofNat (out.length + 3)) (own_add (out.length + 2) 1) ?_
            refine B.putF 62 rfl d8_59 (wd hw 18 rfl) Fl_b1 Ew_b1 (Or.inl (wd hw 19 rfl)) (wd hw 5 rfl) (ty := .int) (by decide) rfl rfl (Or.inl (by simp)) ?_
            intro ha2 Wa2
            have Ew_a2 := Ew_b1.wr Wa2
            have Fb_a2 := Fb_b1.other Wa2 (Or.inr (slot_ne (Or.inl (wd hw 17 rfl)) (Or.inl (wd hw 19 rfl)) (by decide) (t := (.array .byte)) (t' := .int) (by decide) (by decide)))
            have Fl_a2 := Fl_b1.same Wa2
            have Fi_a2 := Fi_b1.other Wa2 (Or.inr (slot_ne (Or.inr (wd hw 21 rfl)) (Or.inl (wd hw 19 rfl)) (by decide) (t := .boolean) (t' := .int) (by decide) (by decide)))
            have A_a2 := A_b1.other Wa2 ne
            have Eb_a2 := Eb_b1.wr Wa2
            refine B.lloadN 63 rfl d8_62 rfl ?_
            refine B.bipush 65 rfl (8 : Int32) d8_63 rfl ?_
            refine B.iload 67 rfl d8_65 rfl ?_
            refine B.imul 68 rfl d8_67 ?_
            refine B.topI (0 : Int32) (by decide) ?_
            refine B.lushr 69 rfl d8_68 ?_
            refine B.l2i 70 rfl d8_69 ?_
            refine B.i2b 71 rfl d8_70 ?_
            refine B.bastore 72 rfl d8_71 A_a2 (own_nn (out.length + 2) (by omega)).1 (out.length + 2) (own_nn (out.length + 2) (by omega)).2 (by simp only [List.length_set]; omega) (hb1.elim (fun q => Or.inl (by rw [q]; simp)) Or.inr) ?_
            intro hb2_ Wb2 A_b2
            rw [own_b] at A_b2
            have Ew_b2 := Ew_a2.wr Wb2
            have Fb_b2 := Fb_a2.other Wb2 (Or.inl (Ne.symm ne))
            have Fl_b2 := Fl_a2.other Wb2 (Or.inl (Ne.symm ne))
            have Fi_b2 := Fi_a2.other Wb2 (Or.inl (Ne.symm ne))
            have Eb_b2 := Eb_a2.wr Wb2
            have hf2 : ∀ v ∈ (((bs.set out.length (.int ((XT.ushrL v0 (16 : Int32)).toInt32.toInt8.toInt32))).set (out.length + 1) (.int ((XT.ushrL v0 (8 : Int32)).toInt32.toInt8.toInt32))).set (out.length + 2) (.int ((XT.ushrL v0 (0 : Int32)).toInt32.toInt8.toInt32))), fits .byte v = true := own_fs hf1 (fits_nar_byte _)
            have t3 : (((bs.set out.length (.int ((XT.ushrL v0 (16 : Int32)).toInt32.toInt8.toInt32))).set (out.length + 1) (.int ((XT.ushrL v0 (8 : Int32)).toInt32.toInt8.toInt32))).set (out.length + 2) (.int ((XT.ushrL v0 (0 : Int32)).toInt32.toInt8.toInt32))).take (out.length + 3) = out ++ [(.int ((XT.ushrL v0 (16 : Int32)).toInt32.toInt8.toInt32)), (.int ((XT.ushrL v0 (8 : Int32)).toInt32.toInt8.toInt32)), (.int ((XT.ushrL v0 (0 : Int32)).toInt32.toInt8.toInt32))] := by rw [show out.length + 3 = out.length + 2 + 1 from rfl, own_ts _ _ _ (by simp only [List.length_set]; omega), t2, List.append_assoc]; rfl
            show B.G hb2_ 1 272 (mkF m 72 #[.val (.ref w), .val (.long v0), .second, .val (.int (3 : Int32)), .val (.int (0 : Int32))] [])
            refine B.iinc 75 rfl (-1 : Int32) d8_72 rfl rfl #[.val (.ref w), .val (.long v0), .second, .val (.int (3 : Int32)), .val (.int (-1 : Int32))] rfl ?_
            refine B.goto 42 rfl (by decide) d8_75 ?_
            refine B.iload 44 rfl d8_42 rfl ?_
            refine B.if0_lt 78 47 rfl (by decide) rfl d8_44 (fun c44_3 => ?_) (fun c44_3 => ?_)
            · refine B.aloadN 79 rfl d8_78 rfl rfl ?_
              refine B.retA rfl rfl d8_79 (by decide) (by decide) ?_
              exact ⟨rfl, b1, hb1, own_close (ys := [(.int ((XT.ushrL v0 (16 : Int32)).toInt32.toInt8.toInt32)), (.int ((XT.ushrL v0 (8 : Int32)).toInt32.toInt8.toInt32)), (.int ((XT.ushrL v0 (0 : Int32)).toInt32.toInt8.toInt32))]) Ew_b2 Fb_b2 Fl_b2 Fi_b2 A_b2 Eb_b2 hf2 ne t3 (by rw [← hlen]; exact hr) (by simp only [List.length_set]; exact hlen)⟩
            · exact absurd c44_3 (by decide)
    · exact absurd hbig c14
theorem d14_0 : decode prog_64_method_6_code 0 = .ok (.aload_n 0, 1) := by decide +kernel
theorem d14_1 : decode prog_64_method_6_code 1 = .ok (.iload_n 1, 1) := by decide +kernel
theorem d14_2 : decode prog_64_method_6_code 2 = .ok (.i2l, 1) := by decide +kernel
theorem d14_3 : decode prog_64_method_6_code 3 = .ok (.iconst 3, 1) := by decide +kernel
theorem d14_4 : decode prog_64_method_6_code 4 = .ok (.invokevirtual 24, 3) := by decide +kernel
theorem d14_7 : decode prog_64_method_6_code 7 = .ok (.areturn, 1) := by decide +kernel
theorem pn_14 : plainFor (⟨"sealgram/codec/WireWriter", "uint24", "(I)Lsealgram/codec/WireWriter;"⟩ : MethodName) = true := by first | exact plainFor_of_name (by first | (simp [plainName, overriddenIn]; done) | decide +kernel) | decide +kernel
set_option maxRecDepth 65536 in
set_option maxHeartbeats 4000000 in
theorem rm_w3 (l : Launch) (Z : State) (a0 : Array Value) (hw : ∀ d ∈ tables_1, d.before a0 Z = true) (w b0 : Addr) (x0 : Int32) (out : List Value) (N : Nat) (h0 : Heap) (H : Wout Z h0 w b0 out N) (hN : N ≤ 136) (hL : out.length + 3 ≤ 139) (hneg : ¬ x0.toInt64 < 0) (hbig : XT.ushrL x0.toInt64 (24 : Int32) = 0) :
    Met l Z (⟨"sealgram/codec/WireWriter", "uint24", "(I)Lsealgram/codec/WireWriter;"⟩ : MethodName) prog_64_method_6_code 2 (some (.object "sealgram/codec/WireWriter")) [] ({ frames := 4, cells := 1, slots := 272, locals := 62 } : Room) #[(.ref w), (.int x0)] h0 [w, b0] (fun v h => v = some (.ref w) ∧ ∃ b1, (b1 = b0 ∨ h0.size ≤ b1) ∧ Wout Z h w b1 (out ++ [(.int ((XT.ushrL x0.toInt64 (16 : Int32)).toInt32.toInt8.toInt32)), (.int ((XT.ushrL x0.toInt64 (8 : Int32)).toInt32.toInt8.toInt32)), (.int ((XT.ushrL x0.toInt64 (0 : Int32)).toInt32.toInt8.toInt32))]) (own_g N out.length 3)) := by
  refine Met.walk pn_14 (Ls := #[.val (.ref w), .val (.int x0)]) (fun m => by first | (simp [entryFrame, mkF, argsToLocals, Value.category, maxLocals]; done) | rfl) ?_
  intro p e s m below meth c B
  refine B.aloadN 1 rfl d14_0 rfl rfl ?_
  refine B.iloadN 2 rfl d14_1 rfl ?_
  refine B.i2l 3 rfl d14_2 ?_
  refine B.iconst 4 rfl (3 : Int32) d14_3 rfl ?_
  refine B.callP 7 rfl d14_4 (wd hw 44 rfl) (wd hw 46 rfl) (wd hw 45 rfl) (wd hw 25 rfl) rfl (wd hw 6 rfl) (wd hw 47 rfl) (by decide) H.ex [(.long ((x0).toInt64)), (.int (3 : Int32))] [] (rm_u3 l Z a0 hw w b0 x0.toInt64 out N h0 H hN hL hneg hbig) rfl rfl pd__JI_Lsealgram_codec_WireWriter_ rfl rfl 0 rfl (by decide) (by decide) (by decide) (by decide) (fun x z => Or.inl z) ?_
  rintro _ h1 K1 ⟨rfl, q⟩
  show B.G h1 1 272 (mkF m 7 #[.val (.ref w), .val (.int x0)] [(.ref w)])
  refine B.retA rfl rfl d14_7 (by decide) (by decide) ?_
  exact ⟨rfl, q⟩
theorem d11_0 : decode prog_64_method_8_code 0 = .ok (.aload_n 0, 1) := by decide +kernel
theorem d11_1 : decode prog_64_method_8_code 1 = .ok (.aload_n 1, 1) := by decide +kernel
theorem d11_2 : decode prog_64_method_8_code 2 = .ok (.arraylength, 1) := by decide +kernel
theorem d11_3 : decode prog_64_method_8_code 3 = .ok (.invokevirtual 28, 3) := by decide +kernel
theorem d11_6 : decode prog_64_method_8_code 6 = .ok (.aload_n 1, 1) := by decide +kernel
theorem d11_7 : decode prog_64_method_8_code 7 = .ok (.iconst 0, 1) := by decide +kernel
theorem d11_8 : decode prog_64_method_8_code 8 = .ok (.aload_n 0, 1) := by decide +kernel
theorem d11_9 : decode prog_64_method_8_code 9 = .ok (.getfield 12, 3) := by decide +kernel
theorem d11_12 : decode prog_64_method_8_code 12 = .ok (.aload_n 0, 1) := by decide +kernel
theorem d11_13 : decode prog_64_method_8_code 13 = .ok (.getfield 16, 3) := by decide +kernel
theorem d11_16 : decode prog_64_method_8_code 16 = .ok (.aload_n 1, 1) := by decide +kernel
theorem d11_17 : decode prog_64_method_8_code 17 = .ok (.arraylength, 1) := by decide +kernel
theorem d11_18 : decode prog_64_method_8_code 18 = .ok (.invokestatic 32, 3) := by decide +kernel
theorem d11_21 : decode prog_64_method_8_code 21 = .ok (.aload_n 0, 1) := by decide +kernel
theorem d11_22 : decode prog_64_method_8_code 22 = .ok (.dup, 1) := by decide +kernel
theorem d11_23 : decode prog_64_method_8_code 23 = .ok (.getfield 16, 3) := by decide +kernel
theorem d11_26 : decode prog_64_method_8_code 26 = .ok (.aload_n 1, 1) := by decide +kernel
theorem d11_27 : decode prog_64_method_8_code 27 = .ok (.arraylength, 1) := by decide +kernel
theorem d11_28 : decode prog_64_method_8_code 28 = .ok (.iadd, 1) := by decide +kernel
theorem d11_29 : decode prog_64_method_8_code 29 = .ok (.putfield 16, 3) := by decide +kernel
theorem d11_32 : decode prog_64_method_8_code 32 = .ok (.aload_n 0, 1) := by decide +kernel
theorem d11_33 : decode prog_64_method_8_code 33 = .ok (.areturn, 1) := by decide +kernel
theorem pn_11 : plainFor (⟨"sealgram/codec/WireWriter", "bytes", "([B)Lsealgram/codec/WireWriter;"⟩ : MethodName) = true := by first | exact plainFor_of_name (by first | (simp [plainName, overriddenIn]; done) | decide +kernel) | decide +kernel
set_option maxRecDepth 65536 in
set_option maxHeartbeats 4000000 in
theorem rm_by (l : Launch) (Z : State) (a0 : Array Value) (hw : ∀ d ∈ tables_1, d.before a0 Z = true) (w b0 fi : Addr) (fl out : List Value) (N : Nat) (h0 : Heap) (H : Wout Z h0 w b0 out N) (hN : N ≤ 136) (hL : out.length + fl.length ≤ 139) (Af : Ary Z h0 fi .byte fl) (hff : ∀ v ∈ fl, fits .byte v = true) (nfw : fi ≠ w) (nfb : fi ≠ b0) :
    Met l Z (⟨"sealgram/codec/WireWriter", "bytes", "([B)Lsealgram/codec/WireWriter;"⟩ : MethodName) prog_64_method_8_code 2 (some (.object "sealgram/codec/WireWriter")) [] ({ frames := 3, cells := 1, slots := 272, locals := 46 } : Room) #[(.ref w), (.ref fi)] h0 [w, b0] (fun v h => v = some (.ref w) ∧ ∃ b1, (b1 = b0 ∨ h0.size ≤ b1) ∧ Wout Z h w b1 (out ++ fl) (own_g N out.length fl.length)) := by
  refine Met.walk pn_11 (Ls := #[.val (.ref w), .val (.ref fi)]) (fun m => by first | (simp [entryFrame, mkF, argsToLocals, Value.category, maxLocals]; done) | rfl) ?_
  intro p e s m below meth c B
  refine B.aloadN 1 rfl d11_0 rfl rfl ?_
  refine B.aloadN 2 rfl d11_1 rfl rfl ?_
  refine B.arrlen 3 rfl d11_2 Af (Int32.ofNat fl.length) rfl ?_
  refine B.callP 6 rfl d11_3 (wd hw 48 rfl) (wd hw 50 rfl) (wd hw 49 rfl) (wd hw 25 rfl) rfl (wd hw 6 rfl) (wd hw 51 rfl) (by decide) H.ex [(.int (Int32.ofNat fl.length))] [] (rm_gr l Z a0 hw w b0 out N fl.length h0 H hN hL) rfl rfl pd__I_V rfl rfl 0 rfl (by decide) (by decide) (by decide) (by decide) (fun x z => Or.inl (by cases List.mem_singleton.mp z; simp)) ?_
  rintro _ h1 K1 ⟨rfl, b1, hb1, bs, ⟨Ew, Fb, Fl, Fi, A, Eb, hf, ne⟩, ht, hle, hlen⟩
  show B.G h1 1 272 (mkF m 6 #[.val (.ref w), .val (.ref fi)] [])
  have hr : out.length + fl.length ≤ bs.length := by rw [hlen]; exact own_g_le _ _ _
  have Af1 := Af.keep K1 (ninS nfw nin0)
  have nf1 : fi ≠ b1 := hb1.elim (fun q => by rw [q]; exact nfb) (fun q e => absurd Af.lt (by rw [e]; exact Nat.not_lt.mpr q))
  refine B.aloadN 7 rfl d11_6 rfl rfl ?_
  refine B.iconst 8 rfl (0 : Int32) d11_7 rfl ?_
  refine B.aloadN 9 rfl d11_8 rfl rfl ?_
  refine B.getF 12 rfl d11_9 (wd hw 16 rfl) Fb ?_
  refine B.aloadN 13 rfl d11_12 rfl rfl ?_
  refine B.getF 16 rfl d11_13 (wd hw 18 rfl) Fl ?_
  refine B.aloadN 17 rfl d11_16 rfl rfl ?_
  refine B.arrlen 18 rfl d11_17 Af1 (Int32.ofNat fl.length) rfl ?_
  refine B.arrcp 21 rfl d11_18 (wd hw 62 rfl) (wd hw 38 rfl) (wd hw 36 rfl) (wd hw 37 rfl) Af1 A rfl hff (by decide) (own_nn out.length (by omega)).1 (own_nn fl.length (by omega)).1 0 out.length fl.length rfl (own_nn out.length (by omega)).2 (own_nn fl.length (by omega)).2 (by omega) hr (hb1.elim (fun q => Or.inl (by rw [q]; simp)) Or.inr) rfl 0 rfl (by decide) (by decide) ?_
  intro h2 K2 A2
  show B.G h2 1 272 (mkF m 21 #[.val (.ref w), .val (.ref fi)] [])
  have Ew2 := Ew.keep K2
  have nw : w ≠ b1 := Ne.symm ne
  have Fb2 := Fb.keep K2 (ninS nw nin0)
  have Fl2 := Fl.keep K2 (ninS nw nin0)
  have Fi2 := Fi.keep K2 (ninS nw nin0)
  have Eb2 := Eb.keep K2
  have Af2 := Af1.keep K2 (ninS nf1 nin0)
  refine B.aloadN 22 rfl d11_21 rfl rfl ?_
  refine B.dup 23 rfl d11_22 rfl ?_
  refine B.getF 26 rfl d11_23 (wd hw 18 rfl) Fl2 ?_
  refine B.aloadN 27 rfl d11_26 rfl rfl ?_
  refine B.arrlen 28 rfl d11_27 Af2 (Int32.ofNat fl.length) rfl ?_
  refine B.iadd 29 rfl d11_28 ?_
  refine B.topI (Int32.ofNat (out.length + fl.length)) (own_add _ _) ?_
  refine B.putF 32 rfl d11_29 (wd hw 18 rfl) Fl2 Ew2 (Or.inl (wd hw 19 rfl)) (wd hw 5 rfl) (ty := .int) (by decide) rfl rfl (Or.inl (by simp)) ?_
  intro h3 W3
  refine B.aloadN 33 rfl d11_32 rfl rfl ?_
  refine B.retA rfl rfl d11_33 (by decide) (by decide) ?_
  exact ⟨rfl, b1, hb1, own_close (ys := fl) (Ew2.wr W3) (Fb2.other W3 (Or.inr (slot_ne (Or.inl (wd hw 17 rfl)) (Or.inl (wd hw 19 rfl)) (by decide) (t := (.array .byte)) (t' := .int) (by decide) (by decide)))) (Fl2.same W3) (Fi2.other W3 (Or.inr (slot_ne (Or.inr (wd hw 21 rfl)) (Or.inl (wd hw 19 rfl)) (by decide) (t := .boolean) (t' := .int) (by decide) (by decide)))) (A2.other W3 ne) (Eb2.wr W3) (own_bf hf hff) ne (by rw [own_bt bs fl _ hr, ht]) (by rw [← hlen]; exact hr) (by rw [own_bl bs fl _ hr]; exact hlen)⟩
set_option maxRecDepth 65536 in
set_option maxHeartbeats 4000000 in
theorem rm_cpT (l : Launch) (Z : State) (a0 : Array Value) (hw : ∀ d ∈ tables_1, d.before a0 Z = true) (b0 : Addr) (bs : List Value) (n : Nat) (h0 : Heap) (A : Ary Z h0 b0 .byte bs) (E : Exa Z h0 b0 "[B") (hfit : ∀ v ∈ bs, fits .byte v = true) (hb : bs.length ≤ 300) (hn : n ≤ 139) :
    Met l Z (⟨"java/util/Arrays", "copyOf", "([BI)[B"⟩ : MethodName) jdk_65_method_121_code 3 (some (.array .byte)) [] ({ frames := 1, cells := 1, slots := 139, locals := 18 } : Room) #[(.ref b0), (.int (Int32.ofNat n))] h0 [] (fun v h => ∃ r, v = some (.ref r) ∧ h0.size ≤ r ∧ Ary Z h r .byte (own_copy bs n) ∧ Exa Z h r "[B") := by
  refine Met.walk pn_5 (Ls := #[.val (.ref b0), .val (.int (Int32.ofNat n)), .unset]) (fun m => by first | (simp [entryFrame, mkF, argsToLocals, Value.category, maxLocals]; done) | rfl) ?_
  intro p e s m below meth c B
  refine B.iloadN 1 rfl d5_0 rfl ?_
  refine B.aloadN 2 rfl d5_1 rfl rfl ?_
  refine B.arrlen 3 rfl d5_2 A (Int32.ofNat bs.length) rfl ?_
  refine B.icmp_ne 14 6 rfl (by decide) rfl d5_3 (fun c3 => ?_) (fun c3 => ?_)
  · refine B.iloadN 15 rfl d5_14 rfl ?_
    refine B.newPE 17 rfl d5_15 (wd hw 3 rfl) (own_nn n (by omega)).1 139 (by rw [(own_nn n (by omega)).2]; omega) (by decide) (by decide) (by decide) "[B" rfl ?_
    intro h1 r er gr X1 A1 E1
    rw [(own_nn n (by omega)).2] at A1
    replace A1 : Ary Z h1 r .byte (List.replicate n (.int 0)) := A1
    show B.G h1 1 139 (mkF m 17 #[.val (.ref b0), .val (.int (Int32.ofNat n)), .unset] [(.ref r)])
    refine B.astoreN 18 rfl d5_17 rfl #[.val (.ref b0), .val (.int (Int32.ofNat n)), .val (.ref r)] rfl ?_
    refine B.aloadN 19 rfl d5_18 rfl rfl ?_
    refine B.iconst 20 rfl (0 : Int32) d5_19 rfl ?_
    refine B.aloadN 21 rfl d5_20 rfl rfl ?_
    refine B.iconst 22 rfl (0 : Int32) d5_21 rfl ?_
    refine B.aloadN 23 rfl d5_22 rfl rfl ?_
    refine B.arrlen 24 rfl d5_23 (A.ext X1) (Int32.ofNat bs.length) rfl ?_
    refine B.iloadN 25 rfl d5_24 rfl ?_
    refine B.callS 28 rfl d5_25 (wd hw 31 rfl) (wd hw 32 rfl) (wd hw 33 rfl) (wd hw 34 rfl) (by decide) [(.int (Int32.ofNat bs.length)), (.int (Int32.ofNat n))] [(.int (0 : Int32)), (.ref r), (.int (0 : Int32)), (.ref b0)] (rm_min l Z a0 hw (Int32.ofNat bs.length) (Int32.ofNat n) h1) rfl rfl pd__II_I rfl rfl 4 rfl (by decide) (by decide) (by decide) (by decide) (fun _ q => nomatch q) ?_
    rintro _ _ - ⟨rfl, rfl⟩
    show B.G h1 1 139 (mkF m 28 #[.val (.ref b0), .val (.int (Int32.ofNat n)), .val (.ref r)] [(.int (if (Int32.ofNat n) < (Int32.ofNat bs.length) then (Int32.ofNat n) else (Int32.ofNat bs.length))), (.int (0 : Int32)), (.ref r), (.int (0 : Int32)), (.ref b0)])
    refine B.topI (Int32.ofNat (min bs.length n)) (own_min bs.length n (by omega) (by omega)) ?_
    refine B.arrcp 31 rfl d5_28 (wd hw 35 rfl) (wd hw 38 rfl) (wd hw 36 rfl) (wd hw 37 rfl) (A.ext X1) A1 rfl hfit (by decide) (by decide) (own_nn (min bs.length n) (by omega)).1 0 0 (min bs.length n) rfl rfl (own_nn (min bs.length n) (by omega)).2 (by omega) (by rw [List.length_replicate]; omega) (Or.inr gr) rfl 0 rfl (by decide) (by decide) ?_
    intro h2 K2 A2
    show B.G h2 1 139 (mkF m 31 #[.val (.ref b0), .val (.int (Int32.ofNat n)), .val (.ref r)] [])
    refine B.aloadN 32 rfl d5_31 rfl rfl ?_
    refine B.retA rfl rfl d5_32 (by decide) (by decide) ?_
    exact ⟨r, rfl, gr, by rw [← own_cp]; exact A2, E1.keep K2⟩
  · refine B.aloadN 7 rfl d5_6 rfl rfl ?_
    have en : n = bs.length := (own_inj n bs.length (by omega) (by omega)).mp c3
    refine B.clone 10 rfl d5_7 (wd hw 80 rfl) (wd hw 81 rfl) (wd hw 85 rfl) (wd hw 83 rfl) (wd hw 84 rfl) (wd hw 86 rfl) A E hfit rfl 0 rfl (by decide) (by decide) 139 (by omega) (by decide) (by decide) ?_
    intro h1 r er gr X1 A1 E1
    show B.G h1 1 139 (mkF m 10 #[.val (.ref b0), .val (.int (Int32.ofNat n)), .unset] [(.ref r)])
    refine B.castY 13 rfl d5_10 (wd hw 87 rfl) (Ins.self E1) ?_
    refine B.retA rfl rfl d5_13 (by decide) (by decide) ?_
    exact ⟨r, rfl, gr, by rw [en, own_copy_eq]; exact A1, E1⟩
theorem d4_0 : decode prog_64_method_13_code 0 = .ok (.aload_n 0, 1) := by decide +kernel
theorem d4_1 : decode prog_64_method_13_code 1 = .ok (.getfield 12, 3) := by decide +kernel
theorem d4_4 : decode prog_64_method_13_code 4 = .ok (.aload_n 0, 1) := by decide +kernel
theorem d4_5 : decode prog_64_method_13_code 5 = .ok (.getfield 16, 3) := by decide +kernel
theorem d4_8 : decode prog_64_method_13_code 8 = .ok (.invokestatic 66, 3) := by decide +kernel
theorem d4_11 : decode prog_64_method_13_code 11 = .ok (.areturn, 1) := by decide +kernel
theorem pn_4 : plainFor (⟨"sealgram/codec/WireWriter", "toByteArray", "()[B"⟩ : MethodName) = true := by first | exact plainFor_of_name (by first | (simp [plainName, overriddenIn]; done) | decide +kernel) | decide +kernel
set_option maxRecDepth 65536 in
set_option maxHeartbeats 4000000 in
theorem rm_tb (l : Launch) (Z : State) (a0 : Array Value) (hw : ∀ d ∈ tables_1, d.before a0 Z = true) (w b0 : Addr) (out : List Value) (N : Nat) (h0 : Heap) (H : Wout Z h0 w b0 out N) (hN : N ≤ 300) (hL : out.length ≤ 139) :
    Met l Z (⟨"sealgram/codec/WireWriter", "toByteArray", "()[B"⟩ : MethodName) prog_64_method_13_code 1 (some (.array .byte)) [] ({ frames := 2, cells := 1, slots := 139, locals := 32 } : Room) #[(.ref w)] h0 [] (fun v h => ∃ r, v = some (.ref r) ∧ h0.size ≤ r ∧ Ary Z h r .byte out) := by
  refine Met.walk pn_4 (Ls := #[.val (.ref w)]) (fun m => by first | (simp [entryFrame, mkF, argsToLocals, Value.category, maxLocals]; done) | rfl) ?_
  intro p e s m below meth c B
  obtain ⟨bs, ⟨Ew, Fb, Fl, Fi, A, Eb, hf, ne⟩, ht, hle, hlen⟩ := H
  refine B.aloadN 1 rfl d4_0 rfl rfl ?_
  refine B.getF 4 rfl d4_1 (wd hw 16 rfl) Fb ?_
  refine B.aloadN 5 rfl d4_4 rfl rfl ?_
  refine B.getF 8 rfl d4_5 (wd hw 18 rfl) Fl ?_
  refine B.callS 11 rfl d4_8 (wd hw 27 rfl) (wd hw 28 rfl) (wd hw 29 rfl) (wd hw 30 rfl) (by decide) [(.ref b0), (.int (Int32.ofNat out.length))] [] (rm_cpT l Z a0 hw b0 bs out.length h0 A Eb hf (by omega) hL) rfl rfl pd___BI__B rfl rfl 0 rfl (by decide) (by decide) (by decide) (by decide) (fun _ q => nomatch q) ?_
  rintro _ h1 K1 ⟨r, rfl, gr, Ar, Er⟩
  show B.G h1 1 139 (mkF m 11 #[.val (.ref w)] [(.ref r)])
  refine B.retA rfl rfl d4_11 (by decide) (by decide) ?_
  exact ⟨r, rfl, gr, by rw [own_copy_le bs _ (by omega), ht] at Ar; exact Ar⟩
theorem d12_0 : decode method_2_code 0 = .ok (.aload_n 0, 1) := by decide +kernel
theorem d12_1 : decode method_2_code 1 = .ok (.iload_n 1, 1) := by decide +kernel
theorem d12_2 : decode method_2_code 2 = .ok (.baload, 1) := by decide +kernel
theorem d12_3 : decode method_2_code 3 = .ok (.lload_n 2, 1) := by decide +kernel
theorem d12_4 : decode method_2_code 4 = .ok (.iload 4, 2) := by decide +kernel
theorem d12_6 : decode method_2_code 6 = .ok (.lushr, 1) := by decide +kernel
theorem d12_7 : decode method_2_code 7 = .ok (.l2i, 1) := by decide +kernel
theorem d12_8 : decode method_2_code 8 = .ok (.i2b, 1) := by decide +kernel
theorem d12_9 : decode method_2_code 9 = .ok (.if_icmp .ne 7, 3) := by decide +kernel
theorem d12_12 : decode method_2_code 12 = .ok (.iconst 1, 1) := by decide +kernel
theorem d12_13 : decode method_2_code 13 = .ok (.goto 4, 3) := by decide +kernel
theorem d12_17 : decode method_2_code 17 = .ok (.ireturn, 1) := by decide +kernel
theorem pn_12 : plainFor (⟨"sealgram/codec/WireWriterToByteArrayPinLaw", "eq", "([BIJI)Z"⟩ : MethodName) = true := by first | exact plainFor_of_name (by first | (simp [plainName, overriddenIn]; done) | decide +kernel) | decide +kernel
set_option maxRecDepth 65536 in
set_option maxHeartbeats 4000000 in
theorem rm_eq (l : Launch) (Z : State) (a0 : Array Value) (hw : ∀ d ∈ tables_1, d.before a0 Z = true) (r : Addr) (v0 : Int64) (s0 : Int32) (i : Nat) (vs : List Value) (h0 : Heap) (A : Ary Z h0 r .byte vs) (hi : i ≤ 400) (hv : vs[i]? = some (.int ((XT.ushrL v0 s0).toInt32.toInt8.toInt32))) :
    Met l Z (⟨"sealgram/codec/WireWriterToByteArrayPinLaw", "eq", "([BIJI)Z"⟩ : MethodName) method_2_code 5 (some .boolean) [] ({ frames := 0, cells := 0, slots := 0, locals := 0 } : Room) #[(.ref r), (.int (Int32.ofNat i)), (.long v0), (.int s0)] h0 [] (fun v h => v = some (.int (1 : Int32)) ∧ h0 = h) := by
  refine Met.walk pn_12 (Ls := #[.val (.ref r), .val (.int (Int32.ofNat i)), .val (.long v0), .second, .val (.int s0)]) (fun m => by first | (simp [entryFrame, mkF, argsToLocals, Value.category, maxLocals]; done) | rfl) ?_
  intro p e s m below meth c B
  refine B.aloadN 1 rfl d12_0 rfl rfl ?_
  refine B.iloadN 2 rfl d12_1 rfl ?_
  refine B.baload 3 rfl d12_2 A (own_nn i hi).1 i (own_nn i hi).2 (.int ((XT.ushrL v0 s0).toInt32.toInt8.toInt32)) hv ?_
  refine B.lloadN 4 rfl d12_3 rfl ?_
  refine B.iload 6 rfl d12_4 rfl ?_
  refine B.lushr 7 rfl d12_6 ?_
  refine B.l2i 8 rfl d12_7 ?_
  refine B.i2b 9 rfl d12_8 ?_
  refine B.icmp_ne 16 12 rfl (by decide) rfl d12_9 (fun c9 => ?_) (fun c9 => ?_)
  · exact absurd rfl c9
  · refine B.iconst 13 rfl (1 : Int32) d12_12 rfl ?_
    refine B.goto 17 rfl (by decide) d12_13 ?_
    refine B.retN (by simp) d12_17 (by decide) (by decide) ?_
    exact ⟨rfl, rfl⟩
theorem pn_0 : plainFor x = true := by first | exact plainFor_of_name (by first | (simp [plainName, overriddenIn]; done) | decide +kernel) | decide +kernel
set_option maxRecDepth 65536 in
set_option maxHeartbeats 4000000 in
theorem rm0 (l : Launch) (Z : State) (a0 : Array Value) (hw : ∀ d ∈ tables_1, d.before a0 Z = true) (wds : List Jvm.Cond) (p1 p2 : Int32) (p3 : Int64) (p4 p5 p6 : Int32) (h0 : Heap)  :
    Met l Z x code maxLocals ret wds room_1 #[(.int p1), (.int p2), (.long p3), (.int p4), (.int p5), (.int p6)] h0 [] (fun v _ => v = some (.int 1)) := by
  refine Met.walk pn_0 (Ls := #[.val (.int p1), .val (.int p2), .val (.long p3), .second, .val (.int p4), .val (.int p5), .val (.int p6), .unset, .unset, .unset, .unset, .unset, .unset, .unset, .unset, .unset, .unset, .unset, .unset, .unset, .unset, .unset, .unset, .unset, .unset, .unset, .unset, .unset]) (fun m => by first | (simp [entryFrame, mkF, argsToLocals, Value.category, maxLocals]; done) | rfl) ?_
  intro p e s m below meth c B
  refine B.iload 2 rfl at_0 rfl ?_
  refine B.iconst 3 rfl (1 : Int32) at_2 rfl ?_
  refine B.iand 4 rfl at_3 ?_
  have J4 : ∀ f8 : Int32, B.G h0 0 0 (mkF m 12 #[.val (.int p1), .val (.int p2), .val (.long p3), .second, .val (.int p4), .val (.int p5), .val (.int p6), .unset, .unset, .unset, .unset, .unset, .unset, .unset, .unset, .unset, .unset, .unset, .unset, .unset, .unset, .unset, .unset, .unset, .unset, .unset, .unset, .unset] [(.int f8)]) := by
    intro f8
    refine B.istore 14 rfl at_12 #[.val (.int p1), .val (.int p2), .val (.long p3), .second, .val (.int p4), .val (.int p5), .val (.int p6), .val (.int f8), .unset, .unset, .unset, .unset, .unset, .unset, .unset, .unset, .unset, .unset, .unset, .unset, .unset, .unset, .unset, .unset, .unset, .unset, .unset, .unset] rfl ?_
    refine B.iload 16 rfl at_14 rfl ?_
    refine B.iconst 17 rfl (2 : Int32) at_16 rfl ?_
    refine B.iand 18 rfl at_17 ?_
    have J18 : ∀ f16 : Int32, B.G h0 0 0 (mkF m 26 #[.val (.int p1), .val (.int p2), .val (.long p3), .second, .val (.int p4), .val (.int p5), .val (.int p6), .val (.int f8), .unset, .unset, .unset, .unset, .unset, .unset, .unset, .unset, .unset, .unset, .unset, .unset, .unset, .unset, .unset, .unset, .unset, .unset, .unset, .unset] [(.int f16)]) := by
      intro f16
      refine B.istore 28 rfl at_26 #[.val (.int p1), .val (.int p2), .val (.long p3), .second, .val (.int p4), .val (.int p5), .val (.int p6), .val (.int f8), .val (.int f16), .unset, .unset, .unset, .unset, .unset, .unset, .unset, .unset, .unset, .unset, .unset, .unset, .unset, .unset, .unset, .unset, .unset, .unset, .unset] rfl ?_
      refine B.iload 30 rfl at_28 rfl ?_
      refine B.iconst 31 rfl (4 : Int32) at_30 rfl ?_
      refine B.iand 32 rfl at_31 ?_
      have J32 : ∀ f48 : Int32, B.G h0 0 0 (mkF m 40 #[.val (.int p1), .val (.int p2), .val (.long p3), .second, .val (.int p4), .val (.int p5), .val (.int p6), .val (.int f8), .val (.int f16), .unset, .unset, .unset, .unset, .unset, .unset, .unset, .unset, .unset, .unset, .unset, .unset, .unset, .unset, .unset, .unset, .unset, .unset, .unset] [(.int f48)]) := by
        intro f48
        refine B.istore 42 rfl at_40 #[.val (.int p1), .val (.int p2), .val (.long p3), .second, .val (.int p4), .val (.int p5), .val (.int p6), .val (.int f8), .val (.int f16), .val (.int f48), .unset, .unset, .unset, .unset, .unset, .unset, .unset, .unset, .unset, .unset, .unset, .unset, .unset, .unset, .unset, .unset, .unset, .unset] rfl ?_
        refine B.iload 44 rfl at_42 rfl ?_
        refine B.bipush 46 rfl (8 : Int32) at_44 rfl ?_
        refine B.iand 47 rfl at_46 ?_
        have J47 : ∀ fb : Int32, B.G h0 0 0 (mkF m 55 #[.val (.int p1), .val (.int p2), .val (.long p3), .second, .val (.int p4), .val (.int p5), .val (.int p6), .val (.int f8), .val (.int f16), .val (.int f48), .unset, .unset, .unset, .unset, .unset, .unset, .unset, .unset, .unset, .unset, .unset, .unset, .unset, .unset, .unset, .unset, .unset, .unset] [(.int fb)]) := by
          intro fb
          refine B.istore 57 rfl at_55 #[.val (.int p1), .val (.int p2), .val (.long p3), .second, .val (.int p4), .val (.int p5), .val (.int p6), .val (.int f8), .val (.int f16), .val (.int f48), .val (.int fb), .unset, .unset, .unset, .unset, .unset, .unset, .unset, .unset, .unset, .unset, .unset, .unset, .unset, .unset, .unset, .unset, .unset] rfl ?_
          refine B.iload 59 rfl at_57 rfl ?_
          refine B.bipush 61 rfl (16 : Int32) at_59 rfl ?_
          refine B.iand 62 rfl at_61 ?_
          have J62 : ∀ f24 : Int32, B.G h0 0 0 (mkF m 70 #[.val (.int p1), .val (.int p2), .val (.long p3), .second, .val (.int p4), .val (.int p5), .val (.int p6), .val (.int f8), .val (.int f16), .val (.int f48), .val (.int fb), .unset, .unset, .unset, .unset, .unset, .unset, .unset, .unset, .unset, .unset, .unset, .unset, .unset, .unset, .unset, .unset, .unset] [(.int f24)]) := by
            intro f24
            refine B.istore 72 rfl at_70 #[.val (.int p1), .val (.int p2), .val (.long p3), .second, .val (.int p4), .val (.int p5), .val (.int p6), .val (.int f8), .val (.int f16), .val (.int f48), .val (.int fb), .val (.int f24), .unset, .unset, .unset, .unset, .unset, .unset, .unset, .unset, .unset, .unset, .unset, .unset, .unset, .unset, .unset, .unset] rfl ?_
            refine B.iloadN 73 rfl at_72 rfl ?_
            refine B.sipush 76 rfl (255 : Int32) at_73 rfl ?_
            refine B.iand 77 rfl at_76 ?_
            refine B.istore 79 rfl at_77 #[.val (.int p1), .val (.int p2), .val (.long p3), .second, .val (.int p4), .val (.int p5), .val (.int p6), .val (.int f8), .val (.int f16), .val (.int f48), .val (.int fb), .val (.int f24), .val (.int (p1 &&& (255 : Int32))), .unset, .unset, .unset, .unset, .unset, .unset, .unset, .unset, .unset, .unset, .unset, .unset, .unset, .unset, .unset] rfl ?_
            refine B.iloadN 80 rfl at_79 rfl ?_
            refine B.ldcI 82 rfl at_80 (wd hw 0 rfl) ?_
            refine B.iand 83 rfl at_82 ?_
            refine B.istore 85 rfl at_83 #[.val (.int p1), .val (.int p2), .val (.long p3), .second, .val (.int p4), .val (.int p5), .val (.int p6), .val (.int f8), .val (.int f16), .val (.int f48), .val (.int fb), .val (.int f24), .val (.int (p1 &&& (255 : Int32))), .val (.int (p2 &&& (65535 : Int32))), .unset, .unset, .unset, .unset, .unset, .unset, .unset, .unset, .unset, .unset, .unset, .unset, .unset, .unset] rfl ?_
            refine B.lloadN 86 rfl at_85 rfl ?_
            refine B.ldc2J 89 rfl at_86 (wd hw 1 rfl) ?_
            refine B.land 90 rfl at_89 ?_
            refine B.lstore 92 rfl at_90 #[.val (.int p1), .val (.int p2), .val (.long p3), .second, .val (.int p4), .val (.int p5), .val (.int p6), .val (.int f8), .val (.int f16), .val (.int f48), .val (.int fb), .val (.int f24), .val (.int (p1 &&& (255 : Int32))), .val (.int (p2 &&& (65535 : Int32))), .val (.long (p3 &&& (281474976710655 : Int64))), .second, .unset, .unset, .unset, .unset, .unset, .unset, .unset, .unset, .unset, .unset, .unset, .unset] rfl ?_
            refine B.iload 94 rfl at_92 rfl ?_
            refine B.ldcI 96 rfl at_94 (wd hw 2 rfl) ?_
            refine B.iand 97 rfl at_96 ?_
            refine B.istore 99 rfl at_97 #[.val (.int p1), .val (.int p2), .val (.long p3), .second, .val (.int p4), .val (.int p5), .val (.int p6), .val (.int f8), .val (.int f16), .val (.int f48), .val (.int fb), .val (.int f24), .val (.int (p1 &&& (255 : Int32))), .val (.int (p2 &&& (65535 : Int32))), .val (.long (p3 &&& (281474976710655 : Int64))), .second, .val (.int (p4 &&& (16777215 : Int32))), .unset, .unset, .unset, .unset, .unset, .unset, .unset, .unset, .unset, .unset, .unset] rfl ?_
            refine B.iload 101 rfl at_99 rfl ?_
            refine B.bipush 103 rfl (127 : Int32) at_101 rfl ?_
            refine B.iand 104 rfl at_103 ?_
            obtain ⟨mm, hmm, emm⟩ := own_m p5
            refine B.topI (Int32.ofNat mm) emm ?_
            refine B.istore 106 rfl at_104 #[.val (.int p1), .val (.int p2), .val (.long p3), .second, .val (.int p4), .val (.int p5), .val (.int p6), .val (.int f8), .val (.int f16), .val (.int f48), .val (.int fb), .val (.int f24), .val (.int (p1 &&& (255 : Int32))), .val (.int (p2 &&& (65535 : Int32))), .val (.long (p3 &&& (281474976710655 : Int64))), .second, .val (.int (p4 &&& (16777215 : Int32))), .val (.int (Int32.ofNat mm)), .unset, .unset, .unset, .unset, .unset, .unset, .unset, .unset, .unset, .unset] rfl ?_
            refine B.iload 108 rfl at_106 rfl ?_
            refine B.bipush 110 rfl (8 : Int32) at_108 rfl ?_
            refine B.iushr 111 rfl at_110 ?_
            refine B.i2b 112 rfl at_111 ?_
            refine B.istore 114 rfl at_112 #[.val (.int p1), .val (.int p2), .val (.long p3), .second, .val (.int p4), .val (.int p5), .val (.int p6), .val (.int f8), .val (.int f16), .val (.int f48), .val (.int fb), .val (.int f24), .val (.int (p1 &&& (255 : Int32))), .val (.int (p2 &&& (65535 : Int32))), .val (.long (p3 &&& (281474976710655 : Int64))), .second, .val (.int (p4 &&& (16777215 : Int32))), .val (.int (Int32.ofNat mm)), .val (.int (((XT.ushr p5 (8 : Int32))).toInt8.toInt32)), .unset, .unset, .unset, .unset, .unset, .unset, .unset, .unset, .unset] rfl ?_
            refine B.iload 116 rfl at_114 rfl ?_
            refine B.bipush 118 rfl (16 : Int32) at_116 rfl ?_
            refine B.iushr 119 rfl at_118 ?_
            refine B.i2b 120 rfl at_119 ?_
            refine B.istore 122 rfl at_120 #[.val (.int p1), .val (.int p2), .val (.long p3), .second, .val (.int p4), .val (.int p5), .val (.int p6), .val (.int f8), .val (.int f16), .val (.int f48), .val (.int fb), .val (.int f24), .val (.int (p1 &&& (255 : Int32))), .val (.int (p2 &&& (65535 : Int32))), .val (.long (p3 &&& (281474976710655 : Int64))), .second, .val (.int (p4 &&& (16777215 : Int32))), .val (.int (Int32.ofNat mm)), .val (.int (((XT.ushr p5 (8 : Int32))).toInt8.toInt32)), .val (.int (((XT.ushr p5 (16 : Int32))).toInt8.toInt32)), .unset, .unset, .unset, .unset, .unset, .unset, .unset, .unset] rfl ?_
            refine B.iload 124 rfl at_122 rfl ?_
            refine B.newP 126 rfl at_124 (wd hw 3 rfl) (own_nn mm (by omega)).1 127 (by rw [(own_nn mm (by omega)).2]; omega) (by decide) (by decide) (by decide) ?_
            intro h_fi fi e_fi g_fi X_fi A_fi
            rw [(own_nn mm (by omega)).2] at A_fi
            replace A_fi : Ary Z h_fi fi .byte (List.replicate mm (.int 0)) := A_fi
            show B.G h_fi 1 127 (mkF m 126 #[.val (.int p1), .val (.int p2), .val (.long p3), .second, .val (.int p4), .val (.int p5), .val (.int p6), .val (.int f8), .val (.int f16), .val (.int f48), .val (.int fb), .val (.int f24), .val (.int (p1 &&& (255 : Int32))), .val (.int (p2 &&& (65535 : Int32))), .val (.long (p3 &&& (281474976710655 : Int64))), .second, .val (.int (p4 &&& (16777215 : Int32))), .val (.int (Int32.ofNat mm)), .val (.int (((XT.ushr p5 (8 : Int32))).toInt8.toInt32)), .val (.int (((XT.ushr p5 (16 : Int32))).toInt8.toInt32)), .unset, .unset, .unset, .unset, .unset, .unset, .unset, .unset] [(.ref fi)])
            refine B.astore 128 rfl at_126 rfl #[.val (.int p1), .val (.int p2), .val (.long p3), .second, .val (.int p4), .val (.int p5), .val (.int p6), .val (.int f8), .val (.int f16), .val (.int f48), .val (.int fb), .val (.int f24), .val (.int (p1 &&& (255 : Int32))), .val (.int (p2 &&& (65535 : Int32))), .val (.long (p3 &&& (281474976710655 : Int64))), .second, .val (.int (p4 &&& (16777215 : Int32))), .val (.int (Int32.ofNat mm)), .val (.int (((XT.ushr p5 (8 : Int32))).toInt8.toInt32)), .val (.int (((XT.ushr p5 (16 : Int32))).toInt8.toInt32)), .val (.ref fi), .unset, .unset, .unset, .unset, .unset, .unset, .unset] rfl ?_
            refine B.iload 130 rfl at_128 rfl ?_
            have J130 : ∀ h1 : Heap, Ary Z h1 fi .byte (own_fl mm ((XT.ushr p5 (16 : Int32)).toInt8.toInt32) ((XT.ushr p5 (8 : Int32)).toInt8.toInt32)) → B.G h1 1 127 (mkF m 148 #[.val (.int p1), .val (.int p2), .val (.long p3), .second, .val (.int p4), .val (.int p5), .val (.int p6), .val (.int f8), .val (.int f16), .val (.int f48), .val (.int fb), .val (.int f24), .val (.int (p1 &&& (255 : Int32))), .val (.int (p2 &&& (65535 : Int32))), .val (.long (p3 &&& (281474976710655 : Int64))), .second, .val (.int (p4 &&& (16777215 : Int32))), .val (.int (Int32.ofNat mm)), .val (.int (((XT.ushr p5 (8 : Int32))).toInt8.toInt32)), .val (.int (((XT.ushr p5 (16 : Int32))).toInt8.toInt32)), .val (.ref fi), .unset, .unset, .unset, .unset, .unset, .unset, .unset] []) := by
              intro h1 A1
              refine B.newO 151 rfl at_148 (wd hw 4 rfl) (wd hw 5 rfl) (wd hw 6 rfl) (by decide) (by decide) ?_
              intro h_wo wo e_wo g_wo X_wo E_wo D_wo
              show B.G h_wo 2 130 (mkF m 151 #[.val (.int p1), .val (.int p2), .val (.long p3), .second, .val (.int p4), .val (.int p5), .val (.int p6), .val (.int f8), .val (.int f16), .val (.int f48), .val (.int fb), .val (.int f24), .val (.int (p1 &&& (255 : Int32))), .val (.int (p2 &&& (65535 : Int32))), .val (.long (p3 &&& (281474976710655 : Int64))), .second, .val (.int (p4 &&& (16777215 : Int32))), .val (.int (Int32.ofNat mm)), .val (.int (((XT.ushr p5 (8 : Int32))).toInt8.toInt32)), .val (.int (((XT.ushr p5 (16 : Int32))).toInt8.toInt32)), .val (.ref fi), .unset, .unset, .unset, .unset, .unset, .unset, .unset] [(.ref wo)])
              have n_fi_wo : fi ≠ wo := fun q => absurd A1.lt (by rw [q, e_wo]; exact Nat.lt_irrefl _)
              have A_fi_1 := A1.ext X_wo
              have F0_wo : Fld Z h_wo wo "sealgram/codec/WireWriter" "mBytes" "[B" .null := D_wo (Or.inl (wd hw 17 rfl)) (ty := (.array .byte)) (by decide)
              have F1_wo : Fld Z h_wo wo "sealgram/codec/WireWriter" "mLength" "I" (.int 0) := D_wo (Or.inl (wd hw 19 rfl)) (ty := .int) (by decide)
              have F2_wo : Fld Z h_wo wo "sealgram/codec/WireWriter" "mInPlace" "Z" (.int 0) := D_wo (Or.inr (wd hw 21 rfl)) (ty := .boolean) (by decide)
              refine B.dup 152 rfl at_151 rfl ?_
              refine B.callI 155 rfl at_152 rfl (wd hw 7 rfl) (wd hw 8 rfl) (wd hw 6 rfl) (wd hw 9 rfl) (by decide) [] [(.ref wo)] (rm_i0 l Z a0 hw wo h_wo E_wo F0_wo F1_wo F2_wo) rfl rfl pd___V rfl rfl 1 rfl (by decide) (by decide) (by decide) (by decide) (fun x z => Or.inr (by cases List.mem_singleton.mp z; exact g_wo)) ?_
              rintro _ h2 K2 ⟨rfl, bb, gb0, H⟩
              show B.G h2 3 194 (mkF m 155 #[.val (.int p1), .val (.int p2), .val (.long p3), .second, .val (.int p4), .val (.int p5), .val (.int p6), .val (.int f8), .val (.int f16), .val (.int f48), .val (.int fb), .val (.int f24), .val (.int (p1 &&& (255 : Int32))), .val (.int (p2 &&& (65535 : Int32))), .val (.long (p3 &&& (281474976710655 : Int64))), .second, .val (.int (p4 &&& (16777215 : Int32))), .val (.int (Int32.ofNat mm)), .val (.int (((XT.ushr p5 (8 : Int32))).toInt8.toInt32)), .val (.int (((XT.ushr p5 (16 : Int32))).toInt8.toInt32)), .val (.ref fi), .unset, .unset, .unset, .unset, .unset, .unset, .unset] [(.ref wo)])
              have nfw : fi ≠ wo := n_fi_wo
              have Af := A_fi_1.keep K2 (ninS nfw nin0)
              have nf : fi ≠ bb := fun q => absurd A_fi_1.lt (by rw [q]; exact Nat.not_lt.mpr gb0)
              have gb : h0.size ≤ bb := Nat.le_trans (Nat.le_trans g_wo (Nat.le_of_lt E_wo.lt)) gb0
              have z0 : ([] : List Value).length ≤ 0 := Nat.le_refl _
              have z1 : (([] : List Value) ++ own_s f8 [(.int ((XT.ushrL (p1 &&& (255 : Int32)).toInt64 (0 : Int32)).toInt32.toInt8.toInt32))]).length ≤ 1 := by
                have q := own_sl f8 [(.int ((XT.ushrL (p1 &&& (255 : Int32)).toInt64 (0 : Int32)).toInt32.toInt8.toInt32))]
                rw [List.length_append]
                simp only [List.length_cons, List.length_nil, own_fll] at q z0 ⊢
                omega
              have z2 : ((([] : List Value) ++ own_s f8 [(.int ((XT.ushrL (p1 &&& (255 : Int32)).toInt64 (0 : Int32)).toInt32.toInt8.toInt32))]) ++ own_s f16 [(.int ((XT.ushrL (p2 &&& (65535 : Int32)).toInt64 (8 : Int32)).toInt32.toInt8.toInt32)), (.int ((XT.ushrL (p2 &&& (65535 : Int32)).toInt64 (0 : Int32)).toInt32.toInt8.toInt32))]).length ≤ 3 := by
                have q := own_sl f16 [(.int ((XT.ushrL (p2 &&& (65535 : Int32)).toInt64 (8 : Int32)).toInt32.toInt8.toInt32)), (.int ((XT.ushrL (p2 &&& (65535 : Int32)).toInt64 (0 : Int32)).toInt32.toInt8.toInt32))]
                rw [List.length_append]
                simp only [List.length_cons, List.length_nil, own_fll] at q z1 ⊢
                omega
              have z3 : (((([] : List Value) ++ own_s f8 [(.int ((XT.ushrL (p1 &&& (255 : Int32)).toInt64 (0 : Int32)).toInt32.toInt8.toInt32))]) ++ own_s f16 [(.int ((XT.ushrL (p2 &&& (65535 : Int32)).toInt64 (8 : Int32)).toInt32.toInt8.toInt32)), (.int ((XT.ushrL (p2 &&& (65535 : Int32)).toInt64 (0 : Int32)).toInt32.toInt8.toInt32))]) ++ own_s f48 [(.int ((XT.ushrL (p3 &&& (281474976710655 : Int64)) (40 : Int32)).toInt32.toInt8.toInt32)), (.int ((XT.ushrL (p3 &&& (281474976710655 : Int64)) (32 : Int32)).toInt32.toInt8.toInt32)), (.int ((XT.ushrL (p3 &&& (281474976710655 : Int64)) (24 : Int32)).toInt32.toInt8.toInt32)), (.int ((XT.ushrL (p3 &&& (281474976710655 : Int64)) (16 : Int32)).toInt32.toInt8.toInt32)), (.int ((XT.ushrL (p3 &&& (281474976710655 : Int64)) (8 : Int32)).toInt32.toInt8.toInt32)), (.int ((XT.ushrL (p3 &&& (281474976710655 : Int64)) (0 : Int32)).toInt32.toInt8.toInt32))]).length ≤ 9 := by
                have q := own_sl f48 [(.int ((XT.ushrL (p3 &&& (281474976710655 : Int64)) (40 : Int32)).toInt32.toInt8.toInt32)), (.int ((XT.ushrL (p3 &&& (281474976710655 : Int64)) (32 : Int32)).toInt32.toInt8.toInt32)), (.int ((XT.ushrL (p3 &&& (281474976710655 : Int64)) (24 : Int32)).toInt32.toInt8.toInt32)), (.int ((XT.ushrL (p3 &&& (281474976710655 : Int64)) (16 : Int32)).toInt32.toInt8.toInt32)), (.int ((XT.ushrL (p3 &&& (281474976710655 : Int64)) (8 : Int32)).toInt32.toInt8.toInt32)), (.int ((XT.ushrL (p3 &&& (281474976710655 : Int64)) (0 : Int32)).toInt32.toInt8.toInt32))]
                rw [List.length_append]
                simp only [List.length_cons, List.length_nil, own_fll] at q z2 ⊢
                omega
              have z4 : ((((([] : List Value) ++ own_s f8 [(.int ((XT.ushrL (p1 &&& (255 : Int32)).toInt64 (0 : Int32)).toInt32.toInt8.toInt32))]) ++ own_s f16 [(.int ((XT.ushrL (p2 &&& (65535 : Int32)).toInt64 (8 : Int32)).toInt32.toInt8.toInt32)), (.int ((XT.ushrL (p2 &&& (65535 : Int32)).toInt64 (0 : Int32)).toInt32.toInt8.toInt32))]) ++ own_s f48 [(.int ((XT.ushrL (p3 &&& (281474976710655 : Int64)) (40 : Int32)).toInt32.toInt8.toInt32)), (.int ((XT.ushrL (p3 &&& (281474976710655 : Int64)) (32 : Int32)).toInt32.toInt8.toInt32)), (.int ((XT.ushrL (p3 &&& (281474976710655 : Int64)) (24 : Int32)).toInt32.toInt8.toInt32)), (.int ((XT.ushrL (p3 &&& (281474976710655 : Int64)) (16 : Int32)).toInt32.toInt8.toInt32)), (.int ((XT.ushrL (p3 &&& (281474976710655 : Int64)) (8 : Int32)).toInt32.toInt8.toInt32)), (.int ((XT.ushrL (p3 &&& (281474976710655 : Int64)) (0 : Int32)).toInt32.toInt8.toInt32))]) ++ own_s fb (own_fl mm ((XT.ushr p5 (16 : Int32)).toInt8.toInt32) ((XT.ushr p5 (8 : Int32)).toInt8.toInt32))).length ≤ (9 + mm) := by
                have q := own_sl fb (own_fl mm ((XT.ushr p5 (16 : Int32)).toInt8.toInt32) ((XT.ushr p5 (8 : Int32)).toInt8.toInt32))
                rw [List.length_append]
                simp only [List.length_cons, List.length_nil, own_fll] at q z3 ⊢
                omega
              have z5 : (((((([] : List Value) ++ own_s f8 [(.int ((XT.ushrL (p1 &&& (255 : Int32)).toInt64 (0 : Int32)).toInt32.toInt8.toInt32))]) ++ own_s f16 [(.int ((XT.ushrL (p2 &&& (65535 : Int32)).toInt64 (8 : Int32)).toInt32.toInt8.toInt32)), (.int ((XT.ushrL (p2 &&& (65535 : Int32)).toInt64 (0 : Int32)).toInt32.toInt8.toInt32))]) ++ own_s f48 [(.int ((XT.ushrL (p3 &&& (281474976710655 : Int64)) (40 : Int32)).toInt32.toInt8.toInt32)), (.int ((XT.ushrL (p3 &&& (281474976710655 : Int64)) (32 : Int32)).toInt32.toInt8.toInt32)), (.int ((XT.ushrL (p3 &&& (281474976710655 : Int64)) (24 : Int32)).toInt32.toInt8.toInt32)), (.int ((XT.ushrL (p3 &&& (281474976710655 : Int64)) (16 : Int32)).toInt32.toInt8.toInt32)), (.int ((XT.ushrL (p3 &&& (281474976710655 : Int64)) (8 : Int32)).toInt32.toInt8.toInt32)), (.int ((XT.ushrL (p3 &&& (281474976710655 : Int64)) (0 : Int32)).toInt32.toInt8.toInt32))]) ++ own_s fb (own_fl mm ((XT.ushr p5 (16 : Int32)).toInt8.toInt32) ((XT.ushr p5 (8 : Int32)).toInt8.toInt32))) ++ own_s f24 [(.int ((XT.ushrL (p4 &&& (16777215 : Int32)).toInt64 (16 : Int32)).toInt32.toInt8.toInt32)), (.int ((XT.ushrL (p4 &&& (16777215 : Int32)).toInt64 (8 : Int32)).toInt32.toInt8.toInt32)), (.int ((XT.ushrL (p4 &&& (16777215 : Int32)).toInt64 (0 : Int32)).toInt32.toInt8.toInt32))]).length ≤ (12 + mm) := by
                have q := own_sl f24 [(.int ((XT.ushrL (p4 &&& (16777215 : Int32)).toInt64 (16 : Int32)).toInt32.toInt8.toInt32)), (.int ((XT.ushrL (p4 &&& (16777215 : Int32)).toInt64 (8 : Int32)).toInt32.toInt8.toInt32)), (.int ((XT.ushrL (p4 &&& (16777215 : Int32)).toInt64 (0 : Int32)).toInt32.toInt8.toInt32))]
                rw [List.length_append]
                simp only [List.length_cons, List.length_nil, own_fll] at q z4 ⊢
                omega
              refine B.astore 157 rfl at_155 rfl #[.val (.int p1), .val (.int p2), .val (.long p3), .second, .val (.int p4), .val (.int p5), .val (.int p6), .val (.int f8), .val (.int f16), .val (.int f48), .val (.int fb), .val (.int f24), .val (.int (p1 &&& (255 : Int32))), .val (.int (p2 &&& (65535 : Int32))), .val (.long (p3 &&& (281474976710655 : Int64))), .second, .val (.int (p4 &&& (16777215 : Int32))), .val (.int (Int32.ofNat mm)), .val (.int (((XT.ushr p5 (8 : Int32))).toInt8.toInt32)), .val (.int (((XT.ushr p5 (16 : Int32))).toInt8.toInt32)), .val (.ref fi), .val (.ref wo), .unset, .unset, .unset, .unset, .unset, .unset] rfl ?_
              refine B.iload 159 rfl at_157 rfl ?_
              have J159 : ∀ (hj1 : Heap) (bj1 : Addr), h0.size ≤ bj1 → fi ≠ bj1 → Ary Z hj1 fi .byte (own_fl mm ((XT.ushr p5 (16 : Int32)).toInt8.toInt32) ((XT.ushr p5 (8 : Int32)).toInt8.toInt32)) → Wout Z hj1 wo bj1 (([] : List Value) ++ own_s f8 [(.int ((XT.ushrL (p1 &&& (255 : Int32)).toInt64 (0 : Int32)).toInt32.toInt8.toInt32))]) 64 → B.G hj1 4 466 (mkF m 170 #[.val (.int p1), .val (.int p2), .val (.long p3), .second, .val (.int p4), .val (.int p5), .val (.int p6), .val (.int f8), .val (.int f16), .val (.int f48), .val (.int fb), .val (.int f24), .val (.int (p1 &&& (255 : Int32))), .val (.int (p2 &&& (65535 : Int32))), .val (.long (p3 &&& (281474976710655 : Int64))), .second, .val (.int (p4 &&& (16777215 : Int32))), .val (.int (Int32.ofNat mm)), .val (.int (((XT.ushr p5 (8 : Int32))).toInt8.toInt32)), .val (.int (((XT.ushr p5 (16 : Int32))).toInt8.toInt32)), .val (.ref fi), .val (.ref wo), .unset, .unset, .unset, .unset, .unset, .unset] []) := by
                intro hj1 bj1 gj1 nj1 Aj1 H1
                refine B.iload 172 rfl at_170 rfl ?_
                have J172 : ∀ (hj2 : Heap) (bj2 : Addr), h0.size ≤ bj2 → fi ≠ bj2 → Ary Z hj2 fi .byte (own_fl mm ((XT.ushr p5 (16 : Int32)).toInt8.toInt32) ((XT.ushr p5 (8 : Int32)).toInt8.toInt32)) → Wout Z hj2 wo bj2 ((([] : List Value) ++ own_s f8 [(.int ((XT.ushrL (p1 &&& (255 : Int32)).toInt64 (0 : Int32)).toInt32.toInt8.toInt32))]) ++ own_s f16 [(.int ((XT.ushrL (p2 &&& (65535 : Int32)).toInt64 (8 : Int32)).toInt32.toInt8.toInt32)), (.int ((XT.ushrL (p2 &&& (65535 : Int32)).toInt64 (0 : Int32)).toInt32.toInt8.toInt32))]) 64 → B.G hj2 5 738 (mkF m 183 #[.val (.int p1), .val (.int p2), .val (.long p3), .second, .val (.int p4), .val (.int p5), .val (.int p6), .val (.int f8), .val (.int f16), .val (.int f48), .val (.int fb), .val (.int f24), .val (.int (p1 &&& (255 : Int32))), .val (.int (p2 &&& (65535 : Int32))), .val (.long (p3 &&& (281474976710655 : Int64))), .second, .val (.int (p4 &&& (16777215 : Int32))), .val (.int (Int32.ofNat mm)), .val (.int (((XT.ushr p5 (8 : Int32))).toInt8.toInt32)), .val (.int (((XT.ushr p5 (16 : Int32))).toInt8.toInt32)), .val (.ref fi), .val (.ref wo), .unset, .unset, .unset, .unset, .unset, .unset] []) := by
                  intro hj2 bj2 gj2 nj2 Aj2 H2
                  refine B.iload 185 rfl at_183 rfl ?_
                  have J185 : ∀ (hj3 : Heap) (bj3 : Addr), h0.size ≤ bj3 → fi ≠ bj3 → Ary Z hj3 fi .byte (own_fl mm ((XT.ushr p5 (16 : Int32)).toInt8.toInt32) ((XT.ushr p5 (8 : Int32)).toInt8.toInt32)) → Wout Z hj3 wo bj3 (((([] : List Value) ++ own_s f8 [(.int ((XT.ushrL (p1 &&& (255 : Int32)).toInt64 (0 : Int32)).toInt32.toInt8.toInt32))]) ++ own_s f16 [(.int ((XT.ushrL (p2 &&& (65535 : Int32)).toInt64 (8 : Int32)).toInt32.toInt8.toInt32)), (.int ((XT.ushrL (p2 &&& (65535 : Int32)).toInt64 (0 : Int32)).toInt32.toInt8.toInt32))]) ++ own_s f48 [(.int ((XT.ushrL (p3 &&& (281474976710655 : Int64)) (40 : Int32)).toInt32.toInt8.toInt32)), (.int ((XT.ushrL (p3 &&& (281474976710655 : Int64)) (32 : Int32)).toInt32.toInt8.toInt32)), (.int ((XT.ushrL (p3 &&& (281474976710655 : Int64)) (24 : Int32)).toInt32.toInt8.toInt32)), (.int ((XT.ushrL (p3 &&& (281474976710655 : Int64)) (16 : Int32)).toInt32.toInt8.toInt32)), (.int ((XT.ushrL (p3 &&& (281474976710655 : Int64)) (8 : Int32)).toInt32.toInt8.toInt32)), (.int ((XT.ushrL (p3 &&& (281474976710655 : Int64)) (0 : Int32)).toInt32.toInt8.toInt32))]) 64 → B.G hj3 6 1010 (mkF m 196 #[.val (.int p1), .val (.int p2), .val (.long p3), .second, .val (.int p4), .val (.int p5), .val (.int p6), .val (.int f8), .val (.int f16), .val (.int f48), .val (.int fb), .val (.int f24), .val (.int (p1 &&& (255 : Int32))), .val (.int (p2 &&& (65535 : Int32))), .val (.long (p3 &&& (281474976710655 : Int64))), .second, .val (.int (p4 &&& (16777215 : Int32))), .val (.int (Int32.ofNat mm)), .val (.int (((XT.ushr p5 (8 : Int32))).toInt8.toInt32)), .val (.int (((XT.ushr p5 (16 : Int32))).toInt8.toInt32)), .val (.ref fi), .val (.ref wo), .unset, .unset, .unset, .unset, .unset, .unset] []) := by
                    intro hj3 bj3 gj3 nj3 Aj3 H3
                    refine B.iload 198 rfl at_196 rfl ?_
                    have J198 : ∀ (hj4 : Heap) (bj4 : Addr) (N4 : Nat), N4 ≤ 136 → h0.size ≤ bj4 → fi ≠ bj4 → Ary Z hj4 fi .byte (own_fl mm ((XT.ushr p5 (16 : Int32)).toInt8.toInt32) ((XT.ushr p5 (8 : Int32)).toInt8.toInt32)) → Wout Z hj4 wo bj4 ((((([] : List Value) ++ own_s f8 [(.int ((XT.ushrL (p1 &&& (255 : Int32)).toInt64 (0 : Int32)).toInt32.toInt8.toInt32))]) ++ own_s f16 [(.int ((XT.ushrL (p2 &&& (65535 : Int32)).toInt64 (8 : Int32)).toInt32.toInt8.toInt32)), (.int ((XT.ushrL (p2 &&& (65535 : Int32)).toInt64 (0 : Int32)).toInt32.toInt8.toInt32))]) ++ own_s f48 [(.int ((XT.ushrL (p3 &&& (281474976710655 : Int64)) (40 : Int32)).toInt32.toInt8.toInt32)), (.int ((XT.ushrL (p3 &&& (281474976710655 : Int64)) (32 : Int32)).toInt32.toInt8.toInt32)), (.int ((XT.ushrL (p3 &&& (281474976710655 : Int64)) (24 : Int32)).toInt32.toInt8.toInt32)), (.int ((XT.ushrL (p3 &&& (281474976710655 : Int64)) (16 : Int32)).toInt32.toInt8.toInt32)), (.int ((XT.ushrL (p3 &&& (281474976710655 : Int64)) (8 : Int32)).toInt32.toInt8.toInt32)), (.int ((XT.ushrL (p3 &&& (281474976710655 : Int64)) (0 : Int32)).toInt32.toInt8.toInt32))]) ++ own_s fb (own_fl mm ((XT.ushr p5 (16 : Int32)).toInt8.toInt32) ((XT.ushr p5 (8 : Int32)).toInt8.toInt32))) N4 → B.G hj4 7 1282 (mkF m 209 #[.val (.int p1), .val (.int p2), .val (.long p3), .second, .val (.int p4), .val (.int p5), .val (.int p6), .val (.int f8), .val (.int f16), .val (.int f48), .val (.int fb), .val (.int f24), .val (.int (p1 &&& (255 : Int32))), .val (.int (p2 &&& (65535 : Int32))), .val (.long (p3 &&& (281474976710655 : Int64))), .second, .val (.int (p4 &&& (16777215 : Int32))), .val (.int (Int32.ofNat mm)), .val (.int (((XT.ushr p5 (8 : Int32))).toInt8.toInt32)), .val (.int (((XT.ushr p5 (16 : Int32))).toInt8.toInt32)), .val (.ref fi), .val (.ref wo), .unset, .unset, .unset, .unset, .unset, .unset] []) := by
                      intro hj4 bj4 N4 hN4 gj4 nj4 Aj4 H4
                      refine B.iload 211 rfl at_209 rfl ?_
                      have J211 : ∀ (hj5 : Heap) (bj5 : Addr) (N5 : Nat), N5 ≤ 272 → h0.size ≤ bj5 → fi ≠ bj5 → Ary Z hj5 fi .byte (own_fl mm ((XT.ushr p5 (16 : Int32)).toInt8.toInt32) ((XT.ushr p5 (8 : Int32)).toInt8.toInt32)) → Wout Z hj5 wo bj5 (((((([] : List Value) ++ own_s f8 [(.int ((XT.ushrL (p1 &&& (255 : Int32)).toInt64 (0 : Int32)).toInt32.toInt8.toInt32))]) ++ own_s f16 [(.int ((XT.ushrL (p2 &&& (65535 : Int32)).toInt64 (8 : Int32)).toInt32.toInt8.toInt32)), (.int ((XT.ushrL (p2 &&& (65535 : Int32)).toInt64 (0 : Int32)).toInt32.toInt8.toInt32))]) ++ own_s f48 [(.int ((XT.ushrL (p3 &&& (281474976710655 : Int64)) (40 : Int32)).toInt32.toInt8.toInt32)), (.int ((XT.ushrL (p3 &&& (281474976710655 : Int64)) (32 : Int32)).toInt32.toInt8.toInt32)), (.int ((XT.ushrL (p3 &&& (281474976710655 : Int64)) (24 : Int32)).toInt32.toInt8.toInt32)), (.int ((XT.ushrL (p3 &&& (281474976710655 : Int64)) (16 : Int32)).toInt32.toInt8.toInt32)), (.int ((XT.ushrL (p3 &&& (281474976710655 : Int64)) (8 : Int32)).toInt32.toInt8.toInt32)), (.int ((XT.ushrL (p3 &&& (281474976710655 : Int64)) (0 : Int32)).toInt32.toInt8.toInt32))]) ++ own_s fb (own_fl mm ((XT.ushr p5 (16 : Int32)).toInt8.toInt32) ((XT.ushr p5 (8 : Int32)).toInt8.toInt32))) ++ own_s f24 [(.int ((XT.ushrL (p4 &&& (16777215 : Int32)).toInt64 (16 : Int32)).toInt32.toInt8.toInt32)), (.int ((XT.ushrL (p4 &&& (16777215 : Int32)).toInt64 (8 : Int32)).toInt32.toInt8.toInt32)), (.int ((XT.ushrL (p4 &&& (16777215 : Int32)).toInt64 (0 : Int32)).toInt32.toInt8.toInt32))]) N5 → B.G hj5 8 1554 (mkF m 222 #[.val (.int p1), .val (.int p2), .val (.long p3), .second, .val (.int p4), .val (.int p5), .val (.int p6), .val (.int f8), .val (.int f16), .val (.int f48), .val (.int fb), .val (.int f24), .val (.int (p1 &&& (255 : Int32))), .val (.int (p2 &&& (65535 : Int32))), .val (.long (p3 &&& (281474976710655 : Int64))), .second, .val (.int (p4 &&& (16777215 : Int32))), .val (.int (Int32.ofNat mm)), .val (.int (((XT.ushr p5 (8 : Int32))).toInt8.toInt32)), .val (.int (((XT.ushr p5 (16 : Int32))).toInt8.toInt32)), .val (.ref fi), .val (.ref wo), .unset, .unset, .unset, .unset, .unset, .unset] []) := by
                        intro hj5 bj5 N5 hN5 gj5 nj5 Aj5 H5
                        refine B.aload 224 rfl at_222 rfl rfl ?_
                        have hsz : h0.size ≤ hj5.size := Nat.le_trans g_fi (Nat.le_of_lt Aj5.lt)
                        refine B.callV 227 rfl at_224 (wd hw 22 rfl) (wd hw 23 rfl) (wd hw 25 rfl) (wd hw 24 rfl) (wd hw 6 rfl) (wd hw 26 rfl) (by decide) H5.ex [] [] (rm_tb l Z a0 hw wo bj5 (((((([] : List Value) ++ own_s f8 [(.int ((XT.ushrL (p1 &&& (255 : Int32)).toInt64 (0 : Int32)).toInt32.toInt8.toInt32))]) ++ own_s f16 [(.int ((XT.ushrL (p2 &&& (65535 : Int32)).toInt64 (8 : Int32)).toInt32.toInt8.toInt32)), (.int ((XT.ushrL (p2 &&& (65535 : Int32)).toInt64 (0 : Int32)).toInt32.toInt8.toInt32))]) ++ own_s f48 [(.int ((XT.ushrL (p3 &&& (281474976710655 : Int64)) (40 : Int32)).toInt32.toInt8.toInt32)), (.int ((XT.ushrL (p3 &&& (281474976710655 : Int64)) (32 : Int32)).toInt32.toInt8.toInt32)), (.int ((XT.ushrL (p3 &&& (281474976710655 : Int64)) (24 : Int32)).toInt32.toInt8.toInt32)), (.int ((XT.ushrL (p3 &&& (281474976710655 : Int64)) (16 : Int32)).toInt32.toInt8.toInt32)), (.int ((XT.ushrL (p3 &&& (281474976710655 : Int64)) (8 : Int32)).toInt32.toInt8.toInt32)), (.int ((XT.ushrL (p3 &&& (281474976710655 : Int64)) (0 : Int32)).toInt32.toInt8.toInt32))]) ++ own_s fb (own_fl mm ((XT.ushr p5 (16 : Int32)).toInt8.toInt32) ((XT.ushr p5 (8 : Int32)).toInt8.toInt32))) ++ own_s f24 [(.int ((XT.ushrL (p4 &&& (16777215 : Int32)).toInt64 (16 : Int32)).toInt32.toInt8.toInt32)), (.int ((XT.ushrL (p4 &&& (16777215 : Int32)).toInt64 (8 : Int32)).toInt32.toInt8.toInt32)), (.int ((XT.ushrL (p4 &&& (16777215 : Int32)).toInt64 (0 : Int32)).toInt32.toInt8.toInt32))]) N5 hj5 H5 (Nat.le_trans hN5 (by decide)) (by omega)) rfl rfl pd____B rfl rfl 0 rfl (by decide) (by decide) (by decide) (by decide) (fun _ q => nomatch q) ?_
                        rintro _ h4 K4 ⟨r, rfl, gr, Ar⟩
                        show B.G h4 9 1693 (mkF m 227 #[.val (.int p1), .val (.int p2), .val (.long p3), .second, .val (.int p4), .val (.int p5), .val (.int p6), .val (.int f8), .val (.int f16), .val (.int f48), .val (.int fb), .val (.int f24), .val (.int (p1 &&& (255 : Int32))), .val (.int (p2 &&& (65535 : Int32))), .val (.long (p3 &&& (281474976710655 : Int64))), .second, .val (.int (p4 &&& (16777215 : Int32))), .val (.int (Int32.ofNat mm)), .val (.int (((XT.ushr p5 (8 : Int32))).toInt8.toInt32)), .val (.int (((XT.ushr p5 (16 : Int32))).toInt8.toInt32)), .val (.ref fi), .val (.ref wo), .unset, .unset, .unset, .unset, .unset, .unset] [(.ref r)])
                        have H4 := H5.keep K4 nin0 nin0
                        have nwr : wo ≠ r := fun q => absurd H5.ltw (by rw [q]; exact Nat.not_lt.mpr gr)
                        have nbr : bj5 ≠ r := fun q => absurd H5.ltb (by rw [q]; exact Nat.not_lt.mpr gr)
                        have gr0 : h0.size ≤ r := Nat.le_trans hsz gr
                        refine B.astore 229 rfl at_227 rfl #[.val (.int p1), .val (.int p2), .val (.long p3), .second, .val (.int p4), .val (.int p5), .val (.int p6), .val (.int f8), .val (.int f16), .val (.int f48), .val (.int fb), .val (.int f24), .val (.int (p1 &&& (255 : Int32))), .val (.int (p2 &&& (65535 : Int32))), .val (.long (p3 &&& (281474976710655 : Int64))), .second, .val (.int (p4 &&& (16777215 : Int32))), .val (.int (Int32.ofNat mm)), .val (.int (((XT.ushr p5 (8 : Int32))).toInt8.toInt32)), .val (.int (((XT.ushr p5 (16 : Int32))).toInt8.toInt32)), .val (.ref fi), .val (.ref wo), .val (.ref r), .unset, .unset, .unset, .unset, .unset] rfl ?_
                        refine B.iload 231 rfl at_229 rfl ?_
                        have J231 : B.G h4 9 1693 (mkF m 239 #[.val (.int p1), .val (.int p2), .val (.long p3), .second, .val (.int p4), .val (.int p5), .val (.int p6), .val (.int f8), .val (.int f16), .val (.int f48), .val (.int fb), .val (.int f24), .val (.int (p1 &&& (255 : Int32))), .val (.int (p2 &&& (65535 : Int32))), .val (.long (p3 &&& (281474976710655 : Int64))), .second, .val (.int (p4 &&& (16777215 : Int32))), .val (.int (Int32.ofNat mm)), .val (.int (((XT.ushr p5 (8 : Int32))).toInt8.toInt32)), .val (.int (((XT.ushr p5 (16 : Int32))).toInt8.toInt32)), .val (.ref fi), .val (.ref wo), .val (.ref r), .unset, .unset, .unset, .unset, .unset] [(.int (Int32.ofNat (([] : List Value) ++ own_s f8 [(.int ((XT.ushrL (p1 &&& (255 : Int32)).toInt64 (0 : Int32)).toInt32.toInt8.toInt32))]).length))]) := by
                          refine B.iload 241 rfl at_239 rfl ?_
                          have J241 : B.G h4 9 1693 (mkF m 249 #[.val (.int p1), .val (.int p2), .val (.long p3), .second, .val (.int p4), .val (.int p5), .val (.int p6), .val (.int f8), .val (.int f16), .val (.int f48), .val (.int fb), .val (.int f24), .val (.int (p1 &&& (255 : Int32))), .val (.int (p2 &&& (65535 : Int32))), .val (.long (p3 &&& (281474976710655 : Int64))), .second, .val (.int (p4 &&& (16777215 : Int32))), .val (.int (Int32.ofNat mm)), .val (.int (((XT.ushr p5 (8 : Int32))).toInt8.toInt32)), .val (.int (((XT.ushr p5 (16 : Int32))).toInt8.toInt32)), .val (.ref fi), .val (.ref wo), .val (.ref r), .unset, .unset, .unset, .unset, .unset] [(.int (Int32.ofNat (own_s f16 [(.int ((XT.ushrL (p2 &&& (65535 : Int32)).toInt64 (8 : Int32)).toInt32.toInt8.toInt32)), (.int ((XT.ushrL (p2 &&& (65535 : Int32)).toInt64 (0 : Int32)).toInt32.toInt8.toInt32))]).length)), (.int (Int32.ofNat (([] : List Value) ++ own_s f8 [(.int ((XT.ushrL (p1 &&& (255 : Int32)).toInt64 (0 : Int32)).toInt32.toInt8.toInt32))]).length))]) := by
                            refine B.iadd 250 rfl at_249 ?_
                            refine B.topI (Int32.ofNat ((([] : List Value) ++ own_s f8 [(.int ((XT.ushrL (p1 &&& (255 : Int32)).toInt64 (0 : Int32)).toInt32.toInt8.toInt32))]) ++ own_s f16 [(.int ((XT.ushrL (p2 &&& (65535 : Int32)).toInt64 (8 : Int32)).toInt32.toInt8.toInt32)), (.int ((XT.ushrL (p2 &&& (65535 : Int32)).toInt64 (0 : Int32)).toInt32.toInt8.toInt32))]).length) (own_app (([] : List Value) ++ own_s f8 [(.int ((XT.ushrL (p1 &&& (255 : Int32)).toInt64 (0 : Int32)).toInt32.toInt8.toInt32))]) _) ?_
                            refine B.iload 252 rfl at_250 rfl ?_
                            have J252 : B.G h4 9 1693 (mkF m 261 #[.val (.int p1), .val (.int p2), .val (.long p3), .second, .val (.int p4), .val (.int p5), .val (.int p6), .val (.int f8), .val (.int f16), .val (.int f48), .val (.int fb), .val (.int f24), .val (.int (p1 &&& (255 : Int32))), .val (.int (p2 &&& (65535 : Int32))), .val (.long (p3 &&& (281474976710655 : Int64))), .second, .val (.int (p4 &&& (16777215 : Int32))), .val (.int (Int32.ofNat mm)), .val (.int (((XT.ushr p5 (8 : Int32))).toInt8.toInt32)), .val (.int (((XT.ushr p5 (16 : Int32))).toInt8.toInt32)), .val (.ref fi), .val (.ref wo), .val (.ref r), .unset, .unset, .unset, .unset, .unset] [(.int (Int32.ofNat (own_s f48 [(.int ((XT.ushrL (p3 &&& (281474976710655 : Int64)) (40 : Int32)).toInt32.toInt8.toInt32)), (.int ((XT.ushrL (p3 &&& (281474976710655 : Int64)) (32 : Int32)).toInt32.toInt8.toInt32)), (.int ((XT.ushrL (p3 &&& (281474976710655 : Int64)) (24 : Int32)).toInt32.toInt8.toInt32)), (.int ((XT.ushrL (p3 &&& (281474976710655 : Int64)) (16 : Int32)).toInt32.toInt8.toInt32)), (.int ((XT.ushrL (p3 &&& (281474976710655 : Int64)) (8 : Int32)).toInt32.toInt8.toInt32)), (.int ((XT.ushrL (p3 &&& (281474976710655 : Int64)) (0 : Int32)).toInt32.toInt8.toInt32))]).length)), (.int (Int32.ofNat ((([] : List Value) ++ own_s f8 [(.int ((XT.ushrL (p1 &&& (255 : Int32)).toInt64 (0 : Int32)).toInt32.toInt8.toInt32))]) ++ own_s f16 [(.int ((XT.ushrL (p2 &&& (65535 : Int32)).toInt64 (8 : Int32)).toInt32.toInt8.toInt32)), (.int ((XT.ushrL (p2 &&& (65535 : Int32)).toInt64 (0 : Int32)).toInt32.toInt8.toInt32))]).length))]) := by
                              refine B.iadd 262 rfl at_261 ?_
                              refine B.topI (Int32.ofNat (((([] : List Value) ++ own_s f8 [(.int ((XT.ushrL (p1 &&& (255 : Int32)).toInt64 (0 : Int32)).toInt32.toInt8.toInt32))]) ++ own_s f16 [(.int ((XT.ushrL (p2 &&& (65535 : Int32)).toInt64 (8 : Int32)).toInt32.toInt8.toInt32)), (.int ((XT.ushrL (p2 &&& (65535 : Int32)).toInt64 (0 : Int32)).toInt32.toInt8.toInt32))]) ++ own_s f48 [(.int ((XT.ushrL (p3 &&& (281474976710655 : Int64)) (40 : Int32)).toInt32.toInt8.toInt32)), (.int ((XT.ushrL (p3 &&& (281474976710655 : Int64)) (32 : Int32)).toInt32.toInt8.toInt32)), (.int ((XT.ushrL (p3 &&& (281474976710655 : Int64)) (24 : Int32)).toInt32.toInt8.toInt32)), (.int ((XT.ushrL (p3 &&& (281474976710655 : Int64)) (16 : Int32)).toInt32.toInt8.toInt32)), (.int ((XT.ushrL (p3 &&& (281474976710655 : Int64)) (8 : Int32)).toInt32.toInt8.toInt32)), (.int ((XT.ushrL (p3 &&& (281474976710655 : Int64)) (0 : Int32)).toInt32.toInt8.toInt32))]).length) (own_app ((([] : List Value) ++ own_s f8 [(.int ((XT.ushrL (p1 &&& (255 : Int32)).toInt64 (0 : Int32)).toInt32.toInt8.toInt32))]) ++ own_s f16 [(.int ((XT.ushrL (p2 &&& (65535 : Int32)).toInt64 (8 : Int32)).toInt32.toInt8.toInt32)), (.int ((XT.ushrL (p2 &&& (65535 : Int32)).toInt64 (0 : Int32)).toInt32.toInt8.toInt32))]) _) ?_
                              refine B.iload 264 rfl at_262 rfl ?_
                              have J264 : B.G h4 9 1693 (mkF m 273 #[.val (.int p1), .val (.int p2), .val (.long p3), .second, .val (.int p4), .val (.int p5), .val (.int p6), .val (.int f8), .val (.int f16), .val (.int f48), .val (.int fb), .val (.int f24), .val (.int (p1 &&& (255 : Int32))), .val (.int (p2 &&& (65535 : Int32))), .val (.long (p3 &&& (281474976710655 : Int64))), .second, .val (.int (p4 &&& (16777215 : Int32))), .val (.int (Int32.ofNat mm)), .val (.int (((XT.ushr p5 (8 : Int32))).toInt8.toInt32)), .val (.int (((XT.ushr p5 (16 : Int32))).toInt8.toInt32)), .val (.ref fi), .val (.ref wo), .val (.ref r), .unset, .unset, .unset, .unset, .unset] [(.int (Int32.ofNat (own_s fb (own_fl mm ((XT.ushr p5 (16 : Int32)).toInt8.toInt32) ((XT.ushr p5 (8 : Int32)).toInt8.toInt32))).length)), (.int (Int32.ofNat (((([] : List Value) ++ own_s f8 [(.int ((XT.ushrL (p1 &&& (255 : Int32)).toInt64 (0 : Int32)).toInt32.toInt8.toInt32))]) ++ own_s f16 [(.int ((XT.ushrL (p2 &&& (65535 : Int32)).toInt64 (8 : Int32)).toInt32.toInt8.toInt32)), (.int ((XT.ushrL (p2 &&& (65535 : Int32)).toInt64 (0 : Int32)).toInt32.toInt8.toInt32))]) ++ own_s f48 [(.int ((XT.ushrL (p3 &&& (281474976710655 : Int64)) (40 : Int32)).toInt32.toInt8.toInt32)), (.int ((XT.ushrL (p3 &&& (281474976710655 : Int64)) (32 : Int32)).toInt32.toInt8.toInt32)), (.int ((XT.ushrL (p3 &&& (281474976710655 : Int64)) (24 : Int32)).toInt32.toInt8.toInt32)), (.int ((XT.ushrL (p3 &&& (281474976710655 : Int64)) (16 : Int32)).toInt32.toInt8.toInt32)), (.int ((XT.ushrL (p3 &&& (281474976710655 : Int64)) (8 : Int32)).toInt32.toInt8.toInt32)), (.int ((XT.ushrL (p3 &&& (281474976710655 : Int64)) (0 : Int32)).toInt32.toInt8.toInt32))]).length))]) := by
                                refine B.iadd 274 rfl at_273 ?_
                                refine B.topI (Int32.ofNat ((((([] : List Value) ++ own_s f8 [(.int ((XT.ushrL (p1 &&& (255 : Int32)).toInt64 (0 : Int32)).toInt32.toInt8.toInt32))]) ++ own_s f16 [(.int ((XT.ushrL (p2 &&& (65535 : Int32)).toInt64 (8 : Int32)).toInt32.toInt8.toInt32)), (.int ((XT.ushrL (p2 &&& (65535 : Int32)).toInt64 (0 : Int32)).toInt32.toInt8.toInt32))]) ++ own_s f48 [(.int ((XT.ushrL (p3 &&& (281474976710655 : Int64)) (40 : Int32)).toInt32.toInt8.toInt32)), (.int ((XT.ushrL (p3 &&& (281474976710655 : Int64)) (32 : Int32)).toInt32.toInt8.toInt32)), (.int ((XT.ushrL (p3 &&& (281474976710655 : Int64)) (24 : Int32)).toInt32.toInt8.toInt32)), (.int ((XT.ushrL (p3 &&& (281474976710655 : Int64)) (16 : Int32)).toInt32.toInt8.toInt32)), (.int ((XT.ushrL (p3 &&& (281474976710655 : Int64)) (8 : Int32)).toInt32.toInt8.toInt32)), (.int ((XT.ushrL (p3 &&& (281474976710655 : Int64)) (0 : Int32)).toInt32.toInt8.toInt32))]) ++ own_s fb (own_fl mm ((XT.ushr p5 (16 : Int32)).toInt8.toInt32) ((XT.ushr p5 (8 : Int32)).toInt8.toInt32))).length) (own_app (((([] : List Value) ++ own_s f8 [(.int ((XT.ushrL (p1 &&& (255 : Int32)).toInt64 (0 : Int32)).toInt32.toInt8.toInt32))]) ++ own_s f16 [(.int ((XT.ushrL (p2 &&& (65535 : Int32)).toInt64 (8 : Int32)).toInt32.toInt8.toInt32)), (.int ((XT.ushrL (p2 &&& (65535 : Int32)).toInt64 (0 : Int32)).toInt32.toInt8.toInt32))]) ++ own_s f48 [(.int ((XT.ushrL (p3 &&& (281474976710655 : Int64)) (40 : Int32)).toInt32.toInt8.toInt32)), (.int ((XT.ushrL (p3 &&& (281474976710655 : Int64)) (32 : Int32)).toInt32.toInt8.toInt32)), (.int ((XT.ushrL (p3 &&& (281474976710655 : Int64)) (24 : Int32)).toInt32.toInt8.toInt32)), (.int ((XT.ushrL (p3 &&& (281474976710655 : Int64)) (16 : Int32)).toInt32.toInt8.toInt32)), (.int ((XT.ushrL (p3 &&& (281474976710655 : Int64)) (8 : Int32)).toInt32.toInt8.toInt32)), (.int ((XT.ushrL (p3 &&& (281474976710655 : Int64)) (0 : Int32)).toInt32.toInt8.toInt32))]) _) ?_
                                refine B.iload 276 rfl at_274 rfl ?_
                                have J276 : B.G h4 9 1693 (mkF m 284 #[.val (.int p1), .val (.int p2), .val (.long p3), .second, .val (.int p4), .val (.int p5), .val (.int p6), .val (.int f8), .val (.int f16), .val (.int f48), .val (.int fb), .val (.int f24), .val (.int (p1 &&& (255 : Int32))), .val (.int (p2 &&& (65535 : Int32))), .val (.long (p3 &&& (281474976710655 : Int64))), .second, .val (.int (p4 &&& (16777215 : Int32))), .val (.int (Int32.ofNat mm)), .val (.int (((XT.ushr p5 (8 : Int32))).toInt8.toInt32)), .val (.int (((XT.ushr p5 (16 : Int32))).toInt8.toInt32)), .val (.ref fi), .val (.ref wo), .val (.ref r), .unset, .unset, .unset, .unset, .unset] [(.int (Int32.ofNat (own_s f24 [(.int ((XT.ushrL (p4 &&& (16777215 : Int32)).toInt64 (16 : Int32)).toInt32.toInt8.toInt32)), (.int ((XT.ushrL (p4 &&& (16777215 : Int32)).toInt64 (8 : Int32)).toInt32.toInt8.toInt32)), (.int ((XT.ushrL (p4 &&& (16777215 : Int32)).toInt64 (0 : Int32)).toInt32.toInt8.toInt32))]).length)), (.int (Int32.ofNat ((((([] : List Value) ++ own_s f8 [(.int ((XT.ushrL (p1 &&& (255 : Int32)).toInt64 (0 : Int32)).toInt32.toInt8.toInt32))]) ++ own_s f16 [(.int ((XT.ushrL (p2 &&& (65535 : Int32)).toInt64 (8 : Int32)).toInt32.toInt8.toInt32)), (.int ((XT.ushrL (p2 &&& (65535 : Int32)).toInt64 (0 : Int32)).toInt32.toInt8.toInt32))]) ++ own_s f48 [(.int ((XT.ushrL (p3 &&& (281474976710655 : Int64)) (40 : Int32)).toInt32.toInt8.toInt32)), (.int ((XT.ushrL (p3 &&& (281474976710655 : Int64)) (32 : Int32)).toInt32.toInt8.toInt32)), (.int ((XT.ushrL (p3 &&& (281474976710655 : Int64)) (24 : Int32)).toInt32.toInt8.toInt32)), (.int ((XT.ushrL (p3 &&& (281474976710655 : Int64)) (16 : Int32)).toInt32.toInt8.toInt32)), (.int ((XT.ushrL (p3 &&& (281474976710655 : Int64)) (8 : Int32)).toInt32.toInt8.toInt32)), (.int ((XT.ushrL (p3 &&& (281474976710655 : Int64)) (0 : Int32)).toInt32.toInt8.toInt32))]) ++ own_s fb (own_fl mm ((XT.ushr p5 (16 : Int32)).toInt8.toInt32) ((XT.ushr p5 (8 : Int32)).toInt8.toInt32))).length))]) := by
                                  refine B.iadd 285 rfl at_284 ?_
                                  refine B.topI (Int32.ofNat (((((([] : List Value) ++ own_s f8 [(.int ((XT.ushrL (p1 &&& (255 : Int32)).toInt64 (0 : Int32)).toInt32.toInt8.toInt32))]) ++ own_s f16 [(.int ((XT.ushrL (p2 &&& (65535 : Int32)).toInt64 (8 : Int32)).toInt32.toInt8.toInt32)), (.int ((XT.ushrL (p2 &&& (65535 : Int32)).toInt64 (0 : Int32)).toInt32.toInt8.toInt32))]) ++ own_s f48 [(.int ((XT.ushrL (p3 &&& (281474976710655 : Int64)) (40 : Int32)).toInt32.toInt8.toInt32)), (.int ((XT.ushrL (p3 &&& (281474976710655 : Int64)) (32 : Int32)).toInt32.toInt8.toInt32)), (.int ((XT.ushrL (p3 &&& (281474976710655 : Int64)) (24 : Int32)).toInt32.toInt8.toInt32)), (.int ((XT.ushrL (p3 &&& (281474976710655 : Int64)) (16 : Int32)).toInt32.toInt8.toInt32)), (.int ((XT.ushrL (p3 &&& (281474976710655 : Int64)) (8 : Int32)).toInt32.toInt8.toInt32)), (.int ((XT.ushrL (p3 &&& (281474976710655 : Int64)) (0 : Int32)).toInt32.toInt8.toInt32))]) ++ own_s fb (own_fl mm ((XT.ushr p5 (16 : Int32)).toInt8.toInt32) ((XT.ushr p5 (8 : Int32)).toInt8.toInt32))) ++ own_s f24 [(.int ((XT.ushrL (p4 &&& (16777215 : Int32)).toInt64 (16 : Int32)).toInt32.toInt8.toInt32)), (.int ((XT.ushrL (p4 &&& (16777215 : Int32)).toInt64 (8 : Int32)).toInt32.toInt8.toInt32)), (.int ((XT.ushrL (p4 &&& (16777215 : Int32)).toInt64 (0 : Int32)).toInt32.toInt8.toInt32))]).length) (own_app ((((([] : List Value) ++ own_s f8 [(.int ((XT.ushrL (p1 &&& (255 : Int32)).toInt64 (0 : Int32)).toInt32.toInt8.toInt32))]) ++ own_s f16 [(.int ((XT.ushrL (p2 &&& (65535 : Int32)).toInt64 (8 : Int32)).toInt32.toInt8.toInt32)), (.int ((XT.ushrL (p2 &&& (65535 : Int32)).toInt64 (0 : Int32)).toInt32.toInt8.toInt32))]) ++ own_s f48 [(.int ((XT.ushrL (p3 &&& (281474976710655 : Int64)) (40 : Int32)).toInt32.toInt8.toInt32)), (.int ((XT.ushrL (p3 &&& (281474976710655 : Int64)) (32 : Int32)).toInt32.toInt8.toInt32)), (.int ((XT.ushrL (p3 &&& (281474976710655 : Int64)) (24 : Int32)).toInt32.toInt8.toInt32)), (.int ((XT.ushrL (p3 &&& (281474976710655 : Int64)) (16 : Int32)).toInt32.toInt8.toInt32)), (.int ((XT.ushrL (p3 &&& (281474976710655 : Int64)) (8 : Int32)).toInt32.toInt8.toInt32)), (.int ((XT.ushrL (p3 &&& (281474976710655 : Int64)) (0 : Int32)).toInt32.toInt8.toInt32))]) ++ own_s fb (own_fl mm ((XT.ushr p5 (16 : Int32)).toInt8.toInt32) ((XT.ushr p5 (8 : Int32)).toInt8.toInt32))) _) ?_
                                  refine B.istore 287 rfl at_285 #[.val (.int p1), .val (.int p2), .val (.long p3), .second, .val (.int p4), .val (.int p5), .val (.int p6), .val (.int f8), .val (.int f16), .val (.int f48), .val (.int fb), .val (.int f24), .val (.int (p1 &&& (255 : Int32))), .val (.int (p2 &&& (65535 : Int32))), .val (.long (p3 &&& (281474976710655 : Int64))), .second, .val (.int (p4 &&& (16777215 : Int32))), .val (.int (Int32.ofNat mm)), .val (.int (((XT.ushr p5 (8 : Int32))).toInt8.toInt32)), .val (.int (((XT.ushr p5 (16 : Int32))).toInt8.toInt32)), .val (.ref fi), .val (.ref wo), .val (.ref r), .val (.int (Int32.ofNat (((((([] : List Value) ++ own_s f8 [(.int ((XT.ushrL (p1 &&& (255 : Int32)).toInt64 (0 : Int32)).toInt32.toInt8.toInt32))]) ++ own_s f16 [(.int ((XT.ushrL (p2 &&& (65535 : Int32)).toInt64 (8 : Int32)).toInt32.toInt8.toInt32)), (.int ((XT.ushrL (p2 &&& (65535 : Int32)).toInt64 (0 : Int32)).toInt32.toInt8.toInt32))]) ++ own_s f48 [(.int ((XT.ushrL (p3 &&& (281474976710655 : Int64)) (40 : Int32)).toInt32.toInt8.toInt32)), (.int ((XT.ushrL (p3 &&& (281474976710655 : Int64)) (32 : Int32)).toInt32.toInt8.toInt32)), (.int ((XT.ushrL (p3 &&& (281474976710655 : Int64)) (24 : Int32)).toInt32.toInt8.toInt32)), (.int ((XT.ushrL (p3 &&& (281474976710655 : Int64)) (16 : Int32)).toInt32.toInt8.toInt32)), (.int ((XT.ushrL (p3 &&& (281474976710655 : Int64)) (8 : Int32)).toInt32.toInt8.toInt32)), (.int ((XT.ushrL (p3 &&& (281474976710655 : Int64)) (0 : Int32)).toInt32.toInt8.toInt32))]) ++ own_s fb (own_fl mm ((XT.ushr p5 (16 : Int32)).toInt8.toInt32) ((XT.ushr p5 (8 : Int32)).toInt8.toInt32))) ++ own_s f24 [(.int ((XT.ushrL (p4 &&& (16777215 : Int32)).toInt64 (16 : Int32)).toInt32.toInt8.toInt32)), (.int ((XT.ushrL (p4 &&& (16777215 : Int32)).toInt64 (8 : Int32)).toInt32.toInt8.toInt32)), (.int ((XT.ushrL (p4 &&& (16777215 : Int32)).toInt64 (0 : Int32)).toInt32.toInt8.toInt32))]).length)), .unset, .unset, .unset, .unset] rfl ?_
                                  refine B.aload 289 rfl at_287 rfl rfl ?_
                                  refine B.arrlen 290 rfl at_289 Ar (Int32.ofNat (((((([] : List Value) ++ own_s f8 [(.int ((XT.ushrL (p1 &&& (255 : Int32)).toInt64 (0 : Int32)).toInt32.toInt8.toInt32))]) ++ own_s f16 [(.int ((XT.ushrL (p2 &&& (65535 : Int32)).toInt64 (8 : Int32)).toInt32.toInt8.toInt32)), (.int ((XT.ushrL (p2 &&& (65535 : Int32)).toInt64 (0 : Int32)).toInt32.toInt8.toInt32))]) ++ own_s f48 [(.int ((XT.ushrL (p3 &&& (281474976710655 : Int64)) (40 : Int32)).toInt32.toInt8.toInt32)), (.int ((XT.ushrL (p3 &&& (281474976710655 : Int64)) (32 : Int32)).toInt32.toInt8.toInt32)), (.int ((XT.ushrL (p3 &&& (281474976710655 : Int64)) (24 : Int32)).toInt32.toInt8.toInt32)), (.int ((XT.ushrL (p3 &&& (281474976710655 : Int64)) (16 : Int32)).toInt32.toInt8.toInt32)), (.int ((XT.ushrL (p3 &&& (281474976710655 : Int64)) (8 : Int32)).toInt32.toInt8.toInt32)), (.int ((XT.ushrL (p3 &&& (281474976710655 : Int64)) (0 : Int32)).toInt32.toInt8.toInt32))]) ++ own_s fb (own_fl mm ((XT.ushr p5 (16 : Int32)).toInt8.toInt32) ((XT.ushr p5 (8 : Int32)).toInt8.toInt32))) ++ own_s f24 [(.int ((XT.ushrL (p4 &&& (16777215 : Int32)).toInt64 (16 : Int32)).toInt32.toInt8.toInt32)), (.int ((XT.ushrL (p4 &&& (16777215 : Int32)).toInt64 (8 : Int32)).toInt32.toInt8.toInt32)), (.int ((XT.ushrL (p4 &&& (16777215 : Int32)).toInt64 (0 : Int32)).toInt32.toInt8.toInt32))]).length) rfl ?_
                                  refine B.iload 292 rfl at_290 rfl ?_
                                  refine B.icmp_eq 297 295 rfl (by decide) rfl at_292 (fun c292 => ?_) (fun c292 => ?_)
                                  · refine B.iconst 298 rfl (1 : Int32) at_297 rfl ?_
                                    refine B.istore 300 rfl at_298 #[.val (.int p1), .val (.int p2), .val (.long p3), .second, .val (.int p4), .val (.int p5), .val (.int p6), .val (.int f8), .val (.int f16), .val (.int f48), .val (.int fb), .val (.int f24), .val (.int (p1 &&& (255 : Int32))), .val (.int (p2 &&& (65535 : Int32))), .val (.long (p3 &&& (281474976710655 : Int64))), .second, .val (.int (p4 &&& (16777215 : Int32))), .val (.int (Int32.ofNat mm)), .val (.int (((XT.ushr p5 (8 : Int32))).toInt8.toInt32)), .val (.int (((XT.ushr p5 (16 : Int32))).toInt8.toInt32)), .val (.ref fi), .val (.ref wo), .val (.ref r), .val (.int (Int32.ofNat (((((([] : List Value) ++ own_s f8 [(.int ((XT.ushrL (p1 &&& (255 : Int32)).toInt64 (0 : Int32)).toInt32.toInt8.toInt32))]) ++ own_s f16 [(.int ((XT.ushrL (p2 &&& (65535 : Int32)).toInt64 (8 : Int32)).toInt32.toInt8.toInt32)), (.int ((XT.ushrL (p2 &&& (65535 : Int32)).toInt64 (0 : Int32)).toInt32.toInt8.toInt32))]) ++ own_s f48 [(.int ((XT.ushrL (p3 &&& (281474976710655 : Int64)) (40 : Int32)).toInt32.toInt8.toInt32)), (.int ((XT.ushrL (p3 &&& (281474976710655 : Int64)) (32 : Int32)).toInt32.toInt8.toInt32)), (.int ((XT.ushrL (p3 &&& (281474976710655 : Int64)) (24 : Int32)).toInt32.toInt8.toInt32)), (.int ((XT.ushrL (p3 &&& (281474976710655 : Int64)) (16 : Int32)).toInt32.toInt8.toInt32)), (.int ((XT.ushrL (p3 &&& (281474976710655 : Int64)) (8 : Int32)).toInt32.toInt8.toInt32)), (.int ((XT.ushrL (p3 &&& (281474976710655 : Int64)) (0 : Int32)).toInt32.toInt8.toInt32))]) ++ own_s fb (own_fl mm ((XT.ushr p5 (16 : Int32)).toInt8.toInt32) ((XT.ushr p5 (8 : Int32)).toInt8.toInt32))) ++ own_s f24 [(.int ((XT.ushrL (p4 &&& (16777215 : Int32)).toInt64 (16 : Int32)).toInt32.toInt8.toInt32)), (.int ((XT.ushrL (p4 &&& (16777215 : Int32)).toInt64 (8 : Int32)).toInt32.toInt8.toInt32)), (.int ((XT.ushrL (p4 &&& (16777215 : Int32)).toInt64 (0 : Int32)).toInt32.toInt8.toInt32))]).length)), .val (.int (1 : Int32)), .unset, .unset, .unset] rfl ?_
                                    refine B.iconst 301 rfl (0 : Int32) at_300 rfl ?_
                                    refine B.istore 303 rfl at_301 #[.val (.int p1), .val (.int p2), .val (.long p3), .second, .val (.int p4), .val (.int p5), .val (.int p6), .val (.int f8), .val (.int f16), .val (.int f48), .val (.int fb), .val (.int f24), .val (.int (p1 &&& (255 : Int32))), .val (.int (p2 &&& (65535 : Int32))), .val (.long (p3 &&& (281474976710655 : Int64))), .second, .val (.int (p4 &&& (16777215 : Int32))), .val (.int (Int32.ofNat mm)), .val (.int (((XT.ushr p5 (8 : Int32))).toInt8.toInt32)), .val (.int (((XT.ushr p5 (16 : Int32))).toInt8.toInt32)), .val (.ref fi), .val (.ref wo), .val (.ref r), .val (.int (Int32.ofNat (((((([] : List Value) ++ own_s f8 [(.int ((XT.ushrL (p1 &&& (255 : Int32)).toInt64 (0 : Int32)).toInt32.toInt8.toInt32))]) ++ own_s f16 [(.int ((XT.ushrL (p2 &&& (65535 : Int32)).toInt64 (8 : Int32)).toInt32.toInt8.toInt32)), (.int ((XT.ushrL (p2 &&& (65535 : Int32)).toInt64 (0 : Int32)).toInt32.toInt8.toInt32))]) ++ own_s f48 [(.int ((XT.ushrL (p3 &&& (281474976710655 : Int64)) (40 : Int32)).toInt32.toInt8.toInt32)), (.int ((XT.ushrL (p3 &&& (281474976710655 : Int64)) (32 : Int32)).toInt32.toInt8.toInt32)), (.int ((XT.ushrL (p3 &&& (281474976710655 : Int64)) (24 : Int32)).toInt32.toInt8.toInt32)), (.int ((XT.ushrL (p3 &&& (281474976710655 : Int64)) (16 : Int32)).toInt32.toInt8.toInt32)), (.int ((XT.ushrL (p3 &&& (281474976710655 : Int64)) (8 : Int32)).toInt32.toInt8.toInt32)), (.int ((XT.ushrL (p3 &&& (281474976710655 : Int64)) (0 : Int32)).toInt32.toInt8.toInt32))]) ++ own_s fb (own_fl mm ((XT.ushr p5 (16 : Int32)).toInt8.toInt32) ((XT.ushr p5 (8 : Int32)).toInt8.toInt32))) ++ own_s f24 [(.int ((XT.ushrL (p4 &&& (16777215 : Int32)).toInt64 (16 : Int32)).toInt32.toInt8.toInt32)), (.int ((XT.ushrL (p4 &&& (16777215 : Int32)).toInt64 (8 : Int32)).toInt32.toInt8.toInt32)), (.int ((XT.ushrL (p4 &&& (16777215 : Int32)).toInt64 (0 : Int32)).toInt32.toInt8.toInt32))]).length)), .val (.int (1 : Int32)), .val (.int (0 : Int32)), .unset, .unset] rfl ?_
                                    refine B.iload 305 rfl at_303 rfl ?_
                                    show B.G h4 9 1693 (mkF m 305 #[.val (.int p1), .val (.int p2), .val (.long p3), .second, .val (.int p4), .val (.int p5), .val (.int p6), .val (.int f8), .val (.int f16), .val (.int f48), .val (.int fb), .val (.int f24), .val (.int (p1 &&& (255 : Int32))), .val (.int (p2 &&& (65535 : Int32))), .val (.long (p3 &&& (281474976710655 : Int64))), .second, .val (.int (p4 &&& (16777215 : Int32))), .val (.int (Int32.ofNat mm)), .val (.int (((XT.ushr p5 (8 : Int32))).toInt8.toInt32)), .val (.int (((XT.ushr p5 (16 : Int32))).toInt8.toInt32)), .val (.ref fi), .val (.ref wo), .val (.ref r), .val (.int (Int32.ofNat (((((([] : List Value) ++ own_s f8 [(.int ((XT.ushrL (p1 &&& (255 : Int32)).toInt64 (0 : Int32)).toInt32.toInt8.toInt32))]) ++ own_s f16 [(.int ((XT.ushrL (p2 &&& (65535 : Int32)).toInt64 (8 : Int32)).toInt32.toInt8.toInt32)), (.int ((XT.ushrL (p2 &&& (65535 : Int32)).toInt64 (0 : Int32)).toInt32.toInt8.toInt32))]) ++ own_s f48 [(.int ((XT.ushrL (p3 &&& (281474976710655 : Int64)) (40 : Int32)).toInt32.toInt8.toInt32)), (.int ((XT.ushrL (p3 &&& (281474976710655 : Int64)) (32 : Int32)).toInt32.toInt8.toInt32)), (.int ((XT.ushrL (p3 &&& (281474976710655 : Int64)) (24 : Int32)).toInt32.toInt8.toInt32)), (.int ((XT.ushrL (p3 &&& (281474976710655 : Int64)) (16 : Int32)).toInt32.toInt8.toInt32)), (.int ((XT.ushrL (p3 &&& (281474976710655 : Int64)) (8 : Int32)).toInt32.toInt8.toInt32)), (.int ((XT.ushrL (p3 &&& (281474976710655 : Int64)) (0 : Int32)).toInt32.toInt8.toInt32))]) ++ own_s fb (own_fl mm ((XT.ushr p5 (16 : Int32)).toInt8.toInt32) ((XT.ushr p5 (8 : Int32)).toInt8.toInt32))) ++ own_s f24 [(.int ((XT.ushrL (p4 &&& (16777215 : Int32)).toInt64 (16 : Int32)).toInt32.toInt8.toInt32)), (.int ((XT.ushrL (p4 &&& (16777215 : Int32)).toInt64 (8 : Int32)).toInt32.toInt8.toInt32)), (.int ((XT.ushrL (p4 &&& (16777215 : Int32)).toInt64 (0 : Int32)).toInt32.toInt8.toInt32))]).length)), .val (.int (1 : Int32)), .val (.int (Int32.ofNat ([] : List Value).length)), .unset, .unset] [(.int f8)])
                                    have J305 : B.G h4 9 1693 (mkF m 340 #[.val (.int p1), .val (.int p2), .val (.long p3), .second, .val (.int p4), .val (.int p5), .val (.int p6), .val (.int f8), .val (.int f16), .val (.int f48), .val (.int fb), .val (.int f24), .val (.int (p1 &&& (255 : Int32))), .val (.int (p2 &&& (65535 : Int32))), .val (.long (p3 &&& (281474976710655 : Int64))), .second, .val (.int (p4 &&& (16777215 : Int32))), .val (.int (Int32.ofNat mm)), .val (.int (((XT.ushr p5 (8 : Int32))).toInt8.toInt32)), .val (.int (((XT.ushr p5 (16 : Int32))).toInt8.toInt32)), .val (.ref fi), .val (.ref wo), .val (.ref r), .val (.int (Int32.ofNat (((((([] : List Value) ++ own_s f8 [(.int ((XT.ushrL (p1 &&& (255 : Int32)).toInt64 (0 : Int32)).toInt32.toInt8.toInt32))]) ++ own_s f16 [(.int ((XT.ushrL (p2 &&& (65535 : Int32)).toInt64 (8 : Int32)).toInt32.toInt8.toInt32)), (.int ((XT.ushrL (p2 &&& (65535 : Int32)).toInt64 (0 : Int32)).toInt32.toInt8.toInt32))]) ++ own_s f48 [(.int ((XT.ushrL (p3 &&& (281474976710655 : Int64)) (40 : Int32)).toInt32.toInt8.toInt32)), (.int ((XT.ushrL (p3 &&& (281474976710655 : Int64)) (32 : Int32)).toInt32.toInt8.toInt32)), (.int ((XT.ushrL (p3 &&& (281474976710655 : Int64)) (24 : Int32)).toInt32.toInt8.toInt32)), (.int ((XT.ushrL (p3 &&& (281474976710655 : Int64)) (16 : Int32)).toInt32.toInt8.toInt32)), (.int ((XT.ushrL (p3 &&& (281474976710655 : Int64)) (8 : Int32)).toInt32.toInt8.toInt32)), (.int ((XT.ushrL (p3 &&& (281474976710655 : Int64)) (0 : Int32)).toInt32.toInt8.toInt32))]) ++ own_s fb (own_fl mm ((XT.ushr p5 (16 : Int32)).toInt8.toInt32) ((XT.ushr p5 (8 : Int32)).toInt8.toInt32))) ++ own_s f24 [(.int ((XT.ushrL (p4 &&& (16777215 : Int32)).toInt64 (16 : Int32)).toInt32.toInt8.toInt32)), (.int ((XT.ushrL (p4 &&& (16777215 : Int32)).toInt64 (8 : Int32)).toInt32.toInt8.toInt32)), (.int ((XT.ushrL (p4 &&& (16777215 : Int32)).toInt64 (0 : Int32)).toInt32.toInt8.toInt32))]).length)), .val (.int (1 : Int32)), .val (.int (Int32.ofNat (([] : List Value) ++ own_s f8 [(.int ((XT.ushrL (p1 &&& (255 : Int32)).toInt64 (0 : Int32)).toInt32.toInt8.toInt32))]).length)), .unset, .unset] []) := by
                                      refine B.iload 342 rfl at_340 rfl ?_
                                      have J342 : B.G h4 9 1693 (mkF m 394 #[.val (.int p1), .val (.int p2), .val (.long p3), .second, .val (.int p4), .val (.int p5), .val (.int p6), .val (.int f8), .val (.int f16), .val (.int f48), .val (.int fb), .val (.int f24), .val (.int (p1 &&& (255 : Int32))), .val (.int (p2 &&& (65535 : Int32))), .val (.long (p3 &&& (281474976710655 : Int64))), .second, .val (.int (p4 &&& (16777215 : Int32))), .val (.int (Int32.ofNat mm)), .val (.int (((XT.ushr p5 (8 : Int32))).toInt8.toInt32)), .val (.int (((XT.ushr p5 (16 : Int32))).toInt8.toInt32)), .val (.ref fi), .val (.ref wo), .val (.ref r), .val (.int (Int32.ofNat (((((([] : List Value) ++ own_s f8 [(.int ((XT.ushrL (p1 &&& (255 : Int32)).toInt64 (0 : Int32)).toInt32.toInt8.toInt32))]) ++ own_s f16 [(.int ((XT.ushrL (p2 &&& (65535 : Int32)).toInt64 (8 : Int32)).toInt32.toInt8.toInt32)), (.int ((XT.ushrL (p2 &&& (65535 : Int32)).toInt64 (0 : Int32)).toInt32.toInt8.toInt32))]) ++ own_s f48 [(.int ((XT.ushrL (p3 &&& (281474976710655 : Int64)) (40 : Int32)).toInt32.toInt8.toInt32)), (.int ((XT.ushrL (p3 &&& (281474976710655 : Int64)) (32 : Int32)).toInt32.toInt8.toInt32)), (.int ((XT.ushrL (p3 &&& (281474976710655 : Int64)) (24 : Int32)).toInt32.toInt8.toInt32)), (.int ((XT.ushrL (p3 &&& (281474976710655 : Int64)) (16 : Int32)).toInt32.toInt8.toInt32)), (.int ((XT.ushrL (p3 &&& (281474976710655 : Int64)) (8 : Int32)).toInt32.toInt8.toInt32)), (.int ((XT.ushrL (p3 &&& (281474976710655 : Int64)) (0 : Int32)).toInt32.toInt8.toInt32))]) ++ own_s fb (own_fl mm ((XT.ushr p5 (16 : Int32)).toInt8.toInt32) ((XT.ushr p5 (8 : Int32)).toInt8.toInt32))) ++ own_s f24 [(.int ((XT.ushrL (p4 &&& (16777215 : Int32)).toInt64 (16 : Int32)).toInt32.toInt8.toInt32)), (.int ((XT.ushrL (p4 &&& (16777215 : Int32)).toInt64 (8 : Int32)).toInt32.toInt8.toInt32)), (.int ((XT.ushrL (p4 &&& (16777215 : Int32)).toInt64 (0 : Int32)).toInt32.toInt8.toInt32))]).length)), .val (.int (1 : Int32)), .val (.int (Int32.ofNat ((([] : List Value) ++ own_s f8 [(.int ((XT.ushrL (p1 &&& (255 : Int32)).toInt64 (0 : Int32)).toInt32.toInt8.toInt32))]) ++ own_s f16 [(.int ((XT.ushrL (p2 &&& (65535 : Int32)).toInt64 (8 : Int32)).toInt32.toInt8.toInt32)), (.int ((XT.ushrL (p2 &&& (65535 : Int32)).toInt64 (0 : Int32)).toInt32.toInt8.toInt32))]).length)), .unset, .unset] []) := by
                                        refine B.iload 396 rfl at_394 rfl ?_
                                        have J396 : B.G h4 9 1693 (mkF m 511 #[.val (.int p1), .val (.int p2), .val (.long p3), .second, .val (.int p4), .val (.int p5), .val (.int p6), .val (.int f8), .val (.int f16), .val (.int f48), .val (.int fb), .val (.int f24), .val (.int (p1 &&& (255 : Int32))), .val (.int (p2 &&& (65535 : Int32))), .val (.long (p3 &&& (281474976710655 : Int64))), .second, .val (.int (p4 &&& (16777215 : Int32))), .val (.int (Int32.ofNat mm)), .val (.int (((XT.ushr p5 (8 : Int32))).toInt8.toInt32)), .val (.int (((XT.ushr p5 (16 : Int32))).toInt8.toInt32)), .val (.ref fi), .val (.ref wo), .val (.ref r), .val (.int (Int32.ofNat (((((([] : List Value) ++ own_s f8 [(.int ((XT.ushrL (p1 &&& (255 : Int32)).toInt64 (0 : Int32)).toInt32.toInt8.toInt32))]) ++ own_s f16 [(.int ((XT.ushrL (p2 &&& (65535 : Int32)).toInt64 (8 : Int32)).toInt32.toInt8.toInt32)), (.int ((XT.ushrL (p2 &&& (65535 : Int32)).toInt64 (0 : Int32)).toInt32.toInt8.toInt32))]) ++ own_s f48 [(.int ((XT.ushrL (p3 &&& (281474976710655 : Int64)) (40 : Int32)).toInt32.toInt8.toInt32)), (.int ((XT.ushrL (p3 &&& (281474976710655 : Int64)) (32 : Int32)).toInt32.toInt8.toInt32)), (.int ((XT.ushrL (p3 &&& (281474976710655 : Int64)) (24 : Int32)).toInt32.toInt8.toInt32)), (.int ((XT.ushrL (p3 &&& (281474976710655 : Int64)) (16 : Int32)).toInt32.toInt8.toInt32)), (.int ((XT.ushrL (p3 &&& (281474976710655 : Int64)) (8 : Int32)).toInt32.toInt8.toInt32)), (.int ((XT.ushrL (p3 &&& (281474976710655 : Int64)) (0 : Int32)).toInt32.toInt8.toInt32))]) ++ own_s fb (own_fl mm ((XT.ushr p5 (16 : Int32)).toInt8.toInt32) ((XT.ushr p5 (8 : Int32)).toInt8.toInt32))) ++ own_s f24 [(.int ((XT.ushrL (p4 &&& (16777215 : Int32)).toInt64 (16 : Int32)).toInt32.toInt8.toInt32)), (.int ((XT.ushrL (p4 &&& (16777215 : Int32)).toInt64 (8 : Int32)).toInt32.toInt8.toInt32)), (.int ((XT.ushrL (p4 &&& (16777215 : Int32)).toInt64 (0 : Int32)).toInt32.toInt8.toInt32))]).length)), .val (.int (1 : Int32)), .val (.int (Int32.ofNat (((([] : List Value) ++ own_s f8 [(.int ((XT.ushrL (p1 &&& (255 : Int32)).toInt64 (0 : Int32)).toInt32.toInt8.toInt32))]) ++ own_s f16 [(.int ((XT.ushrL (p2 &&& (65535 : Int32)).toInt64 (8 : Int32)).toInt32.toInt8.toInt32)), (.int ((XT.ushrL (p2 &&& (65535 : Int32)).toInt64 (0 : Int32)).toInt32.toInt8.toInt32))]) ++ own_s f48 [(.int ((XT.ushrL (p3 &&& (281474976710655 : Int64)) (40 : Int32)).toInt32.toInt8.toInt32)), (.int ((XT.ushrL (p3 &&& (281474976710655 : Int64)) (32 : Int32)).toInt32.toInt8.toInt32)), (.int ((XT.ushrL (p3 &&& (281474976710655 : Int64)) (24 : Int32)).toInt32.toInt8.toInt32)), (.int ((XT.ushrL (p3 &&& (281474976710655 : Int64)) (16 : Int32)).toInt32.toInt8.toInt32)), (.int ((XT.ushrL (p3 &&& (281474976710655 : Int64)) (8 : Int32)).toInt32.toInt8.toInt32)), (.int ((XT.ushrL (p3 &&& (281474976710655 : Int64)) (0 : Int32)).toInt32.toInt8.toInt32))]).length)), .unset, .unset] []) := by
                                          refine B.iload 513 rfl at_511 rfl ?_
                                          have J513 : B.G h4 9 1693 (mkF m 619 #[.val (.int p1), .val (.int p2), .val (.long p3), .second, .val (.int p4), .val (.int p5), .val (.int p6), .val (.int f8), .val (.int f16), .val (.int f48), .val (.int fb), .val (.int f24), .val (.int (p1 &&& (255 : Int32))), .val (.int (p2 &&& (65535 : Int32))), .val (.long (p3 &&& (281474976710655 : Int64))), .second, .val (.int (p4 &&& (16777215 : Int32))), .val (.int (Int32.ofNat mm)), .val (.int (((XT.ushr p5 (8 : Int32))).toInt8.toInt32)), .val (.int (((XT.ushr p5 (16 : Int32))).toInt8.toInt32)), .val (.ref fi), .val (.ref wo), .val (.ref r), .val (.int (Int32.ofNat (((((([] : List Value) ++ own_s f8 [(.int ((XT.ushrL (p1 &&& (255 : Int32)).toInt64 (0 : Int32)).toInt32.toInt8.toInt32))]) ++ own_s f16 [(.int ((XT.ushrL (p2 &&& (65535 : Int32)).toInt64 (8 : Int32)).toInt32.toInt8.toInt32)), (.int ((XT.ushrL (p2 &&& (65535 : Int32)).toInt64 (0 : Int32)).toInt32.toInt8.toInt32))]) ++ own_s f48 [(.int ((XT.ushrL (p3 &&& (281474976710655 : Int64)) (40 : Int32)).toInt32.toInt8.toInt32)), (.int ((XT.ushrL (p3 &&& (281474976710655 : Int64)) (32 : Int32)).toInt32.toInt8.toInt32)), (.int ((XT.ushrL (p3 &&& (281474976710655 : Int64)) (24 : Int32)).toInt32.toInt8.toInt32)), (.int ((XT.ushrL (p3 &&& (281474976710655 : Int64)) (16 : Int32)).toInt32.toInt8.toInt32)), (.int ((XT.ushrL (p3 &&& (281474976710655 : Int64)) (8 : Int32)).toInt32.toInt8.toInt32)), (.int ((XT.ushrL (p3 &&& (281474976710655 : Int64)) (0 : Int32)).toInt32.toInt8.toInt32))]) ++ own_s fb (own_fl mm ((XT.ushr p5 (16 : Int32)).toInt8.toInt32) ((XT.ushr p5 (8 : Int32)).toInt8.toInt32))) ++ own_s f24 [(.int ((XT.ushrL (p4 &&& (16777215 : Int32)).toInt64 (16 : Int32)).toInt32.toInt8.toInt32)), (.int ((XT.ushrL (p4 &&& (16777215 : Int32)).toInt64 (8 : Int32)).toInt32.toInt8.toInt32)), (.int ((XT.ushrL (p4 &&& (16777215 : Int32)).toInt64 (0 : Int32)).toInt32.toInt8.toInt32))]).length)), .val (.int (1 : Int32)), .val (.int (Int32.ofNat ((((([] : List Value) ++ own_s f8 [(.int ((XT.ushrL (p1 &&& (255 : Int32)).toInt64 (0 : Int32)).toInt32.toInt8.toInt32))]) ++ own_s f16 [(.int ((XT.ushrL (p2 &&& (65535 : Int32)).toInt64 (8 : Int32)).toInt32.toInt8.toInt32)), (.int ((XT.ushrL (p2 &&& (65535 : Int32)).toInt64 (0 : Int32)).toInt32.toInt8.toInt32))]) ++ own_s f48 [(.int ((XT.ushrL (p3 &&& (281474976710655 : Int64)) (40 : Int32)).toInt32.toInt8.toInt32)), (.int ((XT.ushrL (p3 &&& (281474976710655 : Int64)) (32 : Int32)).toInt32.toInt8.toInt32)), (.int ((XT.ushrL (p3 &&& (281474976710655 : Int64)) (24 : Int32)).toInt32.toInt8.toInt32)), (.int ((XT.ushrL (p3 &&& (281474976710655 : Int64)) (16 : Int32)).toInt32.toInt8.toInt32)), (.int ((XT.ushrL (p3 &&& (281474976710655 : Int64)) (8 : Int32)).toInt32.toInt8.toInt32)), (.int ((XT.ushrL (p3 &&& (281474976710655 : Int64)) (0 : Int32)).toInt32.toInt8.toInt32))]) ++ own_s fb (own_fl mm ((XT.ushr p5 (16 : Int32)).toInt8.toInt32) ((XT.ushr p5 (8 : Int32)).toInt8.toInt32))).length)), .unset, .unset] []) := by
                                            refine B.iload 621 rfl at_619 rfl ?_
                                            have J621 : B.G h4 9 1693 (mkF m 690 #[.val (.int p1), .val (.int p2), .val (.long p3), .second, .val (.int p4), .val (.int p5), .val (.int p6), .val (.int f8), .val (.int f16), .val (.int f48), .val (.int fb), .val (.int f24), .val (.int (p1 &&& (255 : Int32))), .val (.int (p2 &&& (65535 : Int32))), .val (.long (p3 &&& (281474976710655 : Int64))), .second, .val (.int (p4 &&& (16777215 : Int32))), .val (.int (Int32.ofNat mm)), .val (.int (((XT.ushr p5 (8 : Int32))).toInt8.toInt32)), .val (.int (((XT.ushr p5 (16 : Int32))).toInt8.toInt32)), .val (.ref fi), .val (.ref wo), .val (.ref r), .val (.int (Int32.ofNat (((((([] : List Value) ++ own_s f8 [(.int ((XT.ushrL (p1 &&& (255 : Int32)).toInt64 (0 : Int32)).toInt32.toInt8.toInt32))]) ++ own_s f16 [(.int ((XT.ushrL (p2 &&& (65535 : Int32)).toInt64 (8 : Int32)).toInt32.toInt8.toInt32)), (.int ((XT.ushrL (p2 &&& (65535 : Int32)).toInt64 (0 : Int32)).toInt32.toInt8.toInt32))]) ++ own_s f48 [(.int ((XT.ushrL (p3 &&& (281474976710655 : Int64)) (40 : Int32)).toInt32.toInt8.toInt32)), (.int ((XT.ushrL (p3 &&& (281474976710655 : Int64)) (32 : Int32)).toInt32.toInt8.toInt32)), (.int ((XT.ushrL (p3 &&& (281474976710655 : Int64)) (24 : Int32)).toInt32.toInt8.toInt32)), (.int ((XT.ushrL (p3 &&& (281474976710655 : Int64)) (16 : Int32)).toInt32.toInt8.toInt32)), (.int ((XT.ushrL (p3 &&& (281474976710655 : Int64)) (8 : Int32)).toInt32.toInt8.toInt32)), (.int ((XT.ushrL (p3 &&& (281474976710655 : Int64)) (0 : Int32)).toInt32.toInt8.toInt32))]) ++ own_s fb (own_fl mm ((XT.ushr p5 (16 : Int32)).toInt8.toInt32) ((XT.ushr p5 (8 : Int32)).toInt8.toInt32))) ++ own_s f24 [(.int ((XT.ushrL (p4 &&& (16777215 : Int32)).toInt64 (16 : Int32)).toInt32.toInt8.toInt32)), (.int ((XT.ushrL (p4 &&& (16777215 : Int32)).toInt64 (8 : Int32)).toInt32.toInt8.toInt32)), (.int ((XT.ushrL (p4 &&& (16777215 : Int32)).toInt64 (0 : Int32)).toInt32.toInt8.toInt32))]).length)), .val (.int (1 : Int32)), .val (.int (Int32.ofNat (((((([] : List Value) ++ own_s f8 [(.int ((XT.ushrL (p1 &&& (255 : Int32)).toInt64 (0 : Int32)).toInt32.toInt8.toInt32))]) ++ own_s f16 [(.int ((XT.ushrL (p2 &&& (65535 : Int32)).toInt64 (8 : Int32)).toInt32.toInt8.toInt32)), (.int ((XT.ushrL (p2 &&& (65535 : Int32)).toInt64 (0 : Int32)).toInt32.toInt8.toInt32))]) ++ own_s f48 [(.int ((XT.ushrL (p3 &&& (281474976710655 : Int64)) (40 : Int32)).toInt32.toInt8.toInt32)), (.int ((XT.ushrL (p3 &&& (281474976710655 : Int64)) (32 : Int32)).toInt32.toInt8.toInt32)), (.int ((XT.ushrL (p3 &&& (281474976710655 : Int64)) (24 : Int32)).toInt32.toInt8.toInt32)), (.int ((XT.ushrL (p3 &&& (281474976710655 : Int64)) (16 : Int32)).toInt32.toInt8.toInt32)), (.int ((XT.ushrL (p3 &&& (281474976710655 : Int64)) (8 : Int32)).toInt32.toInt8.toInt32)), (.int ((XT.ushrL (p3 &&& (281474976710655 : Int64)) (0 : Int32)).toInt32.toInt8.toInt32))]) ++ own_s fb (own_fl mm ((XT.ushr p5 (16 : Int32)).toInt8.toInt32) ((XT.ushr p5 (8 : Int32)).toInt8.toInt32))) ++ own_s f24 [(.int ((XT.ushrL (p4 &&& (16777215 : Int32)).toInt64 (16 : Int32)).toInt32.toInt8.toInt32)), (.int ((XT.ushrL (p4 &&& (16777215 : Int32)).toInt64 (8 : Int32)).toInt32.toInt8.toInt32)), (.int ((XT.ushrL (p4 &&& (16777215 : Int32)).toInt64 (0 : Int32)).toInt32.toInt8.toInt32))]).length)), .unset, .unset] []) := by
                                              refine B.iconst 691 rfl (0 : Int32) at_690 rfl ?_
                                              refine B.istore 693 rfl at_691 #[.val (.int p1), .val (.int p2), .val (.long p3), .second, .val (.int p4), .val (.int p5), .val (.int p6), .val (.int f8), .val (.int f16), .val (.int f48), .val (.int fb), .val (.int f24), .val (.int (p1 &&& (255 : Int32))), .val (.int (p2 &&& (65535 : Int32))), .val (.long (p3 &&& (281474976710655 : Int64))), .second, .val (.int (p4 &&& (16777215 : Int32))), .val (.int (Int32.ofNat mm)), .val (.int (((XT.ushr p5 (8 : Int32))).toInt8.toInt32)), .val (.int (((XT.ushr p5 (16 : Int32))).toInt8.toInt32)), .val (.ref fi), .val (.ref wo), .val (.ref r), .val (.int (Int32.ofNat (((((([] : List Value) ++ own_s f8 [(.int ((XT.ushrL (p1 &&& (255 : Int32)).toInt64 (0 : Int32)).toInt32.toInt8.toInt32))]) ++ own_s f16 [(.int ((XT.ushrL (p2 &&& (65535 : Int32)).toInt64 (8 : Int32)).toInt32.toInt8.toInt32)), (.int ((XT.ushrL (p2 &&& (65535 : Int32)).toInt64 (0 : Int32)).toInt32.toInt8.toInt32))]) ++ own_s f48 [(.int ((XT.ushrL (p3 &&& (281474976710655 : Int64)) (40 : Int32)).toInt32.toInt8.toInt32)), (.int ((XT.ushrL (p3 &&& (281474976710655 : Int64)) (32 : Int32)).toInt32.toInt8.toInt32)), (.int ((XT.ushrL (p3 &&& (281474976710655 : Int64)) (24 : Int32)).toInt32.toInt8.toInt32)), (.int ((XT.ushrL (p3 &&& (281474976710655 : Int64)) (16 : Int32)).toInt32.toInt8.toInt32)), (.int ((XT.ushrL (p3 &&& (281474976710655 : Int64)) (8 : Int32)).toInt32.toInt8.toInt32)), (.int ((XT.ushrL (p3 &&& (281474976710655 : Int64)) (0 : Int32)).toInt32.toInt8.toInt32))]) ++ own_s fb (own_fl mm ((XT.ushr p5 (16 : Int32)).toInt8.toInt32) ((XT.ushr p5 (8 : Int32)).toInt8.toInt32))) ++ own_s f24 [(.int ((XT.ushrL (p4 &&& (16777215 : Int32)).toInt64 (16 : Int32)).toInt32.toInt8.toInt32)), (.int ((XT.ushrL (p4 &&& (16777215 : Int32)).toInt64 (8 : Int32)).toInt32.toInt8.toInt32)), (.int ((XT.ushrL (p4 &&& (16777215 : Int32)).toInt64 (0 : Int32)).toInt32.toInt8.toInt32))]).length)), .val (.int (1 : Int32)), .val (.int (Int32.ofNat (((((([] : List Value) ++ own_s f8 [(.int ((XT.ushrL (p1 &&& (255 : Int32)).toInt64 (0 : Int32)).toInt32.toInt8.toInt32))]) ++ own_s f16 [(.int ((XT.ushrL (p2 &&& (65535 : Int32)).toInt64 (8 : Int32)).toInt32.toInt8.toInt32)), (.int ((XT.ushrL (p2 &&& (65535 : Int32)).toInt64 (0 : Int32)).toInt32.toInt8.toInt32))]) ++ own_s f48 [(.int ((XT.ushrL (p3 &&& (281474976710655 : Int64)) (40 : Int32)).toInt32.toInt8.toInt32)), (.int ((XT.ushrL (p3 &&& (281474976710655 : Int64)) (32 : Int32)).toInt32.toInt8.toInt32)), (.int ((XT.ushrL (p3 &&& (281474976710655 : Int64)) (24 : Int32)).toInt32.toInt8.toInt32)), (.int ((XT.ushrL (p3 &&& (281474976710655 : Int64)) (16 : Int32)).toInt32.toInt8.toInt32)), (.int ((XT.ushrL (p3 &&& (281474976710655 : Int64)) (8 : Int32)).toInt32.toInt8.toInt32)), (.int ((XT.ushrL (p3 &&& (281474976710655 : Int64)) (0 : Int32)).toInt32.toInt8.toInt32))]) ++ own_s fb (own_fl mm ((XT.ushr p5 (16 : Int32)).toInt8.toInt32) ((XT.ushr p5 (8 : Int32)).toInt8.toInt32))) ++ own_s f24 [(.int ((XT.ushrL (p4 &&& (16777215 : Int32)).toInt64 (16 : Int32)).toInt32.toInt8.toInt32)), (.int ((XT.ushrL (p4 &&& (16777215 : Int32)).toInt64 (8 : Int32)).toInt32.toInt8.toInt32)), (.int ((XT.ushrL (p4 &&& (16777215 : Int32)).toInt64 (0 : Int32)).toInt32.toInt8.toInt32))]).length)), .val (.int (0 : Int32)), .unset] rfl ?_
                                              refine B.iload 695 rfl at_693 rfl ?_
                                              refine B.if0_le 713 698 rfl (by decide) rfl at_695 (fun c695 => ?_) (fun c695 => ?_)
                                              · refine B.aload 715 rfl at_713 rfl rfl ?_
                                                refine B.callV 718 rfl at_715 (wd hw 22 rfl) (wd hw 23 rfl) (wd hw 25 rfl) (wd hw 24 rfl) (wd hw 6 rfl) (wd hw 26 rfl) (by decide) H4.ex [] [] (rm_tb l Z a0 hw wo bj5 (((((([] : List Value) ++ own_s f8 [(.int ((XT.ushrL (p1 &&& (255 : Int32)).toInt64 (0 : Int32)).toInt32.toInt8.toInt32))]) ++ own_s f16 [(.int ((XT.ushrL (p2 &&& (65535 : Int32)).toInt64 (8 : Int32)).toInt32.toInt8.toInt32)), (.int ((XT.ushrL (p2 &&& (65535 : Int32)).toInt64 (0 : Int32)).toInt32.toInt8.toInt32))]) ++ own_s f48 [(.int ((XT.ushrL (p3 &&& (281474976710655 : Int64)) (40 : Int32)).toInt32.toInt8.toInt32)), (.int ((XT.ushrL (p3 &&& (281474976710655 : Int64)) (32 : Int32)).toInt32.toInt8.toInt32)), (.int ((XT.ushrL (p3 &&& (281474976710655 : Int64)) (24 : Int32)).toInt32.toInt8.toInt32)), (.int ((XT.ushrL (p3 &&& (281474976710655 : Int64)) (16 : Int32)).toInt32.toInt8.toInt32)), (.int ((XT.ushrL (p3 &&& (281474976710655 : Int64)) (8 : Int32)).toInt32.toInt8.toInt32)), (.int ((XT.ushrL (p3 &&& (281474976710655 : Int64)) (0 : Int32)).toInt32.toInt8.toInt32))]) ++ own_s fb (own_fl mm ((XT.ushr p5 (16 : Int32)).toInt8.toInt32) ((XT.ushr p5 (8 : Int32)).toInt8.toInt32))) ++ own_s f24 [(.int ((XT.ushrL (p4 &&& (16777215 : Int32)).toInt64 (16 : Int32)).toInt32.toInt8.toInt32)), (.int ((XT.ushrL (p4 &&& (16777215 : Int32)).toInt64 (8 : Int32)).toInt32.toInt8.toInt32)), (.int ((XT.ushrL (p4 &&& (16777215 : Int32)).toInt64 (0 : Int32)).toInt32.toInt8.toInt32))]) N5 h4 H4 (Nat.le_trans hN5 (by decide)) (by omega)) rfl rfl pd____B rfl rfl 0 rfl (by decide) (by decide) (by decide) (by decide) (fun _ q => nomatch q) ?_
                                                rintro _ h6 K6 ⟨r2, rfl, gr2, Ar2⟩
                                                show B.G h6 10 1832 (mkF m 718 #[.val (.int p1), .val (.int p2), .val (.long p3), .second, .val (.int p4), .val (.int p5), .val (.int p6), .val (.int f8), .val (.int f16), .val (.int f48), .val (.int fb), .val (.int f24), .val (.int (p1 &&& (255 : Int32))), .val (.int (p2 &&& (65535 : Int32))), .val (.long (p3 &&& (281474976710655 : Int64))), .second, .val (.int (p4 &&& (16777215 : Int32))), .val (.int (Int32.ofNat mm)), .val (.int (((XT.ushr p5 (8 : Int32))).toInt8.toInt32)), .val (.int (((XT.ushr p5 (16 : Int32))).toInt8.toInt32)), .val (.ref fi), .val (.ref wo), .val (.ref r), .val (.int (Int32.ofNat (((((([] : List Value) ++ own_s f8 [(.int ((XT.ushrL (p1 &&& (255 : Int32)).toInt64 (0 : Int32)).toInt32.toInt8.toInt32))]) ++ own_s f16 [(.int ((XT.ushrL (p2 &&& (65535 : Int32)).toInt64 (8 : Int32)).toInt32.toInt8.toInt32)), (.int ((XT.ushrL (p2 &&& (65535 : Int32)).toInt64 (0 : Int32)).toInt32.toInt8.toInt32))]) ++ own_s f48 [(.int ((XT.ushrL (p3 &&& (281474976710655 : Int64)) (40 : Int32)).toInt32.toInt8.toInt32)), (.int ((XT.ushrL (p3 &&& (281474976710655 : Int64)) (32 : Int32)).toInt32.toInt8.toInt32)), (.int ((XT.ushrL (p3 &&& (281474976710655 : Int64)) (24 : Int32)).toInt32.toInt8.toInt32)), (.int ((XT.ushrL (p3 &&& (281474976710655 : Int64)) (16 : Int32)).toInt32.toInt8.toInt32)), (.int ((XT.ushrL (p3 &&& (281474976710655 : Int64)) (8 : Int32)).toInt32.toInt8.toInt32)), (.int ((XT.ushrL (p3 &&& (281474976710655 : Int64)) (0 : Int32)).toInt32.toInt8.toInt32))]) ++ own_s fb (own_fl mm ((XT.ushr p5 (16 : Int32)).toInt8.toInt32) ((XT.ushr p5 (8 : Int32)).toInt8.toInt32))) ++ own_s f24 [(.int ((XT.ushrL (p4 &&& (16777215 : Int32)).toInt64 (16 : Int32)).toInt32.toInt8.toInt32)), (.int ((XT.ushrL (p4 &&& (16777215 : Int32)).toInt64 (8 : Int32)).toInt32.toInt8.toInt32)), (.int ((XT.ushrL (p4 &&& (16777215 : Int32)).toInt64 (0 : Int32)).toInt32.toInt8.toInt32))]).length)), .val (.int (1 : Int32)), .val (.int (Int32.ofNat (((((([] : List Value) ++ own_s f8 [(.int ((XT.ushrL (p1 &&& (255 : Int32)).toInt64 (0 : Int32)).toInt32.toInt8.toInt32))]) ++ own_s f16 [(.int ((XT.ushrL (p2 &&& (65535 : Int32)).toInt64 (8 : Int32)).toInt32.toInt8.toInt32)), (.int ((XT.ushrL (p2 &&& (65535 : Int32)).toInt64 (0 : Int32)).toInt32.toInt8.toInt32))]) ++ own_s f48 [(.int ((XT.ushrL (p3 &&& (281474976710655 : Int64)) (40 : Int32)).toInt32.toInt8.toInt32)), (.int ((XT.ushrL (p3 &&& (281474976710655 : Int64)) (32 : Int32)).toInt32.toInt8.toInt32)), (.int ((XT.ushrL (p3 &&& (281474976710655 : Int64)) (24 : Int32)).toInt32.toInt8.toInt32)), (.int ((XT.ushrL (p3 &&& (281474976710655 : Int64)) (16 : Int32)).toInt32.toInt8.toInt32)), (.int ((XT.ushrL (p3 &&& (281474976710655 : Int64)) (8 : Int32)).toInt32.toInt8.toInt32)), (.int ((XT.ushrL (p3 &&& (281474976710655 : Int64)) (0 : Int32)).toInt32.toInt8.toInt32))]) ++ own_s fb (own_fl mm ((XT.ushr p5 (16 : Int32)).toInt8.toInt32) ((XT.ushr p5 (8 : Int32)).toInt8.toInt32))) ++ own_s f24 [(.int ((XT.ushrL (p4 &&& (16777215 : Int32)).toInt64 (16 : Int32)).toInt32.toInt8.toInt32)), (.int ((XT.ushrL (p4 &&& (16777215 : Int32)).toInt64 (8 : Int32)).toInt32.toInt8.toInt32)), (.int ((XT.ushrL (p4 &&& (16777215 : Int32)).toInt64 (0 : Int32)).toInt32.toInt8.toInt32))]).length)), .val (.int (0 : Int32)), .unset] [(.ref r2)])
                                                have nrr : r2 ≠ r := fun q => absurd Ar.lt (by rw [← q]; exact Nat.not_lt.mpr gr2)
                                                refine B.astore 720 rfl at_718 rfl #[.val (.int p1), .val (.int p2), .val (.long p3), .second, .val (.int p4), .val (.int p5), .val (.int p6), .val (.int f8), .val (.int f16), .val (.int f48), .val (.int fb), .val (.int f24), .val (.int (p1 &&& (255 : Int32))), .val (.int (p2 &&& (65535 : Int32))), .val (.long (p3 &&& (281474976710655 : Int64))), .second, .val (.int (p4 &&& (16777215 : Int32))), .val (.int (Int32.ofNat mm)), .val (.int (((XT.ushr p5 (8 : Int32))).toInt8.toInt32)), .val (.int (((XT.ushr p5 (16 : Int32))).toInt8.toInt32)), .val (.ref fi), .val (.ref wo), .val (.ref r), .val (.int (Int32.ofNat (((((([] : List Value) ++ own_s f8 [(.int ((XT.ushrL (p1 &&& (255 : Int32)).toInt64 (0 : Int32)).toInt32.toInt8.toInt32))]) ++ own_s f16 [(.int ((XT.ushrL (p2 &&& (65535 : Int32)).toInt64 (8 : Int32)).toInt32.toInt8.toInt32)), (.int ((XT.ushrL (p2 &&& (65535 : Int32)).toInt64 (0 : Int32)).toInt32.toInt8.toInt32))]) ++ own_s f48 [(.int ((XT.ushrL (p3 &&& (281474976710655 : Int64)) (40 : Int32)).toInt32.toInt8.toInt32)), (.int ((XT.ushrL (p3 &&& (281474976710655 : Int64)) (32 : Int32)).toInt32.toInt8.toInt32)), (.int ((XT.ushrL (p3 &&& (281474976710655 : Int64)) (24 : Int32)).toInt32.toInt8.toInt32)), (.int ((XT.ushrL (p3 &&& (281474976710655 : Int64)) (16 : Int32)).toInt32.toInt8.toInt32)), (.int ((XT.ushrL (p3 &&& (281474976710655 : Int64)) (8 : Int32)).toInt32.toInt8.toInt32)), (.int ((XT.ushrL (p3 &&& (281474976710655 : Int64)) (0 : Int32)).toInt32.toInt8.toInt32))]) ++ own_s fb (own_fl mm ((XT.ushr p5 (16 : Int32)).toInt8.toInt32) ((XT.ushr p5 (8 : Int32)).toInt8.toInt32))) ++ own_s f24 [(.int ((XT.ushrL (p4 &&& (16777215 : Int32)).toInt64 (16 : Int32)).toInt32.toInt8.toInt32)), (.int ((XT.ushrL (p4 &&& (16777215 : Int32)).toInt64 (8 : Int32)).toInt32.toInt8.toInt32)), (.int ((XT.ushrL (p4 &&& (16777215 : Int32)).toInt64 (0 : Int32)).toInt32.toInt8.toInt32))]).length)), .val (.int (1 : Int32)), .val (.int (Int32.ofNat (((((([] : List Value) ++ own_s f8 [(.int ((XT.ushrL (p1 &&& (255 : Int32)).toInt64 (0 : Int32)).toInt32.toInt8.toInt32))]) ++ own_s f16 [(.int ((XT.ushrL (p2 &&& (65535 : Int32)).toInt64 (8 : Int32)).toInt32.toInt8.toInt32)), (.int ((XT.ushrL (p2 &&& (65535 : Int32)).toInt64 (0 : Int32)).toInt32.toInt8.toInt32))]) ++ own_s f48 [(.int ((XT.ushrL (p3 &&& (281474976710655 : Int64)) (40 : Int32)).toInt32.toInt8.toInt32)), (.int ((XT.ushrL (p3 &&& (281474976710655 : Int64)) (32 : Int32)).toInt32.toInt8.toInt32)), (.int ((XT.ushrL (p3 &&& (281474976710655 : Int64)) (24 : Int32)).toInt32.toInt8.toInt32)), (.int ((XT.ushrL (p3 &&& (281474976710655 : Int64)) (16 : Int32)).toInt32.toInt8.toInt32)), (.int ((XT.ushrL (p3 &&& (281474976710655 : Int64)) (8 : Int32)).toInt32.toInt8.toInt32)), (.int ((XT.ushrL (p3 &&& (281474976710655 : Int64)) (0 : Int32)).toInt32.toInt8.toInt32))]) ++ own_s fb (own_fl mm ((XT.ushr p5 (16 : Int32)).toInt8.toInt32) ((XT.ushr p5 (8 : Int32)).toInt8.toInt32))) ++ own_s f24 [(.int ((XT.ushrL (p4 &&& (16777215 : Int32)).toInt64 (16 : Int32)).toInt32.toInt8.toInt32)), (.int ((XT.ushrL (p4 &&& (16777215 : Int32)).toInt64 (8 : Int32)).toInt32.toInt8.toInt32)), (.int ((XT.ushrL (p4 &&& (16777215 : Int32)).toInt64 (0 : Int32)).toInt32.toInt8.toInt32))]).length)), .val (.int (0 : Int32)), .val (.ref r2)] rfl ?_
                                                refine B.iload 722 rfl at_720 rfl ?_
                                                refine B.if0_eq 744 725 rfl (by decide) rfl at_722 (fun c722 => ?_) (fun c722 => ?_)
                                                · exact absurd c722 (by decide)
                                                · refine B.aload 727 rfl at_725 rfl rfl ?_
                                                  refine B.aload 729 rfl at_727 rfl rfl ?_
                                                  refine B.acmp_eq 744 732 rfl (by decide) rfl at_729 rfl rfl (fun c729 => ?_) (fun c729 => ?_)
                                                  · exact absurd (Value.ref.inj c729) nrr
                                                  · refine B.aload 734 rfl at_732 rfl rfl ?_
                                                    refine B.arrlen 735 rfl at_734 Ar2 (Int32.ofNat (((((([] : List Value) ++ own_s f8 [(.int ((XT.ushrL (p1 &&& (255 : Int32)).toInt64 (0 : Int32)).toInt32.toInt8.toInt32))]) ++ own_s f16 [(.int ((XT.ushrL (p2 &&& (65535 : Int32)).toInt64 (8 : Int32)).toInt32.toInt8.toInt32)), (.int ((XT.ushrL (p2 &&& (65535 : Int32)).toInt64 (0 : Int32)).toInt32.toInt8.toInt32))]) ++ own_s f48 [(.int ((XT.ushrL (p3 &&& (281474976710655 : Int64)) (40 : Int32)).toInt32.toInt8.toInt32)), (.int ((XT.ushrL (p3 &&& (281474976710655 : Int64)) (32 : Int32)).toInt32.toInt8.toInt32)), (.int ((XT.ushrL (p3 &&& (281474976710655 : Int64)) (24 : Int32)).toInt32.toInt8.toInt32)), (.int ((XT.ushrL (p3 &&& (281474976710655 : Int64)) (16 : Int32)).toInt32.toInt8.toInt32)), (.int ((XT.ushrL (p3 &&& (281474976710655 : Int64)) (8 : Int32)).toInt32.toInt8.toInt32)), (.int ((XT.ushrL (p3 &&& (281474976710655 : Int64)) (0 : Int32)).toInt32.toInt8.toInt32))]) ++ own_s fb (own_fl mm ((XT.ushr p5 (16 : Int32)).toInt8.toInt32) ((XT.ushr p5 (8 : Int32)).toInt8.toInt32))) ++ own_s f24 [(.int ((XT.ushrL (p4 &&& (16777215 : Int32)).toInt64 (16 : Int32)).toInt32.toInt8.toInt32)), (.int ((XT.ushrL (p4 &&& (16777215 : Int32)).toInt64 (8 : Int32)).toInt32.toInt8.toInt32)), (.int ((XT.ushrL (p4 &&& (16777215 : Int32)).toInt64 (0 : Int32)).toInt32.toInt8.toInt32))]).length) rfl ?_
                                                    refine B.iload 737 rfl at_735 rfl ?_
                                                    refine B.icmp_ne 744 740 rfl (by decide) rfl at_737 (fun c737 => ?_) (fun c737 => ?_)
                                                    · exact absurd rfl c737
                                                    · refine B.iconst 741 rfl (1 : Int32) at_740 rfl ?_
                                                      refine B.goto 745 rfl (by decide) at_741 ?_
                                                      refine B.istore 747 rfl at_745 #[.val (.int p1), .val (.int p2), .val (.long p3), .second, .val (.int p4), .val (.int p5), .val (.int p6), .val (.int f8), .val (.int f16), .val (.int f48), .val (.int fb), .val (.int f24), .val (.int (p1 &&& (255 : Int32))), .val (.int (p2 &&& (65535 : Int32))), .val (.long (p3 &&& (281474976710655 : Int64))), .second, .val (.int (p4 &&& (16777215 : Int32))), .val (.int (Int32.ofNat mm)), .val (.int (((XT.ushr p5 (8 : Int32))).toInt8.toInt32)), .val (.int (((XT.ushr p5 (16 : Int32))).toInt8.toInt32)), .val (.ref fi), .val (.ref wo), .val (.ref r), .val (.int (Int32.ofNat (((((([] : List Value) ++ own_s f8 [(.int ((XT.ushrL (p1 &&& (255 : Int32)).toInt64 (0 : Int32)).toInt32.toInt8.toInt32))]) ++ own_s f16 [(.int ((XT.ushrL (p2 &&& (65535 : Int32)).toInt64 (8 : Int32)).toInt32.toInt8.toInt32)), (.int ((XT.ushrL (p2 &&& (65535 : Int32)).toInt64 (0 : Int32)).toInt32.toInt8.toInt32))]) ++ own_s f48 [(.int ((XT.ushrL (p3 &&& (281474976710655 : Int64)) (40 : Int32)).toInt32.toInt8.toInt32)), (.int ((XT.ushrL (p3 &&& (281474976710655 : Int64)) (32 : Int32)).toInt32.toInt8.toInt32)), (.int ((XT.ushrL (p3 &&& (281474976710655 : Int64)) (24 : Int32)).toInt32.toInt8.toInt32)), (.int ((XT.ushrL (p3 &&& (281474976710655 : Int64)) (16 : Int32)).toInt32.toInt8.toInt32)), (.int ((XT.ushrL (p3 &&& (281474976710655 : Int64)) (8 : Int32)).toInt32.toInt8.toInt32)), (.int ((XT.ushrL (p3 &&& (281474976710655 : Int64)) (0 : Int32)).toInt32.toInt8.toInt32))]) ++ own_s fb (own_fl mm ((XT.ushr p5 (16 : Int32)).toInt8.toInt32) ((XT.ushr p5 (8 : Int32)).toInt8.toInt32))) ++ own_s f24 [(.int ((XT.ushrL (p4 &&& (16777215 : Int32)).toInt64 (16 : Int32)).toInt32.toInt8.toInt32)), (.int ((XT.ushrL (p4 &&& (16777215 : Int32)).toInt64 (8 : Int32)).toInt32.toInt8.toInt32)), (.int ((XT.ushrL (p4 &&& (16777215 : Int32)).toInt64 (0 : Int32)).toInt32.toInt8.toInt32))]).length)), .val (.int (1 : Int32)), .val (.int (Int32.ofNat (((((([] : List Value) ++ own_s f8 [(.int ((XT.ushrL (p1 &&& (255 : Int32)).toInt64 (0 : Int32)).toInt32.toInt8.toInt32))]) ++ own_s f16 [(.int ((XT.ushrL (p2 &&& (65535 : Int32)).toInt64 (8 : Int32)).toInt32.toInt8.toInt32)), (.int ((XT.ushrL (p2 &&& (65535 : Int32)).toInt64 (0 : Int32)).toInt32.toInt8.toInt32))]) ++ own_s f48 [(.int ((XT.ushrL (p3 &&& (281474976710655 : Int64)) (40 : Int32)).toInt32.toInt8.toInt32)), (.int ((XT.ushrL (p3 &&& (281474976710655 : Int64)) (32 : Int32)).toInt32.toInt8.toInt32)), (.int ((XT.ushrL (p3 &&& (281474976710655 : Int64)) (24 : Int32)).toInt32.toInt8.toInt32)), (.int ((XT.ushrL (p3 &&& (281474976710655 : Int64)) (16 : Int32)).toInt32.toInt8.toInt32)), (.int ((XT.ushrL (p3 &&& (281474976710655 : Int64)) (8 : Int32)).toInt32.toInt8.toInt32)), (.int ((XT.ushrL (p3 &&& (281474976710655 : Int64)) (0 : Int32)).toInt32.toInt8.toInt32))]) ++ own_s fb (own_fl mm ((XT.ushr p5 (16 : Int32)).toInt8.toInt32) ((XT.ushr p5 (8 : Int32)).toInt8.toInt32))) ++ own_s f24 [(.int ((XT.ushrL (p4 &&& (16777215 : Int32)).toInt64 (16 : Int32)).toInt32.toInt8.toInt32)), (.int ((XT.ushrL (p4 &&& (16777215 : Int32)).toInt64 (8 : Int32)).toInt32.toInt8.toInt32)), (.int ((XT.ushrL (p4 &&& (16777215 : Int32)).toInt64 (0 : Int32)).toInt32.toInt8.toInt32))]).length)), .val (.int (0 : Int32)), .val (.ref r2)] rfl ?_
                                                      refine B.iload 749 rfl at_747 rfl ?_
                                                      refine B.if0_eq 773 752 rfl (by decide) rfl at_749 (fun c749 => ?_) (fun c749 => ?_)
                                                      · exact absurd c749 (by decide)
                                                      · refine B.iload 754 rfl at_752 rfl ?_
                                                        refine B.if0_le 773 757 rfl (by decide) rfl at_754 (fun c754 => ?_) (fun c754 => ?_)
                                                        · refine B.iload 775 rfl at_773 rfl ?_
                                                          refine B.retN (by simp) at_775 (by decide) (by decide) ?_
                                                          exact rfl
                                                        · exact absurd c754 c695
                                              · refine B.aload 700 rfl at_698 rfl rfl ?_
                                                refine B.iconst 701 rfl (0 : Int32) at_700 rfl ?_
                                                have hp0 : 0 < (((((([] : List Value) ++ own_s f8 [(.int ((XT.ushrL (p1 &&& (255 : Int32)).toInt64 (0 : Int32)).toInt32.toInt8.toInt32))]) ++ own_s f16 [(.int ((XT.ushrL (p2 &&& (65535 : Int32)).toInt64 (8 : Int32)).toInt32.toInt8.toInt32)), (.int ((XT.ushrL (p2 &&& (65535 : Int32)).toInt64 (0 : Int32)).toInt32.toInt8.toInt32))]) ++ own_s f48 [(.int ((XT.ushrL (p3 &&& (281474976710655 : Int64)) (40 : Int32)).toInt32.toInt8.toInt32)), (.int ((XT.ushrL (p3 &&& (281474976710655 : Int64)) (32 : Int32)).toInt32.toInt8.toInt32)), (.int ((XT.ushrL (p3 &&& (281474976710655 : Int64)) (24 : Int32)).toInt32.toInt8.toInt32)), (.int ((XT.ushrL (p3 &&& (281474976710655 : Int64)) (16 : Int32)).toInt32.toInt8.toInt32)), (.int ((XT.ushrL (p3 &&& (281474976710655 : Int64)) (8 : Int32)).toInt32.toInt8.toInt32)), (.int ((XT.ushrL (p3 &&& (281474976710655 : Int64)) (0 : Int32)).toInt32.toInt8.toInt32))]) ++ own_s fb (own_fl mm ((XT.ushr p5 (16 : Int32)).toInt8.toInt32) ((XT.ushr p5 (8 : Int32)).toInt8.toInt32))) ++ own_s f24 [(.int ((XT.ushrL (p4 &&& (16777215 : Int32)).toInt64 (16 : Int32)).toInt32.toInt8.toInt32)), (.int ((XT.ushrL (p4 &&& (16777215 : Int32)).toInt64 (8 : Int32)).toInt32.toInt8.toInt32)), (.int ((XT.ushrL (p4 &&& (16777215 : Int32)).toInt64 (0 : Int32)).toInt32.toInt8.toInt32))]).length := (own_lt 0 _ (by omega) (by omega)).mp c695
                                                obtain ⟨z0, ez0⟩ := own_int H4.fit hp0
                                                refine B.baload 702 rfl at_701 Ar (by decide) 0 rfl (.int z0) ez0 ?_
                                                refine B.istore 704 rfl at_702 #[.val (.int p1), .val (.int p2), .val (.long p3), .second, .val (.int p4), .val (.int p5), .val (.int p6), .val (.int f8), .val (.int f16), .val (.int f48), .val (.int fb), .val (.int f24), .val (.int (p1 &&& (255 : Int32))), .val (.int (p2 &&& (65535 : Int32))), .val (.long (p3 &&& (281474976710655 : Int64))), .second, .val (.int (p4 &&& (16777215 : Int32))), .val (.int (Int32.ofNat mm)), .val (.int (((XT.ushr p5 (8 : Int32))).toInt8.toInt32)), .val (.int (((XT.ushr p5 (16 : Int32))).toInt8.toInt32)), .val (.ref fi), .val (.ref wo), .val (.ref r), .val (.int (Int32.ofNat (((((([] : List Value) ++ own_s f8 [(.int ((XT.ushrL (p1 &&& (255 : Int32)).toInt64 (0 : Int32)).toInt32.toInt8.toInt32))]) ++ own_s f16 [(.int ((XT.ushrL (p2 &&& (65535 : Int32)).toInt64 (8 : Int32)).toInt32.toInt8.toInt32)), (.int ((XT.ushrL (p2 &&& (65535 : Int32)).toInt64 (0 : Int32)).toInt32.toInt8.toInt32))]) ++ own_s f48 [(.int ((XT.ushrL (p3 &&& (281474976710655 : Int64)) (40 : Int32)).toInt32.toInt8.toInt32)), (.int ((XT.ushrL (p3 &&& (281474976710655 : Int64)) (32 : Int32)).toInt32.toInt8.toInt32)), (.int ((XT.ushrL (p3 &&& (281474976710655 : Int64)) (24 : Int32)).toInt32.toInt8.toInt32)), (.int ((XT.ushrL (p3 &&& (281474976710655 : Int64)) (16 : Int32)).toInt32.toInt8.toInt32)), (.int ((XT.ushrL (p3 &&& (281474976710655 : Int64)) (8 : Int32)).toInt32.toInt8.toInt32)), (.int ((XT.ushrL (p3 &&& (281474976710655 : Int64)) (0 : Int32)).toInt32.toInt8.toInt32))]) ++ own_s fb (own_fl mm ((XT.ushr p5 (16 : Int32)).toInt8.toInt32) ((XT.ushr p5 (8 : Int32)).toInt8.toInt32))) ++ own_s f24 [(.int ((XT.ushrL (p4 &&& (16777215 : Int32)).toInt64 (16 : Int32)).toInt32.toInt8.toInt32)), (.int ((XT.ushrL (p4 &&& (16777215 : Int32)).toInt64 (8 : Int32)).toInt32.toInt8.toInt32)), (.int ((XT.ushrL (p4 &&& (16777215 : Int32)).toInt64 (0 : Int32)).toInt32.toInt8.toInt32))]).length)), .val (.int (1 : Int32)), .val (.int (Int32.ofNat (((((([] : List Value) ++ own_s f8 [(.int ((XT.ushrL (p1 &&& (255 : Int32)).toInt64 (0 : Int32)).toInt32.toInt8.toInt32))]) ++ own_s f16 [(.int ((XT.ushrL (p2 &&& (65535 : Int32)).toInt64 (8 : Int32)).toInt32.toInt8.toInt32)), (.int ((XT.ushrL (p2 &&& (65535 : Int32)).toInt64 (0 : Int32)).toInt32.toInt8.toInt32))]) ++ own_s f48 [(.int ((XT.ushrL (p3 &&& (281474976710655 : Int64)) (40 : Int32)).toInt32.toInt8.toInt32)), (.int ((XT.ushrL (p3 &&& (281474976710655 : Int64)) (32 : Int32)).toInt32.toInt8.toInt32)), (.int ((XT.ushrL (p3 &&& (281474976710655 : Int64)) (24 : Int32)).toInt32.toInt8.toInt32)), (.int ((XT.ushrL (p3 &&& (281474976710655 : Int64)) (16 : Int32)).toInt32.toInt8.toInt32)), (.int ((XT.ushrL (p3 &&& (281474976710655 : Int64)) (8 : Int32)).toInt32.toInt8.toInt32)), (.int ((XT.ushrL (p3 &&& (281474976710655 : Int64)) (0 : Int32)).toInt32.toInt8.toInt32))]) ++ own_s fb (own_fl mm ((XT.ushr p5 (16 : Int32)).toInt8.toInt32) ((XT.ushr p5 (8 : Int32)).toInt8.toInt32))) ++ own_s f24 [(.int ((XT.ushrL (p4 &&& (16777215 : Int32)).toInt64 (16 : Int32)).toInt32.toInt8.toInt32)), (.int ((XT.ushrL (p4 &&& (16777215 : Int32)).toInt64 (8 : Int32)).toInt32.toInt8.toInt32)), (.int ((XT.ushrL (p4 &&& (16777215 : Int32)).toInt64 (0 : Int32)).toInt32.toInt8.toInt32))]).length)), .val (.int z0), .unset] rfl ?_
                                                refine B.aload 706 rfl at_704 rfl rfl ?_
                                                refine B.iconst 707 rfl (0 : Int32) at_706 rfl ?_
                                                refine B.iload 709 rfl at_707 rfl ?_
                                                refine B.iconst 710 rfl (-1 : Int32) at_709 rfl ?_
                                                refine B.ixor 711 rfl at_710 ?_
                                                refine B.i2b 712 rfl at_711 ?_
                                                refine B.bastore 713 rfl at_712 Ar (by decide) 0 rfl hp0 (Or.inr gr0) ?_
                                                intro h5 W5 A5
                                                have H5 := H4.other W5 nwr nbr
                                                refine B.aload 715 rfl at_713 rfl rfl ?_
                                                refine B.callV 718 rfl at_715 (wd hw 22 rfl) (wd hw 23 rfl) (wd hw 25 rfl) (wd hw 24 rfl) (wd hw 6 rfl) (wd hw 26 rfl) (by decide) H5.ex [] [] (rm_tb l Z a0 hw wo bj5 (((((([] : List Value) ++ own_s f8 [(.int ((XT.ushrL (p1 &&& (255 : Int32)).toInt64 (0 : Int32)).toInt32.toInt8.toInt32))]) ++ own_s f16 [(.int ((XT.ushrL (p2 &&& (65535 : Int32)).toInt64 (8 : Int32)).toInt32.toInt8.toInt32)), (.int ((XT.ushrL (p2 &&& (65535 : Int32)).toInt64 (0 : Int32)).toInt32.toInt8.toInt32))]) ++ own_s f48 [(.int ((XT.ushrL (p3 &&& (281474976710655 : Int64)) (40 : Int32)).toInt32.toInt8.toInt32)), (.int ((XT.ushrL (p3 &&& (281474976710655 : Int64)) (32 : Int32)).toInt32.toInt8.toInt32)), (.int ((XT.ushrL (p3 &&& (281474976710655 : Int64)) (24 : Int32)).toInt32.toInt8.toInt32)), (.int ((XT.ushrL (p3 &&& (281474976710655 : Int64)) (16 : Int32)).toInt32.toInt8.toInt32)), (.int ((XT.ushrL (p3 &&& (281474976710655 : Int64)) (8 : Int32)).toInt32.toInt8.toInt32)), (.int ((XT.ushrL (p3 &&& (281474976710655 : Int64)) (0 : Int32)).toInt32.toInt8.toInt32))]) ++ own_s fb (own_fl mm ((XT.ushr p5 (16 : Int32)).toInt8.toInt32) ((XT.ushr p5 (8 : Int32)).toInt8.toInt32))) ++ own_s f24 [(.int ((XT.ushrL (p4 &&& (16777215 : Int32)).toInt64 (16 : Int32)).toInt32.toInt8.toInt32)), (.int ((XT.ushrL (p4 &&& (16777215 : Int32)).toInt64 (8 : Int32)).toInt32.toInt8.toInt32)), (.int ((XT.ushrL (p4 &&& (16777215 : Int32)).toInt64 (0 : Int32)).toInt32.toInt8.toInt32))]) N5 h5 H5 (Nat.le_trans hN5 (by decide)) (by omega)) rfl rfl pd____B rfl rfl 0 rfl (by decide) (by decide) (by decide) (by decide) (fun _ q => nomatch q) ?_
                                                rintro _ h6 K6 ⟨r2, rfl, gr2, Ar2⟩
                                                show B.G h6 10 1832 (mkF m 718 #[.val (.int p1), .val (.int p2), .val (.long p3), .second, .val (.int p4), .val (.int p5), .val (.int p6), .val (.int f8), .val (.int f16), .val (.int f48), .val (.int fb), .val (.int f24), .val (.int (p1 &&& (255 : Int32))), .val (.int (p2 &&& (65535 : Int32))), .val (.long (p3 &&& (281474976710655 : Int64))), .second, .val (.int (p4 &&& (16777215 : Int32))), .val (.int (Int32.ofNat mm)), .val (.int (((XT.ushr p5 (8 : Int32))).toInt8.toInt32)), .val (.int (((XT.ushr p5 (16 : Int32))).toInt8.toInt32)), .val (.ref fi), .val (.ref wo), .val (.ref r), .val (.int (Int32.ofNat (((((([] : List Value) ++ own_s f8 [(.int ((XT.ushrL (p1 &&& (255 : Int32)).toInt64 (0 : Int32)).toInt32.toInt8.toInt32))]) ++ own_s f16 [(.int ((XT.ushrL (p2 &&& (65535 : Int32)).toInt64 (8 : Int32)).toInt32.toInt8.toInt32)), (.int ((XT.ushrL (p2 &&& (65535 : Int32)).toInt64 (0 : Int32)).toInt32.toInt8.toInt32))]) ++ own_s f48 [(.int ((XT.ushrL (p3 &&& (281474976710655 : Int64)) (40 : Int32)).toInt32.toInt8.toInt32)), (.int ((XT.ushrL (p3 &&& (281474976710655 : Int64)) (32 : Int32)).toInt32.toInt8.toInt32)), (.int ((XT.ushrL (p3 &&& (281474976710655 : Int64)) (24 : Int32)).toInt32.toInt8.toInt32)), (.int ((XT.ushrL (p3 &&& (281474976710655 : Int64)) (16 : Int32)).toInt32.toInt8.toInt32)), (.int ((XT.ushrL (p3 &&& (281474976710655 : Int64)) (8 : Int32)).toInt32.toInt8.toInt32)), (.int ((XT.ushrL (p3 &&& (281474976710655 : Int64)) (0 : Int32)).toInt32.toInt8.toInt32))]) ++ own_s fb (own_fl mm ((XT.ushr p5 (16 : Int32)).toInt8.toInt32) ((XT.ushr p5 (8 : Int32)).toInt8.toInt32))) ++ own_s f24 [(.int ((XT.ushrL (p4 &&& (16777215 : Int32)).toInt64 (16 : Int32)).toInt32.toInt8.toInt32)), (.int ((XT.ushrL (p4 &&& (16777215 : Int32)).toInt64 (8 : Int32)).toInt32.toInt8.toInt32)), (.int ((XT.ushrL (p4 &&& (16777215 : Int32)).toInt64 (0 : Int32)).toInt32.toInt8.toInt32))]).length)), .val (.int (1 : Int32)), .val (.int (Int32.ofNat (((((([] : List Value) ++ own_s f8 [(.int ((XT.ushrL (p1 &&& (255 : Int32)).toInt64 (0 : Int32)).toInt32.toInt8.toInt32))]) ++ own_s f16 [(.int ((XT.ushrL (p2 &&& (65535 : Int32)).toInt64 (8 : Int32)).toInt32.toInt8.toInt32)), (.int ((XT.ushrL (p2 &&& (65535 : Int32)).toInt64 (0 : Int32)).toInt32.toInt8.toInt32))]) ++ own_s f48 [(.int ((XT.ushrL (p3 &&& (281474976710655 : Int64)) (40 : Int32)).toInt32.toInt8.toInt32)), (.int ((XT.ushrL (p3 &&& (281474976710655 : Int64)) (32 : Int32)).toInt32.toInt8.toInt32)), (.int ((XT.ushrL (p3 &&& (281474976710655 : Int64)) (24 : Int32)).toInt32.toInt8.toInt32)), (.int ((XT.ushrL (p3 &&& (281474976710655 : Int64)) (16 : Int32)).toInt32.toInt8.toInt32)), (.int ((XT.ushrL (p3 &&& (281474976710655 : Int64)) (8 : Int32)).toInt32.toInt8.toInt32)), (.int ((XT.ushrL (p3 &&& (281474976710655 : Int64)) (0 : Int32)).toInt32.toInt8.toInt32))]) ++ own_s fb (own_fl mm ((XT.ushr p5 (16 : Int32)).toInt8.toInt32) ((XT.ushr p5 (8 : Int32)).toInt8.toInt32))) ++ own_s f24 [(.int ((XT.ushrL (p4 &&& (16777215 : Int32)).toInt64 (16 : Int32)).toInt32.toInt8.toInt32)), (.int ((XT.ushrL (p4 &&& (16777215 : Int32)).toInt64 (8 : Int32)).toInt32.toInt8.toInt32)), (.int ((XT.ushrL (p4 &&& (16777215 : Int32)).toInt64 (0 : Int32)).toInt32.toInt8.toInt32))]).length)), .val (.int z0), .unset] [(.ref r2)])
                                                have nrr : r2 ≠ r := fun q => absurd A5.lt (by rw [← q]; exact Nat.not_lt.mpr gr2)
                                                refine B.astore 720 rfl at_718 rfl #[.val (.int p1), .val (.int p2), .val (.long p3), .second, .val (.int p4), .val (.int p5), .val (.int p6), .val (.int f8), .val (.int f16), .val (.int f48), .val (.int fb), .val (.int f24), .val (.int (p1 &&& (255 : Int32))), .val (.int (p2 &&& (65535 : Int32))), .val (.long (p3 &&& (281474976710655 : Int64))), .second, .val (.int (p4 &&& (16777215 : Int32))), .val (.int (Int32.ofNat mm)), .val (.int (((XT.ushr p5 (8 : Int32))).toInt8.toInt32)), .val (.int (((XT.ushr p5 (16 : Int32))).toInt8.toInt32)), .val (.ref fi), .val (.ref wo), .val (.ref r), .val (.int (Int32.ofNat (((((([] : List Value) ++ own_s f8 [(.int ((XT.ushrL (p1 &&& (255 : Int32)).toInt64 (0 : Int32)).toInt32.toInt8.toInt32))]) ++ own_s f16 [(.int ((XT.ushrL (p2 &&& (65535 : Int32)).toInt64 (8 : Int32)).toInt32.toInt8.toInt32)), (.int ((XT.ushrL (p2 &&& (65535 : Int32)).toInt64 (0 : Int32)).toInt32.toInt8.toInt32))]) ++ own_s f48 [(.int ((XT.ushrL (p3 &&& (281474976710655 : Int64)) (40 : Int32)).toInt32.toInt8.toInt32)), (.int ((XT.ushrL (p3 &&& (281474976710655 : Int64)) (32 : Int32)).toInt32.toInt8.toInt32)), (.int ((XT.ushrL (p3 &&& (281474976710655 : Int64)) (24 : Int32)).toInt32.toInt8.toInt32)), (.int ((XT.ushrL (p3 &&& (281474976710655 : Int64)) (16 : Int32)).toInt32.toInt8.toInt32)), (.int ((XT.ushrL (p3 &&& (281474976710655 : Int64)) (8 : Int32)).toInt32.toInt8.toInt32)), (.int ((XT.ushrL (p3 &&& (281474976710655 : Int64)) (0 : Int32)).toInt32.toInt8.toInt32))]) ++ own_s fb (own_fl mm ((XT.ushr p5 (16 : Int32)).toInt8.toInt32) ((XT.ushr p5 (8 : Int32)).toInt8.toInt32))) ++ own_s f24 [(.int ((XT.ushrL (p4 &&& (16777215 : Int32)).toInt64 (16 : Int32)).toInt32.toInt8.toInt32)), (.int ((XT.ushrL (p4 &&& (16777215 : Int32)).toInt64 (8 : Int32)).toInt32.toInt8.toInt32)), (.int ((XT.ushrL (p4 &&& (16777215 : Int32)).toInt64 (0 : Int32)).toInt32.toInt8.toInt32))]).length)), .val (.int (1 : Int32)), .val (.int (Int32.ofNat (((((([] : List Value) ++ own_s f8 [(.int ((XT.ushrL (p1 &&& (255 : Int32)).toInt64 (0 : Int32)).toInt32.toInt8.toInt32))]) ++ own_s f16 [(.int ((XT.ushrL (p2 &&& (65535 : Int32)).toInt64 (8 : Int32)).toInt32.toInt8.toInt32)), (.int ((XT.ushrL (p2 &&& (65535 : Int32)).toInt64 (0 : Int32)).toInt32.toInt8.toInt32))]) ++ own_s f48 [(.int ((XT.ushrL (p3 &&& (281474976710655 : Int64)) (40 : Int32)).toInt32.toInt8.toInt32)), (.int ((XT.ushrL (p3 &&& (281474976710655 : Int64)) (32 : Int32)).toInt32.toInt8.toInt32)), (.int ((XT.ushrL (p3 &&& (281474976710655 : Int64)) (24 : Int32)).toInt32.toInt8.toInt32)), (.int ((XT.ushrL (p3 &&& (281474976710655 : Int64)) (16 : Int32)).toInt32.toInt8.toInt32)), (.int ((XT.ushrL (p3 &&& (281474976710655 : Int64)) (8 : Int32)).toInt32.toInt8.toInt32)), (.int ((XT.ushrL (p3 &&& (281474976710655 : Int64)) (0 : Int32)).toInt32.toInt8.toInt32))]) ++ own_s fb (own_fl mm ((XT.ushr p5 (16 : Int32)).toInt8.toInt32) ((XT.ushr p5 (8 : Int32)).toInt8.toInt32))) ++ own_s f24 [(.int ((XT.ushrL (p4 &&& (16777215 : Int32)).toInt64 (16 : Int32)).toInt32.toInt8.toInt32)), (.int ((XT.ushrL (p4 &&& (16777215 : Int32)).toInt64 (8 : Int32)).toInt32.toInt8.toInt32)), (.int ((XT.ushrL (p4 &&& (16777215 : Int32)).toInt64 (0 : Int32)).toInt32.toInt8.toInt32))]).length)), .val (.int z0), .val (.ref r2)] rfl ?_
                                                refine B.iload 722 rfl at_720 rfl ?_
                                                refine B.if0_eq 744 725 rfl (by decide) rfl at_722 (fun c722 => ?_) (fun c722 => ?_)
                                                · exact absurd c722 (by decide)
                                                · refine B.aload 727 rfl at_725 rfl rfl ?_
                                                  refine B.aload 729 rfl at_727 rfl rfl ?_
                                                  refine B.acmp_eq 744 732 rfl (by decide) rfl at_729 rfl rfl (fun c729 => ?_) (fun c729 => ?_)
                                                  · exact absurd (Value.ref.inj c729) nrr
                                                  · refine B.aload 734 rfl at_732 rfl rfl ?_
                                                    refine B.arrlen 735 rfl at_734 Ar2 (Int32.ofNat (((((([] : List Value) ++ own_s f8 [(.int ((XT.ushrL (p1 &&& (255 : Int32)).toInt64 (0 : Int32)).toInt32.toInt8.toInt32))]) ++ own_s f16 [(.int ((XT.ushrL (p2 &&& (65535 : Int32)).toInt64 (8 : Int32)).toInt32.toInt8.toInt32)), (.int ((XT.ushrL (p2 &&& (65535 : Int32)).toInt64 (0 : Int32)).toInt32.toInt8.toInt32))]) ++ own_s f48 [(.int ((XT.ushrL (p3 &&& (281474976710655 : Int64)) (40 : Int32)).toInt32.toInt8.toInt32)), (.int ((XT.ushrL (p3 &&& (281474976710655 : Int64)) (32 : Int32)).toInt32.toInt8.toInt32)), (.int ((XT.ushrL (p3 &&& (281474976710655 : Int64)) (24 : Int32)).toInt32.toInt8.toInt32)), (.int ((XT.ushrL (p3 &&& (281474976710655 : Int64)) (16 : Int32)).toInt32.toInt8.toInt32)), (.int ((XT.ushrL (p3 &&& (281474976710655 : Int64)) (8 : Int32)).toInt32.toInt8.toInt32)), (.int ((XT.ushrL (p3 &&& (281474976710655 : Int64)) (0 : Int32)).toInt32.toInt8.toInt32))]) ++ own_s fb (own_fl mm ((XT.ushr p5 (16 : Int32)).toInt8.toInt32) ((XT.ushr p5 (8 : Int32)).toInt8.toInt32))) ++ own_s f24 [(.int ((XT.ushrL (p4 &&& (16777215 : Int32)).toInt64 (16 : Int32)).toInt32.toInt8.toInt32)), (.int ((XT.ushrL (p4 &&& (16777215 : Int32)).toInt64 (8 : Int32)).toInt32.toInt8.toInt32)), (.int ((XT.ushrL (p4 &&& (16777215 : Int32)).toInt64 (0 : Int32)).toInt32.toInt8.toInt32))]).length) rfl ?_
                                                    refine B.iload 737 rfl at_735 rfl ?_
                                                    refine B.icmp_ne 744 740 rfl (by decide) rfl at_737 (fun c737 => ?_) (fun c737 => ?_)
                                                    · exact absurd rfl c737
                                                    · refine B.iconst 741 rfl (1 : Int32) at_740 rfl ?_
                                                      refine B.goto 745 rfl (by decide) at_741 ?_
                                                      refine B.istore 747 rfl at_745 #[.val (.int p1), .val (.int p2), .val (.long p3), .second, .val (.int p4), .val (.int p5), .val (.int p6), .val (.int f8), .val (.int f16), .val (.int f48), .val (.int fb), .val (.int f24), .val (.int (p1 &&& (255 : Int32))), .val (.int (p2 &&& (65535 : Int32))), .val (.long (p3 &&& (281474976710655 : Int64))), .second, .val (.int (p4 &&& (16777215 : Int32))), .val (.int (Int32.ofNat mm)), .val (.int (((XT.ushr p5 (8 : Int32))).toInt8.toInt32)), .val (.int (((XT.ushr p5 (16 : Int32))).toInt8.toInt32)), .val (.ref fi), .val (.ref wo), .val (.ref r), .val (.int (Int32.ofNat (((((([] : List Value) ++ own_s f8 [(.int ((XT.ushrL (p1 &&& (255 : Int32)).toInt64 (0 : Int32)).toInt32.toInt8.toInt32))]) ++ own_s f16 [(.int ((XT.ushrL (p2 &&& (65535 : Int32)).toInt64 (8 : Int32)).toInt32.toInt8.toInt32)), (.int ((XT.ushrL (p2 &&& (65535 : Int32)).toInt64 (0 : Int32)).toInt32.toInt8.toInt32))]) ++ own_s f48 [(.int ((XT.ushrL (p3 &&& (281474976710655 : Int64)) (40 : Int32)).toInt32.toInt8.toInt32)), (.int ((XT.ushrL (p3 &&& (281474976710655 : Int64)) (32 : Int32)).toInt32.toInt8.toInt32)), (.int ((XT.ushrL (p3 &&& (281474976710655 : Int64)) (24 : Int32)).toInt32.toInt8.toInt32)), (.int ((XT.ushrL (p3 &&& (281474976710655 : Int64)) (16 : Int32)).toInt32.toInt8.toInt32)), (.int ((XT.ushrL (p3 &&& (281474976710655 : Int64)) (8 : Int32)).toInt32.toInt8.toInt32)), (.int ((XT.ushrL (p3 &&& (281474976710655 : Int64)) (0 : Int32)).toInt32.toInt8.toInt32))]) ++ own_s fb (own_fl mm ((XT.ushr p5 (16 : Int32)).toInt8.toInt32) ((XT.ushr p5 (8 : Int32)).toInt8.toInt32))) ++ own_s f24 [(.int ((XT.ushrL (p4 &&& (16777215 : Int32)).toInt64 (16 : Int32)).toInt32.toInt8.toInt32)), (.int ((XT.ushrL (p4 &&& (16777215 : Int32)).toInt64 (8 : Int32)).toInt32.toInt8.toInt32)), (.int ((XT.ushrL (p4 &&& (16777215 : Int32)).toInt64 (0 : Int32)).toInt32.toInt8.toInt32))]).length)), .val (.int (1 : Int32)), .val (.int (Int32.ofNat (((((([] : List Value) ++ own_s f8 [(.int ((XT.ushrL (p1 &&& (255 : Int32)).toInt64 (0 : Int32)).toInt32.toInt8.toInt32))]) ++ own_s f16 [(.int ((XT.ushrL (p2 &&& (65535 : Int32)).toInt64 (8 : Int32)).toInt32.toInt8.toInt32)), (.int ((XT.ushrL (p2 &&& (65535 : Int32)).toInt64 (0 : Int32)).toInt32.toInt8.toInt32))]) ++ own_s f48 [(.int ((XT.ushrL (p3 &&& (281474976710655 : Int64)) (40 : Int32)).toInt32.toInt8.toInt32)), (.int ((XT.ushrL (p3 &&& (281474976710655 : Int64)) (32 : Int32)).toInt32.toInt8.toInt32)), (.int ((XT.ushrL (p3 &&& (281474976710655 : Int64)) (24 : Int32)).toInt32.toInt8.toInt32)), (.int ((XT.ushrL (p3 &&& (281474976710655 : Int64)) (16 : Int32)).toInt32.toInt8.toInt32)), (.int ((XT.ushrL (p3 &&& (281474976710655 : Int64)) (8 : Int32)).toInt32.toInt8.toInt32)), (.int ((XT.ushrL (p3 &&& (281474976710655 : Int64)) (0 : Int32)).toInt32.toInt8.toInt32))]) ++ own_s fb (own_fl mm ((XT.ushr p5 (16 : Int32)).toInt8.toInt32) ((XT.ushr p5 (8 : Int32)).toInt8.toInt32))) ++ own_s f24 [(.int ((XT.ushrL (p4 &&& (16777215 : Int32)).toInt64 (16 : Int32)).toInt32.toInt8.toInt32)), (.int ((XT.ushrL (p4 &&& (16777215 : Int32)).toInt64 (8 : Int32)).toInt32.toInt8.toInt32)), (.int ((XT.ushrL (p4 &&& (16777215 : Int32)).toInt64 (0 : Int32)).toInt32.toInt8.toInt32))]).length)), .val (.int z0), .val (.ref r2)] rfl ?_
                                                      refine B.iload 749 rfl at_747 rfl ?_
                                                      refine B.if0_eq 773 752 rfl (by decide) rfl at_749 (fun c749 => ?_) (fun c749 => ?_)
                                                      · exact absurd c749 (by decide)
                                                      · refine B.iload 754 rfl at_752 rfl ?_
                                                        refine B.if0_le 773 757 rfl (by decide) rfl at_754 (fun c754 => ?_) (fun c754 => ?_)
                                                        · exact absurd c695 c754
                                                        · refine B.aload 759 rfl at_757 rfl rfl ?_
                                                          refine B.iconst 760 rfl (0 : Int32) at_759 rfl ?_
                                                          refine B.baload 761 rfl at_760 Ar2 (by decide) 0 rfl (.int z0) ez0 ?_
                                                          refine B.iload 763 rfl at_761 rfl ?_
                                                          refine B.icmp_ne 770 766 rfl (by decide) rfl at_763 (fun c763 => ?_) (fun c763 => ?_)
                                                          · exact absurd rfl c763
                                                          · refine B.iconst 767 rfl (1 : Int32) at_766 rfl ?_
                                                            refine B.goto 771 rfl (by decide) at_767 ?_
                                                            refine B.istore 773 rfl at_771 #[.val (.int p1), .val (.int p2), .val (.long p3), .second, .val (.int p4), .val (.int p5), .val (.int p6), .val (.int f8), .val (.int f16), .val (.int f48), .val (.int fb), .val (.int f24), .val (.int (p1 &&& (255 : Int32))), .val (.int (p2 &&& (65535 : Int32))), .val (.long (p3 &&& (281474976710655 : Int64))), .second, .val (.int (p4 &&& (16777215 : Int32))), .val (.int (Int32.ofNat mm)), .val (.int (((XT.ushr p5 (8 : Int32))).toInt8.toInt32)), .val (.int (((XT.ushr p5 (16 : Int32))).toInt8.toInt32)), .val (.ref fi), .val (.ref wo), .val (.ref r), .val (.int (Int32.ofNat (((((([] : List Value) ++ own_s f8 [(.int ((XT.ushrL (p1 &&& (255 : Int32)).toInt64 (0 : Int32)).toInt32.toInt8.toInt32))]) ++ own_s f16 [(.int ((XT.ushrL (p2 &&& (65535 : Int32)).toInt64 (8 : Int32)).toInt32.toInt8.toInt32)), (.int ((XT.ushrL (p2 &&& (65535 : Int32)).toInt64 (0 : Int32)).toInt32.toInt8.toInt32))]) ++ own_s f48 [(.int ((XT.ushrL (p3 &&& (281474976710655 : Int64)) (40 : Int32)).toInt32.toInt8.toInt32)), (.int ((XT.ushrL (p3 &&& (281474976710655 : Int64)) (32 : Int32)).toInt32.toInt8.toInt32)), (.int ((XT.ushrL (p3 &&& (281474976710655 : Int64)) (24 : Int32)).toInt32.toInt8.toInt32)), (.int ((XT.ushrL (p3 &&& (281474976710655 : Int64)) (16 : Int32)).toInt32.toInt8.toInt32)), (.int ((XT.ushrL (p3 &&& (281474976710655 : Int64)) (8 : Int32)).toInt32.toInt8.toInt32)), (.int ((XT.ushrL (p3 &&& (281474976710655 : Int64)) (0 : Int32)).toInt32.toInt8.toInt32))]) ++ own_s fb (own_fl mm ((XT.ushr p5 (16 : Int32)).toInt8.toInt32) ((XT.ushr p5 (8 : Int32)).toInt8.toInt32))) ++ own_s f24 [(.int ((XT.ushrL (p4 &&& (16777215 : Int32)).toInt64 (16 : Int32)).toInt32.toInt8.toInt32)), (.int ((XT.ushrL (p4 &&& (16777215 : Int32)).toInt64 (8 : Int32)).toInt32.toInt8.toInt32)), (.int ((XT.ushrL (p4 &&& (16777215 : Int32)).toInt64 (0 : Int32)).toInt32.toInt8.toInt32))]).length)), .val (.int (1 : Int32)), .val (.int (Int32.ofNat (((((([] : List Value) ++ own_s f8 [(.int ((XT.ushrL (p1 &&& (255 : Int32)).toInt64 (0 : Int32)).toInt32.toInt8.toInt32))]) ++ own_s f16 [(.int ((XT.ushrL (p2 &&& (65535 : Int32)).toInt64 (8 : Int32)).toInt32.toInt8.toInt32)), (.int ((XT.ushrL (p2 &&& (65535 : Int32)).toInt64 (0 : Int32)).toInt32.toInt8.toInt32))]) ++ own_s f48 [(.int ((XT.ushrL (p3 &&& (281474976710655 : Int64)) (40 : Int32)).toInt32.toInt8.toInt32)), (.int ((XT.ushrL (p3 &&& (281474976710655 : Int64)) (32 : Int32)).toInt32.toInt8.toInt32)), (.int ((XT.ushrL (p3 &&& (281474976710655 : Int64)) (24 : Int32)).toInt32.toInt8.toInt32)), (.int ((XT.ushrL (p3 &&& (281474976710655 : Int64)) (16 : Int32)).toInt32.toInt8.toInt32)), (.int ((XT.ushrL (p3 &&& (281474976710655 : Int64)) (8 : Int32)).toInt32.toInt8.toInt32)), (.int ((XT.ushrL (p3 &&& (281474976710655 : Int64)) (0 : Int32)).toInt32.toInt8.toInt32))]) ++ own_s fb (own_fl mm ((XT.ushr p5 (16 : Int32)).toInt8.toInt32) ((XT.ushr p5 (8 : Int32)).toInt8.toInt32))) ++ own_s f24 [(.int ((XT.ushrL (p4 &&& (16777215 : Int32)).toInt64 (16 : Int32)).toInt32.toInt8.toInt32)), (.int ((XT.ushrL (p4 &&& (16777215 : Int32)).toInt64 (8 : Int32)).toInt32.toInt8.toInt32)), (.int ((XT.ushrL (p4 &&& (16777215 : Int32)).toInt64 (0 : Int32)).toInt32.toInt8.toInt32))]).length)), .val (.int z0), .val (.ref r2)] rfl ?_
                                                            refine B.iload 775 rfl at_773 rfl ?_
                                                            refine B.retN (by simp) at_775 (by decide) (by decide) ?_
                                                            exact rfl
                                            refine B.if0_eq 690 624 rfl (by decide) rfl at_621 (fun c621 => ?_) (fun c621 => ?_)
                                            · have ep : (Int32.ofNat ((((([] : List Value) ++ own_s f8 [(.int ((XT.ushrL (p1 &&& (255 : Int32)).toInt64 (0 : Int32)).toInt32.toInt8.toInt32))]) ++ own_s f16 [(.int ((XT.ushrL (p2 &&& (65535 : Int32)).toInt64 (8 : Int32)).toInt32.toInt8.toInt32)), (.int ((XT.ushrL (p2 &&& (65535 : Int32)).toInt64 (0 : Int32)).toInt32.toInt8.toInt32))]) ++ own_s f48 [(.int ((XT.ushrL (p3 &&& (281474976710655 : Int64)) (40 : Int32)).toInt32.toInt8.toInt32)), (.int ((XT.ushrL (p3 &&& (281474976710655 : Int64)) (32 : Int32)).toInt32.toInt8.toInt32)), (.int ((XT.ushrL (p3 &&& (281474976710655 : Int64)) (24 : Int32)).toInt32.toInt8.toInt32)), (.int ((XT.ushrL (p3 &&& (281474976710655 : Int64)) (16 : Int32)).toInt32.toInt8.toInt32)), (.int ((XT.ushrL (p3 &&& (281474976710655 : Int64)) (8 : Int32)).toInt32.toInt8.toInt32)), (.int ((XT.ushrL (p3 &&& (281474976710655 : Int64)) (0 : Int32)).toInt32.toInt8.toInt32))]) ++ own_s fb (own_fl mm ((XT.ushr p5 (16 : Int32)).toInt8.toInt32) ((XT.ushr p5 (8 : Int32)).toInt8.toInt32))).length) = (Int32.ofNat (((((([] : List Value) ++ own_s f8 [(.int ((XT.ushrL (p1 &&& (255 : Int32)).toInt64 (0 : Int32)).toInt32.toInt8.toInt32))]) ++ own_s f16 [(.int ((XT.ushrL (p2 &&& (65535 : Int32)).toInt64 (8 : Int32)).toInt32.toInt8.toInt32)), (.int ((XT.ushrL (p2 &&& (65535 : Int32)).toInt64 (0 : Int32)).toInt32.toInt8.toInt32))]) ++ own_s f48 [(.int ((XT.ushrL (p3 &&& (281474976710655 : Int64)) (40 : Int32)).toInt32.toInt8.toInt32)), (.int ((XT.ushrL (p3 &&& (281474976710655 : Int64)) (32 : Int32)).toInt32.toInt8.toInt32)), (.int ((XT.ushrL (p3 &&& (281474976710655 : Int64)) (24 : Int32)).toInt32.toInt8.toInt32)), (.int ((XT.ushrL (p3 &&& (281474976710655 : Int64)) (16 : Int32)).toInt32.toInt8.toInt32)), (.int ((XT.ushrL (p3 &&& (281474976710655 : Int64)) (8 : Int32)).toInt32.toInt8.toInt32)), (.int ((XT.ushrL (p3 &&& (281474976710655 : Int64)) (0 : Int32)).toInt32.toInt8.toInt32))]) ++ own_s fb (own_fl mm ((XT.ushr p5 (16 : Int32)).toInt8.toInt32) ((XT.ushr p5 (8 : Int32)).toInt8.toInt32))) ++ own_s f24 [(.int ((XT.ushrL (p4 &&& (16777215 : Int32)).toInt64 (16 : Int32)).toInt32.toInt8.toInt32)), (.int ((XT.ushrL (p4 &&& (16777215 : Int32)).toInt64 (8 : Int32)).toInt32.toInt8.toInt32)), (.int ((XT.ushrL (p4 &&& (16777215 : Int32)).toInt64 (0 : Int32)).toInt32.toInt8.toInt32))]).length) := by rw [own_s0 c621, List.append_nil]
                                              rw [ep]
                                              exact J621
                                            · refine B.iload 626 rfl at_624 rfl ?_
                                              refine B.if0_eq 681 629 rfl (by decide) rfl at_626 (fun c626 => ?_) (fun c626 => ?_)
                                              · exact absurd c626 (by decide)
                                              · refine B.aload 631 rfl at_629 rfl rfl ?_
                                                refine B.iload 633 rfl at_631 rfl ?_
                                                refine B.iload 635 rfl at_633 rfl ?_
                                                refine B.i2l 636 rfl at_635 ?_
                                                refine B.bipush 638 rfl (16 : Int32) at_636 rfl ?_
                                                refine B.callS 641 rfl at_638 (wd hw 63 rfl) (wd hw 64 rfl) (wd hw 65 rfl) (wd hw 66 rfl) (by decide) [(.ref r), (.int (Int32.ofNat ((((([] : List Value) ++ own_s f8 [(.int ((XT.ushrL (p1 &&& (255 : Int32)).toInt64 (0 : Int32)).toInt32.toInt8.toInt32))]) ++ own_s f16 [(.int ((XT.ushrL (p2 &&& (65535 : Int32)).toInt64 (8 : Int32)).toInt32.toInt8.toInt32)), (.int ((XT.ushrL (p2 &&& (65535 : Int32)).toInt64 (0 : Int32)).toInt32.toInt8.toInt32))]) ++ own_s f48 [(.int ((XT.ushrL (p3 &&& (281474976710655 : Int64)) (40 : Int32)).toInt32.toInt8.toInt32)), (.int ((XT.ushrL (p3 &&& (281474976710655 : Int64)) (32 : Int32)).toInt32.toInt8.toInt32)), (.int ((XT.ushrL (p3 &&& (281474976710655 : Int64)) (24 : Int32)).toInt32.toInt8.toInt32)), (.int ((XT.ushrL (p3 &&& (281474976710655 : Int64)) (16 : Int32)).toInt32.toInt8.toInt32)), (.int ((XT.ushrL (p3 &&& (281474976710655 : Int64)) (8 : Int32)).toInt32.toInt8.toInt32)), (.int ((XT.ushrL (p3 &&& (281474976710655 : Int64)) (0 : Int32)).toInt32.toInt8.toInt32))]) ++ own_s fb (own_fl mm ((XT.ushr p5 (16 : Int32)).toInt8.toInt32) ((XT.ushr p5 (8 : Int32)).toInt8.toInt32))).length)), (.long (((p4 &&& (16777215 : Int32))).toInt64)), (.int (16 : Int32))] [] (rm_eq l Z a0 hw r (((p4 &&& (16777215 : Int32))).toInt64) (16 : Int32) (((((([] : List Value) ++ own_s f8 [(.int ((XT.ushrL (p1 &&& (255 : Int32)).toInt64 (0 : Int32)).toInt32.toInt8.toInt32))]) ++ own_s f16 [(.int ((XT.ushrL (p2 &&& (65535 : Int32)).toInt64 (8 : Int32)).toInt32.toInt8.toInt32)), (.int ((XT.ushrL (p2 &&& (65535 : Int32)).toInt64 (0 : Int32)).toInt32.toInt8.toInt32))]) ++ own_s f48 [(.int ((XT.ushrL (p3 &&& (281474976710655 : Int64)) (40 : Int32)).toInt32.toInt8.toInt32)), (.int ((XT.ushrL (p3 &&& (281474976710655 : Int64)) (32 : Int32)).toInt32.toInt8.toInt32)), (.int ((XT.ushrL (p3 &&& (281474976710655 : Int64)) (24 : Int32)).toInt32.toInt8.toInt32)), (.int ((XT.ushrL (p3 &&& (281474976710655 : Int64)) (16 : Int32)).toInt32.toInt8.toInt32)), (.int ((XT.ushrL (p3 &&& (281474976710655 : Int64)) (8 : Int32)).toInt32.toInt8.toInt32)), (.int ((XT.ushrL (p3 &&& (281474976710655 : Int64)) (0 : Int32)).toInt32.toInt8.toInt32))]) ++ own_s fb (own_fl mm ((XT.ushr p5 (16 : Int32)).toInt8.toInt32) ((XT.ushr p5 (8 : Int32)).toInt8.toInt32))).length + 0) (((((([] : List Value) ++ own_s f8 [(.int ((XT.ushrL (p1 &&& (255 : Int32)).toInt64 (0 : Int32)).toInt32.toInt8.toInt32))]) ++ own_s f16 [(.int ((XT.ushrL (p2 &&& (65535 : Int32)).toInt64 (8 : Int32)).toInt32.toInt8.toInt32)), (.int ((XT.ushrL (p2 &&& (65535 : Int32)).toInt64 (0 : Int32)).toInt32.toInt8.toInt32))]) ++ own_s f48 [(.int ((XT.ushrL (p3 &&& (281474976710655 : Int64)) (40 : Int32)).toInt32.toInt8.toInt32)), (.int ((XT.ushrL (p3 &&& (281474976710655 : Int64)) (32 : Int32)).toInt32.toInt8.toInt32)), (.int ((XT.ushrL (p3 &&& (281474976710655 : Int64)) (24 : Int32)).toInt32.toInt8.toInt32)), (.int ((XT.ushrL (p3 &&& (281474976710655 : Int64)) (16 : Int32)).toInt32.toInt8.toInt32)), (.int ((XT.ushrL (p3 &&& (281474976710655 : Int64)) (8 : Int32)).toInt32.toInt8.toInt32)), (.int ((XT.ushrL (p3 &&& (281474976710655 : Int64)) (0 : Int32)).toInt32.toInt8.toInt32))]) ++ own_s fb (own_fl mm ((XT.ushr p5 (16 : Int32)).toInt8.toInt32) ((XT.ushr p5 (8 : Int32)).toInt8.toInt32))) ++ own_s f24 [(.int ((XT.ushrL (p4 &&& (16777215 : Int32)).toInt64 (16 : Int32)).toInt32.toInt8.toInt32)), (.int ((XT.ushrL (p4 &&& (16777215 : Int32)).toInt64 (8 : Int32)).toInt32.toInt8.toInt32)), (.int ((XT.ushrL (p4 &&& (16777215 : Int32)).toInt64 (0 : Int32)).toInt32.toInt8.toInt32))]) h4 Ar (by omega) (own_last (by rw [own_s1 c621]; rfl))) rfl rfl pd___BIJI_Z rfl rfl 0 rfl (by decide) (by decide) (by decide) (by decide) (fun _ q => nomatch q) ?_
                                                rintro _ _ - ⟨rfl, rfl⟩
                                                show B.G h4 9 1693 (mkF m 641 #[.val (.int p1), .val (.int p2), .val (.long p3), .second, .val (.int p4), .val (.int p5), .val (.int p6), .val (.int f8), .val (.int f16), .val (.int f48), .val (.int fb), .val (.int f24), .val (.int (p1 &&& (255 : Int32))), .val (.int (p2 &&& (65535 : Int32))), .val (.long (p3 &&& (281474976710655 : Int64))), .second, .val (.int (p4 &&& (16777215 : Int32))), .val (.int (Int32.ofNat mm)), .val (.int (((XT.ushr p5 (8 : Int32))).toInt8.toInt32)), .val (.int (((XT.ushr p5 (16 : Int32))).toInt8.toInt32)), .val (.ref fi), .val (.ref wo), .val (.ref r), .val (.int (Int32.ofNat (((((([] : List Value) ++ own_s f8 [(.int ((XT.ushrL (p1 &&& (255 : Int32)).toInt64 (0 : Int32)).toInt32.toInt8.toInt32))]) ++ own_s f16 [(.int ((XT.ushrL (p2 &&& (65535 : Int32)).toInt64 (8 : Int32)).toInt32.toInt8.toInt32)), (.int ((XT.ushrL (p2 &&& (65535 : Int32)).toInt64 (0 : Int32)).toInt32.toInt8.toInt32))]) ++ own_s f48 [(.int ((XT.ushrL (p3 &&& (281474976710655 : Int64)) (40 : Int32)).toInt32.toInt8.toInt32)), (.int ((XT.ushrL (p3 &&& (281474976710655 : Int64)) (32 : Int32)).toInt32.toInt8.toInt32)), (.int ((XT.ushrL (p3 &&& (281474976710655 : Int64)) (24 : Int32)).toInt32.toInt8.toInt32)), (.int ((XT.ushrL (p3 &&& (281474976710655 : Int64)) (16 : Int32)).toInt32.toInt8.toInt32)), (.int ((XT.ushrL (p3 &&& (281474976710655 : Int64)) (8 : Int32)).toInt32.toInt8.toInt32)), (.int ((XT.ushrL (p3 &&& (281474976710655 : Int64)) (0 : Int32)).toInt32.toInt8.toInt32))]) ++ own_s fb (own_fl mm ((XT.ushr p5 (16 : Int32)).toInt8.toInt32) ((XT.ushr p5 (8 : Int32)).toInt8.toInt32))) ++ own_s f24 [(.int ((XT.ushrL (p4 &&& (16777215 : Int32)).toInt64 (16 : Int32)).toInt32.toInt8.toInt32)), (.int ((XT.ushrL (p4 &&& (16777215 : Int32)).toInt64 (8 : Int32)).toInt32.toInt8.toInt32)), (.int ((XT.ushrL (p4 &&& (16777215 : Int32)).toInt64 (0 : Int32)).toInt32.toInt8.toInt32))]).length)), .val (.int (1 : Int32)), .val (.int (Int32.ofNat ((((([] : List Value) ++ own_s f8 [(.int ((XT.ushrL (p1 &&& (255 : Int32)).toInt64 (0 : Int32)).toInt32.toInt8.toInt32))]) ++ own_s f16 [(.int ((XT.ushrL (p2 &&& (65535 : Int32)).toInt64 (8 : Int32)).toInt32.toInt8.toInt32)), (.int ((XT.ushrL (p2 &&& (65535 : Int32)).toInt64 (0 : Int32)).toInt32.toInt8.toInt32))]) ++ own_s f48 [(.int ((XT.ushrL (p3 &&& (281474976710655 : Int64)) (40 : Int32)).toInt32.toInt8.toInt32)), (.int ((XT.ushrL (p3 &&& (281474976710655 : Int64)) (32 : Int32)).toInt32.toInt8.toInt32)), (.int ((XT.ushrL (p3 &&& (281474976710655 : Int64)) (24 : Int32)).toInt32.toInt8.toInt32)), (.int ((XT.ushrL (p3 &&& (281474976710655 : Int64)) (16 : Int32)).toInt32.toInt8.toInt32)), (.int ((XT.ushrL (p3 &&& (281474976710655 : Int64)) (8 : Int32)).toInt32.toInt8.toInt32)), (.int ((XT.ushrL (p3 &&& (281474976710655 : Int64)) (0 : Int32)).toInt32.toInt8.toInt32))]) ++ own_s fb (own_fl mm ((XT.ushr p5 (16 : Int32)).toInt8.toInt32) ((XT.ushr p5 (8 : Int32)).toInt8.toInt32))).length)), .unset, .unset] [(.int (1 : Int32))])
                                                refine B.if0_eq 681 644 rfl (by decide) rfl at_641 (fun c641 => ?_) (fun c641 => ?_)
                                                · exact absurd c641 (by decide)
                                                · refine B.aload 646 rfl at_644 rfl rfl ?_
                                                  refine B.iload 648 rfl at_646 rfl ?_
                                                  refine B.iconst 649 rfl (1 : Int32) at_648 rfl ?_
                                                  refine B.iadd 650 rfl at_649 ?_
                                                  refine B.topI (Int32.ofNat (((((([] : List Value) ++ own_s f8 [(.int ((XT.ushrL (p1 &&& (255 : Int32)).toInt64 (0 : Int32)).toInt32.toInt8.toInt32))]) ++ own_s f16 [(.int ((XT.ushrL (p2 &&& (65535 : Int32)).toInt64 (8 : Int32)).toInt32.toInt8.toInt32)), (.int ((XT.ushrL (p2 &&& (65535 : Int32)).toInt64 (0 : Int32)).toInt32.toInt8.toInt32))]) ++ own_s f48 [(.int ((XT.ushrL (p3 &&& (281474976710655 : Int64)) (40 : Int32)).toInt32.toInt8.toInt32)), (.int ((XT.ushrL (p3 &&& (281474976710655 : Int64)) (32 : Int32)).toInt32.toInt8.toInt32)), (.int ((XT.ushrL (p3 &&& (281474976710655 : Int64)) (24 : Int32)).toInt32.toInt8.toInt32)), (.int ((XT.ushrL (p3 &&& (281474976710655 : Int64)) (16 : Int32)).toInt32.toInt8.toInt32)), (.int ((XT.ushrL (p3 &&& (281474976710655 : Int64)) (8 : Int32)).toInt32.toInt8.toInt32)), (.int ((XT.ushrL (p3 &&& (281474976710655 : Int64)) (0 : Int32)).toInt32.toInt8.toInt32))]) ++ own_s fb (own_fl mm ((XT.ushr p5 (16 : Int32)).toInt8.toInt32) ((XT.ushr p5 (8 : Int32)).toInt8.toInt32))).length + 1)) (own_add _ 1) ?_
                                                  refine B.iload 652 rfl at_650 rfl ?_
                                                  refine B.i2l 653 rfl at_652 ?_
                                                  refine B.bipush 655 rfl (8 : Int32) at_653 rfl ?_
                                                  refine B.callS 658 rfl at_655 (wd hw 63 rfl) (wd hw 64 rfl) (wd hw 65 rfl) (wd hw 66 rfl) (by decide) [(.ref r), (.int (Int32.ofNat (((((([] : List Value) ++ own_s f8 [(.int ((XT.ushrL (p1 &&& (255 : Int32)).toInt64 (0 : Int32)).toInt32.toInt8.toInt32))]) ++ own_s f16 [(.int ((XT.ushrL (p2 &&& (65535 : Int32)).toInt64 (8 : Int32)).toInt32.toInt8.toInt32)), (.int ((XT.ushrL (p2 &&& (65535 : Int32)).toInt64 (0 : Int32)).toInt32.toInt8.toInt32))]) ++ own_s f48 [(.int ((XT.ushrL (p3 &&& (281474976710655 : Int64)) (40 : Int32)).toInt32.toInt8.toInt32)), (.int ((XT.ushrL (p3 &&& (281474976710655 : Int64)) (32 : Int32)).toInt32.toInt8.toInt32)), (.int ((XT.ushrL (p3 &&& (281474976710655 : Int64)) (24 : Int32)).toInt32.toInt8.toInt32)), (.int ((XT.ushrL (p3 &&& (281474976710655 : Int64)) (16 : Int32)).toInt32.toInt8.toInt32)), (.int ((XT.ushrL (p3 &&& (281474976710655 : Int64)) (8 : Int32)).toInt32.toInt8.toInt32)), (.int ((XT.ushrL (p3 &&& (281474976710655 : Int64)) (0 : Int32)).toInt32.toInt8.toInt32))]) ++ own_s fb (own_fl mm ((XT.ushr p5 (16 : Int32)).toInt8.toInt32) ((XT.ushr p5 (8 : Int32)).toInt8.toInt32))).length + 1))), (.long (((p4 &&& (16777215 : Int32))).toInt64)), (.int (8 : Int32))] [] (rm_eq l Z a0 hw r (((p4 &&& (16777215 : Int32))).toInt64) (8 : Int32) (((((([] : List Value) ++ own_s f8 [(.int ((XT.ushrL (p1 &&& (255 : Int32)).toInt64 (0 : Int32)).toInt32.toInt8.toInt32))]) ++ own_s f16 [(.int ((XT.ushrL (p2 &&& (65535 : Int32)).toInt64 (8 : Int32)).toInt32.toInt8.toInt32)), (.int ((XT.ushrL (p2 &&& (65535 : Int32)).toInt64 (0 : Int32)).toInt32.toInt8.toInt32))]) ++ own_s f48 [(.int ((XT.ushrL (p3 &&& (281474976710655 : Int64)) (40 : Int32)).toInt32.toInt8.toInt32)), (.int ((XT.ushrL (p3 &&& (281474976710655 : Int64)) (32 : Int32)).toInt32.toInt8.toInt32)), (.int ((XT.ushrL (p3 &&& (281474976710655 : Int64)) (24 : Int32)).toInt32.toInt8.toInt32)), (.int ((XT.ushrL (p3 &&& (281474976710655 : Int64)) (16 : Int32)).toInt32.toInt8.toInt32)), (.int ((XT.ushrL (p3 &&& (281474976710655 : Int64)) (8 : Int32)).toInt32.toInt8.toInt32)), (.int ((XT.ushrL (p3 &&& (281474976710655 : Int64)) (0 : Int32)).toInt32.toInt8.toInt32))]) ++ own_s fb (own_fl mm ((XT.ushr p5 (16 : Int32)).toInt8.toInt32) ((XT.ushr p5 (8 : Int32)).toInt8.toInt32))).length + 1) (((((([] : List Value) ++ own_s f8 [(.int ((XT.ushrL (p1 &&& (255 : Int32)).toInt64 (0 : Int32)).toInt32.toInt8.toInt32))]) ++ own_s f16 [(.int ((XT.ushrL (p2 &&& (65535 : Int32)).toInt64 (8 : Int32)).toInt32.toInt8.toInt32)), (.int ((XT.ushrL (p2 &&& (65535 : Int32)).toInt64 (0 : Int32)).toInt32.toInt8.toInt32))]) ++ own_s f48 [(.int ((XT.ushrL (p3 &&& (281474976710655 : Int64)) (40 : Int32)).toInt32.toInt8.toInt32)), (.int ((XT.ushrL (p3 &&& (281474976710655 : Int64)) (32 : Int32)).toInt32.toInt8.toInt32)), (.int ((XT.ushrL (p3 &&& (281474976710655 : Int64)) (24 : Int32)).toInt32.toInt8.toInt32)), (.int ((XT.ushrL (p3 &&& (281474976710655 : Int64)) (16 : Int32)).toInt32.toInt8.toInt32)), (.int ((XT.ushrL (p3 &&& (281474976710655 : Int64)) (8 : Int32)).toInt32.toInt8.toInt32)), (.int ((XT.ushrL (p3 &&& (281474976710655 : Int64)) (0 : Int32)).toInt32.toInt8.toInt32))]) ++ own_s fb (own_fl mm ((XT.ushr p5 (16 : Int32)).toInt8.toInt32) ((XT.ushr p5 (8 : Int32)).toInt8.toInt32))) ++ own_s f24 [(.int ((XT.ushrL (p4 &&& (16777215 : Int32)).toInt64 (16 : Int32)).toInt32.toInt8.toInt32)), (.int ((XT.ushrL (p4 &&& (16777215 : Int32)).toInt64 (8 : Int32)).toInt32.toInt8.toInt32)), (.int ((XT.ushrL (p4 &&& (16777215 : Int32)).toInt64 (0 : Int32)).toInt32.toInt8.toInt32))]) h4 Ar (by omega) (own_last (by rw [own_s1 c621]; rfl))) rfl rfl pd___BIJI_Z rfl rfl 0 rfl (by decide) (by decide) (by decide) (by decide) (fun _ q => nomatch q) ?_
                                                  rintro _ _ - ⟨rfl, rfl⟩
                                                  show B.G h4 9 1693 (mkF m 658 #[.val (.int p1), .val (.int p2), .val (.long p3), .second, .val (.int p4), .val (.int p5), .val (.int p6), .val (.int f8), .val (.int f16), .val (.int f48), .val (.int fb), .val (.int f24), .val (.int (p1 &&& (255 : Int32))), .val (.int (p2 &&& (65535 : Int32))), .val (.long (p3 &&& (281474976710655 : Int64))), .second, .val (.int (p4 &&& (16777215 : Int32))), .val (.int (Int32.ofNat mm)), .val (.int (((XT.ushr p5 (8 : Int32))).toInt8.toInt32)), .val (.int (((XT.ushr p5 (16 : Int32))).toInt8.toInt32)), .val (.ref fi), .val (.ref wo), .val (.ref r), .val (.int (Int32.ofNat (((((([] : List Value) ++ own_s f8 [(.int ((XT.ushrL (p1 &&& (255 : Int32)).toInt64 (0 : Int32)).toInt32.toInt8.toInt32))]) ++ own_s f16 [(.int ((XT.ushrL (p2 &&& (65535 : Int32)).toInt64 (8 : Int32)).toInt32.toInt8.toInt32)), (.int ((XT.ushrL (p2 &&& (65535 : Int32)).toInt64 (0 : Int32)).toInt32.toInt8.toInt32))]) ++ own_s f48 [(.int ((XT.ushrL (p3 &&& (281474976710655 : Int64)) (40 : Int32)).toInt32.toInt8.toInt32)), (.int ((XT.ushrL (p3 &&& (281474976710655 : Int64)) (32 : Int32)).toInt32.toInt8.toInt32)), (.int ((XT.ushrL (p3 &&& (281474976710655 : Int64)) (24 : Int32)).toInt32.toInt8.toInt32)), (.int ((XT.ushrL (p3 &&& (281474976710655 : Int64)) (16 : Int32)).toInt32.toInt8.toInt32)), (.int ((XT.ushrL (p3 &&& (281474976710655 : Int64)) (8 : Int32)).toInt32.toInt8.toInt32)), (.int ((XT.ushrL (p3 &&& (281474976710655 : Int64)) (0 : Int32)).toInt32.toInt8.toInt32))]) ++ own_s fb (own_fl mm ((XT.ushr p5 (16 : Int32)).toInt8.toInt32) ((XT.ushr p5 (8 : Int32)).toInt8.toInt32))) ++ own_s f24 [(.int ((XT.ushrL (p4 &&& (16777215 : Int32)).toInt64 (16 : Int32)).toInt32.toInt8.toInt32)), (.int ((XT.ushrL (p4 &&& (16777215 : Int32)).toInt64 (8 : Int32)).toInt32.toInt8.toInt32)), (.int ((XT.ushrL (p4 &&& (16777215 : Int32)).toInt64 (0 : Int32)).toInt32.toInt8.toInt32))]).length)), .val (.int (1 : Int32)), .val (.int (Int32.ofNat ((((([] : List Value) ++ own_s f8 [(.int ((XT.ushrL (p1 &&& (255 : Int32)).toInt64 (0 : Int32)).toInt32.toInt8.toInt32))]) ++ own_s f16 [(.int ((XT.ushrL (p2 &&& (65535 : Int32)).toInt64 (8 : Int32)).toInt32.toInt8.toInt32)), (.int ((XT.ushrL (p2 &&& (65535 : Int32)).toInt64 (0 : Int32)).toInt32.toInt8.toInt32))]) ++ own_s f48 [(.int ((XT.ushrL (p3 &&& (281474976710655 : Int64)) (40 : Int32)).toInt32.toInt8.toInt32)), (.int ((XT.ushrL (p3 &&& (281474976710655 : Int64)) (32 : Int32)).toInt32.toInt8.toInt32)), (.int ((XT.ushrL (p3 &&& (281474976710655 : Int64)) (24 : Int32)).toInt32.toInt8.toInt32)), (.int ((XT.ushrL (p3 &&& (281474976710655 : Int64)) (16 : Int32)).toInt32.toInt8.toInt32)), (.int ((XT.ushrL (p3 &&& (281474976710655 : Int64)) (8 : Int32)).toInt32.toInt8.toInt32)), (.int ((XT.ushrL (p3 &&& (281474976710655 : Int64)) (0 : Int32)).toInt32.toInt8.toInt32))]) ++ own_s fb (own_fl mm ((XT.ushr p5 (16 : Int32)).toInt8.toInt32) ((XT.ushr p5 (8 : Int32)).toInt8.toInt32))).length)), .unset, .unset] [(.int (1 : Int32))])
                                                  refine B.if0_eq 681 661 rfl (by decide) rfl at_658 (fun c658 => ?_) (fun c658 => ?_)
                                                  · exact absurd c658 (by decide)
                                                  · refine B.aload 663 rfl at_661 rfl rfl ?_
                                                    refine B.iload 665 rfl at_663 rfl ?_
                                                    refine B.iconst 666 rfl (2 : Int32) at_665 rfl ?_
                                                    refine B.iadd 667 rfl at_666 ?_
                                                    refine B.topI (Int32.ofNat (((((([] : List Value) ++ own_s f8 [(.int ((XT.ushrL (p1 &&& (255 : Int32)).toInt64 (0 : Int32)).toInt32.toInt8.toInt32))]) ++ own_s f16 [(.int ((XT.ushrL (p2 &&& (65535 : Int32)).toInt64 (8 : Int32)).toInt32.toInt8.toInt32)), (.int ((XT.ushrL (p2 &&& (65535 : Int32)).toInt64 (0 : Int32)).toInt32.toInt8.toInt32))]) ++ own_s f48 [(.int ((XT.ushrL (p3 &&& (281474976710655 : Int64)) (40 : Int32)).toInt32.toInt8.toInt32)), (.int ((XT.ushrL (p3 &&& (281474976710655 : Int64)) (32 : Int32)).toInt32.toInt8.toInt32)), (.int ((XT.ushrL (p3 &&& (281474976710655 : Int64)) (24 : Int32)).toInt32.toInt8.toInt32)), (.int ((XT.ushrL (p3 &&& (281474976710655 : Int64)) (16 : Int32)).toInt32.toInt8.toInt32)), (.int ((XT.ushrL (p3 &&& (281474976710655 : Int64)) (8 : Int32)).toInt32.toInt8.toInt32)), (.int ((XT.ushrL (p3 &&& (281474976710655 : Int64)) (0 : Int32)).toInt32.toInt8.toInt32))]) ++ own_s fb (own_fl mm ((XT.ushr p5 (16 : Int32)).toInt8.toInt32) ((XT.ushr p5 (8 : Int32)).toInt8.toInt32))).length + 2)) (own_add _ 2) ?_
                                                    refine B.iload 669 rfl at_667 rfl ?_
                                                    refine B.i2l 670 rfl at_669 ?_
                                                    refine B.iconst 671 rfl (0 : Int32) at_670 rfl ?_
                                                    refine B.callS 674 rfl at_671 (wd hw 63 rfl) (wd hw 64 rfl) (wd hw 65 rfl) (wd hw 66 rfl) (by decide) [(.ref r), (.int (Int32.ofNat (((((([] : List Value) ++ own_s f8 [(.int ((XT.ushrL (p1 &&& (255 : Int32)).toInt64 (0 : Int32)).toInt32.toInt8.toInt32))]) ++ own_s f16 [(.int ((XT.ushrL (p2 &&& (65535 : Int32)).toInt64 (8 : Int32)).toInt32.toInt8.toInt32)), (.int ((XT.ushrL (p2 &&& (65535 : Int32)).toInt64 (0 : Int32)).toInt32.toInt8.toInt32))]) ++ own_s f48 [(.int ((XT.ushrL (p3 &&& (281474976710655 : Int64)) (40 : Int32)).toInt32.toInt8.toInt32)), (.int ((XT.ushrL (p3 &&& (281474976710655 : Int64)) (32 : Int32)).toInt32.toInt8.toInt32)), (.int ((XT.ushrL (p3 &&& (281474976710655 : Int64)) (24 : Int32)).toInt32.toInt8.toInt32)), (.int ((XT.ushrL (p3 &&& (281474976710655 : Int64)) (16 : Int32)).toInt32.toInt8.toInt32)), (.int ((XT.ushrL (p3 &&& (281474976710655 : Int64)) (8 : Int32)).toInt32.toInt8.toInt32)), (.int ((XT.ushrL (p3 &&& (281474976710655 : Int64)) (0 : Int32)).toInt32.toInt8.toInt32))]) ++ own_s fb (own_fl mm ((XT.ushr p5 (16 : Int32)).toInt8.toInt32) ((XT.ushr p5 (8 : Int32)).toInt8.toInt32))).length + 2))), (.long (((p4 &&& (16777215 : Int32))).toInt64)), (.int (0 : Int32))] [] (rm_eq l Z a0 hw r (((p4 &&& (16777215 : Int32))).toInt64) (0 : Int32) (((((([] : List Value) ++ own_s f8 [(.int ((XT.ushrL (p1 &&& (255 : Int32)).toInt64 (0 : Int32)).toInt32.toInt8.toInt32))]) ++ own_s f16 [(.int ((XT.ushrL (p2 &&& (65535 : Int32)).toInt64 (8 : Int32)).toInt32.toInt8.toInt32)), (.int ((XT.ushrL (p2 &&& (65535 : Int32)).toInt64 (0 : Int32)).toInt32.toInt8.toInt32))]) ++ own_s f48 [(.int ((XT.ushrL (p3 &&& (281474976710655 : Int64)) (40 : Int32)).toInt32.toInt8.toInt32)), (.int ((XT.ushrL (p3 &&& (281474976710655 : Int64)) (32 : Int32)).toInt32.toInt8.toInt32)), (.int ((XT.ushrL (p3 &&& (281474976710655 : Int64)) (24 : Int32)).toInt32.toInt8.toInt32)), (.int ((XT.ushrL (p3 &&& (281474976710655 : Int64)) (16 : Int32)).toInt32.toInt8.toInt32)), (.int ((XT.ushrL (p3 &&& (281474976710655 : Int64)) (8 : Int32)).toInt32.toInt8.toInt32)), (.int ((XT.ushrL (p3 &&& (281474976710655 : Int64)) (0 : Int32)).toInt32.toInt8.toInt32))]) ++ own_s fb (own_fl mm ((XT.ushr p5 (16 : Int32)).toInt8.toInt32) ((XT.ushr p5 (8 : Int32)).toInt8.toInt32))).length + 2) (((((([] : List Value) ++ own_s f8 [(.int ((XT.ushrL (p1 &&& (255 : Int32)).toInt64 (0 : Int32)).toInt32.toInt8.toInt32))]) ++ own_s f16 [(.int ((XT.ushrL (p2 &&& (65535 : Int32)).toInt64 (8 : Int32)).toInt32.toInt8.toInt32)), (.int ((XT.ushrL (p2 &&& (65535 : Int32)).toInt64 (0 : Int32)).toInt32.toInt8.toInt32))]) ++ own_s f48 [(.int ((XT.ushrL (p3 &&& (281474976710655 : Int64)) (40 : Int32)).toInt32.toInt8.toInt32)), (.int ((XT.ushrL (p3 &&& (281474976710655 : Int64)) (32 : Int32)).toInt32.toInt8.toInt32)), (.int ((XT.ushrL (p3 &&& (281474976710655 : Int64)) (24 : Int32)).toInt32.toInt8.toInt32)), (.int ((XT.ushrL (p3 &&& (281474976710655 : Int64)) (16 : Int32)).toInt32.toInt8.toInt32)), (.int ((XT.ushrL (p3 &&& (281474976710655 : Int64)) (8 : Int32)).toInt32.toInt8.toInt32)), (.int ((XT.ushrL (p3 &&& (281474976710655 : Int64)) (0 : Int32)).toInt32.toInt8.toInt32))]) ++ own_s fb (own_fl mm ((XT.ushr p5 (16 : Int32)).toInt8.toInt32) ((XT.ushr p5 (8 : Int32)).toInt8.toInt32))) ++ own_s f24 [(.int ((XT.ushrL (p4 &&& (16777215 : Int32)).toInt64 (16 : Int32)).toInt32.toInt8.toInt32)), (.int ((XT.ushrL (p4 &&& (16777215 : Int32)).toInt64 (8 : Int32)).toInt32.toInt8.toInt32)), (.int ((XT.ushrL (p4 &&& (16777215 : Int32)).toInt64 (0 : Int32)).toInt32.toInt8.toInt32))]) h4 Ar (by omega) (own_last (by rw [own_s1 c621]; rfl))) rfl rfl pd___BIJI_Z rfl rfl 0 rfl (by decide) (by decide) (by decide) (by decide) (fun _ q => nomatch q) ?_
                                                    rintro _ _ - ⟨rfl, rfl⟩
                                                    show B.G h4 9 1693 (mkF m 674 #[.val (.int p1), .val (.int p2), .val (.long p3), .second, .val (.int p4), .val (.int p5), .val (.int p6), .val (.int f8), .val (.int f16), .val (.int f48), .val (.int fb), .val (.int f24), .val (.int (p1 &&& (255 : Int32))), .val (.int (p2 &&& (65535 : Int32))), .val (.long (p3 &&& (281474976710655 : Int64))), .second, .val (.int (p4 &&& (16777215 : Int32))), .val (.int (Int32.ofNat mm)), .val (.int (((XT.ushr p5 (8 : Int32))).toInt8.toInt32)), .val (.int (((XT.ushr p5 (16 : Int32))).toInt8.toInt32)), .val (.ref fi), .val (.ref wo), .val (.ref r), .val (.int (Int32.ofNat (((((([] : List Value) ++ own_s f8 [(.int ((XT.ushrL (p1 &&& (255 : Int32)).toInt64 (0 : Int32)).toInt32.toInt8.toInt32))]) ++ own_s f16 [(.int ((XT.ushrL (p2 &&& (65535 : Int32)).toInt64 (8 : Int32)).toInt32.toInt8.toInt32)), (.int ((XT.ushrL (p2 &&& (65535 : Int32)).toInt64 (0 : Int32)).toInt32.toInt8.toInt32))]) ++ own_s f48 [(.int ((XT.ushrL (p3 &&& (281474976710655 : Int64)) (40 : Int32)).toInt32.toInt8.toInt32)), (.int ((XT.ushrL (p3 &&& (281474976710655 : Int64)) (32 : Int32)).toInt32.toInt8.toInt32)), (.int ((XT.ushrL (p3 &&& (281474976710655 : Int64)) (24 : Int32)).toInt32.toInt8.toInt32)), (.int ((XT.ushrL (p3 &&& (281474976710655 : Int64)) (16 : Int32)).toInt32.toInt8.toInt32)), (.int ((XT.ushrL (p3 &&& (281474976710655 : Int64)) (8 : Int32)).toInt32.toInt8.toInt32)), (.int ((XT.ushrL (p3 &&& (281474976710655 : Int64)) (0 : Int32)).toInt32.toInt8.toInt32))]) ++ own_s fb (own_fl mm ((XT.ushr p5 (16 : Int32)).toInt8.toInt32) ((XT.ushr p5 (8 : Int32)).toInt8.toInt32))) ++ own_s f24 [(.int ((XT.ushrL (p4 &&& (16777215 : Int32)).toInt64 (16 : Int32)).toInt32.toInt8.toInt32)), (.int ((XT.ushrL (p4 &&& (16777215 : Int32)).toInt64 (8 : Int32)).toInt32.toInt8.toInt32)), (.int ((XT.ushrL (p4 &&& (16777215 : Int32)).toInt64 (0 : Int32)).toInt32.toInt8.toInt32))]).length)), .val (.int (1 : Int32)), .val (.int (Int32.ofNat ((((([] : List Value) ++ own_s f8 [(.int ((XT.ushrL (p1 &&& (255 : Int32)).toInt64 (0 : Int32)).toInt32.toInt8.toInt32))]) ++ own_s f16 [(.int ((XT.ushrL (p2 &&& (65535 : Int32)).toInt64 (8 : Int32)).toInt32.toInt8.toInt32)), (.int ((XT.ushrL (p2 &&& (65535 : Int32)).toInt64 (0 : Int32)).toInt32.toInt8.toInt32))]) ++ own_s f48 [(.int ((XT.ushrL (p3 &&& (281474976710655 : Int64)) (40 : Int32)).toInt32.toInt8.toInt32)), (.int ((XT.ushrL (p3 &&& (281474976710655 : Int64)) (32 : Int32)).toInt32.toInt8.toInt32)), (.int ((XT.ushrL (p3 &&& (281474976710655 : Int64)) (24 : Int32)).toInt32.toInt8.toInt32)), (.int ((XT.ushrL (p3 &&& (281474976710655 : Int64)) (16 : Int32)).toInt32.toInt8.toInt32)), (.int ((XT.ushrL (p3 &&& (281474976710655 : Int64)) (8 : Int32)).toInt32.toInt8.toInt32)), (.int ((XT.ushrL (p3 &&& (281474976710655 : Int64)) (0 : Int32)).toInt32.toInt8.toInt32))]) ++ own_s fb (own_fl mm ((XT.ushr p5 (16 : Int32)).toInt8.toInt32) ((XT.ushr p5 (8 : Int32)).toInt8.toInt32))).length)), .unset, .unset] [(.int (1 : Int32))])
                                                    refine B.if0_eq 681 677 rfl (by decide) rfl at_674 (fun c674 => ?_) (fun c674 => ?_)
                                                    · exact absurd c674 (by decide)
                                                    · refine B.iconst 678 rfl (1 : Int32) at_677 rfl ?_
                                                      refine B.goto 682 rfl (by decide) at_678 ?_
                                                      refine B.istore 684 rfl at_682 #[.val (.int p1), .val (.int p2), .val (.long p3), .second, .val (.int p4), .val (.int p5), .val (.int p6), .val (.int f8), .val (.int f16), .val (.int f48), .val (.int fb), .val (.int f24), .val (.int (p1 &&& (255 : Int32))), .val (.int (p2 &&& (65535 : Int32))), .val (.long (p3 &&& (281474976710655 : Int64))), .second, .val (.int (p4 &&& (16777215 : Int32))), .val (.int (Int32.ofNat mm)), .val (.int (((XT.ushr p5 (8 : Int32))).toInt8.toInt32)), .val (.int (((XT.ushr p5 (16 : Int32))).toInt8.toInt32)), .val (.ref fi), .val (.ref wo), .val (.ref r), .val (.int (Int32.ofNat (((((([] : List Value) ++ own_s f8 [(.int ((XT.ushrL (p1 &&& (255 : Int32)).toInt64 (0 : Int32)).toInt32.toInt8.toInt32))]) ++ own_s f16 [(.int ((XT.ushrL (p2 &&& (65535 : Int32)).toInt64 (8 : Int32)).toInt32.toInt8.toInt32)), (.int ((XT.ushrL (p2 &&& (65535 : Int32)).toInt64 (0 : Int32)).toInt32.toInt8.toInt32))]) ++ own_s f48 [(.int ((XT.ushrL (p3 &&& (281474976710655 : Int64)) (40 : Int32)).toInt32.toInt8.toInt32)), (.int ((XT.ushrL (p3 &&& (281474976710655 : Int64)) (32 : Int32)).toInt32.toInt8.toInt32)), (.int ((XT.ushrL (p3 &&& (281474976710655 : Int64)) (24 : Int32)).toInt32.toInt8.toInt32)), (.int ((XT.ushrL (p3 &&& (281474976710655 : Int64)) (16 : Int32)).toInt32.toInt8.toInt32)), (.int ((XT.ushrL (p3 &&& (281474976710655 : Int64)) (8 : Int32)).toInt32.toInt8.toInt32)), (.int ((XT.ushrL (p3 &&& (281474976710655 : Int64)) (0 : Int32)).toInt32.toInt8.toInt32))]) ++ own_s fb (own_fl mm ((XT.ushr p5 (16 : Int32)).toInt8.toInt32) ((XT.ushr p5 (8 : Int32)).toInt8.toInt32))) ++ own_s f24 [(.int ((XT.ushrL (p4 &&& (16777215 : Int32)).toInt64 (16 : Int32)).toInt32.toInt8.toInt32)), (.int ((XT.ushrL (p4 &&& (16777215 : Int32)).toInt64 (8 : Int32)).toInt32.toInt8.toInt32)), (.int ((XT.ushrL (p4 &&& (16777215 : Int32)).toInt64 (0 : Int32)).toInt32.toInt8.toInt32))]).length)), .val (.int (1 : Int32)), .val (.int (Int32.ofNat ((((([] : List Value) ++ own_s f8 [(.int ((XT.ushrL (p1 &&& (255 : Int32)).toInt64 (0 : Int32)).toInt32.toInt8.toInt32))]) ++ own_s f16 [(.int ((XT.ushrL (p2 &&& (65535 : Int32)).toInt64 (8 : Int32)).toInt32.toInt8.toInt32)), (.int ((XT.ushrL (p2 &&& (65535 : Int32)).toInt64 (0 : Int32)).toInt32.toInt8.toInt32))]) ++ own_s f48 [(.int ((XT.ushrL (p3 &&& (281474976710655 : Int64)) (40 : Int32)).toInt32.toInt8.toInt32)), (.int ((XT.ushrL (p3 &&& (281474976710655 : Int64)) (32 : Int32)).toInt32.toInt8.toInt32)), (.int ((XT.ushrL (p3 &&& (281474976710655 : Int64)) (24 : Int32)).toInt32.toInt8.toInt32)), (.int ((XT.ushrL (p3 &&& (281474976710655 : Int64)) (16 : Int32)).toInt32.toInt8.toInt32)), (.int ((XT.ushrL (p3 &&& (281474976710655 : Int64)) (8 : Int32)).toInt32.toInt8.toInt32)), (.int ((XT.ushrL (p3 &&& (281474976710655 : Int64)) (0 : Int32)).toInt32.toInt8.toInt32))]) ++ own_s fb (own_fl mm ((XT.ushr p5 (16 : Int32)).toInt8.toInt32) ((XT.ushr p5 (8 : Int32)).toInt8.toInt32))).length)), .unset, .unset] rfl ?_
                                                      refine B.iload 686 rfl at_684 rfl ?_
                                                      refine B.iconst 687 rfl (3 : Int32) at_686 rfl ?_
                                                      refine B.iadd 688 rfl at_687 ?_
                                                      refine B.topI (Int32.ofNat (((((([] : List Value) ++ own_s f8 [(.int ((XT.ushrL (p1 &&& (255 : Int32)).toInt64 (0 : Int32)).toInt32.toInt8.toInt32))]) ++ own_s f16 [(.int ((XT.ushrL (p2 &&& (65535 : Int32)).toInt64 (8 : Int32)).toInt32.toInt8.toInt32)), (.int ((XT.ushrL (p2 &&& (65535 : Int32)).toInt64 (0 : Int32)).toInt32.toInt8.toInt32))]) ++ own_s f48 [(.int ((XT.ushrL (p3 &&& (281474976710655 : Int64)) (40 : Int32)).toInt32.toInt8.toInt32)), (.int ((XT.ushrL (p3 &&& (281474976710655 : Int64)) (32 : Int32)).toInt32.toInt8.toInt32)), (.int ((XT.ushrL (p3 &&& (281474976710655 : Int64)) (24 : Int32)).toInt32.toInt8.toInt32)), (.int ((XT.ushrL (p3 &&& (281474976710655 : Int64)) (16 : Int32)).toInt32.toInt8.toInt32)), (.int ((XT.ushrL (p3 &&& (281474976710655 : Int64)) (8 : Int32)).toInt32.toInt8.toInt32)), (.int ((XT.ushrL (p3 &&& (281474976710655 : Int64)) (0 : Int32)).toInt32.toInt8.toInt32))]) ++ own_s fb (own_fl mm ((XT.ushr p5 (16 : Int32)).toInt8.toInt32) ((XT.ushr p5 (8 : Int32)).toInt8.toInt32))) ++ own_s f24 [(.int ((XT.ushrL (p4 &&& (16777215 : Int32)).toInt64 (16 : Int32)).toInt32.toInt8.toInt32)), (.int ((XT.ushrL (p4 &&& (16777215 : Int32)).toInt64 (8 : Int32)).toInt32.toInt8.toInt32)), (.int ((XT.ushrL (p4 &&& (16777215 : Int32)).toInt64 (0 : Int32)).toInt32.toInt8.toInt32))]).length) (own_padd c621 rfl) ?_
                                                      refine B.istore 690 rfl at_688 #[.val (.int p1), .val (.int p2), .val (.long p3), .second, .val (.int p4), .val (.int p5), .val (.int p6), .val (.int f8), .val (.int f16), .val (.int f48), .val (.int fb), .val (.int f24), .val (.int (p1 &&& (255 : Int32))), .val (.int (p2 &&& (65535 : Int32))), .val (.long (p3 &&& (281474976710655 : Int64))), .second, .val (.int (p4 &&& (16777215 : Int32))), .val (.int (Int32.ofNat mm)), .val (.int (((XT.ushr p5 (8 : Int32))).toInt8.toInt32)), .val (.int (((XT.ushr p5 (16 : Int32))).toInt8.toInt32)), .val (.ref fi), .val (.ref wo), .val (.ref r), .val (.int (Int32.ofNat (((((([] : List Value) ++ own_s f8 [(.int ((XT.ushrL (p1 &&& (255 : Int32)).toInt64 (0 : Int32)).toInt32.toInt8.toInt32))]) ++ own_s f16 [(.int ((XT.ushrL (p2 &&& (65535 : Int32)).toInt64 (8 : Int32)).toInt32.toInt8.toInt32)), (.int ((XT.ushrL (p2 &&& (65535 : Int32)).toInt64 (0 : Int32)).toInt32.toInt8.toInt32))]) ++ own_s f48 [(.int ((XT.ushrL (p3 &&& (281474976710655 : Int64)) (40 : Int32)).toInt32.toInt8.toInt32)), (.int ((XT.ushrL (p3 &&& (281474976710655 : Int64)) (32 : Int32)).toInt32.toInt8.toInt32)), (.int ((XT.ushrL (p3 &&& (281474976710655 : Int64)) (24 : Int32)).toInt32.toInt8.toInt32)), (.int ((XT.ushrL (p3 &&& (281474976710655 : Int64)) (16 : Int32)).toInt32.toInt8.toInt32)), (.int ((XT.ushrL (p3 &&& (281474976710655 : Int64)) (8 : Int32)).toInt32.toInt8.toInt32)), (.int ((XT.ushrL (p3 &&& (281474976710655 : Int64)) (0 : Int32)).toInt32.toInt8.toInt32))]) ++ own_s fb (own_fl mm ((XT.ushr p5 (16 : Int32)).toInt8.toInt32) ((XT.ushr p5 (8 : Int32)).toInt8.toInt32))) ++ own_s f24 [(.int ((XT.ushrL (p4 &&& (16777215 : Int32)).toInt64 (16 : Int32)).toInt32.toInt8.toInt32)), (.int ((XT.ushrL (p4 &&& (16777215 : Int32)).toInt64 (8 : Int32)).toInt32.toInt8.toInt32)), (.int ((XT.ushrL (p4 &&& (16777215 : Int32)).toInt64 (0 : Int32)).toInt32.toInt8.toInt32))]).length)), .val (.int (1 : Int32)), .val (.int (Int32.ofNat (((((([] : List Value) ++ own_s f8 [(.int ((XT.ushrL (p1 &&& (255 : Int32)).toInt64 (0 : Int32)).toInt32.toInt8.toInt32))]) ++ own_s f16 [(.int ((XT.ushrL (p2 &&& (65535 : Int32)).toInt64 (8 : Int32)).toInt32.toInt8.toInt32)), (.int ((XT.ushrL (p2 &&& (65535 : Int32)).toInt64 (0 : Int32)).toInt32.toInt8.toInt32))]) ++ own_s f48 [(.int ((XT.ushrL (p3 &&& (281474976710655 : Int64)) (40 : Int32)).toInt32.toInt8.toInt32)), (.int ((XT.ushrL (p3 &&& (281474976710655 : Int64)) (32 : Int32)).toInt32.toInt8.toInt32)), (.int ((XT.ushrL (p3 &&& (281474976710655 : Int64)) (24 : Int32)).toInt32.toInt8.toInt32)), (.int ((XT.ushrL (p3 &&& (281474976710655 : Int64)) (16 : Int32)).toInt32.toInt8.toInt32)), (.int ((XT.ushrL (p3 &&& (281474976710655 : Int64)) (8 : Int32)).toInt32.toInt8.toInt32)), (.int ((XT.ushrL (p3 &&& (281474976710655 : Int64)) (0 : Int32)).toInt32.toInt8.toInt32))]) ++ own_s fb (own_fl mm ((XT.ushr p5 (16 : Int32)).toInt8.toInt32) ((XT.ushr p5 (8 : Int32)).toInt8.toInt32))) ++ own_s f24 [(.int ((XT.ushrL (p4 &&& (16777215 : Int32)).toInt64 (16 : Int32)).toInt32.toInt8.toInt32)), (.int ((XT.ushrL (p4 &&& (16777215 : Int32)).toInt64 (8 : Int32)).toInt32.toInt8.toInt32)), (.int ((XT.ushrL (p4 &&& (16777215 : Int32)).toInt64 (0 : Int32)).toInt32.toInt8.toInt32))]).length)), .unset, .unset] rfl ?_
                                                      exact J621
                                          refine B.if0_eq 619 516 rfl (by decide) rfl at_513 (fun c513 => ?_) (fun c513 => ?_)
                                          · have ep : (Int32.ofNat (((([] : List Value) ++ own_s f8 [(.int ((XT.ushrL (p1 &&& (255 : Int32)).toInt64 (0 : Int32)).toInt32.toInt8.toInt32))]) ++ own_s f16 [(.int ((XT.ushrL (p2 &&& (65535 : Int32)).toInt64 (8 : Int32)).toInt32.toInt8.toInt32)), (.int ((XT.ushrL (p2 &&& (65535 : Int32)).toInt64 (0 : Int32)).toInt32.toInt8.toInt32))]) ++ own_s f48 [(.int ((XT.ushrL (p3 &&& (281474976710655 : Int64)) (40 : Int32)).toInt32.toInt8.toInt32)), (.int ((XT.ushrL (p3 &&& (281474976710655 : Int64)) (32 : Int32)).toInt32.toInt8.toInt32)), (.int ((XT.ushrL (p3 &&& (281474976710655 : Int64)) (24 : Int32)).toInt32.toInt8.toInt32)), (.int ((XT.ushrL (p3 &&& (281474976710655 : Int64)) (16 : Int32)).toInt32.toInt8.toInt32)), (.int ((XT.ushrL (p3 &&& (281474976710655 : Int64)) (8 : Int32)).toInt32.toInt8.toInt32)), (.int ((XT.ushrL (p3 &&& (281474976710655 : Int64)) (0 : Int32)).toInt32.toInt8.toInt32))]).length) = (Int32.ofNat ((((([] : List Value) ++ own_s f8 [(.int ((XT.ushrL (p1 &&& (255 : Int32)).toInt64 (0 : Int32)).toInt32.toInt8.toInt32))]) ++ own_s f16 [(.int ((XT.ushrL (p2 &&& (65535 : Int32)).toInt64 (8 : Int32)).toInt32.toInt8.toInt32)), (.int ((XT.ushrL (p2 &&& (65535 : Int32)).toInt64 (0 : Int32)).toInt32.toInt8.toInt32))]) ++ own_s f48 [(.int ((XT.ushrL (p3 &&& (281474976710655 : Int64)) (40 : Int32)).toInt32.toInt8.toInt32)), (.int ((XT.ushrL (p3 &&& (281474976710655 : Int64)) (32 : Int32)).toInt32.toInt8.toInt32)), (.int ((XT.ushrL (p3 &&& (281474976710655 : Int64)) (24 : Int32)).toInt32.toInt8.toInt32)), (.int ((XT.ushrL (p3 &&& (281474976710655 : Int64)) (16 : Int32)).toInt32.toInt8.toInt32)), (.int ((XT.ushrL (p3 &&& (281474976710655 : Int64)) (8 : Int32)).toInt32.toInt8.toInt32)), (.int ((XT.ushrL (p3 &&& (281474976710655 : Int64)) (0 : Int32)).toInt32.toInt8.toInt32))]) ++ own_s fb (own_fl mm ((XT.ushr p5 (16 : Int32)).toInt8.toInt32) ((XT.ushr p5 (8 : Int32)).toInt8.toInt32))).length) := by rw [own_s0 c513, List.append_nil]
                                            rw [ep]
                                            exact J513
                                          · refine B.iload 518 rfl at_516 rfl ?_
                                            refine B.if0_le 581 521 rfl (by decide) rfl at_518 (fun c518 => ?_) (fun c518 => ?_)
                                            · refine B.iload 583 rfl at_581 rfl ?_
                                              refine B.iconst 584 rfl (3 : Int32) at_583 rfl ?_
                                              refine B.icmp_lt 612 587 rfl (by decide) rfl at_584 (fun c584 => ?_) (fun c584 => ?_)
                                              · refine B.iload 614 rfl at_612 rfl ?_
                                                refine B.iload 616 rfl at_614 rfl ?_
                                                refine B.iadd 617 rfl at_616 ?_
                                                refine B.topI (Int32.ofNat ((((([] : List Value) ++ own_s f8 [(.int ((XT.ushrL (p1 &&& (255 : Int32)).toInt64 (0 : Int32)).toInt32.toInt8.toInt32))]) ++ own_s f16 [(.int ((XT.ushrL (p2 &&& (65535 : Int32)).toInt64 (8 : Int32)).toInt32.toInt8.toInt32)), (.int ((XT.ushrL (p2 &&& (65535 : Int32)).toInt64 (0 : Int32)).toInt32.toInt8.toInt32))]) ++ own_s f48 [(.int ((XT.ushrL (p3 &&& (281474976710655 : Int64)) (40 : Int32)).toInt32.toInt8.toInt32)), (.int ((XT.ushrL (p3 &&& (281474976710655 : Int64)) (32 : Int32)).toInt32.toInt8.toInt32)), (.int ((XT.ushrL (p3 &&& (281474976710655 : Int64)) (24 : Int32)).toInt32.toInt8.toInt32)), (.int ((XT.ushrL (p3 &&& (281474976710655 : Int64)) (16 : Int32)).toInt32.toInt8.toInt32)), (.int ((XT.ushrL (p3 &&& (281474976710655 : Int64)) (8 : Int32)).toInt32.toInt8.toInt32)), (.int ((XT.ushrL (p3 &&& (281474976710655 : Int64)) (0 : Int32)).toInt32.toInt8.toInt32))]) ++ own_s fb (own_fl mm ((XT.ushr p5 (16 : Int32)).toInt8.toInt32) ((XT.ushr p5 (8 : Int32)).toInt8.toInt32))).length) (own_padd c513 (by rw [own_fll])) ?_
                                                refine B.istore 619 rfl at_617 #[.val (.int p1), .val (.int p2), .val (.long p3), .second, .val (.int p4), .val (.int p5), .val (.int p6), .val (.int f8), .val (.int f16), .val (.int f48), .val (.int fb), .val (.int f24), .val (.int (p1 &&& (255 : Int32))), .val (.int (p2 &&& (65535 : Int32))), .val (.long (p3 &&& (281474976710655 : Int64))), .second, .val (.int (p4 &&& (16777215 : Int32))), .val (.int (Int32.ofNat mm)), .val (.int (((XT.ushr p5 (8 : Int32))).toInt8.toInt32)), .val (.int (((XT.ushr p5 (16 : Int32))).toInt8.toInt32)), .val (.ref fi), .val (.ref wo), .val (.ref r), .val (.int (Int32.ofNat (((((([] : List Value) ++ own_s f8 [(.int ((XT.ushrL (p1 &&& (255 : Int32)).toInt64 (0 : Int32)).toInt32.toInt8.toInt32))]) ++ own_s f16 [(.int ((XT.ushrL (p2 &&& (65535 : Int32)).toInt64 (8 : Int32)).toInt32.toInt8.toInt32)), (.int ((XT.ushrL (p2 &&& (65535 : Int32)).toInt64 (0 : Int32)).toInt32.toInt8.toInt32))]) ++ own_s f48 [(.int ((XT.ushrL (p3 &&& (281474976710655 : Int64)) (40 : Int32)).toInt32.toInt8.toInt32)), (.int ((XT.ushrL (p3 &&& (281474976710655 : Int64)) (32 : Int32)).toInt32.toInt8.toInt32)), (.int ((XT.ushrL (p3 &&& (281474976710655 : Int64)) (24 : Int32)).toInt32.toInt8.toInt32)), (.int ((XT.ushrL (p3 &&& (281474976710655 : Int64)) (16 : Int32)).toInt32.toInt8.toInt32)), (.int ((XT.ushrL (p3 &&& (281474976710655 : Int64)) (8 : Int32)).toInt32.toInt8.toInt32)), (.int ((XT.ushrL (p3 &&& (281474976710655 : Int64)) (0 : Int32)).toInt32.toInt8.toInt32))]) ++ own_s fb (own_fl mm ((XT.ushr p5 (16 : Int32)).toInt8.toInt32) ((XT.ushr p5 (8 : Int32)).toInt8.toInt32))) ++ own_s f24 [(.int ((XT.ushrL (p4 &&& (16777215 : Int32)).toInt64 (16 : Int32)).toInt32.toInt8.toInt32)), (.int ((XT.ushrL (p4 &&& (16777215 : Int32)).toInt64 (8 : Int32)).toInt32.toInt8.toInt32)), (.int ((XT.ushrL (p4 &&& (16777215 : Int32)).toInt64 (0 : Int32)).toInt32.toInt8.toInt32))]).length)), .val (.int (1 : Int32)), .val (.int (Int32.ofNat ((((([] : List Value) ++ own_s f8 [(.int ((XT.ushrL (p1 &&& (255 : Int32)).toInt64 (0 : Int32)).toInt32.toInt8.toInt32))]) ++ own_s f16 [(.int ((XT.ushrL (p2 &&& (65535 : Int32)).toInt64 (8 : Int32)).toInt32.toInt8.toInt32)), (.int ((XT.ushrL (p2 &&& (65535 : Int32)).toInt64 (0 : Int32)).toInt32.toInt8.toInt32))]) ++ own_s f48 [(.int ((XT.ushrL (p3 &&& (281474976710655 : Int64)) (40 : Int32)).toInt32.toInt8.toInt32)), (.int ((XT.ushrL (p3 &&& (281474976710655 : Int64)) (32 : Int32)).toInt32.toInt8.toInt32)), (.int ((XT.ushrL (p3 &&& (281474976710655 : Int64)) (24 : Int32)).toInt32.toInt8.toInt32)), (.int ((XT.ushrL (p3 &&& (281474976710655 : Int64)) (16 : Int32)).toInt32.toInt8.toInt32)), (.int ((XT.ushrL (p3 &&& (281474976710655 : Int64)) (8 : Int32)).toInt32.toInt8.toInt32)), (.int ((XT.ushrL (p3 &&& (281474976710655 : Int64)) (0 : Int32)).toInt32.toInt8.toInt32))]) ++ own_s fb (own_fl mm ((XT.ushr p5 (16 : Int32)).toInt8.toInt32) ((XT.ushr p5 (8 : Int32)).toInt8.toInt32))).length)), .unset, .unset] rfl ?_
                                                exact J513
                                              · have hm3 : 3 ≤ mm := Nat.le_of_not_lt fun q => c584 ((own_lt mm 3 (by omega) (by omega)).mpr q)
                                                refine B.iload 589 rfl at_587 rfl ?_
                                                refine B.if0_eq 609 592 rfl (by decide) rfl at_589 (fun c589 => ?_) (fun c589 => ?_)
                                                · exact absurd c589 (by decide)
                                                · refine B.aload 594 rfl at_592 rfl rfl ?_
                                                  refine B.iload 596 rfl at_594 rfl ?_
                                                  refine B.iload 598 rfl at_596 rfl ?_
                                                  refine B.iconst 599 rfl (2 : Int32) at_598 rfl ?_
                                                  refine B.idiv 600 rfl at_599 (by decide) ?_
                                                  refine B.topI (Int32.ofNat (mm / 2)) (own_div mm (by omega)) ?_
                                                  refine B.iadd 601 rfl at_600 ?_
                                                  refine B.topI (Int32.ofNat ((((([] : List Value) ++ own_s f8 [(.int ((XT.ushrL (p1 &&& (255 : Int32)).toInt64 (0 : Int32)).toInt32.toInt8.toInt32))]) ++ own_s f16 [(.int ((XT.ushrL (p2 &&& (65535 : Int32)).toInt64 (8 : Int32)).toInt32.toInt8.toInt32)), (.int ((XT.ushrL (p2 &&& (65535 : Int32)).toInt64 (0 : Int32)).toInt32.toInt8.toInt32))]) ++ own_s f48 [(.int ((XT.ushrL (p3 &&& (281474976710655 : Int64)) (40 : Int32)).toInt32.toInt8.toInt32)), (.int ((XT.ushrL (p3 &&& (281474976710655 : Int64)) (32 : Int32)).toInt32.toInt8.toInt32)), (.int ((XT.ushrL (p3 &&& (281474976710655 : Int64)) (24 : Int32)).toInt32.toInt8.toInt32)), (.int ((XT.ushrL (p3 &&& (281474976710655 : Int64)) (16 : Int32)).toInt32.toInt8.toInt32)), (.int ((XT.ushrL (p3 &&& (281474976710655 : Int64)) (8 : Int32)).toInt32.toInt8.toInt32)), (.int ((XT.ushrL (p3 &&& (281474976710655 : Int64)) (0 : Int32)).toInt32.toInt8.toInt32))]).length + mm / 2)) (own_add _ _) ?_
                                                  refine B.baload 602 rfl at_601 Ar (own_nn ((((([] : List Value) ++ own_s f8 [(.int ((XT.ushrL (p1 &&& (255 : Int32)).toInt64 (0 : Int32)).toInt32.toInt8.toInt32))]) ++ own_s f16 [(.int ((XT.ushrL (p2 &&& (65535 : Int32)).toInt64 (8 : Int32)).toInt32.toInt8.toInt32)), (.int ((XT.ushrL (p2 &&& (65535 : Int32)).toInt64 (0 : Int32)).toInt32.toInt8.toInt32))]) ++ own_s f48 [(.int ((XT.ushrL (p3 &&& (281474976710655 : Int64)) (40 : Int32)).toInt32.toInt8.toInt32)), (.int ((XT.ushrL (p3 &&& (281474976710655 : Int64)) (32 : Int32)).toInt32.toInt8.toInt32)), (.int ((XT.ushrL (p3 &&& (281474976710655 : Int64)) (24 : Int32)).toInt32.toInt8.toInt32)), (.int ((XT.ushrL (p3 &&& (281474976710655 : Int64)) (16 : Int32)).toInt32.toInt8.toInt32)), (.int ((XT.ushrL (p3 &&& (281474976710655 : Int64)) (8 : Int32)).toInt32.toInt8.toInt32)), (.int ((XT.ushrL (p3 &&& (281474976710655 : Int64)) (0 : Int32)).toInt32.toInt8.toInt32))]).length + mm / 2) (by omega)).1 ((((([] : List Value) ++ own_s f8 [(.int ((XT.ushrL (p1 &&& (255 : Int32)).toInt64 (0 : Int32)).toInt32.toInt8.toInt32))]) ++ own_s f16 [(.int ((XT.ushrL (p2 &&& (65535 : Int32)).toInt64 (8 : Int32)).toInt32.toInt8.toInt32)), (.int ((XT.ushrL (p2 &&& (65535 : Int32)).toInt64 (0 : Int32)).toInt32.toInt8.toInt32))]) ++ own_s f48 [(.int ((XT.ushrL (p3 &&& (281474976710655 : Int64)) (40 : Int32)).toInt32.toInt8.toInt32)), (.int ((XT.ushrL (p3 &&& (281474976710655 : Int64)) (32 : Int32)).toInt32.toInt8.toInt32)), (.int ((XT.ushrL (p3 &&& (281474976710655 : Int64)) (24 : Int32)).toInt32.toInt8.toInt32)), (.int ((XT.ushrL (p3 &&& (281474976710655 : Int64)) (16 : Int32)).toInt32.toInt8.toInt32)), (.int ((XT.ushrL (p3 &&& (281474976710655 : Int64)) (8 : Int32)).toInt32.toInt8.toInt32)), (.int ((XT.ushrL (p3 &&& (281474976710655 : Int64)) (0 : Int32)).toInt32.toInt8.toInt32))]).length + mm / 2) (own_nn ((((([] : List Value) ++ own_s f8 [(.int ((XT.ushrL (p1 &&& (255 : Int32)).toInt64 (0 : Int32)).toInt32.toInt8.toInt32))]) ++ own_s f16 [(.int ((XT.ushrL (p2 &&& (65535 : Int32)).toInt64 (8 : Int32)).toInt32.toInt8.toInt32)), (.int ((XT.ushrL (p2 &&& (65535 : Int32)).toInt64 (0 : Int32)).toInt32.toInt8.toInt32))]) ++ own_s f48 [(.int ((XT.ushrL (p3 &&& (281474976710655 : Int64)) (40 : Int32)).toInt32.toInt8.toInt32)), (.int ((XT.ushrL (p3 &&& (281474976710655 : Int64)) (32 : Int32)).toInt32.toInt8.toInt32)), (.int ((XT.ushrL (p3 &&& (281474976710655 : Int64)) (24 : Int32)).toInt32.toInt8.toInt32)), (.int ((XT.ushrL (p3 &&& (281474976710655 : Int64)) (16 : Int32)).toInt32.toInt8.toInt32)), (.int ((XT.ushrL (p3 &&& (281474976710655 : Int64)) (8 : Int32)).toInt32.toInt8.toInt32)), (.int ((XT.ushrL (p3 &&& (281474976710655 : Int64)) (0 : Int32)).toInt32.toInt8.toInt32))]).length + mm / 2) (by omega)).2 (.int (0 : Int32)) (own_pre (own_last (by rw [own_s1 c513]; exact own_fl2 mm _ _ hm3))) ?_
                                                  refine B.if0_ne 609 605 rfl (by decide) rfl at_602 (fun c602 => ?_) (fun c602 => ?_)
                                                  · exact absurd c602 (by decide)
                                                  · refine B.iconst 606 rfl (1 : Int32) at_605 rfl ?_
                                                    refine B.goto 610 rfl (by decide) at_606 ?_
                                                    refine B.istore 612 rfl at_610 #[.val (.int p1), .val (.int p2), .val (.long p3), .second, .val (.int p4), .val (.int p5), .val (.int p6), .val (.int f8), .val (.int f16), .val (.int f48), .val (.int fb), .val (.int f24), .val (.int (p1 &&& (255 : Int32))), .val (.int (p2 &&& (65535 : Int32))), .val (.long (p3 &&& (281474976710655 : Int64))), .second, .val (.int (p4 &&& (16777215 : Int32))), .val (.int (Int32.ofNat mm)), .val (.int (((XT.ushr p5 (8 : Int32))).toInt8.toInt32)), .val (.int (((XT.ushr p5 (16 : Int32))).toInt8.toInt32)), .val (.ref fi), .val (.ref wo), .val (.ref r), .val (.int (Int32.ofNat (((((([] : List Value) ++ own_s f8 [(.int ((XT.ushrL (p1 &&& (255 : Int32)).toInt64 (0 : Int32)).toInt32.toInt8.toInt32))]) ++ own_s f16 [(.int ((XT.ushrL (p2 &&& (65535 : Int32)).toInt64 (8 : Int32)).toInt32.toInt8.toInt32)), (.int ((XT.ushrL (p2 &&& (65535 : Int32)).toInt64 (0 : Int32)).toInt32.toInt8.toInt32))]) ++ own_s f48 [(.int ((XT.ushrL (p3 &&& (281474976710655 : Int64)) (40 : Int32)).toInt32.toInt8.toInt32)), (.int ((XT.ushrL (p3 &&& (281474976710655 : Int64)) (32 : Int32)).toInt32.toInt8.toInt32)), (.int ((XT.ushrL (p3 &&& (281474976710655 : Int64)) (24 : Int32)).toInt32.toInt8.toInt32)), (.int ((XT.ushrL (p3 &&& (281474976710655 : Int64)) (16 : Int32)).toInt32.toInt8.toInt32)), (.int ((XT.ushrL (p3 &&& (281474976710655 : Int64)) (8 : Int32)).toInt32.toInt8.toInt32)), (.int ((XT.ushrL (p3 &&& (281474976710655 : Int64)) (0 : Int32)).toInt32.toInt8.toInt32))]) ++ own_s fb (own_fl mm ((XT.ushr p5 (16 : Int32)).toInt8.toInt32) ((XT.ushr p5 (8 : Int32)).toInt8.toInt32))) ++ own_s f24 [(.int ((XT.ushrL (p4 &&& (16777215 : Int32)).toInt64 (16 : Int32)).toInt32.toInt8.toInt32)), (.int ((XT.ushrL (p4 &&& (16777215 : Int32)).toInt64 (8 : Int32)).toInt32.toInt8.toInt32)), (.int ((XT.ushrL (p4 &&& (16777215 : Int32)).toInt64 (0 : Int32)).toInt32.toInt8.toInt32))]).length)), .val (.int (1 : Int32)), .val (.int (Int32.ofNat (((([] : List Value) ++ own_s f8 [(.int ((XT.ushrL (p1 &&& (255 : Int32)).toInt64 (0 : Int32)).toInt32.toInt8.toInt32))]) ++ own_s f16 [(.int ((XT.ushrL (p2 &&& (65535 : Int32)).toInt64 (8 : Int32)).toInt32.toInt8.toInt32)), (.int ((XT.ushrL (p2 &&& (65535 : Int32)).toInt64 (0 : Int32)).toInt32.toInt8.toInt32))]) ++ own_s f48 [(.int ((XT.ushrL (p3 &&& (281474976710655 : Int64)) (40 : Int32)).toInt32.toInt8.toInt32)), (.int ((XT.ushrL (p3 &&& (281474976710655 : Int64)) (32 : Int32)).toInt32.toInt8.toInt32)), (.int ((XT.ushrL (p3 &&& (281474976710655 : Int64)) (24 : Int32)).toInt32.toInt8.toInt32)), (.int ((XT.ushrL (p3 &&& (281474976710655 : Int64)) (16 : Int32)).toInt32.toInt8.toInt32)), (.int ((XT.ushrL (p3 &&& (281474976710655 : Int64)) (8 : Int32)).toInt32.toInt8.toInt32)), (.int ((XT.ushrL (p3 &&& (281474976710655 : Int64)) (0 : Int32)).toInt32.toInt8.toInt32))]).length)), .unset, .unset] rfl ?_
                                                    refine B.iload 614 rfl at_612 rfl ?_
                                                    refine B.iload 616 rfl at_614 rfl ?_
                                                    refine B.iadd 617 rfl at_616 ?_
                                                    refine B.topI (Int32.ofNat ((((([] : List Value) ++ own_s f8 [(.int ((XT.ushrL (p1 &&& (255 : Int32)).toInt64 (0 : Int32)).toInt32.toInt8.toInt32))]) ++ own_s f16 [(.int ((XT.ushrL (p2 &&& (65535 : Int32)).toInt64 (8 : Int32)).toInt32.toInt8.toInt32)), (.int ((XT.ushrL (p2 &&& (65535 : Int32)).toInt64 (0 : Int32)).toInt32.toInt8.toInt32))]) ++ own_s f48 [(.int ((XT.ushrL (p3 &&& (281474976710655 : Int64)) (40 : Int32)).toInt32.toInt8.toInt32)), (.int ((XT.ushrL (p3 &&& (281474976710655 : Int64)) (32 : Int32)).toInt32.toInt8.toInt32)), (.int ((XT.ushrL (p3 &&& (281474976710655 : Int64)) (24 : Int32)).toInt32.toInt8.toInt32)), (.int ((XT.ushrL (p3 &&& (281474976710655 : Int64)) (16 : Int32)).toInt32.toInt8.toInt32)), (.int ((XT.ushrL (p3 &&& (281474976710655 : Int64)) (8 : Int32)).toInt32.toInt8.toInt32)), (.int ((XT.ushrL (p3 &&& (281474976710655 : Int64)) (0 : Int32)).toInt32.toInt8.toInt32))]) ++ own_s fb (own_fl mm ((XT.ushr p5 (16 : Int32)).toInt8.toInt32) ((XT.ushr p5 (8 : Int32)).toInt8.toInt32))).length) (own_padd c513 (by rw [own_fll])) ?_
                                                    refine B.istore 619 rfl at_617 #[.val (.int p1), .val (.int p2), .val (.long p3), .second, .val (.int p4), .val (.int p5), .val (.int p6), .val (.int f8), .val (.int f16), .val (.int f48), .val (.int fb), .val (.int f24), .val (.int (p1 &&& (255 : Int32))), .val (.int (p2 &&& (65535 : Int32))), .val (.long (p3 &&& (281474976710655 : Int64))), .second, .val (.int (p4 &&& (16777215 : Int32))), .val (.int (Int32.ofNat mm)), .val (.int (((XT.ushr p5 (8 : Int32))).toInt8.toInt32)), .val (.int (((XT.ushr p5 (16 : Int32))).toInt8.toInt32)), .val (.ref fi), .val (.ref wo), .val (.ref r), .val (.int (Int32.ofNat (((((([] : List Value) ++ own_s f8 [(.int ((XT.ushrL (p1 &&& (255 : Int32)).toInt64 (0 : Int32)).toInt32.toInt8.toInt32))]) ++ own_s f16 [(.int ((XT.ushrL (p2 &&& (65535 : Int32)).toInt64 (8 : Int32)).toInt32.toInt8.toInt32)), (.int ((XT.ushrL (p2 &&& (65535 : Int32)).toInt64 (0 : Int32)).toInt32.toInt8.toInt32))]) ++ own_s f48 [(.int ((XT.ushrL (p3 &&& (281474976710655 : Int64)) (40 : Int32)).toInt32.toInt8.toInt32)), (.int ((XT.ushrL (p3 &&& (281474976710655 : Int64)) (32 : Int32)).toInt32.toInt8.toInt32)), (.int ((XT.ushrL (p3 &&& (281474976710655 : Int64)) (24 : Int32)).toInt32.toInt8.toInt32)), (.int ((XT.ushrL (p3 &&& (281474976710655 : Int64)) (16 : Int32)).toInt32.toInt8.toInt32)), (.int ((XT.ushrL (p3 &&& (281474976710655 : Int64)) (8 : Int32)).toInt32.toInt8.toInt32)), (.int ((XT.ushrL (p3 &&& (281474976710655 : Int64)) (0 : Int32)).toInt32.toInt8.toInt32))]) ++ own_s fb (own_fl mm ((XT.ushr p5 (16 : Int32)).toInt8.toInt32) ((XT.ushr p5 (8 : Int32)).toInt8.toInt32))) ++ own_s f24 [(.int ((XT.ushrL (p4 &&& (16777215 : Int32)).toInt64 (16 : Int32)).toInt32.toInt8.toInt32)), (.int ((XT.ushrL (p4 &&& (16777215 : Int32)).toInt64 (8 : Int32)).toInt32.toInt8.toInt32)), (.int ((XT.ushrL (p4 &&& (16777215 : Int32)).toInt64 (0 : Int32)).toInt32.toInt8.toInt32))]).length)), .val (.int (1 : Int32)), .val (.int (Int32.ofNat ((((([] : List Value) ++ own_s f8 [(.int ((XT.ushrL (p1 &&& (255 : Int32)).toInt64 (0 : Int32)).toInt32.toInt8.toInt32))]) ++ own_s f16 [(.int ((XT.ushrL (p2 &&& (65535 : Int32)).toInt64 (8 : Int32)).toInt32.toInt8.toInt32)), (.int ((XT.ushrL (p2 &&& (65535 : Int32)).toInt64 (0 : Int32)).toInt32.toInt8.toInt32))]) ++ own_s f48 [(.int ((XT.ushrL (p3 &&& (281474976710655 : Int64)) (40 : Int32)).toInt32.toInt8.toInt32)), (.int ((XT.ushrL (p3 &&& (281474976710655 : Int64)) (32 : Int32)).toInt32.toInt8.toInt32)), (.int ((XT.ushrL (p3 &&& (281474976710655 : Int64)) (24 : Int32)).toInt32.toInt8.toInt32)), (.int ((XT.ushrL (p3 &&& (281474976710655 : Int64)) (16 : Int32)).toInt32.toInt8.toInt32)), (.int ((XT.ushrL (p3 &&& (281474976710655 : Int64)) (8 : Int32)).toInt32.toInt8.toInt32)), (.int ((XT.ushrL (p3 &&& (281474976710655 : Int64)) (0 : Int32)).toInt32.toInt8.toInt32))]) ++ own_s fb (own_fl mm ((XT.ushr p5 (16 : Int32)).toInt8.toInt32) ((XT.ushr p5 (8 : Int32)).toInt8.toInt32))).length)), .unset, .unset] rfl ?_
                                                    exact J513
                                            · have hpos : 0 < mm := (own_lt 0 mm (by omega) (by omega)).mp c518
                                              refine B.iload 523 rfl at_521 rfl ?_
                                              refine B.if0_eq 540 526 rfl (by decide) rfl at_523 (fun c523 => ?_) (fun c523 => ?_)
                                              · exact absurd c523 (by decide)
                                              · refine B.aload 528 rfl at_526 rfl rfl ?_
                                                refine B.iload 530 rfl at_528 rfl ?_
                                                refine B.baload 531 rfl at_530 Ar (own_nn ((((([] : List Value) ++ own_s f8 [(.int ((XT.ushrL (p1 &&& (255 : Int32)).toInt64 (0 : Int32)).toInt32.toInt8.toInt32))]) ++ own_s f16 [(.int ((XT.ushrL (p2 &&& (65535 : Int32)).toInt64 (8 : Int32)).toInt32.toInt8.toInt32)), (.int ((XT.ushrL (p2 &&& (65535 : Int32)).toInt64 (0 : Int32)).toInt32.toInt8.toInt32))]) ++ own_s f48 [(.int ((XT.ushrL (p3 &&& (281474976710655 : Int64)) (40 : Int32)).toInt32.toInt8.toInt32)), (.int ((XT.ushrL (p3 &&& (281474976710655 : Int64)) (32 : Int32)).toInt32.toInt8.toInt32)), (.int ((XT.ushrL (p3 &&& (281474976710655 : Int64)) (24 : Int32)).toInt32.toInt8.toInt32)), (.int ((XT.ushrL (p3 &&& (281474976710655 : Int64)) (16 : Int32)).toInt32.toInt8.toInt32)), (.int ((XT.ushrL (p3 &&& (281474976710655 : Int64)) (8 : Int32)).toInt32.toInt8.toInt32)), (.int ((XT.ushrL (p3 &&& (281474976710655 : Int64)) (0 : Int32)).toInt32.toInt8.toInt32))]).length + 0) (by omega)).1 ((((([] : List Value) ++ own_s f8 [(.int ((XT.ushrL (p1 &&& (255 : Int32)).toInt64 (0 : Int32)).toInt32.toInt8.toInt32))]) ++ own_s f16 [(.int ((XT.ushrL (p2 &&& (65535 : Int32)).toInt64 (8 : Int32)).toInt32.toInt8.toInt32)), (.int ((XT.ushrL (p2 &&& (65535 : Int32)).toInt64 (0 : Int32)).toInt32.toInt8.toInt32))]) ++ own_s f48 [(.int ((XT.ushrL (p3 &&& (281474976710655 : Int64)) (40 : Int32)).toInt32.toInt8.toInt32)), (.int ((XT.ushrL (p3 &&& (281474976710655 : Int64)) (32 : Int32)).toInt32.toInt8.toInt32)), (.int ((XT.ushrL (p3 &&& (281474976710655 : Int64)) (24 : Int32)).toInt32.toInt8.toInt32)), (.int ((XT.ushrL (p3 &&& (281474976710655 : Int64)) (16 : Int32)).toInt32.toInt8.toInt32)), (.int ((XT.ushrL (p3 &&& (281474976710655 : Int64)) (8 : Int32)).toInt32.toInt8.toInt32)), (.int ((XT.ushrL (p3 &&& (281474976710655 : Int64)) (0 : Int32)).toInt32.toInt8.toInt32))]).length + 0) (own_nn ((((([] : List Value) ++ own_s f8 [(.int ((XT.ushrL (p1 &&& (255 : Int32)).toInt64 (0 : Int32)).toInt32.toInt8.toInt32))]) ++ own_s f16 [(.int ((XT.ushrL (p2 &&& (65535 : Int32)).toInt64 (8 : Int32)).toInt32.toInt8.toInt32)), (.int ((XT.ushrL (p2 &&& (65535 : Int32)).toInt64 (0 : Int32)).toInt32.toInt8.toInt32))]) ++ own_s f48 [(.int ((XT.ushrL (p3 &&& (281474976710655 : Int64)) (40 : Int32)).toInt32.toInt8.toInt32)), (.int ((XT.ushrL (p3 &&& (281474976710655 : Int64)) (32 : Int32)).toInt32.toInt8.toInt32)), (.int ((XT.ushrL (p3 &&& (281474976710655 : Int64)) (24 : Int32)).toInt32.toInt8.toInt32)), (.int ((XT.ushrL (p3 &&& (281474976710655 : Int64)) (16 : Int32)).toInt32.toInt8.toInt32)), (.int ((XT.ushrL (p3 &&& (281474976710655 : Int64)) (8 : Int32)).toInt32.toInt8.toInt32)), (.int ((XT.ushrL (p3 &&& (281474976710655 : Int64)) (0 : Int32)).toInt32.toInt8.toInt32))]).length + 0) (by omega)).2 (.int ((XT.ushr p5 (8 : Int32)).toInt8.toInt32)) (own_pre (own_last (by rw [own_s1 c513]; exact own_fl0 mm _ _ hpos))) ?_
                                                refine B.iload 533 rfl at_531 rfl ?_
                                                refine B.icmp_ne 540 536 rfl (by decide) rfl at_533 (fun c533 => ?_) (fun c533 => ?_)
                                                · exact absurd rfl c533
                                                · refine B.iconst 537 rfl (1 : Int32) at_536 rfl ?_
                                                  refine B.goto 541 rfl (by decide) at_537 ?_
                                                  refine B.istore 543 rfl at_541 #[.val (.int p1), .val (.int p2), .val (.long p3), .second, .val (.int p4), .val (.int p5), .val (.int p6), .val (.int f8), .val (.int f16), .val (.int f48), .val (.int fb), .val (.int f24), .val (.int (p1 &&& (255 : Int32))), .val (.int (p2 &&& (65535 : Int32))), .val (.long (p3 &&& (281474976710655 : Int64))), .second, .val (.int (p4 &&& (16777215 : Int32))), .val (.int (Int32.ofNat mm)), .val (.int (((XT.ushr p5 (8 : Int32))).toInt8.toInt32)), .val (.int (((XT.ushr p5 (16 : Int32))).toInt8.toInt32)), .val (.ref fi), .val (.ref wo), .val (.ref r), .val (.int (Int32.ofNat (((((([] : List Value) ++ own_s f8 [(.int ((XT.ushrL (p1 &&& (255 : Int32)).toInt64 (0 : Int32)).toInt32.toInt8.toInt32))]) ++ own_s f16 [(.int ((XT.ushrL (p2 &&& (65535 : Int32)).toInt64 (8 : Int32)).toInt32.toInt8.toInt32)), (.int ((XT.ushrL (p2 &&& (65535 : Int32)).toInt64 (0 : Int32)).toInt32.toInt8.toInt32))]) ++ own_s f48 [(.int ((XT.ushrL (p3 &&& (281474976710655 : Int64)) (40 : Int32)).toInt32.toInt8.toInt32)), (.int ((XT.ushrL (p3 &&& (281474976710655 : Int64)) (32 : Int32)).toInt32.toInt8.toInt32)), (.int ((XT.ushrL (p3 &&& (281474976710655 : Int64)) (24 : Int32)).toInt32.toInt8.toInt32)), (.int ((XT.ushrL (p3 &&& (281474976710655 : Int64)) (16 : Int32)).toInt32.toInt8.toInt32)), (.int ((XT.ushrL (p3 &&& (281474976710655 : Int64)) (8 : Int32)).toInt32.toInt8.toInt32)), (.int ((XT.ushrL (p3 &&& (281474976710655 : Int64)) (0 : Int32)).toInt32.toInt8.toInt32))]) ++ own_s fb (own_fl mm ((XT.ushr p5 (16 : Int32)).toInt8.toInt32) ((XT.ushr p5 (8 : Int32)).toInt8.toInt32))) ++ own_s f24 [(.int ((XT.ushrL (p4 &&& (16777215 : Int32)).toInt64 (16 : Int32)).toInt32.toInt8.toInt32)), (.int ((XT.ushrL (p4 &&& (16777215 : Int32)).toInt64 (8 : Int32)).toInt32.toInt8.toInt32)), (.int ((XT.ushrL (p4 &&& (16777215 : Int32)).toInt64 (0 : Int32)).toInt32.toInt8.toInt32))]).length)), .val (.int (1 : Int32)), .val (.int (Int32.ofNat (((([] : List Value) ++ own_s f8 [(.int ((XT.ushrL (p1 &&& (255 : Int32)).toInt64 (0 : Int32)).toInt32.toInt8.toInt32))]) ++ own_s f16 [(.int ((XT.ushrL (p2 &&& (65535 : Int32)).toInt64 (8 : Int32)).toInt32.toInt8.toInt32)), (.int ((XT.ushrL (p2 &&& (65535 : Int32)).toInt64 (0 : Int32)).toInt32.toInt8.toInt32))]) ++ own_s f48 [(.int ((XT.ushrL (p3 &&& (281474976710655 : Int64)) (40 : Int32)).toInt32.toInt8.toInt32)), (.int ((XT.ushrL (p3 &&& (281474976710655 : Int64)) (32 : Int32)).toInt32.toInt8.toInt32)), (.int ((XT.ushrL (p3 &&& (281474976710655 : Int64)) (24 : Int32)).toInt32.toInt8.toInt32)), (.int ((XT.ushrL (p3 &&& (281474976710655 : Int64)) (16 : Int32)).toInt32.toInt8.toInt32)), (.int ((XT.ushrL (p3 &&& (281474976710655 : Int64)) (8 : Int32)).toInt32.toInt8.toInt32)), (.int ((XT.ushrL (p3 &&& (281474976710655 : Int64)) (0 : Int32)).toInt32.toInt8.toInt32))]).length)), .unset, .unset] rfl ?_
                                                  refine B.iload 545 rfl at_543 rfl ?_
                                                  refine B.if0_eq 578 548 rfl (by decide) rfl at_545 (fun c545 => ?_) (fun c545 => ?_)
                                                  · exact absurd c545 (by decide)
                                                  · refine B.aload 550 rfl at_548 rfl rfl ?_
                                                    refine B.iload 552 rfl at_550 rfl ?_
                                                    refine B.iload 554 rfl at_552 rfl ?_
                                                    refine B.iadd 555 rfl at_554 ?_
                                                    refine B.topI (Int32.ofNat ((((([] : List Value) ++ own_s f8 [(.int ((XT.ushrL (p1 &&& (255 : Int32)).toInt64 (0 : Int32)).toInt32.toInt8.toInt32))]) ++ own_s f16 [(.int ((XT.ushrL (p2 &&& (65535 : Int32)).toInt64 (8 : Int32)).toInt32.toInt8.toInt32)), (.int ((XT.ushrL (p2 &&& (65535 : Int32)).toInt64 (0 : Int32)).toInt32.toInt8.toInt32))]) ++ own_s f48 [(.int ((XT.ushrL (p3 &&& (281474976710655 : Int64)) (40 : Int32)).toInt32.toInt8.toInt32)), (.int ((XT.ushrL (p3 &&& (281474976710655 : Int64)) (32 : Int32)).toInt32.toInt8.toInt32)), (.int ((XT.ushrL (p3 &&& (281474976710655 : Int64)) (24 : Int32)).toInt32.toInt8.toInt32)), (.int ((XT.ushrL (p3 &&& (281474976710655 : Int64)) (16 : Int32)).toInt32.toInt8.toInt32)), (.int ((XT.ushrL (p3 &&& (281474976710655 : Int64)) (8 : Int32)).toInt32.toInt8.toInt32)), (.int ((XT.ushrL (p3 &&& (281474976710655 : Int64)) (0 : Int32)).toInt32.toInt8.toInt32))]).length + mm)) (own_add _ _) ?_
                                                    refine B.iconst 556 rfl (1 : Int32) at_555 rfl ?_
                                                    refine B.isub 557 rfl at_556 ?_
                                                    refine B.topI (Int32.ofNat ((((([] : List Value) ++ own_s f8 [(.int ((XT.ushrL (p1 &&& (255 : Int32)).toInt64 (0 : Int32)).toInt32.toInt8.toInt32))]) ++ own_s f16 [(.int ((XT.ushrL (p2 &&& (65535 : Int32)).toInt64 (8 : Int32)).toInt32.toInt8.toInt32)), (.int ((XT.ushrL (p2 &&& (65535 : Int32)).toInt64 (0 : Int32)).toInt32.toInt8.toInt32))]) ++ own_s f48 [(.int ((XT.ushrL (p3 &&& (281474976710655 : Int64)) (40 : Int32)).toInt32.toInt8.toInt32)), (.int ((XT.ushrL (p3 &&& (281474976710655 : Int64)) (32 : Int32)).toInt32.toInt8.toInt32)), (.int ((XT.ushrL (p3 &&& (281474976710655 : Int64)) (24 : Int32)).toInt32.toInt8.toInt32)), (.int ((XT.ushrL (p3 &&& (281474976710655 : Int64)) (16 : Int32)).toInt32.toInt8.toInt32)), (.int ((XT.ushrL (p3 &&& (281474976710655 : Int64)) (8 : Int32)).toInt32.toInt8.toInt32)), (.int ((XT.ushrL (p3 &&& (281474976710655 : Int64)) (0 : Int32)).toInt32.toInt8.toInt32))]).length + (mm - 1))) (by rw [own_sub _ (by omega) (by omega)]; congr 1; omega) ?_
                                                    refine B.baload 558 rfl at_557 Ar (own_nn ((((([] : List Value) ++ own_s f8 [(.int ((XT.ushrL (p1 &&& (255 : Int32)).toInt64 (0 : Int32)).toInt32.toInt8.toInt32))]) ++ own_s f16 [(.int ((XT.ushrL (p2 &&& (65535 : Int32)).toInt64 (8 : Int32)).toInt32.toInt8.toInt32)), (.int ((XT.ushrL (p2 &&& (65535 : Int32)).toInt64 (0 : Int32)).toInt32.toInt8.toInt32))]) ++ own_s f48 [(.int ((XT.ushrL (p3 &&& (281474976710655 : Int64)) (40 : Int32)).toInt32.toInt8.toInt32)), (.int ((XT.ushrL (p3 &&& (281474976710655 : Int64)) (32 : Int32)).toInt32.toInt8.toInt32)), (.int ((XT.ushrL (p3 &&& (281474976710655 : Int64)) (24 : Int32)).toInt32.toInt8.toInt32)), (.int ((XT.ushrL (p3 &&& (281474976710655 : Int64)) (16 : Int32)).toInt32.toInt8.toInt32)), (.int ((XT.ushrL (p3 &&& (281474976710655 : Int64)) (8 : Int32)).toInt32.toInt8.toInt32)), (.int ((XT.ushrL (p3 &&& (281474976710655 : Int64)) (0 : Int32)).toInt32.toInt8.toInt32))]).length + (mm - 1)) (by omega)).1 ((((([] : List Value) ++ own_s f8 [(.int ((XT.ushrL (p1 &&& (255 : Int32)).toInt64 (0 : Int32)).toInt32.toInt8.toInt32))]) ++ own_s f16 [(.int ((XT.ushrL (p2 &&& (65535 : Int32)).toInt64 (8 : Int32)).toInt32.toInt8.toInt32)), (.int ((XT.ushrL (p2 &&& (65535 : Int32)).toInt64 (0 : Int32)).toInt32.toInt8.toInt32))]) ++ own_s f48 [(.int ((XT.ushrL (p3 &&& (281474976710655 : Int64)) (40 : Int32)).toInt32.toInt8.toInt32)), (.int ((XT.ushrL (p3 &&& (281474976710655 : Int64)) (32 : Int32)).toInt32.toInt8.toInt32)), (.int ((XT.ushrL (p3 &&& (281474976710655 : Int64)) (24 : Int32)).toInt32.toInt8.toInt32)), (.int ((XT.ushrL (p3 &&& (281474976710655 : Int64)) (16 : Int32)).toInt32.toInt8.toInt32)), (.int ((XT.ushrL (p3 &&& (281474976710655 : Int64)) (8 : Int32)).toInt32.toInt8.toInt32)), (.int ((XT.ushrL (p3 &&& (281474976710655 : Int64)) (0 : Int32)).toInt32.toInt8.toInt32))]).length + (mm - 1)) (own_nn ((((([] : List Value) ++ own_s f8 [(.int ((XT.ushrL (p1 &&& (255 : Int32)).toInt64 (0 : Int32)).toInt32.toInt8.toInt32))]) ++ own_s f16 [(.int ((XT.ushrL (p2 &&& (65535 : Int32)).toInt64 (8 : Int32)).toInt32.toInt8.toInt32)), (.int ((XT.ushrL (p2 &&& (65535 : Int32)).toInt64 (0 : Int32)).toInt32.toInt8.toInt32))]) ++ own_s f48 [(.int ((XT.ushrL (p3 &&& (281474976710655 : Int64)) (40 : Int32)).toInt32.toInt8.toInt32)), (.int ((XT.ushrL (p3 &&& (281474976710655 : Int64)) (32 : Int32)).toInt32.toInt8.toInt32)), (.int ((XT.ushrL (p3 &&& (281474976710655 : Int64)) (24 : Int32)).toInt32.toInt8.toInt32)), (.int ((XT.ushrL (p3 &&& (281474976710655 : Int64)) (16 : Int32)).toInt32.toInt8.toInt32)), (.int ((XT.ushrL (p3 &&& (281474976710655 : Int64)) (8 : Int32)).toInt32.toInt8.toInt32)), (.int ((XT.ushrL (p3 &&& (281474976710655 : Int64)) (0 : Int32)).toInt32.toInt8.toInt32))]).length + (mm - 1)) (by omega)).2 (.int (own_lv mm ((XT.ushr p5 (16 : Int32)).toInt8.toInt32) ((XT.ushr p5 (8 : Int32)).toInt8.toInt32))) (own_pre (own_last (by rw [own_s1 c513]; exact own_fl1 mm _ _ hpos hmm))) ?_
                                                    refine B.iload 560 rfl at_558 rfl ?_
                                                    refine B.iconst 561 rfl (1 : Int32) at_560 rfl ?_
                                                    refine B.icmp_ne 569 564 rfl (by decide) rfl at_561 (fun c561 => ?_) (fun c561 => ?_)
                                                    · refine B.iload 571 rfl at_569 rfl ?_
                                                      refine B.icmp_ne 578 574 rfl (by decide) rfl at_571 (fun c571 => ?_) (fun c571 => ?_)
                                                      · exact absurd (by simp [own_lv, c561]) c571
                                                      · refine B.iconst 575 rfl (1 : Int32) at_574 rfl ?_
                                                        refine B.goto 579 rfl (by decide) at_575 ?_
                                                        refine B.istore 581 rfl at_579 #[.val (.int p1), .val (.int p2), .val (.long p3), .second, .val (.int p4), .val (.int p5), .val (.int p6), .val (.int f8), .val (.int f16), .val (.int f48), .val (.int fb), .val (.int f24), .val (.int (p1 &&& (255 : Int32))), .val (.int (p2 &&& (65535 : Int32))), .val (.long (p3 &&& (281474976710655 : Int64))), .second, .val (.int (p4 &&& (16777215 : Int32))), .val (.int (Int32.ofNat mm)), .val (.int (((XT.ushr p5 (8 : Int32))).toInt8.toInt32)), .val (.int (((XT.ushr p5 (16 : Int32))).toInt8.toInt32)), .val (.ref fi), .val (.ref wo), .val (.ref r), .val (.int (Int32.ofNat (((((([] : List Value) ++ own_s f8 [(.int ((XT.ushrL (p1 &&& (255 : Int32)).toInt64 (0 : Int32)).toInt32.toInt8.toInt32))]) ++ own_s f16 [(.int ((XT.ushrL (p2 &&& (65535 : Int32)).toInt64 (8 : Int32)).toInt32.toInt8.toInt32)), (.int ((XT.ushrL (p2 &&& (65535 : Int32)).toInt64 (0 : Int32)).toInt32.toInt8.toInt32))]) ++ own_s f48 [(.int ((XT.ushrL (p3 &&& (281474976710655 : Int64)) (40 : Int32)).toInt32.toInt8.toInt32)), (.int ((XT.ushrL (p3 &&& (281474976710655 : Int64)) (32 : Int32)).toInt32.toInt8.toInt32)), (.int ((XT.ushrL (p3 &&& (281474976710655 : Int64)) (24 : Int32)).toInt32.toInt8.toInt32)), (.int ((XT.ushrL (p3 &&& (281474976710655 : Int64)) (16 : Int32)).toInt32.toInt8.toInt32)), (.int ((XT.ushrL (p3 &&& (281474976710655 : Int64)) (8 : Int32)).toInt32.toInt8.toInt32)), (.int ((XT.ushrL (p3 &&& (281474976710655 : Int64)) (0 : Int32)).toInt32.toInt8.toInt32))]) ++ own_s fb (own_fl mm ((XT.ushr p5 (16 : Int32)).toInt8.toInt32) ((XT.ushr p5 (8 : Int32)).toInt8.toInt32))) ++ own_s f24 [(.int ((XT.ushrL (p4 &&& (16777215 : Int32)).toInt64 (16 : Int32)).toInt32.toInt8.toInt32)), (.int ((XT.ushrL (p4 &&& (16777215 : Int32)).toInt64 (8 : Int32)).toInt32.toInt8.toInt32)), (.int ((XT.ushrL (p4 &&& (16777215 : Int32)).toInt64 (0 : Int32)).toInt32.toInt8.toInt32))]).length)), .val (.int (1 : Int32)), .val (.int (Int32.ofNat (((([] : List Value) ++ own_s f8 [(.int ((XT.ushrL (p1 &&& (255 : Int32)).toInt64 (0 : Int32)).toInt32.toInt8.toInt32))]) ++ own_s f16 [(.int ((XT.ushrL (p2 &&& (65535 : Int32)).toInt64 (8 : Int32)).toInt32.toInt8.toInt32)), (.int ((XT.ushrL (p2 &&& (65535 : Int32)).toInt64 (0 : Int32)).toInt32.toInt8.toInt32))]) ++ own_s f48 [(.int ((XT.ushrL (p3 &&& (281474976710655 : Int64)) (40 : Int32)).toInt32.toInt8.toInt32)), (.int ((XT.ushrL (p3 &&& (281474976710655 : Int64)) (32 : Int32)).toInt32.toInt8.toInt32)), (.int ((XT.ushrL (p3 &&& (281474976710655 : Int64)) (24 : Int32)).toInt32.toInt8.toInt32)), (.int ((XT.ushrL (p3 &&& (281474976710655 : Int64)) (16 : Int32)).toInt32.toInt8.toInt32)), (.int ((XT.ushrL (p3 &&& (281474976710655 : Int64)) (8 : Int32)).toInt32.toInt8.toInt32)), (.int ((XT.ushrL (p3 &&& (281474976710655 : Int64)) (0 : Int32)).toInt32.toInt8.toInt32))]).length)), .unset, .unset] rfl ?_
                                                        refine B.iload 583 rfl at_581 rfl ?_
                                                        refine B.iconst 584 rfl (3 : Int32) at_583 rfl ?_
                                                        refine B.icmp_lt 612 587 rfl (by decide) rfl at_584 (fun c584 => ?_) (fun c584 => ?_)
                                                        · refine B.iload 614 rfl at_612 rfl ?_
                                                          refine B.iload 616 rfl at_614 rfl ?_
                                                          refine B.iadd 617 rfl at_616 ?_
                                                          refine B.topI (Int32.ofNat ((((([] : List Value) ++ own_s f8 [(.int ((XT.ushrL (p1 &&& (255 : Int32)).toInt64 (0 : Int32)).toInt32.toInt8.toInt32))]) ++ own_s f16 [(.int ((XT.ushrL (p2 &&& (65535 : Int32)).toInt64 (8 : Int32)).toInt32.toInt8.toInt32)), (.int ((XT.ushrL (p2 &&& (65535 : Int32)).toInt64 (0 : Int32)).toInt32.toInt8.toInt32))]) ++ own_s f48 [(.int ((XT.ushrL (p3 &&& (281474976710655 : Int64)) (40 : Int32)).toInt32.toInt8.toInt32)), (.int ((XT.ushrL (p3 &&& (281474976710655 : Int64)) (32 : Int32)).toInt32.toInt8.toInt32)), (.int ((XT.ushrL (p3 &&& (281474976710655 : Int64)) (24 : Int32)).toInt32.toInt8.toInt32)), (.int ((XT.ushrL (p3 &&& (281474976710655 : Int64)) (16 : Int32)).toInt32.toInt8.toInt32)), (.int ((XT.ushrL (p3 &&& (281474976710655 : Int64)) (8 : Int32)).toInt32.toInt8.toInt32)), (.int ((XT.ushrL (p3 &&& (281474976710655 : Int64)) (0 : Int32)).toInt32.toInt8.toInt32))]) ++ own_s fb (own_fl mm ((XT.ushr p5 (16 : Int32)).toInt8.toInt32) ((XT.ushr p5 (8 : Int32)).toInt8.toInt32))).length) (own_padd c513 (by rw [own_fll])) ?_
                                                          refine B.istore 619 rfl at_617 #[.val (.int p1), .val (.int p2), .val (.long p3), .second, .val (.int p4), .val (.int p5), .val (.int p6), .val (.int f8), .val (.int f16), .val (.int f48), .val (.int fb), .val (.int f24), .val (.int (p1 &&& (255 : Int32))), .val (.int (p2 &&& (65535 : Int32))), .val (.long (p3 &&& (281474976710655 : Int64))), .second, .val (.int (p4 &&& (16777215 : Int32))), .val (.int (Int32.ofNat mm)), .val (.int (((XT.ushr p5 (8 : Int32))).toInt8.toInt32)), .val (.int (((XT.ushr p5 (16 : Int32))).toInt8.toInt32)), .val (.ref fi), .val (.ref wo), .val (.ref r), .val (.int (Int32.ofNat (((((([] : List Value) ++ own_s f8 [(.int ((XT.ushrL (p1 &&& (255 : Int32)).toInt64 (0 : Int32)).toInt32.toInt8.toInt32))]) ++ own_s f16 [(.int ((XT.ushrL (p2 &&& (65535 : Int32)).toInt64 (8 : Int32)).toInt32.toInt8.toInt32)), (.int ((XT.ushrL (p2 &&& (65535 : Int32)).toInt64 (0 : Int32)).toInt32.toInt8.toInt32))]) ++ own_s f48 [(.int ((XT.ushrL (p3 &&& (281474976710655 : Int64)) (40 : Int32)).toInt32.toInt8.toInt32)), (.int ((XT.ushrL (p3 &&& (281474976710655 : Int64)) (32 : Int32)).toInt32.toInt8.toInt32)), (.int ((XT.ushrL (p3 &&& (281474976710655 : Int64)) (24 : Int32)).toInt32.toInt8.toInt32)), (.int ((XT.ushrL (p3 &&& (281474976710655 : Int64)) (16 : Int32)).toInt32.toInt8.toInt32)), (.int ((XT.ushrL (p3 &&& (281474976710655 : Int64)) (8 : Int32)).toInt32.toInt8.toInt32)), (.int ((XT.ushrL (p3 &&& (281474976710655 : Int64)) (0 : Int32)).toInt32.toInt8.toInt32))]) ++ own_s fb (own_fl mm ((XT.ushr p5 (16 : Int32)).toInt8.toInt32) ((XT.ushr p5 (8 : Int32)).toInt8.toInt32))) ++ own_s f24 [(.int ((XT.ushrL (p4 &&& (16777215 : Int32)).toInt64 (16 : Int32)).toInt32.toInt8.toInt32)), (.int ((XT.ushrL (p4 &&& (16777215 : Int32)).toInt64 (8 : Int32)).toInt32.toInt8.toInt32)), (.int ((XT.ushrL (p4 &&& (16777215 : Int32)).toInt64 (0 : Int32)).toInt32.toInt8.toInt32))]).length)), .val (.int (1 : Int32)), .val (.int (Int32.ofNat ((((([] : List Value) ++ own_s f8 [(.int ((XT.ushrL (p1 &&& (255 : Int32)).toInt64 (0 : Int32)).toInt32.toInt8.toInt32))]) ++ own_s f16 [(.int ((XT.ushrL (p2 &&& (65535 : Int32)).toInt64 (8 : Int32)).toInt32.toInt8.toInt32)), (.int ((XT.ushrL (p2 &&& (65535 : Int32)).toInt64 (0 : Int32)).toInt32.toInt8.toInt32))]) ++ own_s f48 [(.int ((XT.ushrL (p3 &&& (281474976710655 : Int64)) (40 : Int32)).toInt32.toInt8.toInt32)), (.int ((XT.ushrL (p3 &&& (281474976710655 : Int64)) (32 : Int32)).toInt32.toInt8.toInt32)), (.int ((XT.ushrL (p3 &&& (281474976710655 : Int64)) (24 : Int32)).toInt32.toInt8.toInt32)), (.int ((XT.ushrL (p3 &&& (281474976710655 : Int64)) (16 : Int32)).toInt32.toInt8.toInt32)), (.int ((XT.ushrL (p3 &&& (281474976710655 : Int64)) (8 : Int32)).toInt32.toInt8.toInt32)), (.int ((XT.ushrL (p3 &&& (281474976710655 : Int64)) (0 : Int32)).toInt32.toInt8.toInt32))]) ++ own_s fb (own_fl mm ((XT.ushr p5 (16 : Int32)).toInt8.toInt32) ((XT.ushr p5 (8 : Int32)).toInt8.toInt32))).length)), .unset, .unset] rfl ?_
                                                          exact J513
                                                        · have hm3 : 3 ≤ mm := Nat.le_of_not_lt fun q => c584 ((own_lt mm 3 (by omega) (by omega)).mpr q)
                                                          refine B.iload 589 rfl at_587 rfl ?_
                                                          refine B.if0_eq 609 592 rfl (by decide) rfl at_589 (fun c589 => ?_) (fun c589 => ?_)
                                                          · exact absurd c589 (by decide)
                                                          · refine B.aload 594 rfl at_592 rfl rfl ?_
                                                            refine B.iload 596 rfl at_594 rfl ?_
                                                            refine B.iload 598 rfl at_596 rfl ?_
                                                            refine B.iconst 599 rfl (2 : Int32) at_598 rfl ?_
                                                            refine B.idiv 600 rfl at_599 (by decide) ?_
                                                            refine B.topI (Int32.ofNat (mm / 2)) (own_div mm (by omega)) ?_
                                                            refine B.iadd 601 rfl at_600 ?_
                                                            refine B.topI (Int32.ofNat ((((([] : List Value) ++ own_s f8 [(.int ((XT.ushrL (p1 &&& (255 : Int32)).toInt64 (0 : Int32)).toInt32.toInt8.toInt32))]) ++ own_s f16 [(.int ((XT.ushrL (p2 &&& (65535 : Int32)).toInt64 (8 : Int32)).toInt32.toInt8.toInt32)), (.int ((XT.ushrL (p2 &&& (65535 : Int32)).toInt64 (0 : Int32)).toInt32.toInt8.toInt32))]) ++ own_s f48 [(.int ((XT.ushrL (p3 &&& (281474976710655 : Int64)) (40 : Int32)).toInt32.toInt8.toInt32)), (.int ((XT.ushrL (p3 &&& (281474976710655 : Int64)) (32 : Int32)).toInt32.toInt8.toInt32)), (.int ((XT.ushrL (p3 &&& (281474976710655 : Int64)) (24 : Int32)).toInt32.toInt8.toInt32)), (.int ((XT.ushrL (p3 &&& (281474976710655 : Int64)) (16 : Int32)).toInt32.toInt8.toInt32)), (.int ((XT.ushrL (p3 &&& (281474976710655 : Int64)) (8 : Int32)).toInt32.toInt8.toInt32)), (.int ((XT.ushrL (p3 &&& (281474976710655 : Int64)) (0 : Int32)).toInt32.toInt8.toInt32))]).length + mm / 2)) (own_add _ _) ?_
                                                            refine B.baload 602 rfl at_601 Ar (own_nn ((((([] : List Value) ++ own_s f8 [(.int ((XT.ushrL (p1 &&& (255 : Int32)).toInt64 (0 : Int32)).toInt32.toInt8.toInt32))]) ++ own_s f16 [(.int ((XT.ushrL (p2 &&& (65535 : Int32)).toInt64 (8 : Int32)).toInt32.toInt8.toInt32)), (.int ((XT.ushrL (p2 &&& (65535 : Int32)).toInt64 (0 : Int32)).toInt32.toInt8.toInt32))]) ++ own_s f48 [(.int ((XT.ushrL (p3 &&& (281474976710655 : Int64)) (40 : Int32)).toInt32.toInt8.toInt32)), (.int ((XT.ushrL (p3 &&& (281474976710655 : Int64)) (32 : Int32)).toInt32.toInt8.toInt32)), (.int ((XT.ushrL (p3 &&& (281474976710655 : Int64)) (24 : Int32)).toInt32.toInt8.toInt32)), (.int ((XT.ushrL (p3 &&& (281474976710655 : Int64)) (16 : Int32)).toInt32.toInt8.toInt32)), (.int ((XT.ushrL (p3 &&& (281474976710655 : Int64)) (8 : Int32)).toInt32.toInt8.toInt32)), (.int ((XT.ushrL (p3 &&& (281474976710655 : Int64)) (0 : Int32)).toInt32.toInt8.toInt32))]).length + mm / 2) (by omega)).1 ((((([] : List Value) ++ own_s f8 [(.int ((XT.ushrL (p1 &&& (255 : Int32)).toInt64 (0 : Int32)).toInt32.toInt8.toInt32))]) ++ own_s f16 [(.int ((XT.ushrL (p2 &&& (65535 : Int32)).toInt64 (8 : Int32)).toInt32.toInt8.toInt32)), (.int ((XT.ushrL (p2 &&& (65535 : Int32)).toInt64 (0 : Int32)).toInt32.toInt8.toInt32))]) ++ own_s f48 [(.int ((XT.ushrL (p3 &&& (281474976710655 : Int64)) (40 : Int32)).toInt32.toInt8.toInt32)), (.int ((XT.ushrL (p3 &&& (281474976710655 : Int64)) (32 : Int32)).toInt32.toInt8.toInt32)), (.int ((XT.ushrL (p3 &&& (281474976710655 : Int64)) (24 : Int32)).toInt32.toInt8.toInt32)), (.int ((XT.ushrL (p3 &&& (281474976710655 : Int64)) (16 : Int32)).toInt32.toInt8.toInt32)), (.int ((XT.ushrL (p3 &&& (281474976710655 : Int64)) (8 : Int32)).toInt32.toInt8.toInt32)), (.int ((XT.ushrL (p3 &&& (281474976710655 : Int64)) (0 : Int32)).toInt32.toInt8.toInt32))]).length + mm / 2) (own_nn ((((([] : List Value) ++ own_s f8 [(.int ((XT.ushrL (p1 &&& (255 : Int32)).toInt64 (0 : Int32)).toInt32.toInt8.toInt32))]) ++ own_s f16 [(.int ((XT.ushrL (p2 &&& (65535 : Int32)).toInt64 (8 : Int32)).toInt32.toInt8.toInt32)), (.int ((XT.ushrL (p2 &&& (65535 : Int32)).toInt64 (0 : Int32)).toInt32.toInt8.toInt32))]) ++ own_s f48 [(.int ((XT.ushrL (p3 &&& (281474976710655 : Int64)) (40 : Int32)).toInt32.toInt8.toInt32)), (.int ((XT.ushrL (p3 &&& (281474976710655 : Int64)) (32 : Int32)).toInt32.toInt8.toInt32)), (.int ((XT.ushrL (p3 &&& (281474976710655 : Int64)) (24 : Int32)).toInt32.toInt8.toInt32)), (.int ((XT.ushrL (p3 &&& (281474976710655 : Int64)) (16 : Int32)).toInt32.toInt8.toInt32)), (.int ((XT.ushrL (p3 &&& (281474976710655 : Int64)) (8 : Int32)).toInt32.toInt8.toInt32)), (.int ((XT.ushrL (p3 &&& (281474976710655 : Int64)) (0 : Int32)).toInt32.toInt8.toInt32))]).length + mm / 2) (by omega)).2 (.int (0 : Int32)) (own_pre (own_last (by rw [own_s1 c513]; exact own_fl2 mm _ _ hm3))) ?_
                                                            refine B.if0_ne 609 605 rfl (by decide) rfl at_602 (fun c602 => ?_) (fun c602 => ?_)
                                                            · exact absurd c602 (by decide)
                                                            · refine B.iconst 606 rfl (1 : Int32) at_605 rfl ?_
                                                              refine B.goto 610 rfl (by decide) at_606 ?_
                                                              refine B.istore 612 rfl at_610 #[.val (.int p1), .val (.int p2), .val (.long p3), .second, .val (.int p4), .val (.int p5), .val (.int p6), .val (.int f8), .val (.int f16), .val (.int f48), .val (.int fb), .val (.int f24), .val (.int (p1 &&& (255 : Int32))), .val (.int (p2 &&& (65535 : Int32))), .val (.long (p3 &&& (281474976710655 : Int64))), .second, .val (.int (p4 &&& (16777215 : Int32))), .val (.int (Int32.ofNat mm)), .val (.int (((XT.ushr p5 (8 : Int32))).toInt8.toInt32)), .val (.int (((XT.ushr p5 (16 : Int32))).toInt8.toInt32)), .val (.ref fi), .val (.ref wo), .val (.ref r), .val (.int (Int32.ofNat (((((([] : List Value) ++ own_s f8 [(.int ((XT.ushrL (p1 &&& (255 : Int32)).toInt64 (0 : Int32)).toInt32.toInt8.toInt32))]) ++ own_s f16 [(.int ((XT.ushrL (p2 &&& (65535 : Int32)).toInt64 (8 : Int32)).toInt32.toInt8.toInt32)), (.int ((XT.ushrL (p2 &&& (65535 : Int32)).toInt64 (0 : Int32)).toInt32.toInt8.toInt32))]) ++ own_s f48 [(.int ((XT.ushrL (p3 &&& (281474976710655 : Int64)) (40 : Int32)).toInt32.toInt8.toInt32)), (.int ((XT.ushrL (p3 &&& (281474976710655 : Int64)) (32 : Int32)).toInt32.toInt8.toInt32)), (.int ((XT.ushrL (p3 &&& (281474976710655 : Int64)) (24 : Int32)).toInt32.toInt8.toInt32)), (.int ((XT.ushrL (p3 &&& (281474976710655 : Int64)) (16 : Int32)).toInt32.toInt8.toInt32)), (.int ((XT.ushrL (p3 &&& (281474976710655 : Int64)) (8 : Int32)).toInt32.toInt8.toInt32)), (.int ((XT.ushrL (p3 &&& (281474976710655 : Int64)) (0 : Int32)).toInt32.toInt8.toInt32))]) ++ own_s fb (own_fl mm ((XT.ushr p5 (16 : Int32)).toInt8.toInt32) ((XT.ushr p5 (8 : Int32)).toInt8.toInt32))) ++ own_s f24 [(.int ((XT.ushrL (p4 &&& (16777215 : Int32)).toInt64 (16 : Int32)).toInt32.toInt8.toInt32)), (.int ((XT.ushrL (p4 &&& (16777215 : Int32)).toInt64 (8 : Int32)).toInt32.toInt8.toInt32)), (.int ((XT.ushrL (p4 &&& (16777215 : Int32)).toInt64 (0 : Int32)).toInt32.toInt8.toInt32))]).length)), .val (.int (1 : Int32)), .val (.int (Int32.ofNat (((([] : List Value) ++ own_s f8 [(.int ((XT.ushrL (p1 &&& (255 : Int32)).toInt64 (0 : Int32)).toInt32.toInt8.toInt32))]) ++ own_s f16 [(.int ((XT.ushrL (p2 &&& (65535 : Int32)).toInt64 (8 : Int32)).toInt32.toInt8.toInt32)), (.int ((XT.ushrL (p2 &&& (65535 : Int32)).toInt64 (0 : Int32)).toInt32.toInt8.toInt32))]) ++ own_s f48 [(.int ((XT.ushrL (p3 &&& (281474976710655 : Int64)) (40 : Int32)).toInt32.toInt8.toInt32)), (.int ((XT.ushrL (p3 &&& (281474976710655 : Int64)) (32 : Int32)).toInt32.toInt8.toInt32)), (.int ((XT.ushrL (p3 &&& (281474976710655 : Int64)) (24 : Int32)).toInt32.toInt8.toInt32)), (.int ((XT.ushrL (p3 &&& (281474976710655 : Int64)) (16 : Int32)).toInt32.toInt8.toInt32)), (.int ((XT.ushrL (p3 &&& (281474976710655 : Int64)) (8 : Int32)).toInt32.toInt8.toInt32)), (.int ((XT.ushrL (p3 &&& (281474976710655 : Int64)) (0 : Int32)).toInt32.toInt8.toInt32))]).length)), .unset, .unset] rfl ?_
                                                              refine B.iload 614 rfl at_612 rfl ?_
                                                              refine B.iload 616 rfl at_614 rfl ?_
                                                              refine B.iadd 617 rfl at_616 ?_
                                                              refine B.topI (Int32.ofNat ((((([] : List Value) ++ own_s f8 [(.int ((XT.ushrL (p1 &&& (255 : Int32)).toInt64 (0 : Int32)).toInt32.toInt8.toInt32))]) ++ own_s f16 [(.int ((XT.ushrL (p2 &&& (65535 : Int32)).toInt64 (8 : Int32)).toInt32.toInt8.toInt32)), (.int ((XT.ushrL (p2 &&& (65535 : Int32)).toInt64 (0 : Int32)).toInt32.toInt8.toInt32))]) ++ own_s f48 [(.int ((XT.ushrL (p3 &&& (281474976710655 : Int64)) (40 : Int32)).toInt32.toInt8.toInt32)), (.int ((XT.ushrL (p3 &&& (281474976710655 : Int64)) (32 : Int32)).toInt32.toInt8.toInt32)), (.int ((XT.ushrL (p3 &&& (281474976710655 : Int64)) (24 : Int32)).toInt32.toInt8.toInt32)), (.int ((XT.ushrL (p3 &&& (281474976710655 : Int64)) (16 : Int32)).toInt32.toInt8.toInt32)), (.int ((XT.ushrL (p3 &&& (281474976710655 : Int64)) (8 : Int32)).toInt32.toInt8.toInt32)), (.int ((XT.ushrL (p3 &&& (281474976710655 : Int64)) (0 : Int32)).toInt32.toInt8.toInt32))]) ++ own_s fb (own_fl mm ((XT.ushr p5 (16 : Int32)).toInt8.toInt32) ((XT.ushr p5 (8 : Int32)).toInt8.toInt32))).length) (own_padd c513 (by rw [own_fll])) ?_
                                                              refine B.istore 619 rfl at_617 #[.val (.int p1), .val (.int p2), .val (.long p3), .second, .val (.int p4), .val (.int p5), .val (.int p6), .val (.int f8), .val (.int f16), .val (.int f48), .val (.int fb), .val (.int f24), .val (.int (p1 &&& (255 : Int32))), .val (.int (p2 &&& (65535 : Int32))), .val (.long (p3 &&& (281474976710655 : Int64))), .second, .val (.int (p4 &&& (16777215 : Int32))), .val (.int (Int32.ofNat mm)), .val (.int (((XT.ushr p5 (8 : Int32))).toInt8.toInt32)), .val (.int (((XT.ushr p5 (16 : Int32))).toInt8.toInt32)), .val (.ref fi), .val (.ref wo), .val (.ref r), .val (.int (Int32.ofNat (((((([] : List Value) ++ own_s f8 [(.int ((XT.ushrL (p1 &&& (255 : Int32)).toInt64 (0 : Int32)).toInt32.toInt8.toInt32))]) ++ own_s f16 [(.int ((XT.ushrL (p2 &&& (65535 : Int32)).toInt64 (8 : Int32)).toInt32.toInt8.toInt32)), (.int ((XT.ushrL (p2 &&& (65535 : Int32)).toInt64 (0 : Int32)).toInt32.toInt8.toInt32))]) ++ own_s f48 [(.int ((XT.ushrL (p3 &&& (281474976710655 : Int64)) (40 : Int32)).toInt32.toInt8.toInt32)), (.int ((XT.ushrL (p3 &&& (281474976710655 : Int64)) (32 : Int32)).toInt32.toInt8.toInt32)), (.int ((XT.ushrL (p3 &&& (281474976710655 : Int64)) (24 : Int32)).toInt32.toInt8.toInt32)), (.int ((XT.ushrL (p3 &&& (281474976710655 : Int64)) (16 : Int32)).toInt32.toInt8.toInt32)), (.int ((XT.ushrL (p3 &&& (281474976710655 : Int64)) (8 : Int32)).toInt32.toInt8.toInt32)), (.int ((XT.ushrL (p3 &&& (281474976710655 : Int64)) (0 : Int32)).toInt32.toInt8.toInt32))]) ++ own_s fb (own_fl mm ((XT.ushr p5 (16 : Int32)).toInt8.toInt32) ((XT.ushr p5 (8 : Int32)).toInt8.toInt32))) ++ own_s f24 [(.int ((XT.ushrL (p4 &&& (16777215 : Int32)).toInt64 (16 : Int32)).toInt32.toInt8.toInt32)), (.int ((XT.ushrL (p4 &&& (16777215 : Int32)).toInt64 (8 : Int32)).toInt32.toInt8.toInt32)), (.int ((XT.ushrL (p4 &&& (16777215 : Int32)).toInt64 (0 : Int32)).toInt32.toInt8.toInt32))]).length)), .val (.int (1 : Int32)), .val (.int (Int32.ofNat ((((([] : List Value) ++ own_s f8 [(.int ((XT.ushrL (p1 &&& (255 : Int32)).toInt64 (0 : Int32)).toInt32.toInt8.toInt32))]) ++ own_s f16 [(.int ((XT.ushrL (p2 &&& (65535 : Int32)).toInt64 (8 : Int32)).toInt32.toInt8.toInt32)), (.int ((XT.ushrL (p2 &&& (65535 : Int32)).toInt64 (0 : Int32)).toInt32.toInt8.toInt32))]) ++ own_s f48 [(.int ((XT.ushrL (p3 &&& (281474976710655 : Int64)) (40 : Int32)).toInt32.toInt8.toInt32)), (.int ((XT.ushrL (p3 &&& (281474976710655 : Int64)) (32 : Int32)).toInt32.toInt8.toInt32)), (.int ((XT.ushrL (p3 &&& (281474976710655 : Int64)) (24 : Int32)).toInt32.toInt8.toInt32)), (.int ((XT.ushrL (p3 &&& (281474976710655 : Int64)) (16 : Int32)).toInt32.toInt8.toInt32)), (.int ((XT.ushrL (p3 &&& (281474976710655 : Int64)) (8 : Int32)).toInt32.toInt8.toInt32)), (.int ((XT.ushrL (p3 &&& (281474976710655 : Int64)) (0 : Int32)).toInt32.toInt8.toInt32))]) ++ own_s fb (own_fl mm ((XT.ushr p5 (16 : Int32)).toInt8.toInt32) ((XT.ushr p5 (8 : Int32)).toInt8.toInt32))).length)), .unset, .unset] rfl ?_
                                                              exact J513
                                                    · refine B.iload 566 rfl at_564 rfl ?_
                                                      refine B.goto 571 rfl (by decide) at_566 ?_
                                                      refine B.icmp_ne 578 574 rfl (by decide) rfl at_571 (fun c571 => ?_) (fun c571 => ?_)
                                                      · exact absurd (by simp [own_lv, c561]) c571
                                                      · refine B.iconst 575 rfl (1 : Int32) at_574 rfl ?_
                                                        refine B.goto 579 rfl (by decide) at_575 ?_
                                                        refine B.istore 581 rfl at_579 #[.val (.int p1), .val (.int p2), .val (.long p3), .second, .val (.int p4), .val (.int p5), .val (.int p6), .val (.int f8), .val (.int f16), .val (.int f48), .val (.int fb), .val (.int f24), .val (.int (p1 &&& (255 : Int32))), .val (.int (p2 &&& (65535 : Int32))), .val (.long (p3 &&& (281474976710655 : Int64))), .second, .val (.int (p4 &&& (16777215 : Int32))), .val (.int (Int32.ofNat mm)), .val (.int (((XT.ushr p5 (8 : Int32))).toInt8.toInt32)), .val (.int (((XT.ushr p5 (16 : Int32))).toInt8.toInt32)), .val (.ref fi), .val (.ref wo), .val (.ref r), .val (.int (Int32.ofNat (((((([] : List Value) ++ own_s f8 [(.int ((XT.ushrL (p1 &&& (255 : Int32)).toInt64 (0 : Int32)).toInt32.toInt8.toInt32))]) ++ own_s f16 [(.int ((XT.ushrL (p2 &&& (65535 : Int32)).toInt64 (8 : Int32)).toInt32.toInt8.toInt32)), (.int ((XT.ushrL (p2 &&& (65535 : Int32)).toInt64 (0 : Int32)).toInt32.toInt8.toInt32))]) ++ own_s f48 [(.int ((XT.ushrL (p3 &&& (281474976710655 : Int64)) (40 : Int32)).toInt32.toInt8.toInt32)), (.int ((XT.ushrL (p3 &&& (281474976710655 : Int64)) (32 : Int32)).toInt32.toInt8.toInt32)), (.int ((XT.ushrL (p3 &&& (281474976710655 : Int64)) (24 : Int32)).toInt32.toInt8.toInt32)), (.int ((XT.ushrL (p3 &&& (281474976710655 : Int64)) (16 : Int32)).toInt32.toInt8.toInt32)), (.int ((XT.ushrL (p3 &&& (281474976710655 : Int64)) (8 : Int32)).toInt32.toInt8.toInt32)), (.int ((XT.ushrL (p3 &&& (281474976710655 : Int64)) (0 : Int32)).toInt32.toInt8.toInt32))]) ++ own_s fb (own_fl mm ((XT.ushr p5 (16 : Int32)).toInt8.toInt32) ((XT.ushr p5 (8 : Int32)).toInt8.toInt32))) ++ own_s f24 [(.int ((XT.ushrL (p4 &&& (16777215 : Int32)).toInt64 (16 : Int32)).toInt32.toInt8.toInt32)), (.int ((XT.ushrL (p4 &&& (16777215 : Int32)).toInt64 (8 : Int32)).toInt32.toInt8.toInt32)), (.int ((XT.ushrL (p4 &&& (16777215 : Int32)).toInt64 (0 : Int32)).toInt32.toInt8.toInt32))]).length)), .val (.int (1 : Int32)), .val (.int (Int32.ofNat (((([] : List Value) ++ own_s f8 [(.int ((XT.ushrL (p1 &&& (255 : Int32)).toInt64 (0 : Int32)).toInt32.toInt8.toInt32))]) ++ own_s f16 [(.int ((XT.ushrL (p2 &&& (65535 : Int32)).toInt64 (8 : Int32)).toInt32.toInt8.toInt32)), (.int ((XT.ushrL (p2 &&& (65535 : Int32)).toInt64 (0 : Int32)).toInt32.toInt8.toInt32))]) ++ own_s f48 [(.int ((XT.ushrL (p3 &&& (281474976710655 : Int64)) (40 : Int32)).toInt32.toInt8.toInt32)), (.int ((XT.ushrL (p3 &&& (281474976710655 : Int64)) (32 : Int32)).toInt32.toInt8.toInt32)), (.int ((XT.ushrL (p3 &&& (281474976710655 : Int64)) (24 : Int32)).toInt32.toInt8.toInt32)), (.int ((XT.ushrL (p3 &&& (281474976710655 : Int64)) (16 : Int32)).toInt32.toInt8.toInt32)), (.int ((XT.ushrL (p3 &&& (281474976710655 : Int64)) (8 : Int32)).toInt32.toInt8.toInt32)), (.int ((XT.ushrL (p3 &&& (281474976710655 : Int64)) (0 : Int32)).toInt32.toInt8.toInt32))]).length)), .unset, .unset] rfl ?_
                                                        refine B.iload 583 rfl at_581 rfl ?_
                                                        refine B.iconst 584 rfl (3 : Int32) at_583 rfl ?_
                                                        refine B.icmp_lt 612 587 rfl (by decide) rfl at_584 (fun c584 => ?_) (fun c584 => ?_)
                                                        · refine B.iload 614 rfl at_612 rfl ?_
                                                          refine B.iload 616 rfl at_614 rfl ?_
                                                          refine B.iadd 617 rfl at_616 ?_
                                                          refine B.topI (Int32.ofNat ((((([] : List Value) ++ own_s f8 [(.int ((XT.ushrL (p1 &&& (255 : Int32)).toInt64 (0 : Int32)).toInt32.toInt8.toInt32))]) ++ own_s f16 [(.int ((XT.ushrL (p2 &&& (65535 : Int32)).toInt64 (8 : Int32)).toInt32.toInt8.toInt32)), (.int ((XT.ushrL (p2 &&& (65535 : Int32)).toInt64 (0 : Int32)).toInt32.toInt8.toInt32))]) ++ own_s f48 [(.int ((XT.ushrL (p3 &&& (281474976710655 : Int64)) (40 : Int32)).toInt32.toInt8.toInt32)), (.int ((XT.ushrL (p3 &&& (281474976710655 : Int64)) (32 : Int32)).toInt32.toInt8.toInt32)), (.int ((XT.ushrL (p3 &&& (281474976710655 : Int64)) (24 : Int32)).toInt32.toInt8.toInt32)), (.int ((XT.ushrL (p3 &&& (281474976710655 : Int64)) (16 : Int32)).toInt32.toInt8.toInt32)), (.int ((XT.ushrL (p3 &&& (281474976710655 : Int64)) (8 : Int32)).toInt32.toInt8.toInt32)), (.int ((XT.ushrL (p3 &&& (281474976710655 : Int64)) (0 : Int32)).toInt32.toInt8.toInt32))]) ++ own_s fb (own_fl mm ((XT.ushr p5 (16 : Int32)).toInt8.toInt32) ((XT.ushr p5 (8 : Int32)).toInt8.toInt32))).length) (own_padd c513 (by rw [own_fll])) ?_
                                                          refine B.istore 619 rfl at_617 #[.val (.int p1), .val (.int p2), .val (.long p3), .second, .val (.int p4), .val (.int p5), .val (.int p6), .val (.int f8), .val (.int f16), .val (.int f48), .val (.int fb), .val (.int f24), .val (.int (p1 &&& (255 : Int32))), .val (.int (p2 &&& (65535 : Int32))), .val (.long (p3 &&& (281474976710655 : Int64))), .second, .val (.int (p4 &&& (16777215 : Int32))), .val (.int (Int32.ofNat mm)), .val (.int (((XT.ushr p5 (8 : Int32))).toInt8.toInt32)), .val (.int (((XT.ushr p5 (16 : Int32))).toInt8.toInt32)), .val (.ref fi), .val (.ref wo), .val (.ref r), .val (.int (Int32.ofNat (((((([] : List Value) ++ own_s f8 [(.int ((XT.ushrL (p1 &&& (255 : Int32)).toInt64 (0 : Int32)).toInt32.toInt8.toInt32))]) ++ own_s f16 [(.int ((XT.ushrL (p2 &&& (65535 : Int32)).toInt64 (8 : Int32)).toInt32.toInt8.toInt32)), (.int ((XT.ushrL (p2 &&& (65535 : Int32)).toInt64 (0 : Int32)).toInt32.toInt8.toInt32))]) ++ own_s f48 [(.int ((XT.ushrL (p3 &&& (281474976710655 : Int64)) (40 : Int32)).toInt32.toInt8.toInt32)), (.int ((XT.ushrL (p3 &&& (281474976710655 : Int64)) (32 : Int32)).toInt32.toInt8.toInt32)), (.int ((XT.ushrL (p3 &&& (281474976710655 : Int64)) (24 : Int32)).toInt32.toInt8.toInt32)), (.int ((XT.ushrL (p3 &&& (281474976710655 : Int64)) (16 : Int32)).toInt32.toInt8.toInt32)), (.int ((XT.ushrL (p3 &&& (281474976710655 : Int64)) (8 : Int32)).toInt32.toInt8.toInt32)), (.int ((XT.ushrL (p3 &&& (281474976710655 : Int64)) (0 : Int32)).toInt32.toInt8.toInt32))]) ++ own_s fb (own_fl mm ((XT.ushr p5 (16 : Int32)).toInt8.toInt32) ((XT.ushr p5 (8 : Int32)).toInt8.toInt32))) ++ own_s f24 [(.int ((XT.ushrL (p4 &&& (16777215 : Int32)).toInt64 (16 : Int32)).toInt32.toInt8.toInt32)), (.int ((XT.ushrL (p4 &&& (16777215 : Int32)).toInt64 (8 : Int32)).toInt32.toInt8.toInt32)), (.int ((XT.ushrL (p4 &&& (16777215 : Int32)).toInt64 (0 : Int32)).toInt32.toInt8.toInt32))]).length)), .val (.int (1 : Int32)), .val (.int (Int32.ofNat ((((([] : List Value) ++ own_s f8 [(.int ((XT.ushrL (p1 &&& (255 : Int32)).toInt64 (0 : Int32)).toInt32.toInt8.toInt32))]) ++ own_s f16 [(.int ((XT.ushrL (p2 &&& (65535 : Int32)).toInt64 (8 : Int32)).toInt32.toInt8.toInt32)), (.int ((XT.ushrL (p2 &&& (65535 : Int32)).toInt64 (0 : Int32)).toInt32.toInt8.toInt32))]) ++ own_s f48 [(.int ((XT.ushrL (p3 &&& (281474976710655 : Int64)) (40 : Int32)).toInt32.toInt8.toInt32)), (.int ((XT.ushrL (p3 &&& (281474976710655 : Int64)) (32 : Int32)).toInt32.toInt8.toInt32)), (.int ((XT.ushrL (p3 &&& (281474976710655 : Int64)) (24 : Int32)).toInt32.toInt8.toInt32)), (.int ((XT.ushrL (p3 &&& (281474976710655 : Int64)) (16 : Int32)).toInt32.toInt8.toInt32)), (.int ((XT.ushrL (p3 &&& (281474976710655 : Int64)) (8 : Int32)).toInt32.toInt8.toInt32)), (.int ((XT.ushrL (p3 &&& (281474976710655 : Int64)) (0 : Int32)).toInt32.toInt8.toInt32))]) ++ own_s fb (own_fl mm ((XT.ushr p5 (16 : Int32)).toInt8.toInt32) ((XT.ushr p5 (8 : Int32)).toInt8.toInt32))).length)), .unset, .unset] rfl ?_
                                                          exact J513
                                                        · have hm3 : 3 ≤ mm := Nat.le_of_not_lt fun q => c584 ((own_lt mm 3 (by omega) (by omega)).mpr q)
                                                          refine B.iload 589 rfl at_587 rfl ?_
                                                          refine B.if0_eq 609 592 rfl (by decide) rfl at_589 (fun c589 => ?_) (fun c589 => ?_)
                                                          · exact absurd c589 (by decide)
                                                          · refine B.aload 594 rfl at_592 rfl rfl ?_
                                                            refine B.iload 596 rfl at_594 rfl ?_
                                                            refine B.iload 598 rfl at_596 rfl ?_
                                                            refine B.iconst 599 rfl (2 : Int32) at_598 rfl ?_
                                                            refine B.idiv 600 rfl at_599 (by decide) ?_
                                                            refine B.topI (Int32.ofNat (mm / 2)) (own_div mm (by omega)) ?_
                                                            refine B.iadd 601 rfl at_600 ?_
                                                            refine B.topI (Int32.ofNat ((((([] : List Value) ++ own_s f8 [(.int ((XT.ushrL (p1 &&& (255 : Int32)).toInt64 (0 : Int32)).toInt32.toInt8.toInt32))]) ++ own_s f16 [(.int ((XT.ushrL (p2 &&& (65535 : Int32)).toInt64 (8 : Int32)).toInt32.toInt8.toInt32)), (.int ((XT.ushrL (p2 &&& (65535 : Int32)).toInt64 (0 : Int32)).toInt32.toInt8.toInt32))]) ++ own_s f48 [(.int ((XT.ushrL (p3 &&& (281474976710655 : Int64)) (40 : Int32)).toInt32.toInt8.toInt32)), (.int ((XT.ushrL (p3 &&& (281474976710655 : Int64)) (32 : Int32)).toInt32.toInt8.toInt32)), (.int ((XT.ushrL (p3 &&& (281474976710655 : Int64)) (24 : Int32)).toInt32.toInt8.toInt32)), (.int ((XT.ushrL (p3 &&& (281474976710655 : Int64)) (16 : Int32)).toInt32.toInt8.toInt32)), (.int ((XT.ushrL (p3 &&& (281474976710655 : Int64)) (8 : Int32)).toInt32.toInt8.toInt32)), (.int ((XT.ushrL (p3 &&& (281474976710655 : Int64)) (0 : Int32)).toInt32.toInt8.toInt32))]).length + mm / 2)) (own_add _ _) ?_
                                                            refine B.baload 602 rfl at_601 Ar (own_nn ((((([] : List Value) ++ own_s f8 [(.int ((XT.ushrL (p1 &&& (255 : Int32)).toInt64 (0 : Int32)).toInt32.toInt8.toInt32))]) ++ own_s f16 [(.int ((XT.ushrL (p2 &&& (65535 : Int32)).toInt64 (8 : Int32)).toInt32.toInt8.toInt32)), (.int ((XT.ushrL (p2 &&& (65535 : Int32)).toInt64 (0 : Int32)).toInt32.toInt8.toInt32))]) ++ own_s f48 [(.int ((XT.ushrL (p3 &&& (281474976710655 : Int64)) (40 : Int32)).toInt32.toInt8.toInt32)), (.int ((XT.ushrL (p3 &&& (281474976710655 : Int64)) (32 : Int32)).toInt32.toInt8.toInt32)), (.int ((XT.ushrL (p3 &&& (281474976710655 : Int64)) (24 : Int32)).toInt32.toInt8.toInt32)), (.int ((XT.ushrL (p3 &&& (281474976710655 : Int64)) (16 : Int32)).toInt32.toInt8.toInt32)), (.int ((XT.ushrL (p3 &&& (281474976710655 : Int64)) (8 : Int32)).toInt32.toInt8.toInt32)), (.int ((XT.ushrL (p3 &&& (281474976710655 : Int64)) (0 : Int32)).toInt32.toInt8.toInt32))]).length + mm / 2) (by omega)).1 ((((([] : List Value) ++ own_s f8 [(.int ((XT.ushrL (p1 &&& (255 : Int32)).toInt64 (0 : Int32)).toInt32.toInt8.toInt32))]) ++ own_s f16 [(.int ((XT.ushrL (p2 &&& (65535 : Int32)).toInt64 (8 : Int32)).toInt32.toInt8.toInt32)), (.int ((XT.ushrL (p2 &&& (65535 : Int32)).toInt64 (0 : Int32)).toInt32.toInt8.toInt32))]) ++ own_s f48 [(.int ((XT.ushrL (p3 &&& (281474976710655 : Int64)) (40 : Int32)).toInt32.toInt8.toInt32)), (.int ((XT.ushrL (p3 &&& (281474976710655 : Int64)) (32 : Int32)).toInt32.toInt8.toInt32)), (.int ((XT.ushrL (p3 &&& (281474976710655 : Int64)) (24 : Int32)).toInt32.toInt8.toInt32)), (.int ((XT.ushrL (p3 &&& (281474976710655 : Int64)) (16 : Int32)).toInt32.toInt8.toInt32)), (.int ((XT.ushrL (p3 &&& (281474976710655 : Int64)) (8 : Int32)).toInt32.toInt8.toInt32)), (.int ((XT.ushrL (p3 &&& (281474976710655 : Int64)) (0 : Int32)).toInt32.toInt8.toInt32))]).length + mm / 2) (own_nn ((((([] : List Value) ++ own_s f8 [(.int ((XT.ushrL (p1 &&& (255 : Int32)).toInt64 (0 : Int32)).toInt32.toInt8.toInt32))]) ++ own_s f16 [(.int ((XT.ushrL (p2 &&& (65535 : Int32)).toInt64 (8 : Int32)).toInt32.toInt8.toInt32)), (.int ((XT.ushrL (p2 &&& (65535 : Int32)).toInt64 (0 : Int32)).toInt32.toInt8.toInt32))]) ++ own_s f48 [(.int ((XT.ushrL (p3 &&& (281474976710655 : Int64)) (40 : Int32)).toInt32.toInt8.toInt32)), (.int ((XT.ushrL (p3 &&& (281474976710655 : Int64)) (32 : Int32)).toInt32.toInt8.toInt32)), (.int ((XT.ushrL (p3 &&& (281474976710655 : Int64)) (24 : Int32)).toInt32.toInt8.toInt32)), (.int ((XT.ushrL (p3 &&& (281474976710655 : Int64)) (16 : Int32)).toInt32.toInt8.toInt32)), (.int ((XT.ushrL (p3 &&& (281474976710655 : Int64)) (8 : Int32)).toInt32.toInt8.toInt32)), (.int ((XT.ushrL (p3 &&& (281474976710655 : Int64)) (0 : Int32)).toInt32.toInt8.toInt32))]).length + mm / 2) (by omega)).2 (.int (0 : Int32)) (own_pre (own_last (by rw [own_s1 c513]; exact own_fl2 mm _ _ hm3))) ?_
                                                            refine B.if0_ne 609 605 rfl (by decide) rfl at_602 (fun c602 => ?_) (fun c602 => ?_)
                                                            · exact absurd c602 (by decide)
                                                            · refine B.iconst 606 rfl (1 : Int32) at_605 rfl ?_
                                                              refine B.goto 610 rfl (by decide) at_606 ?_
                                                              refine B.istore 612 rfl at_610 #[.val (.int p1), .val (.int p2), .val (.long p3), .second, .val (.int p4), .val (.int p5), .val (.int p6), .val (.int f8), .val (.int f16), .val (.int f48), .val (.int fb), .val (.int f24), .val (.int (p1 &&& (255 : Int32))), .val (.int (p2 &&& (65535 : Int32))), .val (.long (p3 &&& (281474976710655 : Int64))), .second, .val (.int (p4 &&& (16777215 : Int32))), .val (.int (Int32.ofNat mm)), .val (.int (((XT.ushr p5 (8 : Int32))).toInt8.toInt32)), .val (.int (((XT.ushr p5 (16 : Int32))).toInt8.toInt32)), .val (.ref fi), .val (.ref wo), .val (.ref r), .val (.int (Int32.ofNat (((((([] : List Value) ++ own_s f8 [(.int ((XT.ushrL (p1 &&& (255 : Int32)).toInt64 (0 : Int32)).toInt32.toInt8.toInt32))]) ++ own_s f16 [(.int ((XT.ushrL (p2 &&& (65535 : Int32)).toInt64 (8 : Int32)).toInt32.toInt8.toInt32)), (.int ((XT.ushrL (p2 &&& (65535 : Int32)).toInt64 (0 : Int32)).toInt32.toInt8.toInt32))]) ++ own_s f48 [(.int ((XT.ushrL (p3 &&& (281474976710655 : Int64)) (40 : Int32)).toInt32.toInt8.toInt32)), (.int ((XT.ushrL (p3 &&& (281474976710655 : Int64)) (32 : Int32)).toInt32.toInt8.toInt32)), (.int ((XT.ushrL (p3 &&& (281474976710655 : Int64)) (24 : Int32)).toInt32.toInt8.toInt32)), (.int ((XT.ushrL (p3 &&& (281474976710655 : Int64)) (16 : Int32)).toInt32.toInt8.toInt32)), (.int ((XT.ushrL (p3 &&& (281474976710655 : Int64)) (8 : Int32)).toInt32.toInt8.toInt32)), (.int ((XT.ushrL (p3 &&& (281474976710655 : Int64)) (0 : Int32)).toInt32.toInt8.toInt32))]) ++ own_s fb (own_fl mm ((XT.ushr p5 (16 : Int32)).toInt8.toInt32) ((XT.ushr p5 (8 : Int32)).toInt8.toInt32))) ++ own_s f24 [(.int ((XT.ushrL (p4 &&& (16777215 : Int32)).toInt64 (16 : Int32)).toInt32.toInt8.toInt32)), (.int ((XT.ushrL (p4 &&& (16777215 : Int32)).toInt64 (8 : Int32)).toInt32.toInt8.toInt32)), (.int ((XT.ushrL (p4 &&& (16777215 : Int32)).toInt64 (0 : Int32)).toInt32.toInt8.toInt32))]).length)), .val (.int (1 : Int32)), .val (.int (Int32.ofNat (((([] : List Value) ++ own_s f8 [(.int ((XT.ushrL (p1 &&& (255 : Int32)).toInt64 (0 : Int32)).toInt32.toInt8.toInt32))]) ++ own_s f16 [(.int ((XT.ushrL (p2 &&& (65535 : Int32)).toInt64 (8 : Int32)).toInt32.toInt8.toInt32)), (.int ((XT.ushrL (p2 &&& (65535 : Int32)).toInt64 (0 : Int32)).toInt32.toInt8.toInt32))]) ++ own_s f48 [(.int ((XT.ushrL (p3 &&& (281474976710655 : Int64)) (40 : Int32)).toInt32.toInt8.toInt32)), (.int ((XT.ushrL (p3 &&& (281474976710655 : Int64)) (32 : Int32)).toInt32.toInt8.toInt32)), (.int ((XT.ushrL (p3 &&& (281474976710655 : Int64)) (24 : Int32)).toInt32.toInt8.toInt32)), (.int ((XT.ushrL (p3 &&& (281474976710655 : Int64)) (16 : Int32)).toInt32.toInt8.toInt32)), (.int ((XT.ushrL (p3 &&& (281474976710655 : Int64)) (8 : Int32)).toInt32.toInt8.toInt32)), (.int ((XT.ushrL (p3 &&& (281474976710655 : Int64)) (0 : Int32)).toInt32.toInt8.toInt32))]).length)), .unset, .unset] rfl ?_
                                                              refine B.iload 614 rfl at_612 rfl ?_
                                                              refine B.iload 616 rfl at_614 rfl ?_
                                                              refine B.iadd 617 rfl at_616 ?_
                                                              refine B.topI (Int32.ofNat ((((([] : List Value) ++ own_s f8 [(.int ((XT.ushrL (p1 &&& (255 : Int32)).toInt64 (0 : Int32)).toInt32.toInt8.toInt32))]) ++ own_s f16 [(.int ((XT.ushrL (p2 &&& (65535 : Int32)).toInt64 (8 : Int32)).toInt32.toInt8.toInt32)), (.int ((XT.ushrL (p2 &&& (65535 : Int32)).toInt64 (0 : Int32)).toInt32.toInt8.toInt32))]) ++ own_s f48 [(.int ((XT.ushrL (p3 &&& (281474976710655 : Int64)) (40 : Int32)).toInt32.toInt8.toInt32)), (.int ((XT.ushrL (p3 &&& (281474976710655 : Int64)) (32 : Int32)).toInt32.toInt8.toInt32)), (.int ((XT.ushrL (p3 &&& (281474976710655 : Int64)) (24 : Int32)).toInt32.toInt8.toInt32)), (.int ((XT.ushrL (p3 &&& (281474976710655 : Int64)) (16 : Int32)).toInt32.toInt8.toInt32)), (.int ((XT.ushrL (p3 &&& (281474976710655 : Int64)) (8 : Int32)).toInt32.toInt8.toInt32)), (.int ((XT.ushrL (p3 &&& (281474976710655 : Int64)) (0 : Int32)).toInt32.toInt8.toInt32))]) ++ own_s fb (own_fl mm ((XT.ushr p5 (16 : Int32)).toInt8.toInt32) ((XT.ushr p5 (8 : Int32)).toInt8.toInt32))).length) (own_padd c513 (by rw [own_fll])) ?_
                                                              refine B.istore 619 rfl at_617 #[.val (.int p1), .val (.int p2), .val (.long p3), .second, .val (.int p4), .val (.int p5), .val (.int p6), .val (.int f8), .val (.int f16), .val (.int f48), .val (.int fb), .val (.int f24), .val (.int (p1 &&& (255 : Int32))), .val (.int (p2 &&& (65535 : Int32))), .val (.long (p3 &&& (281474976710655 : Int64))), .second, .val (.int (p4 &&& (16777215 : Int32))), .val (.int (Int32.ofNat mm)), .val (.int (((XT.ushr p5 (8 : Int32))).toInt8.toInt32)), .val (.int (((XT.ushr p5 (16 : Int32))).toInt8.toInt32)), .val (.ref fi), .val (.ref wo), .val (.ref r), .val (.int (Int32.ofNat (((((([] : List Value) ++ own_s f8 [(.int ((XT.ushrL (p1 &&& (255 : Int32)).toInt64 (0 : Int32)).toInt32.toInt8.toInt32))]) ++ own_s f16 [(.int ((XT.ushrL (p2 &&& (65535 : Int32)).toInt64 (8 : Int32)).toInt32.toInt8.toInt32)), (.int ((XT.ushrL (p2 &&& (65535 : Int32)).toInt64 (0 : Int32)).toInt32.toInt8.toInt32))]) ++ own_s f48 [(.int ((XT.ushrL (p3 &&& (281474976710655 : Int64)) (40 : Int32)).toInt32.toInt8.toInt32)), (.int ((XT.ushrL (p3 &&& (281474976710655 : Int64)) (32 : Int32)).toInt32.toInt8.toInt32)), (.int ((XT.ushrL (p3 &&& (281474976710655 : Int64)) (24 : Int32)).toInt32.toInt8.toInt32)), (.int ((XT.ushrL (p3 &&& (281474976710655 : Int64)) (16 : Int32)).toInt32.toInt8.toInt32)), (.int ((XT.ushrL (p3 &&& (281474976710655 : Int64)) (8 : Int32)).toInt32.toInt8.toInt32)), (.int ((XT.ushrL (p3 &&& (281474976710655 : Int64)) (0 : Int32)).toInt32.toInt8.toInt32))]) ++ own_s fb (own_fl mm ((XT.ushr p5 (16 : Int32)).toInt8.toInt32) ((XT.ushr p5 (8 : Int32)).toInt8.toInt32))) ++ own_s f24 [(.int ((XT.ushrL (p4 &&& (16777215 : Int32)).toInt64 (16 : Int32)).toInt32.toInt8.toInt32)), (.int ((XT.ushrL (p4 &&& (16777215 : Int32)).toInt64 (8 : Int32)).toInt32.toInt8.toInt32)), (.int ((XT.ushrL (p4 &&& (16777215 : Int32)).toInt64 (0 : Int32)).toInt32.toInt8.toInt32))]).length)), .val (.int (1 : Int32)), .val (.int (Int32.ofNat ((((([] : List Value) ++ own_s f8 [(.int ((XT.ushrL (p1 &&& (255 : Int32)).toInt64 (0 : Int32)).toInt32.toInt8.toInt32))]) ++ own_s f16 [(.int ((XT.ushrL (p2 &&& (65535 : Int32)).toInt64 (8 : Int32)).toInt32.toInt8.toInt32)), (.int ((XT.ushrL (p2 &&& (65535 : Int32)).toInt64 (0 : Int32)).toInt32.toInt8.toInt32))]) ++ own_s f48 [(.int ((XT.ushrL (p3 &&& (281474976710655 : Int64)) (40 : Int32)).toInt32.toInt8.toInt32)), (.int ((XT.ushrL (p3 &&& (281474976710655 : Int64)) (32 : Int32)).toInt32.toInt8.toInt32)), (.int ((XT.ushrL (p3 &&& (281474976710655 : Int64)) (24 : Int32)).toInt32.toInt8.toInt32)), (.int ((XT.ushrL (p3 &&& (281474976710655 : Int64)) (16 : Int32)).toInt32.toInt8.toInt32)), (.int ((XT.ushrL (p3 &&& (281474976710655 : Int64)) (8 : Int32)).toInt32.toInt8.toInt32)), (.int ((XT.ushrL (p3 &&& (281474976710655 : Int64)) (0 : Int32)).toInt32.toInt8.toInt32))]) ++ own_s fb (own_fl mm ((XT.ushr p5 (16 : Int32)).toInt8.toInt32) ((XT.ushr p5 (8 : Int32)).toInt8.toInt32))).length)), .unset, .unset] rfl ?_
                                                              exact J513
                                        refine B.if0_eq 511 399 rfl (by decide) rfl at_396 (fun c396 => ?_) (fun c396 => ?_)
                                        · have ep : (Int32.ofNat ((([] : List Value) ++ own_s f8 [(.int ((XT.ushrL (p1 &&& (255 : Int32)).toInt64 (0 : Int32)).toInt32.toInt8.toInt32))]) ++ own_s f16 [(.int ((XT.ushrL (p2 &&& (65535 : Int32)).toInt64 (8 : Int32)).toInt32.toInt8.toInt32)), (.int ((XT.ushrL (p2 &&& (65535 : Int32)).toInt64 (0 : Int32)).toInt32.toInt8.toInt32))]).length) = (Int32.ofNat (((([] : List Value) ++ own_s f8 [(.int ((XT.ushrL (p1 &&& (255 : Int32)).toInt64 (0 : Int32)).toInt32.toInt8.toInt32))]) ++ own_s f16 [(.int ((XT.ushrL (p2 &&& (65535 : Int32)).toInt64 (8 : Int32)).toInt32.toInt8.toInt32)), (.int ((XT.ushrL (p2 &&& (65535 : Int32)).toInt64 (0 : Int32)).toInt32.toInt8.toInt32))]) ++ own_s f48 [(.int ((XT.ushrL (p3 &&& (281474976710655 : Int64)) (40 : Int32)).toInt32.toInt8.toInt32)), (.int ((XT.ushrL (p3 &&& (281474976710655 : Int64)) (32 : Int32)).toInt32.toInt8.toInt32)), (.int ((XT.ushrL (p3 &&& (281474976710655 : Int64)) (24 : Int32)).toInt32.toInt8.toInt32)), (.int ((XT.ushrL (p3 &&& (281474976710655 : Int64)) (16 : Int32)).toInt32.toInt8.toInt32)), (.int ((XT.ushrL (p3 &&& (281474976710655 : Int64)) (8 : Int32)).toInt32.toInt8.toInt32)), (.int ((XT.ushrL (p3 &&& (281474976710655 : Int64)) (0 : Int32)).toInt32.toInt8.toInt32))]).length) := by rw [own_s0 c396, List.append_nil]
                                          rw [ep]
                                          exact J396
                                        · refine B.iload 401 rfl at_399 rfl ?_
                                          refine B.if0_eq 501 404 rfl (by decide) rfl at_401 (fun c401 => ?_) (fun c401 => ?_)
                                          · exact absurd c401 (by decide)
                                          · refine B.aload 406 rfl at_404 rfl rfl ?_
                                            refine B.iload 408 rfl at_406 rfl ?_
                                            refine B.lload 410 rfl at_408 rfl ?_
                                            refine B.bipush 412 rfl (40 : Int32) at_410 rfl ?_
                                            refine B.callS 415 rfl at_412 (wd hw 63 rfl) (wd hw 64 rfl) (wd hw 65 rfl) (wd hw 66 rfl) (by decide) [(.ref r), (.int (Int32.ofNat ((([] : List Value) ++ own_s f8 [(.int ((XT.ushrL (p1 &&& (255 : Int32)).toInt64 (0 : Int32)).toInt32.toInt8.toInt32))]) ++ own_s f16 [(.int ((XT.ushrL (p2 &&& (65535 : Int32)).toInt64 (8 : Int32)).toInt32.toInt8.toInt32)), (.int ((XT.ushrL (p2 &&& (65535 : Int32)).toInt64 (0 : Int32)).toInt32.toInt8.toInt32))]).length)), (.long (p3 &&& (281474976710655 : Int64))), (.int (40 : Int32))] [] (rm_eq l Z a0 hw r (p3 &&& (281474976710655 : Int64)) (40 : Int32) (((([] : List Value) ++ own_s f8 [(.int ((XT.ushrL (p1 &&& (255 : Int32)).toInt64 (0 : Int32)).toInt32.toInt8.toInt32))]) ++ own_s f16 [(.int ((XT.ushrL (p2 &&& (65535 : Int32)).toInt64 (8 : Int32)).toInt32.toInt8.toInt32)), (.int ((XT.ushrL (p2 &&& (65535 : Int32)).toInt64 (0 : Int32)).toInt32.toInt8.toInt32))]).length + 0) (((((([] : List Value) ++ own_s f8 [(.int ((XT.ushrL (p1 &&& (255 : Int32)).toInt64 (0 : Int32)).toInt32.toInt8.toInt32))]) ++ own_s f16 [(.int ((XT.ushrL (p2 &&& (65535 : Int32)).toInt64 (8 : Int32)).toInt32.toInt8.toInt32)), (.int ((XT.ushrL (p2 &&& (65535 : Int32)).toInt64 (0 : Int32)).toInt32.toInt8.toInt32))]) ++ own_s f48 [(.int ((XT.ushrL (p3 &&& (281474976710655 : Int64)) (40 : Int32)).toInt32.toInt8.toInt32)), (.int ((XT.ushrL (p3 &&& (281474976710655 : Int64)) (32 : Int32)).toInt32.toInt8.toInt32)), (.int ((XT.ushrL (p3 &&& (281474976710655 : Int64)) (24 : Int32)).toInt32.toInt8.toInt32)), (.int ((XT.ushrL (p3 &&& (281474976710655 : Int64)) (16 : Int32)).toInt32.toInt8.toInt32)), (.int ((XT.ushrL (p3 &&& (281474976710655 : Int64)) (8 : Int32)).toInt32.toInt8.toInt32)), (.int ((XT.ushrL (p3 &&& (281474976710655 : Int64)) (0 : Int32)).toInt32.toInt8.toInt32))]) ++ own_s fb (own_fl mm ((XT.ushr p5 (16 : Int32)).toInt8.toInt32) ((XT.ushr p5 (8 : Int32)).toInt8.toInt32))) ++ own_s f24 [(.int ((XT.ushrL (p4 &&& (16777215 : Int32)).toInt64 (16 : Int32)).toInt32.toInt8.toInt32)), (.int ((XT.ushrL (p4 &&& (16777215 : Int32)).toInt64 (8 : Int32)).toInt32.toInt8.toInt32)), (.int ((XT.ushrL (p4 &&& (16777215 : Int32)).toInt64 (0 : Int32)).toInt32.toInt8.toInt32))]) h4 Ar (by omega) (own_pre (own_pre (own_last (by rw [own_s1 c396]; rfl))))) rfl rfl pd___BIJI_Z rfl rfl 0 rfl (by decide) (by decide) (by decide) (by decide) (fun _ q => nomatch q) ?_
                                            rintro _ _ - ⟨rfl, rfl⟩
                                            show B.G h4 9 1693 (mkF m 415 #[.val (.int p1), .val (.int p2), .val (.long p3), .second, .val (.int p4), .val (.int p5), .val (.int p6), .val (.int f8), .val (.int f16), .val (.int f48), .val (.int fb), .val (.int f24), .val (.int (p1 &&& (255 : Int32))), .val (.int (p2 &&& (65535 : Int32))), .val (.long (p3 &&& (281474976710655 : Int64))), .second, .val (.int (p4 &&& (16777215 : Int32))), .val (.int (Int32.ofNat mm)), .val (.int (((XT.ushr p5 (8 : Int32))).toInt8.toInt32)), .val (.int (((XT.ushr p5 (16 : Int32))).toInt8.toInt32)), .val (.ref fi), .val (.ref wo), .val (.ref r), .val (.int (Int32.ofNat (((((([] : List Value) ++ own_s f8 [(.int ((XT.ushrL (p1 &&& (255 : Int32)).toInt64 (0 : Int32)).toInt32.toInt8.toInt32))]) ++ own_s f16 [(.int ((XT.ushrL (p2 &&& (65535 : Int32)).toInt64 (8 : Int32)).toInt32.toInt8.toInt32)), (.int ((XT.ushrL (p2 &&& (65535 : Int32)).toInt64 (0 : Int32)).toInt32.toInt8.toInt32))]) ++ own_s f48 [(.int ((XT.ushrL (p3 &&& (281474976710655 : Int64)) (40 : Int32)).toInt32.toInt8.toInt32)), (.int ((XT.ushrL (p3 &&& (281474976710655 : Int64)) (32 : Int32)).toInt32.toInt8.toInt32)), (.int ((XT.ushrL (p3 &&& (281474976710655 : Int64)) (24 : Int32)).toInt32.toInt8.toInt32)), (.int ((XT.ushrL (p3 &&& (281474976710655 : Int64)) (16 : Int32)).toInt32.toInt8.toInt32)), (.int ((XT.ushrL (p3 &&& (281474976710655 : Int64)) (8 : Int32)).toInt32.toInt8.toInt32)), (.int ((XT.ushrL (p3 &&& (281474976710655 : Int64)) (0 : Int32)).toInt32.toInt8.toInt32))]) ++ own_s fb (own_fl mm ((XT.ushr p5 (16 : Int32)).toInt8.toInt32) ((XT.ushr p5 (8 : Int32)).toInt8.toInt32))) ++ own_s f24 [(.int ((XT.ushrL (p4 &&& (16777215 : Int32)).toInt64 (16 : Int32)).toInt32.toInt8.toInt32)), (.int ((XT.ushrL (p4 &&& (16777215 : Int32)).toInt64 (8 : Int32)).toInt32.toInt8.toInt32)), (.int ((XT.ushrL (p4 &&& (16777215 : Int32)).toInt64 (0 : Int32)).toInt32.toInt8.toInt32))]).length)), .val (.int (1 : Int32)), .val (.int (Int32.ofNat ((([] : List Value) ++ own_s f8 [(.int ((XT.ushrL (p1 &&& (255 : Int32)).toInt64 (0 : Int32)).toInt32.toInt8.toInt32))]) ++ own_s f16 [(.int ((XT.ushrL (p2 &&& (65535 : Int32)).toInt64 (8 : Int32)).toInt32.toInt8.toInt32)), (.int ((XT.ushrL (p2 &&& (65535 : Int32)).toInt64 (0 : Int32)).toInt32.toInt8.toInt32))]).length)), .unset, .unset] [(.int (1 : Int32))])
                                            refine B.if0_eq 501 418 rfl (by decide) rfl at_415 (fun c415 => ?_) (fun c415 => ?_)
                                            · exact absurd c415 (by decide)
                                            · refine B.aload 420 rfl at_418 rfl rfl ?_
                                              refine B.iload 422 rfl at_420 rfl ?_
                                              refine B.iconst 423 rfl (1 : Int32) at_422 rfl ?_
                                              refine B.iadd 424 rfl at_423 ?_
                                              refine B.topI (Int32.ofNat (((([] : List Value) ++ own_s f8 [(.int ((XT.ushrL (p1 &&& (255 : Int32)).toInt64 (0 : Int32)).toInt32.toInt8.toInt32))]) ++ own_s f16 [(.int ((XT.ushrL (p2 &&& (65535 : Int32)).toInt64 (8 : Int32)).toInt32.toInt8.toInt32)), (.int ((XT.ushrL (p2 &&& (65535 : Int32)).toInt64 (0 : Int32)).toInt32.toInt8.toInt32))]).length + 1)) (own_add _ 1) ?_
                                              refine B.lload 426 rfl at_424 rfl ?_
                                              refine B.bipush 428 rfl (32 : Int32) at_426 rfl ?_
                                              refine B.callS 431 rfl at_428 (wd hw 63 rfl) (wd hw 64 rfl) (wd hw 65 rfl) (wd hw 66 rfl) (by decide) [(.ref r), (.int (Int32.ofNat (((([] : List Value) ++ own_s f8 [(.int ((XT.ushrL (p1 &&& (255 : Int32)).toInt64 (0 : Int32)).toInt32.toInt8.toInt32))]) ++ own_s f16 [(.int ((XT.ushrL (p2 &&& (65535 : Int32)).toInt64 (8 : Int32)).toInt32.toInt8.toInt32)), (.int ((XT.ushrL (p2 &&& (65535 : Int32)).toInt64 (0 : Int32)).toInt32.toInt8.toInt32))]).length + 1))), (.long (p3 &&& (281474976710655 : Int64))), (.int (32 : Int32))] [] (rm_eq l Z a0 hw r (p3 &&& (281474976710655 : Int64)) (32 : Int32) (((([] : List Value) ++ own_s f8 [(.int ((XT.ushrL (p1 &&& (255 : Int32)).toInt64 (0 : Int32)).toInt32.toInt8.toInt32))]) ++ own_s f16 [(.int ((XT.ushrL (p2 &&& (65535 : Int32)).toInt64 (8 : Int32)).toInt32.toInt8.toInt32)), (.int ((XT.ushrL (p2 &&& (65535 : Int32)).toInt64 (0 : Int32)).toInt32.toInt8.toInt32))]).length + 1) (((((([] : List Value) ++ own_s f8 [(.int ((XT.ushrL (p1 &&& (255 : Int32)).toInt64 (0 : Int32)).toInt32.toInt8.toInt32))]) ++ own_s f16 [(.int ((XT.ushrL (p2 &&& (65535 : Int32)).toInt64 (8 : Int32)).toInt32.toInt8.toInt32)), (.int ((XT.ushrL (p2 &&& (65535 : Int32)).toInt64 (0 : Int32)).toInt32.toInt8.toInt32))]) ++ own_s f48 [(.int ((XT.ushrL (p3 &&& (281474976710655 : Int64)) (40 : Int32)).toInt32.toInt8.toInt32)), (.int ((XT.ushrL (p3 &&& (281474976710655 : Int64)) (32 : Int32)).toInt32.toInt8.toInt32)), (.int ((XT.ushrL (p3 &&& (281474976710655 : Int64)) (24 : Int32)).toInt32.toInt8.toInt32)), (.int ((XT.ushrL (p3 &&& (281474976710655 : Int64)) (16 : Int32)).toInt32.toInt8.toInt32)), (.int ((XT.ushrL (p3 &&& (281474976710655 : Int64)) (8 : Int32)).toInt32.toInt8.toInt32)), (.int ((XT.ushrL (p3 &&& (281474976710655 : Int64)) (0 : Int32)).toInt32.toInt8.toInt32))]) ++ own_s fb (own_fl mm ((XT.ushr p5 (16 : Int32)).toInt8.toInt32) ((XT.ushr p5 (8 : Int32)).toInt8.toInt32))) ++ own_s f24 [(.int ((XT.ushrL (p4 &&& (16777215 : Int32)).toInt64 (16 : Int32)).toInt32.toInt8.toInt32)), (.int ((XT.ushrL (p4 &&& (16777215 : Int32)).toInt64 (8 : Int32)).toInt32.toInt8.toInt32)), (.int ((XT.ushrL (p4 &&& (16777215 : Int32)).toInt64 (0 : Int32)).toInt32.toInt8.toInt32))]) h4 Ar (by omega) (own_pre (own_pre (own_last (by rw [own_s1 c396]; rfl))))) rfl rfl pd___BIJI_Z rfl rfl 0 rfl (by decide) (by decide) (by decide) (by decide) (fun _ q => nomatch q) ?_
                                              rintro _ _ - ⟨rfl, rfl⟩
                                              show B.G h4 9 1693 (mkF m 431 #[.val (.int p1), .val (.int p2), .val (.long p3), .second, .val (.int p4), .val (.int p5), .val (.int p6), .val (.int f8), .val (.int f16), .val (.int f48), .val (.int fb), .val (.int f24), .val (.int (p1 &&& (255 : Int32))), .val (.int (p2 &&& (65535 : Int32))), .val (.long (p3 &&& (281474976710655 : Int64))), .second, .val (.int (p4 &&& (16777215 : Int32))), .val (.int (Int32.ofNat mm)), .val (.int (((XT.ushr p5 (8 : Int32))).toInt8.toInt32)), .val (.int (((XT.ushr p5 (16 : Int32))).toInt8.toInt32)), .val (.ref fi), .val (.ref wo), .val (.ref r), .val (.int (Int32.ofNat (((((([] : List Value) ++ own_s f8 [(.int ((XT.ushrL (p1 &&& (255 : Int32)).toInt64 (0 : Int32)).toInt32.toInt8.toInt32))]) ++ own_s f16 [(.int ((XT.ushrL (p2 &&& (65535 : Int32)).toInt64 (8 : Int32)).toInt32.toInt8.toInt32)), (.int ((XT.ushrL (p2 &&& (65535 : Int32)).toInt64 (0 : Int32)).toInt32.toInt8.toInt32))]) ++ own_s f48 [(.int ((XT.ushrL (p3 &&& (281474976710655 : Int64)) (40 : Int32)).toInt32.toInt8.toInt32)), (.int ((XT.ushrL (p3 &&& (281474976710655 : Int64)) (32 : Int32)).toInt32.toInt8.toInt32)), (.int ((XT.ushrL (p3 &&& (281474976710655 : Int64)) (24 : Int32)).toInt32.toInt8.toInt32)), (.int ((XT.ushrL (p3 &&& (281474976710655 : Int64)) (16 : Int32)).toInt32.toInt8.toInt32)), (.int ((XT.ushrL (p3 &&& (281474976710655 : Int64)) (8 : Int32)).toInt32.toInt8.toInt32)), (.int ((XT.ushrL (p3 &&& (281474976710655 : Int64)) (0 : Int32)).toInt32.toInt8.toInt32))]) ++ own_s fb (own_fl mm ((XT.ushr p5 (16 : Int32)).toInt8.toInt32) ((XT.ushr p5 (8 : Int32)).toInt8.toInt32))) ++ own_s f24 [(.int ((XT.ushrL (p4 &&& (16777215 : Int32)).toInt64 (16 : Int32)).toInt32.toInt8.toInt32)), (.int ((XT.ushrL (p4 &&& (16777215 : Int32)).toInt64 (8 : Int32)).toInt32.toInt8.toInt32)), (.int ((XT.ushrL (p4 &&& (16777215 : Int32)).toInt64 (0 : Int32)).toInt32.toInt8.toInt32))]).length)), .val (.int (1 : Int32)), .val (.int (Int32.ofNat ((([] : List Value) ++ own_s f8 [(.int ((XT.ushrL (p1 &&& (255 : Int32)).toInt64 (0 : Int32)).toInt32.toInt8.toInt32))]) ++ own_s f16 [(.int ((XT.ushrL (p2 &&& (65535 : Int32)).toInt64 (8 : Int32)).toInt32.toInt8.toInt32)), (.int ((XT.ushrL (p2 &&& (65535 : Int32)).toInt64 (0 : Int32)).toInt32.toInt8.toInt32))]).length)), .unset, .unset] [(.int (1 : Int32))])
                                              refine B.if0_eq 501 434 rfl (by decide) rfl at_431 (fun c431 => ?_) (fun c431 => ?_)
                                              · exact absurd c431 (by decide)
                                              · refine B.aload 436 rfl at_434 rfl rfl ?_
                                                refine B.iload 438 rfl at_436 rfl ?_
                                                refine B.iconst 439 rfl (2 : Int32) at_438 rfl ?_
                                                refine B.iadd 440 rfl at_439 ?_
                                                refine B.topI (Int32.ofNat (((([] : List Value) ++ own_s f8 [(.int ((XT.ushrL (p1 &&& (255 : Int32)).toInt64 (0 : Int32)).toInt32.toInt8.toInt32))]) ++ own_s f16 [(.int ((XT.ushrL (p2 &&& (65535 : Int32)).toInt64 (8 : Int32)).toInt32.toInt8.toInt32)), (.int ((XT.ushrL (p2 &&& (65535 : Int32)).toInt64 (0 : Int32)).toInt32.toInt8.toInt32))]).length + 2)) (own_add _ 2) ?_
                                                refine B.lload 442 rfl at_440 rfl ?_
                                                refine B.bipush 444 rfl (24 : Int32) at_442 rfl ?_
                                                refine B.callS 447 rfl at_444 (wd hw 63 rfl) (wd hw 64 rfl) (wd hw 65 rfl) (wd hw 66 rfl) (by decide) [(.ref r), (.int (Int32.ofNat (((([] : List Value) ++ own_s f8 [(.int ((XT.ushrL (p1 &&& (255 : Int32)).toInt64 (0 : Int32)).toInt32.toInt8.toInt32))]) ++ own_s f16 [(.int ((XT.ushrL (p2 &&& (65535 : Int32)).toInt64 (8 : Int32)).toInt32.toInt8.toInt32)), (.int ((XT.ushrL (p2 &&& (65535 : Int32)).toInt64 (0 : Int32)).toInt32.toInt8.toInt32))]).length + 2))), (.long (p3 &&& (281474976710655 : Int64))), (.int (24 : Int32))] [] (rm_eq l Z a0 hw r (p3 &&& (281474976710655 : Int64)) (24 : Int32) (((([] : List Value) ++ own_s f8 [(.int ((XT.ushrL (p1 &&& (255 : Int32)).toInt64 (0 : Int32)).toInt32.toInt8.toInt32))]) ++ own_s f16 [(.int ((XT.ushrL (p2 &&& (65535 : Int32)).toInt64 (8 : Int32)).toInt32.toInt8.toInt32)), (.int ((XT.ushrL (p2 &&& (65535 : Int32)).toInt64 (0 : Int32)).toInt32.toInt8.toInt32))]).length + 2) (((((([] : List Value) ++ own_s f8 [(.int ((XT.ushrL (p1 &&& (255 : Int32)).toInt64 (0 : Int32)).toInt32.toInt8.toInt32))]) ++ own_s f16 [(.int ((XT.ushrL (p2 &&& (65535 : Int32)).toInt64 (8 : Int32)).toInt32.toInt8.toInt32)), (.int ((XT.ushrL (p2 &&& (65535 : Int32)).toInt64 (0 : Int32)).toInt32.toInt8.toInt32))]) ++ own_s f48 [(.int ((XT.ushrL (p3 &&& (281474976710655 : Int64)) (40 : Int32)).toInt32.toInt8.toInt32)), (.int ((XT.ushrL (p3 &&& (281474976710655 : Int64)) (32 : Int32)).toInt32.toInt8.toInt32)), (.int ((XT.ushrL (p3 &&& (281474976710655 : Int64)) (24 : Int32)).toInt32.toInt8.toInt32)), (.int ((XT.ushrL (p3 &&& (281474976710655 : Int64)) (16 : Int32)).toInt32.toInt8.toInt32)), (.int ((XT.ushrL (p3 &&& (281474976710655 : Int64)) (8 : Int32)).toInt32.toInt8.toInt32)), (.int ((XT.ushrL (p3 &&& (281474976710655 : Int64)) (0 : Int32)).toInt32.toInt8.toInt32))]) ++ own_s fb (own_fl mm ((XT.ushr p5 (16 : Int32)).toInt8.toInt32) ((XT.ushr p5 (8 : Int32)).toInt8.toInt32))) ++ own_s f24 [(.int ((XT.ushrL (p4 &&& (16777215 : Int32)).toInt64 (16 : Int32)).toInt32.toInt8.toInt32)), (.int ((XT.ushrL (p4 &&& (16777215 : Int32)).toInt64 (8 : Int32)).toInt32.toInt8.toInt32)), (.int ((XT.ushrL (p4 &&& (16777215 : Int32)).toInt64 (0 : Int32)).toInt32.toInt8.toInt32))]) h4 Ar (by omega) (own_pre (own_pre (own_last (by rw [own_s1 c396]; rfl))))) rfl rfl pd___BIJI_Z rfl rfl 0 rfl (by decide) (by decide) (by decide) (by decide) (fun _ q => nomatch q) ?_
                                                rintro _ _ - ⟨rfl, rfl⟩
                                                show B.G h4 9 1693 (mkF m 447 #[.val (.int p1), .val (.int p2), .val (.long p3), .second, .val (.int p4), .val (.int p5), .val (.int p6), .val (.int f8), .val (.int f16), .val (.int f48), .val (.int fb), .val (.int f24), .val (.int (p1 &&& (255 : Int32))), .val (.int (p2 &&& (65535 : Int32))), .val (.long (p3 &&& (281474976710655 : Int64))), .second, .val (.int (p4 &&& (16777215 : Int32))), .val (.int (Int32.ofNat mm)), .val (.int (((XT.ushr p5 (8 : Int32))).toInt8.toInt32)), .val (.int (((XT.ushr p5 (16 : Int32))).toInt8.toInt32)), .val (.ref fi), .val (.ref wo), .val (.ref r), .val (.int (Int32.ofNat (((((([] : List Value) ++ own_s f8 [(.int ((XT.ushrL (p1 &&& (255 : Int32)).toInt64 (0 : Int32)).toInt32.toInt8.toInt32))]) ++ own_s f16 [(.int ((XT.ushrL (p2 &&& (65535 : Int32)).toInt64 (8 : Int32)).toInt32.toInt8.toInt32)), (.int ((XT.ushrL (p2 &&& (65535 : Int32)).toInt64 (0 : Int32)).toInt32.toInt8.toInt32))]) ++ own_s f48 [(.int ((XT.ushrL (p3 &&& (281474976710655 : Int64)) (40 : Int32)).toInt32.toInt8.toInt32)), (.int ((XT.ushrL (p3 &&& (281474976710655 : Int64)) (32 : Int32)).toInt32.toInt8.toInt32)), (.int ((XT.ushrL (p3 &&& (281474976710655 : Int64)) (24 : Int32)).toInt32.toInt8.toInt32)), (.int ((XT.ushrL (p3 &&& (281474976710655 : Int64)) (16 : Int32)).toInt32.toInt8.toInt32)), (.int ((XT.ushrL (p3 &&& (281474976710655 : Int64)) (8 : Int32)).toInt32.toInt8.toInt32)), (.int ((XT.ushrL (p3 &&& (281474976710655 : Int64)) (0 : Int32)).toInt32.toInt8.toInt32))]) ++ own_s fb (own_fl mm ((XT.ushr p5 (16 : Int32)).toInt8.toInt32) ((XT.ushr p5 (8 : Int32)).toInt8.toInt32))) ++ own_s f24 [(.int ((XT.ushrL (p4 &&& (16777215 : Int32)).toInt64 (16 : Int32)).toInt32.toInt8.toInt32)), (.int ((XT.ushrL (p4 &&& (16777215 : Int32)).toInt64 (8 : Int32)).toInt32.toInt8.toInt32)), (.int ((XT.ushrL (p4 &&& (16777215 : Int32)).toInt64 (0 : Int32)).toInt32.toInt8.toInt32))]).length)), .val (.int (1 : Int32)), .val (.int (Int32.ofNat ((([] : List Value) ++ own_s f8 [(.int ((XT.ushrL (p1 &&& (255 : Int32)).toInt64 (0 : Int32)).toInt32.toInt8.toInt32))]) ++ own_s f16 [(.int ((XT.ushrL (p2 &&& (65535 : Int32)).toInt64 (8 : Int32)).toInt32.toInt8.toInt32)), (.int ((XT.ushrL (p2 &&& (65535 : Int32)).toInt64 (0 : Int32)).toInt32.toInt8.toInt32))]).length)), .unset, .unset] [(.int (1 : Int32))])
                                                refine B.if0_eq 501 450 rfl (by decide) rfl at_447 (fun c447 => ?_) (fun c447 => ?_)
                                                · exact absurd c447 (by decide)
                                                · refine B.aload 452 rfl at_450 rfl rfl ?_
                                                  refine B.iload 454 rfl at_452 rfl ?_
                                                  refine B.iconst 455 rfl (3 : Int32) at_454 rfl ?_
                                                  refine B.iadd 456 rfl at_455 ?_
                                                  refine B.topI (Int32.ofNat (((([] : List Value) ++ own_s f8 [(.int ((XT.ushrL (p1 &&& (255 : Int32)).toInt64 (0 : Int32)).toInt32.toInt8.toInt32))]) ++ own_s f16 [(.int ((XT.ushrL (p2 &&& (65535 : Int32)).toInt64 (8 : Int32)).toInt32.toInt8.toInt32)), (.int ((XT.ushrL (p2 &&& (65535 : Int32)).toInt64 (0 : Int32)).toInt32.toInt8.toInt32))]).length + 3)) (own_add _ 3) ?_
                                                  refine B.lload 458 rfl at_456 rfl ?_
                                                  refine B.bipush 460 rfl (16 : Int32) at_458 rfl ?_
                                                  refine B.callS 463 rfl at_460 (wd hw 63 rfl) (wd hw 64 rfl) (wd hw 65 rfl) (wd hw 66 rfl) (by decide) [(.ref r), (.int (Int32.ofNat (((([] : List Value) ++ own_s f8 [(.int ((XT.ushrL (p1 &&& (255 : Int32)).toInt64 (0 : Int32)).toInt32.toInt8.toInt32))]) ++ own_s f16 [(.int ((XT.ushrL (p2 &&& (65535 : Int32)).toInt64 (8 : Int32)).toInt32.toInt8.toInt32)), (.int ((XT.ushrL (p2 &&& (65535 : Int32)).toInt64 (0 : Int32)).toInt32.toInt8.toInt32))]).length + 3))), (.long (p3 &&& (281474976710655 : Int64))), (.int (16 : Int32))] [] (rm_eq l Z a0 hw r (p3 &&& (281474976710655 : Int64)) (16 : Int32) (((([] : List Value) ++ own_s f8 [(.int ((XT.ushrL (p1 &&& (255 : Int32)).toInt64 (0 : Int32)).toInt32.toInt8.toInt32))]) ++ own_s f16 [(.int ((XT.ushrL (p2 &&& (65535 : Int32)).toInt64 (8 : Int32)).toInt32.toInt8.toInt32)), (.int ((XT.ushrL (p2 &&& (65535 : Int32)).toInt64 (0 : Int32)).toInt32.toInt8.toInt32))]).length + 3) (((((([] : List Value) ++ own_s f8 [(.int ((XT.ushrL (p1 &&& (255 : Int32)).toInt64 (0 : Int32)).toInt32.toInt8.toInt32))]) ++ own_s f16 [(.int ((XT.ushrL (p2 &&& (65535 : Int32)).toInt64 (8 : Int32)).toInt32.toInt8.toInt32)), (.int ((XT.ushrL (p2 &&& (65535 : Int32)).toInt64 (0 : Int32)).toInt32.toInt8.toInt32))]) ++ own_s f48 [(.int ((XT.ushrL (p3 &&& (281474976710655 : Int64)) (40 : Int32)).toInt32.toInt8.toInt32)), (.int ((XT.ushrL (p3 &&& (281474976710655 : Int64)) (32 : Int32)).toInt32.toInt8.toInt32)), (.int ((XT.ushrL (p3 &&& (281474976710655 : Int64)) (24 : Int32)).toInt32.toInt8.toInt32)), (.int ((XT.ushrL (p3 &&& (281474976710655 : Int64)) (16 : Int32)).toInt32.toInt8.toInt32)), (.int ((XT.ushrL (p3 &&& (281474976710655 : Int64)) (8 : Int32)).toInt32.toInt8.toInt32)), (.int ((XT.ushrL (p3 &&& (281474976710655 : Int64)) (0 : Int32)).toInt32.toInt8.toInt32))]) ++ own_s fb (own_fl mm ((XT.ushr p5 (16 : Int32)).toInt8.toInt32) ((XT.ushr p5 (8 : Int32)).toInt8.toInt32))) ++ own_s f24 [(.int ((XT.ushrL (p4 &&& (16777215 : Int32)).toInt64 (16 : Int32)).toInt32.toInt8.toInt32)), (.int ((XT.ushrL (p4 &&& (16777215 : Int32)).toInt64 (8 : Int32)).toInt32.toInt8.toInt32)), (.int ((XT.ushrL (p4 &&& (16777215 : Int32)).toInt64 (0 : Int32)).toInt32.toInt8.toInt32))]) h4 Ar (by omega) (own_pre (own_pre (own_last (by rw [own_s1 c396]; rfl))))) rfl rfl pd___BIJI_Z rfl rfl 0 rfl (by decide) (by decide) (by decide) (by decide) (fun _ q => nomatch q) ?_
                                                  rintro _ _ - ⟨rfl, rfl⟩
                                                  show B.G h4 9 1693 (mkF m 463 #[.val (.int p1), .val (.int p2), .val (.long p3), .second, .val (.int p4), .val (.int p5), .val (.int p6), .val (.int f8), .val (.int f16), .val (.int f48), .val (.int fb), .val (.int f24), .val (.int (p1 &&& (255 : Int32))), .val (.int (p2 &&& (65535 : Int32))), .val (.long (p3 &&& (281474976710655 : Int64))), .second, .val (.int (p4 &&& (16777215 : Int32))), .val (.int (Int32.ofNat mm)), .val (.int (((XT.ushr p5 (8 : Int32))).toInt8.toInt32)), .val (.int (((XT.ushr p5 (16 : Int32))).toInt8.toInt32)), .val (.ref fi), .val (.ref wo), .val (.ref r), .val (.int (Int32.ofNat (((((([] : List Value) ++ own_s f8 [(.int ((XT.ushrL (p1 &&& (255 : Int32)).toInt64 (0 : Int32)).toInt32.toInt8.toInt32))]) ++ own_s f16 [(.int ((XT.ushrL (p2 &&& (65535 : Int32)).toInt64 (8 : Int32)).toInt32.toInt8.toInt32)), (.int ((XT.ushrL (p2 &&& (65535 : Int32)).toInt64 (0 : Int32)).toInt32.toInt8.toInt32))]) ++ own_s f48 [(.int ((XT.ushrL (p3 &&& (281474976710655 : Int64)) (40 : Int32)).toInt32.toInt8.toInt32)), (.int ((XT.ushrL (p3 &&& (281474976710655 : Int64)) (32 : Int32)).toInt32.toInt8.toInt32)), (.int ((XT.ushrL (p3 &&& (281474976710655 : Int64)) (24 : Int32)).toInt32.toInt8.toInt32)), (.int ((XT.ushrL (p3 &&& (281474976710655 : Int64)) (16 : Int32)).toInt32.toInt8.toInt32)), (.int ((XT.ushrL (p3 &&& (281474976710655 : Int64)) (8 : Int32)).toInt32.toInt8.toInt32)), (.int ((XT.ushrL (p3 &&& (281474976710655 : Int64)) (0 : Int32)).toInt32.toInt8.toInt32))]) ++ own_s fb (own_fl mm ((XT.ushr p5 (16 : Int32)).toInt8.toInt32) ((XT.ushr p5 (8 : Int32)).toInt8.toInt32))) ++ own_s f24 [(.int ((XT.ushrL (p4 &&& (16777215 : Int32)).toInt64 (16 : Int32)).toInt32.toInt8.toInt32)), (.int ((XT.ushrL (p4 &&& (16777215 : Int32)).toInt64 (8 : Int32)).toInt32.toInt8.toInt32)), (.int ((XT.ushrL (p4 &&& (16777215 : Int32)).toInt64 (0 : Int32)).toInt32.toInt8.toInt32))]).length)), .val (.int (1 : Int32)), .val (.int (Int32.ofNat ((([] : List Value) ++ own_s f8 [(.int ((XT.ushrL (p1 &&& (255 : Int32)).toInt64 (0 : Int32)).toInt32.toInt8.toInt32))]) ++ own_s f16 [(.int ((XT.ushrL (p2 &&& (65535 : Int32)).toInt64 (8 : Int32)).toInt32.toInt8.toInt32)), (.int ((XT.ushrL (p2 &&& (65535 : Int32)).toInt64 (0 : Int32)).toInt32.toInt8.toInt32))]).length)), .unset, .unset] [(.int (1 : Int32))])
                                                  refine B.if0_eq 501 466 rfl (by decide) rfl at_463 (fun c463 => ?_) (fun c463 => ?_)
                                                  · exact absurd c463 (by decide)
                                                  · refine B.aload 468 rfl at_466 rfl rfl ?_
                                                    refine B.iload 470 rfl at_468 rfl ?_
                                                    refine B.iconst 471 rfl (4 : Int32) at_470 rfl ?_
                                                    refine B.iadd 472 rfl at_471 ?_
                                                    refine B.topI (Int32.ofNat (((([] : List Value) ++ own_s f8 [(.int ((XT.ushrL (p1 &&& (255 : Int32)).toInt64 (0 : Int32)).toInt32.toInt8.toInt32))]) ++ own_s f16 [(.int ((XT.ushrL (p2 &&& (65535 : Int32)).toInt64 (8 : Int32)).toInt32.toInt8.toInt32)), (.int ((XT.ushrL (p2 &&& (65535 : Int32)).toInt64 (0 : Int32)).toInt32.toInt8.toInt32))]).length + 4)) (own_add _ 4) ?_
                                                    refine B.lload 474 rfl at_472 rfl ?_
                                                    refine B.bipush 476 rfl (8 : Int32) at_474 rfl ?_
                                                    refine B.callS 479 rfl at_476 (wd hw 63 rfl) (wd hw 64 rfl) (wd hw 65 rfl) (wd hw 66 rfl) (by decide) [(.ref r), (.int (Int32.ofNat (((([] : List Value) ++ own_s f8 [(.int ((XT.ushrL (p1 &&& (255 : Int32)).toInt64 (0 : Int32)).toInt32.toInt8.toInt32))]) ++ own_s f16 [(.int ((XT.ushrL (p2 &&& (65535 : Int32)).toInt64 (8 : Int32)).toInt32.toInt8.toInt32)), (.int ((XT.ushrL (p2 &&& (65535 : Int32)).toInt64 (0 : Int32)).toInt32.toInt8.toInt32))]).length + 4))), (.long (p3 &&& (281474976710655 : Int64))), (.int (8 : Int32))] [] (rm_eq l Z a0 hw r (p3 &&& (281474976710655 : Int64)) (8 : Int32) (((([] : List Value) ++ own_s f8 [(.int ((XT.ushrL (p1 &&& (255 : Int32)).toInt64 (0 : Int32)).toInt32.toInt8.toInt32))]) ++ own_s f16 [(.int ((XT.ushrL (p2 &&& (65535 : Int32)).toInt64 (8 : Int32)).toInt32.toInt8.toInt32)), (.int ((XT.ushrL (p2 &&& (65535 : Int32)).toInt64 (0 : Int32)).toInt32.toInt8.toInt32))]).length + 4) (((((([] : List Value) ++ own_s f8 [(.int ((XT.ushrL (p1 &&& (255 : Int32)).toInt64 (0 : Int32)).toInt32.toInt8.toInt32))]) ++ own_s f16 [(.int ((XT.ushrL (p2 &&& (65535 : Int32)).toInt64 (8 : Int32)).toInt32.toInt8.toInt32)), (.int ((XT.ushrL (p2 &&& (65535 : Int32)).toInt64 (0 : Int32)).toInt32.toInt8.toInt32))]) ++ own_s f48 [(.int ((XT.ushrL (p3 &&& (281474976710655 : Int64)) (40 : Int32)).toInt32.toInt8.toInt32)), (.int ((XT.ushrL (p3 &&& (281474976710655 : Int64)) (32 : Int32)).toInt32.toInt8.toInt32)), (.int ((XT.ushrL (p3 &&& (281474976710655 : Int64)) (24 : Int32)).toInt32.toInt8.toInt32)), (.int ((XT.ushrL (p3 &&& (281474976710655 : Int64)) (16 : Int32)).toInt32.toInt8.toInt32)), (.int ((XT.ushrL (p3 &&& (281474976710655 : Int64)) (8 : Int32)).toInt32.toInt8.toInt32)), (.int ((XT.ushrL (p3 &&& (281474976710655 : Int64)) (0 : Int32)).toInt32.toInt8.toInt32))]) ++ own_s fb (own_fl mm ((XT.ushr p5 (16 : Int32)).toInt8.toInt32) ((XT.ushr p5 (8 : Int32)).toInt8.toInt32))) ++ own_s f24 [(.int ((XT.ushrL (p4 &&& (16777215 : Int32)).toInt64 (16 : Int32)).toInt32.toInt8.toInt32)), (.int ((XT.ushrL (p4 &&& (16777215 : Int32)).toInt64 (8 : Int32)).toInt32.toInt8.toInt32)), (.int ((XT.ushrL (p4 &&& (16777215 : Int32)).toInt64 (0 : Int32)).toInt32.toInt8.toInt32))]) h4 Ar (by omega) (own_pre (own_pre (own_last (by rw [own_s1 c396]; rfl))))) rfl rfl pd___BIJI_Z rfl rfl 0 rfl (by decide) (by decide) (by decide) (by decide) (fun _ q => nomatch q) ?_
                                                    rintro _ _ - ⟨rfl, rfl⟩
                                                    show B.G h4 9 1693 (mkF m 479 #[.val (.int p1), .val (.int p2), .val (.long p3), .second, .val (.int p4), .val (.int p5), .val (.int p6), .val (.int f8), .val (.int f16), .val (.int f48), .val (.int fb), .val (.int f24), .val (.int (p1 &&& (255 : Int32))), .val (.int (p2 &&& (65535 : Int32))), .val (.long (p3 &&& (281474976710655 : Int64))), .second, .val (.int (p4 &&& (16777215 : Int32))), .val (.int (Int32.ofNat mm)), .val (.int (((XT.ushr p5 (8 : Int32))).toInt8.toInt32)), .val (.int (((XT.ushr p5 (16 : Int32))).toInt8.toInt32)), .val (.ref fi), .val (.ref wo), .val (.ref r), .val (.int (Int32.ofNat (((((([] : List Value) ++ own_s f8 [(.int ((XT.ushrL (p1 &&& (255 : Int32)).toInt64 (0 : Int32)).toInt32.toInt8.toInt32))]) ++ own_s f16 [(.int ((XT.ushrL (p2 &&& (65535 : Int32)).toInt64 (8 : Int32)).toInt32.toInt8.toInt32)), (.int ((XT.ushrL (p2 &&& (65535 : Int32)).toInt64 (0 : Int32)).toInt32.toInt8.toInt32))]) ++ own_s f48 [(.int ((XT.ushrL (p3 &&& (281474976710655 : Int64)) (40 : Int32)).toInt32.toInt8.toInt32)), (.int ((XT.ushrL (p3 &&& (281474976710655 : Int64)) (32 : Int32)).toInt32.toInt8.toInt32)), (.int ((XT.ushrL (p3 &&& (281474976710655 : Int64)) (24 : Int32)).toInt32.toInt8.toInt32)), (.int ((XT.ushrL (p3 &&& (281474976710655 : Int64)) (16 : Int32)).toInt32.toInt8.toInt32)), (.int ((XT.ushrL (p3 &&& (281474976710655 : Int64)) (8 : Int32)).toInt32.toInt8.toInt32)), (.int ((XT.ushrL (p3 &&& (281474976710655 : Int64)) (0 : Int32)).toInt32.toInt8.toInt32))]) ++ own_s fb (own_fl mm ((XT.ushr p5 (16 : Int32)).toInt8.toInt32) ((XT.ushr p5 (8 : Int32)).toInt8.toInt32))) ++ own_s f24 [(.int ((XT.ushrL (p4 &&& (16777215 : Int32)).toInt64 (16 : Int32)).toInt32.toInt8.toInt32)), (.int ((XT.ushrL (p4 &&& (16777215 : Int32)).toInt64 (8 : Int32)).toInt32.toInt8.toInt32)), (.int ((XT.ushrL (p4 &&& (16777215 : Int32)).toInt64 (0 : Int32)).toInt32.toInt8.toInt32))]).length)), .val (.int (1 : Int32)), .val (.int (Int32.ofNat ((([] : List Value) ++ own_s f8 [(.int ((XT.ushrL (p1 &&& (255 : Int32)).toInt64 (0 : Int32)).toInt32.toInt8.toInt32))]) ++ own_s f16 [(.int ((XT.ushrL (p2 &&& (65535 : Int32)).toInt64 (8 : Int32)).toInt32.toInt8.toInt32)), (.int ((XT.ushrL (p2 &&& (65535 : Int32)).toInt64 (0 : Int32)).toInt32.toInt8.toInt32))]).length)), .unset, .unset] [(.int (1 : Int32))])
                                                    refine B.if0_eq 501 482 rfl (by decide) rfl at_479 (fun c479 => ?_) (fun c479 => ?_)
                                                    · exact absurd c479 (by decide)
                                                    · refine B.aload 484 rfl at_482 rfl rfl ?_
                                                      refine B.iload 486 rfl at_484 rfl ?_
                                                      refine B.iconst 487 rfl (5 : Int32) at_486 rfl ?_
                                                      refine B.iadd 488 rfl at_487 ?_
                                                      refine B.topI (Int32.ofNat (((([] : List Value) ++ own_s f8 [(.int ((XT.ushrL (p1 &&& (255 : Int32)).toInt64 (0 : Int32)).toInt32.toInt8.toInt32))]) ++ own_s f16 [(.int ((XT.ushrL (p2 &&& (65535 : Int32)).toInt64 (8 : Int32)).toInt32.toInt8.toInt32)), (.int ((XT.ushrL (p2 &&& (65535 : Int32)).toInt64 (0 : Int32)).toInt32.toInt8.toInt32))]).length + 5)) (own_add _ 5) ?_
                                                      refine B.lload 490 rfl at_488 rfl ?_
                                                      refine B.iconst 491 rfl (0 : Int32) at_490 rfl ?_
                                                      refine B.callS 494 rfl at_491 (wd hw 63 rfl) (wd hw 64 rfl) (wd hw 65 rfl) (wd hw 66 rfl) (by decide) [(.ref r), (.int (Int32.ofNat (((([] : List Value) ++ own_s f8 [(.int ((XT.ushrL (p1 &&& (255 : Int32)).toInt64 (0 : Int32)).toInt32.toInt8.toInt32))]) ++ own_s f16 [(.int ((XT.ushrL (p2 &&& (65535 : Int32)).toInt64 (8 : Int32)).toInt32.toInt8.toInt32)), (.int ((XT.ushrL (p2 &&& (65535 : Int32)).toInt64 (0 : Int32)).toInt32.toInt8.toInt32))]).length + 5))), (.long (p3 &&& (281474976710655 : Int64))), (.int (0 : Int32))] [] (rm_eq l Z a0 hw r (p3 &&& (281474976710655 : Int64)) (0 : Int32) (((([] : List Value) ++ own_s f8 [(.int ((XT.ushrL (p1 &&& (255 : Int32)).toInt64 (0 : Int32)).toInt32.toInt8.toInt32))]) ++ own_s f16 [(.int ((XT.ushrL (p2 &&& (65535 : Int32)).toInt64 (8 : Int32)).toInt32.toInt8.toInt32)), (.int ((XT.ushrL (p2 &&& (65535 : Int32)).toInt64 (0 : Int32)).toInt32.toInt8.toInt32))]).length + 5) (((((([] : List Value) ++ own_s f8 [(.int ((XT.ushrL (p1 &&& (255 : Int32)).toInt64 (0 : Int32)).toInt32.toInt8.toInt32))]) ++ own_s f16 [(.int ((XT.ushrL (p2 &&& (65535 : Int32)).toInt64 (8 : Int32)).toInt32.toInt8.toInt32)), (.int ((XT.ushrL (p2 &&& (65535 : Int32)).toInt64 (0 : Int32)).toInt32.toInt8.toInt32))]) ++ own_s f48 [(.int ((XT.ushrL (p3 &&& (281474976710655 : Int64)) (40 : Int32)).toInt32.toInt8.toInt32)), (.int ((XT.ushrL (p3 &&& (281474976710655 : Int64)) (32 : Int32)).toInt32.toInt8.toInt32)), (.int ((XT.ushrL (p3 &&& (281474976710655 : Int64)) (24 : Int32)).toInt32.toInt8.toInt32)), (.int ((XT.ushrL (p3 &&& (281474976710655 : Int64)) (16 : Int32)).toInt32.toInt8.toInt32)), (.int ((XT.ushrL (p3 &&& (281474976710655 : Int64)) (8 : Int32)).toInt32.toInt8.toInt32)), (.int ((XT.ushrL (p3 &&& (281474976710655 : Int64)) (0 : Int32)).toInt32.toInt8.toInt32))]) ++ own_s fb (own_fl mm ((XT.ushr p5 (16 : Int32)).toInt8.toInt32) ((XT.ushr p5 (8 : Int32)).toInt8.toInt32))) ++ own_s f24 [(.int ((XT.ushrL (p4 &&& (16777215 : Int32)).toInt64 (16 : Int32)).toInt32.toInt8.toInt32)), (.int ((XT.ushrL (p4 &&& (16777215 : Int32)).toInt64 (8 : Int32)).toInt32.toInt8.toInt32)), (.int ((XT.ushrL (p4 &&& (16777215 : Int32)).toInt64 (0 : Int32)).toInt32.toInt8.toInt32))]) h4 Ar (by omega) (own_pre (own_pre (own_last (by rw [own_s1 c396]; rfl))))) rfl rfl pd___BIJI_Z rfl rfl 0 rfl (by decide) (by decide) (by decide) (by decide) (fun _ q => nomatch q) ?_
                                                      rintro _ _ - ⟨rfl, rfl⟩
                                                      show B.G h4 9 1693 (mkF m 494 #[.val (.int p1), .val (.int p2), .val (.long p3), .second, .val (.int p4), .val (.int p5), .val (.int p6), .val (.int f8), .val (.int f16), .val (.int f48), .val (.int fb), .val (.int f24), .val (.int (p1 &&& (255 : Int32))), .val (.int (p2 &&& (65535 : Int32))), .val (.long (p3 &&& (281474976710655 : Int64))), .second, .val (.int (p4 &&& (16777215 : Int32))), .val (.int (Int32.ofNat mm)), .val (.int (((XT.ushr p5 (8 : Int32))).toInt8.toInt32)), .val (.int (((XT.ushr p5 (16 : Int32))).toInt8.toInt32)), .val (.ref fi), .val (.ref wo), .val (.ref r), .val (.int (Int32.ofNat (((((([] : List Value) ++ own_s f8 [(.int ((XT.ushrL (p1 &&& (255 : Int32)).toInt64 (0 : Int32)).toInt32.toInt8.toInt32))]) ++ own_s f16 [(.int ((XT.ushrL (p2 &&& (65535 : Int32)).toInt64 (8 : Int32)).toInt32.toInt8.toInt32)), (.int ((XT.ushrL (p2 &&& (65535 : Int32)).toInt64 (0 : Int32)).toInt32.toInt8.toInt32))]) ++ own_s f48 [(.int ((XT.ushrL (p3 &&& (281474976710655 : Int64)) (40 : Int32)).toInt32.toInt8.toInt32)), (.int ((XT.ushrL (p3 &&& (281474976710655 : Int64)) (32 : Int32)).toInt32.toInt8.toInt32)), (.int ((XT.ushrL (p3 &&& (281474976710655 : Int64)) (24 : Int32)).toInt32.toInt8.toInt32)), (.int ((XT.ushrL (p3 &&& (281474976710655 : Int64)) (16 : Int32)).toInt32.toInt8.toInt32)), (.int ((XT.ushrL (p3 &&& (281474976710655 : Int64)) (8 : Int32)).toInt32.toInt8.toInt32)), (.int ((XT.ushrL (p3 &&& (281474976710655 : Int64)) (0 : Int32)).toInt32.toInt8.toInt32))]) ++ own_s fb (own_fl mm ((XT.ushr p5 (16 : Int32)).toInt8.toInt32) ((XT.ushr p5 (8 : Int32)).toInt8.toInt32))) ++ own_s f24 [(.int ((XT.ushrL (p4 &&& (16777215 : Int32)).toInt64 (16 : Int32)).toInt32.toInt8.toInt32)), (.int ((XT.ushrL (p4 &&& (16777215 : Int32)).toInt64 (8 : Int32)).toInt32.toInt8.toInt32)), (.int ((XT.ushrL (p4 &&& (16777215 : Int32)).toInt64 (0 : Int32)).toInt32.toInt8.toInt32))]).length)), .val (.int (1 : Int32)), .val (.int (Int32.ofNat ((([] : List Value) ++ own_s f8 [(.int ((XT.ushrL (p1 &&& (255 : Int32)).toInt64 (0 : Int32)).toInt32.toInt8.toInt32))]) ++ own_s f16 [(.int ((XT.ushrL (p2 &&& (65535 : Int32)).toInt64 (8 : Int32)).toInt32.toInt8.toInt32)), (.int ((XT.ushrL (p2 &&& (65535 : Int32)).toInt64 (0 : Int32)).toInt32.toInt8.toInt32))]).length)), .unset, .unset] [(.int (1 : Int32))])
                                                      refine B.if0_eq 501 497 rfl (by decide) rfl at_494 (fun c494 => ?_) (fun c494 => ?_)
                                                      · exact absurd c494 (by decide)
                                                      · refine B.iconst 498 rfl (1 : Int32) at_497 rfl ?_
                                                        refine B.goto 502 rfl (by decide) at_498 ?_
                                                        refine B.istore 504 rfl at_502 #[.val (.int p1), .val (.int p2), .val (.long p3), .second, .val (.int p4), .val (.int p5), .val (.int p6), .val (.int f8), .val (.int f16), .val (.int f48), .val (.int fb), .val (.int f24), .val (.int (p1 &&& (255 : Int32))), .val (.int (p2 &&& (65535 : Int32))), .val (.long (p3 &&& (281474976710655 : Int64))), .second, .val (.int (p4 &&& (16777215 : Int32))), .val (.int (Int32.ofNat mm)), .val (.int (((XT.ushr p5 (8 : Int32))).toInt8.toInt32)), .val (.int (((XT.ushr p5 (16 : Int32))).toInt8.toInt32)), .val (.ref fi), .val (.ref wo), .val (.ref r), .val (.int (Int32.ofNat (((((([] : List Value) ++ own_s f8 [(.int ((XT.ushrL (p1 &&& (255 : Int32)).toInt64 (0 : Int32)).toInt32.toInt8.toInt32))]) ++ own_s f16 [(.int ((XT.ushrL (p2 &&& (65535 : Int32)).toInt64 (8 : Int32)).toInt32.toInt8.toInt32)), (.int ((XT.ushrL (p2 &&& (65535 : Int32)).toInt64 (0 : Int32)).toInt32.toInt8.toInt32))]) ++ own_s f48 [(.int ((XT.ushrL (p3 &&& (281474976710655 : Int64)) (40 : Int32)).toInt32.toInt8.toInt32)), (.int ((XT.ushrL (p3 &&& (281474976710655 : Int64)) (32 : Int32)).toInt32.toInt8.toInt32)), (.int ((XT.ushrL (p3 &&& (281474976710655 : Int64)) (24 : Int32)).toInt32.toInt8.toInt32)), (.int ((XT.ushrL (p3 &&& (281474976710655 : Int64)) (16 : Int32)).toInt32.toInt8.toInt32)), (.int ((XT.ushrL (p3 &&& (281474976710655 : Int64)) (8 : Int32)).toInt32.toInt8.toInt32)), (.int ((XT.ushrL (p3 &&& (281474976710655 : Int64)) (0 : Int32)).toInt32.toInt8.toInt32))]) ++ own_s fb (own_fl mm ((XT.ushr p5 (16 : Int32)).toInt8.toInt32) ((XT.ushr p5 (8 : Int32)).toInt8.toInt32))) ++ own_s f24 [(.int ((XT.ushrL (p4 &&& (16777215 : Int32)).toInt64 (16 : Int32)).toInt32.toInt8.toInt32)), (.int ((XT.ushrL (p4 &&& (16777215 : Int32)).toInt64 (8 : Int32)).toInt32.toInt8.toInt32)), (.int ((XT.ushrL (p4 &&& (16777215 : Int32)).toInt64 (0 : Int32)).toInt32.toInt8.toInt32))]).length)), .val (.int (1 : Int32)), .val (.int (Int32.ofNat ((([] : List Value) ++ own_s f8 [(.int ((XT.ushrL (p1 &&& (255 : Int32)).toInt64 (0 : Int32)).toInt32.toInt8.toInt32))]) ++ own_s f16 [(.int ((XT.ushrL (p2 &&& (65535 : Int32)).toInt64 (8 : Int32)).toInt32.toInt8.toInt32)), (.int ((XT.ushrL (p2 &&& (65535 : Int32)).toInt64 (0 : Int32)).toInt32.toInt8.toInt32))]).length)), .unset, .unset] rfl ?_
                                                        refine B.iload 506 rfl at_504 rfl ?_
                                                        refine B.bipush 508 rfl (6 : Int32) at_506 rfl ?_
                                                        refine B.iadd 509 rfl at_508 ?_
                                                        refine B.topI (Int32.ofNat (((([] : List Value) ++ own_s f8 [(.int ((XT.ushrL (p1 &&& (255 : Int32)).toInt64 (0 : Int32)).toInt32.toInt8.toInt32))]) ++ own_s f16 [(.int ((XT.ushrL (p2 &&& (65535 : Int32)).toInt64 (8 : Int32)).toInt32.toInt8.toInt32)), (.int ((XT.ushrL (p2 &&& (65535 : Int32)).toInt64 (0 : Int32)).toInt32.toInt8.toInt32))]) ++ own_s f48 [(.int ((XT.ushrL (p3 &&& (281474976710655 : Int64)) (40 : Int32)).toInt32.toInt8.toInt32)), (.int ((XT.ushrL (p3 &&& (281474976710655 : Int64)) (32 : Int32)).toInt32.toInt8.toInt32)), (.int ((XT.ushrL (p3 &&& (281474976710655 : Int64)) (24 : Int32)).toInt32.toInt8.toInt32)), (.int ((XT.ushrL (p3 &&& (281474976710655 : Int64)) (16 : Int32)).toInt32.toInt8.toInt32)), (.int ((XT.ushrL (p3 &&& (281474976710655 : Int64)) (8 : Int32)).toInt32.toInt8.toInt32)), (.int ((XT.ushrL (p3 &&& (281474976710655 : Int64)) (0 : Int32)).toInt32.toInt8.toInt32))]).length) (own_padd c396 rfl) ?_
                                                        refine B.istore 511 rfl at_509 #[.val (.int p1), .val (.int p2), .val (.long p3), .second, .val (.int p4), .val (.int p5), .val (.int p6), .val (.int f8), .val (.int f16), .val (.int f48), .val (.int fb), .val (.int f24), .val (.int (p1 &&& (255 : Int32))), .val (.int (p2 &&& (65535 : Int32))), .val (.long (p3 &&& (281474976710655 : Int64))), .second, .val (.int (p4 &&& (16777215 : Int32))), .val (.int (Int32.ofNat mm)), .val (.int (((XT.ushr p5 (8 : Int32))).toInt8.toInt32)), .val (.int (((XT.ushr p5 (16 : Int32))).toInt8.toInt32)), .val (.ref fi), .val (.ref wo), .val (.ref r), .val (.int (Int32.ofNat (((((([] : List Value) ++ own_s f8 [(.int ((XT.ushrL (p1 &&& (255 : Int32)).toInt64 (0 : Int32)).toInt32.toInt8.toInt32))]) ++ own_s f16 [(.int ((XT.ushrL (p2 &&& (65535 : Int32)).toInt64 (8 : Int32)).toInt32.toInt8.toInt32)), (.int ((XT.ushrL (p2 &&& (65535 : Int32)).toInt64 (0 : Int32)).toInt32.toInt8.toInt32))]) ++ own_s f48 [(.int ((XT.ushrL (p3 &&& (281474976710655 : Int64)) (40 : Int32)).toInt32.toInt8.toInt32)), (.int ((XT.ushrL (p3 &&& (281474976710655 : Int64)) (32 : Int32)).toInt32.toInt8.toInt32)), (.int ((XT.ushrL (p3 &&& (281474976710655 : Int64)) (24 : Int32)).toInt32.toInt8.toInt32)), (.int ((XT.ushrL (p3 &&& (281474976710655 : Int64)) (16 : Int32)).toInt32.toInt8.toInt32)), (.int ((XT.ushrL (p3 &&& (281474976710655 : Int64)) (8 : Int32)).toInt32.toInt8.toInt32)), (.int ((XT.ushrL (p3 &&& (281474976710655 : Int64)) (0 : Int32)).toInt32.toInt8.toInt32))]) ++ own_s fb (own_fl mm ((XT.ushr p5 (16 : Int32)).toInt8.toInt32) ((XT.ushr p5 (8 : Int32)).toInt8.toInt32))) ++ own_s f24 [(.int ((XT.ushrL (p4 &&& (16777215 : Int32)).toInt64 (16 : Int32)).toInt32.toInt8.toInt32)), (.int ((XT.ushrL (p4 &&& (16777215 : Int32)).toInt64 (8 : Int32)).toInt32.toInt8.toInt32)), (.int ((XT.ushrL (p4 &&& (16777215 : Int32)).toInt64 (0 : Int32)).toInt32.toInt8.toInt32))]).length)), .val (.int (1 : Int32)), .val (.int (Int32.ofNat (((([] : List Value) ++ own_s f8 [(.int ((XT.ushrL (p1 &&& (255 : Int32)).toInt64 (0 : Int32)).toInt32.toInt8.toInt32))]) ++ own_s f16 [(.int ((XT.ushrL (p2 &&& (65535 : Int32)).toInt64 (8 : Int32)).toInt32.toInt8.toInt32)), (.int ((XT.ushrL (p2 &&& (65535 : Int32)).toInt64 (0 : Int32)).toInt32.toInt8.toInt32))]) ++ own_s f48 [(.int ((XT.ushrL (p3 &&& (281474976710655 : Int64)) (40 : Int32)).toInt32.toInt8.toInt32)), (.int ((XT.ushrL (p3 &&& (281474976710655 : Int64)) (32 : Int32)).toInt32.toInt8.toInt32)), (.int ((XT.ushrL (p3 &&& (281474976710655 : Int64)) (24 : Int32)).toInt32.toInt8.toInt32)), (.int ((XT.ushrL (p3 &&& (281474976710655 : Int64)) (16 : Int32)).toInt32.toInt8.toInt32)), (.int ((XT.ushrL (p3 &&& (281474976710655 : Int64)) (8 : Int32)).toInt32.toInt8.toInt32)), (.int ((XT.ushrL (p3 &&& (281474976710655 : Int64)) (0 : Int32)).toInt32.toInt8.toInt32))]).length)), .unset, .unset] rfl ?_
                                                        exact J396
                                      refine B.if0_eq 394 345 rfl (by decide) rfl at_342 (fun c342 => ?_) (fun c342 => ?_)
                                      · have ep : (Int32.ofNat (([] : List Value) ++ own_s f8 [(.int ((XT.ushrL (p1 &&& (255 : Int32)).toInt64 (0 : Int32)).toInt32.toInt8.toInt32))]).length) = (Int32.ofNat ((([] : List Value) ++ own_s f8 [(.int ((XT.ushrL (p1 &&& (255 : Int32)).toInt64 (0 : Int32)).toInt32.toInt8.toInt32))]) ++ own_s f16 [(.int ((XT.ushrL (p2 &&& (65535 : Int32)).toInt64 (8 : Int32)).toInt32.toInt8.toInt32)), (.int ((XT.ushrL (p2 &&& (65535 : Int32)).toInt64 (0 : Int32)).toInt32.toInt8.toInt32))]).length) := by rw [own_s0 c342, List.append_nil]
                                        rw [ep]
                                        exact J342
                                      · refine B.iload 347 rfl at_345 rfl ?_
                                        refine B.if0_eq 385 350 rfl (by decide) rfl at_347 (fun c347 => ?_) (fun c347 => ?_)
                                        · exact absurd c347 (by decide)
                                        · refine B.aload 352 rfl at_350 rfl rfl ?_
                                          refine B.iload 354 rfl at_352 rfl ?_
                                          refine B.iload 356 rfl at_354 rfl ?_
                                          refine B.i2l 357 rfl at_356 ?_
                                          refine B.bipush 359 rfl (8 : Int32) at_357 rfl ?_
                                          refine B.callS 362 rfl at_359 (wd hw 63 rfl) (wd hw 64 rfl) (wd hw 65 rfl) (wd hw 66 rfl) (by decide) [(.ref r), (.int (Int32.ofNat (([] : List Value) ++ own_s f8 [(.int ((XT.ushrL (p1 &&& (255 : Int32)).toInt64 (0 : Int32)).toInt32.toInt8.toInt32))]).length)), (.long (((p2 &&& (65535 : Int32))).toInt64)), (.int (8 : Int32))] [] (rm_eq l Z a0 hw r (((p2 &&& (65535 : Int32))).toInt64) (8 : Int32) ((([] : List Value) ++ own_s f8 [(.int ((XT.ushrL (p1 &&& (255 : Int32)).toInt64 (0 : Int32)).toInt32.toInt8.toInt32))]).length + 0) (((((([] : List Value) ++ own_s f8 [(.int ((XT.ushrL (p1 &&& (255 : Int32)).toInt64 (0 : Int32)).toInt32.toInt8.toInt32))]) ++ own_s f16 [(.int ((XT.ushrL (p2 &&& (65535 : Int32)).toInt64 (8 : Int32)).toInt32.toInt8.toInt32)), (.int ((XT.ushrL (p2 &&& (65535 : Int32)).toInt64 (0 : Int32)).toInt32.toInt8.toInt32))]) ++ own_s f48 [(.int ((XT.ushrL (p3 &&& (281474976710655 : Int64)) (40 : Int32)).toInt32.toInt8.toInt32)), (.int ((XT.ushrL (p3 &&& (281474976710655 : Int64)) (32 : Int32)).toInt32.toInt8.toInt32)), (.int ((XT.ushrL (p3 &&& (281474976710655 : Int64)) (24 : Int32)).toInt32.toInt8.toInt32)), (.int ((XT.ushrL (p3 &&& (281474976710655 : Int64)) (16 : Int32)).toInt32.toInt8.toInt32)), (.int ((XT.ushrL (p3 &&& (281474976710655 : Int64)) (8 : Int32)).toInt32.toInt8.toInt32)), (.int ((XT.ushrL (p3 &&& (281474976710655 : Int64)) (0 : Int32)).toInt32.toInt8.toInt32))]) ++ own_s fb (own_fl mm ((XT.ushr p5 (16 : Int32)).toInt8.toInt32) ((XT.ushr p5 (8 : Int32)).toInt8.toInt32))) ++ own_s f24 [(.int ((XT.ushrL (p4 &&& (16777215 : Int32)).toInt64 (16 : Int32)).toInt32.toInt8.toInt32)), (.int ((XT.ushrL (p4 &&& (16777215 : Int32)).toInt64 (8 : Int32)).toInt32.toInt8.toInt32)), (.int ((XT.ushrL (p4 &&& (16777215 : Int32)).toInt64 (0 : Int32)).toInt32.toInt8.toInt32))]) h4 Ar (by omega) (own_pre (own_pre (own_pre (own_last (by rw [own_s1 c342]; rfl)))))) rfl rfl pd___BIJI_Z rfl rfl 0 rfl (by decide) (by decide) (by decide) (by decide) (fun _ q => nomatch q) ?_
                                          rintro _ _ - ⟨rfl, rfl⟩
                                          show B.G h4 9 1693 (mkF m 362 #[.val (.int p1), .val (.int p2), .val (.long p3), .second, .val (.int p4), .val (.int p5), .val (.int p6), .val (.int f8), .val (.int f16), .val (.int f48), .val (.int fb), .val (.int f24), .val (.int (p1 &&& (255 : Int32))), .val (.int (p2 &&& (65535 : Int32))), .val (.long (p3 &&& (281474976710655 : Int64))), .second, .val (.int (p4 &&& (16777215 : Int32))), .val (.int (Int32.ofNat mm)), .val (.int (((XT.ushr p5 (8 : Int32))).toInt8.toInt32)), .val (.int (((XT.ushr p5 (16 : Int32))).toInt8.toInt32)), .val (.ref fi), .val (.ref wo), .val (.ref r), .val (.int (Int32.ofNat (((((([] : List Value) ++ own_s f8 [(.int ((XT.ushrL (p1 &&& (255 : Int32)).toInt64 (0 : Int32)).toInt32.toInt8.toInt32))]) ++ own_s f16 [(.int ((XT.ushrL (p2 &&& (65535 : Int32)).toInt64 (8 : Int32)).toInt32.toInt8.toInt32)), (.int ((XT.ushrL (p2 &&& (65535 : Int32)).toInt64 (0 : Int32)).toInt32.toInt8.toInt32))]) ++ own_s f48 [(.int ((XT.ushrL (p3 &&& (281474976710655 : Int64)) (40 : Int32)).toInt32.toInt8.toInt32)), (.int ((XT.ushrL (p3 &&& (281474976710655 : Int64)) (32 : Int32)).toInt32.toInt8.toInt32)), (.int ((XT.ushrL (p3 &&& (281474976710655 : Int64)) (24 : Int32)).toInt32.toInt8.toInt32)), (.int ((XT.ushrL (p3 &&& (281474976710655 : Int64)) (16 : Int32)).toInt32.toInt8.toInt32)), (.int ((XT.ushrL (p3 &&& (281474976710655 : Int64)) (8 : Int32)).toInt32.toInt8.toInt32)), (.int ((XT.ushrL (p3 &&& (281474976710655 : Int64)) (0 : Int32)).toInt32.toInt8.toInt32))]) ++ own_s fb (own_fl mm ((XT.ushr p5 (16 : Int32)).toInt8.toInt32) ((XT.ushr p5 (8 : Int32)).toInt8.toInt32))) ++ own_s f24 [(.int ((XT.ushrL (p4 &&& (16777215 : Int32)).toInt64 (16 : Int32)).toInt32.toInt8.toInt32)), (.int ((XT.ushrL (p4 &&& (16777215 : Int32)).toInt64 (8 : Int32)).toInt32.toInt8.toInt32)), (.int ((XT.ushrL (p4 &&& (16777215 : Int32)).toInt64 (0 : Int32)).toInt32.toInt8.toInt32))]).length)), .val (.int (1 : Int32)), .val (.int (Int32.ofNat (([] : List Value) ++ own_s f8 [(.int ((XT.ushrL (p1 &&& (255 : Int32)).toInt64 (0 : Int32)).toInt32.toInt8.toInt32))]).length)), .unset, .unset] [(.int (1 : Int32))])
                                          refine B.if0_eq 385 365 rfl (by decide) rfl at_362 (fun c362 => ?_) (fun c362 => ?_)
                                          · exact absurd c362 (by decide)
                                          · refine B.aload 367 rfl at_365 rfl rfl ?_
                                            refine B.iload 369 rfl at_367 rfl ?_
                                            refine B.iconst 370 rfl (1 : Int32) at_369 rfl ?_
                                            refine B.iadd 371 rfl at_370 ?_
                                            refine B.topI (Int32.ofNat ((([] : List Value) ++ own_s f8 [(.int ((XT.ushrL (p1 &&& (255 : Int32)).toInt64 (0 : Int32)).toInt32.toInt8.toInt32))]).length + 1)) (own_add _ 1) ?_
                                            refine B.iload 373 rfl at_371 rfl ?_
                                            refine B.i2l 374 rfl at_373 ?_
                                            refine B.iconst 375 rfl (0 : Int32) at_374 rfl ?_
                                            refine B.callS 378 rfl at_375 (wd hw 63 rfl) (wd hw 64 rfl) (wd hw 65 rfl) (wd hw 66 rfl) (by decide) [(.ref r), (.int (Int32.ofNat ((([] : List Value) ++ own_s f8 [(.int ((XT.ushrL (p1 &&& (255 : Int32)).toInt64 (0 : Int32)).toInt32.toInt8.toInt32))]).length + 1))), (.long (((p2 &&& (65535 : Int32))).toInt64)), (.int (0 : Int32))] [] (rm_eq l Z a0 hw r (((p2 &&& (65535 : Int32))).toInt64) (0 : Int32) ((([] : List Value) ++ own_s f8 [(.int ((XT.ushrL (p1 &&& (255 : Int32)).toInt64 (0 : Int32)).toInt32.toInt8.toInt32))]).length + 1) (((((([] : List Value) ++ own_s f8 [(.int ((XT.ushrL (p1 &&& (255 : Int32)).toInt64 (0 : Int32)).toInt32.toInt8.toInt32))]) ++ own_s f16 [(.int ((XT.ushrL (p2 &&& (65535 : Int32)).toInt64 (8 : Int32)).toInt32.toInt8.toInt32)), (.int ((XT.ushrL (p2 &&& (65535 : Int32)).toInt64 (0 : Int32)).toInt32.toInt8.toInt32))]) ++ own_s f48 [(.int ((XT.ushrL (p3 &&& (281474976710655 : Int64)) (40 : Int32)).toInt32.toInt8.toInt32)), (.int ((XT.ushrL (p3 &&& (281474976710655 : Int64)) (32 : Int32)).toInt32.toInt8.toInt32)), (.int ((XT.ushrL (p3 &&& (281474976710655 : Int64)) (24 : Int32)).toInt32.toInt8.toInt32)), (.int ((XT.ushrL (p3 &&& (281474976710655 : Int64)) (16 : Int32)).toInt32.toInt8.toInt32)), (.int ((XT.ushrL (p3 &&& (281474976710655 : Int64)) (8 : Int32)).toInt32.toInt8.toInt32)), (.int ((XT.ushrL (p3 &&& (281474976710655 : Int64)) (0 : Int32)).toInt32.toInt8.toInt32))]) ++ own_s fb (own_fl mm ((XT.ushr p5 (16 : Int32)).toInt8.toInt32) ((XT.ushr p5 (8 : Int32)).toInt8.toInt32))) ++ own_s f24 [(.int ((XT.ushrL (p4 &&& (16777215 : Int32)).toInt64 (16 : Int32)).toInt32.toInt8.toInt32)), (.int ((XT.ushrL (p4 &&& (16777215 : Int32)).toInt64 (8 : Int32)).toInt32.toInt8.toInt32)), (.int ((XT.ushrL (p4 &&& (16777215 : Int32)).toInt64 (0 : Int32)).toInt32.toInt8.toInt32))]) h4 Ar (by omega) (own_pre (own_pre (own_pre (own_last (by rw [own_s1 c342]; rfl)))))) rfl rfl pd___BIJI_Z rfl rfl 0 rfl (by decide) (by decide) (by decide) (by decide) (fun _ q => nomatch q) ?_
                                            rintro _ _ - ⟨rfl, rfl⟩
                                            show B.G h4 9 1693 (mkF m 378 #[.val (.int p1), .val (.int p2), .val (.long p3), .second, .val (.int p4), .val (.int p5), .val (.int p6), .val (.int f8), .val (.int f16), .val (.int f48), .val (.int fb), .val (.int f24), .val (.int (p1 &&& (255 : Int32))), .val (.int (p2 &&& (65535 : Int32))), .val (.long (p3 &&& (281474976710655 : Int64))), .second, .val (.int (p4 &&& (16777215 : Int32))), .val (.int (Int32.ofNat mm)), .val (.int (((XT.ushr p5 (8 : Int32))).toInt8.toInt32)), .val (.int (((XT.ushr p5 (16 : Int32))).toInt8.toInt32)), .val (.ref fi), .val (.ref wo), .val (.ref r), .val (.int (Int32.ofNat (((((([] : List Value) ++ own_s f8 [(.int ((XT.ushrL (p1 &&& (255 : Int32)).toInt64 (0 : Int32)).toInt32.toInt8.toInt32))]) ++ own_s f16 [(.int ((XT.ushrL (p2 &&& (65535 : Int32)).toInt64 (8 : Int32)).toInt32.toInt8.toInt32)), (.int ((XT.ushrL (p2 &&& (65535 : Int32)).toInt64 (0 : Int32)).toInt32.toInt8.toInt32))]) ++ own_s f48 [(.int ((XT.ushrL (p3 &&& (281474976710655 : Int64)) (40 : Int32)).toInt32.toInt8.toInt32)), (.int ((XT.ushrL (p3 &&& (281474976710655 : Int64)) (32 : Int32)).toInt32.toInt8.toInt32)), (.int ((XT.ushrL (p3 &&& (281474976710655 : Int64)) (24 : Int32)).toInt32.toInt8.toInt32)), (.int ((XT.ushrL (p3 &&& (281474976710655 : Int64)) (16 : Int32)).toInt32.toInt8.toInt32)), (.int ((XT.ushrL (p3 &&& (281474976710655 : Int64)) (8 : Int32)).toInt32.toInt8.toInt32)), (.int ((XT.ushrL (p3 &&& (281474976710655 : Int64)) (0 : Int32)).toInt32.toInt8.toInt32))]) ++ own_s fb (own_fl mm ((XT.ushr p5 (16 : Int32)).toInt8.toInt32) ((XT.ushr p5 (8 : Int32)).toInt8.toInt32))) ++ own_s f24 [(.int ((XT.ushrL (p4 &&& (16777215 : Int32)).toInt64 (16 : Int32)).toInt32.toInt8.toInt32)), (.int ((XT.ushrL (p4 &&& (16777215 : Int32)).toInt64 (8 : Int32)).toInt32.toInt8.toInt32)), (.int ((XT.ushrL (p4 &&& (16777215 : Int32)).toInt64 (0 : Int32)).toInt32.toInt8.toInt32))]).length)), .val (.int (1 : Int32)), .val (.int (Int32.ofNat (([] : List Value) ++ own_s f8 [(.int ((XT.ushrL (p1 &&& (255 : Int32)).toInt64 (0 : Int32)).toInt32.toInt8.toInt32))]).length)), .unset, .unset] [(.int (1 : Int32))])
                                            refine B.if0_eq 385 381 rfl (by decide) rfl at_378 (fun c378 => ?_) (fun c378 => ?_)
                                            · exact absurd c378 (by decide)
                                            · refine B.iconst 382 rfl (1 : Int32) at_381 rfl ?_
                                              refine B.goto 386 rfl (by decide) at_382 ?_
                                              refine B.istore 388 rfl at_386 #[.val (.int p1), .val (.int p2), .val (.long p3), .second, .val (.int p4), .val (.int p5), .val (.int p6), .val (.int f8), .val (.int f16), .val (.int f48), .val (.int fb), .val (.int f24), .val (.int (p1 &&& (255 : Int32))), .val (.int (p2 &&& (65535 : Int32))), .val (.long (p3 &&& (281474976710655 : Int64))), .second, .val (.int (p4 &&& (16777215 : Int32))), .val (.int (Int32.ofNat mm)), .val (.int (((XT.ushr p5 (8 : Int32))).toInt8.toInt32)), .val (.int (((XT.ushr p5 (16 : Int32))).toInt8.toInt32)), .val (.ref fi), .val (.ref wo), .val (.ref r), .val (.int (Int32.ofNat (((((([] : List Value) ++ own_s f8 [(.int ((XT.ushrL (p1 &&& (255 : Int32)).toInt64 (0 : Int32)).toInt32.toInt8.toInt32))]) ++ own_s f16 [(.int ((XT.ushrL (p2 &&& (65535 : Int32)).toInt64 (8 : Int32)).toInt32.toInt8.toInt32)), (.int ((XT.ushrL (p2 &&& (65535 : Int32)).toInt64 (0 : Int32)).toInt32.toInt8.toInt32))]) ++ own_s f48 [(.int ((XT.ushrL (p3 &&& (281474976710655 : Int64)) (40 : Int32)).toInt32.toInt8.toInt32)), (.int ((XT.ushrL (p3 &&& (281474976710655 : Int64)) (32 : Int32)).toInt32.toInt8.toInt32)), (.int ((XT.ushrL (p3 &&& (281474976710655 : Int64)) (24 : Int32)).toInt32.toInt8.toInt32)), (.int ((XT.ushrL (p3 &&& (281474976710655 : Int64)) (16 : Int32)).toInt32.toInt8.toInt32)), (.int ((XT.ushrL (p3 &&& (281474976710655 : Int64)) (8 : Int32)).toInt32.toInt8.toInt32)), (.int ((XT.ushrL (p3 &&& (281474976710655 : Int64)) (0 : Int32)).toInt32.toInt8.toInt32))]) ++ own_s fb (own_fl mm ((XT.ushr p5 (16 : Int32)).toInt8.toInt32) ((XT.ushr p5 (8 : Int32)).toInt8.toInt32))) ++ own_s f24 [(.int ((XT.ushrL (p4 &&& (16777215 : Int32)).toInt64 (16 : Int32)).toInt32.toInt8.toInt32)), (.int ((XT.ushrL (p4 &&& (16777215 : Int32)).toInt64 (8 : Int32)).toInt32.toInt8.toInt32)), (.int ((XT.ushrL (p4 &&& (16777215 : Int32)).toInt64 (0 : Int32)).toInt32.toInt8.toInt32))]).length)), .val (.int (1 : Int32)), .val (.int (Int32.ofNat (([] : List Value) ++ own_s f8 [(.int ((XT.ushrL (p1 &&& (255 : Int32)).toInt64 (0 : Int32)).toInt32.toInt8.toInt32))]).length)), .unset, .unset] rfl ?_
                                              refine B.iload 390 rfl at_388 rfl ?_
                                              refine B.iconst 391 rfl (2 : Int32) at_390 rfl ?_
                                              refine B.iadd 392 rfl at_391 ?_
                                              refine B.topI (Int32.ofNat ((([] : List Value) ++ own_s f8 [(.int ((XT.ushrL (p1 &&& (255 : Int32)).toInt64 (0 : Int32)).toInt32.toInt8.toInt32))]) ++ own_s f16 [(.int ((XT.ushrL (p2 &&& (65535 : Int32)).toInt64 (8 : Int32)).toInt32.toInt8.toInt32)), (.int ((XT.ushrL (p2 &&& (65535 : Int32)).toInt64 (0 : Int32)).toInt32.toInt8.toInt32))]).length) (own_padd c342 rfl) ?_
                                              refine B.istore 394 rfl at_392 #[.val (.int p1), .val (.int p2), .val (.long p3), .second, .val (.int p4), .val (.int p5), .val (.int p6), .val (.int f8), .val (.int f16), .val (.int f48), .val (.int fb), .val (.int f24), .val (.int (p1 &&& (255 : Int32))), .val (.int (p2 &&& (65535 : Int32))), .val (.long (p3 &&& (281474976710655 : Int64))), .second, .val (.int (p4 &&& (16777215 : Int32))), .val (.int (Int32.ofNat mm)), .val (.int (((XT.ushr p5 (8 : Int32))).toInt8.toInt32)), .val (.int (((XT.ushr p5 (16 : Int32))).toInt8.toInt32)), .val (.ref fi), .val (.ref wo), .val (.ref r), .val (.int (Int32.ofNat (((((([] : List Value) ++ own_s f8 [(.int ((XT.ushrL (p1 &&& (255 : Int32)).toInt64 (0 : Int32)).toInt32.toInt8.toInt32))]) ++ own_s f16 [(.int ((XT.ushrL (p2 &&& (65535 : Int32)).toInt64 (8 : Int32)).toInt32.toInt8.toInt32)), (.int ((XT.ushrL (p2 &&& (65535 : Int32)).toInt64 (0 : Int32)).toInt32.toInt8.toInt32))]) ++ own_s f48 [(.int ((XT.ushrL (p3 &&& (281474976710655 : Int64)) (40 : Int32)).toInt32.toInt8.toInt32)), (.int ((XT.ushrL (p3 &&& (281474976710655 : Int64)) (32 : Int32)).toInt32.toInt8.toInt32)), (.int ((XT.ushrL (p3 &&& (281474976710655 : Int64)) (24 : Int32)).toInt32.toInt8.toInt32)), (.int ((XT.ushrL (p3 &&& (281474976710655 : Int64)) (16 : Int32)).toInt32.toInt8.toInt32)), (.int ((XT.ushrL (p3 &&& (281474976710655 : Int64)) (8 : Int32)).toInt32.toInt8.toInt32)), (.int ((XT.ushrL (p3 &&& (281474976710655 : Int64)) (0 : Int32)).toInt32.toInt8.toInt32))]) ++ own_s fb (own_fl mm ((XT.ushr p5 (16 : Int32)).toInt8.toInt32) ((XT.ushr p5 (8 : Int32)).toInt8.toInt32))) ++ own_s f24 [(.int ((XT.ushrL (p4 &&& (16777215 : Int32)).toInt64 (16 : Int32)).toInt32.toInt8.toInt32)), (.int ((XT.ushrL (p4 &&& (16777215 : Int32)).toInt64 (8 : Int32)).toInt32.toInt8.toInt32)), (.int ((XT.ushrL (p4 &&& (16777215 : Int32)).toInt64 (0 : Int32)).toInt32.toInt8.toInt32))]).length)), .val (.int (1 : Int32)), .val (.int (Int32.ofNat ((([] : List Value) ++ own_s f8 [(.int ((XT.ushrL (p1 &&& (255 : Int32)).toInt64 (0 : Int32)).toInt32.toInt8.toInt32))]) ++ own_s f16 [(.int ((XT.ushrL (p2 &&& (65535 : Int32)).toInt64 (8 : Int32)).toInt32.toInt8.toInt32)), (.int ((XT.ushrL (p2 &&& (65535 : Int32)).toInt64 (0 : Int32)).toInt32.toInt8.toInt32))]).length)), .unset, .unset] rfl ?_
                                              exact J342
                                    refine B.if0_eq 340 308 rfl (by decide) rfl at_305 (fun c305 => ?_) (fun c305 => ?_)
                                    · have ep : (Int32.ofNat ([] : List Value).length) = (Int32.ofNat (([] : List Value) ++ own_s f8 [(.int ((XT.ushrL (p1 &&& (255 : Int32)).toInt64 (0 : Int32)).toInt32.toInt8.toInt32))]).length) := by rw [own_s0 c305, List.append_nil]
                                      rw [ep]
                                      exact J305
                                    · refine B.iload 310 rfl at_308 rfl ?_
                                      refine B.if0_eq 331 313 rfl (by decide) rfl at_310 (fun c310 => ?_) (fun c310 => ?_)
                                      · exact absurd c310 (by decide)
                                      · refine B.aload 315 rfl at_313 rfl rfl ?_
                                        refine B.iload 317 rfl at_315 rfl ?_
                                        refine B.iload 319 rfl at_317 rfl ?_
                                        refine B.i2l 320 rfl at_319 ?_
                                        refine B.iconst 321 rfl (0 : Int32) at_320 rfl ?_
                                        refine B.callS 324 rfl at_321 (wd hw 63 rfl) (wd hw 64 rfl) (wd hw 65 rfl) (wd hw 66 rfl) (by decide) [(.ref r), (.int (Int32.ofNat ([] : List Value).length)), (.long (((p1 &&& (255 : Int32))).toInt64)), (.int (0 : Int32))] [] (rm_eq l Z a0 hw r (((p1 &&& (255 : Int32))).toInt64) (0 : Int32) (([] : List Value).length + 0) (((((([] : List Value) ++ own_s f8 [(.int ((XT.ushrL (p1 &&& (255 : Int32)).toInt64 (0 : Int32)).toInt32.toInt8.toInt32))]) ++ own_s f16 [(.int ((XT.ushrL (p2 &&& (65535 : Int32)).toInt64 (8 : Int32)).toInt32.toInt8.toInt32)), (.int ((XT.ushrL (p2 &&& (65535 : Int32)).toInt64 (0 : Int32)).toInt32.toInt8.toInt32))]) ++ own_s f48 [(.int ((XT.ushrL (p3 &&& (281474976710655 : Int64)) (40 : Int32)).toInt32.toInt8.toInt32)), (.int ((XT.ushrL (p3 &&& (281474976710655 : Int64)) (32 : Int32)).toInt32.toInt8.toInt32)), (.int ((XT.ushrL (p3 &&& (281474976710655 : Int64)) (24 : Int32)).toInt32.toInt8.toInt32)), (.int ((XT.ushrL (p3 &&& (281474976710655 : Int64)) (16 : Int32)).toInt32.toInt8.toInt32)), (.int ((XT.ushrL (p3 &&& (281474976710655 : Int64)) (8 : Int32)).toInt32.toInt8.toInt32)), (.int ((XT.ushrL (p3 &&& (281474976710655 : Int64)) (0 : Int32)).toInt32.toInt8.toInt32))]) ++ own_s fb (own_fl mm ((XT.ushr p5 (16 : Int32)).toInt8.toInt32) ((XT.ushr p5 (8 : Int32)).toInt8.toInt32))) ++ own_s f24 [(.int ((XT.ushrL (p4 &&& (16777215 : Int32)).toInt64 (16 : Int32)).toInt32.toInt8.toInt32)), (.int ((XT.ushrL (p4 &&& (16777215 : Int32)).toInt64 (8 : Int32)).toInt32.toInt8.toInt32)), (.int ((XT.ushrL (p4 &&& (16777215 : Int32)).toInt64 (0 : Int32)).toInt32.toInt8.toInt32))]) h4 Ar (by omega) (own_pre (own_pre (own_pre (own_pre (own_last (by rw [own_s1 c305]; rfl))))))) rfl rfl pd___BIJI_Z rfl rfl 0 rfl (by decide) (by decide) (by decide) (by decide) (fun _ q => nomatch q) ?_
                                        rintro _ _ - ⟨rfl, rfl⟩
                                        show B.G h4 9 1693 (mkF m 324 #[.val (.int p1), .val (.int p2), .val (.long p3), .second, .val (.int p4), .val (.int p5), .val (.int p6), .val (.int f8), .val (.int f16), .val (.int f48), .val (.int fb), .val (.int f24), .val (.int (p1 &&& (255 : Int32))), .val (.int (p2 &&& (65535 : Int32))), .val (.long (p3 &&& (281474976710655 : Int64))), .second, .val (.int (p4 &&& (16777215 : Int32))), .val (.int (Int32.ofNat mm)), .val (.int (((XT.ushr p5 (8 : Int32))).toInt8.toInt32)), .val (.int (((XT.ushr p5 (16 : Int32))).toInt8.toInt32)), .val (.ref fi), .val (.ref wo), .val (.ref r), .val (.int (Int32.ofNat (((((([] : List Value) ++ own_s f8 [(.int ((XT.ushrL (p1 &&& (255 : Int32)).toInt64 (0 : Int32)).toInt32.toInt8.toInt32))]) ++ own_s f16 [(.int ((XT.ushrL (p2 &&& (65535 : Int32)).toInt64 (8 : Int32)).toInt32.toInt8.toInt32)), (.int ((XT.ushrL (p2 &&& (65535 : Int32)).toInt64 (0 : Int32)).toInt32.toInt8.toInt32))]) ++ own_s f48 [(.int ((XT.ushrL (p3 &&& (281474976710655 : Int64)) (40 : Int32)).toInt32.toInt8.toInt32)), (.int ((XT.ushrL (p3 &&& (281474976710655 : Int64)) (32 : Int32)).toInt32.toInt8.toInt32)), (.int ((XT.ushrL (p3 &&& (281474976710655 : Int64)) (24 : Int32)).toInt32.toInt8.toInt32)), (.int ((XT.ushrL (p3 &&& (281474976710655 : Int64)) (16 : Int32)).toInt32.toInt8.toInt32)), (.int ((XT.ushrL (p3 &&& (281474976710655 : Int64)) (8 : Int32)).toInt32.toInt8.toInt32)), (.int ((XT.ushrL (p3 &&& (281474976710655 : Int64)) (0 : Int32)).toInt32.toInt8.toInt32))]) ++ own_s fb (own_fl mm ((XT.ushr p5 (16 : Int32)).toInt8.toInt32) ((XT.ushr p5 (8 : Int32)).toInt8.toInt32))) ++ own_s f24 [(.int ((XT.ushrL (p4 &&& (16777215 : Int32)).toInt64 (16 : Int32)).toInt32.toInt8.toInt32)), (.int ((XT.ushrL (p4 &&& (16777215 : Int32)).toInt64 (8 : Int32)).toInt32.toInt8.toInt32)), (.int ((XT.ushrL (p4 &&& (16777215 : Int32)).toInt64 (0 : Int32)).toInt32.toInt8.toInt32))]).length)), .val (.int (1 : Int32)), .val (.int (Int32.ofNat ([] : List Value).length)), .unset, .unset] [(.int (1 : Int32))])
                                        refine B.if0_eq 331 327 rfl (by decide) rfl at_324 (fun c324 => ?_) (fun c324 => ?_)
                                        · exact absurd c324 (by decide)
                                        · refine B.iconst 328 rfl (1 : Int32) at_327 rfl ?_
                                          refine B.goto 332 rfl (by decide) at_328 ?_
                                          refine B.istore 334 rfl at_332 #[.val (.int p1), .val (.int p2), .val (.long p3), .second, .val (.int p4), .val (.int p5), .val (.int p6), .val (.int f8), .val (.int f16), .val (.int f48), .val (.int fb), .val (.int f24), .val (.int (p1 &&& (255 : Int32))), .val (.int (p2 &&& (65535 : Int32))), .val (.long (p3 &&& (281474976710655 : Int64))), .second, .val (.int (p4 &&& (16777215 : Int32))), .val (.int (Int32.ofNat mm)), .val (.int (((XT.ushr p5 (8 : Int32))).toInt8.toInt32)), .val (.int (((XT.ushr p5 (16 : Int32))).toInt8.toInt32)), .val (.ref fi), .val (.ref wo), .val (.ref r), .val (.int (Int32.ofNat (((((([] : List Value) ++ own_s f8 [(.int ((XT.ushrL (p1 &&& (255 : Int32)).toInt64 (0 : Int32)).toInt32.toInt8.toInt32))]) ++ own_s f16 [(.int ((XT.ushrL (p2 &&& (65535 : Int32)).toInt64 (8 : Int32)).toInt32.toInt8.toInt32)), (.int ((XT.ushrL (p2 &&& (65535 : Int32)).toInt64 (0 : Int32)).toInt32.toInt8.toInt32))]) ++ own_s f48 [(.int ((XT.ushrL (p3 &&& (281474976710655 : Int64)) (40 : Int32)).toInt32.toInt8.toInt32)), (.int ((XT.ushrL (p3 &&& (281474976710655 : Int64)) (32 : Int32)).toInt32.toInt8.toInt32)), (.int ((XT.ushrL (p3 &&& (281474976710655 : Int64)) (24 : Int32)).toInt32.toInt8.toInt32)), (.int ((XT.ushrL (p3 &&& (281474976710655 : Int64)) (16 : Int32)).toInt32.toInt8.toInt32)), (.int ((XT.ushrL (p3 &&& (281474976710655 : Int64)) (8 : Int32)).toInt32.toInt8.toInt32)), (.int ((XT.ushrL (p3 &&& (281474976710655 : Int64)) (0 : Int32)).toInt32.toInt8.toInt32))]) ++ own_s fb (own_fl mm ((XT.ushr p5 (16 : Int32)).toInt8.toInt32) ((XT.ushr p5 (8 : Int32)).toInt8.toInt32))) ++ own_s f24 [(.int ((XT.ushrL (p4 &&& (16777215 : Int32)).toInt64 (16 : Int32)).toInt32.toInt8.toInt32)), (.int ((XT.ushrL (p4 &&& (16777215 : Int32)).toInt64 (8 : Int32)).toInt32.toInt8.toInt32)), (.int ((XT.ushrL (p4 &&& (16777215 : Int32)).toInt64 (0 : Int32)).toInt32.toInt8.toInt32))]).length)), .val (.int (1 : Int32)), .val (.int (Int32.ofNat ([] : List Value).length)), .unset, .unset] rfl ?_
                                          refine B.iload 336 rfl at_334 rfl ?_
                                          refine B.iconst 337 rfl (1 : Int32) at_336 rfl ?_
                                          refine B.iadd 338 rfl at_337 ?_
                                          refine B.topI (Int32.ofNat (([] : List Value) ++ own_s f8 [(.int ((XT.ushrL (p1 &&& (255 : Int32)).toInt64 (0 : Int32)).toInt32.toInt8.toInt32))]).length) (own_padd c305 rfl) ?_
                                          refine B.istore 340 rfl at_338 #[.val (.int p1), .val (.int p2), .val (.long p3), .second, .val (.int p4), .val (.int p5), .val (.int p6), .val (.int f8), .val (.int f16), .val (.int f48), .val (.int fb), .val (.int f24), .val (.int (p1 &&& (255 : Int32))), .val (.int (p2 &&& (65535 : Int32))), .val (.long (p3 &&& (281474976710655 : Int64))), .second, .val (.int (p4 &&& (16777215 : Int32))), .val (.int (Int32.ofNat mm)), .val (.int (((XT.ushr p5 (8 : Int32))).toInt8.toInt32)), .val (.int (((XT.ushr p5 (16 : Int32))).toInt8.toInt32)), .val (.ref fi), .val (.ref wo), .val (.ref r), .val (.int (Int32.ofNat (((((([] : List Value) ++ own_s f8 [(.int ((XT.ushrL (p1 &&& (255 : Int32)).toInt64 (0 : Int32)).toInt32.toInt8.toInt32))]) ++ own_s f16 [(.int ((XT.ushrL (p2 &&& (65535 : Int32)).toInt64 (8 : Int32)).toInt32.toInt8.toInt32)), (.int ((XT.ushrL (p2 &&& (65535 : Int32)).toInt64 (0 : Int32)).toInt32.toInt8.toInt32))]) ++ own_s f48 [(.int ((XT.ushrL (p3 &&& (281474976710655 : Int64)) (40 : Int32)).toInt32.toInt8.toInt32)), (.int ((XT.ushrL (p3 &&& (281474976710655 : Int64)) (32 : Int32)).toInt32.toInt8.toInt32)), (.int ((XT.ushrL (p3 &&& (281474976710655 : Int64)) (24 : Int32)).toInt32.toInt8.toInt32)), (.int ((XT.ushrL (p3 &&& (281474976710655 : Int64)) (16 : Int32)).toInt32.toInt8.toInt32)), (.int ((XT.ushrL (p3 &&& (281474976710655 : Int64)) (8 : Int32)).toInt32.toInt8.toInt32)), (.int ((XT.ushrL (p3 &&& (281474976710655 : Int64)) (0 : Int32)).toInt32.toInt8.toInt32))]) ++ own_s fb (own_fl mm ((XT.ushr p5 (16 : Int32)).toInt8.toInt32) ((XT.ushr p5 (8 : Int32)).toInt8.toInt32))) ++ own_s f24 [(.int ((XT.ushrL (p4 &&& (16777215 : Int32)).toInt64 (16 : Int32)).toInt32.toInt8.toInt32)), (.int ((XT.ushrL (p4 &&& (16777215 : Int32)).toInt64 (8 : Int32)).toInt32.toInt8.toInt32)), (.int ((XT.ushrL (p4 &&& (16777215 : Int32)).toInt64 (0 : Int32)).toInt32.toInt8.toInt32))]).length)), .val (.int (1 : Int32)), .val (.int (Int32.ofNat (([] : List Value) ++ own_s f8 [(.int ((XT.ushrL (p1 &&& (255 : Int32)).toInt64 (0 : Int32)).toInt32.toInt8.toInt32))]).length)), .unset, .unset] rfl ?_
                                          exact J305
                                  · exact absurd rfl c292
                                refine B.if0_eq 283 279 rfl (by decide) rfl at_276 (fun c276 => ?_) (fun c276 => ?_)
                                · refine B.iconst 284 rfl (0 : Int32) at_283 rfl ?_
                                  refine B.topI (Int32.ofNat (own_s f24 [(.int ((XT.ushrL (p4 &&& (16777215 : Int32)).toInt64 (16 : Int32)).toInt32.toInt8.toInt32)), (.int ((XT.ushrL (p4 &&& (16777215 : Int32)).toInt64 (8 : Int32)).toInt32.toInt8.toInt32)), (.int ((XT.ushrL (p4 &&& (16777215 : Int32)).toInt64 (0 : Int32)).toInt32.toInt8.toInt32))]).length) (by rw [own_s0 c276]; rfl) ?_
                                  exact J276
                                · refine B.iconst 280 rfl (3 : Int32) at_279 rfl ?_
                                  refine B.goto 284 rfl (by decide) at_280 ?_
                                  refine B.topI (Int32.ofNat (own_s f24 [(.int ((XT.ushrL (p4 &&& (16777215 : Int32)).toInt64 (16 : Int32)).toInt32.toInt8.toInt32)), (.int ((XT.ushrL (p4 &&& (16777215 : Int32)).toInt64 (8 : Int32)).toInt32.toInt8.toInt32)), (.int ((XT.ushrL (p4 &&& (16777215 : Int32)).toInt64 (0 : Int32)).toInt32.toInt8.toInt32))]).length) (by rw [own_s1 c276]; rfl) ?_
                                  exact J276
                              refine B.if0_eq 272 267 rfl (by decide) rfl at_264 (fun c264 => ?_) (fun c264 => ?_)
                              · refine B.iconst 273 rfl (0 : Int32) at_272 rfl ?_
                                refine B.topI (Int32.ofNat (own_s fb (own_fl mm ((XT.ushr p5 (16 : Int32)).toInt8.toInt32) ((XT.ushr p5 (8 : Int32)).toInt8.toInt32))).length) (by rw [own_s0 c264]; rfl) ?_
                                exact J264
                              · refine B.iload 269 rfl at_267 rfl ?_
                                refine B.goto 273 rfl (by decide) at_269 ?_
                                refine B.topI (Int32.ofNat (own_s fb (own_fl mm ((XT.ushr p5 (16 : Int32)).toInt8.toInt32) ((XT.ushr p5 (8 : Int32)).toInt8.toInt32))).length) (by rw [own_s1 c264, own_fll]) ?_
                                exact J264
                            refine B.if0_eq 260 255 rfl (by decide) rfl at_252 (fun c252 => ?_) (fun c252 => ?_)
                            · refine B.iconst 261 rfl (0 : Int32) at_260 rfl ?_
                              refine B.topI (Int32.ofNat (own_s f48 [(.int ((XT.ushrL (p3 &&& (281474976710655 : Int64)) (40 : Int32)).toInt32.toInt8.toInt32)), (.int ((XT.ushrL (p3 &&& (281474976710655 : Int64)) (32 : Int32)).toInt32.toInt8.toInt32)), (.int ((XT.ushrL (p3 &&& (281474976710655 : Int64)) (24 : Int32)).toInt32.toInt8.toInt32)), (.int ((XT.ushrL (p3 &&& (281474976710655 : Int64)) (16 : Int32)).toInt32.toInt8.toInt32)), (.int ((XT.ushrL (p3 &&& (281474976710655 : Int64)) (8 : Int32)).toInt32.toInt8.toInt32)), (.int ((XT.ushrL (p3 &&& (281474976710655 : Int64)) (0 : Int32)).toInt32.toInt8.toInt32))]).length) (by rw [own_s0 c252]; rfl) ?_
                              exact J252
                            · refine B.bipush 257 rfl (6 : Int32) at_255 rfl ?_
                              refine B.goto 261 rfl (by decide) at_257 ?_
                              refine B.topI (Int32.ofNat (own_s f48 [(.int ((XT.ushrL (p3 &&& (281474976710655 : Int64)) (40 : Int32)).toInt32.toInt8.toInt32)), (.int ((XT.ushrL (p3 &&& (281474976710655 : Int64)) (32 : Int32)).toInt32.toInt8.toInt32)), (.int ((XT.ushrL (p3 &&& (281474976710655 : Int64)) (24 : Int32)).toInt32.toInt8.toInt32)), (.int ((XT.ushrL (p3 &&& (281474976710655 : Int64)) (16 : Int32)).toInt32.toInt8.toInt32)), (.int ((XT.ushrL (p3 &&& (281474976710655 : Int64)) (8 : Int32)).toInt32.toInt8.toInt32)), (.int ((XT.ushrL (p3 &&& (281474976710655 : Int64)) (0 : Int32)).toInt32.toInt8.toInt32))]).length) (by rw [own_s1 c252]; rfl) ?_
                              exact J252
                          refine B.if0_eq 248 244 rfl (by decide) rfl at_241 (fun c241 => ?_) (fun c241 => ?_)
                          · refine B.iconst 249 rfl (0 : Int32) at_248 rfl ?_
                            refine B.topI (Int32.ofNat (own_s f16 [(.int ((XT.ushrL (p2 &&& (65535 : Int32)).toInt64 (8 : Int32)).toInt32.toInt8.toInt32)), (.int ((XT.ushrL (p2 &&& (65535 : Int32)).toInt64 (0 : Int32)).toInt32.toInt8.toInt32))]).length) (by rw [own_s0 c241]; rfl) ?_
                            exact J241
                          · refine B.iconst 245 rfl (2 : Int32) at_244 rfl ?_
                            refine B.goto 249 rfl (by decide) at_245 ?_
                            refine B.topI (Int32.ofNat (own_s f16 [(.int ((XT.ushrL (p2 &&& (65535 : Int32)).toInt64 (8 : Int32)).toInt32.toInt8.toInt32)), (.int ((XT.ushrL (p2 &&& (65535 : Int32)).toInt64 (0 : Int32)).toInt32.toInt8.toInt32))]).length) (by rw [own_s1 c241]; rfl) ?_
                            exact J241
                        refine B.if0_eq 238 234 rfl (by decide) rfl at_231 (fun c231 => ?_) (fun c231 => ?_)
                        · refine B.iconst 239 rfl (0 : Int32) at_238 rfl ?_
                          refine B.topI (Int32.ofNat (([] : List Value) ++ own_s f8 [(.int ((XT.ushrL (p1 &&& (255 : Int32)).toInt64 (0 : Int32)).toInt32.toInt8.toInt32))]).length) (by rw [own_s0 c231]; rfl) ?_
                          exact J231
                        · refine B.iconst 235 rfl (1 : Int32) at_234 rfl ?_
                          refine B.goto 239 rfl (by decide) at_235 ?_
                          refine B.topI (Int32.ofNat (([] : List Value) ++ own_s f8 [(.int ((XT.ushrL (p1 &&& (255 : Int32)).toInt64 (0 : Int32)).toInt32.toInt8.toInt32))]).length) (by rw [own_s1 c231]; rfl) ?_
                          exact J231
                      refine B.if0_eq 222 214 rfl (by decide) rfl at_211 (fun c211 => ?_) (fun c211 => ?_)
                      · exact B.more (by decide) (by decide) (J211 _ _ N4 (Nat.le_trans hN4 (by decide)) gj4 nj4 Aj4 (by rw [own_s0 c211, List.append_nil]; exact H4))
                      · refine B.aload 216 rfl at_214 rfl rfl ?_
                        refine B.iload 218 rfl at_216 rfl ?_
                        have hsz5 : h0.size ≤ hj4.size := Nat.le_trans g_fi (Nat.le_of_lt Aj4.lt)
                        refine B.callV 221 rfl at_218 (wd hw 72 rfl) (wd hw 73 rfl) (wd hw 75 rfl) (wd hw 74 rfl) (wd hw 6 rfl) (wd hw 76 rfl) (by decide) H4.ex [(.int (p4 &&& (16777215 : Int32)))] [] (rm_w3 l Z a0 hw wo bj4 (p4 &&& (16777215 : Int32)) ((((([] : List Value) ++ own_s f8 [(.int ((XT.ushrL (p1 &&& (255 : Int32)).toInt64 (0 : Int32)).toInt32.toInt8.toInt32))]) ++ own_s f16 [(.int ((XT.ushrL (p2 &&& (65535 : Int32)).toInt64 (8 : Int32)).toInt32.toInt8.toInt32)), (.int ((XT.ushrL (p2 &&& (65535 : Int32)).toInt64 (0 : Int32)).toInt32.toInt8.toInt32))]) ++ own_s f48 [(.int ((XT.ushrL (p3 &&& (281474976710655 : Int64)) (40 : Int32)).toInt32.toInt8.toInt32)), (.int ((XT.ushrL (p3 &&& (281474976710655 : Int64)) (32 : Int32)).toInt32.toInt8.toInt32)), (.int ((XT.ushrL (p3 &&& (281474976710655 : Int64)) (24 : Int32)).toInt32.toInt8.toInt32)), (.int ((XT.ushrL (p3 &&& (281474976710655 : Int64)) (16 : Int32)).toInt32.toInt8.toInt32)), (.int ((XT.ushrL (p3 &&& (281474976710655 : Int64)) (8 : Int32)).toInt32.toInt8.toInt32)), (.int ((XT.ushrL (p3 &&& (281474976710655 : Int64)) (0 : Int32)).toInt32.toInt8.toInt32))]) ++ own_s fb (own_fl mm ((XT.ushr p5 (16 : Int32)).toInt8.toInt32) ((XT.ushr p5 (8 : Int32)).toInt8.toInt32))) N4 hj4 H4 hN4 (by omega) (own_big p4 16777215 24 24 (by decide) (by decide) (by decide)).1 (own_big p4 16777215 24 24 (by decide) (by decide) (by decide)).2) rfl rfl pd__I_Lsealgram_codec_WireWriter_ rfl rfl 0 rfl (by decide) (by decide) (by decide) (by decide) (fun x z => Or.inr (by simp only [List.mem_cons, List.not_mem_nil, or_false] at z; rcases z with rfl | rfl <;> assumption)) ?_
                        rintro _ hc5 Kc5 ⟨rfl, bc5, ec5, Hc5⟩
                        show B.G hc5 8 1554 (mkF m 221 #[.val (.int p1), .val (.int p2), .val (.long p3), .second, .val (.int p4), .val (.int p5), .val (.int p6), .val (.int f8), .val (.int f16), .val (.int f48), .val (.int fb), .val (.int f24), .val (.int (p1 &&& (255 : Int32))), .val (.int (p2 &&& (65535 : Int32))), .val (.long (p3 &&& (281474976710655 : Int64))), .second, .val (.int (p4 &&& (16777215 : Int32))), .val (.int (Int32.ofNat mm)), .val (.int (((XT.ushr p5 (8 : Int32))).toInt8.toInt32)), .val (.int (((XT.ushr p5 (16 : Int32))).toInt8.toInt32)), .val (.ref fi), .val (.ref wo), .unset, .unset, .unset, .unset, .unset, .unset] [(.ref wo)])
                        have gc5 : h0.size ≤ bc5 := ec5.elim (fun q => by rw [q]; exact gj4) (fun q => Nat.le_trans hsz5 q)
                        have nc5 : fi ≠ bc5 := ec5.elim (fun q => by rw [q]; exact nj4) (fun q e => absurd Aj4.lt (by rw [e]; exact Nat.not_lt.mpr q))
                        have Ac5 := Aj4.keep Kc5 (ninS nfw (ninS nj4 nin0))
                        refine B.pop 222 rfl at_221 rfl ?_
                        exact J211 _ _ (own_g N4 ((((([] : List Value) ++ own_s f8 [(.int ((XT.ushrL (p1 &&& (255 : Int32)).toInt64 (0 : Int32)).toInt32.toInt8.toInt32))]) ++ own_s f16 [(.int ((XT.ushrL (p2 &&& (65535 : Int32)).toInt64 (8 : Int32)).toInt32.toInt8.toInt32)), (.int ((XT.ushrL (p2 &&& (65535 : Int32)).toInt64 (0 : Int32)).toInt32.toInt8.toInt32))]) ++ own_s f48 [(.int ((XT.ushrL (p3 &&& (281474976710655 : Int64)) (40 : Int32)).toInt32.toInt8.toInt32)), (.int ((XT.ushrL (p3 &&& (281474976710655 : Int64)) (32 : Int32)).toInt32.toInt8.toInt32)), (.int ((XT.ushrL (p3 &&& (281474976710655 : Int64)) (24 : Int32)).toInt32.toInt8.toInt32)), (.int ((XT.ushrL (p3 &&& (281474976710655 : Int64)) (16 : Int32)).toInt32.toInt8.toInt32)), (.int ((XT.ushrL (p3 &&& (281474976710655 : Int64)) (8 : Int32)).toInt32.toInt8.toInt32)), (.int ((XT.ushrL (p3 &&& (281474976710655 : Int64)) (0 : Int32)).toInt32.toInt8.toInt32))]) ++ own_s fb (own_fl mm ((XT.ushr p5 (16 : Int32)).toInt8.toInt32) ((XT.ushr p5 (8 : Int32)).toInt8.toInt32))).length 3) (by unfold own_g; split <;> omega) gc5 nc5 Ac5 (by rw [own_s1 c211]; exact Hc5)
                    refine B.if0_eq 209 201 rfl (by decide) rfl at_198 (fun c198 => ?_) (fun c198 => ?_)
                    · exact B.more (by decide) (by decide) (J198 _ _ 64 (by decide) gj3 nj3 Aj3 (by rw [own_s0 c198, List.append_nil]; exact H3))
                    · refine B.aload 203 rfl at_201 rfl rfl ?_
                      refine B.aload 205 rfl at_203 rfl rfl ?_
                      have hsz4 : h0.size ≤ hj3.size := Nat.le_trans g_fi (Nat.le_of_lt Aj3.lt)
                      refine B.callV 208 rfl at_205 (wd hw 57 rfl) (wd hw 58 rfl) (wd hw 60 rfl) (wd hw 59 rfl) (wd hw 6 rfl) (wd hw 61 rfl) (by decide) H3.ex [(.ref fi)] [] (rm_by l Z a0 hw wo bj3 fi (own_fl mm ((XT.ushr p5 (16 : Int32)).toInt8.toInt32) ((XT.ushr p5 (8 : Int32)).toInt8.toInt32)) (((([] : List Value) ++ own_s f8 [(.int ((XT.ushrL (p1 &&& (255 : Int32)).toInt64 (0 : Int32)).toInt32.toInt8.toInt32))]) ++ own_s f16 [(.int ((XT.ushrL (p2 &&& (65535 : Int32)).toInt64 (8 : Int32)).toInt32.toInt8.toInt32)), (.int ((XT.ushrL (p2 &&& (65535 : Int32)).toInt64 (0 : Int32)).toInt32.toInt8.toInt32))]) ++ own_s f48 [(.int ((XT.ushrL (p3 &&& (281474976710655 : Int64)) (40 : Int32)).toInt32.toInt8.toInt32)), (.int ((XT.ushrL (p3 &&& (281474976710655 : Int64)) (32 : Int32)).toInt32.toInt8.toInt32)), (.int ((XT.ushrL (p3 &&& (281474976710655 : Int64)) (24 : Int32)).toInt32.toInt8.toInt32)), (.int ((XT.ushrL (p3 &&& (281474976710655 : Int64)) (16 : Int32)).toInt32.toInt8.toInt32)), (.int ((XT.ushrL (p3 &&& (281474976710655 : Int64)) (8 : Int32)).toInt32.toInt8.toInt32)), (.int ((XT.ushrL (p3 &&& (281474976710655 : Int64)) (0 : Int32)).toInt32.toInt8.toInt32))]) 64 hj3 H3 (by decide) (by rw [own_fll]; omega) Aj3 (own_flf mm _ _ (fits_nar_byte _) (fits_nar_byte _)) nfw nj3) rfl rfl pd___B_Lsealgram_codec_WireWriter_ rfl rfl 0 rfl (by decide) (by decide) (by decide) (by decide) (fun x z => Or.inr (by simp only [List.mem_cons, List.not_mem_nil, or_false] at z; rcases z with rfl | rfl <;> assumption)) ?_
                      rintro _ hc4 Kc4 ⟨rfl, bc4, ec4, Hc4⟩
                      show B.G hc4 7 1282 (mkF m 208 #[.val (.int p1), .val (.int p2), .val (.long p3), .second, .val (.int p4), .val (.int p5), .val (.int p6), .val (.int f8), .val (.int f16), .val (.int f48), .val (.int fb), .val (.int f24), .val (.int (p1 &&& (255 : Int32))), .val (.int (p2 &&& (65535 : Int32))), .val (.long (p3 &&& (281474976710655 : Int64))), .second, .val (.int (p4 &&& (16777215 : Int32))), .val (.int (Int32.ofNat mm)), .val (.int (((XT.ushr p5 (8 : Int32))).toInt8.toInt32)), .val (.int (((XT.ushr p5 (16 : Int32))).toInt8.toInt32)), .val (.ref fi), .val (.ref wo), .unset, .unset, .unset, .unset, .unset, .unset] [(.ref wo)])
                      have gc4 : h0.size ≤ bc4 := ec4.elim (fun q => by rw [q]; exact gj3) (fun q => Nat.le_trans hsz4 q)
                      have nc4 : fi ≠ bc4 := ec4.elim (fun q => by rw [q]; exact nj3) (fun q e => absurd Aj3.lt (by rw [e]; exact Nat.not_lt.mpr q))
                      have Ac4 := Aj3.keep Kc4 (ninS nfw (ninS nj3 nin0))
                      refine B.pop 209 rfl at_208 rfl ?_
                      exact J198 _ _ (own_g 64 (((([] : List Value) ++ own_s f8 [(.int ((XT.ushrL (p1 &&& (255 : Int32)).toInt64 (0 : Int32)).toInt32.toInt8.toInt32))]) ++ own_s f16 [(.int ((XT.ushrL (p2 &&& (65535 : Int32)).toInt64 (8 : Int32)).toInt32.toInt8.toInt32)), (.int ((XT.ushrL (p2 &&& (65535 : Int32)).toInt64 (0 : Int32)).toInt32.toInt8.toInt32))]) ++ own_s f48 [(.int ((XT.ushrL (p3 &&& (281474976710655 : Int64)) (40 : Int32)).toInt32.toInt8.toInt32)), (.int ((XT.ushrL (p3 &&& (281474976710655 : Int64)) (32 : Int32)).toInt32.toInt8.toInt32)), (.int ((XT.ushrL (p3 &&& (281474976710655 : Int64)) (24 : Int32)).toInt32.toInt8.toInt32)), (.int ((XT.ushrL (p3 &&& (281474976710655 : Int64)) (16 : Int32)).toInt32.toInt8.toInt32)), (.int ((XT.ushrL (p3 &&& (281474976710655 : Int64)) (8 : Int32)).toInt32.toInt8.toInt32)), (.int ((XT.ushrL (p3 &&& (281474976710655 : Int64)) (0 : Int32)).toInt32.toInt8.toInt32))]).length (own_fl mm ((XT.ushr p5 (16 : Int32)).toInt8.toInt32) ((XT.ushr p5 (8 : Int32)).toInt8.toInt32)).length) (by unfold own_g; simp only [own_fll]; split <;> omega) gc4 nc4 Ac4 (by rw [own_s1 c198]; exact Hc4)
                  refine B.if0_eq 196 188 rfl (by decide) rfl at_185 (fun c185 => ?_) (fun c185 => ?_)
                  · exact B.more (by decide) (by decide) (J185 _ _ gj2 nj2 Aj2 (by rw [own_s0 c185, List.append_nil]; exact H2))
                  · refine B.aload 190 rfl at_188 rfl rfl ?_
                    refine B.lload 192 rfl at_190 rfl ?_
                    have hsz3 : h0.size ≤ hj2.size := Nat.le_trans g_fi (Nat.le_of_lt Aj2.lt)
                    refine B.callV 195 rfl at_192 (wd hw 67 rfl) (wd hw 68 rfl) (wd hw 70 rfl) (wd hw 69 rfl) (wd hw 6 rfl) (wd hw 71 rfl) (by decide) H2.ex [(.long (p3 &&& (281474976710655 : Int64)))] [] (rm_w6 l Z a0 hw wo bj2 (p3 &&& (281474976710655 : Int64)) ((([] : List Value) ++ own_s f8 [(.int ((XT.ushrL (p1 &&& (255 : Int32)).toInt64 (0 : Int32)).toInt32.toInt8.toInt32))]) ++ own_s f16 [(.int ((XT.ushrL (p2 &&& (65535 : Int32)).toInt64 (8 : Int32)).toInt32.toInt8.toInt32)), (.int ((XT.ushrL (p2 &&& (65535 : Int32)).toInt64 (0 : Int32)).toInt32.toInt8.toInt32))]) 64 hj2 H2 (by decide) (by omega) (own_bigL p3 281474976710655 48 48 (by decide) (by decide) (by decide)).1 (own_bigL p3 281474976710655 48 48 (by decide) (by decide) (by decide)).2) rfl rfl pd__J_Lsealgram_codec_WireWriter_ rfl rfl 0 rfl (by decide) (by decide) (by decide) (by decide) (fun x z => Or.inr (by simp only [List.mem_cons, List.not_mem_nil, or_false] at z; rcases z with rfl | rfl <;> assumption)) ?_
                    rintro _ hc3 Kc3 ⟨rfl, bc3, ec3, Hc3⟩
                    show B.G hc3 6 1010 (mkF m 195 #[.val (.int p1), .val (.int p2), .val (.long p3), .second, .val (.int p4), .val (.int p5), .val (.int p6), .val (.int f8), .val (.int f16), .val (.int f48), .val (.int fb), .val (.int f24), .val (.int (p1 &&& (255 : Int32))), .val (.int (p2 &&& (65535 : Int32))), .val (.long (p3 &&& (281474976710655 : Int64))), .second, .val (.int (p4 &&& (16777215 : Int32))), .val (.int (Int32.ofNat mm)), .val (.int (((XT.ushr p5 (8 : Int32))).toInt8.toInt32)), .val (.int (((XT.ushr p5 (16 : Int32))).toInt8.toInt32)), .val (.ref fi), .val (.ref wo), .unset, .unset, .unset, .unset, .unset, .unset] [(.ref wo)])
                    have gc3 : h0.size ≤ bc3 := ec3.elim (fun q => by rw [q]; exact gj2) (fun q => Nat.le_trans hsz3 q)
                    have nc3 : fi ≠ bc3 := ec3.elim (fun q => by rw [q]; exact nj2) (fun q e => absurd Aj2.lt (by rw [e]; exact Nat.not_lt.mpr q))
                    have Ac3 := Aj2.keep Kc3 (ninS nfw (ninS nj2 nin0))
                    refine B.pop 196 rfl at_195 rfl ?_
                    have eg : own_g 64 ((([] : List Value) ++ own_s f8 [(.int ((XT.ushrL (p1 &&& (255 : Int32)).toInt64 (0 : Int32)).toInt32.toInt8.toInt32))]) ++ own_s f16 [(.int ((XT.ushrL (p2 &&& (65535 : Int32)).toInt64 (8 : Int32)).toInt32.toInt8.toInt32)), (.int ((XT.ushrL (p2 &&& (65535 : Int32)).toInt64 (0 : Int32)).toInt32.toInt8.toInt32))]).length 6 = 64 := if_pos (by omega)
                    rw [eg] at Hc3
                    exact J185 _ _ gc3 nc3 Ac3 (by rw [own_s1 c185]; exact Hc3)
                refine B.if0_eq 183 175 rfl (by decide) rfl at_172 (fun c172 => ?_) (fun c172 => ?_)
                · exact B.more (by decide) (by decide) (J172 _ _ gj1 nj1 Aj1 (by rw [own_s0 c172, List.append_nil]; exact H1))
                · refine B.aload 177 rfl at_175 rfl rfl ?_
                  refine B.iload 179 rfl at_177 rfl ?_
                  have hsz2 : h0.size ≤ hj1.size := Nat.le_trans g_fi (Nat.le_of_lt Aj1.lt)
                  refine B.callV 182 rfl at_179 (wd hw 52 rfl) (wd hw 53 rfl) (wd hw 55 rfl) (wd hw 54 rfl) (wd hw 6 rfl) (wd hw 56 rfl) (by decide) H1.ex [(.int (p2 &&& (65535 : Int32)))] [] (rm_w2 l Z a0 hw wo bj1 (p2 &&& (65535 : Int32)) (([] : List Value) ++ own_s f8 [(.int ((XT.ushrL (p1 &&& (255 : Int32)).toInt64 (0 : Int32)).toInt32.toInt8.toInt32))]) 64 hj1 H1 (by decide) (by omega) (own_big p2 65535 16 16 (by decide) (by decide) (by decide)).1 (own_big p2 65535 16 16 (by decide) (by decide) (by decide)).2) rfl rfl pd__I_Lsealgram_codec_WireWriter_ rfl rfl 0 rfl (by decide) (by decide) (by decide) (by decide) (fun x z => Or.inr (by simp only [List.mem_cons, List.not_mem_nil, or_false] at z; rcases z with rfl | rfl <;> assumption)) ?_
                  rintro _ hc2 Kc2 ⟨rfl, bc2, ec2, Hc2⟩
                  show B.G hc2 5 738 (mkF m 182 #[.val (.int p1), .val (.int p2), .val (.long p3), .second, .val (.int p4), .val (.int p5), .val (.int p6), .val (.int f8), .val (.int f16), .val (.int f48), .val (.int fb), .val (.int f24), .val (.int (p1 &&& (255 : Int32))), .val (.int (p2 &&& (65535 : Int32))), .val (.long (p3 &&& (281474976710655 : Int64))), .second, .val (.int (p4 &&& (16777215 : Int32))), .val (.int (Int32.ofNat mm)), .val (.int (((XT.ushr p5 (8 : Int32))).toInt8.toInt32)), .val (.int (((XT.ushr p5 (16 : Int32))).toInt8.toInt32)), .val (.ref fi), .val (.ref wo), .unset, .unset, .unset, .unset, .unset, .unset] [(.ref wo)])
                  have gc2 : h0.size ≤ bc2 := ec2.elim (fun q => by rw [q]; exact gj1) (fun q => Nat.le_trans hsz2 q)
                  have nc2 : fi ≠ bc2 := ec2.elim (fun q => by rw [q]; exact nj1) (fun q e => absurd Aj1.lt (by rw [e]; exact Nat.not_lt.mpr q))
                  have Ac2 := Aj1.keep Kc2 (ninS nfw (ninS nj1 nin0))
                  refine B.pop 183 rfl at_182 rfl ?_
                  have eg : own_g 64 (([] : List Value) ++ own_s f8 [(.int ((XT.ushrL (p1 &&& (255 : Int32)).toInt64 (0 : Int32)).toInt32.toInt8.toInt32))]).length 2 = 64 := if_pos (by omega)
                  rw [eg] at Hc2
                  exact J172 _ _ gc2 nc2 Ac2 (by rw [own_s1 c172]; exact Hc2)
              refine B.if0_eq 170 162 rfl (by decide) rfl at_159 (fun c159 => ?_) (fun c159 => ?_)
              · exact B.more (by decide) (by decide) (J159 _ _ gb nf Af (by rw [own_s0 c159, List.append_nil]; exact H))
              · refine B.aload 164 rfl at_162 rfl rfl ?_
                refine B.iload 166 rfl at_164 rfl ?_
                have hsz1 : h0.size ≤ h2.size := Nat.le_trans g_fi (Nat.le_of_lt Af.lt)
                refine B.callV 169 rfl at_166 (wd hw 39 rfl) (wd hw 40 rfl) (wd hw 42 rfl) (wd hw 41 rfl) (wd hw 6 rfl) (wd hw 43 rfl) (by decide) H.ex [(.int (p1 &&& (255 : Int32)))] [] (rm_w1 l Z a0 hw wo bb (p1 &&& (255 : Int32)) ([] : List Value) 64 h2 H (by decide) (by omega) (own_big p1 255 8 8 (by decide) (by decide) (by decide)).1 (own_big p1 255 8 8 (by decide) (by decide) (by decide)).2) rfl rfl pd__I_Lsealgram_codec_WireWriter_ rfl rfl 0 rfl (by decide) (by decide) (by decide) (by decide) (fun x z => Or.inr (by simp only [List.mem_cons, List.not_mem_nil, or_false] at z; rcases z with rfl | rfl <;> assumption)) ?_
                rintro _ hc1 Kc1 ⟨rfl, bc1, ec1, Hc1⟩
                show B.G hc1 4 466 (mkF m 169 #[.val (.int p1), .val (.int p2), .val (.long p3), .second, .val (.int p4), .val (.int p5), .val (.int p6), .val (.int f8), .val (.int f16), .val (.int f48), .val (.int fb), .val (.int f24), .val (.int (p1 &&& (255 : Int32))), .val (.int (p2 &&& (65535 : Int32))), .val (.long (p3 &&& (281474976710655 : Int64))), .second, .val (.int (p4 &&& (16777215 : Int32))), .val (.int (Int32.ofNat mm)), .val (.int (((XT.ushr p5 (8 : Int32))).toInt8.toInt32)), .val (.int (((XT.ushr p5 (16 : Int32))).toInt8.toInt32)), .val (.ref fi), .val (.ref wo), .unset, .unset, .unset, .unset, .unset, .unset] [(.ref wo)])
                have gc1 : h0.size ≤ bc1 := ec1.elim (fun q => by rw [q]; exact gb) (fun q => Nat.le_trans hsz1 q)
                have nc1 : fi ≠ bc1 := ec1.elim (fun q => by rw [q]; exact nf) (fun q e => absurd Af.lt (by rw [e]; exact Nat.not_lt.mpr q))
                have Ac1 := Af.keep Kc1 (ninS nfw (ninS nf nin0))
                refine B.pop 170 rfl at_169 rfl ?_
                have eg : own_g 64 ([] : List Value).length 1 = 64 := if_pos (by omega)
                rw [eg] at Hc1
                exact J159 _ _ gc1 nc1 Ac1 (by rw [own_s1 c159]; exact Hc1)
            refine B.if0_le 148 133 rfl (by decide) rfl at_130 (fun c130 => ?_) (fun c130 => ?_)
            · have z : mm = 0 := Nat.eq_zero_of_not_pos fun q => c130 ((own_lt 0 mm (by omega) (by omega)).mpr q)
              exact J130 _ (by rw [z] at A_fi ⊢; exact A_fi)
            · refine B.aload 135 rfl at_133 rfl rfl ?_
              refine B.iload 137 rfl at_135 rfl ?_
              refine B.iconst 138 rfl (1 : Int32) at_137 rfl ?_
              have hpos : 0 < mm := (own_lt 0 mm (by omega) (by omega)).mp c130
              refine B.isub 139 rfl at_138 ?_
              refine B.topI (Int32.ofNat (mm - 1)) (own_sub mm (by omega) hpos) ?_
              refine B.iload 141 rfl at_139 rfl ?_
              refine B.bastore 142 rfl at_141 A_fi (own_nn (mm - 1) (by omega)).1 (mm - 1) (own_nn (mm - 1) (by omega)).2 (by simp only [List.length_replicate]; omega) (Or.inr g_fi) ?_
              intro h_f2 W_f2 A_f2
              rw [own_b] at A_f2
              refine B.aload 144 rfl at_142 rfl rfl ?_
              refine B.iconst 145 rfl (0 : Int32) at_144 rfl ?_
              refine B.iload 147 rfl at_145 rfl ?_
              refine B.bastore 148 rfl at_147 A_f2 (by decide) 0 rfl (by simp only [List.length_replicate, List.length_set]; omega) (Or.inr g_fi) ?_
              intro h_f3 W_f3 A_f3
              rw [own_b] at A_f3
              exact J130 _ A_f3
          refine B.if0_eq 69 65 rfl (by decide) rfl at_62 (fun c62 => ?_) (fun c62 => ?_)
          · refine B.iconst 70 rfl (0 : Int32) at_69 rfl ?_
            exact J62 (0 : Int32)
          · refine B.iconst 66 rfl (1 : Int32) at_65 rfl ?_
            refine B.goto 70 rfl (by decide) at_66 ?_
            exact J62 (1 : Int32)
        refine B.if0_eq 54 50 rfl (by decide) rfl at_47 (fun c47 => ?_) (fun c47 => ?_)
        · refine B.iconst 55 rfl (0 : Int32) at_54 rfl ?_
          exact J47 (0 : Int32)
        · refine B.iconst 51 rfl (1 : Int32) at_50 rfl ?_
          refine B.goto 55 rfl (by decide) at_51 ?_
          exact J47 (1 : Int32)
      refine B.if0_eq 39 35 rfl (by decide) rfl at_32 (fun c32 => ?_) (fun c32 => ?_)
      · refine B.iconst 40 rfl (0 : Int32) at_39 rfl ?_
        exact J32 (0 : Int32)
      · refine B.iconst 36 rfl (1 : Int32) at_35 rfl ?_
        refine B.goto 40 rfl (by decide) at_36 ?_
        exact J32 (1 : Int32)
    refine B.if0_eq 25 21 rfl (by decide) rfl at_18 (fun c18 => ?_) (fun c18 => ?_)
    · refine B.iconst 26 rfl (0 : Int32) at_25 rfl ?_
      exact J18 (0 : Int32)
    · refine B.iconst 22 rfl (1 : Int32) at_21 rfl ?_
      refine B.goto 26 rfl (by decide) at_22 ?_
      exact J18 (1 : Int32)
  refine B.if0_eq 11 7 rfl (by decide) rfl at_4 (fun c4 => ?_) (fun c4 => ?_)
  · refine B.iconst 12 rfl (0 : Int32) at_11 rfl ?_
    exact J4 (0 : Int32)
  · refine B.iconst 8 rfl (1 : Int32) at_7 rfl ?_
    refine B.goto 12 rfl (by decide) at_8 ?_
    exact J4 (1 : Int32)
set_option maxRecDepth 65536 in
set_option maxHeartbeats 4000000 in
theorem comes_1 {Post : Tables → Env → Array Value → State → Outcome → State → Prop} (hpost : ∀ tb e args s v u, (limb_1_1.after args s (.returned v) u = true ∧ limb_1_2.after args s (.returned v) u = true ∧ True) → FrameEnd s (.returned v) u (Jvm.fieldLocs frame_1_writes args s ++ Jvm.arrayLocs frame_1_arrays args s ++ Jvm.staticLocs frame_1_statics s) 24 1856 → Post tb e args s (.returned v) u) :
    ArmFor flags0 classFile x code maxLocals ret World_1 tables_1 room_1 Calls_1 rest_1 Pre_1 Post := by
  intro l hfl _ _ p e ha hc hk s m args below hf hA hF happ hP
  obtain ⟨hcalls, hrest, hpre⟩ := hP
  obtain ⟨-, -, -, hnamed, -, -, -, hat⟩ := (Spec.applies_iff hf).mp happ
  obtain ⟨hg, hn⟩ := and_e (Cond.before_iff.mp (show (Jvm.Cond.and given_1 narrow_1).before args s = true from hpre))
  obtain ⟨g0, gg0⟩ := and_e hg
  obtain ⟨k0, gg1⟩ := and_e gg0
  obtain ⟨k1, gg2⟩ := and_e gg1
  obtain ⟨k2, gg3⟩ := and_e gg2
  obtain ⟨k3, gg4⟩ := and_e gg3
  obtain ⟨k4, gg5⟩ := and_e gg4
  obtain ⟨w0, w1, w2, w3, w4, w5, rfl⟩ : ∃ w0 w1 w2 w3 w4 w5 : Value, args = #[w0, w1, w2, w3, w4, w5] := by
    have hs : args.size = 6 := by simpa [Cond.value, given_1] using g0
    obtain ⟨L⟩ := args
    match L, hs with
    | [w0, w1, w2, w3, w4, w5], _ => exact ⟨w0, w1, w2, w3, w4, w5, rfl⟩
  have hw := fun d (hd : d ∈ tables_1) => atoms_spec (ws := Jvm.Cond.code x code maxLocals ret :: tables_1) hat d (List.mem_cons_of_mem _ hd)
  obtain ⟨i0, ei0⟩ := is_v k0
  obtain rfl : w0 = (.int i0) := Option.some.inj ei0
  obtain ⟨i1, ei1⟩ := is_v k1
  obtain rfl : w1 = (.int i1) := Option.some.inj ei1
  obtain ⟨i2, ei2⟩ := isL_v k2
  obtain rfl : w2 = (.long i2) := Option.some.inj ei2
  obtain ⟨i3, ei3⟩ := is_v k3
  obtain rfl : w3 = (.int i3) := Option.some.inj ei3
  obtain ⟨i4, ei4⟩ := is_v k4
  obtain rfl : w4 = (.int i4) := Option.some.inj ei4
  obtain ⟨i5, ei5⟩ := is_v gg5
  obtain rfl : w5 = (.int i5) := Option.some.inj ei5
  obtain ⟨n, o, h1, h2, h3, _, L, rfl, ⟨rfl, N, -⟩, hq⟩ := rm0 l s _ hw tables_1 i0 i1 i2 i3 i4 i5 s.heap  p e ha hc hk s m _ below hf ((Spec.applies_iff_loose hf).mp happ).1 ⟨rfl, State.Warmed39.refl s, rfl⟩ trivial
  refine ⟨n, _, h1, h2, h3, hpost _ _ _ _ _ _ ⟨Cond.after_iff.mpr rfl, Cond.after_iff.mpr (eq_i res_at (Term.int_eval (1)) rfl), trivial⟩ ⟨hq.1, hq.2.1, (hq.2.2.sift fun y hy => Or.inr ((N y hy).resolve_left (by simp))).mono (by decide) (by decide)⟩⟩
theorem main_1_1 : Claimed_1_1 := comes_1 fun _ _ _ _ _ _ h hF => ⟨h.1, hF⟩
theorem main_1_2 : Claimed_1_2 := comes_1 fun _ _ _ _ _ _ h hF => ⟨h.2.1, hF⟩
end Jvm.Pilot.@@N@@
namespace Jvm.Pilot.@@N@@
open Jvm Jvm.ClassFile Sem Op Lib Jvm.Free Jvm.Stand Jvm.Pilot.@@N@@.Jvm.D
/-! MADE BY PROGRAM (witnessworld.py) out of the Statement's table words and the real class files: 12 classes; the members and pool entries that the words name. The judged class is class 1, her method 2. -/
namespace start1
open Jvm.ClassFile
def u (s : String) : CpInfo := .utf8 (stringToUtf16 s)
/-- a pool by its gaps: so many unusable entries, then the entry; so many at the end -/
def gap : Nat → List CpInfo → List CpInfo
  | 0, r => r
  | n + 1, r => .unusable :: gap n r
def poolList (es : List (Nat × CpInfo)) (last : Nat) : List CpInfo := es.foldr (fun e r => gap e.1 (e.2 :: r)) (gap last [])
def pool (es : List (Nat × CpInfo)) (last : Nat) : Array CpInfo := ⟨poolList es last⟩
def fileOf (pool : Array CpInfo) (this : Nat) (attrs : Array Attribute := #[]) (ms : Array MethodInfo := #[]) (fl : Nat := 33) (sup : Nat := 0) (ifs : Array Nat := #[]) (fds : Array FieldInfo := #[]) : ClassFile where
  minorVersion := 0
  majorVersion := 65
  constantPool := pool
  accessFlags := fl
  thisClass := this
  superClass := sup
  interfaces := ifs
  fields := fds
  methods := ms
  attributes := attrs
def plain (name : String) (sup : Option ClassId) : Class where
  name := name
  kind := .ordinary
  loader := none
  accessFlags := 33
  super := sup
  interfaces := #[]
  cf := none
  fields := #[]
  methods := #[]
  instanceTypes := #[]
  staticTypes := #[]
  resolved := #[]
  callSites := []
  init := .initialized
  statics := none
  mirror := none

def pool0 : Array CpInfo := pool [(5, u "<init>"), (0, u "()V"), (1, .class_ 10), (1, u "java/lang/Object"), (85, u "clone"), (0, u "()Ljava/lang/Object;")] 26

def k0c0 : Code := { maxStack := 0, maxLocals := 1, code := object_method_1_code, exceptionTable := #[], attributes := #[] }
def k0m0 : Method := { name := "<init>", desc := "()V", sig := { parameters := [], returnType := none }, accessFlags := 1, code := some k0c0 }
def k0m1 : Method := { name := "clone", desc := "()Ljava/lang/Object;", sig := { parameters := [], returnType := some (.object "java/lang/Object") }, accessFlags := 260, code := none }
/-- java/lang/Object -/
def k0 : Class := { plain "java/lang/Object" none with
  accessFlags := 33
  interfaces := #[]
  cf := some (fileOf pool0 8 #[] #[{ accessFlags := 1, nameIndex := 5, descriptorIndex := 6, attributes := #[] }, { accessFlags := 260, nameIndex := 96, descriptorIndex := 97, attributes := #[] }] 33 0 #[] #[])
  fields := #[]
  methods := #[k0m0, k0m1]
  instanceTypes := #[]
  staticTypes := #[]
  resolved := Array.replicate 124 none
  statics := none }

def pool1 : Array CpInfo := pool [(2, .class_ 4), (0, .nameAndType 5 6), (0, u "java/lang/Object"), (0, u "<init>"), (0, u "()V"), (0, .integer 65535), (0, .long 281474976710655), (1, .integer 16777215), (0, .class_ 12), (0, u "sealgram/codec/WireWriter"), (0, .methodref 11 3), (0, .methodref 11 15), (0, .nameAndType 16 17), (0, u "uint8"), (0, u "(I)Lsealgram/codec/WireWriter;"), (0, .methodref 11 19), (0, .nameAndType 20 17), (0, u "uint16"), (0, .methodref 11 22), (0, .nameAndType 23 24), (0, u "uint48"), (0, u "(J)Lsealgram/codec/WireWriter;"), (0, .methodref 11 26), (0, .nameAndType 27 28), (0, u "bytes"), (0, u "([B)Lsealgram/codec/WireWriter;"), (0, .methodref 11 30), (0, .nameAndType 31 17), (0, u "uint24"), (0, .methodref 11 33), (0, .nameAndType 34 35), (0, u "toByteArray"), (0, u "()[B"), (0, .methodref 37 38), (0, .class_ 39), (0, .nameAndType 40 41), (0, u "sealgram/codec/WireWriterToByteArrayPinLaw"), (0, u "eq"), (0, u "([BIJI)Z"), (3, u "law"), (0, u "(IIJIII)Z")] 4

def k1m0 : Method := { name := "<init>", desc := "()V", sig := { parameters := [], returnType := none }, accessFlags := 1, code := none }
def k1c1 : Code := { maxStack := 4, maxLocals := 5, code := method_2_code, exceptionTable := #[], attributes := #[] }
def k1m1 : Method := { name := "eq", desc := "([BIJI)Z", sig := { parameters := [(.array .byte), .int, .long, .int], returnType := some .boolean }, accessFlags := 10, code := some k1c1 }
def k1c2 : Code := { maxStack := 5, maxLocals := 28, code := code, exceptionTable := #[], attributes := #[] }
def k1m2 : Method := { name := "law", desc := "(IIJIII)Z", sig := { parameters := [.int, .int, .long, .int, .int, .int], returnType := some .boolean }, accessFlags := 9, code := some k1c2 }
/-- sealgram/codec/WireWriterToByteArrayPinLaw -/
def k1 : Class := { plain "sealgram/codec/WireWriterToByteArrayPinLaw" (some 0) with
  accessFlags := 49
  interfaces := #[]
  cf := some (fileOf pool1 37 #[] #[{ accessFlags := 1, nameIndex := 5, descriptorIndex := 6, attributes := #[] }, { accessFlags := 10, nameIndex := 40, descriptorIndex := 41, attributes := #[] }, { accessFlags := 9, nameIndex := 45, descriptorIndex := 46, attributes := #[] }] 49 2 #[] #[])
  fields := #[]
  methods := #[k1m0, k1m1, k1m2]
  instanceTypes := #[]
  staticTypes := #[]
  resolved := Array.replicate 51 none
  statics := none }

def pool2 : Array CpInfo := pool [(1, .methodref 2 3), (0, .class_ 4), (0, .nameAndType 5 6), (0, u "sealgram/codec/WireWriter"), (0, u "<init>"), (0, u "([BIZ)V"), (0, .methodref 8 9), (0, .class_ 10), (0, .nameAndType 5 11), (0, u "java/lang/Object"), (0, u "()V"), (0, .fieldref 2 13), (0, .nameAndType 14 15), (0, u "mBytes"), (0, u "[B"), (0, .fieldref 2 17), (0, .nameAndType 18 19), (0, u "mLength"), (0, u "I"), (0, .fieldref 2 21), (0, .nameAndType 22 23), (0, u "mInPlace"), (0, u "Z"), (0, .methodref 2 25), (0, .nameAndType 26 27), (0, u "uint"), (0, u "(JI)Lsealgram/codec/WireWriter;"), (0, .methodref 2 29), (0, .nameAndType 30 31), (0, u "grow"), (0, u "(I)V"), (0, .methodref 33 34), (0, .class_ 35), (0, .nameAndType 36 37), (0, u "java/lang/System"), (0, u "arraycopy"), (0, u "(Ljava/lang/Object;ILjava/lang/Object;II)V"), (2, u "uint8"), (0, u "(I)Lsealgram/codec/WireWriter;"), (2, u "bytes"), (0, u "([B)Lsealgram/codec/WireWriter;"), (2, u "uint16"), (2, u "uint24"), (14, .methodref 67 68), (0, .class_ 69), (0, .nameAndType 70 71), (0, u "java/util/Arrays"), (0, u "copyOf"), (0, u "([BI)[B"), (15, .methodref 88 89), (0, .class_ 90), (0, .nameAndType 91 92), (0, u "java/lang/Math"), (0, u "max"), (0, u "(II)I"), (4, u "uint48"), (0, u "(J)Lsealgram/codec/WireWriter;"), (7, u "toByteArray"), (0, u "()[B")] 32

def k2c0 : Code := { maxStack := 4, maxLocals := 1, code := prog_64_method_1_code, exceptionTable := #[], attributes := #[] }
def k2m0 : Method := { name := "<init>", desc := "()V", sig := { parameters := [], returnType := none }, accessFlags := 1, code := some k2c0 }
def k2c1 : Code := { maxStack := 2, maxLocals := 4, code := prog_64_method_2_code, exceptionTable := #[], attributes := #[] }
def k2m1 : Method := { name := "<init>", desc := "([BIZ)V", sig := { parameters := [(.array .byte), .int, .boolean], returnType := none }, accessFlags := 2, code := some k2c1 }
def k2c2 : Code := { maxStack := 4, maxLocals := 2, code := prog_64_method_4_code, exceptionTable := #[], attributes := #[] }
def k2m2 : Method := { name := "uint8", desc := "(I)Lsealgram/codec/WireWriter;", sig := { parameters := [.int], returnType := some (.object "sealgram/codec/WireWriter") }, accessFlags := 1, code := some k2c2 }
def k2c3 : Code := { maxStack := 4, maxLocals := 2, code := prog_64_method_5_code, exceptionTable := #[], attributes := #[] }
def k2m3 : Method := { name := "uint16", desc := "(I)Lsealgram/codec/WireWriter;", sig := { parameters := [.int], returnType := some (.object "sealgram/codec/WireWriter") }, accessFlags := 1, code := some k2c3 }
def k2c4 : Code := { maxStack := 4, maxLocals := 2, code := prog_64_method_6_code, exceptionTable := #[], attributes := #[] }
def k2m4 : Method := { name := "uint24", desc := "(I)Lsealgram/codec/WireWriter;", sig := { parameters := [.int], returnType := some (.object "sealgram/codec/WireWriter") }, accessFlags := 1, code := some k2c4 }
def k2c5 : Code := { maxStack := 4, maxLocals := 3, code := prog_64_method_7_code, exceptionTable := #[], attributes := #[] }
def k2m5 : Method := { name := "uint48", desc := "(J)Lsealgram/codec/WireWriter;", sig := { parameters := [.long], returnType := some (.object "sealgram/codec/WireWriter") }, accessFlags := 1, code := some k2c5 }
def k2c6 : Code := { maxStack := 5, maxLocals := 2, code := prog_64_method_8_code, exceptionTable := #[], attributes := #[] }
def k2m6 : Method := { name := "bytes", desc := "([B)Lsealgram/codec/WireWriter;", sig := { parameters := [(.array .byte)], returnType := some (.object "sealgram/codec/WireWriter") }, accessFlags := 1, code := some k2c6 }
def k2c7 : Code := { maxStack := 2, maxLocals := 1, code := prog_64_method_13_code, exceptionTable := #[], attributes := #[] }
def k2m7 : Method := { name := "toByteArray", desc := "()[B", sig := { parameters := [], returnType := some (.array .byte) }, accessFlags := 1, code := some k2c7 }
def k2c8 : Code := { maxStack := 6, maxLocals := 5, code := prog_64_method_14_code, exceptionTable := #[], attributes := #[] }
def k2m8 : Method := { name := "uint", desc := "(JI)Lsealgram/codec/WireWriter;", sig := { parameters := [.long, .int], returnType := some (.object "sealgram/codec/WireWriter") }, accessFlags := 2, code := some k2c8 }
def k2c9 : Code := { maxStack := 5, maxLocals := 2, code := prog_64_method_15_code, exceptionTable := #[], attributes := #[] }
def k2m9 : Method := { name := "grow", desc := "(I)V", sig := { parameters := [.int], returnType := none }, accessFlags := 2, code := some k2c9 }
/-- sealgram/codec/WireWriter -/
def k2 : Class := { plain "sealgram/codec/WireWriter" (some 0) with
  accessFlags := 49
  interfaces := #[]
  cf := some (fileOf pool2 2 #[] #[{ accessFlags := 1, nameIndex := 5, descriptorIndex := 11, attributes := #[] }, { accessFlags := 2, nameIndex := 5, descriptorIndex := 6, attributes := #[] }, { accessFlags := 1, nameIndex := 40, descriptorIndex := 41, attributes := #[] }, { accessFlags := 1, nameIndex := 48, descriptorIndex := 41, attributes := #[] }, { accessFlags := 1, nameIndex := 51, descriptorIndex := 41, attributes := #[] }, { accessFlags := 1, nameIndex := 97, descriptorIndex := 98, attributes := #[] }, { accessFlags := 1, nameIndex := 44, descriptorIndex := 45, attributes := #[] }, { accessFlags := 1, nameIndex := 106, descriptorIndex := 107, attributes := #[] }, { accessFlags := 2, nameIndex := 26, descriptorIndex := 27, attributes := #[] }, { accessFlags := 2, nameIndex := 30, descriptorIndex := 31, attributes := #[] }] 49 8 #[] #[{ accessFlags := 2, nameIndex := 14, descriptorIndex := 15, attributes := #[] }, { accessFlags := 2, nameIndex := 18, descriptorIndex := 19, attributes := #[] }, { accessFlags := 18, nameIndex := 22, descriptorIndex := 23, attributes := #[] }])
  fields := #[{ name := "mBytes", type := (.array .byte), accessFlags := 2, slot := 0, constantValue := 0 }, { name := "mLength", type := .int, accessFlags := 2, slot := 1, constantValue := 0 }, { name := "mInPlace", type := .boolean, accessFlags := 18, slot := 2, constantValue := 0 }]
  methods := #[k2m0, k2m1, k2m2, k2m3, k2m4, k2m5, k2m6, k2m7, k2m8, k2m9]
  instanceTypes := #[(.array .byte), .int, .boolean]
  staticTypes := #[]
  resolved := Array.replicate 140 none
  statics := none }

def pool3 : Array CpInfo := pool [(2, .class_ 4), (1, u "java/lang/Object"), (0, u "<init>"), (0, u "()V"), (7, .class_ 16), (1, u "java/util/Arrays"), (57, .class_ 76), (1, u "java/util/Arrays$NaturalOrder"), (32, u "()Ljava/lang/Object;"), (3, .class_ 115), (1, u "java/util/Arrays$LegacyMergeSort"), (1, u "Z"), (10, .nameAndType 129 109), (0, u "clone"), (20, .methodref 151 152), (0, .class_ 153), (0, .nameAndType 154 155), (0, u "java/lang/System"), (0, u "arraycopy"), (0, u "(Ljava/lang/Object;ILjava/lang/Object;II)V"), (146, u "copyOf"), (1, .methodref 305 306), (0, .class_ 307), (0, .nameAndType 308 309), (0, u "java/lang/Math"), (0, u "min"), (0, u "(II)I"), (0, .methodref 311 128), (0, .class_ 312), (0, u "[B"), (62, .class_ 376), (0, u "java/util/Arrays$ArrayList"), (68, u "$assertionsDisabled"), (269, u "MIN_ARRAY_SORT_GRAN"), (0, u "I"), (2, u "INSERTIONSORT_THRESHOLD"), (149, u "([BI)[B"), (105, .class_ 976), (0, u "java/util/Arrays$ArrayItr")] 52

def k3m0 : Method := { name := "<init>", desc := "()V", sig := { parameters := [], returnType := none }, accessFlags := 2, code := none }
def k3c1 : Code := { maxStack := 6, maxLocals := 3, code := jdk_65_method_121_code, exceptionTable := #[], attributes := #[] }
def k3m1 : Method := { name := "copyOf", desc := "([BI)[B", sig := { parameters := [(.array .byte), .int], returnType := some (.array .byte) }, accessFlags := 9, code := some k3c1 }
/-- java/util/Arrays -/
def k3 : Class := { plain "java/util/Arrays" (some 0) with
  accessFlags := 49
  interfaces := #[]
  cf := some (fileOf pool3 14 #[.nestMembers #[975, 375, 113, 74]] #[{ accessFlags := 2, nameIndex := 5, descriptorIndex := 6, attributes := #[] }, { accessFlags := 9, nameIndex := 302, descriptorIndex := 869, attributes := #[] }] 49 2 #[] #[{ accessFlags := 26, nameIndex := 715, descriptorIndex := 716, attributes := #[] }, { accessFlags := 26, nameIndex := 719, descriptorIndex := 716, attributes := #[] }, { accessFlags := 4120, nameIndex := 445, descriptorIndex := 117, attributes := #[] }])
  fields := #[{ name := "MIN_ARRAY_SORT_GRAN", type := .int, accessFlags := 26, slot := 0, constantValue := 0 }, { name := "INSERTIONSORT_THRESHOLD", type := .int, accessFlags := 26, slot := 1, constantValue := 0 }, { name := "$assertionsDisabled", type := .boolean, accessFlags := 4120, slot := 2, constantValue := 0 }]
  methods := #[k3m0, k3m1]
  instanceTypes := #[]
  staticTypes := #[.int, .int, .boolean]
  resolved := Array.replicate 1029 none
  statics := none }

def pool4 : Array CpInfo := pool [(1, .class_ 2), (0, u "java/lang/Math"), (1, .class_ 6), (1, u "java/lang/Object"), (0, u "<init>"), (0, u "()V"), (89, .class_ 100), (1, u "java/lang/Math$RandomNumberGeneratorHolder"), (71, u "negativeZeroFloatBits"), (0, u "J"), (2, u "negativeZeroDoubleBits"), (21, u "max"), (2, u "min"), (43, u "$assertionsDisabled"), (0, u "Z"), (88, u "(II)I"), (2, u "twoToTheDoubleScaleDown"), (0, u "D"), (4, u "twoToTheDoubleScaleUp"), (9, u "E"), (3, u "PI"), (2, u "TAU"), (2, u "DEGREES_TO_RADIANS"), (0, u "RADIANS_TO_DEGREES")] 94

def k4m0 : Method := { name := "<init>", desc := "()V", sig := { parameters := [], returnType := none }, accessFlags := 2, code := none }
def k4c1 : Code := { maxStack := 2, maxLocals := 2, code := jdk_29_method_65_code, exceptionTable := #[], attributes := #[] }
def k4m1 : Method := { name := "max", desc := "(II)I", sig := { parameters := [.int, .int], returnType := some .int }, accessFlags := 9, code := some k4c1 }
def k4c2 : Code := { maxStack := 2, maxLocals := 2, code := jdk_29_method_69_code, exceptionTable := #[], attributes := #[] }
def k4m2 : Method := { name := "min", desc := "(II)I", sig := { parameters := [.int, .int], returnType := some .int }, accessFlags := 9, code := some k4c2 }
/-- java/lang/Math -/
def k4 : Class := { plain "java/lang/Math" (some 0) with
  accessFlags := 49
  interfaces := #[]
  cf := some (fileOf pool4 1 #[.nestMembers #[98]] #[{ accessFlags := 2, nameIndex := 7, descriptorIndex := 8, attributes := #[] }, { accessFlags := 9, nameIndex := 198, descriptorIndex := 335, attributes := #[] }, { accessFlags := 9, nameIndex := 201, descriptorIndex := 335, attributes := #[] }] 49 4 #[] #[{ accessFlags := 25, nameIndex := 354, descriptorIndex := 339, attributes := #[] }, { accessFlags := 25, nameIndex := 358, descriptorIndex := 339, attributes := #[] }, { accessFlags := 25, nameIndex := 361, descriptorIndex := 339, attributes := #[] }, { accessFlags := 26, nameIndex := 364, descriptorIndex := 339, attributes := #[] }, { accessFlags := 26, nameIndex := 365, descriptorIndex := 339, attributes := #[] }, { accessFlags := 26, nameIndex := 172, descriptorIndex := 173, attributes := #[] }, { accessFlags := 26, nameIndex := 176, descriptorIndex := 173, attributes := #[] }, { accessFlags := 8, nameIndex := 344, descriptorIndex := 339, attributes := #[] }, { accessFlags := 8, nameIndex := 338, descriptorIndex := 339, attributes := #[] }, { accessFlags := 4120, nameIndex := 245, descriptorIndex := 246, attributes := #[] }])
  fields := #[{ name := "E", type := .double, accessFlags := 25, slot := 0, constantValue := 0 }, { name := "PI", type := .double, accessFlags := 25, slot := 1, constantValue := 0 }, { name := "TAU", type := .double, accessFlags := 25, slot := 2, constantValue := 0 }, { name := "DEGREES_TO_RADIANS", type := .double, accessFlags := 26, slot := 3, constantValue := 0 }, { name := "RADIANS_TO_DEGREES", type := .double, accessFlags := 26, slot := 4, constantValue := 0 }, { name := "negativeZeroFloatBits", type := .long, accessFlags := 26, slot := 5, constantValue := 0 }, { name := "negativeZeroDoubleBits", type := .long, accessFlags := 26, slot := 6, constantValue := 0 }, { name := "twoToTheDoubleScaleUp", type := .double, accessFlags := 8, slot := 7, constantValue := 0 }, { name := "twoToTheDoubleScaleDown", type := .double, accessFlags := 8, slot := 8, constantValue := 0 }, { name := "$assertionsDisabled", type := .boolean, accessFlags := 4120, slot := 9, constantValue := 0 }]
  methods := #[k4m0, k4m1, k4m2]
  instanceTypes := #[]
  staticTypes := #[.double, .double, .double, .double, .double, .long, .long, .double, .double, .boolean]
  resolved := Array.replicate 460 none
  statics := none }

def pool5 : Array CpInfo := pool [(2, .class_ 4), (1, u "java/lang/Object"), (0, u "<init>"), (0, u "()V"), (1, .class_ 10), (1, u "java/lang/System"), (0, u "allowSecurityManager"), (0, u "I"), (16, u "cons"), (0, u "Ljava/io/Console;"), (77, .class_ 110), (1, u "java/lang/System$CallersHolder"), (43, u "initialErrStream"), (0, u "Ljava/io/PrintStream;"), (19, u "security"), (0, u "Ljava/lang/SecurityManager;"), (31, .class_ 209), (0, u "java/lang/System$1"), (7, u "props"), (0, u "Ljava/util/Properties;"), (2, u "lineSeparator"), (0, u "Ljava/lang/String;"), (96, .class_ 321), (1, u "java/lang/System$LoggerFinder"), (5, .class_ 328), (0, u "java/lang/System$Logger"), (67, u "err"), (2, u "out"), (91, u "notSupportedJnuEncoding"), (15, u "in"), (17, u "initialIn"), (0, u "Ljava/io/InputStream;"), (35, u "bootLayer"), (0, u "Ljava/lang/ModuleLayer;"), (99, .class_ 664), (0, u "java/lang/System$2"), (9, u "NEVER"), (2, u "MAYBE"), (49, u "arraycopy"), (0, u "(Ljava/lang/Object;ILjava/lang/Object;II)V"), (72, .class_ 802), (0, u "java/lang/System$Logger$Level")] 31

def k5m0 : Method := { name := "<init>", desc := "()V", sig := { parameters := [], returnType := none }, accessFlags := 2, code := none }
def k5m1 : Method := { name := "arraycopy", desc := "(Ljava/lang/Object;ILjava/lang/Object;II)V", sig := { parameters := [(.object "java/lang/Object"), .int, (.object "java/lang/Object"), .int, .int], returnType := none }, accessFlags := 265, code := none }
/-- java/lang/System -/
def k5 : Class := { plain "java/lang/System" (some 0) with
  accessFlags := 49
  interfaces := #[]
  cf := some (fileOf pool5 8 #[.nestMembers #[319, 327, 801, 108, 663, 208]] #[{ accessFlags := 2, nameIndex := 5, descriptorIndex := 6, attributes := #[] }, { accessFlags := 265, nameIndex := 727, descriptorIndex := 728, attributes := #[] }] 49 2 #[] #[{ accessFlags := 25, nameIndex := 507, descriptorIndex := 526, attributes := #[] }, { accessFlags := 25, nameIndex := 399, descriptorIndex := 155, attributes := #[] }, { accessFlags := 25, nameIndex := 396, descriptorIndex := 155, attributes := #[] }, { accessFlags := 10, nameIndex := 525, descriptorIndex := 526, attributes := #[] }, { accessFlags := 26, nameIndex := 674, descriptorIndex := 12, attributes := #[] }, { accessFlags := 26, nameIndex := 677, descriptorIndex := 12, attributes := #[] }, { accessFlags := 10, nameIndex := 11, descriptorIndex := 12, attributes := #[] }, { accessFlags := 74, nameIndex := 175, descriptorIndex := 176, attributes := #[] }, { accessFlags := 10, nameIndex := 491, descriptorIndex := 222, attributes := #[] }, { accessFlags := 74, nameIndex := 29, descriptorIndex := 30, attributes := #[] }, { accessFlags := 74, nameIndex := 154, descriptorIndex := 155, attributes := #[] }, { accessFlags := 10, nameIndex := 217, descriptorIndex := 218, attributes := #[] }, { accessFlags := 10, nameIndex := 221, descriptorIndex := 222, attributes := #[] }, { accessFlags := 8, nameIndex := 562, descriptorIndex := 563, attributes := #[] }])
  fields := #[{ name := "in", type := (.object "java/io/InputStream"), accessFlags := 25, slot := 0, constantValue := 0 }, { name := "out", type := (.object "java/io/PrintStream"), accessFlags := 25, slot := 1, constantValue := 0 }, { name := "err", type := (.object "java/io/PrintStream"), accessFlags := 25, slot := 2, constantValue := 0 }, { name := "initialIn", type := (.object "java/io/InputStream"), accessFlags := 10, slot := 3, constantValue := 0 }, { name := "NEVER", type := .int, accessFlags := 26, slot := 4, constantValue := 0 }, { name := "MAYBE", type := .int, accessFlags := 26, slot := 5, constantValue := 0 }, { name := "allowSecurityManager", type := .int, accessFlags := 10, slot := 6, constantValue := 0 }, { name := "security", type := (.object "java/lang/SecurityManager"), accessFlags := 74, slot := 7, constantValue := 0 }, { name := "notSupportedJnuEncoding", type := (.object "java/lang/String"), accessFlags := 10, slot := 8, constantValue := 0 }, { name := "cons", type := (.object "java/io/Console"), accessFlags := 74, slot := 9, constantValue := 0 }, { name := "initialErrStream", type := (.object "java/io/PrintStream"), accessFlags := 74, slot := 10, constantValue := 0 }, { name := "props", type := (.object "java/util/Properties"), accessFlags := 10, slot := 11, constantValue := 0 }, { name := "lineSeparator", type := (.object "java/lang/String"), accessFlags := 10, slot := 12, constantValue := 0 }, { name := "bootLayer", type := (.object "java/lang/ModuleLayer"), accessFlags := 8, slot := 13, constantValue := 0 }]
  methods := #[k5m0, k5m1]
  instanceTypes := #[]
  staticTypes := #[(.object "java/io/InputStream"), (.object "java/io/PrintStream"), (.object "java/io/PrintStream"), (.object "java/io/InputStream"), .int, .int, .int, (.object "java/lang/SecurityManager"), (.object "java/lang/String"), (.object "java/io/Console"), (.object "java/io/PrintStream"), (.object "java/util/Properties"), (.object "java/lang/String"), (.object "java/lang/ModuleLayer")]
  resolved := Array.replicate 834 none
  statics := none }

def pool6 : Array CpInfo := pool [(1, .class_ 2), (0, u "java/lang/Cloneable"), (0, .class_ 4), (0, u "java/lang/Object")] 2

/-- java/lang/Cloneable -/
def k6 : Class := { plain "java/lang/Cloneable" (some 0) with
  accessFlags := 1537
  interfaces := #[]
  cf := some (fileOf pool6 1 #[] #[] 1537 3 #[] #[])
  fields := #[]
  methods := #[]
  instanceTypes := #[]
  staticTypes := #[]
  resolved := Array.replicate 7 none
  statics := none }

def pool7 : Array CpInfo := pool [(1, u "java/io/Serializable"), (0, .class_ 1), (0, u "java/lang/Object"), (0, .class_ 3)] 3

/-- java/io/Serializable -/
def k7 : Class := { plain "java/io/Serializable" (some 0) with
  accessFlags := 1537
  interfaces := #[]
  cf := some (fileOf pool7 2 #[] #[] 1537 4 #[] #[])
  fields := #[]
  methods := #[]
  instanceTypes := #[]
  staticTypes := #[]
  resolved := Array.replicate 8 none
  statics := none }

/-- the primitive byte -/
def k8 : Class := { plain "byte" none with kind := .primitive 'B', accessFlags := 0x411 }
/-- [B -/
def k9 : Class := { plain "[B" (some 0) with kind := .array 8 .byte, interfaces := #[6, 7], accessFlags := 1041 }

/-- the primitive int -/
def k10 : Class := { plain "int" none with kind := .primitive 'I', accessFlags := 0x411 }
/-- [I -/
def k11 : Class := { plain "[I" (some 0) with kind := .array 10 .int, interfaces := #[6, 7], accessFlags := 1041 }

def heap : Heap := #[]
def classes : Array Class := #[k0, k1, k2, k3, k4, k5, k6, k7, k8, k9, k10, k11]
def interned : List (Array UInt16 × Addr) := []
def slotsUsed : Nat := 0
def theMethod : MethodId := ⟨1, 2⟩
def args0 : Array Value := #[.int 5, .int 6, .long 7, .int 8, .int 9, .int 31]
def aboutOver (below : List Frame) : State where
  vm := { classes := classes, interned := interned.toArray }
  heap := heap
  slotsUsed := slotsUsed
  threads := #[{ frames := .invoking theMethod args0 :: below }]
def below0 : List Frame := [.native { method := ⟨0, 0⟩, args := #[] }]
def about1 : State := aboutOver below0
def p0 : Program := .bare "" "" ""
def e0 : Env := launch0.env 0 0 0
theorem w_frames : about1.frames = Frame.invoking theMethod args0 :: below0 := rfl
set_option maxRecDepth 65536 in
theorem w_args : argsFit about1.vm theMethod args0 = true := by decide +kernel
set_option maxRecDepth 65536 in
theorem w_heap : heapFits about1 = true := by decide +kernel
set_option maxRecDepth 65536 in
theorem w_runnable : about1.curStatus? = some .runnable := by decide +kernel
set_option maxRecDepth 65536 in
theorem w_alone : about1.alone = true := by decide +kernel
set_option maxRecDepth 65536 in
theorem w_named : about1.methodNamed? x = some theMethod := by decide +kernel
set_option maxRecDepth 65536 in
theorem w_hears : about1.hears theMethod below0 = true := by decide +kernel
set_option maxRecDepth 65536 in
theorem w_ripe : about1.ripe theMethod args0 below0 = true := by decide +kernel
theorem w_running : about1.status = .running := rfl
set_option maxRecDepth 65536 in
theorem w_room : about1.hasRoom e0.platform room_1 = true :=
  launch0.hasRoom_least _ room_1 (by decide +kernel) (by decide +kernel) (by decide +kernel) (by decide +kernel) (by decide +kernel) (by decide +kernel)
theorem allAtoms_all (ts : List Jvm.Cond) (a : Array Jvm.Value) (st : Jvm.State) : (allAtoms ts).before a st = ts.all (fun c => c.before a st) := by
  induction ts with
  | nil => rfl
  | cons c t ih =>
    show (Jvm.Cond.and c (allAtoms t)).before a st = _
    rw [Jvm.Cond.before_and, ih, List.all_cons]
def words1 : List Jvm.Cond := Jvm.Cond.code x code maxLocals ret :: tables_1
/-- a 'code' word, met by the world's own term for the bytes: nothing is compared byte by byte -/
theorem code_word {y : MethodName} {bytes : ByteArray} {mx : Nat} {rt : Option FieldType} {a : Array Value} {s : State} {m : MethodId} {meth : Method} {c : Code} (h1 : s.methodNamed? y = some m) (h2 : s.vm.method? m = some meth) (h3 : meth.code = some c) (h4 : c.code = bytes)
    (h5 : (c.maxLocals == mx && c.exceptionTable.isEmpty && decide (c.maxStack ≤ mostOperands) && decide (meth.sig.returnType = rt) && !meth.locks && decide (parseMethodDescriptor y.desc = some meth.sig)) = true) : (Jvm.Cond.code y bytes mx rt).before a s = true := by
  simp only [Bool.and_eq_true, beq_iff_eq, Bool.not_eq_true', decide_eq_true_eq] at h5
  obtain ⟨⟨⟨⟨⟨g1, g2⟩, g3⟩, g4⟩, g5⟩, g6⟩ := h5
  simp [Cond.before, Cond.holds, Cond.value, h1, h2, h3, h4, g1, g2, g3, g4, g5, g6]
def isCode : Jvm.Cond → Bool
  | .code _ _ _ _ => true
  | _ => false
theorem all_split {L : List Jvm.Cond} {P : Jvm.Cond → Bool} (h1 : L.all (fun c => isCode c || P c) = true) (h2 : ∀ c ∈ L.filter isCode, P c = true) : L.all P = true := by
  refine List.all_eq_true.mpr fun c hc => ?_
  have h := List.all_eq_true.mp h1 c hc
  rcases Bool.eq_false_or_eq_true (isCode c) with hi | hi
  · exact h2 c (List.mem_filter.mpr ⟨hc, hi⟩)
  · simpa [hi] using h
set_option maxRecDepth 65536 in
theorem w_c0 : (Jvm.Cond.code x code maxLocals ret).before args0 about1 = true := code_word (m := ⟨1, 2⟩) (meth := k1m2) (c := k1c2) (by decide +kernel) rfl rfl rfl (by decide +kernel)
set_option maxRecDepth 65536 in
theorem w_c1 : (Jvm.Cond.code ({ cls := "sealgram/codec/WireWriter", name := "<init>", desc := "()V" } : Jvm.MethodName) prog_64_method_1_code (1 : Nat) (Option.none : Option Jvm.ClassFile.FieldType)).before args0 about1 = true := code_word (m := ⟨2, 0⟩) (meth := k2m0) (c := k2c0) (by decide +kernel) rfl rfl rfl (by decide +kernel)
set_option maxRecDepth 65536 in
theorem w_c2 : (Jvm.Cond.code ({ cls := "sealgram/codec/WireWriter", name := "<init>", desc := "([BIZ)V" } : Jvm.MethodName) prog_64_method_2_code (4 : Nat) (Option.none : Option Jvm.ClassFile.FieldType)).before args0 about1 = true := code_word (m := ⟨2, 1⟩) (meth := k2m1) (c := k2c1) (by decide +kernel) rfl rfl rfl (by decide +kernel)
set_option maxRecDepth 65536 in
theorem w_c3 : (Jvm.Cond.code ({ cls := "java/lang/Object", name := "<init>", desc := "()V" } : Jvm.MethodName) object_method_1_code (1 : Nat) (Option.none : Option Jvm.ClassFile.FieldType)).before args0 about1 = true := code_word (m := ⟨0, 0⟩) (meth := k0m0) (c := k0c0) (by decide +kernel) rfl rfl rfl (by decide +kernel)
set_option maxRecDepth 65536 in
theorem w_c4 : (Jvm.Cond.code ({ cls := "sealgram/codec/WireWriter", name := "toByteArray", desc := "()[B" } : Jvm.MethodName) prog_64_method_13_code (1 : Nat) (Option.some (Jvm.ClassFile.FieldType.array Jvm.ClassFile.FieldType.byte))).before args0 about1 = true := code_word (m := ⟨2, 7⟩) (meth := k2m7) (c := k2c7) (by decide +kernel) rfl rfl rfl (by decide +kernel)
set_option maxRecDepth 65536 in
theorem w_c5 : (Jvm.Cond.code ({ cls := "java/util/Arrays", name := "copyOf", desc := "([BI)[B" } : Jvm.MethodName) jdk_65_method_121_code (3 : Nat) (Option.some (Jvm.ClassFile.FieldType.array Jvm.ClassFile.FieldType.byte))).before args0 about1 = true := code_word (m := ⟨3, 1⟩) (meth := k3m1) (c := k3c1) (by decide +kernel) rfl rfl rfl (by decide +kernel)
set_option maxRecDepth 65536 in
theorem w_c6 : (Jvm.Cond.code ({ cls := "java/lang/Math", name := "min", desc := "(II)I" } : Jvm.MethodName) jdk_29_method_69_code (2 : Nat) (Option.some Jvm.ClassFile.FieldType.int)).before args0 about1 = true := code_word (m := ⟨4, 2⟩) (meth := k4m2) (c := k4c2) (by decide +kernel) rfl rfl rfl (by decide +kernel)
set_option maxRecDepth 65536 in
theorem w_c7 : (Jvm.Cond.code ({ cls := "sealgram/codec/WireWriter", name := "uint8", desc := "(I)Lsealgram/codec/WireWriter;" } : Jvm.MethodName) prog_64_method_4_code (2 : Nat) (Option.some (Jvm.ClassFile.FieldType.object "sealgram/codec/WireWriter"))).before args0 about1 = true := code_word (m := ⟨2, 2⟩) (meth := k2m2) (c := k2c2) (by decide +kernel) rfl rfl rfl (by decide +kernel)
set_option maxRecDepth 65536 in
theorem w_c8 : (Jvm.Cond.code ({ cls := "sealgram/codec/WireWriter", name := "uint", desc := "(JI)Lsealgram/codec/WireWriter;" } : Jvm.MethodName) prog_64_method_14_code (5 : Nat) (Option.some (Jvm.ClassFile.FieldType.object "sealgram/codec/WireWriter"))).before args0 about1 = true := code_word (m := ⟨2, 8⟩) (meth := k2m8) (c := k2c8) (by decide +kernel) rfl rfl rfl (by decide +kernel)
set_option maxRecDepth 65536 in
theorem w_c9 : (Jvm.Cond.code ({ cls := "sealgram/codec/WireWriter", name := "grow", desc := "(I)V" } : Jvm.MethodName) prog_64_method_15_code (2 : Nat) (Option.none : Option Jvm.ClassFile.FieldType)).before args0 about1 = true := code_word (m := ⟨2, 9⟩) (meth := k2m9) (c := k2c9) (by decide +kernel) rfl rfl rfl (by decide +kernel)
set_option maxRecDepth 65536 in
theorem w_c10 : (Jvm.Cond.code ({ cls := "sealgram/codec/WireWriter", name := "uint16", desc := "(I)Lsealgram/codec/WireWriter;" } : Jvm.MethodName) prog_64_method_5_code (2 : Nat) (Option.some (Jvm.ClassFile.FieldType.object "sealgram/codec/WireWriter"))).before args0 about1 = true := code_word (m := ⟨2, 3⟩) (meth := k2m3) (c := k2c3) (by decide +kernel) rfl rfl rfl (by decide +kernel)
set_option maxRecDepth 65536 in
theorem w_c11 : (Jvm.Cond.code ({ cls := "sealgram/codec/WireWriter", name := "bytes", desc := "([B)Lsealgram/codec/WireWriter;" } : Jvm.MethodName) prog_64_method_8_code (2 : Nat) (Option.some (Jvm.ClassFile.FieldType.object "sealgram/codec/WireWriter"))).before args0 about1 = true := code_word (m := ⟨2, 6⟩) (meth := k2m6) (c := k2c6) (by decide +kernel) rfl rfl rfl (by decide +kernel)
set_option maxRecDepth 65536 in
theorem w_c12 : (Jvm.Cond.code ({ cls := "sealgram/codec/WireWriterToByteArrayPinLaw", name := "eq", desc := "([BIJI)Z" } : Jvm.MethodName) method_2_code (5 : Nat) (Option.some Jvm.ClassFile.FieldType.boolean)).before args0 about1 = true := code_word (m := ⟨1, 1⟩) (meth := k1m1) (c := k1c1) (by decide +kernel) rfl rfl rfl (by decide +kernel)
set_option maxRecDepth 65536 in
theorem w_c13 : (Jvm.Cond.code ({ cls := "sealgram/codec/WireWriter", name := "uint48", desc := "(J)Lsealgram/codec/WireWriter;" } : Jvm.MethodName) prog_64_method_7_code (3 : Nat) (Option.some (Jvm.ClassFile.FieldType.object "sealgram/codec/WireWriter"))).before args0 about1 = true := code_word (m := ⟨2, 5⟩) (meth := k2m5) (c := k2c5) (by decide +kernel) rfl rfl rfl (by decide +kernel)
set_option maxRecDepth 65536 in
theorem w_c14 : (Jvm.Cond.code ({ cls := "sealgram/codec/WireWriter", name := "uint24", desc := "(I)Lsealgram/codec/WireWriter;" } : Jvm.MethodName) prog_64_method_6_code (2 : Nat) (Option.some (Jvm.ClassFile.FieldType.object "sealgram/codec/WireWriter"))).before args0 about1 = true := code_word (m := ⟨2, 4⟩) (meth := k2m4) (c := k2c4) (by decide +kernel) rfl rfl rfl (by decide +kernel)
set_option maxRecDepth 65536 in
theorem w_c15 : (Jvm.Cond.code ({ cls := "java/lang/Math", name := "max", desc := "(II)I" } : Jvm.MethodName) jdk_29_method_65_code (2 : Nat) (Option.some Jvm.ClassFile.FieldType.int)).before args0 about1 = true := code_word (m := ⟨4, 1⟩) (meth := k4m1) (c := k4c1) (by decide +kernel) rfl rfl rfl (by decide +kernel)
def codes1 : List Jvm.Cond := [Jvm.Cond.code x code maxLocals ret, Jvm.Cond.code ({ cls := "sealgram/codec/WireWriter", name := "<init>", desc := "()V" } : Jvm.MethodName) prog_64_method_1_code (1 : Nat) (Option.none : Option Jvm.ClassFile.FieldType), Jvm.Cond.code ({ cls := "sealgram/codec/WireWriter", name := "<init>", desc := "([BIZ)V" } : Jvm.MethodName) prog_64_method_2_code (4 : Nat) (Option.none : Option Jvm.ClassFile.FieldType), Jvm.Cond.code ({ cls := "java/lang/Object", name := "<init>", desc := "()V" } : Jvm.MethodName) object_method_1_code (1 : Nat) (Option.none : Option Jvm.ClassFile.FieldType), Jvm.Cond.code ({ cls := "sealgram/codec/WireWriter", name := "toByteArray", desc := "()[B" } : Jvm.MethodName) prog_64_method_13_code (1 : Nat) (Option.some (Jvm.ClassFile.FieldType.array Jvm.ClassFile.FieldType.byte)), Jvm.Cond.code ({ cls := "java/util/Arrays", name := "copyOf", desc := "([BI)[B" } : Jvm.MethodName) jdk_65_method_121_code (3 : Nat) (Option.some (Jvm.ClassFile.FieldType.array Jvm.ClassFile.FieldType.byte)), Jvm.Cond.code ({ cls := "java/lang/Math", name := "min", desc := "(II)I" } : Jvm.MethodName) jdk_29_method_69_code (2 : Nat) (Option.some Jvm.ClassFile.FieldType.int), Jvm.Cond.code ({ cls := "sealgram/codec/WireWriter", name := "uint8", desc := "(I)Lsealgram/codec/WireWriter;" } : Jvm.MethodName) prog_64_method_4_code (2 : Nat) (Option.some (Jvm.ClassFile.FieldType.object "sealgram/codec/WireWriter")), Jvm.Cond.code ({ cls := "sealgram/codec/WireWriter", name := "uint", desc := "(JI)Lsealgram/codec/WireWriter;" } : Jvm.MethodName) prog_64_method_14_code (5 : Nat) (Option.some (Jvm.ClassFile.FieldType.object "sealgram/codec/WireWriter")), Jvm.Cond.code ({ cls := "sealgram/codec/WireWriter", name := "grow", desc := "(I)V" } : Jvm.MethodName) prog_64_method_15_code (2 : Nat) (Option.none : Option Jvm.ClassFile.FieldType), Jvm.Cond.code ({ cls := "sealgram/codec/WireWriter", name := "uint16", desc := "(I)Lsealgram/codec/WireWriter;" } : Jvm.MethodName) prog_64_method_5_code (2 : Nat) (Option.some (Jvm.ClassFile.FieldType.object "sealgram/codec/WireWriter")), Jvm.Cond.code ({ cls := "sealgram/codec/WireWriter", name := "bytes", desc := "([B)Lsealgram/codec/WireWriter;" } : Jvm.MethodName) prog_64_method_8_code (2 : Nat) (Option.some (Jvm.ClassFile.FieldType.object "sealgram/codec/WireWriter")), Jvm.Cond.code ({ cls := "sealgram/codec/WireWriterToByteArrayPinLaw", name := "eq", desc := "([BIJI)Z" } : Jvm.MethodName) method_2_code (5 : Nat) (Option.some Jvm.ClassFile.FieldType.boolean), Jvm.Cond.code ({ cls := "sealgram/codec/WireWriter", name := "uint48", desc := "(J)Lsealgram/codec/WireWriter;" } : Jvm.MethodName) prog_64_method_7_code (3 : Nat) (Option.some (Jvm.ClassFile.FieldType.object "sealgram/codec/WireWriter")), Jvm.Cond.code ({ cls := "sealgram/codec/WireWriter", name := "uint24", desc := "(I)Lsealgram/codec/WireWriter;" } : Jvm.MethodName) prog_64_method_6_code (2 : Nat) (Option.some (Jvm.ClassFile.FieldType.object "sealgram/codec/WireWriter")), Jvm.Cond.code ({ cls := "java/lang/Math", name := "max", desc := "(II)I" } : Jvm.MethodName) jdk_29_method_65_code (2 : Nat) (Option.some Jvm.ClassFile.FieldType.int)]
set_option maxRecDepth 65536 in
theorem codes_eq : words1.filter isCode = codes1 := rfl
theorem w_codes : ∀ c ∈ words1.filter isCode, c.before args0 about1 = true := by
  rw [codes_eq]
  intro c hc
  simp only [codes1, List.mem_cons, List.not_mem_nil, or_false] at hc
  rcases hc with rfl | rfl | rfl | rfl | rfl | rfl | rfl | rfl | rfl | rfl | rfl | rfl | rfl | rfl | rfl | rfl
  · exact w_c0
  · exact w_c1
  · exact w_c2
  · exact w_c3
  · exact w_c4
  · exact w_c5
  · exact w_c6
  · exact w_c7
  · exact w_c8
  · exact w_c9
  · exact w_c10
  · exact w_c11
  · exact w_c12
  · exact w_c13
  · exact w_c14
  · exact w_c15
set_option maxRecDepth 65536 in
theorem w_t1 : (words1.take 24).all (fun c => isCode c || c.before args0 about1) = true := by decide +kernel
set_option maxRecDepth 65536 in
theorem w_t2 : ((words1.drop 24).take 24).all (fun c => isCode c || c.before args0 about1) = true := by decide +kernel
set_option maxRecDepth 65536 in
theorem w_t3 : (((words1.drop 24).drop 24).take 24).all (fun c => isCode c || c.before args0 about1) = true := by decide +kernel
set_option maxRecDepth 65536 in
theorem w_t4 : (((words1.drop 24).drop 24).drop 24).all (fun c => isCode c || c.before args0 about1) = true := by decide +kernel
theorem w_tables : (allAtoms (Jvm.Cond.code x code maxLocals ret :: tables_1)).before args0 about1 = true := by
  rw [allAtoms_all]
  show words1.all (fun c => c.before args0 about1) = true
  refine all_split ?_ w_codes
  rw [← List.take_append_drop 24 words1, List.all_append, w_t1, ← List.take_append_drop 24 (words1.drop 24), List.all_append, w_t2, ← List.take_append_drop 24 ((words1.drop 24).drop 24), List.all_append, w_t3, w_t4]
  rfl
set_option maxRecDepth 65536 in
theorem w_case : (Jvm.Cond.and given_1 narrow_1).before args0 about1 = true := by decide +kernel
theorem w_applies : (headSpec (Jvm.Cond.code x code maxLocals ret :: tables_1) room_1).applies x e0.platform about1 = true :=
  (Spec.applies_iff w_frames).mpr ⟨w_running, w_runnable, w_alone, w_named, w_hears, w_ripe, w_room, w_tables⟩
theorem atStart : AtStart classFile x code maxLocals ret World_1 tables_1 room_1 Calls_1 rest_1 Pre_1 launch0 p0 e0 about1 theMethod args0 below0 :=
  ⟨lists_1, trivial, launch0.admits_env _ _ _, launch0.least_env, fairChoices_fair.cas, fairChoices_fair.clock, w_frames, w_args, w_heap, w_applies, trivial, trivial, w_case⟩
end start1
theorem witness_1 : WitnessClaimed_1 := ⟨start1.p0, start1.e0, start1.about1, start1.theMethod, start1.args0, start1.below0, start1.atStart⟩
end Jvm.Pilot.@@N@@
