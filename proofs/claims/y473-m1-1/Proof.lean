import JvmDerived
import JvmDerived.Pilot.@@N@@Statement
import JvmDerived.Pilot.@@N@@Code
set_option linter.unusedVariables false
set_option linter.unusedSimpArgs false
@@BLOCK:NumsL.lean.txt@@
namespace Jvm.Own
open Jvm Jvm.ClassFile Sem Op Lib Jvm.Free Jvm.Stand Jvm.LawKit Jvm.RoadKit
/-! THE WALKER's LAYER: 'B.G h cl sl g': from every place where the walk stands over the heap h with the frame g (cl cells, sl slots made), the method returns as its contract says. One law a step, backwards. -/
/-- written places lie in cells of ws or in new cells -/
def Frw (ws : List Addr) (k : Nat) (L : List Loc) : Prop := ∀ y ∈ L, y.base ∈ ws ∨ k ≤ y.base
/-- what a contract says at the end -/
def Qw (C : Option Value → Heap → Prop) (ws : List Addr) (h0 : Heap) (v : Option Value) (h : Heap) (L : List Loc) : Prop := C v h ∧ Frw ws h0.size L ∧ Keep h0 h ws
/-- a contract: called with the arguments as over the heap h0, it returns, as C says, writing in ws or in new cells alone -/
def Met (l : Launch) (Z : State) (y : MethodName) (bytes : ByteArray) (maxL : Nat) (ret : Option FieldType) (wds : List Jvm.Cond) (rm : Room) (as : Array Value) (h0 : Heap) (ws : List Addr) (C : Option Value → Heap → Prop) : Prop :=
  MetFree l y (head1 (Jvm.Cond.code y bytes maxL ret :: wds) rm) (fun a U => a = as ∧ Z.Warmed39 U.vm ∧ U.heap = h0) (fun _ _ _ _ _ => True) (fun _ U o U' => ∃ v L, o = .returned v ∧ Qw C ws h0 v U'.heap L ∧ FrameEnd U o U' L rm.cells rm.slots)
/-- what stands still through a body's walk -/
def Base (p : Program) (l : Launch) (e : Env) (R : Room) (s : State) (m : MethodId) (args : Array Value) (below : List Frame) (meth : Method) (c : Code) (Z : State) (y : MethodName) (bytes : ByteArray) (maxL : Nat) (ret : Option FieldType) (h0 : Heap) (ws : List Addr) (C : Option Value → Heap → Prop) : Prop :=
  p.tables.exec = Jvm.exec ∧ c.code = bytes ∧ c.maxLocals = maxL ∧ Z.Warmed39 s.vm ∧ s.vm.findClass y.cls = some m.cls ∧ meth.sig.returnType = ret ∧ meth.locks = false ∧ meth.name = y.name ∧ s.heap = h0
section Walk
variable {p : Program} {l : Launch} {e : Env} {R : Room} {s : State} {m : MethodId} {args : Array Value} {below : List Frame} {meth : Method} {c : Code} {Z : State} {a0 : Array Value} {y : MethodName} {bytes : ByteArray} {maxL : Nat} {ret : Option FieldType} {h0 : Heap} {ws : List Addr} {C : Option Value → Heap → Prop}
/-- from here the method returns as its contract says -/
def Base.G (B : Base p l e R s m args below meth c Z y bytes maxL ret h0 ws C) (h : Heap) (cl sl : Nat) (g : JFrame) : Prop :=
  ∀ (T : State) (locs : List Loc), Stand p l e R s m args below meth c T locs cl sl → Frw ws h0.size locs → T.heap = h → ∃ (t : State) (o : Outcome), Steps p.tables e below (T.setTop g) t ∧ t.status = .running ∧ Ended t below o ∧ ∃ v L, o = .returned v ∧ Qw C ws h0 v t.heap L ∧ FrameEnd s o t L R.cells R.slots
variable {h : Heap} {cl sl : Nat} {g g' : JFrame} {pc : Nat} {Ls : Array Slot} {st : List Value}
theorem Base.via (B : Base p l e R s m args below meth c Z y bytes maxL ret h0 ws C) (st : ∀ (T t : State), At T m c below → Steps p.tables e below (T.setTop g') t → Steps p.tables e below (T.setTop g) t) (k : B.G h cl sl g') : B.G h cl sl g := fun T locs X N eT => by
  obtain ⟨t, o, q, r⟩ := k T locs X N eT
  exact ⟨t, o, st T t X.here q, r⟩
theorem Base.viaX (B : Base p l e R s m args below meth c Z y bytes maxL ret h0 ws C) (st : ∀ (T t : State) (locs : List Loc), Stand p l e R s m args below meth c T locs cl sl → T.heap = h → Steps p.tables e below (T.setTop g') t → Steps p.tables e below (T.setTop g) t) (k : B.G h cl sl g') : B.G h cl sl g := fun T locs X N eT => by
  obtain ⟨t, o, q, r⟩ := k T locs X N eT
  exact ⟨t, o, st T t locs X eT q, r⟩
theorem Frw.nil (ws : List Addr) (k : Nat) : Frw ws k [] := fun _ q => nomatch q
theorem Frw.app {k : Nat} {L L' : List Loc} (N : Frw ws k L) (N' : Frw ws k L') : Frw ws k (L ++ L') := fun y q => (List.mem_append.mp q).elim (N y) (N' y)
theorem Frw.one {k : Nat} {L : List Loc} {a : Addr} {i : Nat} (N : Frw ws k L) (q : a ∈ ws ∨ k ≤ a) : Frw ws k (L ++ [⟨a, i⟩]) := N.app fun y hy => by cases List.mem_singleton.mp hy; exact q
theorem keep_of {T : State} {locs : List Loc} (X : Stand p l e R s m args below meth c T locs cl sl) (N : Frw ws s.heap.size locs) : Keep s.heap T.heap ws := by
  obtain ⟨-, h1, -, -, -, h2⟩ := X.same
  refine ⟨h1, fun x cc hc hn => ?_, fun x cc hc => ?_⟩
  · obtain ⟨c', e1, e2, e3, e4⟩ := h2 x cc hc
    have hlt := (Array.getElem?_eq_some_iff.mp hc).1
    have q : c'.slots = cc.slots := Array.ext_getElem? fun i => e4 i fun hm => by
      rcases N _ hm with z | z
      · exact hn z
      · exact absurd hlt (Nat.not_lt.mpr z)
    have e1' : T.heap[x]? = some c' := e1
    rw [e1', e2, q]
  · obtain ⟨c', e1, e2, e3, -⟩ := h2 x cc hc
    exact ⟨c', e1, by rw [e2], by rw [e2], e3⟩
theorem Met.walk (hpn : plainFor y = true) {as : Array Value} {rm : Room} {wds : List Jvm.Cond} (hef : ∀ m, entryFrame m as maxL = mkF m 0 Ls [])
    (body : ∀ (p : Program) (e : Env) (s : State) (m : MethodId) (below : List Frame) (meth : Method) (c : Code) (B : Base p l e rm s m as below meth c Z y bytes maxL ret h0 ws C), B.G h0 0 0 (mkF m 0 Ls [])) : Met l Z y bytes maxL ret wds rm as h0 ws C := by
  refine MetFree.of_bodySF hpn hisR ?_
  intro p e s m args below meth c s₁ Bd hml0 hP hK
  obtain ⟨rfl, hZ, hh⟩ := hP
  have X0 : Stand p l e rm s m args below meth c s₁ [] 0 0 := Stand.of_body Bd
  have e0 : s₁.heap = h0 := by rw [← hh, Bd.state]; rfl
  obtain ⟨t, o, q, r⟩ := body p e s m below meth c ⟨Bd.exec, Bd.bytes, hml0, hZ, findClass_of_methodNamed Bd.named, Bd.returns, Bd.notSynchronized, (name_of_methodNamed Bd.named Bd.method).1, hh⟩ s₁ [] X0 (Frw.nil _ _) e0
  exact ⟨t, o, castTop (hef m) q, r⟩
theorem Met.mono {as : Array Value} {rm : Room} {wds : List Jvm.Cond} {C' : Option Value → Heap → Prop} (M : Met l Z y bytes maxL ret wds rm as h0 ws C) (q : ∀ v h, C v h → C' v h) : Met l Z y bytes maxL ret wds rm as h0 ws C' := by
  intro p e ha hc hk s m args below hf happ hP hK
  obtain ⟨n, o, q1, q2, q3, v, L, q4, ⟨r1, r2⟩, q5⟩ := M p e ha hc hk s m args below hf happ hP hK
  exact ⟨n, o, q1, q2, q3, v, L, q4, ⟨q _ _ r1, r2⟩, q5⟩
/-! 1. steps that touch no heap -/
theorem Base.aloadN (B : Base p l e R s m args below meth c Z y bytes maxL ret h0 ws C) (pc' : Nat) (hp : pc' = pc + 1) {i : Fin 4} (hd : decode bytes pc = .ok (.aload_n i, 1)) {v : Value} (hl : Ls[i.val]? = some (.val v)) (hv : v.isRef = true) (k : B.G h cl sl (mkF m pc' Ls (v :: st))) : B.G h cl sl (mkF m pc Ls st) := by
  subst hp; exact B.via (fun T t X r => XS.aloadN X B.1 rfl (hb B.2.1 hd) hl hv r) k
theorem Base.aload (B : Base p l e R s m args below meth c Z y bytes maxL ret h0 ws C) (pc' : Nat) (hp : pc' = pc + 2) {i : Nat} (hd : decode bytes pc = .ok (.aload i, 2)) {v : Value} (hl : Ls[i]? = some (.val v)) (hv : v.isRef = true) (k : B.G h cl sl (mkF m pc' Ls (v :: st))) : B.G h cl sl (mkF m pc Ls st) := by
  subst hp; exact B.via (fun T t X r => XS.aload X B.1 rfl (hb B.2.1 hd) hl hv r) k
theorem Base.iloadN (B : Base p l e R s m args below meth c Z y bytes maxL ret h0 ws C) (pc' : Nat) (hp : pc' = pc + 1) {i : Fin 4} (hd : decode bytes pc = .ok (.iload_n i, 1)) {v : Int32} (hl : Ls[i.val]? = some (.val (.int v))) (k : B.G h cl sl (mkF m pc' Ls (.int v :: st))) : B.G h cl sl (mkF m pc Ls st) := by
  subst hp; exact B.via (fun T t X r => XS.iloadN X B.1 rfl (hb B.2.1 hd) hl r) k
theorem Base.iload (B : Base p l e R s m args below meth c Z y bytes maxL ret h0 ws C) (pc' : Nat) (hp : pc' = pc + 2) {i : Nat} (hd : decode bytes pc = .ok (.iload i, 2)) {v : Int32} (hl : Ls[i]? = some (.val (.int v))) (k : B.G h cl sl (mkF m pc' Ls (.int v :: st))) : B.G h cl sl (mkF m pc Ls st) := by
  subst hp; exact B.via (fun T t X r => XS.iload X B.1 rfl (hb B.2.1 hd) hl r) k
theorem Base.lloadN (B : Base p l e R s m args below meth c Z y bytes maxL ret h0 ws C) (pc' : Nat) (hp : pc' = pc + 1) {i : Fin 4} (hd : decode bytes pc = .ok (.lload_n i, 1)) {v : Int64} (hl : Ls[i.val]? = some (.val (.long v))) (k : B.G h cl sl (mkF m pc' Ls (.long v :: st))) : B.G h cl sl (mkF m pc Ls st) := by
  subst hp; exact B.via (fun T t X r => XT.lloadN X B.1 rfl (hb B.2.1 hd) hl r) k
theorem Base.lload (B : Base p l e R s m args below meth c Z y bytes maxL ret h0 ws C) (pc' : Nat) (hp : pc' = pc + 2) {i : Nat} (hd : decode bytes pc = .ok (.lload i, 2)) {v : Int64} (hl : Ls[i]? = some (.val (.long v))) (k : B.G h cl sl (mkF m pc' Ls (.long v :: st))) : B.G h cl sl (mkF m pc Ls st) := by
  subst hp; exact B.via (fun T t X r => XT.lload X B.1 rfl (hb B.2.1 hd) hl r) k
theorem Base.istoreN (B : Base p l e R s m args below meth c Z y bytes maxL ret h0 ws C) (pc' : Nat) (hp : pc' = pc + 1) {i : Fin 4} {x : Int32} (hd : decode bytes pc = .ok (.istore_n i, 1)) (Ls' : Array Slot) (hl : storeLocals Ls i.val (.int x) = some Ls') (k : B.G h cl sl (mkF m pc' Ls' st)) : B.G h cl sl (mkF m pc Ls (.int x :: st)) := by
  subst hp; exact B.via (fun T t X r => XS.istoreN X B.1 rfl (hb B.2.1 hd) rfl hl r) k
theorem Base.istore (B : Base p l e R s m args below meth c Z y bytes maxL ret h0 ws C) (pc' : Nat) (hp : pc' = pc + 2) {i : Nat} {x : Int32} (hd : decode bytes pc = .ok (.istore i, 2)) (Ls' : Array Slot) (hl : storeLocals Ls i (.int x) = some Ls') (k : B.G h cl sl (mkF m pc' Ls' st)) : B.G h cl sl (mkF m pc Ls (.int x :: st)) := by
  subst hp; exact B.via (fun T t X r => XS.istore X B.1 rfl (hb B.2.1 hd) rfl hl r) k
theorem Base.lstoreN (B : Base p l e R s m args below meth c Z y bytes maxL ret h0 ws C) (pc' : Nat) (hp : pc' = pc + 1) {i : Fin 4} {x : Int64} (hd : decode bytes pc = .ok (.lstore_n i, 1)) (Ls' : Array Slot) (hl : storeLocals Ls i.val (.long x) = some Ls') (k : B.G h cl sl (mkF m pc' Ls' st)) : B.G h cl sl (mkF m pc Ls (.long x :: st)) := by
  subst hp; exact B.via (fun T t X r => XT.lstoreN X B.1 rfl (hb B.2.1 hd) rfl hl r) k
theorem Base.lstore (B : Base p l e R s m args below meth c Z y bytes maxL ret h0 ws C) (pc' : Nat) (hp : pc' = pc + 2) {i : Nat} {x : Int64} (hd : decode bytes pc = .ok (.lstore i, 2)) (Ls' : Array Slot) (hl : storeLocals Ls i (.long x) = some Ls') (k : B.G h cl sl (mkF m pc' Ls' st)) : B.G h cl sl (mkF m pc Ls (.long x :: st)) := by
  subst hp; exact B.via (fun T t X r => XT.lstore X B.1 rfl (hb B.2.1 hd) rfl hl r) k
theorem Base.astoreN (B : Base p l e R s m args below meth c Z y bytes maxL ret h0 ws C) (pc' : Nat) (hp : pc' = pc + 1) {i : Fin 4} {x : Value} (hd : decode bytes pc = .ok (.astore_n i, 1)) (hv : x.isRef = true) (Ls' : Array Slot) (hl : storeLocals Ls i.val x = some Ls') (k : B.G h cl sl (mkF m pc' Ls' st)) : B.G h cl sl (mkF m pc Ls (x :: st)) := by
  subst hp; exact B.via (fun T t X r => XS.astoreN X B.1 rfl (hb B.2.1 hd) rfl hv hl r) k
theorem Base.astore (B : Base p l e R s m args below meth c Z y bytes maxL ret h0 ws C) (pc' : Nat) (hp : pc' = pc + 2) {i : Nat} {x : Value} (hd : decode bytes pc = .ok (.astore i, 2)) (hv : x.isRef = true) (Ls' : Array Slot) (hl : storeLocals Ls i x = some Ls') (k : B.G h cl sl (mkF m pc' Ls' st)) : B.G h cl sl (mkF m pc Ls (x :: st)) := by
  subst hp; exact B.via (fun T t X r => XS.astore X B.1 rfl (hb B.2.1 hd) rfl hv hl r) k
theorem Base.iinc (B : Base p l e R s m args below meth c Z y bytes maxL ret h0 ws C) (pc' : Nat) (hp : pc' = pc + 3) {i : Nat} {cst : Int} (v : Int32) {x : Int32} (hd : decode bytes pc = .ok (.iinc i cst, 3)) (hv : Int32.ofInt cst = v) (hl : Ls[i]? = some (.val (.int x))) (Ls' : Array Slot) (hl' : storeLocals Ls i (.int (x + v)) = some Ls') (k : B.G h cl sl (mkF m pc' Ls' st)) : B.G h cl sl (mkF m pc Ls st) := by
  subst hp hv; exact B.via (fun T t X r => XS.iinc X B.1 rfl (hb B.2.1 hd) hl hl' r) k
theorem Base.iconst (B : Base p l e R s m args below meth c Z y bytes maxL ret h0 ws C) (pc' : Nat) (hp : pc' = pc + 1) {i : Int} (v : Int32) (hd : decode bytes pc = .ok (.iconst i, 1)) (hv : Int32.ofInt i = v) (k : B.G h cl sl (mkF m pc' Ls (.int v :: st))) : B.G h cl sl (mkF m pc Ls st) := by
  subst hp hv; exact B.via (fun T t X r => XS.iconst X B.1 rfl (hb B.2.1 hd) r) k
theorem Base.bipush (B : Base p l e R s m args below meth c Z y bytes maxL ret h0 ws C) (pc' : Nat) (hp : pc' = pc + 2) {i : Int} (v : Int32) (hd : decode bytes pc = .ok (.bipush i, 2)) (hv : (Int8.ofInt i).toInt32 = v) (k : B.G h cl sl (mkF m pc' Ls (.int v :: st))) : B.G h cl sl (mkF m pc Ls st) := by
  subst hp hv; exact B.via (fun T t X r => XS.bipush X B.1 rfl (hb B.2.1 hd) r) k
theorem Base.sipush (B : Base p l e R s m args below meth c Z y bytes maxL ret h0 ws C) (pc' : Nat) (hp : pc' = pc + 3) {i : Int} (v : Int32) (hd : decode bytes pc = .ok (.sipush i, 3)) (hv : (Int16.ofInt i).toInt32 = v) (k : B.G h cl sl (mkF m pc' Ls (.int v :: st))) : B.G h cl sl (mkF m pc Ls st) := by
  subst hp hv; exact B.via (fun T t X r => XS.sipush X B.1 rfl (hb B.2.1 hd) r) k
theorem Base.lconst (B : Base p l e R s m args below meth c Z y bytes maxL ret h0 ws C) (pc' : Nat) (hp : pc' = pc + 1) {i : Fin 2} (v : Int64) (hd : decode bytes pc = .ok (.lconst i, 1)) (hv : Int64.ofNat i = v) (k : B.G h cl sl (mkF m pc' Ls (.long v :: st))) : B.G h cl sl (mkF m pc Ls st) := by
  subst hp hv; exact B.via (fun T t X r => XT.lconst X B.1 rfl (hb B.2.1 hd) r) k
theorem Base.aconstNull (B : Base p l e R s m args below meth c Z y bytes maxL ret h0 ws C) (pc' : Nat) (hp : pc' = pc + 1) (hd : decode bytes pc = .ok (.aconst_null, 1)) (k : B.G h cl sl (mkF m pc' Ls (.null :: st))) : B.G h cl sl (mkF m pc Ls st) := by
  subst hp; exact B.via (fun T t X r => XS.aconstNull X B.1 rfl (hb B.2.1 hd) r) k
theorem Base.ldcI (B : Base p l e R s m args below meth c Z y bytes maxL ret h0 ws C) (pc' : Nat) (hp : pc' = pc + 2) {i : Nat} {v : Int32} (hd : decode bytes pc = .ok (.ldc i, 2)) (w : (Cond.constant y.cls i v).before a0 Z = true) (k : B.G h cl sl (mkF m pc' Ls (.int v :: st))) : B.G h cl sl (mkF m pc Ls st) := by
  subst hp; exact B.viaX (fun T t L X _ r => X.ldcI B.1 B.2.2.2.2.1 (mv B.2.2.2.1 w) rfl (hb B.2.1 hd) r) k
theorem Base.ldcWI (B : Base p l e R s m args below meth c Z y bytes maxL ret h0 ws C) (pc' : Nat) (hp : pc' = pc + 3) {i : Nat} {v : Int32} (hd : decode bytes pc = .ok (.ldc_w i, 3)) (w : (Cond.constant y.cls i v).before a0 Z = true) (k : B.G h cl sl (mkF m pc' Ls (.int v :: st))) : B.G h cl sl (mkF m pc Ls st) := by
  subst hp; exact B.viaX (fun T t L X _ r => X.ldcWI B.1 B.2.2.2.2.1 (mv B.2.2.2.1 w) rfl (hb B.2.1 hd) r) k
theorem Base.ldc2J (B : Base p l e R s m args below meth c Z y bytes maxL ret h0 ws C) (pc' : Nat) (hp : pc' = pc + 3) {i : Nat} {v : Int64} (hd : decode bytes pc = .ok (.ldc2_w i, 3)) (w : (Cond.constantLong y.cls i v).before a0 Z = true) (k : B.G h cl sl (mkF m pc' Ls (.long v :: st))) : B.G h cl sl (mkF m pc Ls st) := by
  subst hp; exact B.viaX (fun T t L X _ r => X.ldc2J B.1 B.2.2.2.2.1 (mv B.2.2.2.1 w) rfl (hb B.2.1 hd) r) k
theorem Base.goto (B : Base p l e R s m args below meth c Z y bytes maxL ret h0 ws C) (pc' : Nat) {o : Int} (hp : ((pc : Int) + o).toNat = pc') (ho : 0 ≤ (pc : Int) + o) (hd : decode bytes pc = .ok (.goto o, 3)) (k : B.G h cl sl (mkF m pc' Ls st)) : B.G h cl sl (mkF m pc Ls st) :=
  B.via (fun T t X r => XS.goto X B.1 rfl rfl (hb B.2.1 hd) ho hp r) k
theorem Base.dup (B : Base p l e R s m args below meth c Z y bytes maxL ret h0 ws C) (pc' : Nat) (hp : pc' = pc + 1) {x : Value} (hd : decode bytes pc = .ok (.dup, 1)) (hc : x.category = 1) (k : B.G h cl sl (mkF m pc' Ls (x :: x :: st))) : B.G h cl sl (mkF m pc Ls (x :: st)) := by
  subst hp; exact B.via (fun T t X r => XS.dup X B.1 rfl (hb B.2.1 hd) rfl hc r) k
theorem Base.pop (B : Base p l e R s m args below meth c Z y bytes maxL ret h0 ws C) (pc' : Nat) (hp : pc' = pc + 1) {x : Value} (hd : decode bytes pc = .ok (.pop, 1)) (hc : x.category = 1) (k : B.G h cl sl (mkF m pc' Ls st)) : B.G h cl sl (mkF m pc Ls (x :: st)) := by
  subst hp; exact B.via (fun T t X r => XT.pop X B.1 rfl (hb B.2.1 hd) rfl hc r) k
theorem Base.dupX1 (B : Base p l e R s m args below meth c Z y bytes maxL ret h0 ws C) (pc' : Nat) (hp : pc' = pc + 1) {x z : Value} (hd : decode bytes pc = .ok (.dup_x1, 1)) (hc : x.category = 1) (hc' : z.category = 1) (k : B.G h cl sl (mkF m pc' Ls (x :: z :: x :: st))) : B.G h cl sl (mkF m pc Ls (x :: z :: st)) := by
  subst hp; exact B.via (fun T t X r => XT.dupX1 X B.1 rfl (hb B.2.1 hd) rfl hc hc' r) k
theorem Base.dup2 (B : Base p l e R s m args below meth c Z y bytes maxL ret h0 ws C) (pc' : Nat) (hp : pc' = pc + 1) {x z : Value} (hd : decode bytes pc = .ok (.dup2, 1)) (hc : x.category = 1) (hc' : z.category = 1) (k : B.G h cl sl (mkF m pc' Ls (x :: z :: x :: z :: st))) : B.G h cl sl (mkF m pc Ls (x :: z :: st)) := by
  subst hp; exact B.via (fun T t X r => XT.dup2 X B.1 rfl (hb B.2.1 hd) rfl hc hc' r) k
theorem Base.iadd (B : Base p l e R s m args below meth c Z y bytes maxL ret h0 ws C) (pc' : Nat) (hp : pc' = pc + 1) {x : Int32} {z : Int32} (hd : decode bytes pc = .ok (.iadd, 1)) (k : B.G h cl sl (mkF m pc' Ls (.int (x + z) :: st))) : B.G h cl sl (mkF m pc Ls (.int z :: .int x :: st)) := by
  subst hp; exact B.via (fun T t X r => XS.iadd X B.1 rfl (hb B.2.1 hd) rfl r) k
theorem Base.isub (B : Base p l e R s m args below meth c Z y bytes maxL ret h0 ws C) (pc' : Nat) (hp : pc' = pc + 1) {x : Int32} {z : Int32} (hd : decode bytes pc = .ok (.isub, 1)) (k : B.G h cl sl (mkF m pc' Ls (.int (x - z) :: st))) : B.G h cl sl (mkF m pc Ls (.int z :: .int x :: st)) := by
  subst hp; exact B.via (fun T t X r => XS.isub X B.1 rfl (hb B.2.1 hd) rfl r) k
theorem Base.iand (B : Base p l e R s m args below meth c Z y bytes maxL ret h0 ws C) (pc' : Nat) (hp : pc' = pc + 1) {x : Int32} {z : Int32} (hd : decode bytes pc = .ok (.iand, 1)) (k : B.G h cl sl (mkF m pc' Ls (.int (x &&& z) :: st))) : B.G h cl sl (mkF m pc Ls (.int z :: .int x :: st)) := by
  subst hp; exact B.via (fun T t X r => XS.iand X B.1 rfl (hb B.2.1 hd) rfl r) k
theorem Base.imul (B : Base p l e R s m args below meth c Z y bytes maxL ret h0 ws C) (pc' : Nat) (hp : pc' = pc + 1) {x : Int32} {z : Int32} (hd : decode bytes pc = .ok (.imul, 1)) (k : B.G h cl sl (mkF m pc' Ls (.int (x * z) :: st))) : B.G h cl sl (mkF m pc Ls (.int z :: .int x :: st)) := by
  subst hp; exact B.via (fun T t X r => XS.imul X B.1 rfl (hb B.2.1 hd) rfl r) k
theorem Base.ixor (B : Base p l e R s m args below meth c Z y bytes maxL ret h0 ws C) (pc' : Nat) (hp : pc' = pc + 1) {x : Int32} {z : Int32} (hd : decode bytes pc = .ok (.ixor, 1)) (k : B.G h cl sl (mkF m pc' Ls (.int (x ^^^ z) :: st))) : B.G h cl sl (mkF m pc Ls (.int z :: .int x :: st)) := by
  subst hp; exact B.via (fun T t X r => XT.ixor X B.1 rfl (hb B.2.1 hd) rfl r) k
theorem Base.ior (B : Base p l e R s m args below meth c Z y bytes maxL ret h0 ws C) (pc' : Nat) (hp : pc' = pc + 1) {x : Int32} {z : Int32} (hd : decode bytes pc = .ok (.ior, 1)) (k : B.G h cl sl (mkF m pc' Ls (.int (x ||| z) :: st))) : B.G h cl sl (mkF m pc Ls (.int z :: .int x :: st)) := by
  subst hp; exact B.via (fun T t X r => XT.ior X B.1 rfl (hb B.2.1 hd) rfl r) k
theorem Base.ishl (B : Base p l e R s m args below meth c Z y bytes maxL ret h0 ws C) (pc' : Nat) (hp : pc' = pc + 1) {x : Int32} {z : Int32} (hd : decode bytes pc = .ok (.ishl, 1)) (k : B.G h cl sl (mkF m pc' Ls (.int (x <<< (z &&& 31)) :: st))) : B.G h cl sl (mkF m pc Ls (.int z :: .int x :: st)) := by
  subst hp; exact B.via (fun T t X r => XT.ishl X B.1 rfl (hb B.2.1 hd) rfl r) k
theorem Base.ishr (B : Base p l e R s m args below meth c Z y bytes maxL ret h0 ws C) (pc' : Nat) (hp : pc' = pc + 1) {x : Int32} {z : Int32} (hd : decode bytes pc = .ok (.ishr, 1)) (k : B.G h cl sl (mkF m pc' Ls (.int (x >>> (z &&& 31)) :: st))) : B.G h cl sl (mkF m pc Ls (.int z :: .int x :: st)) := by
  subst hp; exact B.via (fun T t X r => XT.ishr X B.1 rfl (hb B.2.1 hd) rfl r) k
theorem Base.iushr (B : Base p l e R s m args below meth c Z y bytes maxL ret h0 ws C) (pc' : Nat) (hp : pc' = pc + 1) {x : Int32} {z : Int32} (hd : decode bytes pc = .ok (.iushr, 1)) (k : B.G h cl sl (mkF m pc' Ls (.int (XT.ushr x z) :: st))) : B.G h cl sl (mkF m pc Ls (.int z :: .int x :: st)) := by
  subst hp; exact B.via (fun T t X r => XT.iushr X B.1 rfl (hb B.2.1 hd) rfl r) k
theorem Base.ladd (B : Base p l e R s m args below meth c Z y bytes maxL ret h0 ws C) (pc' : Nat) (hp : pc' = pc + 1) {x : Int64} {z : Int64} (hd : decode bytes pc = .ok (.ladd, 1)) (k : B.G h cl sl (mkF m pc' Ls (.long (x + z) :: st))) : B.G h cl sl (mkF m pc Ls (.long z :: .long x :: st)) := by
  subst hp; exact B.via (fun T t X r => XT.ladd X B.1 rfl (hb B.2.1 hd) rfl r) k
theorem Base.lsub (B : Base p l e R s m args below meth c Z y bytes maxL ret h0 ws C) (pc' : Nat) (hp : pc' = pc + 1) {x : Int64} {z : Int64} (hd : decode bytes pc = .ok (.lsub, 1)) (k : B.G h cl sl (mkF m pc' Ls (.long (x - z) :: st))) : B.G h cl sl (mkF m pc Ls (.long z :: .long x :: st)) := by
  subst hp; exact B.via (fun T t X r => XT.lsub X B.1 rfl (hb B.2.1 hd) rfl r) k
theorem Base.lmul (B : Base p l e R s m args below meth c Z y bytes maxL ret h0 ws C) (pc' : Nat) (hp : pc' = pc + 1) {x : Int64} {z : Int64} (hd : decode bytes pc = .ok (.lmul, 1)) (k : B.G h cl sl (mkF m pc' Ls (.long (x * z) :: st))) : B.G h cl sl (mkF m pc Ls (.long z :: .long x :: st)) := by
  subst hp; exact B.via (fun T t X r => XT.lmul X B.1 rfl (hb B.2.1 hd) rfl r) k
theorem Base.land (B : Base p l e R s m args below meth c Z y bytes maxL ret h0 ws C) (pc' : Nat) (hp : pc' = pc + 1) {x : Int64} {z : Int64} (hd : decode bytes pc = .ok (.land, 1)) (k : B.G h cl sl (mkF m pc' Ls (.long (x &&& z) :: st))) : B.G h cl sl (mkF m pc Ls (.long z :: .long x :: st)) := by
  subst hp; exact B.via (fun T t X r => XT.land X B.1 rfl (hb B.2.1 hd) rfl r) k
theorem Base.lor (B : Base p l e R s m args below meth c Z y bytes maxL ret h0 ws C) (pc' : Nat) (hp : pc' = pc + 1) {x : Int64} {z : Int64} (hd : decode bytes pc = .ok (.lor, 1)) (k : B.G h cl sl (mkF m pc' Ls (.long (x ||| z) :: st))) : B.G h cl sl (mkF m pc Ls (.long z :: .long x :: st)) := by
  subst hp; exact B.via (fun T t X r => XT.lor X B.1 rfl (hb B.2.1 hd) rfl r) k
theorem Base.lxor (B : Base p l e R s m args below meth c Z y bytes maxL ret h0 ws C) (pc' : Nat) (hp : pc' = pc + 1) {x : Int64} {z : Int64} (hd : decode bytes pc = .ok (.lxor, 1)) (k : B.G h cl sl (mkF m pc' Ls (.long (x ^^^ z) :: st))) : B.G h cl sl (mkF m pc Ls (.long z :: .long x :: st)) := by
  subst hp; exact B.via (fun T t X r => XT.lxor X B.1 rfl (hb B.2.1 hd) rfl r) k
theorem Base.lshl (B : Base p l e R s m args below meth c Z y bytes maxL ret h0 ws C) (pc' : Nat) (hp : pc' = pc + 1) {x : Int64} {z : Int32} (hd : decode bytes pc = .ok (.lshl, 1)) (k : B.G h cl sl (mkF m pc' Ls (.long (x <<< (z.toInt64 &&& 63)) :: st))) : B.G h cl sl (mkF m pc Ls (.int z :: .long x :: st)) := by
  subst hp; exact B.via (fun T t X r => XT.lshl X B.1 rfl (hb B.2.1 hd) rfl r) k
theorem Base.lshr (B : Base p l e R s m args below meth c Z y bytes maxL ret h0 ws C) (pc' : Nat) (hp : pc' = pc + 1) {x : Int64} {z : Int32} (hd : decode bytes pc = .ok (.lshr, 1)) (k : B.G h cl sl (mkF m pc' Ls (.long (x >>> (z.toInt64 &&& 63)) :: st))) : B.G h cl sl (mkF m pc Ls (.int z :: .long x :: st)) := by
  subst hp; exact B.via (fun T t X r => XT.lshr X B.1 rfl (hb B.2.1 hd) rfl r) k
theorem Base.lushr (B : Base p l e R s m args below meth c Z y bytes maxL ret h0 ws C) (pc' : Nat) (hp : pc' = pc + 1) {x : Int64} {z : Int32} (hd : decode bytes pc = .ok (.lushr, 1)) (k : B.G h cl sl (mkF m pc' Ls (.long (XT.ushrL x z) :: st))) : B.G h cl sl (mkF m pc Ls (.int z :: .long x :: st)) := by
  subst hp; exact B.via (fun T t X r => XT.lushr X B.1 rfl (hb B.2.1 hd) rfl r) k
theorem Base.lcmp (B : Base p l e R s m args below meth c Z y bytes maxL ret h0 ws C) (pc' : Nat) (hp : pc' = pc + 1) {x : Int64} {z : Int64} (hd : decode bytes pc = .ok (.lcmp, 1)) (k : B.G h cl sl (mkF m pc' Ls (.int (XT.cmpL x z) :: st))) : B.G h cl sl (mkF m pc Ls (.long z :: .long x :: st)) := by
  subst hp; exact B.via (fun T t X r => XT.lcmp X B.1 rfl (hb B.2.1 hd) rfl r) k
theorem Base.idiv (B : Base p l e R s m args below meth c Z y bytes maxL ret h0 ws C) (pc' : Nat) (hp : pc' = pc + 1) {x : Int32} {z : Int32} (hd : decode bytes pc = .ok (.idiv, 1)) (hz : z ≠ 0) (k : B.G h cl sl (mkF m pc' Ls (.int (x / z) :: st))) : B.G h cl sl (mkF m pc Ls (.int z :: .int x :: st)) := by
  subst hp; exact B.via (fun T t X r => XS.idiv X B.1 rfl (hb B.2.1 hd) rfl hz r) k
theorem Base.ldiv (B : Base p l e R s m args below meth c Z y bytes maxL ret h0 ws C) (pc' : Nat) (hp : pc' = pc + 1) {x : Int64} {z : Int64} (hd : decode bytes pc = .ok (.ldiv, 1)) (hz : z ≠ 0) (k : B.G h cl sl (mkF m pc' Ls (.long (x / z) :: st))) : B.G h cl sl (mkF m pc Ls (.long z :: .long x :: st)) := by
  subst hp; exact B.via (fun T t X r => XT.ldiv X B.1 rfl (hb B.2.1 hd) rfl hz r) k
theorem Base.irem (B : Base p l e R s m args below meth c Z y bytes maxL ret h0 ws C) (pc' : Nat) (hp : pc' = pc + 1) {x z : Int32} (hd : decode bytes pc = .ok (.irem, 1)) (hz : z ≠ 0) (k : B.G h cl sl (mkF m pc' Ls (.int (x % z) :: st))) : B.G h cl sl (mkF m pc Ls (.int z :: .int x :: st)) := by
  subst hp; exact B.viaX (fun T t L X _ r => iremM X B.1 rfl (hb B.2.1 hd) rfl hz r) k
theorem Base.ineg (B : Base p l e R s m args below meth c Z y bytes maxL ret h0 ws C) (pc' : Nat) (hp : pc' = pc + 1) {x : Int32} (hd : decode bytes pc = .ok (.ineg, 1)) (k : B.G h cl sl (mkF m pc' Ls (.int (-x) :: st))) : B.G h cl sl (mkF m pc Ls (.int x :: st)) := by
  subst hp; exact B.via (fun T t X r => XS.ineg X B.1 rfl (hb B.2.1 hd) rfl r) k
theorem Base.lneg (B : Base p l e R s m args below meth c Z y bytes maxL ret h0 ws C) (pc' : Nat) (hp : pc' = pc + 1) {x : Int64} (hd : decode bytes pc = .ok (.lneg, 1)) (k : B.G h cl sl (mkF m pc' Ls (.long (-x) :: st))) : B.G h cl sl (mkF m pc Ls (.long x :: st)) := by
  subst hp; exact B.via (fun T t X r => XT.lneg X B.1 rfl (hb B.2.1 hd) rfl r) k
theorem Base.i2l (B : Base p l e R s m args below meth c Z y bytes maxL ret h0 ws C) (pc' : Nat) (hp : pc' = pc + 1) {x : Int32} (hd : decode bytes pc = .ok (.i2l, 1)) (k : B.G h cl sl (mkF m pc' Ls (.long (x.toInt64) :: st))) : B.G h cl sl (mkF m pc Ls (.int x :: st)) := by
  subst hp; exact B.via (fun T t X r => XT.i2l X B.1 rfl (hb B.2.1 hd) rfl r) k
theorem Base.l2i (B : Base p l e R s m args below meth c Z y bytes maxL ret h0 ws C) (pc' : Nat) (hp : pc' = pc + 1) {x : Int64} (hd : decode bytes pc = .ok (.l2i, 1)) (k : B.G h cl sl (mkF m pc' Ls (.int (x.toInt32) :: st))) : B.G h cl sl (mkF m pc Ls (.long x :: st)) := by
  subst hp; exact B.via (fun T t X r => XT.l2i X B.1 rfl (hb B.2.1 hd) rfl r) k
theorem Base.i2b (B : Base p l e R s m args below meth c Z y bytes maxL ret h0 ws C) (pc' : Nat) (hp : pc' = pc + 1) {x : Int32} (hd : decode bytes pc = .ok (.i2b, 1)) (k : B.G h cl sl (mkF m pc' Ls (.int (x.toInt8.toInt32) :: st))) : B.G h cl sl (mkF m pc Ls (.int x :: st)) := by
  subst hp; exact B.via (fun T t X r => XT.i2b X B.1 rfl (hb B.2.1 hd) rfl r) k
theorem Base.i2c (B : Base p l e R s m args below meth c Z y bytes maxL ret h0 ws C) (pc' : Nat) (hp : pc' = pc + 1) {x : Int32} (hd : decode bytes pc = .ok (.i2c, 1)) (k : B.G h cl sl (mkF m pc' Ls (.int (x.toUInt32.toUInt16.toUInt32.toInt32) :: st))) : B.G h cl sl (mkF m pc Ls (.int x :: st)) := by
  subst hp; exact B.via (fun T t X r => XT.i2c X B.1 rfl (hb B.2.1 hd) rfl r) k
theorem Base.i2s (B : Base p l e R s m args below meth c Z y bytes maxL ret h0 ws C) (pc' : Nat) (hp : pc' = pc + 1) {x : Int32} (hd : decode bytes pc = .ok (.i2s, 1)) (k : B.G h cl sl (mkF m pc' Ls (.int (x.toInt16.toInt32) :: st))) : B.G h cl sl (mkF m pc Ls (.int x :: st)) := by
  subst hp; exact B.via (fun T t X r => XT.i2s X B.1 rfl (hb B.2.1 hd) rfl r) k
theorem Base.icmp_eq (B : Base p l e R s m args below meth c Z y bytes maxL ret h0 ws C) (pt pf : Nat) {o : Int} (hpt : ((pc : Int) + o).toNat = pt) (ho : 0 ≤ (pc : Int) + o) (hpf : pf = pc + 3) {x z : Int32} (hd : decode bytes pc = .ok (.if_icmp .eq o, 3)) (kt : x = z → B.G h cl sl (mkF m pt Ls st)) (kf : ¬ x = z → B.G h cl sl (mkF m pf Ls st)) : B.G h cl sl (mkF m pc Ls (.int z :: .int x :: st)) := by
  subst hpt hpf
  by_cases q : x = z
  · exact B.via (fun T t X r => XS.icmpYes X B.1 rfl rfl (hb B.2.1 hd) rfl (XT.ii_eq_t q) ho rfl r) (kt q)
  · exact B.via (fun T t X r => XS.icmpNo X B.1 rfl (hb B.2.1 hd) rfl (XT.ii_eq_f q) r) (kf q)
theorem Base.if0_eq (B : Base p l e R s m args below meth c Z y bytes maxL ret h0 ws C) (pt pf : Nat) {o : Int} (hpt : ((pc : Int) + o).toNat = pt) (ho : 0 ≤ (pc : Int) + o) (hpf : pf = pc + 3) {x : Int32} (hd : decode bytes pc = .ok (.ifCond .eq o, 3)) (kt : x = 0 → B.G h cl sl (mkF m pt Ls st)) (kf : ¬ x = 0 → B.G h cl sl (mkF m pf Ls st)) : B.G h cl sl (mkF m pc Ls (.int x :: st)) := by
  subst hpt hpf
  by_cases q : x = 0
  · exact B.via (fun T t X r => XS.ifYes X B.1 rfl rfl (hb B.2.1 hd) rfl (XT.i0_eq_t q) ho rfl r) (kt q)
  · exact B.via (fun T t X r => XS.ifNo X B.1 rfl (hb B.2.1 hd) rfl (XT.i0_eq_f q) r) (kf q)
theorem Base.lif_eq (B : Base p l e R s m args below meth c Z y bytes maxL ret h0 ws C) (pt pf : Nat) {o : Int} (hpt : ((pc : Int) + o).toNat = pt) (ho : 0 ≤ (pc : Int) + o) (hpf : pf = pc + 3) {x z : Int64} (hd : decode bytes pc = .ok (.ifCond .eq o, 3)) (kt : x = z → B.G h cl sl (mkF m pt Ls st)) (kf : ¬ x = z → B.G h cl sl (mkF m pf Ls st)) : B.G h cl sl (mkF m pc Ls (.int (XT.cmpL x z) :: st)) := by
  subst hpt hpf
  by_cases q : x = z
  · exact B.via (fun T t X r => XS.ifYes X B.1 rfl rfl (hb B.2.1 hd) rfl (XT.ll_eq_t q) ho rfl r) (kt q)
  · exact B.via (fun T t X r => XS.ifNo X B.1 rfl (hb B.2.1 hd) rfl (XT.ll_eq_f q) r) (kf q)
theorem Base.icmp_ne (B : Base p l e R s m args below meth c Z y bytes maxL ret h0 ws C) (pt pf : Nat) {o : Int} (hpt : ((pc : Int) + o).toNat = pt) (ho : 0 ≤ (pc : Int) + o) (hpf : pf = pc + 3) {x z : Int32} (hd : decode bytes pc = .ok (.if_icmp .ne o, 3)) (kt : ¬ x = z → B.G h cl sl (mkF m pt Ls st)) (kf : x = z → B.G h cl sl (mkF m pf Ls st)) : B.G h cl sl (mkF m pc Ls (.int z :: .int x :: st)) := by
  subst hpt hpf
  by_cases q : x = z
  · exact B.via (fun T t X r => XS.icmpNo X B.1 rfl (hb B.2.1 hd) rfl (XT.ii_ne_f q) r) (kf q)
  · exact B.via (fun T t X r => XS.icmpYes X B.1 rfl rfl (hb B.2.1 hd) rfl (XT.ii_ne_t q) ho rfl r) (kt q)
theorem Base.if0_ne (B : Base p l e R s m args below meth c Z y bytes maxL ret h0 ws C) (pt pf : Nat) {o : Int} (hpt : ((pc : Int) + o).toNat = pt) (ho : 0 ≤ (pc : Int) + o) (hpf : pf = pc + 3) {x : Int32} (hd : decode bytes pc = .ok (.ifCond .ne o, 3)) (kt : ¬ x = 0 → B.G h cl sl (mkF m pt Ls st)) (kf : x = 0 → B.G h cl sl (mkF m pf Ls st)) : B.G h cl sl (mkF m pc Ls (.int x :: st)) := by
  subst hpt hpf
  by_cases q : x = 0
  · exact B.via (fun T t X r => XS.ifNo X B.1 rfl (hb B.2.1 hd) rfl (XT.i0_ne_f q) r) (kf q)
  · exact B.via (fun T t X r => XS.ifYes X B.1 rfl rfl (hb B.2.1 hd) rfl (XT.i0_ne_t q) ho rfl r) (kt q)
theorem Base.lif_ne (B : Base p l e R s m args below meth c Z y bytes maxL ret h0 ws C) (pt pf : Nat) {o : Int} (hpt : ((pc : Int) + o).toNat = pt) (ho : 0 ≤ (pc : Int) + o) (hpf : pf = pc + 3) {x z : Int64} (hd : decode bytes pc = .ok (.ifCond .ne o, 3)) (kt : ¬ x = z → B.G h cl sl (mkF m pt Ls st)) (kf : x = z → B.G h cl sl (mkF m pf Ls st)) : B.G h cl sl (mkF m pc Ls (.int (XT.cmpL x z) :: st)) := by
  subst hpt hpf
  by_cases q : x = z
  · exact B.via (fun T t X r => XS.ifNo X B.1 rfl (hb B.2.1 hd) rfl (XT.ll_ne_f q) r) (kf q)
  · exact B.via (fun T t X r => XS.ifYes X B.1 rfl rfl (hb B.2.1 hd) rfl (XT.ll_ne_t q) ho rfl r) (kt q)
theorem Base.icmp_lt (B : Base p l e R s m args below meth c Z y bytes maxL ret h0 ws C) (pt pf : Nat) {o : Int} (hpt : ((pc : Int) + o).toNat = pt) (ho : 0 ≤ (pc : Int) + o) (hpf : pf = pc + 3) {x z : Int32} (hd : decode bytes pc = .ok (.if_icmp .lt o, 3)) (kt : x < z → B.G h cl sl (mkF m pt Ls st)) (kf : ¬ x < z → B.G h cl sl (mkF m pf Ls st)) : B.G h cl sl (mkF m pc Ls (.int z :: .int x :: st)) := by
  subst hpt hpf
  by_cases q : x < z
  · exact B.via (fun T t X r => XS.icmpYes X B.1 rfl rfl (hb B.2.1 hd) rfl (XT.ii_lt_t q) ho rfl r) (kt q)
  · exact B.via (fun T t X r => XS.icmpNo X B.1 rfl (hb B.2.1 hd) rfl (XT.ii_lt_f q) r) (kf q)
theorem Base.if0_lt (B : Base p l e R s m args below meth c Z y bytes maxL ret h0 ws C) (pt pf : Nat) {o : Int} (hpt : ((pc : Int) + o).toNat = pt) (ho : 0 ≤ (pc : Int) + o) (hpf : pf = pc + 3) {x : Int32} (hd : decode bytes pc = .ok (.ifCond .lt o, 3)) (kt : x < 0 → B.G h cl sl (mkF m pt Ls st)) (kf : ¬ x < 0 → B.G h cl sl (mkF m pf Ls st)) : B.G h cl sl (mkF m pc Ls (.int x :: st)) := by
  subst hpt hpf
  by_cases q : x < 0
  · exact B.via (fun T t X r => XS.ifYes X B.1 rfl rfl (hb B.2.1 hd) rfl (XT.i0_lt_t q) ho rfl r) (kt q)
  · exact B.via (fun T t X r => XS.ifNo X B.1 rfl (hb B.2.1 hd) rfl (XT.i0_lt_f q) r) (kf q)
theorem Base.lif_lt (B : Base p l e R s m args below meth c Z y bytes maxL ret h0 ws C) (pt pf : Nat) {o : Int} (hpt : ((pc : Int) + o).toNat = pt) (ho : 0 ≤ (pc : Int) + o) (hpf : pf = pc + 3) {x z : Int64} (hd : decode bytes pc = .ok (.ifCond .lt o, 3)) (kt : x < z → B.G h cl sl (mkF m pt Ls st)) (kf : ¬ x < z → B.G h cl sl (mkF m pf Ls st)) : B.G h cl sl (mkF m pc Ls (.int (XT.cmpL x z) :: st)) := by
  subst hpt hpf
  by_cases q : x < z
  · exact B.via (fun T t X r => XS.ifYes X B.1 rfl rfl (hb B.2.1 hd) rfl (XT.ll_lt_t q) ho rfl r) (kt q)
  · exact B.via (fun T t X r => XS.ifNo X B.1 rfl (hb B.2.1 hd) rfl (XT.ll_lt_f q) r) (kf q)
theorem Base.icmp_ge (B : Base p l e R s m args below meth c Z y bytes maxL ret h0 ws C) (pt pf : Nat) {o : Int} (hpt : ((pc : Int) + o).toNat = pt) (ho : 0 ≤ (pc : Int) + o) (hpf : pf = pc + 3) {x z : Int32} (hd : decode bytes pc = .ok (.if_icmp .ge o, 3)) (kt : ¬ x < z → B.G h cl sl (mkF m pt Ls st)) (kf : x < z → B.G h cl sl (mkF m pf Ls st)) : B.G h cl sl (mkF m pc Ls (.int z :: .int x :: st)) := by
  subst hpt hpf
  by_cases q : x < z
  · exact B.via (fun T t X r => XS.icmpNo X B.1 rfl (hb B.2.1 hd) rfl (XT.ii_ge_f q) r) (kf q)
  · exact B.via (fun T t X r => XS.icmpYes X B.1 rfl rfl (hb B.2.1 hd) rfl (XT.ii_ge_t q) ho rfl r) (kt q)
theorem Base.if0_ge (B : Base p l e R s m args below meth c Z y bytes maxL ret h0 ws C) (pt pf : Nat) {o : Int} (hpt : ((pc : Int) + o).toNat = pt) (ho : 0 ≤ (pc : Int) + o) (hpf : pf = pc + 3) {x : Int32} (hd : decode bytes pc = .ok (.ifCond .ge o, 3)) (kt : ¬ x < 0 → B.G h cl sl (mkF m pt Ls st)) (kf : x < 0 → B.G h cl sl (mkF m pf Ls st)) : B.G h cl sl (mkF m pc Ls (.int x :: st)) := by
  subst hpt hpf
  by_cases q : x < 0
  · exact B.via (fun T t X r => XS.ifNo X B.1 rfl (hb B.2.1 hd) rfl (XT.i0_ge_f q) r) (kf q)
  · exact B.via (fun T t X r => XS.ifYes X B.1 rfl rfl (hb B.2.1 hd) rfl (XT.i0_ge_t q) ho rfl r) (kt q)
theorem Base.lif_ge (B : Base p l e R s m args below meth c Z y bytes maxL ret h0 ws C) (pt pf : Nat) {o : Int} (hpt : ((pc : Int) + o).toNat = pt) (ho : 0 ≤ (pc : Int) + o) (hpf : pf = pc + 3) {x z : Int64} (hd : decode bytes pc = .ok (.ifCond .ge o, 3)) (kt : ¬ x < z → B.G h cl sl (mkF m pt Ls st)) (kf : x < z → B.G h cl sl (mkF m pf Ls st)) : B.G h cl sl (mkF m pc Ls (.int (XT.cmpL x z) :: st)) := by
  subst hpt hpf
  by_cases q : x < z
  · exact B.via (fun T t X r => XS.ifNo X B.1 rfl (hb B.2.1 hd) rfl (XT.ll_ge_f q) r) (kf q)
  · exact B.via (fun T t X r => XS.ifYes X B.1 rfl rfl (hb B.2.1 hd) rfl (XT.ll_ge_t q) ho rfl r) (kt q)
theorem Base.icmp_gt (B : Base p l e R s m args below meth c Z y bytes maxL ret h0 ws C) (pt pf : Nat) {o : Int} (hpt : ((pc : Int) + o).toNat = pt) (ho : 0 ≤ (pc : Int) + o) (hpf : pf = pc + 3) {x z : Int32} (hd : decode bytes pc = .ok (.if_icmp .gt o, 3)) (kt : z < x → B.G h cl sl (mkF m pt Ls st)) (kf : ¬ z < x → B.G h cl sl (mkF m pf Ls st)) : B.G h cl sl (mkF m pc Ls (.int z :: .int x :: st)) := by
  subst hpt hpf
  by_cases q : z < x
  · exact B.via (fun T t X r => XS.icmpYes X B.1 rfl rfl (hb B.2.1 hd) rfl (XT.ii_gt_t q) ho rfl r) (kt q)
  · exact B.via (fun T t X r => XS.icmpNo X B.1 rfl (hb B.2.1 hd) rfl (XT.ii_gt_f q) r) (kf q)
theorem Base.if0_gt (B : Base p l e R s m args below meth c Z y bytes maxL ret h0 ws C) (pt pf : Nat) {o : Int} (hpt : ((pc : Int) + o).toNat = pt) (ho : 0 ≤ (pc : Int) + o) (hpf : pf = pc + 3) {x : Int32} (hd : decode bytes pc = .ok (.ifCond .gt o, 3)) (kt : 0 < x → B.G h cl sl (mkF m pt Ls st)) (kf : ¬ 0 < x → B.G h cl sl (mkF m pf Ls st)) : B.G h cl sl (mkF m pc Ls (.int x :: st)) := by
  subst hpt hpf
  by_cases q : 0 < x
  · exact B.via (fun T t X r => XS.ifYes X B.1 rfl rfl (hb B.2.1 hd) rfl (XT.i0_gt_t q) ho rfl r) (kt q)
  · exact B.via (fun T t X r => XS.ifNo X B.1 rfl (hb B.2.1 hd) rfl (XT.i0_gt_f q) r) (kf q)
theorem Base.lif_gt (B : Base p l e R s m args below meth c Z y bytes maxL ret h0 ws C) (pt pf : Nat) {o : Int} (hpt : ((pc : Int) + o).toNat = pt) (ho : 0 ≤ (pc : Int) + o) (hpf : pf = pc + 3) {x z : Int64} (hd : decode bytes pc = .ok (.ifCond .gt o, 3)) (kt : z < x → B.G h cl sl (mkF m pt Ls st)) (kf : ¬ z < x → B.G h cl sl (mkF m pf Ls st)) : B.G h cl sl (mkF m pc Ls (.int (XT.cmpL x z) :: st)) := by
  subst hpt hpf
  by_cases q : z < x
  · exact B.via (fun T t X r => XS.ifYes X B.1 rfl rfl (hb B.2.1 hd) rfl (XT.ll_gt_t q) ho rfl r) (kt q)
  · exact B.via (fun T t X r => XS.ifNo X B.1 rfl (hb B.2.1 hd) rfl (XT.ll_gt_f q) r) (kf q)
theorem Base.icmp_le (B : Base p l e R s m args below meth c Z y bytes maxL ret h0 ws C) (pt pf : Nat) {o : Int} (hpt : ((pc : Int) + o).toNat = pt) (ho : 0 ≤ (pc : Int) + o) (hpf : pf = pc + 3) {x z : Int32} (hd : decode bytes pc = .ok (.if_icmp .le o, 3)) (kt : ¬ z < x → B.G h cl sl (mkF m pt Ls st)) (kf : z < x → B.G h cl sl (mkF m pf Ls st)) : B.G h cl sl (mkF m pc Ls (.int z :: .int x :: st)) := by
  subst hpt hpf
  by_cases q : z < x
  · exact B.via (fun T t X r => XS.icmpNo X B.1 rfl (hb B.2.1 hd) rfl (XT.ii_le_f q) r) (kf q)
  · exact B.via (fun T t X r => XS.icmpYes X B.1 rfl rfl (hb B.2.1 hd) rfl (XT.ii_le_t q) ho rfl r) (kt q)
theorem Base.if0_le (B : Base p l e R s m args below meth c Z y bytes maxL ret h0 ws C) (pt pf : Nat) {o : Int} (hpt : ((pc : Int) + o).toNat = pt) (ho : 0 ≤ (pc : Int) + o) (hpf : pf = pc + 3) {x : Int32} (hd : decode bytes pc = .ok (.ifCond .le o, 3)) (kt : ¬ 0 < x → B.G h cl sl (mkF m pt Ls st)) (kf : 0 < x → B.G h cl sl (mkF m pf Ls st)) : B.G h cl sl (mkF m pc Ls (.int x :: st)) := by
  subst hpt hpf
  by_cases q : 0 < x
  · exact B.via (fun T t X r => XS.ifNo X B.1 rfl (hb B.2.1 hd) rfl (XT.i0_le_f q) r) (kf q)
  · exact B.via (fun T t X r => XS.ifYes X B.1 rfl rfl (hb B.2.1 hd) rfl (XT.i0_le_t q) ho rfl r) (kt q)
theorem Base.lif_le (B : Base p l e R s m args below meth c Z y bytes maxL ret h0 ws C) (pt pf : Nat) {o : Int} (hpt : ((pc : Int) + o).toNat = pt) (ho : 0 ≤ (pc : Int) + o) (hpf : pf = pc + 3) {x z : Int64} (hd : decode bytes pc = .ok (.ifCond .le o, 3)) (kt : ¬ z < x → B.G h cl sl (mkF m pt Ls st)) (kf : z < x → B.G h cl sl (mkF m pf Ls st)) : B.G h cl sl (mkF m pc Ls (.int (XT.cmpL x z) :: st)) := by
  subst hpt hpf
  by_cases q : z < x
  · exact B.via (fun T t X r => XS.ifNo X B.1 rfl (hb B.2.1 hd) rfl (XT.ll_le_f q) r) (kf q)
  · exact B.via (fun T t X r => XS.ifYes X B.1 rfl rfl (hb B.2.1 hd) rfl (XT.ll_le_t q) ho rfl r) (kt q)
theorem Base.acmp_eq (B : Base p l e R s m args below meth c Z y bytes maxL ret h0 ws C) (pt pf : Nat) {o : Int} (hpt : ((pc : Int) + o).toNat = pt) (ho : 0 ≤ (pc : Int) + o) (hpf : pf = pc + 3) {x z : Value} (hd : decode bytes pc = .ok (.if_acmp .eq o, 3)) (hx' : x.isRef = true) (hz' : z.isRef = true) (kt : x = z → B.G h cl sl (mkF m pt Ls st)) (kf : ¬ x = z → B.G h cl sl (mkF m pf Ls st)) : B.G h cl sl (mkF m pc Ls (z :: x :: st)) := by
  subst hpt hpf
  by_cases q : x = z
  · exact B.via (fun T t X r => XT.acmpYes X B.1 rfl rfl (hb B.2.1 hd) rfl hx' hz' (XT.aa_eq_t q) ho rfl r) (kt q)
  · exact B.via (fun T t X r => XT.acmpNo X B.1 rfl (hb B.2.1 hd) rfl hx' hz' (XT.aa_eq_f q) r) (kf q)
theorem Base.acmp_ne (B : Base p l e R s m args below meth c Z y bytes maxL ret h0 ws C) (pt pf : Nat) {o : Int} (hpt : ((pc : Int) + o).toNat = pt) (ho : 0 ≤ (pc : Int) + o) (hpf : pf = pc + 3) {x z : Value} (hd : decode bytes pc = .ok (.if_acmp .ne o, 3)) (hx' : x.isRef = true) (hz' : z.isRef = true) (kt : ¬ x = z → B.G h cl sl (mkF m pt Ls st)) (kf : x = z → B.G h cl sl (mkF m pf Ls st)) : B.G h cl sl (mkF m pc Ls (z :: x :: st)) := by
  subst hpt hpf
  by_cases q : x = z
  · exact B.via (fun T t X r => XT.acmpNo X B.1 rfl (hb B.2.1 hd) rfl hx' hz' (XT.aa_ne_f q) r) (kf q)
  · exact B.via (fun T t X r => XT.acmpYes X B.1 rfl rfl (hb B.2.1 hd) rfl hx' hz' (XT.aa_ne_t q) ho rfl r) (kt q)
theorem Base.ifnull (B : Base p l e R s m args below meth c Z y bytes maxL ret h0 ws C) (pt pf : Nat) {o : Int} (hpt : ((pc : Int) + o).toNat = pt) (ho : 0 ≤ (pc : Int) + o) (hpf : pf = pc + 3) {x : Value} (hd : decode bytes pc = .ok (.ifnull o, 3)) (hx' : x.isRef = true) (kt : x = .null → B.G h cl sl (mkF m pt Ls st)) (kf : ¬ x = .null → B.G h cl sl (mkF m pf Ls st)) : B.G h cl sl (mkF m pc Ls (x :: st)) := by
  subst hpt hpf
  by_cases q : x = .null
  · exact B.via (fun T t X r => XT.nullYes X B.1 rfl rfl (hb B.2.1 hd) rfl q ho rfl r) (kt q)
  · exact B.via (fun T t X r => XT.nullNo X B.1 rfl (hb B.2.1 hd) rfl hx' q r) (kf q)
theorem Base.ifnonnull (B : Base p l e R s m args below meth c Z y bytes maxL ret h0 ws C) (pt pf : Nat) {o : Int} (hpt : ((pc : Int) + o).toNat = pt) (ho : 0 ≤ (pc : Int) + o) (hpf : pf = pc + 3) {x : Value} (hd : decode bytes pc = .ok (.ifnonnull o, 3)) (hx' : x.isRef = true) (kt : ¬ x = .null → B.G h cl sl (mkF m pt Ls st)) (kf : x = .null → B.G h cl sl (mkF m pf Ls st)) : B.G h cl sl (mkF m pc Ls (x :: st)) := by
  subst hpt hpf
  by_cases q : x = .null
  · exact B.via (fun T t X r => XT.nonnullNo X B.1 rfl (hb B.2.1 hd) rfl q r) (kf q)
  · exact B.via (fun T t X r => XT.nonnullYes X B.1 rfl rfl (hb B.2.1 hd) rfl hx' q ho rfl r) (kt q)
theorem Base.topI (B : Base p l e R s m args below meth c Z y bytes maxL ret h0 ws C) {x : Int32} (v : Int32) (q : x = v) (k : B.G h cl sl (mkF m pc Ls (.int v :: st))) : B.G h cl sl (mkF m pc Ls (.int x :: st)) := by subst q; exact k
theorem Base.topL (B : Base p l e R s m args below meth c Z y bytes maxL ret h0 ws C) {x : Int64} (v : Int64) (q : x = v) (k : B.G h cl sl (mkF m pc Ls (.long v :: st))) : B.G h cl sl (mkF m pc Ls (.long x :: st)) := by subst q; exact k
/-! 2. the ends -/
theorem Base.leave (B : Base p l e R s m args below meth c Z y bytes maxL ret h0 ws C) (hcl : cl ≤ R.cells) (hsl : sl ≤ R.slots) {v : Option Value} (hv : meth.sig.returnType = none → v = none) (hC : C v h)
    (st : ∀ (T : State) (locs : List Loc) (fs : List Frame), Stand p l e R s m args below meth c T locs cl sl → (∀ (f : JFrame) (acts : List Action), f.method = m → f.locked = none → f.entered = [] → (doReturn e (T.setTop f) acts v).1 = T.setFrames fs) → Steps p.tables e below (T.setTop g) (T.setFrames fs)) : B.G h cl sl g := fun T locs X N eT => by
  have hlk : meth.locks = false := B.2.2.2.2.2.2.1
  obtain ⟨fs, hr, hrun, hended, hW, hsame⟩ := X.leave (v := v) hv hlk
  have e0 := B.2.2.2.2.2.2.2.2
  refine ⟨_, _, st T locs fs X hr, hrun, hended, _, _, rfl, ⟨?_, N, ?_⟩, ⟨_, rfl⟩, hW, hsame.mono hcl hsl⟩
  · show C v T.heap
    rw [eT]; exact hC
  · show Keep h0 T.heap ws
    rw [← e0] at N ⊢
    exact keep_of X N
theorem Base.ret0 (B : Base p l e R s m args below meth c Z y bytes maxL none h0 ws C) (hd : decode bytes pc = .ok (.return_, 1)) (hcl : cl ≤ R.cells) (hsl : sl ≤ R.slots) (hC : C none h) : B.G h cl sl (mkF m pc Ls []) :=
  B.leave hcl hsl (fun _ => rfl) hC fun T locs fs X hr => X.returnOut B.1 B.2.2.2.2.2.1 (hb B.2.1 hd) hr
theorem Base.retI (B : Base p l e R s m args below meth c Z y bytes maxL (some .int) h0 ws C) {x : Int32} (hd : decode bytes pc = .ok (.ireturn, 1)) (hcl : cl ≤ R.cells) (hsl : sl ≤ R.slots) (hC : C (some (.int x)) h) : B.G h cl sl (mkF m pc Ls (.int x :: st)) :=
  B.leave hcl hsl (fun q => by rw [B.2.2.2.2.2.1] at q; cases q) hC fun T locs fs X hr => retOut X B.1 B.2.2.2.2.2.1 rfl (Or.inl ⟨rfl, Or.inl rfl, _, rfl⟩) (hb B.2.1 hd) hr
theorem Base.retL (B : Base p l e R s m args below meth c Z y bytes maxL (some .long) h0 ws C) {x : Int64} (hd : decode bytes pc = .ok (.lreturn, 1)) (hcl : cl ≤ R.cells) (hsl : sl ≤ R.slots) (hC : C (some (.long x)) h) : B.G h cl sl (mkF m pc Ls (.long x :: st)) :=
  B.leave hcl hsl (fun q => by rw [B.2.2.2.2.2.1] at q; cases q) hC fun T locs fs X hr => retOut X B.1 B.2.2.2.2.2.1 rfl (Or.inr (Or.inl ⟨rfl, rfl, _, rfl⟩)) (hb B.2.1 hd) hr
/-- a boolean, byte, char, short: what comes back is narrowed -/
theorem Base.retN {t : FieldType} (B : Base p l e R s m args below meth c Z y bytes maxL (some t) h0 ws C) {x : Int32} (ht : t = .boolean ∨ t = .byte ∨ t = .char ∨ t = .short) (hd : decode bytes pc = .ok (.ireturn, 1)) (hcl : cl ≤ R.cells) (hsl : sl ≤ R.slots) (hC : C (some (.int (nar t x))) h) : B.G h cl sl (mkF m pc Ls (.int x :: st)) :=
  B.leave hcl hsl (fun q => by rw [B.2.2.2.2.2.1] at q; cases q) hC fun T locs fs X hr => Jvm.RoadKit.retN X B.1 B.2.2.2.2.2.1 ht (hb B.2.1 hd) hr
theorem Base.retA {t : FieldType} (B : Base p l e R s m args below meth c Z y bytes maxL (some t) h0 ws C) {x : Value} (ht : t.isReference = true) (hx' : x.isRef = true) (hd : decode bytes pc = .ok (.areturn, 1)) (hcl : cl ≤ R.cells) (hsl : sl ≤ R.slots) (hC : C (some x) h) : B.G h cl sl (mkF m pc Ls (x :: st)) :=
  B.leave hcl hsl (fun q => by rw [B.2.2.2.2.2.1] at q; cases q) hC fun T locs fs X hr => retOut X B.1 B.2.2.2.2.2.1 (by rcases ref_cases hx' with rfl | ⟨a, rfl⟩ <;> cases t <;> simp_all [narrow, FieldType.isReference]) (Or.inr (Or.inr (Or.inr (Or.inr ⟨rfl, ht, hx'⟩)))) (hb B.2.1 hd) hr
/-! 3. the heap -/
theorem Base.size (B : Base p l e R s m args below meth c Z y bytes maxL ret h0 ws C) {T : State} {locs : List Loc} (X : Stand p l e R s m args below meth c T locs cl sl) : h0.size ≤ T.heap.size := by
  have q := X.same.2.1
  rw [B.2.2.2.2.2.2.2.2] at q; exact q
/-- the heap has only grown -/
theorem Base.grown (B : Base p l e R s m args below meth c Z y bytes maxL ret h0 ws C) (k : h0.size ≤ h.size → B.G h cl sl g) : B.G h cl sl g := fun T locs X N eT => k (by rw [← eT]; exact B.size X) T locs X N eT
theorem Base.getF (B : Base p l e R s m args below meth c Z y bytes maxL ret h0 ws C) (pc' : Nat) (hp : pc' = pc + 3) {i : Nat} {O n d : String} {a : Addr} {v : Value} (hd : decode bytes pc = .ok (.getfield i, 3)) (w : (Cond.fieldLink y.cls i O n d).before a0 Z = true) (F : Fld Z h a O n d v) (k : B.G h cl sl (mkF m pc' Ls (v :: st))) : B.G h cl sl (mkF m pc Ls (.ref a :: st)) := fun T locs X N eT => by
  subst hp
  obtain ⟨T', X', e', stp⟩ := Jvm.RoadKit.getF X B.1 B.2.2.2.1 B.2.2.2.2.1 (host := "") (Or.inl w) Via.refl eT F (g := mkF m pc Ls (.ref a :: st)) rfl rfl (hb B.2.1 hd)
  obtain ⟨t, o, q, r⟩ := k T' locs X' N e'
  exact ⟨t, o, stp _ q, r⟩
theorem Base.getS (B : Base p l e R s m args below meth c Z y bytes maxL ret h0 ws C) (pc' : Nat) (hp : pc' = pc + 3) {i : Nat} {O n d : String} {v : Value} (hd : decode bytes pc = .ok (.getstatic i, 3)) (w : (Cond.fieldLink y.cls i O n d).before a0 Z = true) (F : Sta Z h O n d v) (k : B.G h cl sl (mkF m pc' Ls (v :: st))) : B.G h cl sl (mkF m pc Ls st) := fun T locs X N eT => by
  subst hp
  obtain ⟨T', X', e', stp⟩ := Jvm.RoadKit.getS (host := "") X B.1 B.2.2.2.1 B.2.2.2.2.1 w Via.refl eT F (g := mkF m pc Ls st) rfl (hb B.2.1 hd)
  obtain ⟨t, o, q, r⟩ := k T' locs X' N e'
  exact ⟨t, o, stp _ q, r⟩
theorem Base.putF (B : Base p l e R s m args below meth c Z y bytes maxL ret h0 ws C) (pc' : Nat) (hp : pc' = pc + 3) {i kk : Nat} {O n d CC : String} {a : Addr} {v old : Value} {ty : FieldType} (hd : decode bytes pc = .ok (.putfield i, 3)) (w : (Cond.fieldLink y.cls i O n d).before a0 Z = true) (F : Fld Z h a O n d old) (E : Exa Z h a CC)
    (L : (Cond.lays CC O n d).before a0 Z = true ∨ ((Cond.laysFinal CC O n d).before a0 Z = true ∧ y.cls = O ∧ y.name = "<init>")) (wi : (Cond.instantiable CC kk).before a0 Z = true) (hty : parseFieldDescriptor d = some ty) (hn : narrow ty v = v) (hf : fits ty v = true) (hw : a ∈ ws ∨ h0.size ≤ a)
    (k : ∀ h', Wr h h' a (Jvm.RoadKit.slotOf Z O n d) v → B.G h' cl sl (mkF m pc' Ls st)) : B.G h cl sl (mkF m pc Ls (v :: .ref a :: st)) := fun T locs X N eT => by
  subst hp
  obtain ⟨T', h', X', e', W, stp⟩ := Jvm.RoadKit.putF X B.1 B.2.2.2.1 B.2.2.2.2.1 (host := "") (Or.inl w) Via.refl eT F E (L.imp id fun q => ⟨q.1, q.2.1, B.2.2.2.2.2.2.2.1.trans q.2.2⟩) wi hty hn hf (g := mkF m pc Ls (v :: .ref a :: st)) rfl rfl (hb B.2.1 hd)
  obtain ⟨t, o, q, r⟩ := k h' W T' _ X' (N.one hw) e'
  exact ⟨t, o, stp _ q, r⟩
theorem Base.newO (B : Base p l e R s m args below meth c Z y bytes maxL ret h0 ws C) (pc' : Nat) (hp : pc' = pc + 3) {i n : Nat} {CC : String} (hd : decode bytes pc = .ok (.new i, 3)) (w : (Cond.classLink y.cls i CC).before a0 Z = true) (wi : (Cond.instantiable CC n).before a0 Z = true) (wz : (Cond.initialized CC).before a0 Z = true) (hc : cl + 1 ≤ R.cells) (hs : sl + n ≤ R.slots)
    (k : ∀ h' a, a = h.size → h0.size ≤ a → Ext h h' → Exa Z h' a CC → (∀ {O nm d : String} {ty : FieldType}, Laid Z a0 CC O nm d → parseFieldDescriptor d = some ty → Fld Z h' a O nm d (defaultValue ty)) → B.G h' (cl + 1) (sl + n) (mkF m pc' Ls (.ref a :: st))) : B.G h cl sl (mkF m pc Ls st) := fun T locs X N eT => by
  subst hp
  obtain ⟨T', h', X', e', E, A, D, -, stp⟩ := Jvm.RoadKit.newO X B.1 B.2.2.2.1 B.2.2.2.2.1 w wi wz eT (g := mkF m pc Ls st) rfl (hb B.2.1 hd) hc hs
  obtain ⟨t, o, q, r⟩ := k h' _ rfl (by rw [← eT]; exact B.size X) E A D T' locs X' N e'
  exact ⟨t, o, stp _ q, r⟩
theorem Base.initO (B : Base p l e R s m args below meth c Z y bytes maxL ret h0 ws C) (pc' : Nat) (hp : pc' = pc + 3) {i : Nat} {a : Addr} (hd : decode bytes pc = .ok (.invokespecial i, 3)) (w1 : (Cond.methodLink y.cls i Lib.objectInit).before a0 Z = true) (w2 : (Cond.instanceMethod Lib.objectInit).before a0 Z = true) (w3 : (Cond.code Lib.objectInit ⟨#[0xb1]⟩ 1 none).before a0 Z = true)
    (hLs : Ls.size = maxL) (W : Nat) (hW : (st.map fun v => v.category).sum = W) (hf : 1 ≤ R.frames) (hl : W + 12 ≤ R.locals) (k : B.G h cl sl (mkF m pc' Ls st)) : B.G h cl sl (mkF m pc Ls (.ref a :: st)) := fun T locs X N eT => by
  subst hp
  obtain ⟨T', X', e', stp⟩ := Jvm.RoadKit.initO X B.1 B.2.2.2.1 B.2.2.2.2.1 w1 w2 w3 eT (g := mkF m pc Ls (.ref a :: st)) rfl (hLs.trans B.2.2.1.symm) rfl (hb B.2.1 hd) hf (W := W) (by show 2 * 0 + _ ≤ _; omega) hl
  obtain ⟨t, o, q, r⟩ := k T' locs X' N e'
  exact ⟨t, o, stp _ q, r⟩
/-! 4. calls -/
section Calls
variable {z : MethodName} {i : Nat} {cb : ByteArray} {cm : Nat} {cr : Option FieldType} {rm : Room} {as : Array Value} {ws' : List Addr} {C' : Option Value → Heap → Prop} {argsL rest : List Value} {ps : List FieldType} {rt : Option FieldType} {W : Nat}
theorem Base.callS (B : Base p l e R s m args below meth c Z y bytes maxL ret h0 ws C) (pc' : Nat) (hp : pc' = pc + 3) (hd : decode bytes pc = .ok (.invokestatic i, 3))
    (w1 : (Cond.methodLink y.cls i z).before a0 Z = true) (w2 : (Cond.static z).before a0 Z = true) (w3 : (Cond.initialized z.cls).before a0 Z = true) (w4 : (Cond.code z cb cm cr).before a0 Z = true)
    (hz : z.cls ≠ "java/lang/invoke/MethodHandle" ∧ z.cls ≠ "java/lang/invoke/VarHandle") (argsL rest : List Value) (M : Met l Z z cb cm cr [] rm as h ws' C') (has : argsL.toArray = as) (hst : st = argsL.reverse ++ rest) (hpd : parseMethodDescriptor z.desc = some ⟨ps, rt⟩) (hlen : argsL.length = ps.length) (hLs : Ls.size = maxL)
    (W : Nat) (hW : (rest.map fun v => v.category).sum = W) (hf : rm.frames + 1 ≤ R.frames) (hl : W + (cm + 11) + rm.locals ≤ R.locals) (hc : cl + rm.cells ≤ R.cells) (hs : sl + rm.slots ≤ R.slots) (hws : ∀ x ∈ ws', x ∈ ws ∨ h0.size ≤ x)
    (k : ∀ v h', Keep h h' ws' → C' v h' → B.G h' (cl + rm.cells) (sl + rm.slots) (mkF m pc' Ls (v.toList ++ rest))) : B.G h cl sl (mkF m pc Ls st) := fun T locs X N eT => by
  subst hp
  have hZ := B.2.2.2.1
  obtain ⟨v, _, ⟨T', L', k', n'⟩, -, X', ⟨Lc, hQ, l', y', z'⟩, stp⟩ := Jvm.LawKit.callS X B.1 (y := z) B.2.2.2.2.1 (mvT hZ w1) (mvT hZ w2) (mvT hZ w3) (mvT hZ w4) hz (backOf (W := W) M hZ w4 w3 hf hl) (g := mkF m pc Ls st) rfl (hLs.trans B.2.2.1.symm) (argsL := argsL) (rest := rest) (lenOf hpd hlen) hst (by show 2 * 0 + _ ≤ _; omega) (hb B.2.1 hd) (fun _ _ => ⟨has, eT, hc, hs⟩)
  dsimp only [Pt.U, Pt.locs, Pt.cells, Pt.slots] at X' l' y' z' stp hQ
  subst l' y' z'
  obtain ⟨hC, hN, hK⟩ := hQ
  obtain ⟨t, o, q, r⟩ := k v T'.heap hK hC T' _ X' (N.app fun u hu => (hN u hu).elim (fun q => hws _ q) fun q => Or.inr (Nat.le_trans (by rw [← eT]; exact B.size X) q)) rfl
  exact ⟨t, o, stp _ q, r⟩
theorem Base.callI (B : Base p l e R s m args below meth c Z y bytes maxL ret h0 ws C) (pc' : Nat) (hp : pc' = pc + 3) (hd : decode bytes pc = .ok (.invokespecial i, 3)) (hin : z.name = "<init>")
    (w1 : (Cond.methodLink y.cls i z).before a0 Z = true) (w2 : (Cond.instanceMethod z).before a0 Z = true) (w3 : (Cond.initialized z.cls).before a0 Z = true) (w4 : (Cond.code z cb cm none).before a0 Z = true)
    (hz : z.cls ≠ "java/lang/invoke/MethodHandle" ∧ z.cls ≠ "java/lang/invoke/VarHandle") {a : Addr} (argsL rest : List Value) (M : Met l Z z cb cm none [] rm as h ws' C') (has : (.ref a :: argsL).toArray = as) (hst : st = argsL.reverse ++ .ref a :: rest) (hpd : parseMethodDescriptor z.desc = some ⟨ps, rt⟩) (hlen : argsL.length = ps.length) (hLs : Ls.size = maxL)
    (W : Nat) (hW : (rest.map fun v => v.category).sum = W) (hf : rm.frames + 1 ≤ R.frames) (hl : W + (cm + 11) + rm.locals ≤ R.locals) (hc : cl + rm.cells ≤ R.cells) (hs : sl + rm.slots ≤ R.slots) (hws : ∀ x ∈ ws', x ∈ ws ∨ h0.size ≤ x)
    (k : ∀ v h', Keep h h' ws' → C' v h' → B.G h' (cl + rm.cells) (sl + rm.slots) (mkF m pc' Ls (v.toList ++ rest))) : B.G h cl sl (mkF m pc Ls st) := fun T locs X N eT => by
  subst hp
  have hZ := B.2.2.2.1
  obtain ⟨v, _, ⟨T', L', k', n'⟩, -, X', ⟨Lc, hQ, l', y', z'⟩, stp⟩ := X.specialBack B.1 (y := z) hin B.2.2.2.2.1 (mvT hZ w1) (mvT hZ w2) (mvT hZ w4) hz (backOf (W := W) M hZ w4 w3 hf hl) (g := mkF m pc Ls st) rfl (hLs.trans B.2.2.1.symm) (Steps.refl _) (a := a) (argsL := argsL) (rest := rest) (lenOf hpd hlen) hst (by show 2 * 0 + _ ≤ _; omega) (hb B.2.1 hd) (fun _ _ => ⟨has, eT, hc, hs⟩)
  dsimp only [Pt.U, Pt.locs, Pt.cells, Pt.slots] at X' l' y' z' stp hQ
  subst l' y' z'
  obtain ⟨hC, hN, hK⟩ := hQ
  obtain ⟨t, o, q, r⟩ := k v T'.heap hK hC T' _ X' (N.app fun u hu => (hN u hu).elim (fun q => hws _ q) fun q => Or.inr (Nat.le_trans (by rw [← eT]; exact B.size X) q)) rfl
  exact ⟨t, o, stp.trans q, r⟩
theorem Base.callV (B : Base p l e R s m args below meth c Z y bytes maxL ret h0 ws C) (pc' : Nat) (hp : pc' = pc + 3) (hd : decode bytes pc = .ok (.invokevirtual i, 3)) {CC : String}
    (w1 : (Cond.methodLink y.cls i z).before a0 Z = true) (w2 : (Cond.declares z).before a0 Z = true) (w5 : (Cond.selects CC z z).before a0 Z = true) (w6 : (Cond.instanceMethod z).before a0 Z = true) (w3 : (Cond.initialized z.cls).before a0 Z = true) (w4 : (Cond.code z cb cm cr).before a0 Z = true)
    (hz : z.cls ≠ "java/lang/invoke/MethodHandle" ∧ z.cls ≠ "java/lang/invoke/VarHandle") {a : Addr} (E : Exa Z h a CC) (argsL rest : List Value) (M : Met l Z z cb cm cr [] rm as h ws' C') (has : (.ref a :: argsL).toArray = as) (hst : st = argsL.reverse ++ .ref a :: rest) (hpd : parseMethodDescriptor z.desc = some ⟨ps, rt⟩) (hlen : argsL.length = ps.length) (hLs : Ls.size = maxL)
    (W : Nat) (hW : (rest.map fun v => v.category).sum = W) (hf : rm.frames + 1 ≤ R.frames) (hl : W + (cm + 11) + rm.locals ≤ R.locals) (hc : cl + rm.cells ≤ R.cells) (hs : sl + rm.slots ≤ R.slots) (hws : ∀ x ∈ ws', x ∈ ws ∨ h0.size ≤ x)
    (k : ∀ v h', Keep h h' ws' → C' v h' → B.G h' (cl + rm.cells) (sl + rm.slots) (mkF m pc' Ls (v.toList ++ rest))) : B.G h cl sl (mkF m pc Ls st) := fun T locs X N eT => by
  subst hp
  have hZ := B.2.2.2.1
  obtain ⟨cq, kq, qa, qb, qc⟩ := isOf hZ eT E
  obtain ⟨v, _, ⟨T', L', k', n'⟩, -, X', ⟨Lc, hQ, l', y', z'⟩, stp⟩ := X.virtualBack B.1 (y := z) (z := z) B.2.2.2.2.1 (mvT hZ w1) (mvT hZ w2) (notFace_of_selects (args := args) (mvT hZ w5)) (mvT hZ w5) (mvT hZ w6) hz (backOf (W := W) M hZ w4 w3 hf hl) qa qc (g := mkF m pc Ls st) rfl (hLs.trans B.2.2.1.symm) (Steps.refl _) (argsL := argsL) (rest := rest) (lenOf hpd hlen) hst (by show 2 * 0 + _ ≤ _; omega) (hb B.2.1 hd) (fun _ _ => ⟨has, eT, hc, hs⟩)
  dsimp only [Pt.U, Pt.locs, Pt.cells, Pt.slots] at X' l' y' z' stp hQ
  subst l' y' z'
  obtain ⟨hC, hN, hK⟩ := hQ
  obtain ⟨t, o, q, r⟩ := k v T'.heap hK hC T' _ X' (N.app fun u hu => (hN u hu).elim (fun q => hws _ q) fun q => Or.inr (Nat.le_trans (by rw [← eT]; exact B.size X) q)) rfl
  exact ⟨t, o, stp.trans q, r⟩
theorem Base.callVU (B : Base p l e R s m args below meth c Z y bytes maxL ret h0 ws C) (pc' : Nat) (hp : pc' = pc + 3) (hd : decode bytes pc = .ok (.invokevirtual i, 3)) {x : MethodName} {CC ow : String}
    (w1 : (Cond.methodLink y.cls i x).before a0 Z = true) (w0 : (Cond.sameMethod x.cls ow x.name x.desc).before a0 Z = true) (w2 : (Cond.declares ⟨ow, x.name, x.desc⟩).before a0 Z = true) (w5 : (Cond.selects CC x z).before a0 Z = true) (w6 : (Cond.instanceMethod z).before a0 Z = true) (w3 : (Cond.initialized z.cls).before a0 Z = true) (w4 : (Cond.code z cb cm cr).before a0 Z = true)
    (hz : ow ≠ "java/lang/invoke/MethodHandle" ∧ ow ≠ "java/lang/invoke/VarHandle") {a : Addr} (E : Exa Z h a CC) (argsL rest : List Value) (M : Met l Z z cb cm cr [] rm as h ws' C') (has : (.ref a :: argsL).toArray = as) (hst : st = argsL.reverse ++ .ref a :: rest) (hpd : parseMethodDescriptor x.desc = some ⟨ps, rt⟩) (hlen : argsL.length = ps.length) (hLs : Ls.size = maxL)
    (W : Nat) (hW : (rest.map fun v => v.category).sum = W) (hf : rm.frames + 1 ≤ R.frames) (hl : W + (cm + 11) + rm.locals ≤ R.locals) (hc : cl + rm.cells ≤ R.cells) (hs : sl + rm.slots ≤ R.slots) (hws : ∀ x ∈ ws', x ∈ ws ∨ h0.size ≤ x)
    (k : ∀ v h', Keep h h' ws' → C' v h' → B.G h' (cl + rm.cells) (sl + rm.slots) (mkF m pc' Ls (v.toList ++ rest))) : B.G h cl sl (mkF m pc Ls st) := fun T locs X N eT => by
  subst hp
  have hZ := B.2.2.2.1
  obtain ⟨cq, kq, qa, qb, qc⟩ := isOf hZ eT E
  obtain ⟨v, _, ⟨T', L', k', n'⟩, -, X', ⟨Lc, hQ, l', y', z'⟩, stp⟩ := X.virtualBackUp B.1 (x := x) (y := z) B.2.2.2.2.1 (mvT hZ w1) (mvT hZ w0) (mvT hZ w2) hz (mvT hZ w5) (mvT hZ w6) (backOf (W := W) M hZ w4 w3 hf hl) qa qc (g := mkF m pc Ls st) rfl (hLs.trans B.2.2.1.symm) (Steps.refl _) (argsL := argsL) (rest := rest) (lenOf hpd hlen) hst (by show 2 * 0 + _ ≤ _; omega) (hb B.2.1 hd) (fun _ _ => ⟨has, eT, hc, hs⟩)
  dsimp only [Pt.U, Pt.locs, Pt.cells, Pt.slots] at X' l' y' z' stp hQ
  subst l' y' z'
  obtain ⟨hC, hN, hK⟩ := hQ
  obtain ⟨t, o, q, r⟩ := k v T'.heap hK hC T' _ X' (N.app fun u hu => (hN u hu).elim (fun q => hws _ q) fun q => Or.inr (Nat.le_trans (by rw [← eT]; exact B.size X) q)) rfl
  exact ⟨t, o, stp.trans q, r⟩
theorem Base.callP (B : Base p l e R s m args below meth c Z y bytes maxL ret h0 ws C) (pc' : Nat) (hp : pc' = pc + 3) (hd : decode bytes pc = .ok (.invokevirtual i, 3)) {x : MethodName} {CC : String}
    (w1 : (Cond.methodLink y.cls i z).before a0 Z = true) (w7 : (Cond.privateMethod z).before a0 Z = true) (w6 : (Cond.instanceMethod z).before a0 Z = true) (w5 : (Cond.selects CC x x).before a0 Z = true) (hxc : x.cls = z.cls) (w3 : (Cond.initialized z.cls).before a0 Z = true) (w4 : (Cond.code z cb cm cr).before a0 Z = true)
    (hz : z.cls ≠ "java/lang/invoke/MethodHandle" ∧ z.cls ≠ "java/lang/invoke/VarHandle") {a : Addr} {CE : String} (E : Exa Z h a CE) (argsL rest : List Value) (M : Met l Z z cb cm cr [] rm as h ws' C') (has : (.ref a :: argsL).toArray = as) (hst : st = argsL.reverse ++ .ref a :: rest) (hpd : parseMethodDescriptor z.desc = some ⟨ps, rt⟩) (hlen : argsL.length = ps.length) (hLs : Ls.size = maxL)
    (W : Nat) (hW : (rest.map fun v => v.category).sum = W) (hf : rm.frames + 1 ≤ R.frames) (hl : W + (cm + 11) + rm.locals ≤ R.locals) (hc : cl + rm.cells ≤ R.cells) (hs : sl + rm.slots ≤ R.slots) (hws : ∀ x ∈ ws', x ∈ ws ∨ h0.size ≤ x)
    (k : ∀ v h', Keep h h' ws' → C' v h' → B.G h' (cl + rm.cells) (sl + rm.slots) (mkF m pc' Ls (v.toList ++ rest))) : B.G h cl sl (mkF m pc Ls st) := fun T locs X N eT => by
  subst hp
  have hZ := B.2.2.2.1
  obtain ⟨cq, q1, q2⟩ := E.cell
  have hpr : s.PrivateAt z := Cond.privateMethod_at (mvP hZ w7 (args := args))
  have hi : (Cond.instanceMethod z).before args s = true := mvT hZ w6
  have hsel : (Cond.selects z.cls z z).before args s = true := by
    obtain ⟨c2, r2, m2, -, -, q3, -, kP, hkP, hkPi⟩ := Cond.selects_spec (mvT hZ w5 (args := args))
    have hc2 := findClass_of_methodNamed q3
    rw [hxc] at hc2
    exact selects_self_of_private hc2 hkP hkPi hpr hi hz
  obtain ⟨v, _, ⟨T', L', k', n'⟩, -, X', ⟨Lc, hQ, l', y', z'⟩, stp⟩ := X.privateBack B.1 (y := z) B.2.2.2.2.1 (mvT hZ w1) hi hsel hpr (mvT hZ w4) hz (backOf (W := W) M hZ w4 w3 hf hl) (g := mkF m pc Ls st) rfl (hLs.trans B.2.2.1.symm) (Steps.refl _) (a := a) (by rw [eT]; exact q1) q2 (argsL := argsL) (rest := rest) (lenOf hpd hlen) hst (by show 2 * 0 + _ ≤ _; omega) (hb B.2.1 hd) (fun _ _ => ⟨has, eT, hc, hs⟩)
  dsimp only [Pt.U, Pt.locs, Pt.cells, Pt.slots] at X' l' y' z' stp hQ
  subst l' y' z'
  obtain ⟨hC, hN, hK⟩ := hQ
  obtain ⟨t, o, q, r⟩ := k v T'.heap hK hC T' _ X' (N.app fun u hu => (hN u hu).elim (fun q => hws _ q) fun q => Or.inr (Nat.le_trans (by rw [← eT]; exact B.size X) q)) rfl
  exact ⟨t, o, stp.trans q, r⟩
end Calls
/-- where nothing old is written, all that stood at the start stands -/
theorem Base.olds (B : Base p l e R s m args below meth c Z y bytes maxL ret h0 [] C) (k : Ext h0 h → B.G h cl sl g) : B.G h cl sl g := fun T locs X N eT => by
  refine k ?_ T locs X N eT
  have e0 := B.2.2.2.2.2.2.2.2
  have N' := N
  rw [← e0] at N'
  have q := keep_of X N'
  rw [e0, eT] at q
  exact ⟨q.1, fun a c hc => q.2.1 a c hc (by simp)⟩
end Walk
/-! 3b. arrays: 'Ary': the array at a holds just the list vs -/
def Ary (Z : State) (h : Heap) (a : Addr) (ty : FieldType) (vs : List Value) : Prop := ∃ c : Cell, Arr Z h a c ty ∧ c.slots.toList = vs
section Arrays
variable {p : Program} {l : Launch} {e : Env} {R : Room} {s : State} {m : MethodId} {args : Array Value} {below : List Frame} {meth : Method} {c : Code} {Z : State} {a0 : Array Value} {y : MethodName} {bytes : ByteArray} {maxL : Nat} {ret : Option FieldType} {h0 : Heap} {ws : List Addr} {C : Option Value → Heap → Prop}
variable {h h' : Heap} {cl sl : Nat} {g g' : JFrame} {pc : Nat} {Ls : Array Slot} {st : List Value} {a b : Addr} {ty : FieldType} {vs : List Value} {j : Int32} {i : Nat} {v w : Value} {wl : List Addr}
theorem Ary.lt (A : Ary Z h a ty vs) : a < h.size := by obtain ⟨c, A, -⟩ := A; exact A.lt
theorem Ary.ext (A : Ary Z h a ty vs) (E : Ext h h') : Ary Z h' a ty vs := by obtain ⟨c, A, r⟩ := A; exact ⟨c, A.ext E, r⟩
theorem Ary.other (A : Ary Z h b ty vs) (W : Wr h h' a i v) (q : b ≠ a) : Ary Z h' b ty vs := by obtain ⟨c, A, r⟩ := A; exact ⟨c, A.other W q, r⟩
theorem Ary.keep (A : Ary Z h a ty vs) (K : Keep h h' wl) (q : a ∉ wl) : Ary Z h' a ty vs := by obtain ⟨c, A, r⟩ := A; exact ⟨c, ⟨K.2.1 a c A.1 q, A.2⟩, r⟩
theorem Ary.set (A : Ary Z h a ty vs) (W : Wr h h' a i v) : Ary Z h' a ty (vs.set i v) := by
  obtain ⟨c, A, rfl⟩ := A
  exact ⟨_, A.same W, by simp [Cell.setSlot]⟩
theorem Ary.new {cA : ClassId} {n : Int32} (A : Arr Z h a (newA cA ty n) ty) : Ary Z h a ty (List.replicate n.toNatClampNeg (defaultValue ty)) := ⟨_, A, by simp [newA]⟩
theorem ary_in {c : Cell} (r : c.slots.toList = vs) (hj : ¬ j < 0) (hi : j.toNatClampNeg = i) (hv : vs[i]? = some v) : ¬ (j < 0 ∨ c.slots.size ≤ j.toNatClampNeg) ∧ c.slots[j.toNatClampNeg]? = some v := by
  subst r hi
  rw [Array.getElem?_toList] at hv
  exact ⟨fun q => q.elim hj fun q => absurd (Array.getElem?_eq_some_iff.mp hv).1 (Nat.not_lt.mpr q), hv⟩
theorem ary_lt {c : Cell} (r : c.slots.toList = vs) (hj : ¬ j < 0) (hi : j.toNatClampNeg = i) (hv : i < vs.length) : ¬ (j < 0 ∨ c.slots.size ≤ j.toNatClampNeg) := by
  subst r hi
  rw [Array.length_toList] at hv
  exact fun q => q.elim hj fun q => absurd hv (Nat.not_lt.mpr q)
theorem Base.arrlen (B : Base p l e R s m args below meth c Z y bytes maxL ret h0 ws C) (pc' : Nat) (hp : pc' = pc + 1) (hd : decode bytes pc = .ok (.arraylength, 1)) (A : Ary Z h a ty vs) (n : Int32) (hn : vs.length.toInt32 = n) (k : B.G h cl sl (mkF m pc' Ls (.int n :: st))) : B.G h cl sl (mkF m pc Ls (.ref a :: st)) := by
  subst hp hn
  obtain ⟨c1, A, rfl⟩ := A
  rw [Array.length_toList] at k
  exact B.viaX (fun T t L X eT r => X.arraylength (g := mkF m pc Ls (.ref a :: st)) B.1 (by rw [eT]; exact A.1) (State.isArrayOf_alike (T := s) B.2.2.2.1.alike A.2.1) rfl rfl (hb B.2.1 hd) t r) k
theorem Base.baload (B : Base p l e R s m args below meth c Z y bytes maxL ret h0 ws C) (pc' : Nat) (hp : pc' = pc + 1) (hd : decode bytes pc = .ok (.baload, 1)) (A : Ary Z h a .byte vs) (hj : ¬ j < 0) (i : Nat) (hi : j.toNatClampNeg = i) (v : Value) (hv : vs[i]? = some v) (k : B.G h cl sl (mkF m pc' Ls (v :: st))) : B.G h cl sl (mkF m pc Ls (.int j :: .ref a :: st)) := by
  subst hp
  obtain ⟨c1, A, r⟩ := A
  obtain ⟨q1, q2⟩ := ary_in r hj hi hv
  exact B.viaX (fun T t L X eT r => X.baloadBytes (g := mkF m pc Ls (.int j :: .ref a :: st)) B.1 (by rw [eT]; exact A.1) (State.isArrayOf_alike (T := s) B.2.2.2.1.alike A.2.1) A.2.2 q1 q2 rfl rfl (hb B.2.1 hd) t r) k
theorem Base.iaload (B : Base p l e R s m args below meth c Z y bytes maxL ret h0 ws C) (pc' : Nat) (hp : pc' = pc + 1) (hd : decode bytes pc = .ok (.iaload, 1)) (A : Ary Z h a .int vs) (hj : ¬ j < 0) (i : Nat) (hi : j.toNatClampNeg = i) (v : Value) (hv : vs[i]? = some v) (k : B.G h cl sl (mkF m pc' Ls (v :: st))) : B.G h cl sl (mkF m pc Ls (.int j :: .ref a :: st)) := by
  subst hp
  obtain ⟨c1, A, r⟩ := A
  obtain ⟨q1, q2⟩ := ary_in r hj hi hv
  exact B.viaX (fun T t L X eT r => X.iaload (g := mkF m pc Ls (.int j :: .ref a :: st)) B.1 (by rw [eT]; exact A.1) (State.isArrayOf_alike (T := s) B.2.2.2.1.alike A.2.1) A.2.2 q1 q2 rfl rfl (hb B.2.1 hd) t r) k
theorem Base.laload (B : Base p l e R s m args below meth c Z y bytes maxL ret h0 ws C) (pc' : Nat) (hp : pc' = pc + 1) (hd : decode bytes pc = .ok (.laload, 1)) (A : Ary Z h a .long vs) (hj : ¬ j < 0) (i : Nat) (hi : j.toNatClampNeg = i) (v : Value) (hv : vs[i]? = some v) (k : B.G h cl sl (mkF m pc' Ls (v :: st))) : B.G h cl sl (mkF m pc Ls (.int j :: .ref a :: st)) := by
  subst hp
  obtain ⟨c1, A, r⟩ := A
  obtain ⟨q1, q2⟩ := ary_in r hj hi hv
  exact B.viaX (fun T t L X eT r => X.laload (g := mkF m pc Ls (.int j :: .ref a :: st)) B.1 (by rw [eT]; exact A.1) (State.isArrayOf_alike (T := s) B.2.2.2.1.alike A.2.1) A.2.2 q1 q2 rfl rfl (hb B.2.1 hd) t r) k
theorem Base.newP (B : Base p l e R s m args below meth c Z y bytes maxL ret h0 ws C) (pc' : Nat) (hp : pc' = pc + 2) {aty : ArrayType} (hd : decode bytes pc = .ok (.newarray aty, 2)) (w : (Cond.arrayClass (newarray.typeOf aty)).before a0 Z = true) {n : Int32} (hn : ¬ n < 0) (cap : Nat) (hcap : n.toNatClampNeg ≤ cap) (hb' : cap * 8 ≤ 536870912) (hc : cl + 1 ≤ R.cells) (hs : sl + cap ≤ R.slots)
    (k : ∀ h' a, a = h.size → h0.size ≤ a → Ext h h' → Ary Z h' a (newarray.typeOf aty) (List.replicate n.toNatClampNeg (defaultValue (newarray.typeOf aty))) → B.G h' (cl + 1) (sl + cap) (mkF m pc' Ls (.ref a :: st))) : B.G h cl sl (mkF m pc Ls (.int n :: st)) := fun T locs X N eT => by
  subst hp
  obtain ⟨T', h', cA, X', e', E, A, stp⟩ := Jvm.RoadKit.newP X B.1 B.2.2.2.1 w eT (g := mkF m pc Ls (.int n :: st)) rfl (hb B.2.1 hd) rfl hn hcap hb' hc hs
  obtain ⟨t, o, q, r⟩ := k h' _ rfl (by rw [← eT]; exact B.size X) E (Ary.new A) T' locs X' N e'
  exact ⟨t, o, stp _ q, r⟩
theorem Base.bastore (B : Base p l e R s m args below meth c Z y bytes maxL ret h0 ws C) (pc' : Nat) (hp : pc' = pc + 1) (hd : decode bytes pc = .ok (.bastore, 1)) (A : Ary Z h a .byte vs) (hj : ¬ j < 0) (i : Nat) (hi : j.toNatClampNeg = i) (hlt : i < vs.length) (hw : a ∈ ws ∨ h0.size ≤ a) {x : Int32} (k : ∀ h', Wr h h' a i (.int x.toInt8.toInt32) → Ary Z h' a .byte (vs.set i (.int x.toInt8.toInt32)) → B.G h' cl sl (mkF m pc' Ls st)) : B.G h cl sl (mkF m pc Ls (.int x :: .int j :: .ref a :: st)) := fun T locs X N eT => by
  subst hp
  obtain ⟨c1, A1, r1⟩ := A
  obtain ⟨T', h', X', e', W, stp⟩ := stB X B.1 B.2.2.2.1 eT A1 (ary_lt r1 hj hi hlt) (g := mkF m pc Ls (.int x :: .int j :: .ref a :: st)) rfl rfl (hb B.2.1 hd)
  rw [hi] at W
  obtain ⟨t, o, q, r⟩ := k h' W (Ary.set ⟨c1, A1, r1⟩ W) T' _ X' (N.one hw) e'
  exact ⟨t, o, stp _ q, r⟩
theorem Base.iastore (B : Base p l e R s m args below meth c Z y bytes maxL ret h0 ws C) (pc' : Nat) (hp : pc' = pc + 1) (hd : decode bytes pc = .ok (.iastore, 1)) (A : Ary Z h a .int vs) (hj : ¬ j < 0) (i : Nat) (hi : j.toNatClampNeg = i) (hlt : i < vs.length) (hw : a ∈ ws ∨ h0.size ≤ a) {x : Int32} (k : ∀ h', Wr h h' a i (.int x) → Ary Z h' a .int (vs.set i (.int x)) → B.G h' cl sl (mkF m pc' Ls st)) : B.G h cl sl (mkF m pc Ls (.int x :: .int j :: .ref a :: st)) := fun T locs X N eT => by
  subst hp
  obtain ⟨c1, A1, r1⟩ := A
  obtain ⟨T', h', X', e', W, stp⟩ := stI X B.1 B.2.2.2.1 eT A1 (ary_lt r1 hj hi hlt) (g := mkF m pc Ls (.int x :: .int j :: .ref a :: st)) rfl rfl (hb B.2.1 hd)
  rw [hi] at W
  obtain ⟨t, o, q, r⟩ := k h' W (Ary.set ⟨c1, A1, r1⟩ W) T' _ X' (N.one hw) e'
  exact ⟨t, o, stp _ q, r⟩
theorem Base.lastore (B : Base p l e R s m args below meth c Z y bytes maxL ret h0 ws C) (pc' : Nat) (hp : pc' = pc + 1) (hd : decode bytes pc = .ok (.lastore, 1)) (A : Ary Z h a .long vs) (hj : ¬ j < 0) (i : Nat) (hi : j.toNatClampNeg = i) (hlt : i < vs.length) (hw : a ∈ ws ∨ h0.size ≤ a) {x : Int64} (k : ∀ h', Wr h h' a i (.long x) → Ary Z h' a .long (vs.set i (.long x)) → B.G h' cl sl (mkF m pc' Ls st)) : B.G h cl sl (mkF m pc Ls (.long x :: .int j :: .ref a :: st)) := fun T locs X N eT => by
  subst hp
  obtain ⟨c1, A1, r1⟩ := A
  obtain ⟨T', h', X', e', W, stp⟩ := stJ X B.1 B.2.2.2.1 eT A1 (ary_lt r1 hj hi hlt) (g := mkF m pc Ls (.long x :: .int j :: .ref a :: st)) rfl rfl (hb B.2.1 hd)
  rw [hi] at W
  obtain ⟨t, o, q, r⟩ := k h' W (Ary.set ⟨c1, A1, r1⟩ W) T' _ X' (N.one hw) e'
  exact ⟨t, o, stp _ q, r⟩
theorem Base.caload (B : Base p l e R s m args below meth c Z y bytes maxL ret h0 ws C) (pc' : Nat) (hp : pc' = pc + 1) (hd : decode bytes pc = .ok (.caload, 1)) (A : Ary Z h a .char vs) (hj : ¬ j < 0) (i : Nat) (hi : j.toNatClampNeg = i) (v : Value) (hv : vs[i]? = some v) (k : B.G h cl sl (mkF m pc' Ls (v :: st))) : B.G h cl sl (mkF m pc Ls (.int j :: .ref a :: st)) := by
  subst hp
  obtain ⟨c1, A, r⟩ := A
  obtain ⟨q1, q2⟩ := ary_in r hj hi hv
  exact B.viaX (fun T t L X eT r => X.caload (g := mkF m pc Ls (.int j :: .ref a :: st)) B.1 (by rw [eT]; exact A.1) (State.isArrayOf_alike (T := s) B.2.2.2.1.alike A.2.1) A.2.2 q1 q2 rfl rfl (hb B.2.1 hd) t r) k
theorem Base.castore (B : Base p l e R s m args below meth c Z y bytes maxL ret h0 ws C) (pc' : Nat) (hp : pc' = pc + 1) (hd : decode bytes pc = .ok (.castore, 1)) (A : Ary Z h a .char vs) (hj : ¬ j < 0) (i : Nat) (hi : j.toNatClampNeg = i) (hlt : i < vs.length) (hw : a ∈ ws ∨ h0.size ≤ a) {x : Int32} (k : ∀ h', Wr h h' a i (.int x.toUInt32.toUInt16.toUInt32.toInt32) → Ary Z h' a .char (vs.set i (.int x.toUInt32.toUInt16.toUInt32.toInt32)) → B.G h' cl sl (mkF m pc' Ls st)) : B.G h cl sl (mkF m pc Ls (.int x :: .int j :: .ref a :: st)) := fun T locs X N eT => by
  subst hp
  obtain ⟨c1, A1, r1⟩ := A
  obtain ⟨T', h', X', e', W, stp⟩ := stC X B.1 B.2.2.2.1 eT A1 (ary_lt r1 hj hi hlt) (g := mkF m pc Ls (.int x :: .int j :: .ref a :: st)) rfl rfl (hb B.2.1 hd)
  rw [hi] at W
  obtain ⟨t, o, q, r⟩ := k h' W (Ary.set ⟨c1, A1, r1⟩ W) T' _ X' (N.one hw) e'
  exact ⟨t, o, stp _ q, r⟩
theorem Base.newPE (B : Base p l e R s m args below meth c Z y bytes maxL ret h0 ws C) (pc' : Nat) (hp : pc' = pc + 2) {aty : ArrayType} (hd : decode bytes pc = .ok (.newarray aty, 2)) (w : (Cond.arrayClass (newarray.typeOf aty)).before a0 Z = true) {n : Int32} (hn : ¬ n < 0) (cap : Nat) (hcap : n.toNatClampNeg ≤ cap) (hb' : cap * 8 ≤ 536870912) (hc : cl + 1 ≤ R.cells) (hs : sl + cap ≤ R.slots) (ad : String) (had : "[" ++ (newarray.typeOf aty).toString = ad)
    (k : ∀ h' a, a = h.size → h0.size ≤ a → Ext h h' → Ary Z h' a (newarray.typeOf aty) (List.replicate n.toNatClampNeg (defaultValue (newarray.typeOf aty))) → Exa Z h' a ad → B.G h' (cl + 1) (sl + cap) (mkF m pc' Ls (.ref a :: st))) : B.G h cl sl (mkF m pc Ls (.int n :: st)) := fun T locs X N eT => by
  subst hp
  obtain ⟨T', h', cA, X', e', E, A, A2, stp⟩ := Jvm.RoadKit.newPE X B.1 B.2.2.2.1 w eT (g := mkF m pc Ls (.int n :: st)) rfl (hb B.2.1 hd) rfl hn hcap hb' hc hs had
  obtain ⟨t, o, q, r⟩ := k h' _ rfl (by rw [← eT]; exact B.size X) E (Ary.new A) A2 T' locs X' N e'
  exact ⟨t, o, stp _ q, r⟩
theorem Base.clone (B : Base p l e R s m args below meth c Z y bytes maxL ret h0 ws C) (pc' : Nat) (hp : pc' = pc + 3) {ix : Nat} {ad : String} (hd : decode bytes pc = .ok (.invokevirtual ix, 3))
    (w1 : (Cond.methodLink y.cls ix ⟨ad, "clone", "()Ljava/lang/Object;"⟩).before a0 Z = true) (w2 : (Cond.sameMethod ad "java/lang/Object" "clone" "()Ljava/lang/Object;").before a0 Z = true) (w3 : (Cond.native ⟨"java/lang/Object", "clone", "()Ljava/lang/Object;"⟩).before a0 Z = true)
    (w4 : (Cond.instanceMethod ⟨"java/lang/Object", "clone", "()Ljava/lang/Object;"⟩).before a0 Z = true) (w5 : (Cond.selects ad ⟨ad, "clone", "()Ljava/lang/Object;"⟩ ⟨"java/lang/Object", "clone", "()Ljava/lang/Object;"⟩).before a0 Z = true) (w6 : (Cond.castable ad "java/lang/Cloneable").before a0 Z = true)
    (A : Ary Z h a ty vs) (E : Exa Z h a ad) (hfit : ∀ v ∈ vs, fits ty v = true) (hLs : Ls.size = maxL) (W : Nat) (hW : (st.map fun v => v.category).sum = W) (hf : 1 ≤ R.frames) (hl : W + 14 ≤ R.locals) (cap : Nat) (hcap : vs.length ≤ cap) (hc : cl + 1 ≤ R.cells) (hs : sl + cap ≤ R.slots)
    (k : ∀ h' b, b = h.size → h0.size ≤ b → Ext h h' → Ary Z h' b ty vs → Exa Z h' b ad → B.G h' (cl + 1) (sl + cap) (mkF m pc' Ls (.ref b :: st))) : B.G h cl sl (mkF m pc Ls (.ref a :: st)) := fun T locs X N eT => by
  subst hp
  obtain ⟨c1, A1, r1⟩ := A
  have FC : FitC Z c1 := fitC_of A1 fun i hi v hv => hfit v (by rw [← r1]; exact Array.mem_toList_iff.mpr (Array.mem_of_getElem? hv))
  obtain ⟨T', h', X', e', ex, A', E', stp⟩ := cloneA X B.1 B.2.2.2.1 B.2.2.2.2.1 w1 w2 w3 w4 w5 w6 eT A1 E FC (g := mkF m pc Ls (.ref a :: st)) rfl (hLs.trans B.2.2.1.symm) rfl (hb B.2.1 hd) hf (W := W) (cap := cap) (by show 2 * 0 + _ ≤ _; omega) hl (by rw [← r1, Array.length_toList] at hcap; exact hcap) hc hs
  obtain ⟨t, o, q, r⟩ := k h' _ rfl (by rw [← eT]; exact B.size X) ex ⟨_, A', r1⟩ E' T' locs X' N e'
  exact ⟨t, o, stp _ q, r⟩
theorem Base.castY (B : Base p l e R s m args below meth c Z y bytes maxL ret h0 ws C) (pc' : Nat) (hp : pc' = pc + 3) {ix : Nat} {K : String} (hd : decode bytes pc = .ok (.checkcast ix, 3)) (w : (Cond.classLink y.cls ix K).before a0 Z = true) (F : Ins Z h a K true) (k : B.G h cl sl (mkF m pc' Ls (.ref a :: st))) : B.G h cl sl (mkF m pc Ls (.ref a :: st)) := fun T locs X N eT => by
  subst hp
  obtain ⟨T', X', e', stp⟩ := Jvm.RoadKit.castY X B.1 B.2.2.2.1 B.2.2.2.2.1 w eT F (g := mkF m pc Ls (.ref a :: st)) rfl rfl (hb B.2.1 hd)
  obtain ⟨t, o, q, r⟩ := k T' locs X' N e'
  exact ⟨t, o, stp _ q, r⟩
theorem Base.instY (B : Base p l e R s m args below meth c Z y bytes maxL ret h0 ws C) (pc' : Nat) (hp : pc' = pc + 3) {ix : Nat} {K : String} (hd : decode bytes pc = .ok (.instanceof ix, 3)) (w : (Cond.classLink y.cls ix K).before a0 Z = true) (F : Ins Z h a K true) (k : B.G h cl sl (mkF m pc' Ls (.int 1 :: st))) : B.G h cl sl (mkF m pc Ls (.ref a :: st)) := fun T locs X N eT => by
  subst hp
  obtain ⟨T', X', e', stp⟩ := Jvm.RoadKit.instY X B.1 B.2.2.2.1 B.2.2.2.2.1 w eT F (g := mkF m pc Ls (.ref a :: st)) rfl rfl (hb B.2.1 hd)
  obtain ⟨t, o, q, r⟩ := k T' locs X' N e'
  exact ⟨t, o, stp _ q, r⟩
theorem Base.instN (B : Base p l e R s m args below meth c Z y bytes maxL ret h0 ws C) (pc' : Nat) (hp : pc' = pc + 3) {ix : Nat} {K CC : String} (hd : decode bytes pc = .ok (.instanceof ix, 3)) (w : (Cond.classLink y.cls ix K).before a0 Z = true) (E : Exa Z h a CC) (F : ∃ c t, Z.vm.findClass CC = some c ∧ Z.vm.findClass K = some t ∧ Z.vm.assignable c t = false) (k : B.G h cl sl (mkF m pc' Ls (.int 0 :: st))) : B.G h cl sl (mkF m pc Ls (.ref a :: st)) := fun T locs X N eT => by
  subst hp
  obtain ⟨T', X', e', stp⟩ := instNo X B.1 B.2.2.2.1 B.2.2.2.2.1 w eT E F (g := mkF m pc Ls (.ref a :: st)) rfl rfl (hb B.2.1 hd)
  obtain ⟨t, o, q, r⟩ := k T' locs X' N e'
  exact ⟨t, o, stp _ q, r⟩
theorem Base.inst0 (B : Base p l e R s m args below meth c Z y bytes maxL ret h0 ws C) (pc' : Nat) (hp : pc' = pc + 3) {ix : Nat} (hd : decode bytes pc = .ok (.instanceof ix, 3)) (k : B.G h cl sl (mkF m pc' Ls (.int 0 :: st))) : B.G h cl sl (mkF m pc Ls (.null :: st)) := by
  subst hp
  exact B.viaX (fun T t L X eT r => X.instanceofNull B.1 (g := mkF m pc Ls (.null :: st)) rfl rfl (hb B.2.1 hd) t r) k
theorem Base.aaload (B : Base p l e R s m args below meth c Z y bytes maxL ret h0 ws C) (pc' : Nat) (hp : pc' = pc + 1) (hd : decode bytes pc = .ok (.aaload, 1)) (A : Ary Z h a ty vs) (hty : ty.isReference = true) (hj : ¬ j < 0) (i : Nat) (hi : j.toNatClampNeg = i) (v : Value) (hv : vs[i]? = some v) (k : B.G h cl sl (mkF m pc' Ls (v :: st))) : B.G h cl sl (mkF m pc Ls (.int j :: .ref a :: st)) := by
  subst hp
  obtain ⟨c1, A, r⟩ := A
  obtain ⟨q1, q2⟩ := ary_in r hj hi hv
  exact B.viaX (fun T t L X eT r => X.aaload (g := mkF m pc Ls (.int j :: .ref a :: st)) B.1 (by rw [eT]; exact A.1) (State.isArrayOf_alike (T := s) B.2.2.2.1.alike A.2.1) hty A.2.2 q1 q2 rfl rfl (hb B.2.1 hd) t r) k
theorem ns_root {O K : String} {n : Nat} (w : (Cond.noSuperclass O).before a0 Z = true) (wk : (Cond.instantiable K n).before a0 Z = true) (hn : O ≠ K) : NS Z O K := by
  obtain ⟨c, k, h1, h2, h3, -, -⟩ := Cond.noSuperclass_spec w
  obtain ⟨t, -, g1, -⟩ := Cond.instantiable_spec wk
  have ne := ids_ne h1 g1 hn
  refine ⟨c, t, h1, g1, fun fuel => ?_⟩
  cases fuel with
  | zero => rfl
  | succ f => simp [Vm.isSubclassAux, ne, h2, h3]
theorem ns_no {CC K : String} {n n' : Nat} (w : (Cond.instantiable CC n').before a0 Z = true) (wk : (Cond.instantiable K n).before a0 Z = true) (q : NS Z CC K) (hn : CC ≠ K) : ∃ c t, Z.vm.findClass CC = some c ∧ Z.vm.findClass K = some t ∧ Z.vm.assignable c t = false := by
  obtain ⟨c, t, h0, g0, n3⟩ := q
  obtain ⟨c1, k, h1, h2, h5, -⟩ := Cond.instantiable_spec w
  obtain ⟨t1, k', g1, g2, g5, g7, -⟩ := Cond.instantiable_spec wk
  cases h0.symm.trans h1
  cases g0.symm.trans g1
  have ne := ids_ne h0 g0 hn
  have g8 : k'.isInterface = false := by simp only [Bool.or_eq_false_iff] at g7; exact g7.1
  refine ⟨c, t, h0, g0, ?_⟩
  show Z.vm.assignableAux (255 + 1) c t = false
  simp [Vm.assignableAux, ne, h2, g2, h5, g5, g8, Vm.isSubclass, n3]
end Arrays
/-! 5. the words -/
theorem wd {L : List Jvm.Cond} {a0 : Array Value} {Z : State} (hw : ∀ d ∈ L, d.before a0 Z = true) (i : Nat) {d : Jvm.Cond} (q : L[i]? = some d) : d.before a0 Z = true := hw d (List.mem_of_getElem? q)
/-! 6. from the words of a case -/
theorem fld_start {args : Array Value} {s : State} {t : Term} {a : Addr} {O n d : String} {z : Int32} (ht : t.eval args s none [] s = some (.ref a)) (q : (Cond.eq (.field t O n d) (.int z)).value args s none s [] = some true) : Fld s s.heap a O n d (.int z) :=
  Fld.start ((fld_at ht).symm.trans (eqv_i rfl q))
theorem eval_int {args : Array Value} {s : State} {u w : Term} {z : Int32} (q : (Cond.eq u w).value args s none s [] = some true) (hw : w.eval args s none [] s = some (.int z)) : u.eval args s none [] s = some (.int z) := by
  cases hv : u.eval args s none [] s with
  | none => simp [Cond.value, hv] at q
  | some v =>
    cases v <;> simp [Cond.value, hv, hw] at q
    subst q; rfl
theorem eval_ref {args : Array Value} {s : State} {u w : Term} {z : Addr} (q : (Cond.eq u w).value args s none s [] = some true) (hw : w.eval args s none [] s = some (.ref z)) : u.eval args s none [] s = some (.ref z) := by
  cases hv : u.eval args s none [] s with
  | none => simp [Cond.value, hv] at q
  | some v =>
    cases v <;> simp [Cond.value, hv, hw] at q
    subst q; rfl
/-- an array of the start, of known length and places -/
theorem ary_start {args : Array Value} {s : State} {t : Term} {a : Addr} {ty : FieldType} {vs : List Value} {n : Int32} (ht : t.eval args s none [] s = some (.ref a)) (hA : (Cond.arrayOf t ty).value args s none s [] = some true)
    (hl : (Cond.eq (.length t) (.int n)).value args s none s [] = some true) (hn : n.toNatClampNeg = vs.length) (hn0 : ¬ n < 0) (he : ∀ i, i < vs.length → ∃ v, vs[i]? = some v ∧ (Term.elem t (.int (Int32.ofNat i))).eval args s none [] s = some v) : Ary s s.heap a ty vs := by
  obtain ⟨c, A⟩ := Arr.start ht hA
  have e1 := eval_int hl rfl
  simp only [Term.eval, ht, Option.bind_eq_bind, Option.bind_some] at e1
  have hat : s.arrayAt? a = some c := A.fin (Vm.Alike.refl _)
  rw [hat] at e1
  simp only [Option.bind_some] at e1
  split at e1
  · rename_i hs
    simp only [Option.pure_def, Option.some.injEq, Value.int.injEq] at e1
    have hsz : c.slots.size = vs.length := by
      rw [← hn, ← e1]
      have := len_toInt hs
      simp only [Int32.toNatClampNeg, this]; omega
    refine ⟨c, A, ?_⟩
    apply List.ext_getElem?
    intro i
    by_cases hi : i < vs.length
    · obtain ⟨v, q1, q2⟩ := he i hi
      obtain ⟨cell, r1, -, r3⟩ := elem_at q2 ht rfl
      cases A.1.symm.trans r1
      have : (Int32.ofNat i).toNatClampNeg = i := by
        have := Int32.toInt_ofNat_small (show i < 2 ^ 31 by omega)
        simp only [Int32.toNatClampNeg, this]; omega
      rw [this] at r3
      rw [q1, Array.getElem?_toList]; exact r3
    · rw [List.getElem?_eq_none (by rw [Array.length_toList, hsz]; omega), List.getElem?_eq_none (by omega)]
  · simp at e1
end Jvm.Own
namespace Jvm.Pilot.@@N@@
open Jvm Jvm.ClassFile Sem Op Lib Jvm.Free Jvm.Stand Jvm.LawKit Jvm.RoadKit Jvm.Own Bundle Jvm.Pilot.@@N@@.Jvm.D
theorem pd__Ljava_util_List__BLjava_lang_String_Ljava_lang_String__V : parseMethodDescriptor "(Ljava/util/List;[BLjava/lang/String;Ljava/lang/String;)V" = some ⟨[(.object "java/util/List"), (.array .byte), (.object "java/lang/String"), (.object "java/lang/String")], none⟩ := by decide +kernel
theorem pd___BI_B : parseMethodDescriptor "([BI)B" = some ⟨[(.array .byte), .int], some .byte⟩ := by decide +kernel
theorem pd___CIILjava_lang_Void__V : parseMethodDescriptor "([CIILjava/lang/Void;)V" = some ⟨[(.array .char), .int, .int, (.object "java/lang/Void")], none⟩ := by decide +kernel
theorem pd___CII__B : parseMethodDescriptor "([CII)[B" = some ⟨[(.array .char), .int, .int], some (.array .byte)⟩ := by decide +kernel
theorem pd___CI_BII_I : parseMethodDescriptor "([CI[BII)I" = some ⟨[(.array .char), .int, (.array .byte), .int, .int], some .int⟩ := by decide +kernel
theorem pd___C_V : parseMethodDescriptor "([C)V" = some ⟨[(.array .char)], none⟩ := by decide +kernel
theorem pd___V : parseMethodDescriptor "()V" = some ⟨[], none⟩ := by decide +kernel
theorem pd___Z : parseMethodDescriptor "()Z" = some ⟨[], some .boolean⟩ := by decide +kernel
theorem own_c (x : Int32) : ¬ (255 : Int32) < x &&& 255 := by
  have h : (x &&& 255).toInt = x.toInt % 2 ^ 8 := Jvm.Kit.i32_mask x 255 (k := 8) (by decide) (by decide)
  rw [Int32.lt_iff_toInt_lt, h]; simp only [Int32.reduceToInt]; omega
theorem own_stk {Z : State} {h h' : Heap} {a : Addr} {O n d K : String} {v : Value} (S : Sta Z h O n d v) (E : Exa Z h a K) (K1 : Keep h h' [a]) : Sta Z h' O n d v := by
  obtain ⟨cf, i, k, f, st, cell, h1, h2, h3, h4, h5, h6, h7⟩ := S
  refine ⟨cf, i, k, f, st, cell, h1, h2, h3, h4, K1.2.1 _ _ h5 ?_, h6, h7⟩
  intro q
  cases List.mem_singleton.mp q
  obtain ⟨c, kk, e1, e2, e3, e4, e5⟩ := E
  cases h5.symm.trans e1
  simp_all
theorem d8_0 : decode jdk_52_method_21_code 0 = .ok (.iconst 0, 1) := by decide +kernel
theorem d8_1 : decode jdk_52_method_21_code 1 = .ok (.istore 5, 2) := by decide +kernel
theorem d8_3 : decode jdk_52_method_21_code 3 = .ok (.iload 5, 2) := by decide +kernel
theorem d8_5 : decode jdk_52_method_21_code 5 = .ok (.iload 4, 2) := by decide +kernel
theorem d8_7 : decode jdk_52_method_21_code 7 = .ok (.if_icmp .ge 37, 3) := by decide +kernel
theorem d8_10 : decode jdk_52_method_21_code 10 = .ok (.aload_n 0, 1) := by decide +kernel
theorem d8_11 : decode jdk_52_method_21_code 11 = .ok (.iload_n 1, 1) := by decide +kernel
theorem d8_12 : decode jdk_52_method_21_code 12 = .ok (.caload, 1) := by decide +kernel
theorem d8_13 : decode jdk_52_method_21_code 13 = .ok (.istore 6, 2) := by decide +kernel
theorem d8_15 : decode jdk_52_method_21_code 15 = .ok (.iload 6, 2) := by decide +kernel
theorem d8_17 : decode jdk_52_method_21_code 17 = .ok (.sipush 255, 3) := by decide +kernel
theorem d8_20 : decode jdk_52_method_21_code 20 = .ok (.if_icmp .le 6, 3) := by decide +kernel
theorem d8_26 : decode jdk_52_method_21_code 26 = .ok (.aload_n 2, 1) := by decide +kernel
theorem d8_27 : decode jdk_52_method_21_code 27 = .ok (.iload_n 3, 1) := by decide +kernel
theorem d8_28 : decode jdk_52_method_21_code 28 = .ok (.iload 6, 2) := by decide +kernel
theorem d8_30 : decode jdk_52_method_21_code 30 = .ok (.i2b, 1) := by decide +kernel
theorem d8_31 : decode jdk_52_method_21_code 31 = .ok (.bastore, 1) := by decide +kernel
theorem d8_32 : decode jdk_52_method_21_code 32 = .ok (.iinc 1 1, 3) := by decide +kernel
theorem d8_35 : decode jdk_52_method_21_code 35 = .ok (.iinc 3 1, 3) := by decide +kernel
theorem d8_38 : decode jdk_52_method_21_code 38 = .ok (.iinc 5 1, 3) := by decide +kernel
theorem d8_41 : decode jdk_52_method_21_code 41 = .ok (.goto (-38), 3) := by decide +kernel
theorem d8_44 : decode jdk_52_method_21_code 44 = .ok (.iload 4, 2) := by decide +kernel
theorem d8_46 : decode jdk_52_method_21_code 46 = .ok (.ireturn, 1) := by decide +kernel
theorem pn_8 : plainFor (⟨"java/lang/StringUTF16", "compress", "([CI[BII)I"⟩ : MethodName) = true := by first | exact plainFor_of_name (by first | (simp [plainName, overriddenIn]; done) | decide +kernel) | decide +kernel
set_option maxRecDepth 65536 in
set_option maxHeartbeats 4000000 in
theorem rm_cp1 (l : Launch) (Z : State) (a0 : Array Value) (hw : ∀ d ∈ tables_1, d.before a0 Z = true) (ca vb : Addr) (x0 : Int32) (h0 : Heap) (hx0 : ¬ (255 : Int32) < x0) (ne : ca ≠ vb) (A_ca : Ary Z h0 ca .char [(.int x0)]) (A_vb : Ary Z h0 vb .byte [(.int (0 : Int32))]) :
    Met l Z (⟨"java/lang/StringUTF16", "compress", "([CI[BII)I"⟩ : MethodName) jdk_52_method_21_code 7 (some .int) [] ({ frames := 0, cells := 0, slots := 0, locals := 0 } : Room) #[(.ref ca), (.int (0 : Int32)), (.ref vb), (.int (0 : Int32)), (.int (1 : Int32))] h0 [vb] (fun v h => v = some (.int (1 : Int32)) ∧ Ary Z h vb .byte [(.int ((x0.toInt8.toInt32).toInt8.toInt32))]) := by
  refine Met.walk pn_8 (Ls := #[.val (.ref ca), .val (.int (0 : Int32)), .val (.ref vb), .val (.int (0 : Int32)), .val (.int (1 : Int32)), .unset, .unset]) (fun m => by first | (simp [entryFrame, mkF, argsToLocals, Value.category, maxLocals]; done) | rfl) ?_
  intro p e s m below meth c B
  refine B.iconst 1 rfl (0 : Int32) d8_0 rfl ?_
  refine B.istore 3 rfl d8_1 #[.val (.ref ca), .val (.int (0 : Int32)), .val (.ref vb), .val (.int (0 : Int32)), .val (.int (1 : Int32)), .val (.int (0 : Int32)), .unset] rfl ?_
  refine B.iload 5 rfl d8_3 rfl ?_
  refine B.iload 7 rfl d8_5 rfl ?_
  refine B.icmp_ge 44 10 rfl (by decide) rfl d8_7 (fun c7 => ?_) (fun c7 => ?_)
  · exact absurd c7 (by decide)
  · refine B.aloadN 11 rfl d8_10 rfl rfl ?_
    refine B.iloadN 12 rfl d8_11 rfl ?_
    refine B.caload 13 rfl d8_12 A_ca (by decide) 0 rfl (.int x0) rfl ?_
    refine B.istore 15 rfl d8_13 #[.val (.ref ca), .val (.int (0 : Int32)), .val (.ref vb), .val (.int (0 : Int32)), .val (.int (1 : Int32)), .val (.int (0 : Int32)), .val (.int x0)] rfl ?_
    refine B.iload 17 rfl d8_15 rfl ?_
    refine B.sipush 20 rfl (255 : Int32) d8_17 rfl ?_
    refine B.icmp_le 26 23 rfl (by decide) rfl d8_20 (fun c20 => ?_) (fun c20 => ?_)
    · refine B.aloadN 27 rfl d8_26 rfl rfl ?_
      refine B.iloadN 28 rfl d8_27 rfl ?_
      refine B.iload 30 rfl d8_28 rfl ?_
      refine B.i2b 31 rfl d8_30 ?_
      refine B.bastore 32 rfl d8_31 A_vb (by decide) 0 rfl (by simp) (Or.inl (by simp)) ?_
      intro hs1 Ws1 As1
      replace As1 : Ary Z hs1 vb .byte [(.int ((x0.toInt8.toInt32).toInt8.toInt32))] := As1
      have A_ca_1 := A_ca.other Ws1 ne
      refine B.iinc 35 rfl (1 : Int32) d8_32 rfl rfl #[.val (.ref ca), .val (.int (1 : Int32)), .val (.ref vb), .val (.int (0 : Int32)), .val (.int (1 : Int32)), .val (.int (0 : Int32)), .val (.int x0)] rfl ?_
      refine B.iinc 38 rfl (1 : Int32) d8_35 rfl rfl #[.val (.ref ca), .val (.int (1 : Int32)), .val (.ref vb), .val (.int (1 : Int32)), .val (.int (1 : Int32)), .val (.int (0 : Int32)), .val (.int x0)] rfl ?_
      refine B.iinc 41 rfl (1 : Int32) d8_38 rfl rfl #[.val (.ref ca), .val (.int (1 : Int32)), .val (.ref vb), .val (.int (1 : Int32)), .val (.int (1 : Int32)), .val (.int (1 : Int32)), .val (.int x0)] rfl ?_
      refine B.goto 3 rfl (by decide) d8_41 ?_
      refine B.iload 5 rfl d8_3 rfl ?_
      refine B.iload 7 rfl d8_5 rfl ?_
      refine B.icmp_ge 44 10 rfl (by decide) rfl d8_7 (fun c7_1 => ?_) (fun c7_1 => ?_)
      · refine B.iload 46 rfl d8_44 rfl ?_
        refine B.retI d8_46 (by decide) (by decide) ?_
        exact ⟨rfl, As1⟩
      · exact absurd c7_1 (by decide)
    · exact absurd c20 (by assumption)
theorem d7_0 : decode jdk_52_method_16_code 0 = .ok (.iload_n 2, 1) := by decide +kernel
theorem d7_1 : decode jdk_52_method_16_code 1 = .ok (.newarray .byte, 2) := by decide +kernel
theorem d7_3 : decode jdk_52_method_16_code 3 = .ok (.astore_n 3, 1) := by decide +kernel
theorem d7_4 : decode jdk_52_method_16_code 4 = .ok (.aload_n 0, 1) := by decide +kernel
theorem d7_5 : decode jdk_52_method_16_code 5 = .ok (.iload_n 1, 1) := by decide +kernel
theorem d7_6 : decode jdk_52_method_16_code 6 = .ok (.aload_n 3, 1) := by decide +kernel
theorem d7_7 : decode jdk_52_method_16_code 7 = .ok (.iconst 0, 1) := by decide +kernel
theorem d7_8 : decode jdk_52_method_16_code 8 = .ok (.iload_n 2, 1) := by decide +kernel
theorem d7_9 : decode jdk_52_method_16_code 9 = .ok (.invokestatic 115, 3) := by decide +kernel
theorem d7_12 : decode jdk_52_method_16_code 12 = .ok (.istore 4, 2) := by decide +kernel
theorem d7_14 : decode jdk_52_method_16_code 14 = .ok (.iload 4, 2) := by decide +kernel
theorem d7_16 : decode jdk_52_method_16_code 16 = .ok (.iload_n 2, 1) := by decide +kernel
theorem d7_17 : decode jdk_52_method_16_code 17 = .ok (.if_icmp .eq 40, 3) := by decide +kernel
theorem d7_57 : decode jdk_52_method_16_code 57 = .ok (.aload_n 3, 1) := by decide +kernel
theorem d7_58 : decode jdk_52_method_16_code 58 = .ok (.areturn, 1) := by decide +kernel
theorem pn_7 : plainFor (⟨"java/lang/StringUTF16", "compress", "([CII)[B"⟩ : MethodName) = true := by first | exact plainFor_of_name (by first | (simp [plainName, overriddenIn]; done) | decide +kernel) | decide +kernel
set_option maxRecDepth 65536 in
set_option maxHeartbeats 4000000 in
theorem rm_cb1 (l : Launch) (Z : State) (a0 : Array Value) (hw : ∀ d ∈ tables_1, d.before a0 Z = true) (ca : Addr) (x0 : Int32) (h0 : Heap) (hx0 : ¬ (255 : Int32) < x0) (A_ca : Ary Z h0 ca .char [(.int x0)]) :
    Met l Z (⟨"java/lang/StringUTF16", "compress", "([CII)[B"⟩ : MethodName) jdk_52_method_16_code 6 (some (.array .byte)) [] ({ frames := 1, cells := 1, slots := 1, locals := 18 } : Room) #[(.ref ca), (.int (0 : Int32)), (.int (1 : Int32))] h0 [] (fun v h => ∃ vb, v = some (.ref vb) ∧ h0.size ≤ vb ∧ Ary Z h vb .byte [(.int ((x0.toInt8.toInt32).toInt8.toInt32))]) := by
  refine Met.walk pn_7 (Ls := #[.val (.ref ca), .val (.int (0 : Int32)), .val (.int (1 : Int32)), .unset, .unset, .unset]) (fun m => by first | (simp [entryFrame, mkF, argsToLocals, Value.category, maxLocals]; done) | rfl) ?_
  intro p e s m below meth c B
  refine B.iloadN 1 rfl d7_0 rfl ?_
  refine B.newP 3 rfl d7_1 (wd hw 44 rfl) (by decide) 1 (by decide) (by decide) (by decide) (by decide) ?_
  intro h_vb vb e_vb g_vb X_vb A_vb
  replace A_vb : Ary Z h_vb vb .byte [(.int (0 : Int32))] := A_vb
  show B.G h_vb 1 1 (mkF m 3 #[.val (.ref ca), .val (.int (0 : Int32)), .val (.int (1 : Int32)), .unset, .unset, .unset] [(.ref vb)])
  have n_ca_vb : ca ≠ vb := fun q => absurd A_ca.lt (by rw [q, e_vb]; exact Nat.lt_irrefl _)
  have A_ca_1 := A_ca.ext X_vb
  refine B.astoreN 4 rfl d7_3 rfl #[.val (.ref ca), .val (.int (0 : Int32)), .val (.int (1 : Int32)), .val (.ref vb), .unset, .unset] rfl ?_
  refine B.aloadN 5 rfl d7_4 rfl rfl ?_
  refine B.iloadN 6 rfl d7_5 rfl ?_
  refine B.aloadN 7 rfl d7_6 rfl rfl ?_
  refine B.iconst 8 rfl (0 : Int32) d7_7 rfl ?_
  refine B.iloadN 9 rfl d7_8 rfl ?_
  refine B.callS 12 rfl d7_9 (wd hw 45 rfl) (wd hw 46 rfl) (wd hw 42 rfl) (wd hw 47 rfl) (by decide) [(.ref ca), (.int (0 : Int32)), (.ref vb), (.int (0 : Int32)), (.int (1 : Int32))] [] (rm_cp1 l Z a0 hw ca vb x0 h_vb hx0 n_ca_vb A_ca_1 A_vb) rfl rfl pd___CI_BII_I rfl rfl 0 rfl (by decide) (by decide) (by decide) (by decide) (fun x z => Or.inr (by cases List.mem_singleton.mp z; exact g_vb)) ?_
  rintro _ h2 K2 ⟨rfl, A2⟩
  show B.G h2 1 1 (mkF m 12 #[.val (.ref ca), .val (.int (0 : Int32)), .val (.int (1 : Int32)), .val (.ref vb), .unset, .unset] [(.int (1 : Int32))])
  refine B.istore 14 rfl d7_12 #[.val (.ref ca), .val (.int (0 : Int32)), .val (.int (1 : Int32)), .val (.ref vb), .val (.int (1 : Int32)), .unset] rfl ?_
  refine B.iload 16 rfl d7_14 rfl ?_
  refine B.iloadN 17 rfl d7_16 rfl ?_
  refine B.icmp_eq 57 20 rfl (by decide) rfl d7_17 (fun c17 => ?_) (fun c17 => ?_)
  · refine B.aloadN 58 rfl d7_57 rfl rfl ?_
    refine B.retA rfl rfl d7_58 (by decide) (by decide) ?_
    exact ⟨vb, rfl, g_vb, A2⟩
  · exact absurd c17 (by decide)
theorem d9_0 : decode jdk_52_method_15_code 0 = .ok (.iload_n 1, 1) := by decide +kernel
theorem d9_1 : decode jdk_52_method_15_code 1 = .ok (.aload_n 0, 1) := by decide +kernel
theorem d9_2 : decode jdk_52_method_15_code 2 = .ok (.arraylength, 1) := by decide +kernel
theorem d9_3 : decode jdk_52_method_15_code 3 = .ok (.isub, 1) := by decide +kernel
theorem d9_4 : decode jdk_52_method_15_code 4 = .ok (.bipush 31, 2) := by decide +kernel
theorem d9_6 : decode jdk_52_method_15_code 6 = .ok (.iushr, 1) := by decide +kernel
theorem d9_7 : decode jdk_52_method_15_code 7 = .ok (.i2b, 1) := by decide +kernel
theorem d9_8 : decode jdk_52_method_15_code 8 = .ok (.ireturn, 1) := by decide +kernel
theorem pn_9 : plainFor (⟨"java/lang/StringUTF16", "coderFromArrayLen", "([BI)B"⟩ : MethodName) = true := by first | exact plainFor_of_name (by first | (simp [plainName, overriddenIn]; done) | decide +kernel) | decide +kernel
set_option maxRecDepth 65536 in
set_option maxHeartbeats 4000000 in
theorem rm_co1 (l : Launch) (Z : State) (a0 : Array Value) (hw : ∀ d ∈ tables_1, d.before a0 Z = true) (vb : Addr) (vs : List Value) (h0 : Heap) (hn : vs.length.toInt32 = (1 : Int32)) (A : Ary Z h0 vb .byte vs) :
    Met l Z (⟨"java/lang/StringUTF16", "coderFromArrayLen", "([BI)B"⟩ : MethodName) jdk_52_method_15_code 2 (some .byte) [] ({ frames := 0, cells := 0, slots := 0, locals := 0 } : Room) #[(.ref vb), (.int (1 : Int32))] h0 [] (fun v h => v = some (.int (0 : Int32)) ∧ h0 = h) := by
  refine Met.walk pn_9 (Ls := #[.val (.ref vb), .val (.int (1 : Int32))]) (fun m => by first | (simp [entryFrame, mkF, argsToLocals, Value.category, maxLocals]; done) | rfl) ?_
  intro p e s m below meth c B
  refine B.iloadN 1 rfl d9_0 rfl ?_
  refine B.aloadN 2 rfl d9_1 rfl rfl ?_
  refine B.arrlen 3 rfl d9_2 A (1 : Int32) hn ?_
  refine B.isub 4 rfl d9_3 ?_
  refine B.topI (0 : Int32) (by decide) ?_
  refine B.bipush 6 rfl (31 : Int32) d9_4 rfl ?_
  refine B.iushr 7 rfl d9_6 ?_
  refine B.topI (0 : Int32) (by decide) ?_
  refine B.i2b 8 rfl d9_7 ?_
  refine B.topI (0 : Int32) (by decide) ?_
  refine B.retN (by simp) d9_8 (by decide) (by decide) ?_
  exact ⟨rfl, rfl⟩
theorem d6_0 : decode jdk_42_method_149_code 0 = .ok (.aload_n 0, 1) := by decide +kernel
theorem d6_1 : decode jdk_42_method_149_code 1 = .ok (.invokespecial 1, 3) := by decide +kernel
theorem d6_4 : decode jdk_42_method_149_code 4 = .ok (.iload_n 3, 1) := by decide +kernel
theorem d6_5 : decode jdk_42_method_149_code 5 = .ok (.ifCond .ne 22, 3) := by decide +kernel
theorem d6_27 : decode jdk_42_method_149_code 27 = .ok (.getstatic 38, 3) := by decide +kernel
theorem d6_30 : decode jdk_42_method_149_code 30 = .ok (.ifCond .eq 28, 3) := by decide +kernel
theorem d6_33 : decode jdk_42_method_149_code 33 = .ok (.aload_n 1, 1) := by decide +kernel
theorem d6_34 : decode jdk_42_method_149_code 34 = .ok (.iload_n 2, 1) := by decide +kernel
theorem d6_35 : decode jdk_42_method_149_code 35 = .ok (.iload_n 3, 1) := by decide +kernel
theorem d6_36 : decode jdk_42_method_149_code 36 = .ok (.invokestatic 177, 3) := by decide +kernel
theorem d6_39 : decode jdk_42_method_149_code 39 = .ok (.astore 5, 2) := by decide +kernel
theorem d6_41 : decode jdk_42_method_149_code 41 = .ok (.aload_n 0, 1) := by decide +kernel
theorem d6_42 : decode jdk_42_method_149_code 42 = .ok (.aload 5, 2) := by decide +kernel
theorem d6_44 : decode jdk_42_method_149_code 44 = .ok (.iload_n 3, 1) := by decide +kernel
theorem d6_45 : decode jdk_42_method_149_code 45 = .ok (.invokestatic 47, 3) := by decide +kernel
theorem d6_48 : decode jdk_42_method_149_code 48 = .ok (.putfield 15, 3) := by decide +kernel
theorem d6_51 : decode jdk_42_method_149_code 51 = .ok (.aload_n 0, 1) := by decide +kernel
theorem d6_52 : decode jdk_42_method_149_code 52 = .ok (.aload 5, 2) := by decide +kernel
theorem d6_54 : decode jdk_42_method_149_code 54 = .ok (.putfield 9, 3) := by decide +kernel
theorem d6_57 : decode jdk_42_method_149_code 57 = .ok (.return_, 1) := by decide +kernel
theorem pn_6 : plainFor (⟨"java/lang/String", "<init>", "([CIILjava/lang/Void;)V"⟩ : MethodName) = true := by first | exact plainFor_of_name (by first | (simp [plainName, overriddenIn]; done) | decide +kernel) | decide +kernel
set_option maxRecDepth 65536 in
set_option maxHeartbeats 4000000 in
theorem rm_si1 (l : Launch) (Z : State) (a0 : Array Value) (hw : ∀ d ∈ tables_1, d.before a0 Z = true) (a ca : Addr) (cs x0 : Int32) (h0 : Heap) (hcs : ¬ cs = 0) (S : Sta Z h0 "java/lang/String" "COMPACT_STRINGS" "Z" (.int cs)) (E : Exa Z h0 a "java/lang/String") (Fc : Fld Z h0 a "java/lang/String" "coder" "B" (.int 0)) (Fv : Fld Z h0 a "java/lang/String" "value" "[B" .null) (A : Ary Z h0 ca .char [(.int x0)]) (hx0 : ¬ (255 : Int32) < x0) :
    Met l Z (⟨"java/lang/String", "<init>", "([CIILjava/lang/Void;)V"⟩ : MethodName) jdk_42_method_149_code 6 none [] ({ frames := 2, cells := 1, slots := 1, locals := 35 } : Room) #[(.ref a), (.ref ca), (.int (0 : Int32)), (.int (1 : Int32)), .null] h0 [a] (fun v h => v = none ∧ Exa Z h a "java/lang/String" ∧ ∃ vb, h0.size ≤ vb ∧ Fld Z h a "java/lang/String" "coder" "B" (.int 0) ∧ Fld Z h a "java/lang/String" "value" "[B" (.ref vb) ∧ Ary Z h vb .byte [(.int ((x0.toInt8.toInt32).toInt8.toInt32))]) := by
  refine Met.walk pn_6 (Ls := #[.val (.ref a), .val (.ref ca), .val (.int (0 : Int32)), .val (.int (1 : Int32)), .val .null, .unset]) (fun m => by first | (simp [entryFrame, mkF, argsToLocals, Value.category, maxLocals]; done) | rfl) ?_
  intro p e s m below meth c B
  refine B.aloadN 1 rfl d6_0 rfl rfl ?_
  refine B.initO 4 rfl d6_1 (wd hw 38 rfl) (wd hw 12 rfl) (wd hw 13 rfl) rfl 0 rfl (by decide) (by decide) ?_
  refine B.iloadN 5 rfl d6_4 rfl ?_
  refine B.if0_ne 27 8 rfl (by decide) rfl d6_5 (fun c5 => ?_) (fun c5 => ?_)
  · refine B.getS 30 rfl d6_27 (wd hw 39 rfl) S ?_
    refine B.if0_eq 58 33 rfl (by decide) rfl d6_30 (fun c30 => ?_) (fun c30 => ?_)
    · exact absurd c30 hcs
    · refine B.aloadN 34 rfl d6_33 rfl rfl ?_
      refine B.iloadN 35 rfl d6_34 rfl ?_
      refine B.iloadN 36 rfl d6_35 rfl ?_
      refine B.callS 39 rfl d6_36 (wd hw 40 rfl) (wd hw 41 rfl) (wd hw 42 rfl) (wd hw 43 rfl) (by decide) [(.ref ca), (.int (0 : Int32)), (.int (1 : Int32))] [] (rm_cb1 l Z a0 hw ca x0 h0 hx0 A) rfl rfl pd___CII__B rfl rfl 0 rfl (by decide) (by decide) (by decide) (by decide) (fun _ q => nomatch q) ?_
      rintro _ h1 K1 ⟨vb, rfl, gv, A1⟩
      show B.G h1 1 1 (mkF m 39 #[.val (.ref a), .val (.ref ca), .val (.int (0 : Int32)), .val (.int (1 : Int32)), .val .null, .unset] [(.ref vb)])
      have E1 := E.keep K1
      have Fc1 := Fc.keep K1 nin0
      have Fv1 := Fv.keep K1 nin0
      have nv : vb ≠ a := fun q => absurd E.lt (by rw [← q]; exact Nat.not_lt.mpr gv)
      refine B.astore 41 rfl d6_39 rfl #[.val (.ref a), .val (.ref ca), .val (.int (0 : Int32)), .val (.int (1 : Int32)), .val .null, .val (.ref vb)] rfl ?_
      refine B.aloadN 42 rfl d6_41 rfl rfl ?_
      refine B.aload 44 rfl d6_42 rfl rfl ?_
      refine B.iloadN 45 rfl d6_44 rfl ?_
      refine B.callS 48 rfl d6_45 (wd hw 48 rfl) (wd hw 49 rfl) (wd hw 42 rfl) (wd hw 50 rfl) (by decide) [(.ref vb), (.int (1 : Int32))] [(.ref a)] (rm_co1 l Z a0 hw vb _ h1 rfl A1) rfl rfl pd___BI_B rfl rfl 1 rfl (by decide) (by decide) (by decide) (by decide) (fun _ q => nomatch q) ?_
      rintro _ _ - ⟨rfl, rfl⟩
      show B.G h1 1 1 (mkF m 48 #[.val (.ref a), .val (.ref ca), .val (.int (0 : Int32)), .val (.int (1 : Int32)), .val .null, .val (.ref vb)] [(.int (0 : Int32)), (.ref a)])
      refine B.putF 51 rfl d6_48 (wd hw 51 rfl) Fc1 E1 (Or.inr ⟨(wd hw 52 rfl), rfl, rfl⟩) (wd hw 28 rfl) (ty := .byte) (by decide) rfl rfl (Or.inl (by simp)) ?_
      intro h2 W2
      have E2 := E1.wr W2
      have Fc2 := Fc1.same W2
      have Fv2 := Fv1.other W2 (Or.inr (slot_ne (Or.inr (wd hw 54 rfl)) (Or.inr (wd hw 52 rfl)) (by decide) (t := (.array .byte)) (t' := .byte) (by decide) (by decide)))
      have A2 := A1.other W2 nv
      refine B.aloadN 52 rfl d6_51 rfl rfl ?_
      refine B.aload 54 rfl d6_52 rfl rfl ?_
      refine B.putF 57 rfl d6_54 (wd hw 53 rfl) Fv2 E2 (Or.inr ⟨(wd hw 54 rfl), rfl, rfl⟩) (wd hw 28 rfl) (ty := (.array .byte)) (by decide) rfl rfl (Or.inl (by simp)) ?_
      intro h3 W3
      refine B.ret0 d6_57 (by decide) (by decide) ?_
      exact ⟨rfl, E2.wr W3, vb, gv, Fc2.other W3 (Or.inr (slot_ne (Or.inr (wd hw 52 rfl)) (Or.inr (wd hw 54 rfl)) (by decide) (t := .byte) (t' := (.array .byte)) (by decide) (by decide))), Fv2.same W3, A2.other W3 nv⟩
  · exact absurd c5 (by decide)
theorem d5_0 : decode jdk_42_method_3_code 0 = .ok (.aload_n 0, 1) := by decide +kernel
theorem d5_1 : decode jdk_42_method_3_code 1 = .ok (.aload_n 1, 1) := by decide +kernel
theorem d5_2 : decode jdk_42_method_3_code 2 = .ok (.iconst 0, 1) := by decide +kernel
theorem d5_3 : decode jdk_42_method_3_code 3 = .ok (.aload_n 1, 1) := by decide +kernel
theorem d5_4 : decode jdk_42_method_3_code 4 = .ok (.arraylength, 1) := by decide +kernel
theorem d5_5 : decode jdk_42_method_3_code 5 = .ok (.aconst_null, 1) := by decide +kernel
theorem d5_6 : decode jdk_42_method_3_code 6 = .ok (.invokespecial 27, 3) := by decide +kernel
theorem d5_9 : decode jdk_42_method_3_code 9 = .ok (.return_, 1) := by decide +kernel
theorem pn_5 : plainFor (⟨"java/lang/String", "<init>", "([C)V"⟩ : MethodName) = true := by first | exact plainFor_of_name (by first | (simp [plainName, overriddenIn]; done) | decide +kernel) | decide +kernel
set_option maxRecDepth 65536 in
set_option maxHeartbeats 4000000 in
theorem rm_st1 (l : Launch) (Z : State) (a0 : Array Value) (hw : ∀ d ∈ tables_1, d.before a0 Z = true) (a ca : Addr) (cs x0 : Int32) (h0 : Heap) (hcs : ¬ cs = 0) (S : Sta Z h0 "java/lang/String" "COMPACT_STRINGS" "Z" (.int cs)) (E : Exa Z h0 a "java/lang/String") (Fc : Fld Z h0 a "java/lang/String" "coder" "B" (.int 0)) (Fv : Fld Z h0 a "java/lang/String" "value" "[B" .null) (A : Ary Z h0 ca .char [(.int x0)]) (hx0 : ¬ (255 : Int32) < x0) :
    Met l Z (⟨"java/lang/String", "<init>", "([C)V"⟩ : MethodName) jdk_42_method_3_code 2 none [] ({ frames := 3, cells := 1, slots := 1, locals := 52 } : Room) #[(.ref a), (.ref ca)] h0 [a] (fun v h => v = none ∧ Exa Z h a "java/lang/String" ∧ ∃ vb, h0.size ≤ vb ∧ Fld Z h a "java/lang/String" "coder" "B" (.int 0) ∧ Fld Z h a "java/lang/String" "value" "[B" (.ref vb) ∧ Ary Z h vb .byte [(.int ((x0.toInt8.toInt32).toInt8.toInt32))]) := by
  refine Met.walk pn_5 (Ls := #[.val (.ref a), .val (.ref ca)]) (fun m => by first | (simp [entryFrame, mkF, argsToLocals, Value.category, maxLocals]; done) | rfl) ?_
  intro p e s m below meth c B
  refine B.aloadN 1 rfl d5_0 rfl rfl ?_
  refine B.aloadN 2 rfl d5_1 rfl rfl ?_
  refine B.iconst 3 rfl (0 : Int32) d5_2 rfl ?_
  refine B.aloadN 4 rfl d5_3 rfl rfl ?_
  refine B.arrlen 5 rfl d5_4 A (1 : Int32) rfl ?_
  refine B.aconstNull 6 rfl d5_5 ?_
  refine B.callI 9 rfl d5_6 rfl (wd hw 34 rfl) (wd hw 35 rfl) (wd hw 29 rfl) (wd hw 37 rfl) (by decide) [(.ref ca), (.int (0 : Int32)), (.int (1 : Int32)), .null] [] (rm_si1 l Z a0 hw a ca cs x0 h0 hcs S E Fc Fv A hx0) rfl rfl pd___CIILjava_lang_Void__V rfl rfl 0 rfl (by decide) (by decide) (by decide) (by decide) (fun x z => Or.inl z) ?_
  rintro _ h1 K1 ⟨rfl, q⟩
  show B.G h1 1 1 (mkF m 9 #[.val (.ref a), .val (.ref ca)] [])
  refine B.ret0 d5_9 (by decide) (by decide) ?_
  exact ⟨rfl, q⟩
theorem d12_0 : decode jdk_22_method_1_code 0 = .ok (.aload_n 0, 1) := by decide +kernel
theorem d12_1 : decode jdk_22_method_1_code 1 = .ok (.invokespecial 1, 3) := by decide +kernel
theorem d12_4 : decode jdk_22_method_1_code 4 = .ok (.return_, 1) := by decide +kernel
theorem pn_12 : plainFor (⟨"java/util/AbstractCollection", "<init>", "()V"⟩ : MethodName) = true := by first | exact plainFor_of_name (by first | (simp [plainName, overriddenIn]; done) | decide +kernel) | decide +kernel
set_option maxRecDepth 65536 in
set_option maxHeartbeats 4000000 in
theorem rm_abc (l : Launch) (Z : State) (a0 : Array Value) (hw : ∀ d ∈ tables_1, d.before a0 Z = true) (a : Addr) (h0 : Heap)  :
    Met l Z (⟨"java/util/AbstractCollection", "<init>", "()V"⟩ : MethodName) jdk_22_method_1_code 1 none [] ({ frames := 1, cells := 0, slots := 0, locals := 12 } : Room) #[(.ref a)] h0 [] (fun v h => v = none ∧ h0 = h) := by
  refine Met.walk pn_12 (Ls := #[.val (.ref a)]) (fun m => by first | (simp [entryFrame, mkF, argsToLocals, Value.category, maxLocals]; done) | rfl) ?_
  intro p e s m below meth c B
  refine B.aloadN 1 rfl d12_0 rfl rfl ?_
  refine B.initO 4 rfl d12_1 (wd hw 73 rfl) (wd hw 12 rfl) (wd hw 13 rfl) rfl 0 rfl (by decide) (by decide) ?_
  refine B.ret0 d12_4 (by decide) (by decide) ?_
  exact ⟨rfl, rfl⟩
theorem d11_0 : decode jdk_39_method_1_code 0 = .ok (.aload_n 0, 1) := by decide +kernel
theorem d11_1 : decode jdk_39_method_1_code 1 = .ok (.invokespecial 1, 3) := by decide +kernel
theorem d11_4 : decode jdk_39_method_1_code 4 = .ok (.aload_n 0, 1) := by decide +kernel
theorem d11_5 : decode jdk_39_method_1_code 5 = .ok (.iconst 0, 1) := by decide +kernel
theorem d11_6 : decode jdk_39_method_1_code 6 = .ok (.putfield 7, 3) := by decide +kernel
theorem d11_9 : decode jdk_39_method_1_code 9 = .ok (.return_, 1) := by decide +kernel
theorem pn_11 : plainFor (⟨"java/util/AbstractList", "<init>", "()V"⟩ : MethodName) = true := by first | exact plainFor_of_name (by first | (simp [plainName, overriddenIn]; done) | decide +kernel) | decide +kernel
set_option maxRecDepth 65536 in
set_option maxHeartbeats 4000000 in
theorem rm_abl (l : Launch) (Z : State) (a0 : Array Value) (hw : ∀ d ∈ tables_1, d.before a0 Z = true) (a : Addr) (h0 : Heap) (E : Exa Z h0 a "java/util/ArrayList") (F : Fld Z h0 a "java/util/AbstractList" "modCount" "I" (.int 0)) (Fe : Fld Z h0 a "java/util/ArrayList" "elementData" "[Ljava/lang/Object;" .null) :
    Met l Z (⟨"java/util/AbstractList", "<init>", "()V"⟩ : MethodName) jdk_39_method_1_code 1 none [] ({ frames := 2, cells := 0, slots := 0, locals := 24 } : Room) #[(.ref a)] h0 [a] (fun v h => v = none ∧ Exa Z h a "java/util/ArrayList" ∧ Fld Z h a "java/util/ArrayList" "elementData" "[Ljava/lang/Object;" .null) := by
  refine Met.walk pn_11 (Ls := #[.val (.ref a)]) (fun m => by first | (simp [entryFrame, mkF, argsToLocals, Value.category, maxLocals]; done) | rfl) ?_
  intro p e s m below meth c B
  refine B.aloadN 1 rfl d11_0 rfl rfl ?_
  refine B.callI 4 rfl d11_1 rfl (wd hw 67 rfl) (wd hw 68 rfl) (wd hw 71 rfl) (wd hw 72 rfl) (by decide) [] [] (rm_abc l Z a0 hw a h0) rfl rfl pd___V rfl rfl 0 rfl (by decide) (by decide) (by decide) (by decide) (fun _ q => nomatch q) ?_
  rintro _ _ - ⟨rfl, rfl⟩
  show B.G h0 0 0 (mkF m 4 #[.val (.ref a)] [])
  refine B.aloadN 5 rfl d11_4 rfl rfl ?_
  refine B.iconst 6 rfl (0 : Int32) d11_5 rfl ?_
  refine B.putF 9 rfl d11_6 (wd hw 74 rfl) F E (Or.inl (wd hw 75 rfl)) (wd hw 56 rfl) (ty := .int) (by decide) rfl rfl (Or.inl (by simp)) ?_
  intro h1 W1
  refine B.ret0 d11_9 (by decide) (by decide) ?_
  exact ⟨rfl, E.wr W1, Fe.other W1 (Or.inr (slot_ne (Or.inl (wd hw 78 rfl)) (Or.inl (wd hw 75 rfl)) (by decide) (t := (.array (.object "java/lang/Object"))) (t' := .int) (by decide) (by decide)))⟩
theorem d10_0 : decode jdk_38_method_2_code 0 = .ok (.aload_n 0, 1) := by decide +kernel
theorem d10_1 : decode jdk_38_method_2_code 1 = .ok (.invokespecial 1, 3) := by decide +kernel
theorem d10_4 : decode jdk_38_method_2_code 4 = .ok (.aload_n 0, 1) := by decide +kernel
theorem d10_5 : decode jdk_38_method_2_code 5 = .ok (.getstatic 39, 3) := by decide +kernel
theorem d10_8 : decode jdk_38_method_2_code 8 = .ok (.putfield 9, 3) := by decide +kernel
theorem d10_11 : decode jdk_38_method_2_code 11 = .ok (.return_, 1) := by decide +kernel
theorem pn_10 : plainFor (⟨"java/util/ArrayList", "<init>", "()V"⟩ : MethodName) = true := by first | exact plainFor_of_name (by first | (simp [plainName, overriddenIn]; done) | decide +kernel) | decide +kernel
set_option maxRecDepth 65536 in
set_option maxHeartbeats 4000000 in
theorem rm_al (l : Launch) (Z : State) (a0 : Array Value) (hw : ∀ d ∈ tables_1, d.before a0 Z = true) (a de : Addr) (h0 : Heap) (S : Sta Z h0 "java/util/ArrayList" "DEFAULTCAPACITY_EMPTY_ELEMENTDATA" "[Ljava/lang/Object;" (.ref de)) (E : Exa Z h0 a "java/util/ArrayList") (F : Fld Z h0 a "java/util/AbstractList" "modCount" "I" (.int 0)) (Fe : Fld Z h0 a "java/util/ArrayList" "elementData" "[Ljava/lang/Object;" .null) :
    Met l Z (⟨"java/util/ArrayList", "<init>", "()V"⟩ : MethodName) jdk_38_method_2_code 1 none [] ({ frames := 3, cells := 0, slots := 0, locals := 36 } : Room) #[(.ref a)] h0 [a] (fun v h => v = none) := by
  refine Met.walk pn_10 (Ls := #[.val (.ref a)]) (fun m => by first | (simp [entryFrame, mkF, argsToLocals, Value.category, maxLocals]; done) | rfl) ?_
  intro p e s m below meth c B
  refine B.aloadN 1 rfl d10_0 rfl rfl ?_
  refine B.callI 4 rfl d10_1 rfl (wd hw 61 rfl) (wd hw 62 rfl) (wd hw 65 rfl) (wd hw 66 rfl) (by decide) [] [] (rm_abl l Z a0 hw a h0 E F Fe) rfl rfl pd___V rfl rfl 0 rfl (by decide) (by decide) (by decide) (by decide) (fun x z => Or.inl z) ?_
  rintro _ h1 K1 ⟨rfl, E1, Fe1⟩
  show B.G h1 0 0 (mkF m 4 #[.val (.ref a)] [])
  have S1 := own_stk S E K1
  refine B.aloadN 5 rfl d10_4 rfl rfl ?_
  refine B.getS 8 rfl d10_5 (wd hw 76 rfl) S1 ?_
  refine B.putF 11 rfl d10_8 (wd hw 77 rfl) Fe1 E1 (Or.inl (wd hw 78 rfl)) (wd hw 56 rfl) (ty := (.array (.object "java/lang/Object"))) (by decide) rfl rfl (Or.inl (by simp)) ?_
  intro h2 W2
  refine B.ret0 d10_11 (by decide) (by decide) ?_
  exact rfl
theorem d2_0 : decode jdk_30_method_1_code 0 = .ok (.aload_n 0, 1) := by decide +kernel
theorem d2_1 : decode jdk_30_method_1_code 1 = .ok (.invokespecial 1, 3) := by decide +kernel
theorem d2_4 : decode jdk_30_method_1_code 4 = .ok (.return_, 1) := by decide +kernel
theorem pn_2 : plainFor (⟨"java/lang/Record", "<init>", "()V"⟩ : MethodName) = true := by first | exact plainFor_of_name (by first | (simp [plainName, overriddenIn]; done) | decide +kernel) | decide +kernel
set_option maxRecDepth 65536 in
set_option maxHeartbeats 4000000 in
theorem rm_rec (l : Launch) (Z : State) (a0 : Array Value) (hw : ∀ d ∈ tables_1, d.before a0 Z = true) (a : Addr) (h0 : Heap)  :
    Met l Z (⟨"java/lang/Record", "<init>", "()V"⟩ : MethodName) jdk_30_method_1_code 1 none [] ({ frames := 1, cells := 0, slots := 0, locals := 12 } : Room) #[(.ref a)] h0 [] (fun v h => v = none ∧ h0 = h) := by
  refine Met.walk pn_2 (Ls := #[.val (.ref a)]) (fun m => by first | (simp [entryFrame, mkF, argsToLocals, Value.category, maxLocals]; done) | rfl) ?_
  intro p e s m below meth c B
  refine B.aloadN 1 rfl d2_0 rfl rfl ?_
  refine B.initO 4 rfl d2_1 (wd hw 11 rfl) (wd hw 12 rfl) (wd hw 13 rfl) rfl 0 rfl (by decide) (by decide) ?_
  refine B.ret0 d2_4 (by decide) (by decide) ?_
  exact ⟨rfl, rfl⟩
theorem d1_0 : decode prog_13_method_1_code 0 = .ok (.aload_n 0, 1) := by decide +kernel
theorem d1_1 : decode prog_13_method_1_code 1 = .ok (.invokespecial 1, 3) := by decide +kernel
theorem d1_4 : decode prog_13_method_1_code 4 = .ok (.aload_n 0, 1) := by decide +kernel
theorem d1_5 : decode prog_13_method_1_code 5 = .ok (.aload_n 1, 1) := by decide +kernel
theorem d1_6 : decode prog_13_method_1_code 6 = .ok (.putfield 7, 3) := by decide +kernel
theorem d1_9 : decode prog_13_method_1_code 9 = .ok (.aload_n 0, 1) := by decide +kernel
theorem d1_10 : decode prog_13_method_1_code 10 = .ok (.aload_n 2, 1) := by decide +kernel
theorem d1_11 : decode prog_13_method_1_code 11 = .ok (.putfield 13, 3) := by decide +kernel
theorem d1_14 : decode prog_13_method_1_code 14 = .ok (.aload_n 0, 1) := by decide +kernel
theorem d1_15 : decode prog_13_method_1_code 15 = .ok (.aload_n 3, 1) := by decide +kernel
theorem d1_16 : decode prog_13_method_1_code 16 = .ok (.putfield 17, 3) := by decide +kernel
theorem d1_19 : decode prog_13_method_1_code 19 = .ok (.aload_n 0, 1) := by decide +kernel
theorem d1_20 : decode prog_13_method_1_code 20 = .ok (.aload 4, 2) := by decide +kernel
theorem d1_22 : decode prog_13_method_1_code 22 = .ok (.putfield 21, 3) := by decide +kernel
theorem d1_25 : decode prog_13_method_1_code 25 = .ok (.return_, 1) := by decide +kernel
theorem pn_1 : plainFor (⟨"com/example/siegelwerk/siegelwerk/DataObject", "<init>", "(Ljava/util/List;[BLjava/lang/String;Ljava/lang/String;)V"⟩ : MethodName) = true := by first | exact plainFor_of_name (by first | (simp [plainName, overriddenIn]; done) | decide +kernel) | decide +kernel
set_option maxRecDepth 65536 in
set_option maxHeartbeats 4000000 in
theorem rm_do (l : Launch) (Z : State) (a0 : Array Value) (hw : ∀ d ∈ tables_1, d.before a0 Z = true) (a : Addr) (y0 y1 y2 y3 : Value) (h0 : Heap) (r0 : y0.isRef = true) (f0 : fits (.object "java/util/List") y0 = true) (r1 : y1.isRef = true) (f1 : fits (.array .byte) y1 = true) (r2 : y2.isRef = true) (f2 : fits (.object "java/lang/String") y2 = true) (r3 : y3.isRef = true) (f3 : fits (.object "java/lang/String") y3 = true) (E : Exa Z h0 a "com/example/siegelwerk/siegelwerk/DataObject") (F0 : Fld Z h0 a "com/example/siegelwerk/siegelwerk/DataObject" "xml" "Ljava/util/List;" .null) (F1 : Fld Z h0 a "com/example/siegelwerk/siegelwerk/DataObject" "bytes" "[B" .null) (F2 : Fld Z h0 a "com/example/siegelwerk/siegelwerk/DataObject" "mimeType" "Ljava/lang/String;" .null) (F3 : Fld Z h0 a "com/example/siegelwerk/siegelwerk/DataObject" "description" "Ljava/lang/String;" .null) :
    Met l Z (⟨"com/example/siegelwerk/siegelwerk/DataObject", "<init>", "(Ljava/util/List;[BLjava/lang/String;Ljava/lang/String;)V"⟩ : MethodName) prog_13_method_1_code 5 none [] ({ frames := 2, cells := 0, slots := 0, locals := 24 } : Room) #[(.ref a), y0, y1, y2, y3] h0 [a] (fun v h => v = none ∧ Exa Z h a "com/example/siegelwerk/siegelwerk/DataObject" ∧ Fld Z h a "com/example/siegelwerk/siegelwerk/DataObject" "xml" "Ljava/util/List;" y0) := by
  refine Met.walk pn_1 (Ls := #[.val (.ref a), .val y0, .val y1, .val y2, .val y3]) (fun m => by simp [entryFrame, mkF, argsToLocals, XT.cat1 r0, XT.cat1 r1, XT.cat1 r2, XT.cat1 r3, show ∀ z, (Value.ref z).category = 1 from fun _ => rfl, show ∀ z, (Value.int z).category = 1 from fun _ => rfl, show Value.null.category = 1 from rfl]) ?_
  intro p e s m below meth c B
  refine B.aloadN 1 rfl d1_0 rfl rfl ?_
  refine B.callI 4 rfl d1_1 rfl (wd hw 6 rfl) (wd hw 7 rfl) (wd hw 9 rfl) (wd hw 10 rfl) (by decide) [] [] (rm_rec l Z a0 hw a h0) rfl rfl pd___V rfl rfl 0 rfl (by decide) (by decide) (by decide) (by decide) (fun _ q => nomatch q) ?_
  rintro _ _ - ⟨rfl, rfl⟩
  show B.G h0 0 0 (mkF m 4 #[.val (.ref a), .val y0, .val y1, .val y2, .val y3] [])
  refine B.aloadN 5 rfl d1_4 rfl rfl ?_
  refine B.aloadN 6 rfl d1_5 rfl r0 ?_
  refine B.putF 9 rfl d1_6 (wd hw 14 rfl) F0 E (Or.inr ⟨(wd hw 15 rfl), rfl, rfl⟩) (wd hw 1 rfl) (ty := (.object "java/util/List")) (by decide) rfl f0 (Or.inl (by simp)) ?_
  intro h1 W1
  have E1 := E.wr W1
  have G1_0 := F0.same W1
  have G1_1 := F1.other W1 (Or.inr (slot_ne (Or.inr (wd hw 17 rfl)) (Or.inr (wd hw 15 rfl)) (by decide) (t := (.array .byte)) (t' := (.object "java/util/List")) (by decide) (by decide)))
  have G1_2 := F2.other W1 (Or.inr (slot_ne (Or.inr (wd hw 19 rfl)) (Or.inr (wd hw 15 rfl)) (by decide) (t := (.object "java/lang/String")) (t' := (.object "java/util/List")) (by decide) (by decide)))
  have G1_3 := F3.other W1 (Or.inr (slot_ne (Or.inr (wd hw 21 rfl)) (Or.inr (wd hw 15 rfl)) (by decide) (t := (.object "java/lang/String")) (t' := (.object "java/util/List")) (by decide) (by decide)))
  refine B.aloadN 10 rfl d1_9 rfl rfl ?_
  refine B.aloadN 11 rfl d1_10 rfl r1 ?_
  refine B.putF 14 rfl d1_11 (wd hw 16 rfl) G1_1 E1 (Or.inr ⟨(wd hw 17 rfl), rfl, rfl⟩) (wd hw 1 rfl) (ty := (.array .byte)) (by decide) rfl f1 (Or.inl (by simp)) ?_
  intro h2 W2
  have E2 := E1.wr W2
  have G2_0 := G1_0.other W2 (Or.inr (slot_ne (Or.inr (wd hw 15 rfl)) (Or.inr (wd hw 17 rfl)) (by decide) (t := (.object "java/util/List")) (t' := (.array .byte)) (by decide) (by decide)))
  have G2_1 := G1_1.same W2
  have G2_2 := G1_2.other W2 (Or.inr (slot_ne (Or.inr (wd hw 19 rfl)) (Or.inr (wd hw 17 rfl)) (by decide) (t := (.object "java/lang/String")) (t' := (.array .byte)) (by decide) (by decide)))
  have G2_3 := G1_3.other W2 (Or.inr (slot_ne (Or.inr (wd hw 21 rfl)) (Or.inr (wd hw 17 rfl)) (by decide) (t := (.object "java/lang/String")) (t' := (.array .byte)) (by decide) (by decide)))
  refine B.aloadN 15 rfl d1_14 rfl rfl ?_
  refine B.aloadN 16 rfl d1_15 rfl r2 ?_
  refine B.putF 19 rfl d1_16 (wd hw 18 rfl) G2_2 E2 (Or.inr ⟨(wd hw 19 rfl), rfl, rfl⟩) (wd hw 1 rfl) (ty := (.object "java/lang/String")) (by decide) rfl f2 (Or.inl (by simp)) ?_
  intro h3 W3
  have E3 := E2.wr W3
  have G3_0 := G2_0.other W3 (Or.inr (slot_ne (Or.inr (wd hw 15 rfl)) (Or.inr (wd hw 19 rfl)) (by decide) (t := (.object "java/util/List")) (t' := (.object "java/lang/String")) (by decide) (by decide)))
  have G3_1 := G2_1.other W3 (Or.inr (slot_ne (Or.inr (wd hw 17 rfl)) (Or.inr (wd hw 19 rfl)) (by decide) (t := (.array .byte)) (t' := (.object "java/lang/String")) (by decide) (by decide)))
  have G3_2 := G2_2.same W3
  have G3_3 := G2_3.other W3 (Or.inr (slot_ne (Or.inr (wd hw 21 rfl)) (Or.inr (wd hw 19 rfl)) (by decide) (t := (.object "java/lang/String")) (t' := (.object "java/lang/String")) (by decide) (by decide)))
  refine B.aloadN 20 rfl d1_19 rfl rfl ?_
  refine B.aload 22 rfl d1_20 rfl r3 ?_
  refine B.putF 25 rfl d1_22 (wd hw 20 rfl) G3_3 E3 (Or.inr ⟨(wd hw 21 rfl), rfl, rfl⟩) (wd hw 1 rfl) (ty := (.object "java/lang/String")) (by decide) rfl f3 (Or.inl (by simp)) ?_
  intro h4 W4
  have E4 := E3.wr W4
  have G4_0 := G3_0.other W4 (Or.inr (slot_ne (Or.inr (wd hw 15 rfl)) (Or.inr (wd hw 21 rfl)) (by decide) (t := (.object "java/util/List")) (t' := (.object "java/lang/String")) (by decide) (by decide)))
  have G4_1 := G3_1.other W4 (Or.inr (slot_ne (Or.inr (wd hw 17 rfl)) (Or.inr (wd hw 21 rfl)) (by decide) (t := (.array .byte)) (t' := (.object "java/lang/String")) (by decide) (by decide)))
  have G4_2 := G3_2.other W4 (Or.inr (slot_ne (Or.inr (wd hw 19 rfl)) (Or.inr (wd hw 21 rfl)) (by decide) (t := (.object "java/lang/String")) (t' := (.object "java/lang/String")) (by decide) (by decide)))
  have G4_3 := G3_3.same W4
  refine B.ret0 d1_25 (by decide) (by decide) ?_
  exact ⟨rfl, E4, G4_0⟩
theorem d4_0 : decode prog_13_method_5_code 0 = .ok (.aload_n 0, 1) := by decide +kernel
theorem d4_1 : decode prog_13_method_5_code 1 = .ok (.getfield 7, 3) := by decide +kernel
theorem d4_4 : decode prog_13_method_5_code 4 = .ok (.ifnull 7, 3) := by decide +kernel
theorem d4_11 : decode prog_13_method_5_code 11 = .ok (.iconst 0, 1) := by decide +kernel
theorem d4_12 : decode prog_13_method_5_code 12 = .ok (.ireturn, 1) := by decide +kernel
theorem pn_4 : plainFor (⟨"com/example/siegelwerk/siegelwerk/DataObject", "isXml", "()Z"⟩ : MethodName) = true := by first | exact plainFor_of_name (by first | (simp [plainName, overriddenIn]; done) | decide +kernel) | decide +kernel
set_option maxRecDepth 65536 in
set_option maxHeartbeats 4000000 in
theorem rm_isN (l : Launch) (Z : State) (a0 : Array Value) (hw : ∀ d ∈ tables_1, d.before a0 Z = true) (a : Addr) (h0 : Heap) (F : Fld Z h0 a "com/example/siegelwerk/siegelwerk/DataObject" "xml" "Ljava/util/List;" .null) :
    Met l Z (⟨"com/example/siegelwerk/siegelwerk/DataObject", "isXml", "()Z"⟩ : MethodName) prog_13_method_5_code 1 (some .boolean) [] ({ frames := 0, cells := 0, slots := 0, locals := 0 } : Room) #[(.ref a)] h0 [] (fun v h => v = some (.int (0 : Int32)) ∧ h0 = h) := by
  refine Met.walk pn_4 (Ls := #[.val (.ref a)]) (fun m => by first | (simp [entryFrame, mkF, argsToLocals, Value.category, maxLocals]; done) | rfl) ?_
  intro p e s m below meth c B
  refine B.aloadN 1 rfl d4_0 rfl rfl ?_
  refine B.getF 4 rfl d4_1 (wd hw 14 rfl) F ?_
  refine B.ifnull 11 7 rfl (by decide) rfl d4_4 rfl (fun c4 => ?_) (fun c4 => ?_)
  · refine B.iconst 12 rfl (0 : Int32) d4_11 rfl ?_
    refine B.retN (by simp) d4_12 (by decide) (by decide) ?_
    exact ⟨rfl, rfl⟩
  · exact absurd rfl c4
theorem d4_7 : decode prog_13_method_5_code 7 = .ok (.iconst 1, 1) := by decide +kernel
theorem d4_8 : decode prog_13_method_5_code 8 = .ok (.goto 4, 3) := by decide +kernel
set_option maxRecDepth 65536 in
set_option maxHeartbeats 4000000 in
theorem rm_isR (l : Launch) (Z : State) (a0 : Array Value) (hw : ∀ d ∈ tables_1, d.before a0 Z = true) (a r : Addr) (h0 : Heap) (F : Fld Z h0 a "com/example/siegelwerk/siegelwerk/DataObject" "xml" "Ljava/util/List;" (.ref r)) :
    Met l Z (⟨"com/example/siegelwerk/siegelwerk/DataObject", "isXml", "()Z"⟩ : MethodName) prog_13_method_5_code 1 (some .boolean) [] ({ frames := 0, cells := 0, slots := 0, locals := 0 } : Room) #[(.ref a)] h0 [] (fun v h => v = some (.int (1 : Int32)) ∧ h0 = h) := by
  refine Met.walk pn_4 (Ls := #[.val (.ref a)]) (fun m => by first | (simp [entryFrame, mkF, argsToLocals, Value.category, maxLocals]; done) | rfl) ?_
  intro p e s m below meth c B
  refine B.aloadN 1 rfl d4_0 rfl rfl ?_
  refine B.getF 4 rfl d4_1 (wd hw 14 rfl) F ?_
  refine B.ifnull 11 7 rfl (by decide) rfl d4_4 rfl (fun c4 => ?_) (fun c4 => ?_)
  · exact absurd c4 (by simp)
  · refine B.iconst 8 rfl (1 : Int32) d4_7 rfl ?_
    refine B.goto 12 rfl (by decide) d4_8 ?_
    refine B.retN (by simp) d4_12 (by decide) (by decide) ?_
    exact ⟨rfl, rfl⟩
theorem pn_0 : plainFor x = true := by first | exact plainFor_of_name (by first | (simp [plainName, overriddenIn]; done) | decide +kernel) | decide +kernel
set_option maxRecDepth 65536 in
set_option maxHeartbeats 4000000 in
theorem rm0 (l : Launch) (Z : State) (a0 : Array Value) (hw : ∀ d ∈ tables_1, d.before a0 Z = true) (wds : List Jvm.Cond) (p1 p2 p3 p4 : Int32) (h0 : Heap) (cs : Int32) (hcs : ¬ cs = 0) (Ss : Sta Z h0 "java/lang/String" "COMPACT_STRINGS" "Z" (.int cs)) (de : Addr) (Sd : Sta Z h0 "java/util/ArrayList" "DEFAULTCAPACITY_EMPTY_ELEMENTDATA" "[Ljava/lang/Object;" (.ref de)) :
    Met l Z x code maxLocals ret wds room_1 #[(.int p1), (.int p2), (.int p3), (.int p4)] h0 [] (fun v _ => v = some (.int 1)) := by
  refine Met.walk pn_0 (Ls := #[.val (.int p1), .val (.int p2), .val (.int p3), .val (.int p4), .unset, .unset, .unset, .unset, .unset, .unset, .unset, .unset, .unset]) (fun m => by first | (simp [entryFrame, mkF, argsToLocals, Value.category, maxLocals]; done) | rfl) ?_
  intro p e s m below meth c B
  refine B.iloadN 1 rfl at_0 rfl ?_
  refine B.iconst 2 rfl (1 : Int32) at_1 rfl ?_
  refine B.iand 3 rfl at_2 ?_
  refine B.if0_eq 10 6 rfl (by decide) rfl at_3 (fun c3 => ?_) (fun c3 => ?_)
  · refine B.iconst 11 rfl (0 : Int32) at_10 rfl ?_
    refine B.istore 13 rfl at_11 #[.val (.int p1), .val (.int p2), .val (.int p3), .val (.int p4), .val (.int (0 : Int32)), .unset, .unset, .unset, .unset, .unset, .unset, .unset, .unset] rfl ?_
    refine B.iloadN 14 rfl at_13 rfl ?_
    refine B.iconst 15 rfl (2 : Int32) at_14 rfl ?_
    refine B.iand 16 rfl at_15 ?_
    refine B.if0_eq 23 19 rfl (by decide) rfl at_16 (fun c16 => ?_) (fun c16 => ?_)
    · refine B.iconst 24 rfl (0 : Int32) at_23 rfl ?_
      refine B.istore 26 rfl at_24 #[.val (.int p1), .val (.int p2), .val (.int p3), .val (.int p4), .val (.int (0 : Int32)), .val (.int (0 : Int32)), .unset, .unset, .unset, .unset, .unset, .unset, .unset] rfl ?_
      refine B.iloadN 27 rfl at_26 rfl ?_
      refine B.iconst 28 rfl (4 : Int32) at_27 rfl ?_
      refine B.iand 29 rfl at_28 ?_
      refine B.if0_eq 36 32 rfl (by decide) rfl at_29 (fun c29 => ?_) (fun c29 => ?_)
      · refine B.iconst 37 rfl (0 : Int32) at_36 rfl ?_
        refine B.istore 39 rfl at_37 #[.val (.int p1), .val (.int p2), .val (.int p3), .val (.int p4), .val (.int (0 : Int32)), .val (.int (0 : Int32)), .val (.int (0 : Int32)), .unset, .unset, .unset, .unset, .unset, .unset] rfl ?_
        refine B.iloadN 40 rfl at_39 rfl ?_
        refine B.bipush 42 rfl (8 : Int32) at_40 rfl ?_
        refine B.iand 43 rfl at_42 ?_
        refine B.if0_eq 50 46 rfl (by decide) rfl at_43 (fun c43 => ?_) (fun c43 => ?_)
        · refine B.iconst 51 rfl (0 : Int32) at_50 rfl ?_
          refine B.istore 53 rfl at_51 #[.val (.int p1), .val (.int p2), .val (.int p3), .val (.int p4), .val (.int (0 : Int32)), .val (.int (0 : Int32)), .val (.int (0 : Int32)), .val (.int (0 : Int32)), .unset, .unset, .unset, .unset, .unset] rfl ?_
          refine B.aconstNull 54 rfl at_53 ?_
          refine B.astore 56 rfl at_54 rfl #[.val (.int p1), .val (.int p2), .val (.int p3), .val (.int p4), .val (.int (0 : Int32)), .val (.int (0 : Int32)), .val (.int (0 : Int32)), .val (.int (0 : Int32)), .val .null, .unset, .unset, .unset, .unset] rfl ?_
          refine B.iload 58 rfl at_56 rfl ?_
          refine B.if0_eq 70 61 rfl (by decide) rfl at_58 (fun c58 => ?_) (fun c58 => ?_)
          · refine B.aconstNull 71 rfl at_70 ?_
            refine B.astore 73 rfl at_71 rfl #[.val (.int p1), .val (.int p2), .val (.int p3), .val (.int p4), .val (.int (0 : Int32)), .val (.int (0 : Int32)), .val (.int (0 : Int32)), .val (.int (0 : Int32)), .val .null, .val .null, .unset, .unset, .unset] rfl ?_
            refine B.iload 75 rfl at_73 rfl ?_
            refine B.if0_eq 88 78 rfl (by decide) rfl at_75 (fun c75 => ?_) (fun c75 => ?_)
            · refine B.aconstNull 89 rfl at_88 ?_
              refine B.astore 91 rfl at_89 rfl #[.val (.int p1), .val (.int p2), .val (.int p3), .val (.int p4), .val (.int (0 : Int32)), .val (.int (0 : Int32)), .val (.int (0 : Int32)), .val (.int (0 : Int32)), .val .null, .val .null, .val .null, .unset, .unset] rfl ?_
              refine B.iload 93 rfl at_91 rfl ?_
              refine B.if0_eq 117 96 rfl (by decide) rfl at_93 (fun c93 => ?_) (fun c93 => ?_)
              · refine B.aconstNull 118 rfl at_117 ?_
                refine B.astore 120 rfl at_118 rfl #[.val (.int p1), .val (.int p2), .val (.int p3), .val (.int p4), .val (.int (0 : Int32)), .val (.int (0 : Int32)), .val (.int (0 : Int32)), .val (.int (0 : Int32)), .val .null, .val .null, .val .null, .val .null, .unset] rfl ?_
                refine B.iload 122 rfl at_120 rfl ?_
                refine B.if0_eq 146 125 rfl (by decide) rfl at_122 (fun c122 => ?_) (fun c122 => ?_)
                · refine B.newO 149 rfl at_146 (wd hw 0 rfl) (wd hw 1 rfl) (wd hw 2 rfl) (by decide) (by decide) ?_
                  intro h_o o e_o g_o X_o E_o D_o
                  show B.G h_o 1 4 (mkF m 149 #[.val (.int p1), .val (.int p2), .val (.int p3), .val (.int p4), .val (.int (0 : Int32)), .val (.int (0 : Int32)), .val (.int (0 : Int32)), .val (.int (0 : Int32)), .val .null, .val .null, .val .null, .val .null, .unset] [(.ref o)])
                  have F0_o : Fld Z h_o o "com/example/siegelwerk/siegelwerk/DataObject" "xml" "Ljava/util/List;" .null := D_o (Or.inr (wd hw 15 rfl)) (ty := (.object "java/util/List")) (by decide)
                  have F1_o : Fld Z h_o o "com/example/siegelwerk/siegelwerk/DataObject" "bytes" "[B" .null := D_o (Or.inr (wd hw 17 rfl)) (ty := (.array .byte)) (by decide)
                  have F2_o : Fld Z h_o o "com/example/siegelwerk/siegelwerk/DataObject" "mimeType" "Ljava/lang/String;" .null := D_o (Or.inr (wd hw 19 rfl)) (ty := (.object "java/lang/String")) (by decide)
                  have F3_o : Fld Z h_o o "com/example/siegelwerk/siegelwerk/DataObject" "description" "Ljava/lang/String;" .null := D_o (Or.inr (wd hw 21 rfl)) (ty := (.object "java/lang/String")) (by decide)
                  refine B.dup 150 rfl at_149 rfl ?_
                  refine B.aload 152 rfl at_150 rfl rfl ?_
                  refine B.aload 154 rfl at_152 rfl rfl ?_
                  refine B.aload 156 rfl at_154 rfl rfl ?_
                  refine B.aload 158 rfl at_156 rfl rfl ?_
                  refine B.callI 161 rfl at_158 rfl (wd hw 3 rfl) (wd hw 4 rfl) (wd hw 2 rfl) (wd hw 5 rfl) (by decide) [.null, .null, .null, .null] [(.ref o)] (rm_do l Z a0 hw o .null .null .null .null h_o rfl rfl rfl rfl rfl rfl rfl rfl E_o F0_o F1_o F2_o F3_o) rfl rfl pd__Ljava_util_List__BLjava_lang_String_Ljava_lang_String__V rfl rfl 1 rfl (by decide) (by decide) (by decide) (by decide) (fun x z => Or.inr (by cases List.mem_singleton.mp z; exact g_o)) ?_
                  rintro _ h_o2 - ⟨rfl, E_o2, F_o2⟩
                  show B.G h_o2 1 4 (mkF m 161 #[.val (.int p1), .val (.int p2), .val (.int p3), .val (.int p4), .val (.int (0 : Int32)), .val (.int (0 : Int32)), .val (.int (0 : Int32)), .val (.int (0 : Int32)), .val .null, .val .null, .val .null, .val .null, .unset] [(.ref o)])
                  refine B.astore 163 rfl at_161 rfl #[.val (.int p1), .val (.int p2), .val (.int p3), .val (.int p4), .val (.int (0 : Int32)), .val (.int (0 : Int32)), .val (.int (0 : Int32)), .val (.int (0 : Int32)), .val .null, .val .null, .val .null, .val .null, .val (.ref o)] rfl ?_
                  refine B.aload 165 rfl at_163 rfl rfl ?_
                  refine B.callV 168 rfl at_165 (wd hw 22 rfl) (wd hw 23 rfl) (wd hw 25 rfl) (wd hw 24 rfl) (wd hw 2 rfl) (wd hw 26 rfl) (by decide) E_o2 [] [] (rm_isN l Z a0 hw o h_o2 F_o2) rfl rfl pd___Z rfl rfl 0 rfl (by decide) (by decide) (by decide) (by decide) (fun _ q => nomatch q) ?_
                  rintro _ _ - ⟨rfl, rfl⟩
                  show B.G h_o2 1 4 (mkF m 168 #[.val (.int p1), .val (.int p2), .val (.int p3), .val (.int p4), .val (.int (0 : Int32)), .val (.int (0 : Int32)), .val (.int (0 : Int32)), .val (.int (0 : Int32)), .val .null, .val .null, .val .null, .val .null, .val (.ref o)] [(.int (0 : Int32))])
                  refine B.iload 170 rfl at_168 rfl ?_
                  refine B.icmp_ne 177 173 rfl (by decide) rfl at_170 (fun c170 => ?_) (fun c170 => ?_)
                  · exact absurd c170 (by decide)
                  · refine B.iconst 174 rfl (1 : Int32) at_173 rfl ?_
                    refine B.goto 178 rfl (by decide) at_174 ?_
                    refine B.retN (by simp) at_178 (by decide) (by decide) ?_
                    exact rfl
                · exact absurd c122 (by decide)
              · exact absurd c93 (by decide)
            · exact absurd c75 (by decide)
          · exact absurd c58 (by decide)
        · refine B.iconst 47 rfl (1 : Int32) at_46 rfl ?_
          refine B.goto 51 rfl (by decide) at_47 ?_
          refine B.istore 53 rfl at_51 #[.val (.int p1), .val (.int p2), .val (.int p3), .val (.int p4), .val (.int (0 : Int32)), .val (.int (0 : Int32)), .val (.int (0 : Int32)), .val (.int (1 : Int32)), .unset, .unset, .unset, .unset, .unset] rfl ?_
          refine B.aconstNull 54 rfl at_53 ?_
          refine B.astore 56 rfl at_54 rfl #[.val (.int p1), .val (.int p2), .val (.int p3), .val (.int p4), .val (.int (0 : Int32)), .val (.int (0 : Int32)), .val (.int (0 : Int32)), .val (.int (1 : Int32)), .val .null, .unset, .unset, .unset, .unset] rfl ?_
          refine B.iload 58 rfl at_56 rfl ?_
          refine B.if0_eq 70 61 rfl (by decide) rfl at_58 (fun c58 => ?_) (fun c58 => ?_)
          · refine B.aconstNull 71 rfl at_70 ?_
            refine B.astore 73 rfl at_71 rfl #[.val (.int p1), .val (.int p2), .val (.int p3), .val (.int p4), .val (.int (0 : Int32)), .val (.int (0 : Int32)), .val (.int (0 : Int32)), .val (.int (1 : Int32)), .val .null, .val .null, .unset, .unset, .unset] rfl ?_
            refine B.iload 75 rfl at_73 rfl ?_
            refine B.if0_eq 88 78 rfl (by decide) rfl at_75 (fun c75 => ?_) (fun c75 => ?_)
            · refine B.aconstNull 89 rfl at_88 ?_
              refine B.astore 91 rfl at_89 rfl #[.val (.int p1), .val (.int p2), .val (.int p3), .val (.int p4), .val (.int (0 : Int32)), .val (.int (0 : Int32)), .val (.int (0 : Int32)), .val (.int (1 : Int32)), .val .null, .val .null, .val .null, .unset, .unset] rfl ?_
              refine B.iload 93 rfl at_91 rfl ?_
              refine B.if0_eq 117 96 rfl (by decide) rfl at_93 (fun c93 => ?_) (fun c93 => ?_)
              · refine B.aconstNull 118 rfl at_117 ?_
                refine B.astore 120 rfl at_118 rfl #[.val (.int p1), .val (.int p2), .val (.int p3), .val (.int p4), .val (.int (0 : Int32)), .val (.int (0 : Int32)), .val (.int (0 : Int32)), .val (.int (1 : Int32)), .val .null, .val .null, .val .null, .val .null, .unset] rfl ?_
                refine B.iload 122 rfl at_120 rfl ?_
                refine B.if0_eq 146 125 rfl (by decide) rfl at_122 (fun c122 => ?_) (fun c122 => ?_)
                · exact absurd c122 (by decide)
                · refine B.newO 128 rfl at_125 (wd hw 27 rfl) (wd hw 28 rfl) (wd hw 29 rfl) (by decide) (by decide) ?_
                  intro h_s2 s2 e_s2 g_s2 X_s2 E_s2 D_s2
                  show B.G h_s2 1 4 (mkF m 128 #[.val (.int p1), .val (.int p2), .val (.int p3), .val (.int p4), .val (.int (0 : Int32)), .val (.int (0 : Int32)), .val (.int (0 : Int32)), .val (.int (1 : Int32)), .val .null, .val .null, .val .null, .val .null, .unset] [(.ref s2)])
                  have F0_s2 : Fld Z h_s2 s2 "java/lang/String" "coder" "B" (.int 0) := D_s2 (Or.inr (wd hw 52 rfl)) (ty := .byte) (by decide)
                  have F1_s2 : Fld Z h_s2 s2 "java/lang/String" "value" "[B" .null := D_s2 (Or.inr (wd hw 54 rfl)) (ty := (.array .byte)) (by decide)
                  refine B.dup 129 rfl at_128 rfl ?_
                  refine B.iconst 130 rfl (1 : Int32) at_129 rfl ?_
                  refine B.newP 132 rfl at_130 (wd hw 30 rfl) (by decide) 1 (by decide) (by decide) (by decide) (by decide) ?_
                  intro h_cs2 cs2 e_cs2 g_cs2 X_cs2 A_cs2
                  replace A_cs2 : Ary Z h_cs2 cs2 .char [(.int (0 : Int32))] := A_cs2
                  show B.G h_cs2 2 5 (mkF m 132 #[.val (.int p1), .val (.int p2), .val (.int p3), .val (.int p4), .val (.int (0 : Int32)), .val (.int (0 : Int32)), .val (.int (0 : Int32)), .val (.int (1 : Int32)), .val .null, .val .null, .val .null, .val .null, .unset] [(.ref cs2), (.ref s2), (.ref s2)])
                  have n_s2_cs2 : s2 ≠ cs2 := fun q => absurd E_s2.lt (by rw [q, e_cs2]; exact Nat.lt_irrefl _)
                  have E_s2_1 := E_s2.ext X_cs2
                  have F0_s2_1 := F0_s2.ext X_cs2
                  have F1_s2_1 := F1_s2.ext X_cs2
                  refine B.dup 133 rfl at_132 rfl ?_
                  refine B.iconst 134 rfl (0 : Int32) at_133 rfl ?_
                  refine B.iloadN 135 rfl at_134 rfl ?_
                  refine B.sipush 138 rfl (255 : Int32) at_135 rfl ?_
                  refine B.iand 139 rfl at_138 ?_
                  refine B.i2c 140 rfl at_139 ?_
                  refine B.topI (p4 &&& (255 : Int32)) (i2c_mask p4) ?_
                  refine B.castore 141 rfl at_140 A_cs2 (by decide) 0 rfl (by simp) (Or.inr g_cs2) ?_
                  intro hs1 Ws1 As1
                  rw [i2c_mask] at As1
                  replace As1 : Ary Z hs1 cs2 .char [(.int (p4 &&& (255 : Int32)))] := As1
                  have E_s2_2 := E_s2_1.wr Ws1
                  have F0_s2_2 := F0_s2_1.other Ws1 (Or.inl n_s2_cs2)
                  have F1_s2_2 := F1_s2_1.other Ws1 (Or.inl n_s2_cs2)
                  refine B.olds fun Y2 => ?_
                  refine B.callI 144 rfl at_141 rfl (wd hw 31 rfl) (wd hw 32 rfl) (wd hw 29 rfl) (wd hw 33 rfl) (by decide) [(.ref cs2)] [(.ref s2)] (rm_st1 l Z a0 hw s2 cs2 cs (p4 &&& 255) hs1 hcs (Ss.ext Y2) E_s2_2 F0_s2_2 F1_s2_2 As1 (own_c p4)) rfl rfl pd___C_V rfl rfl 1 rfl (by decide) (by decide) (by decide) (by decide) (fun x z => Or.inr (by cases List.mem_singleton.mp z; exact g_s2)) ?_
                  rintro _ h_s22 - ⟨rfl, -⟩
                  show B.G h_s22 3 6 (mkF m 144 #[.val (.int p1), .val (.int p2), .val (.int p3), .val (.int p4), .val (.int (0 : Int32)), .val (.int (0 : Int32)), .val (.int (0 : Int32)), .val (.int (1 : Int32)), .val .null, .val .null, .val .null, .val .null, .unset] [(.ref s2)])
                  refine B.astore 146 rfl at_144 rfl #[.val (.int p1), .val (.int p2), .val (.int p3), .val (.int p4), .val (.int (0 : Int32)), .val (.int (0 : Int32)), .val (.int (0 : Int32)), .val (.int (1 : Int32)), .val .null, .val .null, .val .null, .val (.ref s2), .unset] rfl ?_
                  refine B.newO 149 rfl at_146 (wd hw 0 rfl) (wd hw 1 rfl) (wd hw 2 rfl) (by decide) (by decide) ?_
                  intro h_o o e_o g_o X_o E_o D_o
                  show B.G h_o 4 10 (mkF m 149 #[.val (.int p1), .val (.int p2), .val (.int p3), .val (.int p4), .val (.int (0 : Int32)), .val (.int (0 : Int32)), .val (.int (0 : Int32)), .val (.int (1 : Int32)), .val .null, .val .null, .val .null, .val (.ref s2), .unset] [(.ref o)])
                  have F0_o : Fld Z h_o o "com/example/siegelwerk/siegelwerk/DataObject" "xml" "Ljava/util/List;" .null := D_o (Or.inr (wd hw 15 rfl)) (ty := (.object "java/util/List")) (by decide)
                  have F1_o : Fld Z h_o o "com/example/siegelwerk/siegelwerk/DataObject" "bytes" "[B" .null := D_o (Or.inr (wd hw 17 rfl)) (ty := (.array .byte)) (by decide)
                  have F2_o : Fld Z h_o o "com/example/siegelwerk/siegelwerk/DataObject" "mimeType" "Ljava/lang/String;" .null := D_o (Or.inr (wd hw 19 rfl)) (ty := (.object "java/lang/String")) (by decide)
                  have F3_o : Fld Z h_o o "com/example/siegelwerk/siegelwerk/DataObject" "description" "Ljava/lang/String;" .null := D_o (Or.inr (wd hw 21 rfl)) (ty := (.object "java/lang/String")) (by decide)
                  refine B.dup 150 rfl at_149 rfl ?_
                  refine B.aload 152 rfl at_150 rfl rfl ?_
                  refine B.aload 154 rfl at_152 rfl rfl ?_
                  refine B.aload 156 rfl at_154 rfl rfl ?_
                  refine B.aload 158 rfl at_156 rfl rfl ?_
                  refine B.callI 161 rfl at_158 rfl (wd hw 3 rfl) (wd hw 4 rfl) (wd hw 2 rfl) (wd hw 5 rfl) (by decide) [.null, .null, .null, (.ref s2)] [(.ref o)] (rm_do l Z a0 hw o .null .null .null (.ref s2) h_o rfl rfl rfl rfl rfl rfl rfl rfl E_o F0_o F1_o F2_o F3_o) rfl rfl pd__Ljava_util_List__BLjava_lang_String_Ljava_lang_String__V rfl rfl 1 rfl (by decide) (by decide) (by decide) (by decide) (fun x z => Or.inr (by cases List.mem_singleton.mp z; exact g_o)) ?_
                  rintro _ h_o2 - ⟨rfl, E_o2, F_o2⟩
                  show B.G h_o2 4 10 (mkF m 161 #[.val (.int p1), .val (.int p2), .val (.int p3), .val (.int p4), .val (.int (0 : Int32)), .val (.int (0 : Int32)), .val (.int (0 : Int32)), .val (.int (1 : Int32)), .val .null, .val .null, .val .null, .val (.ref s2), .unset] [(.ref o)])
                  refine B.astore 163 rfl at_161 rfl #[.val (.int p1), .val (.int p2), .val (.int p3), .val (.int p4), .val (.int (0 : Int32)), .val (.int (0 : Int32)), .val (.int (0 : Int32)), .val (.int (1 : Int32)), .val .null, .val .null, .val .null, .val (.ref s2), .val (.ref o)] rfl ?_
                  refine B.aload 165 rfl at_163 rfl rfl ?_
                  refine B.callV 168 rfl at_165 (wd hw 22 rfl) (wd hw 23 rfl) (wd hw 25 rfl) (wd hw 24 rfl) (wd hw 2 rfl) (wd hw 26 rfl) (by decide) E_o2 [] [] (rm_isN l Z a0 hw o h_o2 F_o2) rfl rfl pd___Z rfl rfl 0 rfl (by decide) (by decide) (by decide) (by decide) (fun _ q => nomatch q) ?_
                  rintro _ _ - ⟨rfl, rfl⟩
                  show B.G h_o2 4 10 (mkF m 168 #[.val (.int p1), .val (.int p2), .val (.int p3), .val (.int p4), .val (.int (0 : Int32)), .val (.int (0 : Int32)), .val (.int (0 : Int32)), .val (.int (1 : Int32)), .val .null, .val .null, .val .null, .val (.ref s2), .val (.ref o)] [(.int (0 : Int32))])
                  refine B.iload 170 rfl at_168 rfl ?_
                  refine B.icmp_ne 177 173 rfl (by decide) rfl at_170 (fun c170 => ?_) (fun c170 => ?_)
                  · exact absurd c170 (by decide)
                  · refine B.iconst 174 rfl (1 : Int32) at_173 rfl ?_
                    refine B.goto 178 rfl (by decide) at_174 ?_
                    refine B.retN (by simp) at_178 (by decide) (by decide) ?_
                    exact rfl
              · exact absurd c93 (by decide)
            · exact absurd c75 (by decide)
          · exact absurd c58 (by decide)
      · refine B.iconst 33 rfl (1 : Int32) at_32 rfl ?_
        refine B.goto 37 rfl (by decide) at_33 ?_
        refine B.istore 39 rfl at_37 #[.val (.int p1), .val (.int p2), .val (.int p3), .val (.int p4), .val (.int (0 : Int32)), .val (.int (0 : Int32)), .val (.int (1 : Int32)), .unset, .unset, .unset, .unset, .unset, .unset] rfl ?_
        refine B.iloadN 40 rfl at_39 rfl ?_
        refine B.bipush 42 rfl (8 : Int32) at_40 rfl ?_
        refine B.iand 43 rfl at_42 ?_
        refine B.if0_eq 50 46 rfl (by decide) rfl at_43 (fun c43 => ?_) (fun c43 => ?_)
        · refine B.iconst 51 rfl (0 : Int32) at_50 rfl ?_
          refine B.istore 53 rfl at_51 #[.val (.int p1), .val (.int p2), .val (.int p3), .val (.int p4), .val (.int (0 : Int32)), .val (.int (0 : Int32)), .val (.int (1 : Int32)), .val (.int (0 : Int32)), .unset, .unset, .unset, .unset, .unset] rfl ?_
          refine B.aconstNull 54 rfl at_53 ?_
          refine B.astore 56 rfl at_54 rfl #[.val (.int p1), .val (.int p2), .val (.int p3), .val (.int p4), .val (.int (0 : Int32)), .val (.int (0 : Int32)), .val (.int (1 : Int32)), .val (.int (0 : Int32)), .val .null, .unset, .unset, .unset, .unset] rfl ?_
          refine B.iload 58 rfl at_56 rfl ?_
          refine B.if0_eq 70 61 rfl (by decide) rfl at_58 (fun c58 => ?_) (fun c58 => ?_)
          · refine B.aconstNull 71 rfl at_70 ?_
            refine B.astore 73 rfl at_71 rfl #[.val (.int p1), .val (.int p2), .val (.int p3), .val (.int p4), .val (.int (0 : Int32)), .val (.int (0 : Int32)), .val (.int (1 : Int32)), .val (.int (0 : Int32)), .val .null, .val .null, .unset, .unset, .unset] rfl ?_
            refine B.iload 75 rfl at_73 rfl ?_
            refine B.if0_eq 88 78 rfl (by decide) rfl at_75 (fun c75 => ?_) (fun c75 => ?_)
            · refine B.aconstNull 89 rfl at_88 ?_
              refine B.astore 91 rfl at_89 rfl #[.val (.int p1), .val (.int p2), .val (.int p3), .val (.int p4), .val (.int (0 : Int32)), .val (.int (0 : Int32)), .val (.int (1 : Int32)), .val (.int (0 : Int32)), .val .null, .val .null, .val .null, .unset, .unset] rfl ?_
              refine B.iload 93 rfl at_91 rfl ?_
              refine B.if0_eq 117 96 rfl (by decide) rfl at_93 (fun c93 => ?_) (fun c93 => ?_)
              · exact absurd c93 (by decide)
              · refine B.newO 99 rfl at_96 (wd hw 27 rfl) (wd hw 28 rfl) (wd hw 29 rfl) (by decide) (by decide) ?_
                intro h_s1 s1 e_s1 g_s1 X_s1 E_s1 D_s1
                show B.G h_s1 1 4 (mkF m 99 #[.val (.int p1), .val (.int p2), .val (.int p3), .val (.int p4), .val (.int (0 : Int32)), .val (.int (0 : Int32)), .val (.int (1 : Int32)), .val (.int (0 : Int32)), .val .null, .val .null, .val .null, .unset, .unset] [(.ref s1)])
                have F0_s1 : Fld Z h_s1 s1 "java/lang/String" "coder" "B" (.int 0) := D_s1 (Or.inr (wd hw 52 rfl)) (ty := .byte) (by decide)
                have F1_s1 : Fld Z h_s1 s1 "java/lang/String" "value" "[B" .null := D_s1 (Or.inr (wd hw 54 rfl)) (ty := (.array .byte)) (by decide)
                refine B.dup 100 rfl at_99 rfl ?_
                refine B.iconst 101 rfl (1 : Int32) at_100 rfl ?_
                refine B.newP 103 rfl at_101 (wd hw 30 rfl) (by decide) 1 (by decide) (by decide) (by decide) (by decide) ?_
                intro h_cs1 cs1 e_cs1 g_cs1 X_cs1 A_cs1
                replace A_cs1 : Ary Z h_cs1 cs1 .char [(.int (0 : Int32))] := A_cs1
                show B.G h_cs1 2 5 (mkF m 103 #[.val (.int p1), .val (.int p2), .val (.int p3), .val (.int p4), .val (.int (0 : Int32)), .val (.int (0 : Int32)), .val (.int (1 : Int32)), .val (.int (0 : Int32)), .val .null, .val .null, .val .null, .unset, .unset] [(.ref cs1), (.ref s1), (.ref s1)])
                have n_s1_cs1 : s1 ≠ cs1 := fun q => absurd E_s1.lt (by rw [q, e_cs1]; exact Nat.lt_irrefl _)
                have E_s1_1 := E_s1.ext X_cs1
                have F0_s1_1 := F0_s1.ext X_cs1
                have F1_s1_1 := F1_s1.ext X_cs1
                refine B.dup 104 rfl at_103 rfl ?_
                refine B.iconst 105 rfl (0 : Int32) at_104 rfl ?_
                refine B.iloadN 106 rfl at_105 rfl ?_
                refine B.sipush 109 rfl (255 : Int32) at_106 rfl ?_
                refine B.iand 110 rfl at_109 ?_
                refine B.i2c 111 rfl at_110 ?_
                refine B.topI (p3 &&& (255 : Int32)) (i2c_mask p3) ?_
                refine B.castore 112 rfl at_111 A_cs1 (by decide) 0 rfl (by simp) (Or.inr g_cs1) ?_
                intro hs3 Ws3 As3
                rw [i2c_mask] at As3
                replace As3 : Ary Z hs3 cs1 .char [(.int (p3 &&& (255 : Int32)))] := As3
                have E_s1_2 := E_s1_1.wr Ws3
                have F0_s1_2 := F0_s1_1.other Ws3 (Or.inl n_s1_cs1)
                have F1_s1_2 := F1_s1_1.other Ws3 (Or.inl n_s1_cs1)
                refine B.olds fun Y4 => ?_
                refine B.callI 115 rfl at_112 rfl (wd hw 31 rfl) (wd hw 32 rfl) (wd hw 29 rfl) (wd hw 33 rfl) (by decide) [(.ref cs1)] [(.ref s1)] (rm_st1 l Z a0 hw s1 cs1 cs (p3 &&& 255) hs3 hcs (Ss.ext Y4) E_s1_2 F0_s1_2 F1_s1_2 As3 (own_c p3)) rfl rfl pd___C_V rfl rfl 1 rfl (by decide) (by decide) (by decide) (by decide) (fun x z => Or.inr (by cases List.mem_singleton.mp z; exact g_s1)) ?_
                rintro _ h_s12 - ⟨rfl, -⟩
                show B.G h_s12 3 6 (mkF m 115 #[.val (.int p1), .val (.int p2), .val (.int p3), .val (.int p4), .val (.int (0 : Int32)), .val (.int (0 : Int32)), .val (.int (1 : Int32)), .val (.int (0 : Int32)), .val .null, .val .null, .val .null, .unset, .unset] [(.ref s1)])
                refine B.astore 117 rfl at_115 rfl #[.val (.int p1), .val (.int p2), .val (.int p3), .val (.int p4), .val (.int (0 : Int32)), .val (.int (0 : Int32)), .val (.int (1 : Int32)), .val (.int (0 : Int32)), .val .null, .val .null, .val (.ref s1), .unset, .unset] rfl ?_
                refine B.aconstNull 118 rfl at_117 ?_
                refine B.astore 120 rfl at_118 rfl #[.val (.int p1), .val (.int p2), .val (.int p3), .val (.int p4), .val (.int (0 : Int32)), .val (.int (0 : Int32)), .val (.int (1 : Int32)), .val (.int (0 : Int32)), .val .null, .val .null, .val (.ref s1), .val .null, .unset] rfl ?_
                refine B.iload 122 rfl at_120 rfl ?_
                refine B.if0_eq 146 125 rfl (by decide) rfl at_122 (fun c122 => ?_) (fun c122 => ?_)
                · refine B.newO 149 rfl at_146 (wd hw 0 rfl) (wd hw 1 rfl) (wd hw 2 rfl) (by decide) (by decide) ?_
                  intro h_o o e_o g_o X_o E_o D_o
                  show B.G h_o 4 10 (mkF m 149 #[.val (.int p1), .val (.int p2), .val (.int p3), .val (.int p4), .val (.int (0 : Int32)), .val (.int (0 : Int32)), .val (.int (1 : Int32)), .val (.int (0 : Int32)), .val .null, .val .null, .val (.ref s1), .val .null, .unset] [(.ref o)])
                  have F0_o : Fld Z h_o o "com/example/siegelwerk/siegelwerk/DataObject" "xml" "Ljava/util/List;" .null := D_o (Or.inr (wd hw 15 rfl)) (ty := (.object "java/util/List")) (by decide)
                  have F1_o : Fld Z h_o o "com/example/siegelwerk/siegelwerk/DataObject" "bytes" "[B" .null := D_o (Or.inr (wd hw 17 rfl)) (ty := (.array .byte)) (by decide)
                  have F2_o : Fld Z h_o o "com/example/siegelwerk/siegelwerk/DataObject" "mimeType" "Ljava/lang/String;" .null := D_o (Or.inr (wd hw 19 rfl)) (ty := (.object "java/lang/String")) (by decide)
                  have F3_o : Fld Z h_o o "com/example/siegelwerk/siegelwerk/DataObject" "description" "Ljava/lang/String;" .null := D_o (Or.inr (wd hw 21 rfl)) (ty := (.object "java/lang/String")) (by decide)
                  refine B.dup 150 rfl at_149 rfl ?_
                  refine B.aload 152 rfl at_150 rfl rfl ?_
                  refine B.aload 154 rfl at_152 rfl rfl ?_
                  refine B.aload 156 rfl at_154 rfl rfl ?_
                  refine B.aload 158 rfl at_156 rfl rfl ?_
                  refine B.callI 161 rfl at_158 rfl (wd hw 3 rfl) (wd hw 4 rfl) (wd hw 2 rfl) (wd hw 5 rfl) (by decide) [.null, .null, (.ref s1), .null] [(.ref o)] (rm_do l Z a0 hw o .null .null (.ref s1) .null h_o rfl rfl rfl rfl rfl rfl rfl rfl E_o F0_o F1_o F2_o F3_o) rfl rfl pd__Ljava_util_List__BLjava_lang_String_Ljava_lang_String__V rfl rfl 1 rfl (by decide) (by decide) (by decide) (by decide) (fun x z => Or.inr (by cases List.mem_singleton.mp z; exact g_o)) ?_
                  rintro _ h_o2 - ⟨rfl, E_o2, F_o2⟩
                  show B.G h_o2 4 10 (mkF m 161 #[.val (.int p1), .val (.int p2), .val (.int p3), .val (.int p4), .val (.int (0 : Int32)), .val (.int (0 : Int32)), .val (.int (1 : Int32)), .val (.int (0 : Int32)), .val .null, .val .null, .val (.ref s1), .val .null, .unset] [(.ref o)])
                  refine B.astore 163 rfl at_161 rfl #[.val (.int p1), .val (.int p2), .val (.int p3), .val (.int p4), .val (.int (0 : Int32)), .val (.int (0 : Int32)), .val (.int (1 : Int32)), .val (.int (0 : Int32)), .val .null, .val .null, .val (.ref s1), .val .null, .val (.ref o)] rfl ?_
                  refine B.aload 165 rfl at_163 rfl rfl ?_
                  refine B.callV 168 rfl at_165 (wd hw 22 rfl) (wd hw 23 rfl) (wd hw 25 rfl) (wd hw 24 rfl) (wd hw 2 rfl) (wd hw 26 rfl) (by decide) E_o2 [] [] (rm_isN l Z a0 hw o h_o2 F_o2) rfl rfl pd___Z rfl rfl 0 rfl (by decide) (by decide) (by decide) (by decide) (fun _ q => nomatch q) ?_
                  rintro _ _ - ⟨rfl, rfl⟩
                  show B.G h_o2 4 10 (mkF m 168 #[.val (.int p1), .val (.int p2), .val (.int p3), .val (.int p4), .val (.int (0 : Int32)), .val (.int (0 : Int32)), .val (.int (1 : Int32)), .val (.int (0 : Int32)), .val .null, .val .null, .val (.ref s1), .val .null, .val (.ref o)] [(.int (0 : Int32))])
                  refine B.iload 170 rfl at_168 rfl ?_
                  refine B.icmp_ne 177 173 rfl (by decide) rfl at_170 (fun c170 => ?_) (fun c170 => ?_)
                  · exact absurd c170 (by decide)
                  · refine B.iconst 174 rfl (1 : Int32) at_173 rfl ?_
                    refine B.goto 178 rfl (by decide) at_174 ?_
                    refine B.retN (by simp) at_178 (by decide) (by decide) ?_
                    exact rfl
                · exact absurd c122 (by decide)
            · exact absurd c75 (by decide)
          · exact absurd c58 (by decide)
        · refine B.iconst 47 rfl (1 : Int32) at_46 rfl ?_
          refine B.goto 51 rfl (by decide) at_47 ?_
          refine B.istore 53 rfl at_51 #[.val (.int p1), .val (.int p2), .val (.int p3), .val (.int p4), .val (.int (0 : Int32)), .val (.int (0 : Int32)), .val (.int (1 : Int32)), .val (.int (1 : Int32)), .unset, .unset, .unset, .unset, .unset] rfl ?_
          refine B.aconstNull 54 rfl at_53 ?_
          refine B.astore 56 rfl at_54 rfl #[.val (.int p1), .val (.int p2), .val (.int p3), .val (.int p4), .val (.int (0 : Int32)), .val (.int (0 : Int32)), .val (.int (1 : Int32)), .val (.int (1 : Int32)), .val .null, .unset, .unset, .unset, .unset] rfl ?_
          refine B.iload 58 rfl at_56 rfl ?_
          refine B.if0_eq 70 61 rfl (by decide) rfl at_58 (fun c58 => ?_) (fun c58 => ?_)
          · refine B.aconstNull 71 rfl at_70 ?_
            refine B.astore 73 rfl at_71 rfl #[.val (.int p1), .val (.int p2), .val (.int p3), .val (.int p4), .val (.int (0 : Int32)), .val (.int (0 : Int32)), .val (.int (1 : Int32)), .val (.int (1 : Int32)), .val .null, .val .null, .unset, .unset, .unset] rfl ?_
            refine B.iload 75 rfl at_73 rfl ?_
            refine B.if0_eq 88 78 rfl (by decide) rfl at_75 (fun c75 => ?_) (fun c75 => ?_)
            · refine B.aconstNull 89 rfl at_88 ?_
              refine B.astore 91 rfl at_89 rfl #[.val (.int p1), .val (.int p2), .val (.int p3), .val (.int p4), .val (.int (0 : Int32)), .val (.int (0 : Int32)), .val (.int (1 : Int32)), .val (.int (1 : Int32)), .val .null, .val .null, .val .null, .unset, .unset] rfl ?_
              refine B.iload 93 rfl at_91 rfl ?_
              refine B.if0_eq 117 96 rfl (by decide) rfl at_93 (fun c93 => ?_) (fun c93 => ?_)
              · exact absurd c93 (by decide)
              · refine B.newO 99 rfl at_96 (wd hw 27 rfl) (wd hw 28 rfl) (wd hw 29 rfl) (by decide) (by decide) ?_
                intro h_s1 s1 e_s1 g_s1 X_s1 E_s1 D_s1
                show B.G h_s1 1 4 (mkF m 99 #[.val (.int p1), .val (.int p2), .val (.int p3), .val (.int p4), .val (.int (0 : Int32)), .val (.int (0 : Int32)), .val (.int (1 : Int32)), .val (.int (1 : Int32)), .val .null, .val .null, .val .null, .unset, .unset] [(.ref s1)])
                have F0_s1 : Fld Z h_s1 s1 "java/lang/String" "coder" "B" (.int 0) := D_s1 (Or.inr (wd hw 52 rfl)) (ty := .byte) (by decide)
                have F1_s1 : Fld Z h_s1 s1 "java/lang/String" "value" "[B" .null := D_s1 (Or.inr (wd hw 54 rfl)) (ty := (.array .byte)) (by decide)
                refine B.dup 100 rfl at_99 rfl ?_
                refine B.iconst 101 rfl (1 : Int32) at_100 rfl ?_
                refine B.newP 103 rfl at_101 (wd hw 30 rfl) (by decide) 1 (by decide) (by decide) (by decide) (by decide) ?_
                intro h_cs1 cs1 e_cs1 g_cs1 X_cs1 A_cs1
                replace A_cs1 : Ary Z h_cs1 cs1 .char [(.int (0 : Int32))] := A_cs1
                show B.G h_cs1 2 5 (mkF m 103 #[.val (.int p1), .val (.int p2), .val (.int p3), .val (.int p4), .val (.int (0 : Int32)), .val (.int (0 : Int32)), .val (.int (1 : Int32)), .val (.int (1 : Int32)), .val .null, .val .null, .val .null, .unset, .unset] [(.ref cs1), (.ref s1), (.ref s1)])
                have n_s1_cs1 : s1 ≠ cs1 := fun q => absurd E_s1.lt (by rw [q, e_cs1]; exact Nat.lt_irrefl _)
                have E_s1_1 := E_s1.ext X_cs1
                have F0_s1_1 := F0_s1.ext X_cs1
                have F1_s1_1 := F1_s1.ext X_cs1
                refine B.dup 104 rfl at_103 rfl ?_
                refine B.iconst 105 rfl (0 : Int32) at_104 rfl ?_
                refine B.iloadN 106 rfl at_105 rfl ?_
                refine B.sipush 109 rfl (255 : Int32) at_106 rfl ?_
                refine B.iand 110 rfl at_109 ?_
                refine B.i2c 111 rfl at_110 ?_
                refine B.topI (p3 &&& (255 : Int32)) (i2c_mask p3) ?_
                refine B.castore 112 rfl at_111 A_cs1 (by decide) 0 rfl (by simp) (Or.inr g_cs1) ?_
                intro hs5 Ws5 As5
                rw [i2c_mask] at As5
                replace As5 : Ary Z hs5 cs1 .char [(.int (p3 &&& (255 : Int32)))] := As5
                have E_s1_2 := E_s1_1.wr Ws5
                have F0_s1_2 := F0_s1_1.other Ws5 (Or.inl n_s1_cs1)
                have F1_s1_2 := F1_s1_1.other Ws5 (Or.inl n_s1_cs1)
                refine B.olds fun Y6 => ?_
                refine B.callI 115 rfl at_112 rfl (wd hw 31 rfl) (wd hw 32 rfl) (wd hw 29 rfl) (wd hw 33 rfl) (by decide) [(.ref cs1)] [(.ref s1)] (rm_st1 l Z a0 hw s1 cs1 cs (p3 &&& 255) hs5 hcs (Ss.ext Y6) E_s1_2 F0_s1_2 F1_s1_2 As5 (own_c p3)) rfl rfl pd___C_V rfl rfl 1 rfl (by decide) (by decide) (by decide) (by decide) (fun x z => Or.inr (by cases List.mem_singleton.mp z; exact g_s1)) ?_
                rintro _ h_s12 - ⟨rfl, -⟩
                show B.G h_s12 3 6 (mkF m 115 #[.val (.int p1), .val (.int p2), .val (.int p3), .val (.int p4), .val (.int (0 : Int32)), .val (.int (0 : Int32)), .val (.int (1 : Int32)), .val (.int (1 : Int32)), .val .null, .val .null, .val .null, .unset, .unset] [(.ref s1)])
                refine B.astore 117 rfl at_115 rfl #[.val (.int p1), .val (.int p2), .val (.int p3), .val (.int p4), .val (.int (0 : Int32)), .val (.int (0 : Int32)), .val (.int (1 : Int32)), .val (.int (1 : Int32)), .val .null, .val .null, .val (.ref s1), .unset, .unset] rfl ?_
                refine B.aconstNull 118 rfl at_117 ?_
                refine B.astore 120 rfl at_118 rfl #[.val (.int p1), .val (.int p2), .val (.int p3), .val (.int p4), .val (.int (0 : Int32)), .val (.int (0 : Int32)), .val (.int (1 : Int32)), .val (.int (1 : Int32)), .val .null, .val .null, .val (.ref s1), .val .null, .unset] rfl ?_
                refine B.iload 122 rfl at_120 rfl ?_
                refine B.if0_eq 146 125 rfl (by decide) rfl at_122 (fun c122 => ?_) (fun c122 => ?_)
                · exact absurd c122 (by decide)
                · refine B.newO 128 rfl at_125 (wd hw 27 rfl) (wd hw 28 rfl) (wd hw 29 rfl) (by decide) (by decide) ?_
                  intro h_s2 s2 e_s2 g_s2 X_s2 E_s2 D_s2
                  show B.G h_s2 4 10 (mkF m 128 #[.val (.int p1), .val (.int p2), .val (.int p3), .val (.int p4), .val (.int (0 : Int32)), .val (.int (0 : Int32)), .val (.int (1 : Int32)), .val (.int (1 : Int32)), .val .null, .val .null, .val (.ref s1), .val .null, .unset] [(.ref s2)])
                  have F0_s2 : Fld Z h_s2 s2 "java/lang/String" "coder" "B" (.int 0) := D_s2 (Or.inr (wd hw 52 rfl)) (ty := .byte) (by decide)
                  have F1_s2 : Fld Z h_s2 s2 "java/lang/String" "value" "[B" .null := D_s2 (Or.inr (wd hw 54 rfl)) (ty := (.array .byte)) (by decide)
                  refine B.dup 129 rfl at_128 rfl ?_
                  refine B.iconst 130 rfl (1 : Int32) at_129 rfl ?_
                  refine B.newP 132 rfl at_130 (wd hw 30 rfl) (by decide) 1 (by decide) (by decide) (by decide) (by decide) ?_
                  intro h_cs2 cs2 e_cs2 g_cs2 X_cs2 A_cs2
                  replace A_cs2 : Ary Z h_cs2 cs2 .char [(.int (0 : Int32))] := A_cs2
                  show B.G h_cs2 5 11 (mkF m 132 #[.val (.int p1), .val (.int p2), .val (.int p3), .val (.int p4), .val (.int (0 : Int32)), .val (.int (0 : Int32)), .val (.int (1 : Int32)), .val (.int (1 : Int32)), .val .null, .val .null, .val (.ref s1), .val .null, .unset] [(.ref cs2), (.ref s2), (.ref s2)])
                  have n_s2_cs2 : s2 ≠ cs2 := fun q => absurd E_s2.lt (by rw [q, e_cs2]; exact Nat.lt_irrefl _)
                  have E_s2_1 := E_s2.ext X_cs2
                  have F0_s2_1 := F0_s2.ext X_cs2
                  have F1_s2_1 := F1_s2.ext X_cs2
                  refine B.dup 133 rfl at_132 rfl ?_
                  refine B.iconst 134 rfl (0 : Int32) at_133 rfl ?_
                  refine B.iloadN 135 rfl at_134 rfl ?_
                  refine B.sipush 138 rfl (255 : Int32) at_135 rfl ?_
                  refine B.iand 139 rfl at_138 ?_
                  refine B.i2c 140 rfl at_139 ?_
                  refine B.topI (p4 &&& (255 : Int32)) (i2c_mask p4) ?_
                  refine B.castore 141 rfl at_140 A_cs2 (by decide) 0 rfl (by simp) (Or.inr g_cs2) ?_
                  intro hs7 Ws7 As7
                  rw [i2c_mask] at As7
                  replace As7 : Ary Z hs7 cs2 .char [(.int (p4 &&& (255 : Int32)))] := As7
                  have E_s2_2 := E_s2_1.wr Ws7
                  have F0_s2_2 := F0_s2_1.other Ws7 (Or.inl n_s2_cs2)
                  have F1_s2_2 := F1_s2_1.other Ws7 (Or.inl n_s2_cs2)
                  refine B.olds fun Y8 => ?_
                  refine B.callI 144 rfl at_141 rfl (wd hw 31 rfl) (wd hw 32 rfl) (wd hw 29 rfl) (wd hw 33 rfl) (by decide) [(.ref cs2)] [(.ref s2)] (rm_st1 l Z a0 hw s2 cs2 cs (p4 &&& 255) hs7 hcs (Ss.ext Y8) E_s2_2 F0_s2_2 F1_s2_2 As7 (own_c p4)) rfl rfl pd___C_V rfl rfl 1 rfl (by decide) (by decide) (by decide) (by decide) (fun x z => Or.inr (by cases List.mem_singleton.mp z; exact g_s2)) ?_
                  rintro _ h_s22 - ⟨rfl, -⟩
                  show B.G h_s22 6 12 (mkF m 144 #[.val (.int p1), .val (.int p2), .val (.int p3), .val (.int p4), .val (.int (0 : Int32)), .val (.int (0 : Int32)), .val (.int (1 : Int32)), .val (.int (1 : Int32)), .val .null, .val .null, .val (.ref s1), .val .null, .unset] [(.ref s2)])
                  refine B.astore 146 rfl at_144 rfl #[.val (.int p1), .val (.int p2), .val (.int p3), .val (.int p4), .val (.int (0 : Int32)), .val (.int (0 : Int32)), .val (.int (1 : Int32)), .val (.int (1 : Int32)), .val .null, .val .null, .val (.ref s1), .val (.ref s2), .unset] rfl ?_
                  refine B.newO 149 rfl at_146 (wd hw 0 rfl) (wd hw 1 rfl) (wd hw 2 rfl) (by decide) (by decide) ?_
                  intro h_o o e_o g_o X_o E_o D_o
                  show B.G h_o 7 16 (mkF m 149 #[.val (.int p1), .val (.int p2), .val (.int p3), .val (.int p4), .val (.int (0 : Int32)), .val (.int (0 : Int32)), .val (.int (1 : Int32)), .val (.int (1 : Int32)), .val .null, .val .null, .val (.ref s1), .val (.ref s2), .unset] [(.ref o)])
                  have F0_o : Fld Z h_o o "com/example/siegelwerk/siegelwerk/DataObject" "xml" "Ljava/util/List;" .null := D_o (Or.inr (wd hw 15 rfl)) (ty := (.object "java/util/List")) (by decide)
                  have F1_o : Fld Z h_o o "com/example/siegelwerk/siegelwerk/DataObject" "bytes" "[B" .null := D_o (Or.inr (wd hw 17 rfl)) (ty := (.array .byte)) (by decide)
                  have F2_o : Fld Z h_o o "com/example/siegelwerk/siegelwerk/DataObject" "mimeType" "Ljava/lang/String;" .null := D_o (Or.inr (wd hw 19 rfl)) (ty := (.object "java/lang/String")) (by decide)
                  have F3_o : Fld Z h_o o "com/example/siegelwerk/siegelwerk/DataObject" "description" "Ljava/lang/String;" .null := D_o (Or.inr (wd hw 21 rfl)) (ty := (.object "java/lang/String")) (by decide)
                  refine B.dup 150 rfl at_149 rfl ?_
                  refine B.aload 152 rfl at_150 rfl rfl ?_
                  refine B.aload 154 rfl at_152 rfl rfl ?_
                  refine B.aload 156 rfl at_154 rfl rfl ?_
                  refine B.aload 158 rfl at_156 rfl rfl ?_
                  refine B.callI 161 rfl at_158 rfl (wd hw 3 rfl) (wd hw 4 rfl) (wd hw 2 rfl) (wd hw 5 rfl) (by decide) [.null, .null, (.ref s1), (.ref s2)] [(.ref o)] (rm_do l Z a0 hw o .null .null (.ref s1) (.ref s2) h_o rfl rfl rfl rfl rfl rfl rfl rfl E_o F0_o F1_o F2_o F3_o) rfl rfl pd__Ljava_util_List__BLjava_lang_String_Ljava_lang_String__V rfl rfl 1 rfl (by decide) (by decide) (by decide) (by decide) (fun x z => Or.inr (by cases List.mem_singleton.mp z; exact g_o)) ?_
                  rintro _ h_o2 - ⟨rfl, E_o2, F_o2⟩
                  show B.G h_o2 7 16 (mkF m 161 #[.val (.int p1), .val (.int p2), .val (.int p3), .val (.int p4), .val (.int (0 : Int32)), .val (.int (0 : Int32)), .val (.int (1 : Int32)), .val (.int (1 : Int32)), .val .null, .val .null, .val (.ref s1), .val (.ref s2), .unset] [(.ref o)])
                  refine B.astore 163 rfl at_161 rfl #[.val (.int p1), .val (.int p2), .val (.int p3), .val (.int p4), .val (.int (0 : Int32)), .val (.int (0 : Int32)), .val (.int (1 : Int32)), .val (.int (1 : Int32)), .val .null, .val .null, .val (.ref s1), .val (.ref s2), .val (.ref o)] rfl ?_
                  refine B.aload 165 rfl at_163 rfl rfl ?_
                  refine B.callV 168 rfl at_165 (wd hw 22 rfl) (wd hw 23 rfl) (wd hw 25 rfl) (wd hw 24 rfl) (wd hw 2 rfl) (wd hw 26 rfl) (by decide) E_o2 [] [] (rm_isN l Z a0 hw o h_o2 F_o2) rfl rfl pd___Z rfl rfl 0 rfl (by decide) (by decide) (by decide) (by decide) (fun _ q => nomatch q) ?_
                  rintro _ _ - ⟨rfl, rfl⟩
                  show B.G h_o2 7 16 (mkF m 168 #[.val (.int p1), .val (.int p2), .val (.int p3), .val (.int p4), .val (.int (0 : Int32)), .val (.int (0 : Int32)), .val (.int (1 : Int32)), .val (.int (1 : Int32)), .val .null, .val .null, .val (.ref s1), .val (.ref s2), .val (.ref o)] [(.int (0 : Int32))])
                  refine B.iload 170 rfl at_168 rfl ?_
                  refine B.icmp_ne 177 173 rfl (by decide) rfl at_170 (fun c170 => ?_) (fun c170 => ?_)
                  · exact absurd c170 (by decide)
                  · refine B.iconst 174 rfl (1 : Int32) at_173 rfl ?_
                    refine B.goto 178 rfl (by decide) at_174 ?_
                    refine B.retN (by simp) at_178 (by decide) (by decide) ?_
                    exact rfl
            · exact absurd c75 (by decide)
          · exact absurd c58 (by decide)
    · refine B.iconst 20 rfl (1 : Int32) at_19 rfl ?_
      refine B.goto 24 rfl (by decide) at_20 ?_
      refine B.istore 26 rfl at_24 #[.val (.int p1), .val (.int p2), .val (.int p3), .val (.int p4), .val (.int (0 : Int32)), .val (.int (1 : Int32)), .unset, .unset, .unset, .unset, .unset, .unset, .unset] rfl ?_
      refine B.iloadN 27 rfl at_26 rfl ?_
      refine B.iconst 28 rfl (4 : Int32) at_27 rfl ?_
      refine B.iand 29 rfl at_28 ?_
      refine B.if0_eq 36 32 rfl (by decide) rfl at_29 (fun c29 => ?_) (fun c29 => ?_)
      · refine B.iconst 37 rfl (0 : Int32) at_36 rfl ?_
        refine B.istore 39 rfl at_37 #[.val (.int p1), .val (.int p2), .val (.int p3), .val (.int p4), .val (.int (0 : Int32)), .val (.int (1 : Int32)), .val (.int (0 : Int32)), .unset, .unset, .unset, .unset, .unset, .unset] rfl ?_
        refine B.iloadN 40 rfl at_39 rfl ?_
        refine B.bipush 42 rfl (8 : Int32) at_40 rfl ?_
        refine B.iand 43 rfl at_42 ?_
        refine B.if0_eq 50 46 rfl (by decide) rfl at_43 (fun c43 => ?_) (fun c43 => ?_)
        · refine B.iconst 51 rfl (0 : Int32) at_50 rfl ?_
          refine B.istore 53 rfl at_51 #[.val (.int p1), .val (.int p2), .val (.int p3), .val (.int p4), .val (.int (0 : Int32)), .val (.int (1 : Int32)), .val (.int (0 : Int32)), .val (.int (0 : Int32)), .unset, .unset, .unset, .unset, .unset] rfl ?_
          refine B.aconstNull 54 rfl at_53 ?_
          refine B.astore 56 rfl at_54 rfl #[.val (.int p1), .val (.int p2), .val (.int p3), .val (.int p4), .val (.int (0 : Int32)), .val (.int (1 : Int32)), .val (.int (0 : Int32)), .val (.int (0 : Int32)), .val .null, .unset, .unset, .unset, .unset] rfl ?_
          refine B.iload 58 rfl at_56 rfl ?_
          refine B.if0_eq 70 61 rfl (by decide) rfl at_58 (fun c58 => ?_) (fun c58 => ?_)
          · refine B.aconstNull 71 rfl at_70 ?_
            refine B.astore 73 rfl at_71 rfl #[.val (.int p1), .val (.int p2), .val (.int p3), .val (.int p4), .val (.int (0 : Int32)), .val (.int (1 : Int32)), .val (.int (0 : Int32)), .val (.int (0 : Int32)), .val .null, .val .null, .unset, .unset, .unset] rfl ?_
            refine B.iload 75 rfl at_73 rfl ?_
            refine B.if0_eq 88 78 rfl (by decide) rfl at_75 (fun c75 => ?_) (fun c75 => ?_)
            · exact absurd c75 (by decide)
            · refine B.iconst 79 rfl (1 : Int32) at_78 rfl ?_
              refine B.newP 81 rfl at_79 (wd hw 44 rfl) (by decide) 1 (by decide) (by decide) (by decide) (by decide) ?_
              intro h_ba ba e_ba g_ba X_ba A_ba
              replace A_ba : Ary Z h_ba ba .byte [(.int (0 : Int32))] := A_ba
              show B.G h_ba 1 1 (mkF m 81 #[.val (.int p1), .val (.int p2), .val (.int p3), .val (.int p4), .val (.int (0 : Int32)), .val (.int (1 : Int32)), .val (.int (0 : Int32)), .val (.int (0 : Int32)), .val .null, .val .null, .unset, .unset, .unset] [(.ref ba)])
              refine B.dup 82 rfl at_81 rfl ?_
              refine B.iconst 83 rfl (0 : Int32) at_82 rfl ?_
              refine B.iloadN 84 rfl at_83 rfl ?_
              refine B.i2b 85 rfl at_84 ?_
              refine B.bastore 86 rfl at_85 A_ba (by decide) 0 rfl (by simp) (Or.inr g_ba) ?_
              intro hs9 Ws9 As9
              replace As9 : Ary Z hs9 ba .byte [(.int (((p2).toInt8.toInt32)).toInt8.toInt32)] := As9
              refine B.astore 88 rfl at_86 rfl #[.val (.int p1), .val (.int p2), .val (.int p3), .val (.int p4), .val (.int (0 : Int32)), .val (.int (1 : Int32)), .val (.int (0 : Int32)), .val (.int (0 : Int32)), .val .null, .val (.ref ba), .unset, .unset, .unset] rfl ?_
              refine B.aconstNull 89 rfl at_88 ?_
              refine B.astore 91 rfl at_89 rfl #[.val (.int p1), .val (.int p2), .val (.int p3), .val (.int p4), .val (.int (0 : Int32)), .val (.int (1 : Int32)), .val (.int (0 : Int32)), .val (.int (0 : Int32)), .val .null, .val (.ref ba), .val .null, .unset, .unset] rfl ?_
              refine B.iload 93 rfl at_91 rfl ?_
              refine B.if0_eq 117 96 rfl (by decide) rfl at_93 (fun c93 => ?_) (fun c93 => ?_)
              · refine B.aconstNull 118 rfl at_117 ?_
                refine B.astore 120 rfl at_118 rfl #[.val (.int p1), .val (.int p2), .val (.int p3), .val (.int p4), .val (.int (0 : Int32)), .val (.int (1 : Int32)), .val (.int (0 : Int32)), .val (.int (0 : Int32)), .val .null, .val (.ref ba), .val .null, .val .null, .unset] rfl ?_
                refine B.iload 122 rfl at_120 rfl ?_
                refine B.if0_eq 146 125 rfl (by decide) rfl at_122 (fun c122 => ?_) (fun c122 => ?_)
                · refine B.newO 149 rfl at_146 (wd hw 0 rfl) (wd hw 1 rfl) (wd hw 2 rfl) (by decide) (by decide) ?_
                  intro h_o o e_o g_o X_o E_o D_o
                  show B.G h_o 2 5 (mkF m 149 #[.val (.int p1), .val (.int p2), .val (.int p3), .val (.int p4), .val (.int (0 : Int32)), .val (.int (1 : Int32)), .val (.int (0 : Int32)), .val (.int (0 : Int32)), .val .null, .val (.ref ba), .val .null, .val .null, .unset] [(.ref o)])
                  have F0_o : Fld Z h_o o "com/example/siegelwerk/siegelwerk/DataObject" "xml" "Ljava/util/List;" .null := D_o (Or.inr (wd hw 15 rfl)) (ty := (.object "java/util/List")) (by decide)
                  have F1_o : Fld Z h_o o "com/example/siegelwerk/siegelwerk/DataObject" "bytes" "[B" .null := D_o (Or.inr (wd hw 17 rfl)) (ty := (.array .byte)) (by decide)
                  have F2_o : Fld Z h_o o "com/example/siegelwerk/siegelwerk/DataObject" "mimeType" "Ljava/lang/String;" .null := D_o (Or.inr (wd hw 19 rfl)) (ty := (.object "java/lang/String")) (by decide)
                  have F3_o : Fld Z h_o o "com/example/siegelwerk/siegelwerk/DataObject" "description" "Ljava/lang/String;" .null := D_o (Or.inr (wd hw 21 rfl)) (ty := (.object "java/lang/String")) (by decide)
                  refine B.dup 150 rfl at_149 rfl ?_
                  refine B.aload 152 rfl at_150 rfl rfl ?_
                  refine B.aload 154 rfl at_152 rfl rfl ?_
                  refine B.aload 156 rfl at_154 rfl rfl ?_
                  refine B.aload 158 rfl at_156 rfl rfl ?_
                  refine B.callI 161 rfl at_158 rfl (wd hw 3 rfl) (wd hw 4 rfl) (wd hw 2 rfl) (wd hw 5 rfl) (by decide) [.null, (.ref ba), .null, .null] [(.ref o)] (rm_do l Z a0 hw o .null (.ref ba) .null .null h_o rfl rfl rfl rfl rfl rfl rfl rfl E_o F0_o F1_o F2_o F3_o) rfl rfl pd__Ljava_util_List__BLjava_lang_String_Ljava_lang_String__V rfl rfl 1 rfl (by decide) (by decide) (by decide) (by decide) (fun x z => Or.inr (by cases List.mem_singleton.mp z; exact g_o)) ?_
                  rintro _ h_o2 - ⟨rfl, E_o2, F_o2⟩
                  show B.G h_o2 2 5 (mkF m 161 #[.val (.int p1), .val (.int p2), .val (.int p3), .val (.int p4), .val (.int (0 : Int32)), .val (.int (1 : Int32)), .val (.int (0 : Int32)), .val (.int (0 : Int32)), .val .null, .val (.ref ba), .val .null, .val .null, .unset] [(.ref o)])
                  refine B.astore 163 rfl at_161 rfl #[.val (.int p1), .val (.int p2), .val (.int p3), .val (.int p4), .val (.int (0 : Int32)), .val (.int (1 : Int32)), .val (.int (0 : Int32)), .val (.int (0 : Int32)), .val .null, .val (.ref ba), .val .null, .val .null, .val (.ref o)] rfl ?_
                  refine B.aload 165 rfl at_163 rfl rfl ?_
                  refine B.callV 168 rfl at_165 (wd hw 22 rfl) (wd hw 23 rfl) (wd hw 25 rfl) (wd hw 24 rfl) (wd hw 2 rfl) (wd hw 26 rfl) (by decide) E_o2 [] [] (rm_isN l Z a0 hw o h_o2 F_o2) rfl rfl pd___Z rfl rfl 0 rfl (by decide) (by decide) (by decide) (by decide) (fun _ q => nomatch q) ?_
                  rintro _ _ - ⟨rfl, rfl⟩
                  show B.G h_o2 2 5 (mkF m 168 #[.val (.int p1), .val (.int p2), .val (.int p3), .val (.int p4), .val (.int (0 : Int32)), .val (.int (1 : Int32)), .val (.int (0 : Int32)), .val (.int (0 : Int32)), .val .null, .val (.ref ba), .val .null, .val .null, .val (.ref o)] [(.int (0 : Int32))])
                  refine B.iload 170 rfl at_168 rfl ?_
                  refine B.icmp_ne 177 173 rfl (by decide) rfl at_170 (fun c170 => ?_) (fun c170 => ?_)
                  · exact absurd c170 (by decide)
                  · refine B.iconst 174 rfl (1 : Int32) at_173 rfl ?_
                    refine B.goto 178 rfl (by decide) at_174 ?_
                    refine B.retN (by simp) at_178 (by decide) (by decide) ?_
                    exact rfl
                · exact absurd c122 (by decide)
              · exact absurd c93 (by decide)
          · exact absurd c58 (by decide)
        · refine B.iconst 47 rfl (1 : Int32) at_46 rfl ?_
          refine B.goto 51 rfl (by decide) at_47 ?_
          refine B.istore 53 rfl at_51 #[.val (.int p1), .val (.int p2), .val (.int p3), .val (.int p4), .val (.int (0 : Int32)), .val (.int (1 : Int32)), .val (.int (0 : Int32)), .val (.int (1 : Int32)), .unset, .unset, .unset, .unset, .unset] rfl ?_
          refine B.aconstNull 54 rfl at_53 ?_
          refine B.astore 56 rfl at_54 rfl #[.val (.int p1), .val (.int p2), .val (.int p3), .val (.int p4), .val (.int (0 : Int32)), .val (.int (1 : Int32)), .val (.int (0 : Int32)), .val (.int (1 : Int32)), .val .null, .unset, .unset, .unset, .unset] rfl ?_
          refine B.iload 58 rfl at_56 rfl ?_
          refine B.if0_eq 70 61 rfl (by decide) rfl at_58 (fun c58 => ?_) (fun c58 => ?_)
          · refine B.aconstNull 71 rfl at_70 ?_
            refine B.astore 73 rfl at_71 rfl #[.val (.int p1), .val (.int p2), .val (.int p3), .val (.int p4), .val (.int (0 : Int32)), .val (.int (1 : Int32)), .val (.int (0 : Int32)), .val (.int (1 : Int32)), .val .null, .val .null, .unset, .unset, .unset] rfl ?_
            refine B.iload 75 rfl at_73 rfl ?_
            refine B.if0_eq 88 78 rfl (by decide) rfl at_75 (fun c75 => ?_) (fun c75 => ?_)
            · exact absurd c75 (by decide)
            · refine B.iconst 79 rfl (1 : Int32) at_78 rfl ?_
              refine B.newP 81 rfl at_79 (wd hw 44 rfl) (by decide) 1 (by decide) (by decide) (by decide) (by decide) ?_
              intro h_ba ba e_ba g_ba X_ba A_ba
              replace A_ba : Ary Z h_ba ba .byte [(.int (0 : Int32))] := A_ba
              show B.G h_ba 1 1 (mkF m 81 #[.val (.int p1), .val (.int p2), .val (.int p3), .val (.int p4), .val (.int (0 : Int32)), .val (.int (1 : Int32)), .val (.int (0 : Int32)), .val (.int (1 : Int32)), .val .null, .val .null, .unset, .unset, .unset] [(.ref ba)])
              refine B.dup 82 rfl at_81 rfl ?_
              refine B.iconst 83 rfl (0 : Int32) at_82 rfl ?_
              refine B.iloadN 84 rfl at_83 rfl ?_
              refine B.i2b 85 rfl at_84 ?_
              refine B.bastore 86 rfl at_85 A_ba (by decide) 0 rfl (by simp) (Or.inr g_ba) ?_
              intro hs10 Ws10 As10
              replace As10 : Ary Z hs10 ba .byte [(.int (((p2).toInt8.toInt32)).toInt8.toInt32)] := As10
              refine B.astore 88 rfl at_86 rfl #[.val (.int p1), .val (.int p2), .val (.int p3), .val (.int p4), .val (.int (0 : Int32)), .val (.int (1 : Int32)), .val (.int (0 : Int32)), .val (.int (1 : Int32)), .val .null, .val (.ref ba), .unset, .unset, .unset] rfl ?_
              refine B.aconstNull 89 rfl at_88 ?_
              refine B.astore 91 rfl at_89 rfl #[.val (.int p1), .val (.int p2), .val (.int p3), .val (.int p4), .val (.int (0 : Int32)), .val (.int (1 : Int32)), .val (.int (0 : Int32)), .val (.int (1 : Int32)), .val .null, .val (.ref ba), .val .null, .unset, .unset] rfl ?_
              refine B.iload 93 rfl at_91 rfl ?_
              refine B.if0_eq 117 96 rfl (by decide) rfl at_93 (fun c93 => ?_) (fun c93 => ?_)
              · refine B.aconstNull 118 rfl at_117 ?_
                refine B.astore 120 rfl at_118 rfl #[.val (.int p1), .val (.int p2), .val (.int p3), .val (.int p4), .val (.int (0 : Int32)), .val (.int (1 : Int32)), .val (.int (0 : Int32)), .val (.int (1 : Int32)), .val .null, .val (.ref ba), .val .null, .val .null, .unset] rfl ?_
                refine B.iload 122 rfl at_120 rfl ?_
                refine B.if0_eq 146 125 rfl (by decide) rfl at_122 (fun c122 => ?_) (fun c122 => ?_)
                · exact absurd c122 (by decide)
                · refine B.newO 128 rfl at_125 (wd hw 27 rfl) (wd hw 28 rfl) (wd hw 29 rfl) (by decide) (by decide) ?_
                  intro h_s2 s2 e_s2 g_s2 X_s2 E_s2 D_s2
                  show B.G h_s2 2 5 (mkF m 128 #[.val (.int p1), .val (.int p2), .val (.int p3), .val (.int p4), .val (.int (0 : Int32)), .val (.int (1 : Int32)), .val (.int (0 : Int32)), .val (.int (1 : Int32)), .val .null, .val (.ref ba), .val .null, .val .null, .unset] [(.ref s2)])
                  have F0_s2 : Fld Z h_s2 s2 "java/lang/String" "coder" "B" (.int 0) := D_s2 (Or.inr (wd hw 52 rfl)) (ty := .byte) (by decide)
                  have F1_s2 : Fld Z h_s2 s2 "java/lang/String" "value" "[B" .null := D_s2 (Or.inr (wd hw 54 rfl)) (ty := (.array .byte)) (by decide)
                  refine B.dup 129 rfl at_128 rfl ?_
                  refine B.iconst 130 rfl (1 : Int32) at_129 rfl ?_
                  refine B.newP 132 rfl at_130 (wd hw 30 rfl) (by decide) 1 (by decide) (by decide) (by decide) (by decide) ?_
                  intro h_cs2 cs2 e_cs2 g_cs2 X_cs2 A_cs2
                  replace A_cs2 : Ary Z h_cs2 cs2 .char [(.int (0 : Int32))] := A_cs2
                  show B.G h_cs2 3 6 (mkF m 132 #[.val (.int p1), .val (.int p2), .val (.int p3), .val (.int p4), .val (.int (0 : Int32)), .val (.int (1 : Int32)), .val (.int (0 : Int32)), .val (.int (1 : Int32)), .val .null, .val (.ref ba), .val .null, .val .null, .unset] [(.ref cs2), (.ref s2), (.ref s2)])
                  have n_s2_cs2 : s2 ≠ cs2 := fun q => absurd E_s2.lt (by rw [q, e_cs2]; exact Nat.lt_irrefl _)
                  have E_s2_1 := E_s2.ext X_cs2
                  have F0_s2_1 := F0_s2.ext X_cs2
                  have F1_s2_1 := F1_s2.ext X_cs2
                  refine B.dup 133 rfl at_132 rfl ?_
                  refine B.iconst 134 rfl (0 : Int32) at_133 rfl ?_
                  refine B.iloadN 135 rfl at_134 rfl ?_
                  refine B.sipush 138 rfl (255 : Int32) at_135 rfl ?_
                  refine B.iand 139 rfl at_138 ?_
                  refine B.i2c 140 rfl at_139 ?_
                  refine B.topI (p4 &&& (255 : Int32)) (i2c_mask p4) ?_
                  refine B.castore 141 rfl at_140 A_cs2 (by decide) 0 rfl (by simp) (Or.inr g_cs2) ?_
                  intro hs11 Ws11 As11
                  rw [i2c_mask] at As11
                  replace As11 : Ary Z hs11 cs2 .char [(.int (p4 &&& (255 : Int32)))] := As11
                  have E_s2_2 := E_s2_1.wr Ws11
                  have F0_s2_2 := F0_s2_1.other Ws11 (Or.inl n_s2_cs2)
                  have F1_s2_2 := F1_s2_1.other Ws11 (Or.inl n_s2_cs2)
                  refine B.olds fun Y12 => ?_
                  refine B.callI 144 rfl at_141 rfl (wd hw 31 rfl) (wd hw 32 rfl) (wd hw 29 rfl) (wd hw 33 rfl) (by decide) [(.ref cs2)] [(.ref s2)] (rm_st1 l Z a0 hw s2 cs2 cs (p4 &&& 255) hs11 hcs (Ss.ext Y12) E_s2_2 F0_s2_2 F1_s2_2 As11 (own_c p4)) rfl rfl pd___C_V rfl rfl 1 rfl (by decide) (by decide) (by decide) (by decide) (fun x z => Or.inr (by cases List.mem_singleton.mp z; exact g_s2)) ?_
                  rintro _ h_s22 - ⟨rfl, -⟩
                  show B.G h_s22 4 7 (mkF m 144 #[.val (.int p1), .val (.int p2), .val (.int p3), .val (.int p4), .val (.int (0 : Int32)), .val (.int (1 : Int32)), .val (.int (0 : Int32)), .val (.int (1 : Int32)), .val .null, .val (.ref ba), .val .null, .val .null, .unset] [(.ref s2)])
                  refine B.astore 146 rfl at_144 rfl #[.val (.int p1), .val (.int p2), .val (.int p3), .val (.int p4), .val (.int (0 : Int32)), .val (.int (1 : Int32)), .val (.int (0 : Int32)), .val (.int (1 : Int32)), .val .null, .val (.ref ba), .val .null, .val (.ref s2), .unset] rfl ?_
                  refine B.newO 149 rfl at_146 (wd hw 0 rfl) (wd hw 1 rfl) (wd hw 2 rfl) (by decide) (by decide) ?_
                  intro h_o o e_o g_o X_o E_o D_o
                  show B.G h_o 5 11 (mkF m 149 #[.val (.int p1), .val (.int p2), .val (.int p3), .val (.int p4), .val (.int (0 : Int32)), .val (.int (1 : Int32)), .val (.int (0 : Int32)), .val (.int (1 : Int32)), .val .null, .val (.ref ba), .val .null, .val (.ref s2), .unset] [(.ref o)])
                  have F0_o : Fld Z h_o o "com/example/siegelwerk/siegelwerk/DataObject" "xml" "Ljava/util/List;" .null := D_o (Or.inr (wd hw 15 rfl)) (ty := (.object "java/util/List")) (by decide)
                  have F1_o : Fld Z h_o o "com/example/siegelwerk/siegelwerk/DataObject" "bytes" "[B" .null := D_o (Or.inr (wd hw 17 rfl)) (ty := (.array .byte)) (by decide)
                  have F2_o : Fld Z h_o o "com/example/siegelwerk/siegelwerk/DataObject" "mimeType" "Ljava/lang/String;" .null := D_o (Or.inr (wd hw 19 rfl)) (ty := (.object "java/lang/String")) (by decide)
                  have F3_o : Fld Z h_o o "com/example/siegelwerk/siegelwerk/DataObject" "description" "Ljava/lang/String;" .null := D_o (Or.inr (wd hw 21 rfl)) (ty := (.object "java/lang/String")) (by decide)
                  refine B.dup 150 rfl at_149 rfl ?_
                  refine B.aload 152 rfl at_150 rfl rfl ?_
                  refine B.aload 154 rfl at_152 rfl rfl ?_
                  refine B.aload 156 rfl at_154 rfl rfl ?_
                  refine B.aload 158 rfl at_156 rfl rfl ?_
                  refine B.callI 161 rfl at_158 rfl (wd hw 3 rfl) (wd hw 4 rfl) (wd hw 2 rfl) (wd hw 5 rfl) (by decide) [.null, (.ref ba), .null, (.ref s2)] [(.ref o)] (rm_do l Z a0 hw o .null (.ref ba) .null (.ref s2) h_o rfl rfl rfl rfl rfl rfl rfl rfl E_o F0_o F1_o F2_o F3_o) rfl rfl pd__Ljava_util_List__BLjava_lang_String_Ljava_lang_String__V rfl rfl 1 rfl (by decide) (by decide) (by decide) (by decide) (fun x z => Or.inr (by cases List.mem_singleton.mp z; exact g_o)) ?_
                  rintro _ h_o2 - ⟨rfl, E_o2, F_o2⟩
                  show B.G h_o2 5 11 (mkF m 161 #[.val (.int p1), .val (.int p2), .val (.int p3), .val (.int p4), .val (.int (0 : Int32)), .val (.int (1 : Int32)), .val (.int (0 : Int32)), .val (.int (1 : Int32)), .val .null, .val (.ref ba), .val .null, .val (.ref s2), .unset] [(.ref o)])
                  refine B.astore 163 rfl at_161 rfl #[.val (.int p1), .val (.int p2), .val (.int p3), .val (.int p4), .val (.int (0 : Int32)), .val (.int (1 : Int32)), .val (.int (0 : Int32)), .val (.int (1 : Int32)), .val .null, .val (.ref ba), .val .null, .val (.ref s2), .val (.ref o)] rfl ?_
                  refine B.aload 165 rfl at_163 rfl rfl ?_
                  refine B.callV 168 rfl at_165 (wd hw 22 rfl) (wd hw 23 rfl) (wd hw 25 rfl) (wd hw 24 rfl) (wd hw 2 rfl) (wd hw 26 rfl) (by decide) E_o2 [] [] (rm_isN l Z a0 hw o h_o2 F_o2) rfl rfl pd___Z rfl rfl 0 rfl (by decide) (by decide) (by decide) (by decide) (fun _ q => nomatch q) ?_
                  rintro _ _ - ⟨rfl, rfl⟩
                  show B.G h_o2 5 11 (mkF m 168 #[.val (.int p1), .val (.int p2), .val (.int p3), .val (.int p4), .val (.int (0 : Int32)), .val (.int (1 : Int32)), .val (.int (0 : Int32)), .val (.int (1 : Int32)), .val .null, .val (.ref ba), .val .null, .val (.ref s2), .val (.ref o)] [(.int (0 : Int32))])
                  refine B.iload 170 rfl at_168 rfl ?_
                  refine B.icmp_ne 177 173 rfl (by decide) rfl at_170 (fun c170 => ?_) (fun c170 => ?_)
                  · exact absurd c170 (by decide)
                  · refine B.iconst 174 rfl (1 : Int32) at_173 rfl ?_
                    refine B.goto 178 rfl (by decide) at_174 ?_
                    refine B.retN (by simp) at_178 (by decide) (by decide) ?_
                    exact rfl
              · exact absurd c93 (by decide)
          · exact absurd c58 (by decide)
      · refine B.iconst 33 rfl (1 : Int32) at_32 rfl ?_
        refine B.goto 37 rfl (by decide) at_33 ?_
        refine B.istore 39 rfl at_37 #[.val (.int p1), .val (.int p2), .val (.int p3), .val (.int p4), .val (.int (0 : Int32)), .val (.int (1 : Int32)), .val (.int (1 : Int32)), .unset, .unset, .unset, .unset, .unset, .unset] rfl ?_
        refine B.iloadN 40 rfl at_39 rfl ?_
        refine B.bipush 42 rfl (8 : Int32) at_40 rfl ?_
        refine B.iand 43 rfl at_42 ?_
        refine B.if0_eq 50 46 rfl (by decide) rfl at_43 (fun c43 => ?_) (fun c43 => ?_)
        · refine B.iconst 51 rfl (0 : Int32) at_50 rfl ?_
          refine B.istore 53 rfl at_51 #[.val (.int p1), .val (.int p2), .val (.int p3), .val (.int p4), .val (.int (0 : Int32)), .val (.int (1 : Int32)), .val (.int (1 : Int32)), .val (.int (0 : Int32)), .unset, .unset, .unset, .unset, .unset] rfl ?_
          refine B.aconstNull 54 rfl at_53 ?_
          refine B.astore 56 rfl at_54 rfl #[.val (.int p1), .val (.int p2), .val (.int p3), .val (.int p4), .val (.int (0 : Int32)), .val (.int (1 : Int32)), .val (.int (1 : Int32)), .val (.int (0 : Int32)), .val .null, .unset, .unset, .unset, .unset] rfl ?_
          refine B.iload 58 rfl at_56 rfl ?_
          refine B.if0_eq 70 61 rfl (by decide) rfl at_58 (fun c58 => ?_) (fun c58 => ?_)
          · refine B.aconstNull 71 rfl at_70 ?_
            refine B.astore 73 rfl at_71 rfl #[.val (.int p1), .val (.int p2), .val (.int p3), .val (.int p4), .val (.int (0 : Int32)), .val (.int (1 : Int32)), .val (.int (1 : Int32)), .val (.int (0 : Int32)), .val .null, .val .null, .unset, .unset, .unset] rfl ?_
            refine B.iload 75 rfl at_73 rfl ?_
            refine B.if0_eq 88 78 rfl (by decide) rfl at_75 (fun c75 => ?_) (fun c75 => ?_)
            · exact absurd c75 (by decide)
            · refine B.iconst 79 rfl (1 : Int32) at_78 rfl ?_
              refine B.newP 81 rfl at_79 (wd hw 44 rfl) (by decide) 1 (by decide) (by decide) (by decide) (by decide) ?_
              intro h_ba ba e_ba g_ba X_ba A_ba
              replace A_ba : Ary Z h_ba ba .byte [(.int (0 : Int32))] := A_ba
              show B.G h_ba 1 1 (mkF m 81 #[.val (.int p1), .val (.int p2), .val (.int p3), .val (.int p4), .val (.int (0 : Int32)), .val (.int (1 : Int32)), .val (.int (1 : Int32)), .val (.int (0 : Int32)), .val .null, .val .null, .unset, .unset, .unset] [(.ref ba)])
              refine B.dup 82 rfl at_81 rfl ?_
              refine B.iconst 83 rfl (0 : Int32) at_82 rfl ?_
              refine B.iloadN 84 rfl at_83 rfl ?_
              refine B.i2b 85 rfl at_84 ?_
              refine B.bastore 86 rfl at_85 A_ba (by decide) 0 rfl (by simp) (Or.inr g_ba) ?_
              intro hs13 Ws13 As13
              replace As13 : Ary Z hs13 ba .byte [(.int (((p2).toInt8.toInt32)).toInt8.toInt32)] := As13
              refine B.astore 88 rfl at_86 rfl #[.val (.int p1), .val (.int p2), .val (.int p3), .val (.int p4), .val (.int (0 : Int32)), .val (.int (1 : Int32)), .val (.int (1 : Int32)), .val (.int (0 : Int32)), .val .null, .val (.ref ba), .unset, .unset, .unset] rfl ?_
              refine B.aconstNull 89 rfl at_88 ?_
              refine B.astore 91 rfl at_89 rfl #[.val (.int p1), .val (.int p2), .val (.int p3), .val (.int p4), .val (.int (0 : Int32)), .val (.int (1 : Int32)), .val (.int (1 : Int32)), .val (.int (0 : Int32)), .val .null, .val (.ref ba), .val .null, .unset, .unset] rfl ?_
              refine B.iload 93 rfl at_91 rfl ?_
              refine B.if0_eq 117 96 rfl (by decide) rfl at_93 (fun c93 => ?_) (fun c93 => ?_)
              · exact absurd c93 (by decide)
              · refine B.newO 99 rfl at_96 (wd hw 27 rfl) (wd hw 28 rfl) (wd hw 29 rfl) (by decide) (by decide) ?_
                intro h_s1 s1 e_s1 g_s1 X_s1 E_s1 D_s1
                show B.G h_s1 2 5 (mkF m 99 #[.val (.int p1), .val (.int p2), .val (.int p3), .val (.int p4), .val (.int (0 : Int32)), .val (.int (1 : Int32)), .val (.int (1 : Int32)), .val (.int (0 : Int32)), .val .null, .val (.ref ba), .val .null, .unset, .unset] [(.ref s1)])
                have F0_s1 : Fld Z h_s1 s1 "java/lang/String" "coder" "B" (.int 0) := D_s1 (Or.inr (wd hw 52 rfl)) (ty := .byte) (by decide)
                have F1_s1 : Fld Z h_s1 s1 "java/lang/String" "value" "[B" .null := D_s1 (Or.inr (wd hw 54 rfl)) (ty := (.array .byte)) (by decide)
                refine B.dup 100 rfl at_99 rfl ?_
                refine B.iconst 101 rfl (1 : Int32) at_100 rfl ?_
                refine B.newP 103 rfl at_101 (wd hw 30 rfl) (by decide) 1 (by decide) (by decide) (by decide) (by decide) ?_
                intro h_cs1 cs1 e_cs1 g_cs1 X_cs1 A_cs1
                replace A_cs1 : Ary Z h_cs1 cs1 .char [(.int (0 : Int32))] := A_cs1
                show B.G h_cs1 3 6 (mkF m 103 #[.val (.int p1), .val (.int p2), .val (.int p3), .val (.int p4), .val (.int (0 : Int32)), .val (.int (1 : Int32)), .val (.int (1 : Int32)), .val (.int (0 : Int32)), .val .null, .val (.ref ba), .val .null, .unset, .unset] [(.ref cs1), (.ref s1), (.ref s1)])
                have n_s1_cs1 : s1 ≠ cs1 := fun q => absurd E_s1.lt (by rw [q, e_cs1]; exact Nat.lt_irrefl _)
                have E_s1_1 := E_s1.ext X_cs1
                have F0_s1_1 := F0_s1.ext X_cs1
                have F1_s1_1 := F1_s1.ext X_cs1
                refine B.dup 104 rfl at_103 rfl ?_
                refine B.iconst 105 rfl (0 : Int32) at_104 rfl ?_
                refine B.iloadN 106 rfl at_105 rfl ?_
                refine B.sipush 109 rfl (255 : Int32) at_106 rfl ?_
                refine B.iand 110 rfl at_109 ?_
                refine B.i2c 111 rfl at_110 ?_
                refine B.topI (p3 &&& (255 : Int32)) (i2c_mask p3) ?_
                refine B.castore 112 rfl at_111 A_cs1 (by decide) 0 rfl (by simp) (Or.inr g_cs1) ?_
                intro hs14 Ws14 As14
                rw [i2c_mask] at As14
                replace As14 : Ary Z hs14 cs1 .char [(.int (p3 &&& (255 : Int32)))] := As14
                have E_s1_2 := E_s1_1.wr Ws14
                have F0_s1_2 := F0_s1_1.other Ws14 (Or.inl n_s1_cs1)
                have F1_s1_2 := F1_s1_1.other Ws14 (Or.inl n_s1_cs1)
                refine B.olds fun Y15 => ?_
                refine B.callI 115 rfl at_112 rfl (wd hw 31 rfl) (wd hw 32 rfl) (wd hw 29 rfl) (wd hw 33 rfl) (by decide) [(.ref cs1)] [(.ref s1)] (rm_st1 l Z a0 hw s1 cs1 cs (p3 &&& 255) hs14 hcs (Ss.ext Y15) E_s1_2 F0_s1_2 F1_s1_2 As14 (own_c p3)) rfl rfl pd___C_V rfl rfl 1 rfl (by decide) (by decide) (by decide) (by decide) (fun x z => Or.inr (by cases List.mem_singleton.mp z; exact g_s1)) ?_
                rintro _ h_s12 - ⟨rfl, -⟩
                show B.G h_s12 4 7 (mkF m 115 #[.val (.int p1), .val (.int p2), .val (.int p3), .val (.int p4), .val (.int (0 : Int32)), .val (.int (1 : Int32)), .val (.int (1 : Int32)), .val (.int (0 : Int32)), .val .null, .val (.ref ba), .val .null, .unset, .unset] [(.ref s1)])
                refine B.astore 117 rfl at_115 rfl #[.val (.int p1), .val (.int p2), .val (.int p3), .val (.int p4), .val (.int (0 : Int32)), .val (.int (1 : Int32)), .val (.int (1 : Int32)), .val (.int (0 : Int32)), .val .null, .val (.ref ba), .val (.ref s1), .unset, .unset] rfl ?_
                refine B.aconstNull 118 rfl at_117 ?_
                refine B.astore 120 rfl at_118 rfl #[.val (.int p1), .val (.int p2), .val (.int p3), .val (.int p4), .val (.int (0 : Int32)), .val (.int (1 : Int32)), .val (.int (1 : Int32)), .val (.int (0 : Int32)), .val .null, .val (.ref ba), .val (.ref s1), .val .null, .unset] rfl ?_
                refine B.iload 122 rfl at_120 rfl ?_
                refine B.if0_eq 146 125 rfl (by decide) rfl at_122 (fun c122 => ?_) (fun c122 => ?_)
                · refine B.newO 149 rfl at_146 (wd hw 0 rfl) (wd hw 1 rfl) (wd hw 2 rfl) (by decide) (by decide) ?_
                  intro h_o o e_o g_o X_o E_o D_o
                  show B.G h_o 5 11 (mkF m 149 #[.val (.int p1), .val (.int p2), .val (.int p3), .val (.int p4), .val (.int (0 : Int32)), .val (.int (1 : Int32)), .val (.int (1 : Int32)), .val (.int (0 : Int32)), .val .null, .val (.ref ba), .val (.ref s1), .val .null, .unset] [(.ref o)])
                  have F0_o : Fld Z h_o o "com/example/siegelwerk/siegelwerk/DataObject" "xml" "Ljava/util/List;" .null := D_o (Or.inr (wd hw 15 rfl)) (ty := (.object "java/util/List")) (by decide)
                  have F1_o : Fld Z h_o o "com/example/siegelwerk/siegelwerk/DataObject" "bytes" "[B" .null := D_o (Or.inr (wd hw 17 rfl)) (ty := (.array .byte)) (by decide)
                  have F2_o : Fld Z h_o o "com/example/siegelwerk/siegelwerk/DataObject" "mimeType" "Ljava/lang/String;" .null := D_o (Or.inr (wd hw 19 rfl)) (ty := (.object "java/lang/String")) (by decide)
                  have F3_o : Fld Z h_o o "com/example/siegelwerk/siegelwerk/DataObject" "description" "Ljava/lang/String;" .null := D_o (Or.inr (wd hw 21 rfl)) (ty := (.object "java/lang/String")) (by decide)
                  refine B.dup 150 rfl at_149 rfl ?_
                  refine B.aload 152 rfl at_150 rfl rfl ?_
                  refine B.aload 154 rfl at_152 rfl rfl ?_
                  refine B.aload 156 rfl at_154 rfl rfl ?_
                  refine B.aload 158 rfl at_156 rfl rfl ?_
                  refine B.callI 161 rfl at_158 rfl (wd hw 3 rfl) (wd hw 4 rfl) (wd hw 2 rfl) (wd hw 5 rfl) (by decide) [.null, (.ref ba), (.ref s1), .null] [(.ref o)] (rm_do l Z a0 hw o .null (.ref ba) (.ref s1) .null h_o rfl rfl rfl rfl rfl rfl rfl rfl E_o F0_o F1_o F2_o F3_o) rfl rfl pd__Ljava_util_List__BLjava_lang_String_Ljava_lang_String__V rfl rfl 1 rfl (by decide) (by decide) (by decide) (by decide) (fun x z => Or.inr (by cases List.mem_singleton.mp z; exact g_o)) ?_
                  rintro _ h_o2 - ⟨rfl, E_o2, F_o2⟩
                  show B.G h_o2 5 11 (mkF m 161 #[.val (.int p1), .val (.int p2), .val (.int p3), .val (.int p4), .val (.int (0 : Int32)), .val (.int (1 : Int32)), .val (.int (1 : Int32)), .val (.int (0 : Int32)), .val .null, .val (.ref ba), .val (.ref s1), .val .null, .unset] [(.ref o)])
                  refine B.astore 163 rfl at_161 rfl #[.val (.int p1), .val (.int p2), .val (.int p3), .val (.int p4), .val (.int (0 : Int32)), .val (.int (1 : Int32)), .val (.int (1 : Int32)), .val (.int (0 : Int32)), .val .null, .val (.ref ba), .val (.ref s1), .val .null, .val (.ref o)] rfl ?_
                  refine B.aload 165 rfl at_163 rfl rfl ?_
                  refine B.callV 168 rfl at_165 (wd hw 22 rfl) (wd hw 23 rfl) (wd hw 25 rfl) (wd hw 24 rfl) (wd hw 2 rfl) (wd hw 26 rfl) (by decide) E_o2 [] [] (rm_isN l Z a0 hw o h_o2 F_o2) rfl rfl pd___Z rfl rfl 0 rfl (by decide) (by decide) (by decide) (by decide) (fun _ q => nomatch q) ?_
                  rintro _ _ - ⟨rfl, rfl⟩
                  show B.G h_o2 5 11 (mkF m 168 #[.val (.int p1), .val (.int p2), .val (.int p3), .val (.int p4), .val (.int (0 : Int32)), .val (.int (1 : Int32)), .val (.int (1 : Int32)), .val (.int (0 : Int32)), .val .null, .val (.ref ba), .val (.ref s1), .val .null, .val (.ref o)] [(.int (0 : Int32))])
                  refine B.iload 170 rfl at_168 rfl ?_
                  refine B.icmp_ne 177 173 rfl (by decide) rfl at_170 (fun c170 => ?_) (fun c170 => ?_)
                  · exact absurd c170 (by decide)
                  · refine B.iconst 174 rfl (1 : Int32) at_173 rfl ?_
                    refine B.goto 178 rfl (by decide) at_174 ?_
                    refine B.retN (by simp) at_178 (by decide) (by decide) ?_
                    exact rfl
                · exact absurd c122 (by decide)
          · exact absurd c58 (by decide)
        · refine B.iconst 47 rfl (1 : Int32) at_46 rfl ?_
          refine B.goto 51 rfl (by decide) at_47 ?_
          refine B.istore 53 rfl at_51 #[.val (.int p1), .val (.int p2), .val (.int p3), .val (.int p4), .val (.int (0 : Int32)), .val (.int (1 : Int32)), .val (.int (1 : Int32)), .val (.int (1 : Int32)), .unset, .unset, .unset, .unset, .unset] rfl ?_
          refine B.aconstNull 54 rfl at_53 ?_
          refine B.astore 56 rfl at_54 rfl #[.val (.int p1), .val (.int p2), .val (.int p3), .val (.int p4), .val (.int (0 : Int32)), .val (.int (1 : Int32)), .val (.int (1 : Int32)), .val (.int (1 : Int32)), .val .null, .unset, .unset, .unset, .unset] rfl ?_
          refine B.iload 58 rfl at_56 rfl ?_
          refine B.if0_eq 70 61 rfl (by decide) rfl at_58 (fun c58 => ?_) (fun c58 => ?_)
          · refine B.aconstNull 71 rfl at_70 ?_
            refine B.astore 73 rfl at_71 rfl #[.val (.int p1), .val (.int p2), .val (.int p3), .val (.int p4), .val (.int (0 : Int32)), .val (.int (1 : Int32)), .val (.int (1 : Int32)), .val (.int (1 : Int32)), .val .null, .val .null, .unset, .unset, .unset] rfl ?_
            refine B.iload 75 rfl at_73 rfl ?_
            refine B.if0_eq 88 78 rfl (by decide) rfl at_75 (fun c75 => ?_) (fun c75 => ?_)
            · exact absurd c75 (by decide)
            · refine B.iconst 79 rfl (1 : Int32) at_78 rfl ?_
              refine B.newP 81 rfl at_79 (wd hw 44 rfl) (by decide) 1 (by decide) (by decide) (by decide) (by decide) ?_
              intro h_ba ba e_ba g_ba X_ba A_ba
              replace A_ba : Ary Z h_ba ba .byte [(.int (0 : Int32))] := A_ba
              show B.G h_ba 1 1 (mkF m 81 #[.val (.int p1), .val (.int p2), .val (.int p3), .val (.int p4), .val (.int (0 : Int32)), .val (.int (1 : Int32)), .val (.int (1 : Int32)), .val (.int (1 : Int32)), .val .null, .val .null, .unset, .unset, .unset] [(.ref ba)])
              refine B.dup 82 rfl at_81 rfl ?_
              refine B.iconst 83 rfl (0 : Int32) at_82 rfl ?_
              refine B.iloadN 84 rfl at_83 rfl ?_
              refine B.i2b 85 rfl at_84 ?_
              refine B.bastore 86 rfl at_85 A_ba (by decide) 0 rfl (by simp) (Or.inr g_ba) ?_
              intro hs16 Ws16 As16
              replace As16 : Ary Z hs16 ba .byte [(.int (((p2).toInt8.toInt32)).toInt8.toInt32)] := As16
              refine B.astore 88 rfl at_86 rfl #[.val (.int p1), .val (.int p2), .val (.int p3), .val (.int p4), .val (.int (0 : Int32)), .val (.int (1 : Int32)), .val (.int (1 : Int32)), .val (.int (1 : Int32)), .val .null, .val (.ref ba), .unset, .unset, .unset] rfl ?_
              refine B.aconstNull 89 rfl at_88 ?_
              refine B.astore 91 rfl at_89 rfl #[.val (.int p1), .val (.int p2), .val (.int p3), .val (.int p4), .val (.int (0 : Int32)), .val (.int (1 : Int32)), .val (.int (1 : Int32)), .val (.int (1 : Int32)), .val .null, .val (.ref ba), .val .null, .unset, .unset] rfl ?_
              refine B.iload 93 rfl at_91 rfl ?_
              refine B.if0_eq 117 96 rfl (by decide) rfl at_93 (fun c93 => ?_) (fun c93 => ?_)
              · exact absurd c93 (by decide)
              · refine B.newO 99 rfl at_96 (wd hw 27 rfl) (wd hw 28 rfl) (wd hw 29 rfl) (by decide) (by decide) ?_
                intro h_s1 s1 e_s1 g_s1 X_s1 E_s1 D_s1
                show B.G h_s1 2 5 (mkF m 99 #[.val (.int p1), .val (.int p2), .val (.int p3), .val (.int p4), .val (.int (0 : Int32)), .val (.int (1 : Int32)), .val (.int (1 : Int32)), .val (.int (1 : Int32)), .val .null, .val (.ref ba), .val .null, .unset, .unset] [(.ref s1)])
                have F0_s1 : Fld Z h_s1 s1 "java/lang/String" "coder" "B" (.int 0) := D_s1 (Or.inr (wd hw 52 rfl)) (ty := .byte) (by decide)
                have F1_s1 : Fld Z h_s1 s1 "java/lang/String" "value" "[B" .null := D_s1 (Or.inr (wd hw 54 rfl)) (ty := (.array .byte)) (by decide)
                refine B.dup 100 rfl at_99 rfl ?_
                refine B.iconst 101 rfl (1 : Int32) at_100 rfl ?_
                refine B.newP 103 rfl at_101 (wd hw 30 rfl) (by decide) 1 (by decide) (by decide) (by decide) (by decide) ?_
                intro h_cs1 cs1 e_cs1 g_cs1 X_cs1 A_cs1
                replace A_cs1 : Ary Z h_cs1 cs1 .char [(.int (0 : Int32))] := A_cs1
                show B.G h_cs1 3 6 (mkF m 103 #[.val (.int p1), .val (.int p2), .val (.int p3), .val (.int p4), .val (.int (0 : Int32)), .val (.int (1 : Int32)), .val (.int (1 : Int32)), .val (.int (1 : Int32)), .val .null, .val (.ref ba), .val .null, .unset, .unset] [(.ref cs1), (.ref s1), (.ref s1)])
                have n_s1_cs1 : s1 ≠ cs1 := fun q => absurd E_s1.lt (by rw [q, e_cs1]; exact Nat.lt_irrefl _)
                have E_s1_1 := E_s1.ext X_cs1
                have F0_s1_1 := F0_s1.ext X_cs1
                have F1_s1_1 := F1_s1.ext X_cs1
                refine B.dup 104 rfl at_103 rfl ?_
                refine B.iconst 105 rfl (0 : Int32) at_104 rfl ?_
                refine B.iloadN 106 rfl at_105 rfl ?_
                refine B.sipush 109 rfl (255 : Int32) at_106 rfl ?_
                refine B.iand 110 rfl at_109 ?_
                refine B.i2c 111 rfl at_110 ?_
                refine B.topI (p3 &&& (255 : Int32)) (i2c_mask p3) ?_
                refine B.castore 112 rfl at_111 A_cs1 (by decide) 0 rfl (by simp) (Or.inr g_cs1) ?_
                intro hs17 Ws17 As17
                rw [i2c_mask] at As17
                replace As17 : Ary Z hs17 cs1 .char [(.int (p3 &&& (255 : Int32)))] := As17
                have E_s1_2 := E_s1_1.wr Ws17
                have F0_s1_2 := F0_s1_1.other Ws17 (Or.inl n_s1_cs1)
                have F1_s1_2 := F1_s1_1.other Ws17 (Or.inl n_s1_cs1)
                refine B.olds fun Y18 => ?_
                refine B.callI 115 rfl at_112 rfl (wd hw 31 rfl) (wd hw 32 rfl) (wd hw 29 rfl) (wd hw 33 rfl) (by decide) [(.ref cs1)] [(.ref s1)] (rm_st1 l Z a0 hw s1 cs1 cs (p3 &&& 255) hs17 hcs (Ss.ext Y18) E_s1_2 F0_s1_2 F1_s1_2 As17 (own_c p3)) rfl rfl pd___C_V rfl rfl 1 rfl (by decide) (by decide) (by decide) (by decide) (fun x z => Or.inr (by cases List.mem_singleton.mp z; exact g_s1)) ?_
                rintro _ h_s12 - ⟨rfl, -⟩
                show B.G h_s12 4 7 (mkF m 115 #[.val (.int p1), .val (.int p2), .val (.int p3), .val (.int p4), .val (.int (0 : Int32)), .val (.int (1 : Int32)), .val (.int (1 : Int32)), .val (.int (1 : Int32)), .val .null, .val (.ref ba), .val .null, .unset, .unset] [(.ref s1)])
                refine B.astore 117 rfl at_115 rfl #[.val (.int p1), .val (.int p2), .val (.int p3), .val (.int p4), .val (.int (0 : Int32)), .val (.int (1 : Int32)), .val (.int (1 : Int32)), .val (.int (1 : Int32)), .val .null, .val (.ref ba), .val (.ref s1), .unset, .unset] rfl ?_
                refine B.aconstNull 118 rfl at_117 ?_
                refine B.astore 120 rfl at_118 rfl #[.val (.int p1), .val (.int p2), .val (.int p3), .val (.int p4), .val (.int (0 : Int32)), .val (.int (1 : Int32)), .val (.int (1 : Int32)), .val (.int (1 : Int32)), .val .null, .val (.ref ba), .val (.ref s1), .val .null, .unset] rfl ?_
                refine B.iload 122 rfl at_120 rfl ?_
                refine B.if0_eq 146 125 rfl (by decide) rfl at_122 (fun c122 => ?_) (fun c122 => ?_)
                · exact absurd c122 (by decide)
                · refine B.newO 128 rfl at_125 (wd hw 27 rfl) (wd hw 28 rfl) (wd hw 29 rfl) (by decide) (by decide) ?_
                  intro h_s2 s2 e_s2 g_s2 X_s2 E_s2 D_s2
                  show B.G h_s2 5 11 (mkF m 128 #[.val (.int p1), .val (.int p2), .val (.int p3), .val (.int p4), .val (.int (0 : Int32)), .val (.int (1 : Int32)), .val (.int (1 : Int32)), .val (.int (1 : Int32)), .val .null, .val (.ref ba), .val (.ref s1), .val .null, .unset] [(.ref s2)])
                  have F0_s2 : Fld Z h_s2 s2 "java/lang/String" "coder" "B" (.int 0) := D_s2 (Or.inr (wd hw 52 rfl)) (ty := .byte) (by decide)
                  have F1_s2 : Fld Z h_s2 s2 "java/lang/String" "value" "[B" .null := D_s2 (Or.inr (wd hw 54 rfl)) (ty := (.array .byte)) (by decide)
                  refine B.dup 129 rfl at_128 rfl ?_
                  refine B.iconst 130 rfl (1 : Int32) at_129 rfl ?_
                  refine B.newP 132 rfl at_130 (wd hw 30 rfl) (by decide) 1 (by decide) (by decide) (by decide) (by decide) ?_
                  intro h_cs2 cs2 e_cs2 g_cs2 X_cs2 A_cs2
                  replace A_cs2 : Ary Z h_cs2 cs2 .char [(.int (0 : Int32))] := A_cs2
                  show B.G h_cs2 6 12 (mkF m 132 #[.val (.int p1), .val (.int p2), .val (.int p3), .val (.int p4), .val (.int (0 : Int32)), .val (.int (1 : Int32)), .val (.int (1 : Int32)), .val (.int (1 : Int32)), .val .null, .val (.ref ba), .val (.ref s1), .val .null, .unset] [(.ref cs2), (.ref s2), (.ref s2)])
                  have n_s2_cs2 : s2 ≠ cs2 := fun q => absurd E_s2.lt (by rw [q, e_cs2]; exact Nat.lt_irrefl _)
                  have E_s2_1 := E_s2.ext X_cs2
                  have F0_s2_1 := F0_s2.ext X_cs2
                  have F1_s2_1 := F1_s2.ext X_cs2
                  refine B.dup 133 rfl at_132 rfl ?_
                  refine B.iconst 134 rfl (0 : Int32) at_133 rfl ?_
                  refine B.iloadN 135 rfl at_134 rfl ?_
                  refine B.sipush 138 rfl (255 : Int32) at_135 rfl ?_
                  refine B.iand 139 rfl at_138 ?_
                  refine B.i2c 140 rfl at_139 ?_
                  refine B.topI (p4 &&& (255 : Int32)) (i2c_mask p4) ?_
                  refine B.castore 141 rfl at_140 A_cs2 (by decide) 0 rfl (by simp) (Or.inr g_cs2) ?_
                  intro hs19 Ws19 As19
                  rw [i2c_mask] at As19
                  replace As19 : Ary Z hs19 cs2 .char [(.int (p4 &&& (255 : Int32)))] := As19
                  have E_s2_2 := E_s2_1.wr Ws19
                  have F0_s2_2 := F0_s2_1.other Ws19 (Or.inl n_s2_cs2)
                  have F1_s2_2 := F1_s2_1.other Ws19 (Or.inl n_s2_cs2)
                  refine B.olds fun Y20 => ?_
                  refine B.callI 144 rfl at_141 rfl (wd hw 31 rfl) (wd hw 32 rfl) (wd hw 29 rfl) (wd hw 33 rfl) (by decide) [(.ref cs2)] [(.ref s2)] (rm_st1 l Z a0 hw s2 cs2 cs (p4 &&& 255) hs19 hcs (Ss.ext Y20) E_s2_2 F0_s2_2 F1_s2_2 As19 (own_c p4)) rfl rfl pd___C_V rfl rfl 1 rfl (by decide) (by decide) (by decide) (by decide) (fun x z => Or.inr (by cases List.mem_singleton.mp z; exact g_s2)) ?_
                  rintro _ h_s22 - ⟨rfl, -⟩
                  show B.G h_s22 7 13 (mkF m 144 #[.val (.int p1), .val (.int p2), .val (.int p3), .val (.int p4), .val (.int (0 : Int32)), .val (.int (1 : Int32)), .val (.int (1 : Int32)), .val (.int (1 : Int32)), .val .null, .val (.ref ba), .val (.ref s1), .val .null, .unset] [(.ref s2)])
                  refine B.astore 146 rfl at_144 rfl #[.val (.int p1), .val (.int p2), .val (.int p3), .val (.int p4), .val (.int (0 : Int32)), .val (.int (1 : Int32)), .val (.int (1 : Int32)), .val (.int (1 : Int32)), .val .null, .val (.ref ba), .val (.ref s1), .val (.ref s2), .unset] rfl ?_
                  refine B.newO 149 rfl at_146 (wd hw 0 rfl) (wd hw 1 rfl) (wd hw 2 rfl) (by decide) (by decide) ?_
                  intro h_o o e_o g_o X_o E_o D_o
                  show B.G h_o 8 17 (mkF m 149 #[.val (.int p1), .val (.int p2), .val (.int p3), .val (.int p4), .val (.int (0 : Int32)), .val (.int (1 : Int32)), .val (.int (1 : Int32)), .val (.int (1 : Int32)), .val .null, .val (.ref ba), .val (.ref s1), .val (.ref s2), .unset] [(.ref o)])
                  have F0_o : Fld Z h_o o "com/example/siegelwerk/siegelwerk/DataObject" "xml" "Ljava/util/List;" .null := D_o (Or.inr (wd hw 15 rfl)) (ty := (.object "java/util/List")) (by decide)
                  have F1_o : Fld Z h_o o "com/example/siegelwerk/siegelwerk/DataObject" "bytes" "[B" .null := D_o (Or.inr (wd hw 17 rfl)) (ty := (.array .byte)) (by decide)
                  have F2_o : Fld Z h_o o "com/example/siegelwerk/siegelwerk/DataObject" "mimeType" "Ljava/lang/String;" .null := D_o (Or.inr (wd hw 19 rfl)) (ty := (.object "java/lang/String")) (by decide)
                  have F3_o : Fld Z h_o o "com/example/siegelwerk/siegelwerk/DataObject" "description" "Ljava/lang/String;" .null := D_o (Or.inr (wd hw 21 rfl)) (ty := (.object "java/lang/String")) (by decide)
                  refine B.dup 150 rfl at_149 rfl ?_
                  refine B.aload 152 rfl at_150 rfl rfl ?_
                  refine B.aload 154 rfl at_152 rfl rfl ?_
                  refine B.aload 156 rfl at_154 rfl rfl ?_
                  refine B.aload 158 rfl at_156 rfl rfl ?_
                  refine B.callI 161 rfl at_158 rfl (wd hw 3 rfl) (wd hw 4 rfl) (wd hw 2 rfl) (wd hw 5 rfl) (by decide) [.null, (.ref ba), (.ref s1), (.ref s2)] [(.ref o)] (rm_do l Z a0 hw o .null (.ref ba) (.ref s1) (.ref s2) h_o rfl rfl rfl rfl rfl rfl rfl rfl E_o F0_o F1_o F2_o F3_o) rfl rfl pd__Ljava_util_List__BLjava_lang_String_Ljava_lang_String__V rfl rfl 1 rfl (by decide) (by decide) (by decide) (by decide) (fun x z => Or.inr (by cases List.mem_singleton.mp z; exact g_o)) ?_
                  rintro _ h_o2 - ⟨rfl, E_o2, F_o2⟩
                  show B.G h_o2 8 17 (mkF m 161 #[.val (.int p1), .val (.int p2), .val (.int p3), .val (.int p4), .val (.int (0 : Int32)), .val (.int (1 : Int32)), .val (.int (1 : Int32)), .val (.int (1 : Int32)), .val .null, .val (.ref ba), .val (.ref s1), .val (.ref s2), .unset] [(.ref o)])
                  refine B.astore 163 rfl at_161 rfl #[.val (.int p1), .val (.int p2), .val (.int p3), .val (.int p4), .val (.int (0 : Int32)), .val (.int (1 : Int32)), .val (.int (1 : Int32)), .val (.int (1 : Int32)), .val .null, .val (.ref ba), .val (.ref s1), .val (.ref s2), .val (.ref o)] rfl ?_
                  refine B.aload 165 rfl at_163 rfl rfl ?_
                  refine B.callV 168 rfl at_165 (wd hw 22 rfl) (wd hw 23 rfl) (wd hw 25 rfl) (wd hw 24 rfl) (wd hw 2 rfl) (wd hw 26 rfl) (by decide) E_o2 [] [] (rm_isN l Z a0 hw o h_o2 F_o2) rfl rfl pd___Z rfl rfl 0 rfl (by decide) (by decide) (by decide) (by decide) (fun _ q => nomatch q) ?_
                  rintro _ _ - ⟨rfl, rfl⟩
                  show B.G h_o2 8 17 (mkF m 168 #[.val (.int p1), .val (.int p2), .val (.int p3), .val (.int p4), .val (.int (0 : Int32)), .val (.int (1 : Int32)), .val (.int (1 : Int32)), .val (.int (1 : Int32)), .val .null, .val (.ref ba), .val (.ref s1), .val (.ref s2), .val (.ref o)] [(.int (0 : Int32))])
                  refine B.iload 170 rfl at_168 rfl ?_
                  refine B.icmp_ne 177 173 rfl (by decide) rfl at_170 (fun c170 => ?_) (fun c170 => ?_)
                  · exact absurd c170 (by decide)
                  · refine B.iconst 174 rfl (1 : Int32) at_173 rfl ?_
                    refine B.goto 178 rfl (by decide) at_174 ?_
                    refine B.retN (by simp) at_178 (by decide) (by decide) ?_
                    exact rfl
          · exact absurd c58 (by decide)
  · refine B.iconst 7 rfl (1 : Int32) at_6 rfl ?_
    refine B.goto 11 rfl (by decide) at_7 ?_
    refine B.istore 13 rfl at_11 #[.val (.int p1), .val (.int p2), .val (.int p3), .val (.int p4), .val (.int (1 : Int32)), .unset, .unset, .unset, .unset, .unset, .unset, .unset, .unset] rfl ?_
    refine B.iloadN 14 rfl at_13 rfl ?_
    refine B.iconst 15 rfl (2 : Int32) at_14 rfl ?_
    refine B.iand 16 rfl at_15 ?_
    refine B.if0_eq 23 19 rfl (by decide) rfl at_16 (fun c16 => ?_) (fun c16 => ?_)
    · refine B.iconst 24 rfl (0 : Int32) at_23 rfl ?_
      refine B.istore 26 rfl at_24 #[.val (.int p1), .val (.int p2), .val (.int p3), .val (.int p4), .val (.int (1 : Int32)), .val (.int (0 : Int32)), .unset, .unset, .unset, .unset, .unset, .unset, .unset] rfl ?_
      refine B.iloadN 27 rfl at_26 rfl ?_
      refine B.iconst 28 rfl (4 : Int32) at_27 rfl ?_
      refine B.iand 29 rfl at_28 ?_
      refine B.if0_eq 36 32 rfl (by decide) rfl at_29 (fun c29 => ?_) (fun c29 => ?_)
      · refine B.iconst 37 rfl (0 : Int32) at_36 rfl ?_
        refine B.istore 39 rfl at_37 #[.val (.int p1), .val (.int p2), .val (.int p3), .val (.int p4), .val (.int (1 : Int32)), .val (.int (0 : Int32)), .val (.int (0 : Int32)), .unset, .unset, .unset, .unset, .unset, .unset] rfl ?_
        refine B.iloadN 40 rfl at_39 rfl ?_
        refine B.bipush 42 rfl (8 : Int32) at_40 rfl ?_
        refine B.iand 43 rfl at_42 ?_
        refine B.if0_eq 50 46 rfl (by decide) rfl at_43 (fun c43 => ?_) (fun c43 => ?_)
        · refine B.iconst 51 rfl (0 : Int32) at_50 rfl ?_
          refine B.istore 53 rfl at_51 #[.val (.int p1), .val (.int p2), .val (.int p3), .val (.int p4), .val (.int (1 : Int32)), .val (.int (0 : Int32)), .val (.int (0 : Int32)), .val (.int (0 : Int32)), .unset, .unset, .unset, .unset, .unset] rfl ?_
          refine B.aconstNull 54 rfl at_53 ?_
          refine B.astore 56 rfl at_54 rfl #[.val (.int p1), .val (.int p2), .val (.int p3), .val (.int p4), .val (.int (1 : Int32)), .val (.int (0 : Int32)), .val (.int (0 : Int32)), .val (.int (0 : Int32)), .val .null, .unset, .unset, .unset, .unset] rfl ?_
          refine B.iload 58 rfl at_56 rfl ?_
          refine B.if0_eq 70 61 rfl (by decide) rfl at_58 (fun c58 => ?_) (fun c58 => ?_)
          · exact absurd c58 (by decide)
          · refine B.newO 64 rfl at_61 (wd hw 55 rfl) (wd hw 56 rfl) (wd hw 57 rfl) (by decide) (by decide) ?_
            intro h_al al e_al g_al X_al E_al D_al
            show B.G h_al 1 3 (mkF m 64 #[.val (.int p1), .val (.int p2), .val (.int p3), .val (.int p4), .val (.int (1 : Int32)), .val (.int (0 : Int32)), .val (.int (0 : Int32)), .val (.int (0 : Int32)), .val .null, .unset, .unset, .unset, .unset] [(.ref al)])
            have F0_al : Fld Z h_al al "java/util/AbstractList" "modCount" "I" (.int 0) := D_al (Or.inl (wd hw 75 rfl)) (ty := .int) (by decide)
            have F1_al : Fld Z h_al al "java/util/ArrayList" "elementData" "[Ljava/lang/Object;" .null := D_al (Or.inl (wd hw 78 rfl)) (ty := (.array (.object "java/lang/Object"))) (by decide)
            refine B.dup 65 rfl at_64 rfl ?_
            refine B.olds fun Y21 => ?_
            refine B.callI 68 rfl at_65 rfl (wd hw 58 rfl) (wd hw 59 rfl) (wd hw 57 rfl) (wd hw 60 rfl) (by decide) [] [(.ref al)] (rm_al l Z a0 hw al de h_al (Sd.ext Y21) E_al F0_al F1_al) rfl rfl pd___V rfl rfl 1 rfl (by decide) (by decide) (by decide) (by decide) (fun x z => Or.inr (by cases List.mem_singleton.mp z; exact g_al)) ?_
            rintro _ h_al2 - rfl
            show B.G h_al2 1 3 (mkF m 68 #[.val (.int p1), .val (.int p2), .val (.int p3), .val (.int p4), .val (.int (1 : Int32)), .val (.int (0 : Int32)), .val (.int (0 : Int32)), .val (.int (0 : Int32)), .val .null, .unset, .unset, .unset, .unset] [(.ref al)])
            refine B.astore 70 rfl at_68 rfl #[.val (.int p1), .val (.int p2), .val (.int p3), .val (.int p4), .val (.int (1 : Int32)), .val (.int (0 : Int32)), .val (.int (0 : Int32)), .val (.int (0 : Int32)), .val (.ref al), .unset, .unset, .unset, .unset] rfl ?_
            refine B.aconstNull 71 rfl at_70 ?_
            refine B.astore 73 rfl at_71 rfl #[.val (.int p1), .val (.int p2), .val (.int p3), .val (.int p4), .val (.int (1 : Int32)), .val (.int (0 : Int32)), .val (.int (0 : Int32)), .val (.int (0 : Int32)), .val (.ref al), .val .null, .unset, .unset, .unset] rfl ?_
            refine B.iload 75 rfl at_73 rfl ?_
            refine B.if0_eq 88 78 rfl (by decide) rfl at_75 (fun c75 => ?_) (fun c75 => ?_)
            · refine B.aconstNull 89 rfl at_88 ?_
              refine B.astore 91 rfl at_89 rfl #[.val (.int p1), .val (.int p2), .val (.int p3), .val (.int p4), .val (.int (1 : Int32)), .val (.int (0 : Int32)), .val (.int (0 : Int32)), .val (.int (0 : Int32)), .val (.ref al), .val .null, .val .null, .unset, .unset] rfl ?_
              refine B.iload 93 rfl at_91 rfl ?_
              refine B.if0_eq 117 96 rfl (by decide) rfl at_93 (fun c93 => ?_) (fun c93 => ?_)
              · refine B.aconstNull 118 rfl at_117 ?_
                refine B.astore 120 rfl at_118 rfl #[.val (.int p1), .val (.int p2), .val (.int p3), .val (.int p4), .val (.int (1 : Int32)), .val (.int (0 : Int32)), .val (.int (0 : Int32)), .val (.int (0 : Int32)), .val (.ref al), .val .null, .val .null, .val .null, .unset] rfl ?_
                refine B.iload 122 rfl at_120 rfl ?_
                refine B.if0_eq 146 125 rfl (by decide) rfl at_122 (fun c122 => ?_) (fun c122 => ?_)
                · refine B.newO 149 rfl at_146 (wd hw 0 rfl) (wd hw 1 rfl) (wd hw 2 rfl) (by decide) (by decide) ?_
                  intro h_o o e_o g_o X_o E_o D_o
                  show B.G h_o 2 7 (mkF m 149 #[.val (.int p1), .val (.int p2), .val (.int p3), .val (.int p4), .val (.int (1 : Int32)), .val (.int (0 : Int32)), .val (.int (0 : Int32)), .val (.int (0 : Int32)), .val (.ref al), .val .null, .val .null, .val .null, .unset] [(.ref o)])
                  have F0_o : Fld Z h_o o "com/example/siegelwerk/siegelwerk/DataObject" "xml" "Ljava/util/List;" .null := D_o (Or.inr (wd hw 15 rfl)) (ty := (.object "java/util/List")) (by decide)
                  have F1_o : Fld Z h_o o "com/example/siegelwerk/siegelwerk/DataObject" "bytes" "[B" .null := D_o (Or.inr (wd hw 17 rfl)) (ty := (.array .byte)) (by decide)
                  have F2_o : Fld Z h_o o "com/example/siegelwerk/siegelwerk/DataObject" "mimeType" "Ljava/lang/String;" .null := D_o (Or.inr (wd hw 19 rfl)) (ty := (.object "java/lang/String")) (by decide)
                  have F3_o : Fld Z h_o o "com/example/siegelwerk/siegelwerk/DataObject" "description" "Ljava/lang/String;" .null := D_o (Or.inr (wd hw 21 rfl)) (ty := (.object "java/lang/String")) (by decide)
                  refine B.dup 150 rfl at_149 rfl ?_
                  refine B.aload 152 rfl at_150 rfl rfl ?_
                  refine B.aload 154 rfl at_152 rfl rfl ?_
                  refine B.aload 156 rfl at_154 rfl rfl ?_
                  refine B.aload 158 rfl at_156 rfl rfl ?_
                  refine B.callI 161 rfl at_158 rfl (wd hw 3 rfl) (wd hw 4 rfl) (wd hw 2 rfl) (wd hw 5 rfl) (by decide) [(.ref al), .null, .null, .null] [(.ref o)] (rm_do l Z a0 hw o (.ref al) .null .null .null h_o rfl rfl rfl rfl rfl rfl rfl rfl E_o F0_o F1_o F2_o F3_o) rfl rfl pd__Ljava_util_List__BLjava_lang_String_Ljava_lang_String__V rfl rfl 1 rfl (by decide) (by decide) (by decide) (by decide) (fun x z => Or.inr (by cases List.mem_singleton.mp z; exact g_o)) ?_
                  rintro _ h_o2 - ⟨rfl, E_o2, F_o2⟩
                  show B.G h_o2 2 7 (mkF m 161 #[.val (.int p1), .val (.int p2), .val (.int p3), .val (.int p4), .val (.int (1 : Int32)), .val (.int (0 : Int32)), .val (.int (0 : Int32)), .val (.int (0 : Int32)), .val (.ref al), .val .null, .val .null, .val .null, .unset] [(.ref o)])
                  refine B.astore 163 rfl at_161 rfl #[.val (.int p1), .val (.int p2), .val (.int p3), .val (.int p4), .val (.int (1 : Int32)), .val (.int (0 : Int32)), .val (.int (0 : Int32)), .val (.int (0 : Int32)), .val (.ref al), .val .null, .val .null, .val .null, .val (.ref o)] rfl ?_
                  refine B.aload 165 rfl at_163 rfl rfl ?_
                  refine B.callV 168 rfl at_165 (wd hw 22 rfl) (wd hw 23 rfl) (wd hw 25 rfl) (wd hw 24 rfl) (wd hw 2 rfl) (wd hw 26 rfl) (by decide) E_o2 [] [] (rm_isR l Z a0 hw o al h_o2 F_o2) rfl rfl pd___Z rfl rfl 0 rfl (by decide) (by decide) (by decide) (by decide) (fun _ q => nomatch q) ?_
                  rintro _ _ - ⟨rfl, rfl⟩
                  show B.G h_o2 2 7 (mkF m 168 #[.val (.int p1), .val (.int p2), .val (.int p3), .val (.int p4), .val (.int (1 : Int32)), .val (.int (0 : Int32)), .val (.int (0 : Int32)), .val (.int (0 : Int32)), .val (.ref al), .val .null, .val .null, .val .null, .val (.ref o)] [(.int (1 : Int32))])
                  refine B.iload 170 rfl at_168 rfl ?_
                  refine B.icmp_ne 177 173 rfl (by decide) rfl at_170 (fun c170 => ?_) (fun c170 => ?_)
                  · exact absurd c170 (by decide)
                  · refine B.iconst 174 rfl (1 : Int32) at_173 rfl ?_
                    refine B.goto 178 rfl (by decide) at_174 ?_
                    refine B.retN (by simp) at_178 (by decide) (by decide) ?_
                    exact rfl
                · exact absurd c122 (by decide)
              · exact absurd c93 (by decide)
            · exact absurd c75 (by decide)
        · refine B.iconst 47 rfl (1 : Int32) at_46 rfl ?_
          refine B.goto 51 rfl (by decide) at_47 ?_
          refine B.istore 53 rfl at_51 #[.val (.int p1), .val (.int p2), .val (.int p3), .val (.int p4), .val (.int (1 : Int32)), .val (.int (0 : Int32)), .val (.int (0 : Int32)), .val (.int (1 : Int32)), .unset, .unset, .unset, .unset, .unset] rfl ?_
          refine B.aconstNull 54 rfl at_53 ?_
          refine B.astore 56 rfl at_54 rfl #[.val (.int p1), .val (.int p2), .val (.int p3), .val (.int p4), .val (.int (1 : Int32)), .val (.int (0 : Int32)), .val (.int (0 : Int32)), .val (.int (1 : Int32)), .val .null, .unset, .unset, .unset, .unset] rfl ?_
          refine B.iload 58 rfl at_56 rfl ?_
          refine B.if0_eq 70 61 rfl (by decide) rfl at_58 (fun c58 => ?_) (fun c58 => ?_)
          · exact absurd c58 (by decide)
          · refine B.newO 64 rfl at_61 (wd hw 55 rfl) (wd hw 56 rfl) (wd hw 57 rfl) (by decide) (by decide) ?_
            intro h_al al e_al g_al X_al E_al D_al
            show B.G h_al 1 3 (mkF m 64 #[.val (.int p1), .val (.int p2), .val (.int p3), .val (.int p4), .val (.int (1 : Int32)), .val (.int (0 : Int32)), .val (.int (0 : Int32)), .val (.int (1 : Int32)), .val .null, .unset, .unset, .unset, .unset] [(.ref al)])
            have F0_al : Fld Z h_al al "java/util/AbstractList" "modCount" "I" (.int 0) := D_al (Or.inl (wd hw 75 rfl)) (ty := .int) (by decide)
            have F1_al : Fld Z h_al al "java/util/ArrayList" "elementData" "[Ljava/lang/Object;" .null := D_al (Or.inl (wd hw 78 rfl)) (ty := (.array (.object "java/lang/Object"))) (by decide)
            refine B.dup 65 rfl at_64 rfl ?_
            refine B.olds fun Y22 => ?_
            refine B.callI 68 rfl at_65 rfl (wd hw 58 rfl) (wd hw 59 rfl) (wd hw 57 rfl) (wd hw 60 rfl) (by decide) [] [(.ref al)] (rm_al l Z a0 hw al de h_al (Sd.ext Y22) E_al F0_al F1_al) rfl rfl pd___V rfl rfl 1 rfl (by decide) (by decide) (by decide) (by decide) (fun x z => Or.inr (by cases List.mem_singleton.mp z; exact g_al)) ?_
            rintro _ h_al2 - rfl
            show B.G h_al2 1 3 (mkF m 68 #[.val (.int p1), .val (.int p2), .val (.int p3), .val (.int p4), .val (.int (1 : Int32)), .val (.int (0 : Int32)), .val (.int (0 : Int32)), .val (.int (1 : Int32)), .val .null, .unset, .unset, .unset, .unset] [(.ref al)])
            refine B.astore 70 rfl at_68 rfl #[.val (.int p1), .val (.int p2), .val (.int p3), .val (.int p4), .val (.int (1 : Int32)), .val (.int (0 : Int32)), .val (.int (0 : Int32)), .val (.int (1 : Int32)), .val (.ref al), .unset, .unset, .unset, .unset] rfl ?_
            refine B.aconstNull 71 rfl at_70 ?_
            refine B.astore 73 rfl at_71 rfl #[.val (.int p1), .val (.int p2), .val (.int p3), .val (.int p4), .val (.int (1 : Int32)), .val (.int (0 : Int32)), .val (.int (0 : Int32)), .val (.int (1 : Int32)), .val (.ref al), .val .null, .unset, .unset, .unset] rfl ?_
            refine B.iload 75 rfl at_73 rfl ?_
            refine B.if0_eq 88 78 rfl (by decide) rfl at_75 (fun c75 => ?_) (fun c75 => ?_)
            · refine B.aconstNull 89 rfl at_88 ?_
              refine B.astore 91 rfl at_89 rfl #[.val (.int p1), .val (.int p2), .val (.int p3), .val (.int p4), .val (.int (1 : Int32)), .val (.int (0 : Int32)), .val (.int (0 : Int32)), .val (.int (1 : Int32)), .val (.ref al), .val .null, .val .null, .unset, .unset] rfl ?_
              refine B.iload 93 rfl at_91 rfl ?_
              refine B.if0_eq 117 96 rfl (by decide) rfl at_93 (fun c93 => ?_) (fun c93 => ?_)
              · refine B.aconstNull 118 rfl at_117 ?_
                refine B.astore 120 rfl at_118 rfl #[.val (.int p1), .val (.int p2), .val (.int p3), .val (.int p4), .val (.int (1 : Int32)), .val (.int (0 : Int32)), .val (.int (0 : Int32)), .val (.int (1 : Int32)), .val (.ref al), .val .null, .val .null, .val .null, .unset] rfl ?_
                refine B.iload 122 rfl at_120 rfl ?_
                refine B.if0_eq 146 125 rfl (by decide) rfl at_122 (fun c122 => ?_) (fun c122 => ?_)
                · exact absurd c122 (by decide)
                · refine B.newO 128 rfl at_125 (wd hw 27 rfl) (wd hw 28 rfl) (wd hw 29 rfl) (by decide) (by decide) ?_
                  intro h_s2 s2 e_s2 g_s2 X_s2 E_s2 D_s2
                  show B.G h_s2 2 7 (mkF m 128 #[.val (.int p1), .val (.int p2), .val (.int p3), .val (.int p4), .val (.int (1 : Int32)), .val (.int (0 : Int32)), .val (.int (0 : Int32)), .val (.int (1 : Int32)), .val (.ref al), .val .null, .val .null, .val .null, .unset] [(.ref s2)])
                  have F0_s2 : Fld Z h_s2 s2 "java/lang/String" "coder" "B" (.int 0) := D_s2 (Or.inr (wd hw 52 rfl)) (ty := .byte) (by decide)
                  have F1_s2 : Fld Z h_s2 s2 "java/lang/String" "value" "[B" .null := D_s2 (Or.inr (wd hw 54 rfl)) (ty := (.array .byte)) (by decide)
                  refine B.dup 129 rfl at_128 rfl ?_
                  refine B.iconst 130 rfl (1 : Int32) at_129 rfl ?_
                  refine B.newP 132 rfl at_130 (wd hw 30 rfl) (by decide) 1 (by decide) (by decide) (by decide) (by decide) ?_
                  intro h_cs2 cs2 e_cs2 g_cs2 X_cs2 A_cs2
                  replace A_cs2 : Ary Z h_cs2 cs2 .char [(.int (0 : Int32))] := A_cs2
                  show B.G h_cs2 3 8 (mkF m 132 #[.val (.int p1), .val (.int p2), .val (.int p3), .val (.int p4), .val (.int (1 : Int32)), .val (.int (0 : Int32)), .val (.int (0 : Int32)), .val (.int (1 : Int32)), .val (.ref al), .val .null, .val .null, .val .null, .unset] [(.ref cs2), (.ref s2), (.ref s2)])
                  have n_s2_cs2 : s2 ≠ cs2 := fun q => absurd E_s2.lt (by rw [q, e_cs2]; exact Nat.lt_irrefl _)
                  have E_s2_1 := E_s2.ext X_cs2
                  have F0_s2_1 := F0_s2.ext X_cs2
                  have F1_s2_1 := F1_s2.ext X_cs2
                  refine B.dup 133 rfl at_132 rfl ?_
                  refine B.iconst 134 rfl (0 : Int32) at_133 rfl ?_
                  refine B.iloadN 135 rfl at_134 rfl ?_
                  refine B.sipush 138 rfl (255 : Int32) at_135 rfl ?_
                  refine B.iand 139 rfl at_138 ?_
                  refine B.i2c 140 rfl at_139 ?_
                  refine B.topI (p4 &&& (255 : Int32)) (i2c_mask p4) ?_
                  refine B.castore 141 rfl at_140 A_cs2 (by decide) 0 rfl (by simp) (Or.inr g_cs2) ?_
                  intro hs23 Ws23 As23
                  rw [i2c_mask] at As23
                  replace As23 : Ary Z hs23 cs2 .char [(.int (p4 &&& (255 : Int32)))] := As23
                  have E_s2_2 := E_s2_1.wr Ws23
                  have F0_s2_2 := F0_s2_1.other Ws23 (Or.inl n_s2_cs2)
                  have F1_s2_2 := F1_s2_1.other Ws23 (Or.inl n_s2_cs2)
                  refine B.olds fun Y24 => ?_
                  refine B.callI 144 rfl at_141 rfl (wd hw 31 rfl) (wd hw 32 rfl) (wd hw 29 rfl) (wd hw 33 rfl) (by decide) [(.ref cs2)] [(.ref s2)] (rm_st1 l Z a0 hw s2 cs2 cs (p4 &&& 255) hs23 hcs (Ss.ext Y24) E_s2_2 F0_s2_2 F1_s2_2 As23 (own_c p4)) rfl rfl pd___C_V rfl rfl 1 rfl (by decide) (by decide) (by decide) (by decide) (fun x z => Or.inr (by cases List.mem_singleton.mp z; exact g_s2)) ?_
                  rintro _ h_s22 - ⟨rfl, -⟩
                  show B.G h_s22 4 9 (mkF m 144 #[.val (.int p1), .val (.int p2), .val (.int p3), .val (.int p4), .val (.int (1 : Int32)), .val (.int (0 : Int32)), .val (.int (0 : Int32)), .val (.int (1 : Int32)), .val (.ref al), .val .null, .val .null, .val .null, .unset] [(.ref s2)])
                  refine B.astore 146 rfl at_144 rfl #[.val (.int p1), .val (.int p2), .val (.int p3), .val (.int p4), .val (.int (1 : Int32)), .val (.int (0 : Int32)), .val (.int (0 : Int32)), .val (.int (1 : Int32)), .val (.ref al), .val .null, .val .null, .val (.ref s2), .unset] rfl ?_
                  refine B.newO 149 rfl at_146 (wd hw 0 rfl) (wd hw 1 rfl) (wd hw 2 rfl) (by decide) (by decide) ?_
                  intro h_o o e_o g_o X_o E_o D_o
                  show B.G h_o 5 13 (mkF m 149 #[.val (.int p1), .val (.int p2), .val (.int p3), .val (.int p4), .val (.int (1 : Int32)), .val (.int (0 : Int32)), .val (.int (0 : Int32)), .val (.int (1 : Int32)), .val (.ref al), .val .null, .val .null, .val (.ref s2), .unset] [(.ref o)])
                  have F0_o : Fld Z h_o o "com/example/siegelwerk/siegelwerk/DataObject" "xml" "Ljava/util/List;" .null := D_o (Or.inr (wd hw 15 rfl)) (ty := (.object "java/util/List")) (by decide)
                  have F1_o : Fld Z h_o o "com/example/siegelwerk/siegelwerk/DataObject" "bytes" "[B" .null := D_o (Or.inr (wd hw 17 rfl)) (ty := (.array .byte)) (by decide)
                  have F2_o : Fld Z h_o o "com/example/siegelwerk/siegelwerk/DataObject" "mimeType" "Ljava/lang/String;" .null := D_o (Or.inr (wd hw 19 rfl)) (ty := (.object "java/lang/String")) (by decide)
                  have F3_o : Fld Z h_o o "com/example/siegelwerk/siegelwerk/DataObject" "description" "Ljava/lang/String;" .null := D_o (Or.inr (wd hw 21 rfl)) (ty := (.object "java/lang/String")) (by decide)
                  refine B.dup 150 rfl at_149 rfl ?_
                  refine B.aload 152 rfl at_150 rfl rfl ?_
                  refine B.aload 154 rfl at_152 rfl rfl ?_
                  refine B.aload 156 rfl at_154 rfl rfl ?_
                  refine B.aload 158 rfl at_156 rfl rfl ?_
                  refine B.callI 161 rfl at_158 rfl (wd hw 3 rfl) (wd hw 4 rfl) (wd hw 2 rfl) (wd hw 5 rfl) (by decide) [(.ref al), .null, .null, (.ref s2)] [(.ref o)] (rm_do l Z a0 hw o (.ref al) .null .null (.ref s2) h_o rfl rfl rfl rfl rfl rfl rfl rfl E_o F0_o F1_o F2_o F3_o) rfl rfl pd__Ljava_util_List__BLjava_lang_String_Ljava_lang_String__V rfl rfl 1 rfl (by decide) (by decide) (by decide) (by decide) (fun x z => Or.inr (by cases List.mem_singleton.mp z; exact g_o)) ?_
                  rintro _ h_o2 - ⟨rfl, E_o2, F_o2⟩
                  show B.G h_o2 5 13 (mkF m 161 #[.val (.int p1), .val (.int p2), .val (.int p3), .val (.int p4), .val (.int (1 : Int32)), .val (.int (0 : Int32)), .val (.int (0 : Int32)), .val (.int (1 : Int32)), .val (.ref al), .val .null, .val .null, .val (.ref s2), .unset] [(.ref o)])
                  refine B.astore 163 rfl at_161 rfl #[.val (.int p1), .val (.int p2), .val (.int p3), .val (.int p4), .val (.int (1 : Int32)), .val (.int (0 : Int32)), .val (.int (0 : Int32)), .val (.int (1 : Int32)), .val (.ref al), .val .null, .val .null, .val (.ref s2), .val (.ref o)] rfl ?_
                  refine B.aload 165 rfl at_163 rfl rfl ?_
                  refine B.callV 168 rfl at_165 (wd hw 22 rfl) (wd hw 23 rfl) (wd hw 25 rfl) (wd hw 24 rfl) (wd hw 2 rfl) (wd hw 26 rfl) (by decide) E_o2 [] [] (rm_isR l Z a0 hw o al h_o2 F_o2) rfl rfl pd___Z rfl rfl 0 rfl (by decide) (by decide) (by decide) (by decide) (fun _ q => nomatch q) ?_
                  rintro _ _ - ⟨rfl, rfl⟩
                  show B.G h_o2 5 13 (mkF m 168 #[.val (.int p1), .val (.int p2), .val (.int p3), .val (.int p4), .val (.int (1 : Int32)), .val (.int (0 : Int32)), .val (.int (0 : Int32)), .val (.int (1 : Int32)), .val (.ref al), .val .null, .val .null, .val (.ref s2), .val (.ref o)] [(.int (1 : Int32))])
                  refine B.iload 170 rfl at_168 rfl ?_
                  refine B.icmp_ne 177 173 rfl (by decide) rfl at_170 (fun c170 => ?_) (fun c170 => ?_)
                  · exact absurd c170 (by decide)
                  · refine B.iconst 174 rfl (1 : Int32) at_173 rfl ?_
                    refine B.goto 178 rfl (by decide) at_174 ?_
                    refine B.retN (by simp) at_178 (by decide) (by decide) ?_
                    exact rfl
              · exact absurd c93 (by decide)
            · exact absurd c75 (by decide)
      · refine B.iconst 33 rfl (1 : Int32) at_32 rfl ?_
        refine B.goto 37 rfl (by decide) at_33 ?_
        refine B.istore 39 rfl at_37 #[.val (.int p1), .val (.int p2), .val (.int p3), .val (.int p4), .val (.int (1 : Int32)), .val (.int (0 : Int32)), .val (.int (1 : Int32)), .unset, .unset, .unset, .unset, .unset, .unset] rfl ?_
        refine B.iloadN 40 rfl at_39 rfl ?_
        refine B.bipush 42 rfl (8 : Int32) at_40 rfl ?_
        refine B.iand 43 rfl at_42 ?_
        refine B.if0_eq 50 46 rfl (by decide) rfl at_43 (fun c43 => ?_) (fun c43 => ?_)
        · refine B.iconst 51 rfl (0 : Int32) at_50 rfl ?_
          refine B.istore 53 rfl at_51 #[.val (.int p1), .val (.int p2), .val (.int p3), .val (.int p4), .val (.int (1 : Int32)), .val (.int (0 : Int32)), .val (.int (1 : Int32)), .val (.int (0 : Int32)), .unset, .unset, .unset, .unset, .unset] rfl ?_
          refine B.aconstNull 54 rfl at_53 ?_
          refine B.astore 56 rfl at_54 rfl #[.val (.int p1), .val (.int p2), .val (.int p3), .val (.int p4), .val (.int (1 : Int32)), .val (.int (0 : Int32)), .val (.int (1 : Int32)), .val (.int (0 : Int32)), .val .null, .unset, .unset, .unset, .unset] rfl ?_
          refine B.iload 58 rfl at_56 rfl ?_
          refine B.if0_eq 70 61 rfl (by decide) rfl at_58 (fun c58 => ?_) (fun c58 => ?_)
          · exact absurd c58 (by decide)
          · refine B.newO 64 rfl at_61 (wd hw 55 rfl) (wd hw 56 rfl) (wd hw 57 rfl) (by decide) (by decide) ?_
            intro h_al al e_al g_al X_al E_al D_al
            show B.G h_al 1 3 (mkF m 64 #[.val (.int p1), .val (.int p2), .val (.int p3), .val (.int p4), .val (.int (1 : Int32)), .val (.int (0 : Int32)), .val (.int (1 : Int32)), .val (.int (0 : Int32)), .val .null, .unset, .unset, .unset, .unset] [(.ref al)])
            have F0_al : Fld Z h_al al "java/util/AbstractList" "modCount" "I" (.int 0) := D_al (Or.inl (wd hw 75 rfl)) (ty := .int) (by decide)
            have F1_al : Fld Z h_al al "java/util/ArrayList" "elementData" "[Ljava/lang/Object;" .null := D_al (Or.inl (wd hw 78 rfl)) (ty := (.array (.object "java/lang/Object"))) (by decide)
            refine B.dup 65 rfl at_64 rfl ?_
            refine B.olds fun Y25 => ?_
            refine B.callI 68 rfl at_65 rfl (wd hw 58 rfl) (wd hw 59 rfl) (wd hw 57 rfl) (wd hw 60 rfl) (by decide) [] [(.ref al)] (rm_al l Z a0 hw al de h_al (Sd.ext Y25) E_al F0_al F1_al) rfl rfl pd___V rfl rfl 1 rfl (by decide) (by decide) (by decide) (by decide) (fun x z => Or.inr (by cases List.mem_singleton.mp z; exact g_al)) ?_
            rintro _ h_al2 - rfl
            show B.G h_al2 1 3 (mkF m 68 #[.val (.int p1), .val (.int p2), .val (.int p3), .val (.int p4), .val (.int (1 : Int32)), .val (.int (0 : Int32)), .val (.int (1 : Int32)), .val (.int (0 : Int32)), .val .null, .unset, .unset, .unset, .unset] [(.ref al)])
            refine B.astore 70 rfl at_68 rfl #[.val (.int p1), .val (.int p2), .val (.int p3), .val (.int p4), .val (.int (1 : Int32)), .val (.int (0 : Int32)), .val (.int (1 : Int32)), .val (.int (0 : Int32)), .val (.ref al), .unset, .unset, .unset, .unset] rfl ?_
            refine B.aconstNull 71 rfl at_70 ?_
            refine B.astore 73 rfl at_71 rfl #[.val (.int p1), .val (.int p2), .val (.int p3), .val (.int p4), .val (.int (1 : Int32)), .val (.int (0 : Int32)), .val (.int (1 : Int32)), .val (.int (0 : Int32)), .val (.ref al), .val .null, .unset, .unset, .unset] rfl ?_
            refine B.iload 75 rfl at_73 rfl ?_
            refine B.if0_eq 88 78 rfl (by decide) rfl at_75 (fun c75 => ?_) (fun c75 => ?_)
            · refine B.aconstNull 89 rfl at_88 ?_
              refine B.astore 91 rfl at_89 rfl #[.val (.int p1), .val (.int p2), .val (.int p3), .val (.int p4), .val (.int (1 : Int32)), .val (.int (0 : Int32)), .val (.int (1 : Int32)), .val (.int (0 : Int32)), .val (.ref al), .val .null, .val .null, .unset, .unset] rfl ?_
              refine B.iload 93 rfl at_91 rfl ?_
              refine B.if0_eq 117 96 rfl (by decide) rfl at_93 (fun c93 => ?_) (fun c93 => ?_)
              · exact absurd c93 (by decide)
              · refine B.newO 99 rfl at_96 (wd hw 27 rfl) (wd hw 28 rfl) (wd hw 29 rfl) (by decide) (by decide) ?_
                intro h_s1 s1 e_s1 g_s1 X_s1 E_s1 D_s1
                show B.G h_s1 2 7 (mkF m 99 #[.val (.int p1), .val (.int p2), .val (.int p3), .val (.int p4), .val (.int (1 : Int32)), .val (.int (0 : Int32)), .val (.int (1 : Int32)), .val (.int (0 : Int32)), .val (.ref al), .val .null, .val .null, .unset, .unset] [(.ref s1)])
                have F0_s1 : Fld Z h_s1 s1 "java/lang/String" "coder" "B" (.int 0) := D_s1 (Or.inr (wd hw 52 rfl)) (ty := .byte) (by decide)
                have F1_s1 : Fld Z h_s1 s1 "java/lang/String" "value" "[B" .null := D_s1 (Or.inr (wd hw 54 rfl)) (ty := (.array .byte)) (by decide)
                refine B.dup 100 rfl at_99 rfl ?_
                refine B.iconst 101 rfl (1 : Int32) at_100 rfl ?_
                refine B.newP 103 rfl at_101 (wd hw 30 rfl) (by decide) 1 (by decide) (by decide) (by decide) (by decide) ?_
                intro h_cs1 cs1 e_cs1 g_cs1 X_cs1 A_cs1
                replace A_cs1 : Ary Z h_cs1 cs1 .char [(.int (0 : Int32))] := A_cs1
                show B.G h_cs1 3 8 (mkF m 103 #[.val (.int p1), .val (.int p2), .val (.int p3), .val (.int p4), .val (.int (1 : Int32)), .val (.int (0 : Int32)), .val (.int (1 : Int32)), .val (.int (0 : Int32)), .val (.ref al), .val .null, .val .null, .unset, .unset] [(.ref cs1), (.ref s1), (.ref s1)])
                have n_s1_cs1 : s1 ≠ cs1 := fun q => absurd E_s1.lt (by rw [q, e_cs1]; exact Nat.lt_irrefl _)
                have E_s1_1 := E_s1.ext X_cs1
                have F0_s1_1 := F0_s1.ext X_cs1
                have F1_s1_1 := F1_s1.ext X_cs1
                refine B.dup 104 rfl at_103 rfl ?_
                refine B.iconst 105 rfl (0 : Int32) at_104 rfl ?_
                refine B.iloadN 106 rfl at_105 rfl ?_
                refine B.sipush 109 rfl (255 : Int32) at_106 rfl ?_
                refine B.iand 110 rfl at_109 ?_
                refine B.i2c 111 rfl at_110 ?_
                refine B.topI (p3 &&& (255 : Int32)) (i2c_mask p3) ?_
                refine B.castore 112 rfl at_111 A_cs1 (by decide) 0 rfl (by simp) (Or.inr g_cs1) ?_
                intro hs26 Ws26 As26
                rw [i2c_mask] at As26
                replace As26 : Ary Z hs26 cs1 .char [(.int (p3 &&& (255 : Int32)))] := As26
                have E_s1_2 := E_s1_1.wr Ws26
                have F0_s1_2 := F0_s1_1.other Ws26 (Or.inl n_s1_cs1)
                have F1_s1_2 := F1_s1_1.other Ws26 (Or.inl n_s1_cs1)
                refine B.olds fun Y27 => ?_
                refine B.callI 115 rfl at_112 rfl (wd hw 31 rfl) (wd hw 32 rfl) (wd hw 29 rfl) (wd hw 33 rfl) (by decide) [(.ref cs1)] [(.ref s1)] (rm_st1 l Z a0 hw s1 cs1 cs (p3 &&& 255) hs26 hcs (Ss.ext Y27) E_s1_2 F0_s1_2 F1_s1_2 As26 (own_c p3)) rfl rfl pd___C_V rfl rfl 1 rfl (by decide) (by decide) (by decide) (by decide) (fun x z => Or.inr (by cases List.mem_singleton.mp z; exact g_s1)) ?_
                rintro _ h_s12 - ⟨rfl, -⟩
                show B.G h_s12 4 9 (mkF m 115 #[.val (.int p1), .val (.int p2), .val (.int p3), .val (.int p4), .val (.int (1 : Int32)), .val (.int (0 : Int32)), .val (.int (1 : Int32)), .val (.int (0 : Int32)), .val (.ref al), .val .null, .val .null, .unset, .unset] [(.ref s1)])
                refine B.astore 117 rfl at_115 rfl #[.val (.int p1), .val (.int p2), .val (.int p3), .val (.int p4), .val (.int (1 : Int32)), .val (.int (0 : Int32)), .val (.int (1 : Int32)), .val (.int (0 : Int32)), .val (.ref al), .val .null, .val (.ref s1), .unset, .unset] rfl ?_
                refine B.aconstNull 118 rfl at_117 ?_
                refine B.astore 120 rfl at_118 rfl #[.val (.int p1), .val (.int p2), .val (.int p3), .val (.int p4), .val (.int (1 : Int32)), .val (.int (0 : Int32)), .val (.int (1 : Int32)), .val (.int (0 : Int32)), .val (.ref al), .val .null, .val (.ref s1), .val .null, .unset] rfl ?_
                refine B.iload 122 rfl at_120 rfl ?_
                refine B.if0_eq 146 125 rfl (by decide) rfl at_122 (fun c122 => ?_) (fun c122 => ?_)
                · refine B.newO 149 rfl at_146 (wd hw 0 rfl) (wd hw 1 rfl) (wd hw 2 rfl) (by decide) (by decide) ?_
                  intro h_o o e_o g_o X_o E_o D_o
                  show B.G h_o 5 13 (mkF m 149 #[.val (.int p1), .val (.int p2), .val (.int p3), .val (.int p4), .val (.int (1 : Int32)), .val (.int (0 : Int32)), .val (.int (1 : Int32)), .val (.int (0 : Int32)), .val (.ref al), .val .null, .val (.ref s1), .val .null, .unset] [(.ref o)])
                  have F0_o : Fld Z h_o o "com/example/siegelwerk/siegelwerk/DataObject" "xml" "Ljava/util/List;" .null := D_o (Or.inr (wd hw 15 rfl)) (ty := (.object "java/util/List")) (by decide)
                  have F1_o : Fld Z h_o o "com/example/siegelwerk/siegelwerk/DataObject" "bytes" "[B" .null := D_o (Or.inr (wd hw 17 rfl)) (ty := (.array .byte)) (by decide)
                  have F2_o : Fld Z h_o o "com/example/siegelwerk/siegelwerk/DataObject" "mimeType" "Ljava/lang/String;" .null := D_o (Or.inr (wd hw 19 rfl)) (ty := (.object "java/lang/String")) (by decide)
                  have F3_o : Fld Z h_o o "com/example/siegelwerk/siegelwerk/DataObject" "description" "Ljava/lang/String;" .null := D_o (Or.inr (wd hw 21 rfl)) (ty := (.object "java/lang/String")) (by decide)
                  refine B.dup 150 rfl at_149 rfl ?_
                  refine B.aload 152 rfl at_150 rfl rfl ?_
                  refine B.aload 154 rfl at_152 rfl rfl ?_
                  refine B.aload 156 rfl at_154 rfl rfl ?_
                  refine B.aload 158 rfl at_156 rfl rfl ?_
                  refine B.callI 161 rfl at_158 rfl (wd hw 3 rfl) (wd hw 4 rfl) (wd hw 2 rfl) (wd hw 5 rfl) (by decide) [(.ref al), .null, (.ref s1), .null] [(.ref o)] (rm_do l Z a0 hw o (.ref al) .null (.ref s1) .null h_o rfl rfl rfl rfl rfl rfl rfl rfl E_o F0_o F1_o F2_o F3_o) rfl rfl pd__Ljava_util_List__BLjava_lang_String_Ljava_lang_String__V rfl rfl 1 rfl (by decide) (by decide) (by decide) (by decide) (fun x z => Or.inr (by cases List.mem_singleton.mp z; exact g_o)) ?_
                  rintro _ h_o2 - ⟨rfl, E_o2, F_o2⟩
                  show B.G h_o2 5 13 (mkF m 161 #[.val (.int p1), .val (.int p2), .val (.int p3), .val (.int p4), .val (.int (1 : Int32)), .val (.int (0 : Int32)), .val (.int (1 : Int32)), .val (.int (0 : Int32)), .val (.ref al), .val .null, .val (.ref s1), .val .null, .unset] [(.ref o)])
                  refine B.astore 163 rfl at_161 rfl #[.val (.int p1), .val (.int p2), .val (.int p3), .val (.int p4), .val (.int (1 : Int32)), .val (.int (0 : Int32)), .val (.int (1 : Int32)), .val (.int (0 : Int32)), .val (.ref al), .val .null, .val (.ref s1), .val .null, .val (.ref o)] rfl ?_
                  refine B.aload 165 rfl at_163 rfl rfl ?_
                  refine B.callV 168 rfl at_165 (wd hw 22 rfl) (wd hw 23 rfl) (wd hw 25 rfl) (wd hw 24 rfl) (wd hw 2 rfl) (wd hw 26 rfl) (by decide) E_o2 [] [] (rm_isR l Z a0 hw o al h_o2 F_o2) rfl rfl pd___Z rfl rfl 0 rfl (by decide) (by decide) (by decide) (by decide) (fun _ q => nomatch q) ?_
                  rintro _ _ - ⟨rfl, rfl⟩
                  show B.G h_o2 5 13 (mkF m 168 #[.val (.int p1), .val (.int p2), .val (.int p3), .val (.int p4), .val (.int (1 : Int32)), .val (.int (0 : Int32)), .val (.int (1 : Int32)), .val (.int (0 : Int32)), .val (.ref al), .val .null, .val (.ref s1), .val .null, .val (.ref o)] [(.int (1 : Int32))])
                  refine B.iload 170 rfl at_168 rfl ?_
                  refine B.icmp_ne 177 173 rfl (by decide) rfl at_170 (fun c170 => ?_) (fun c170 => ?_)
                  · exact absurd c170 (by decide)
                  · refine B.iconst 174 rfl (1 : Int32) at_173 rfl ?_
                    refine B.goto 178 rfl (by decide) at_174 ?_
                    refine B.retN (by simp) at_178 (by decide) (by decide) ?_
                    exact rfl
                · exact absurd c122 (by decide)
            · exact absurd c75 (by decide)
        · refine B.iconst 47 rfl (1 : Int32) at_46 rfl ?_
          refine B.goto 51 rfl (by decide) at_47 ?_
          refine B.istore 53 rfl at_51 #[.val (.int p1), .val (.int p2), .val (.int p3), .val (.int p4), .val (.int (1 : Int32)), .val (.int (0 : Int32)), .val (.int (1 : Int32)), .val (.int (1 : Int32)), .unset, .unset, .unset, .unset, .unset] rfl ?_
          refine B.aconstNull 54 rfl at_53 ?_
          refine B.astore 56 rfl at_54 rfl #[.val (.int p1), .val (.int p2), .val (.int p3), .val (.int p4), .val (.int (1 : Int32)), .val (.int (0 : Int32)), .val (.int (1 : Int32)), .val (.int (1 : Int32)), .val .null, .unset, .unset, .unset, .unset] rfl ?_
          refine B.iload 58 rfl at_56 rfl ?_
          refine B.if0_eq 70 61 rfl (by decide) rfl at_58 (fun c58 => ?_) (fun c58 => ?_)
          · exact absurd c58 (by decide)
          · refine B.newO 64 rfl at_61 (wd hw 55 rfl) (wd hw 56 rfl) (wd hw 57 rfl) (by decide) (by decide) ?_
            intro h_al al e_al g_al X_al E_al D_al
            show B.G h_al 1 3 (mkF m 64 #[.val (.int p1), .val (.int p2), .val (.int p3), .val (.int p4), .val (.int (1 : Int32)), .val (.int (0 : Int32)), .val (.int (1 : Int32)), .val (.int (1 : Int32)), .val .null, .unset, .unset, .unset, .unset] [(.ref al)])
            have F0_al : Fld Z h_al al "java/util/AbstractList" "modCount" "I" (.int 0) := D_al (Or.inl (wd hw 75 rfl)) (ty := .int) (by decide)
            have F1_al : Fld Z h_al al "java/util/ArrayList" "elementData" "[Ljava/lang/Object;" .null := D_al (Or.inl (wd hw 78 rfl)) (ty := (.array (.object "java/lang/Object"))) (by decide)
            refine B.dup 65 rfl at_64 rfl ?_
            refine B.olds fun Y28 => ?_
            refine B.callI 68 rfl at_65 rfl (wd hw 58 rfl) (wd hw 59 rfl) (wd hw 57 rfl) (wd hw 60 rfl) (by decide) [] [(.ref al)] (rm_al l Z a0 hw al de h_al (Sd.ext Y28) E_al F0_al F1_al) rfl rfl pd___V rfl rfl 1 rfl (by decide) (by decide) (by decide) (by decide) (fun x z => Or.inr (by cases List.mem_singleton.mp z; exact g_al)) ?_
            rintro _ h_al2 - rfl
            show B.G h_al2 1 3 (mkF m 68 #[.val (.int p1), .val (.int p2), .val (.int p3), .val (.int p4), .val (.int (1 : Int32)), .val (.int (0 : Int32)), .val (.int (1 : Int32)), .val (.int (1 : Int32)), .val .null, .unset, .unset, .unset, .unset] [(.ref al)])
            refine B.astore 70 rfl at_68 rfl #[.val (.int p1), .val (.int p2), .val (.int p3), .val (.int p4), .val (.int (1 : Int32)), .val (.int (0 : Int32)), .val (.int (1 : Int32)), .val (.int (1 : Int32)), .val (.ref al), .unset, .unset, .unset, .unset] rfl ?_
            refine B.aconstNull 71 rfl at_70 ?_
            refine B.astore 73 rfl at_71 rfl #[.val (.int p1), .val (.int p2), .val (.int p3), .val (.int p4), .val (.int (1 : Int32)), .val (.int (0 : Int32)), .val (.int (1 : Int32)), .val (.int (1 : Int32)), .val (.ref al), .val .null, .unset, .unset, .unset] rfl ?_
            refine B.iload 75 rfl at_73 rfl ?_
            refine B.if0_eq 88 78 rfl (by decide) rfl at_75 (fun c75 => ?_) (fun c75 => ?_)
            · refine B.aconstNull 89 rfl at_88 ?_
              refine B.astore 91 rfl at_89 rfl #[.val (.int p1), .val (.int p2), .val (.int p3), .val (.int p4), .val (.int (1 : Int32)), .val (.int (0 : Int32)), .val (.int (1 : Int32)), .val (.int (1 : Int32)), .val (.ref al), .val .null, .val .null, .unset, .unset] rfl ?_
              refine B.iload 93 rfl at_91 rfl ?_
              refine B.if0_eq 117 96 rfl (by decide) rfl at_93 (fun c93 => ?_) (fun c93 => ?_)
              · exact absurd c93 (by decide)
              · refine B.newO 99 rfl at_96 (wd hw 27 rfl) (wd hw 28 rfl) (wd hw 29 rfl) (by decide) (by decide) ?_
                intro h_s1 s1 e_s1 g_s1 X_s1 E_s1 D_s1
                show B.G h_s1 2 7 (mkF m 99 #[.val (.int p1), .val (.int p2), .val (.int p3), .val (.int p4), .val (.int (1 : Int32)), .val (.int (0 : Int32)), .val (.int (1 : Int32)), .val (.int (1 : Int32)), .val (.ref al), .val .null, .val .null, .unset, .unset] [(.ref s1)])
                have F0_s1 : Fld Z h_s1 s1 "java/lang/String" "coder" "B" (.int 0) := D_s1 (Or.inr (wd hw 52 rfl)) (ty := .byte) (by decide)
                have F1_s1 : Fld Z h_s1 s1 "java/lang/String" "value" "[B" .null := D_s1 (Or.inr (wd hw 54 rfl)) (ty := (.array .byte)) (by decide)
                refine B.dup 100 rfl at_99 rfl ?_
                refine B.iconst 101 rfl (1 : Int32) at_100 rfl ?_
                refine B.newP 103 rfl at_101 (wd hw 30 rfl) (by decide) 1 (by decide) (by decide) (by decide) (by decide) ?_
                intro h_cs1 cs1 e_cs1 g_cs1 X_cs1 A_cs1
                replace A_cs1 : Ary Z h_cs1 cs1 .char [(.int (0 : Int32))] := A_cs1
                show B.G h_cs1 3 8 (mkF m 103 #[.val (.int p1), .val (.int p2), .val (.int p3), .val (.int p4), .val (.int (1 : Int32)), .val (.int (0 : Int32)), .val (.int (1 : Int32)), .val (.int (1 : Int32)), .val (.ref al), .val .null, .val .null, .unset, .unset] [(.ref cs1), (.ref s1), (.ref s1)])
                have n_s1_cs1 : s1 ≠ cs1 := fun q => absurd E_s1.lt (by rw [q, e_cs1]; exact Nat.lt_irrefl _)
                have E_s1_1 := E_s1.ext X_cs1
                have F0_s1_1 := F0_s1.ext X_cs1
                have F1_s1_1 := F1_s1.ext X_cs1
                refine B.dup 104 rfl at_103 rfl ?_
                refine B.iconst 105 rfl (0 : Int32) at_104 rfl ?_
                refine B.iloadN 106 rfl at_105 rfl ?_
                refine B.sipush 109 rfl (255 : Int32) at_106 rfl ?_
                refine B.iand 110 rfl at_109 ?_
                refine B.i2c 111 rfl at_110 ?_
                refine B.topI (p3 &&& (255 : Int32)) (i2c_mask p3) ?_
                refine B.castore 112 rfl at_111 A_cs1 (by decide) 0 rfl (by simp) (Or.inr g_cs1) ?_
                intro hs29 Ws29 As29
                rw [i2c_mask] at As29
                replace As29 : Ary Z hs29 cs1 .char [(.int (p3 &&& (255 : Int32)))] := As29
                have E_s1_2 := E_s1_1.wr Ws29
                have F0_s1_2 := F0_s1_1.other Ws29 (Or.inl n_s1_cs1)
                have F1_s1_2 := F1_s1_1.other Ws29 (Or.inl n_s1_cs1)
                refine B.olds fun Y30 => ?_
                refine B.callI 115 rfl at_112 rfl (wd hw 31 rfl) (wd hw 32 rfl) (wd hw 29 rfl) (wd hw 33 rfl) (by decide) [(.ref cs1)] [(.ref s1)] (rm_st1 l Z a0 hw s1 cs1 cs (p3 &&& 255) hs29 hcs (Ss.ext Y30) E_s1_2 F0_s1_2 F1_s1_2 As29 (own_c p3)) rfl rfl pd___C_V rfl rfl 1 rfl (by decide) (by decide) (by decide) (by decide) (fun x z => Or.inr (by cases List.mem_singleton.mp z; exact g_s1)) ?_
                rintro _ h_s12 - ⟨rfl, -⟩
                show B.G h_s12 4 9 (mkF m 115 #[.val (.int p1), .val (.int p2), .val (.int p3), .val (.int p4), .val (.int (1 : Int32)), .val (.int (0 : Int32)), .val (.int (1 : Int32)), .val (.int (1 : Int32)), .val (.ref al), .val .null, .val .null, .unset, .unset] [(.ref s1)])
                refine B.astore 117 rfl at_115 rfl #[.val (.int p1), .val (.int p2), .val (.int p3), .val (.int p4), .val (.int (1 : Int32)), .val (.int (0 : Int32)), .val (.int (1 : Int32)), .val (.int (1 : Int32)), .val (.ref al), .val .null, .val (.ref s1), .unset, .unset] rfl ?_
                refine B.aconstNull 118 rfl at_117 ?_
                refine B.astore 120 rfl at_118 rfl #[.val (.int p1), .val (.int p2), .val (.int p3), .val (.int p4), .val (.int (1 : Int32)), .val (.int (0 : Int32)), .val (.int (1 : Int32)), .val (.int (1 : Int32)), .val (.ref al), .val .null, .val (.ref s1), .val .null, .unset] rfl ?_
                refine B.iload 122 rfl at_120 rfl ?_
                refine B.if0_eq 146 125 rfl (by decide) rfl at_122 (fun c122 => ?_) (fun c122 => ?_)
                · exact absurd c122 (by decide)
                · refine B.newO 128 rfl at_125 (wd hw 27 rfl) (wd hw 28 rfl) (wd hw 29 rfl) (by decide) (by decide) ?_
                  intro h_s2 s2 e_s2 g_s2 X_s2 E_s2 D_s2
                  show B.G h_s2 5 13 (mkF m 128 #[.val (.int p1), .val (.int p2), .val (.int p3), .val (.int p4), .val (.int (1 : Int32)), .val (.int (0 : Int32)), .val (.int (1 : Int32)), .val (.int (1 : Int32)), .val (.ref al), .val .null, .val (.ref s1), .val .null, .unset] [(.ref s2)])
                  have F0_s2 : Fld Z h_s2 s2 "java/lang/String" "coder" "B" (.int 0) := D_s2 (Or.inr (wd hw 52 rfl)) (ty := .byte) (by decide)
                  have F1_s2 : Fld Z h_s2 s2 "java/lang/String" "value" "[B" .null := D_s2 (Or.inr (wd hw 54 rfl)) (ty := (.array .byte)) (by decide)
                  refine B.dup 129 rfl at_128 rfl ?_
                  refine B.iconst 130 rfl (1 : Int32) at_129 rfl ?_
                  refine B.newP 132 rfl at_130 (wd hw 30 rfl) (by decide) 1 (by decide) (by decide) (by decide) (by decide) ?_
                  intro h_cs2 cs2 e_cs2 g_cs2 X_cs2 A_cs2
                  replace A_cs2 : Ary Z h_cs2 cs2 .char [(.int (0 : Int32))] := A_cs2
                  show B.G h_cs2 6 14 (mkF m 132 #[.val (.int p1), .val (.int p2), .val (.int p3), .val (.int p4), .val (.int (1 : Int32)), .val (.int (0 : Int32)), .val (.int (1 : Int32)), .val (.int (1 : Int32)), .val (.ref al), .val .null, .val (.ref s1), .val .null, .unset] [(.ref cs2), (.ref s2), (.ref s2)])
                  have n_s2_cs2 : s2 ≠ cs2 := fun q => absurd E_s2.lt (by rw [q, e_cs2]; exact Nat.lt_irrefl _)
                  have E_s2_1 := E_s2.ext X_cs2
                  have F0_s2_1 := F0_s2.ext X_cs2
                  have F1_s2_1 := F1_s2.ext X_cs2
                  refine B.dup 133 rfl at_132 rfl ?_
                  refine B.iconst 134 rfl (0 : Int32) at_133 rfl ?_
                  refine B.iloadN 135 rfl at_134 rfl ?_
                  refine B.sipush 138 rfl (255 : Int32) at_135 rfl ?_
                  refine B.iand 139 rfl at_138 ?_
                  refine B.i2c 140 rfl at_139 ?_
                  refine B.topI (p4 &&& (255 : Int32)) (i2c_mask p4) ?_
                  refine B.castore 141 rfl at_140 A_cs2 (by decide) 0 rfl (by simp) (Or.inr g_cs2) ?_
                  intro hs31 Ws31 As31
                  rw [i2c_mask] at As31
                  replace As31 : Ary Z hs31 cs2 .char [(.int (p4 &&& (255 : Int32)))] := As31
                  have E_s2_2 := E_s2_1.wr Ws31
                  have F0_s2_2 := F0_s2_1.other Ws31 (Or.inl n_s2_cs2)
                  have F1_s2_2 := F1_s2_1.other Ws31 (Or.inl n_s2_cs2)
                  refine B.olds fun Y32 => ?_
                  refine B.callI 144 rfl at_141 rfl (wd hw 31 rfl) (wd hw 32 rfl) (wd hw 29 rfl) (wd hw 33 rfl) (by decide) [(.ref cs2)] [(.ref s2)] (rm_st1 l Z a0 hw s2 cs2 cs (p4 &&& 255) hs31 hcs (Ss.ext Y32) E_s2_2 F0_s2_2 F1_s2_2 As31 (own_c p4)) rfl rfl pd___C_V rfl rfl 1 rfl (by decide) (by decide) (by decide) (by decide) (fun x z => Or.inr (by cases List.mem_singleton.mp z; exact g_s2)) ?_
                  rintro _ h_s22 - ⟨rfl, -⟩
                  show B.G h_s22 7 15 (mkF m 144 #[.val (.int p1), .val (.int p2), .val (.int p3), .val (.int p4), .val (.int (1 : Int32)), .val (.int (0 : Int32)), .val (.int (1 : Int32)), .val (.int (1 : Int32)), .val (.ref al), .val .null, .val (.ref s1), .val .null, .unset] [(.ref s2)])
                  refine B.astore 146 rfl at_144 rfl #[.val (.int p1), .val (.int p2), .val (.int p3), .val (.int p4), .val (.int (1 : Int32)), .val (.int (0 : Int32)), .val (.int (1 : Int32)), .val (.int (1 : Int32)), .val (.ref al), .val .null, .val (.ref s1), .val (.ref s2), .unset] rfl ?_
                  refine B.newO 149 rfl at_146 (wd hw 0 rfl) (wd hw 1 rfl) (wd hw 2 rfl) (by decide) (by decide) ?_
                  intro h_o o e_o g_o X_o E_o D_o
                  show B.G h_o 8 19 (mkF m 149 #[.val (.int p1), .val (.int p2), .val (.int p3), .val (.int p4), .val (.int (1 : Int32)), .val (.int (0 : Int32)), .val (.int (1 : Int32)), .val (.int (1 : Int32)), .val (.ref al), .val .null, .val (.ref s1), .val (.ref s2), .unset] [(.ref o)])
                  have F0_o : Fld Z h_o o "com/example/siegelwerk/siegelwerk/DataObject" "xml" "Ljava/util/List;" .null := D_o (Or.inr (wd hw 15 rfl)) (ty := (.object "java/util/List")) (by decide)
                  have F1_o : Fld Z h_o o "com/example/siegelwerk/siegelwerk/DataObject" "bytes" "[B" .null := D_o (Or.inr (wd hw 17 rfl)) (ty := (.array .byte)) (by decide)
                  have F2_o : Fld Z h_o o "com/example/siegelwerk/siegelwerk/DataObject" "mimeType" "Ljava/lang/String;" .null := D_o (Or.inr (wd hw 19 rfl)) (ty := (.object "java/lang/String")) (by decide)
                  have F3_o : Fld Z h_o o "com/example/siegelwerk/siegelwerk/DataObject" "description" "Ljava/lang/String;" .null := D_o (Or.inr (wd hw 21 rfl)) (ty := (.object "java/lang/String")) (by decide)
                  refine B.dup 150 rfl at_149 rfl ?_
                  refine B.aload 152 rfl at_150 rfl rfl ?_
                  refine B.aload 154 rfl at_152 rfl rfl ?_
                  refine B.aload 156 rfl at_154 rfl rfl ?_
                  refine B.aload 158 rfl at_156 rfl rfl ?_
                  refine B.callI 161 rfl at_158 rfl (wd hw 3 rfl) (wd hw 4 rfl) (wd hw 2 rfl) (wd hw 5 rfl) (by decide) [(.ref al), .null, (.ref s1), (.ref s2)] [(.ref o)] (rm_do l Z a0 hw o (.ref al) .null (.ref s1) (.ref s2) h_o rfl rfl rfl rfl rfl rfl rfl rfl E_o F0_o F1_o F2_o F3_o) rfl rfl pd__Ljava_util_List__BLjava_lang_String_Ljava_lang_String__V rfl rfl 1 rfl (by decide) (by decide) (by decide) (by decide) (fun x z => Or.inr (by cases List.mem_singleton.mp z; exact g_o)) ?_
                  rintro _ h_o2 - ⟨rfl, E_o2, F_o2⟩
                  show B.G h_o2 8 19 (mkF m 161 #[.val (.int p1), .val (.int p2), .val (.int p3), .val (.int p4), .val (.int (1 : Int32)), .val (.int (0 : Int32)), .val (.int (1 : Int32)), .val (.int (1 : Int32)), .val (.ref al), .val .null, .val (.ref s1), .val (.ref s2), .unset] [(.ref o)])
                  refine B.astore 163 rfl at_161 rfl #[.val (.int p1), .val (.int p2), .val (.int p3), .val (.int p4), .val (.int (1 : Int32)), .val (.int (0 : Int32)), .val (.int (1 : Int32)), .val (.int (1 : Int32)), .val (.ref al), .val .null, .val (.ref s1), .val (.ref s2), .val (.ref o)] rfl ?_
                  refine B.aload 165 rfl at_163 rfl rfl ?_
                  refine B.callV 168 rfl at_165 (wd hw 22 rfl) (wd hw 23 rfl) (wd hw 25 rfl) (wd hw 24 rfl) (wd hw 2 rfl) (wd hw 26 rfl) (by decide) E_o2 [] [] (rm_isR l Z a0 hw o al h_o2 F_o2) rfl rfl pd___Z rfl rfl 0 rfl (by decide) (by decide) (by decide) (by decide) (fun _ q => nomatch q) ?_
                  rintro _ _ - ⟨rfl, rfl⟩
                  show B.G h_o2 8 19 (mkF m 168 #[.val (.int p1), .val (.int p2), .val (.int p3), .val (.int p4), .val (.int (1 : Int32)), .val (.int (0 : Int32)), .val (.int (1 : Int32)), .val (.int (1 : Int32)), .val (.ref al), .val .null, .val (.ref s1), .val (.ref s2), .val (.ref o)] [(.int (1 : Int32))])
                  refine B.iload 170 rfl at_168 rfl ?_
                  refine B.icmp_ne 177 173 rfl (by decide) rfl at_170 (fun c170 => ?_) (fun c170 => ?_)
                  · exact absurd c170 (by decide)
                  · refine B.iconst 174 rfl (1 : Int32) at_173 rfl ?_
                    refine B.goto 178 rfl (by decide) at_174 ?_
                    refine B.retN (by simp) at_178 (by decide) (by decide) ?_
                    exact rfl
            · exact absurd c75 (by decide)
    · refine B.iconst 20 rfl (1 : Int32) at_19 rfl ?_
      refine B.goto 24 rfl (by decide) at_20 ?_
      refine B.istore 26 rfl at_24 #[.val (.int p1), .val (.int p2), .val (.int p3), .val (.int p4), .val (.int (1 : Int32)), .val (.int (1 : Int32)), .unset, .unset, .unset, .unset, .unset, .unset, .unset] rfl ?_
      refine B.iloadN 27 rfl at_26 rfl ?_
      refine B.iconst 28 rfl (4 : Int32) at_27 rfl ?_
      refine B.iand 29 rfl at_28 ?_
      refine B.if0_eq 36 32 rfl (by decide) rfl at_29 (fun c29 => ?_) (fun c29 => ?_)
      · refine B.iconst 37 rfl (0 : Int32) at_36 rfl ?_
        refine B.istore 39 rfl at_37 #[.val (.int p1), .val (.int p2), .val (.int p3), .val (.int p4), .val (.int (1 : Int32)), .val (.int (1 : Int32)), .val (.int (0 : Int32)), .unset, .unset, .unset, .unset, .unset, .unset] rfl ?_
        refine B.iloadN 40 rfl at_39 rfl ?_
        refine B.bipush 42 rfl (8 : Int32) at_40 rfl ?_
        refine B.iand 43 rfl at_42 ?_
        refine B.if0_eq 50 46 rfl (by decide) rfl at_43 (fun c43 => ?_) (fun c43 => ?_)
        · refine B.iconst 51 rfl (0 : Int32) at_50 rfl ?_
          refine B.istore 53 rfl at_51 #[.val (.int p1), .val (.int p2), .val (.int p3), .val (.int p4), .val (.int (1 : Int32)), .val (.int (1 : Int32)), .val (.int (0 : Int32)), .val (.int (0 : Int32)), .unset, .unset, .unset, .unset, .unset] rfl ?_
          refine B.aconstNull 54 rfl at_53 ?_
          refine B.astore 56 rfl at_54 rfl #[.val (.int p1), .val (.int p2), .val (.int p3), .val (.int p4), .val (.int (1 : Int32)), .val (.int (1 : Int32)), .val (.int (0 : Int32)), .val (.int (0 : Int32)), .val .null, .unset, .unset, .unset, .unset] rfl ?_
          refine B.iload 58 rfl at_56 rfl ?_
          refine B.if0_eq 70 61 rfl (by decide) rfl at_58 (fun c58 => ?_) (fun c58 => ?_)
          · exact absurd c58 (by decide)
          · refine B.newO 64 rfl at_61 (wd hw 55 rfl) (wd hw 56 rfl) (wd hw 57 rfl) (by decide) (by decide) ?_
            intro h_al al e_al g_al X_al E_al D_al
            show B.G h_al 1 3 (mkF m 64 #[.val (.int p1), .val (.int p2), .val (.int p3), .val (.int p4), .val (.int (1 : Int32)), .val (.int (1 : Int32)), .val (.int (0 : Int32)), .val (.int (0 : Int32)), .val .null, .unset, .unset, .unset, .unset] [(.ref al)])
            have F0_al : Fld Z h_al al "java/util/AbstractList" "modCount" "I" (.int 0) := D_al (Or.inl (wd hw 75 rfl)) (ty := .int) (by decide)
            have F1_al : Fld Z h_al al "java/util/ArrayList" "elementData" "[Ljava/lang/Object;" .null := D_al (Or.inl (wd hw 78 rfl)) (ty := (.array (.object "java/lang/Object"))) (by decide)
            refine B.dup 65 rfl at_64 rfl ?_
            refine B.olds fun Y33 => ?_
            refine B.callI 68 rfl at_65 rfl (wd hw 58 rfl) (wd hw 59 rfl) (wd hw 57 rfl) (wd hw 60 rfl) (by decide) [] [(.ref al)] (rm_al l Z a0 hw al de h_al (Sd.ext Y33) E_al F0_al F1_al) rfl rfl pd___V rfl rfl 1 rfl (by decide) (by decide) (by decide) (by decide) (fun x z => Or.inr (by cases List.mem_singleton.mp z; exact g_al)) ?_
            rintro _ h_al2 - rfl
            show B.G h_al2 1 3 (mkF m 68 #[.val (.int p1), .val (.int p2), .val (.int p3), .val (.int p4), .val (.int (1 : Int32)), .val (.int (1 : Int32)), .val (.int (0 : Int32)), .val (.int (0 : Int32)), .val .null, .unset, .unset, .unset, .unset] [(.ref al)])
            refine B.astore 70 rfl at_68 rfl #[.val (.int p1), .val (.int p2), .val (.int p3), .val (.int p4), .val (.int (1 : Int32)), .val (.int (1 : Int32)), .val (.int (0 : Int32)), .val (.int (0 : Int32)), .val (.ref al), .unset, .unset, .unset, .unset] rfl ?_
            refine B.aconstNull 71 rfl at_70 ?_
            refine B.astore 73 rfl at_71 rfl #[.val (.int p1), .val (.int p2), .val (.int p3), .val (.int p4), .val (.int (1 : Int32)), .val (.int (1 : Int32)), .val (.int (0 : Int32)), .val (.int (0 : Int32)), .val (.ref al), .val .null, .unset, .unset, .unset] rfl ?_
            refine B.iload 75 rfl at_73 rfl ?_
            refine B.if0_eq 88 78 rfl (by decide) rfl at_75 (fun c75 => ?_) (fun c75 => ?_)
            · exact absurd c75 (by decide)
            · refine B.iconst 79 rfl (1 : Int32) at_78 rfl ?_
              refine B.newP 81 rfl at_79 (wd hw 44 rfl) (by decide) 1 (by decide) (by decide) (by decide) (by decide) ?_
              intro h_ba ba e_ba g_ba X_ba A_ba
              replace A_ba : Ary Z h_ba ba .byte [(.int (0 : Int32))] := A_ba
              show B.G h_ba 2 4 (mkF m 81 #[.val (.int p1), .val (.int p2), .val (.int p3), .val (.int p4), .val (.int (1 : Int32)), .val (.int (1 : Int32)), .val (.int (0 : Int32)), .val (.int (0 : Int32)), .val (.ref al), .val .null, .unset, .unset, .unset] [(.ref ba)])
              refine B.dup 82 rfl at_81 rfl ?_
              refine B.iconst 83 rfl (0 : Int32) at_82 rfl ?_
              refine B.iloadN 84 rfl at_83 rfl ?_
              refine B.i2b 85 rfl at_84 ?_
              refine B.bastore 86 rfl at_85 A_ba (by decide) 0 rfl (by simp) (Or.inr g_ba) ?_
              intro hs34 Ws34 As34
              replace As34 : Ary Z hs34 ba .byte [(.int (((p2).toInt8.toInt32)).toInt8.toInt32)] := As34
              refine B.astore 88 rfl at_86 rfl #[.val (.int p1), .val (.int p2), .val (.int p3), .val (.int p4), .val (.int (1 : Int32)), .val (.int (1 : Int32)), .val (.int (0 : Int32)), .val (.int (0 : Int32)), .val (.ref al), .val (.ref ba), .unset, .unset, .unset] rfl ?_
              refine B.aconstNull 89 rfl at_88 ?_
              refine B.astore 91 rfl at_89 rfl #[.val (.int p1), .val (.int p2), .val (.int p3), .val (.int p4), .val (.int (1 : Int32)), .val (.int (1 : Int32)), .val (.int (0 : Int32)), .val (.int (0 : Int32)), .val (.ref al), .val (.ref ba), .val .null, .unset, .unset] rfl ?_
              refine B.iload 93 rfl at_91 rfl ?_
              refine B.if0_eq 117 96 rfl (by decide) rfl at_93 (fun c93 => ?_) (fun c93 => ?_)
              · refine B.aconstNull 118 rfl at_117 ?_
                refine B.astore 120 rfl at_118 rfl #[.val (.int p1), .val (.int p2), .val (.int p3), .val (.int p4), .val (.int (1 : Int32)), .val (.int (1 : Int32)), .val (.int (0 : Int32)), .val (.int (0 : Int32)), .val (.ref al), .val (.ref ba), .val .null, .val .null, .unset] rfl ?_
                refine B.iload 122 rfl at_120 rfl ?_
                refine B.if0_eq 146 125 rfl (by decide) rfl at_122 (fun c122 => ?_) (fun c122 => ?_)
                · refine B.newO 149 rfl at_146 (wd hw 0 rfl) (wd hw 1 rfl) (wd hw 2 rfl) (by decide) (by decide) ?_
                  intro h_o o e_o g_o X_o E_o D_o
                  show B.G h_o 3 8 (mkF m 149 #[.val (.int p1), .val (.int p2), .val (.int p3), .val (.int p4), .val (.int (1 : Int32)), .val (.int (1 : Int32)), .val (.int (0 : Int32)), .val (.int (0 : Int32)), .val (.ref al), .val (.ref ba), .val .null, .val .null, .unset] [(.ref o)])
                  have F0_o : Fld Z h_o o "com/example/siegelwerk/siegelwerk/DataObject" "xml" "Ljava/util/List;" .null := D_o (Or.inr (wd hw 15 rfl)) (ty := (.object "java/util/List")) (by decide)
                  have F1_o : Fld Z h_o o "com/example/siegelwerk/siegelwerk/DataObject" "bytes" "[B" .null := D_o (Or.inr (wd hw 17 rfl)) (ty := (.array .byte)) (by decide)
                  have F2_o : Fld Z h_o o "com/example/siegelwerk/siegelwerk/DataObject" "mimeType" "Ljava/lang/String;" .null := D_o (Or.inr (wd hw 19 rfl)) (ty := (.object "java/lang/String")) (by decide)
                  have F3_o : Fld Z h_o o "com/example/siegelwerk/siegelwerk/DataObject" "description" "Ljava/lang/String;" .null := D_o (Or.inr (wd hw 21 rfl)) (ty := (.object "java/lang/String")) (by decide)
                  refine B.dup 150 rfl at_149 rfl ?_
                  refine B.aload 152 rfl at_150 rfl rfl ?_
                  refine B.aload 154 rfl at_152 rfl rfl ?_
                  refine B.aload 156 rfl at_154 rfl rfl ?_
                  refine B.aload 158 rfl at_156 rfl rfl ?_
                  refine B.callI 161 rfl at_158 rfl (wd hw 3 rfl) (wd hw 4 rfl) (wd hw 2 rfl) (wd hw 5 rfl) (by decide) [(.ref al), (.ref ba), .null, .null] [(.ref o)] (rm_do l Z a0 hw o (.ref al) (.ref ba) .null .null h_o rfl rfl rfl rfl rfl rfl rfl rfl E_o F0_o F1_o F2_o F3_o) rfl rfl pd__Ljava_util_List__BLjava_lang_String_Ljava_lang_String__V rfl rfl 1 rfl (by decide) (by decide) (by decide) (by decide) (fun x z => Or.inr (by cases List.mem_singleton.mp z; exact g_o)) ?_
                  rintro _ h_o2 - ⟨rfl, E_o2, F_o2⟩
                  show B.G h_o2 3 8 (mkF m 161 #[.val (.int p1), .val (.int p2), .val (.int p3), .val (.int p4), .val (.int (1 : Int32)), .val (.int (1 : Int32)), .val (.int (0 : Int32)), .val (.int (0 : Int32)), .val (.ref al), .val (.ref ba), .val .null, .val .null, .unset] [(.ref o)])
                  refine B.astore 163 rfl at_161 rfl #[.val (.int p1), .val (.int p2), .val (.int p3), .val (.int p4), .val (.int (1 : Int32)), .val (.int (1 : Int32)), .val (.int (0 : Int32)), .val (.int (0 : Int32)), .val (.ref al), .val (.ref ba), .val .null, .val .null, .val (.ref o)] rfl ?_
                  refine B.aload 165 rfl at_163 rfl rfl ?_
                  refine B.callV 168 rfl at_165 (wd hw 22 rfl) (wd hw 23 rfl) (wd hw 25 rfl) (wd hw 24 rfl) (wd hw 2 rfl) (wd hw 26 rfl) (by decide) E_o2 [] [] (rm_isR l Z a0 hw o al h_o2 F_o2) rfl rfl pd___Z rfl rfl 0 rfl (by decide) (by decide) (by decide) (by decide) (fun _ q => nomatch q) ?_
                  rintro _ _ - ⟨rfl, rfl⟩
                  show B.G h_o2 3 8 (mkF m 168 #[.val (.int p1), .val (.int p2), .val (.int p3), .val (.int p4), .val (.int (1 : Int32)), .val (.int (1 : Int32)), .val (.int (0 : Int32)), .val (.int (0 : Int32)), .val (.ref al), .val (.ref ba), .val .null, .val .null, .val (.ref o)] [(.int (1 : Int32))])
                  refine B.iload 170 rfl at_168 rfl ?_
                  refine B.icmp_ne 177 173 rfl (by decide) rfl at_170 (fun c170 => ?_) (fun c170 => ?_)
                  · exact absurd c170 (by decide)
                  · refine B.iconst 174 rfl (1 : Int32) at_173 rfl ?_
                    refine B.goto 178 rfl (by decide) at_174 ?_
                    refine B.retN (by simp) at_178 (by decide) (by decide) ?_
                    exact rfl
                · exact absurd c122 (by decide)
              · exact absurd c93 (by decide)
        · refine B.iconst 47 rfl (1 : Int32) at_46 rfl ?_
          refine B.goto 51 rfl (by decide) at_47 ?_
          refine B.istore 53 rfl at_51 #[.val (.int p1), .val (.int p2), .val (.int p3), .val (.int p4), .val (.int (1 : Int32)), .val (.int (1 : Int32)), .val (.int (0 : Int32)), .val (.int (1 : Int32)), .unset, .unset, .unset, .unset, .unset] rfl ?_
          refine B.aconstNull 54 rfl at_53 ?_
          refine B.astore 56 rfl at_54 rfl #[.val (.int p1), .val (.int p2), .val (.int p3), .val (.int p4), .val (.int (1 : Int32)), .val (.int (1 : Int32)), .val (.int (0 : Int32)), .val (.int (1 : Int32)), .val .null, .unset, .unset, .unset, .unset] rfl ?_
          refine B.iload 58 rfl at_56 rfl ?_
          refine B.if0_eq 70 61 rfl (by decide) rfl at_58 (fun c58 => ?_) (fun c58 => ?_)
          · exact absurd c58 (by decide)
          · refine B.newO 64 rfl at_61 (wd hw 55 rfl) (wd hw 56 rfl) (wd hw 57 rfl) (by decide) (by decide) ?_
            intro h_al al e_al g_al X_al E_al D_al
            show B.G h_al 1 3 (mkF m 64 #[.val (.int p1), .val (.int p2), .val (.int p3), .val (.int p4), .val (.int (1 : Int32)), .val (.int (1 : Int32)), .val (.int (0 : Int32)), .val (.int (1 : Int32)), .val .null, .unset, .unset, .unset, .unset] [(.ref al)])
            have F0_al : Fld Z h_al al "java/util/AbstractList" "modCount" "I" (.int 0) := D_al (Or.inl (wd hw 75 rfl)) (ty := .int) (by decide)
            have F1_al : Fld Z h_al al "java/util/ArrayList" "elementData" "[Ljava/lang/Object;" .null := D_al (Or.inl (wd hw 78 rfl)) (ty := (.array (.object "java/lang/Object"))) (by decide)
            refine B.dup 65 rfl at_64 rfl ?_
            refine B.olds fun Y35 => ?_
            refine B.callI 68 rfl at_65 rfl (wd hw 58 rfl) (wd hw 59 rfl) (wd hw 57 rfl) (wd hw 60 rfl) (by decide) [] [(.ref al)] (rm_al l Z a0 hw al de h_al (Sd.ext Y35) E_al F0_al F1_al) rfl rfl pd___V rfl rfl 1 rfl (by decide) (by decide) (by decide) (by decide) (fun x z => Or.inr (by cases List.mem_singleton.mp z; exact g_al)) ?_
            rintro _ h_al2 - rfl
            show B.G h_al2 1 3 (mkF m 68 #[.val (.int p1), .val (.int p2), .val (.int p3), .val (.int p4), .val (.int (1 : Int32)), .val (.int (1 : Int32)), .val (.int (0 : Int32)), .val (.int (1 : Int32)), .val .null, .unset, .unset, .unset, .unset] [(.ref al)])
            refine B.astore 70 rfl at_68 rfl #[.val (.int p1), .val (.int p2), .val (.int p3), .val (.int p4), .val (.int (1 : Int32)), .val (.int (1 : Int32)), .val (.int (0 : Int32)), .val (.int (1 : Int32)), .val (.ref al), .unset, .unset, .unset, .unset] rfl ?_
            refine B.aconstNull 71 rfl at_70 ?_
            refine B.astore 73 rfl at_71 rfl #[.val (.int p1), .val (.int p2), .val (.int p3), .val (.int p4), .val (.int (1 : Int32)), .val (.int (1 : Int32)), .val (.int (0 : Int32)), .val (.int (1 : Int32)), .val (.ref al), .val .null, .unset, .unset, .unset] rfl ?_
            refine B.iload 75 rfl at_73 rfl ?_
            refine B.if0_eq 88 78 rfl (by decide) rfl at_75 (fun c75 => ?_) (fun c75 => ?_)
            · exact absurd c75 (by decide)
            · refine B.iconst 79 rfl (1 : Int32) at_78 rfl ?_
              refine B.newP 81 rfl at_79 (wd hw 44 rfl) (by decide) 1 (by decide) (by decide) (by decide) (by decide) ?_
              intro h_ba ba e_ba g_ba X_ba A_ba
              replace A_ba : Ary Z h_ba ba .byte [(.int (0 : Int32))] := A_ba
              show B.G h_ba 2 4 (mkF m 81 #[.val (.int p1), .val (.int p2), .val (.int p3), .val (.int p4), .val (.int (1 : Int32)), .val (.int (1 : Int32)), .val (.int (0 : Int32)), .val (.int (1 : Int32)), .val (.ref al), .val .null, .unset, .unset, .unset] [(.ref ba)])
              refine B.dup 82 rfl at_81 rfl ?_
              refine B.iconst 83 rfl (0 : Int32) at_82 rfl ?_
              refine B.iloadN 84 rfl at_83 rfl ?_
              refine B.i2b 85 rfl at_84 ?_
              refine B.bastore 86 rfl at_85 A_ba (by decide) 0 rfl (by simp) (Or.inr g_ba) ?_
              intro hs36 Ws36 As36
              replace As36 : Ary Z hs36 ba .byte [(.int (((p2).toInt8.toInt32)).toInt8.toInt32)] := As36
              refine B.astore 88 rfl at_86 rfl #[.val (.int p1), .val (.int p2), .val (.int p3), .val (.int p4), .val (.int (1 : Int32)), .val (.int (1 : Int32)), .val (.int (0 : Int32)), .val (.int (1 : Int32)), .val (.ref al), .val (.ref ba), .unset, .unset, .unset] rfl ?_
              refine B.aconstNull 89 rfl at_88 ?_
              refine B.astore 91 rfl at_89 rfl #[.val (.int p1), .val (.int p2), .val (.int p3), .val (.int p4), .val (.int (1 : Int32)), .val (.int (1 : Int32)), .val (.int (0 : Int32)), .val (.int (1 : Int32)), .val (.ref al), .val (.ref ba), .val .null, .unset, .unset] rfl ?_
              refine B.iload 93 rfl at_91 rfl ?_
              refine B.if0_eq 117 96 rfl (by decide) rfl at_93 (fun c93 => ?_) (fun c93 => ?_)
              · refine B.aconstNull 118 rfl at_117 ?_
                refine B.astore 120 rfl at_118 rfl #[.val (.int p1), .val (.int p2), .val (.int p3), .val (.int p4), .val (.int (1 : Int32)), .val (.int (1 : Int32)), .val (.int (0 : Int32)), .val (.int (1 : Int32)), .val (.ref al), .val (.ref ba), .val .null, .val .null, .unset] rfl ?_
                refine B.iload 122 rfl at_120 rfl ?_
                refine B.if0_eq 146 125 rfl (by decide) rfl at_122 (fun c122 => ?_) (fun c122 => ?_)
                · exact absurd c122 (by decide)
                · refine B.newO 128 rfl at_125 (wd hw 27 rfl) (wd hw 28 rfl) (wd hw 29 rfl) (by decide) (by decide) ?_
                  intro h_s2 s2 e_s2 g_s2 X_s2 E_s2 D_s2
                  show B.G h_s2 3 8 (mkF m 128 #[.val (.int p1), .val (.int p2), .val (.int p3), .val (.int p4), .val (.int (1 : Int32)), .val (.int (1 : Int32)), .val (.int (0 : Int32)), .val (.int (1 : Int32)), .val (.ref al), .val (.ref ba), .val .null, .val .null, .unset] [(.ref s2)])
                  have F0_s2 : Fld Z h_s2 s2 "java/lang/String" "coder" "B" (.int 0) := D_s2 (Or.inr (wd hw 52 rfl)) (ty := .byte) (by decide)
                  have F1_s2 : Fld Z h_s2 s2 "java/lang/String" "value" "[B" .null := D_s2 (Or.inr (wd hw 54 rfl)) (ty := (.array .byte)) (by decide)
                  refine B.dup 129 rfl at_128 rfl ?_
                  refine B.iconst 130 rfl (1 : Int32) at_129 rfl ?_
                  refine B.newP 132 rfl at_130 (wd hw 30 rfl) (by decide) 1 (by decide) (by decide) (by decide) (by decide) ?_
                  intro h_cs2 cs2 e_cs2 g_cs2 X_cs2 A_cs2
                  replace A_cs2 : Ary Z h_cs2 cs2 .char [(.int (0 : Int32))] := A_cs2
                  show B.G h_cs2 4 9 (mkF m 132 #[.val (.int p1), .val (.int p2), .val (.int p3), .val (.int p4), .val (.int (1 : Int32)), .val (.int (1 : Int32)), .val (.int (0 : Int32)), .val (.int (1 : Int32)), .val (.ref al), .val (.ref ba), .val .null, .val .null, .unset] [(.ref cs2), (.ref s2), (.ref s2)])
                  have n_s2_cs2 : s2 ≠ cs2 := fun q => absurd E_s2.lt (by rw [q, e_cs2]; exact Nat.lt_irrefl _)
                  have E_s2_1 := E_s2.ext X_cs2
                  have F0_s2_1 := F0_s2.ext X_cs2
                  have F1_s2_1 := F1_s2.ext X_cs2
                  refine B.dup 133 rfl at_132 rfl ?_
                  refine B.iconst 134 rfl (0 : Int32) at_133 rfl ?_
                  refine B.iloadN 135 rfl at_134 rfl ?_
                  refine B.sipush 138 rfl (255 : Int32) at_135 rfl ?_
                  refine B.iand 139 rfl at_138 ?_
                  refine B.i2c 140 rfl at_139 ?_
                  refine B.topI (p4 &&& (255 : Int32)) (i2c_mask p4) ?_
                  refine B.castore 141 rfl at_140 A_cs2 (by decide) 0 rfl (by simp) (Or.inr g_cs2) ?_
                  intro hs37 Ws37 As37
                  rw [i2c_mask] at As37
                  replace As37 : Ary Z hs37 cs2 .char [(.int (p4 &&& (255 : Int32)))] := As37
                  have E_s2_2 := E_s2_1.wr Ws37
                  have F0_s2_2 := F0_s2_1.other Ws37 (Or.inl n_s2_cs2)
                  have F1_s2_2 := F1_s2_1.other Ws37 (Or.inl n_s2_cs2)
                  refine B.olds fun Y38 => ?_
                  refine B.callI 144 rfl at_141 rfl (wd hw 31 rfl) (wd hw 32 rfl) (wd hw 29 rfl) (wd hw 33 rfl) (by decide) [(.ref cs2)] [(.ref s2)] (rm_st1 l Z a0 hw s2 cs2 cs (p4 &&& 255) hs37 hcs (Ss.ext Y38) E_s2_2 F0_s2_2 F1_s2_2 As37 (own_c p4)) rfl rfl pd___C_V rfl rfl 1 rfl (by decide) (by decide) (by decide) (by decide) (fun x z => Or.inr (by cases List.mem_singleton.mp z; exact g_s2)) ?_
                  rintro _ h_s22 - ⟨rfl, -⟩
                  show B.G h_s22 5 10 (mkF m 144 #[.val (.int p1), .val (.int p2), .val (.int p3), .val (.int p4), .val (.int (1 : Int32)), .val (.int (1 : Int32)), .val (.int (0 : Int32)), .val (.int (1 : Int32)), .val (.ref al), .val (.ref ba), .val .null, .val .null, .unset] [(.ref s2)])
                  refine B.astore 146 rfl at_144 rfl #[.val (.int p1), .val (.int p2), .val (.int p3), .val (.int p4), .val (.int (1 : Int32)), .val (.int (1 : Int32)), .val (.int (0 : Int32)), .val (.int (1 : Int32)), .val (.ref al), .val (.ref ba), .val .null, .val (.ref s2), .unset] rfl ?_
                  refine B.newO 149 rfl at_146 (wd hw 0 rfl) (wd hw 1 rfl) (wd hw 2 rfl) (by decide) (by decide) ?_
                  intro h_o o e_o g_o X_o E_o D_o
                  show B.G h_o 6 14 (mkF m 149 #[.val (.int p1), .val (.int p2), .val (.int p3), .val (.int p4), .val (.int (1 : Int32)), .val (.int (1 : Int32)), .val (.int (0 : Int32)), .val (.int (1 : Int32)), .val (.ref al), .val (.ref ba), .val .null, .val (.ref s2), .unset] [(.ref o)])
                  have F0_o : Fld Z h_o o "com/example/siegelwerk/siegelwerk/DataObject" "xml" "Ljava/util/List;" .null := D_o (Or.inr (wd hw 15 rfl)) (ty := (.object "java/util/List")) (by decide)
                  have F1_o : Fld Z h_o o "com/example/siegelwerk/siegelwerk/DataObject" "bytes" "[B" .null := D_o (Or.inr (wd hw 17 rfl)) (ty := (.array .byte)) (by decide)
                  have F2_o : Fld Z h_o o "com/example/siegelwerk/siegelwerk/DataObject" "mimeType" "Ljava/lang/String;" .null := D_o (Or.inr (wd hw 19 rfl)) (ty := (.object "java/lang/String")) (by decide)
                  have F3_o : Fld Z h_o o "com/example/siegelwerk/siegelwerk/DataObject" "description" "Ljava/lang/String;" .null := D_o (Or.inr (wd hw 21 rfl)) (ty := (.object "java/lang/String")) (by decide)
                  refine B.dup 150 rfl at_149 rfl ?_
                  refine B.aload 152 rfl at_150 rfl rfl ?_
                  refine B.aload 154 rfl at_152 rfl rfl ?_
                  refine B.aload 156 rfl at_154 rfl rfl ?_
                  refine B.aload 158 rfl at_156 rfl rfl ?_
                  refine B.callI 161 rfl at_158 rfl (wd hw 3 rfl) (wd hw 4 rfl) (wd hw 2 rfl) (wd hw 5 rfl) (by decide) [(.ref al), (.ref ba), .null, (.ref s2)] [(.ref o)] (rm_do l Z a0 hw o (.ref al) (.ref ba) .null (.ref s2) h_o rfl rfl rfl rfl rfl rfl rfl rfl E_o F0_o F1_o F2_o F3_o) rfl rfl pd__Ljava_util_List__BLjava_lang_String_Ljava_lang_String__V rfl rfl 1 rfl (by decide) (by decide) (by decide) (by decide) (fun x z => Or.inr (by cases List.mem_singleton.mp z; exact g_o)) ?_
                  rintro _ h_o2 - ⟨rfl, E_o2, F_o2⟩
                  show B.G h_o2 6 14 (mkF m 161 #[.val (.int p1), .val (.int p2), .val (.int p3), .val (.int p4), .val (.int (1 : Int32)), .val (.int (1 : Int32)), .val (.int (0 : Int32)), .val (.int (1 : Int32)), .val (.ref al), .val (.ref ba), .val .null, .val (.ref s2), .unset] [(.ref o)])
                  refine B.astore 163 rfl at_161 rfl #[.val (.int p1), .val (.int p2), .val (.int p3), .val (.int p4), .val (.int (1 : Int32)), .val (.int (1 : Int32)), .val (.int (0 : Int32)), .val (.int (1 : Int32)), .val (.ref al), .val (.ref ba), .val .null, .val (.ref s2), .val (.ref o)] rfl ?_
                  refine B.aload 165 rfl at_163 rfl rfl ?_
                  refine B.callV 168 rfl at_165 (wd hw 22 rfl) (wd hw 23 rfl) (wd hw 25 rfl) (wd hw 24 rfl) (wd hw 2 rfl) (wd hw 26 rfl) (by decide) E_o2 [] [] (rm_isR l Z a0 hw o al h_o2 F_o2) rfl rfl pd___Z rfl rfl 0 rfl (by decide) (by decide) (by decide) (by decide) (fun _ q => nomatch q) ?_
                  rintro _ _ - ⟨rfl, rfl⟩
                  show B.G h_o2 6 14 (mkF m 168 #[.val (.int p1), .val (.int p2), .val (.int p3), .val (.int p4), .val (.int (1 : Int32)), .val (.int (1 : Int32)), .val (.int (0 : Int32)), .val (.int (1 : Int32)), .val (.ref al), .val (.ref ba), .val .null, .val (.ref s2), .val (.ref o)] [(.int (1 : Int32))])
                  refine B.iload 170 rfl at_168 rfl ?_
                  refine B.icmp_ne 177 173 rfl (by decide) rfl at_170 (fun c170 => ?_) (fun c170 => ?_)
                  · exact absurd c170 (by decide)
                  · refine B.iconst 174 rfl (1 : Int32) at_173 rfl ?_
                    refine B.goto 178 rfl (by decide) at_174 ?_
                    refine B.retN (by simp) at_178 (by decide) (by decide) ?_
                    exact rfl
              · exact absurd c93 (by decide)
      · refine B.iconst 33 rfl (1 : Int32) at_32 rfl ?_
        refine B.goto 37 rfl (by decide) at_33 ?_
        refine B.istore 39 rfl at_37 #[.val (.int p1), .val (.int p2), .val (.int p3), .val (.int p4), .val (.int (1 : Int32)), .val (.int (1 : Int32)), .val (.int (1 : Int32)), .unset, .unset, .unset, .unset, .unset, .unset] rfl ?_
        refine B.iloadN 40 rfl at_39 rfl ?_
        refine B.bipush 42 rfl (8 : Int32) at_40 rfl ?_
        refine B.iand 43 rfl at_42 ?_
        refine B.if0_eq 50 46 rfl (by decide) rfl at_43 (fun c43 => ?_) (fun c43 => ?_)
        · refine B.iconst 51 rfl (0 : Int32) at_50 rfl ?_
          refine B.istore 53 rfl at_51 #[.val (.int p1), .val (.int p2), .val (.int p3), .val (.int p4), .val (.int (1 : Int32)), .val (.int (1 : Int32)), .val (.int (1 : Int32)), .val (.int (0 : Int32)), .unset, .unset, .unset, .unset, .unset] rfl ?_
          refine B.aconstNull 54 rfl at_53 ?_
          refine B.astore 56 rfl at_54 rfl #[.val (.int p1), .val (.int p2), .val (.int p3), .val (.int p4), .val (.int (1 : Int32)), .val (.int (1 : Int32)), .val (.int (1 : Int32)), .val (.int (0 : Int32)), .val .null, .unset, .unset, .unset, .unset] rfl ?_
          refine B.iload 58 rfl at_56 rfl ?_
          refine B.if0_eq 70 61 rfl (by decide) rfl at_58 (fun c58 => ?_) (fun c58 => ?_)
          · exact absurd c58 (by decide)
          · refine B.newO 64 rfl at_61 (wd hw 55 rfl) (wd hw 56 rfl) (wd hw 57 rfl) (by decide) (by decide) ?_
            intro h_al al e_al g_al X_al E_al D_al
            show B.G h_al 1 3 (mkF m 64 #[.val (.int p1), .val (.int p2), .val (.int p3), .val (.int p4), .val (.int (1 : Int32)), .val (.int (1 : Int32)), .val (.int (1 : Int32)), .val (.int (0 : Int32)), .val .null, .unset, .unset, .unset, .unset] [(.ref al)])
            have F0_al : Fld Z h_al al "java/util/AbstractList" "modCount" "I" (.int 0) := D_al (Or.inl (wd hw 75 rfl)) (ty := .int) (by decide)
            have F1_al : Fld Z h_al al "java/util/ArrayList" "elementData" "[Ljava/lang/Object;" .null := D_al (Or.inl (wd hw 78 rfl)) (ty := (.array (.object "java/lang/Object"))) (by decide)
            refine B.dup 65 rfl at_64 rfl ?_
            refine B.olds fun Y39 => ?_
            refine B.callI 68 rfl at_65 rfl (wd hw 58 rfl) (wd hw 59 rfl) (wd hw 57 rfl) (wd hw 60 rfl) (by decide) [] [(.ref al)] (rm_al l Z a0 hw al de h_al (Sd.ext Y39) E_al F0_al F1_al) rfl rfl pd___V rfl rfl 1 rfl (by decide) (by decide) (by decide) (by decide) (fun x z => Or.inr (by cases List.mem_singleton.mp z; exact g_al)) ?_
            rintro _ h_al2 - rfl
            show B.G h_al2 1 3 (mkF m 68 #[.val (.int p1), .val (.int p2), .val (.int p3), .val (.int p4), .val (.int (1 : Int32)), .val (.int (1 : Int32)), .val (.int (1 : Int32)), .val (.int (0 : Int32)), .val .null, .unset, .unset, .unset, .unset] [(.ref al)])
            refine B.astore 70 rfl at_68 rfl #[.val (.int p1), .val (.int p2), .val (.int p3), .val (.int p4), .val (.int (1 : Int32)), .val (.int (1 : Int32)), .val (.int (1 : Int32)), .val (.int (0 : Int32)), .val (.ref al), .unset, .unset, .unset, .unset] rfl ?_
            refine B.aconstNull 71 rfl at_70 ?_
            refine B.astore 73 rfl at_71 rfl #[.val (.int p1), .val (.int p2), .val (.int p3), .val (.int p4), .val (.int (1 : Int32)), .val (.int (1 : Int32)), .val (.int (1 : Int32)), .val (.int (0 : Int32)), .val (.ref al), .val .null, .unset, .unset, .unset] rfl ?_
            refine B.iload 75 rfl at_73 rfl ?_
            refine B.if0_eq 88 78 rfl (by decide) rfl at_75 (fun c75 => ?_) (fun c75 => ?_)
            · exact absurd c75 (by decide)
            · refine B.iconst 79 rfl (1 : Int32) at_78 rfl ?_
              refine B.newP 81 rfl at_79 (wd hw 44 rfl) (by decide) 1 (by decide) (by decide) (by decide) (by decide) ?_
              intro h_ba ba e_ba g_ba X_ba A_ba
              replace A_ba : Ary Z h_ba ba .byte [(.int (0 : Int32))] := A_ba
              show B.G h_ba 2 4 (mkF m 81 #[.val (.int p1), .val (.int p2), .val (.int p3), .val (.int p4), .val (.int (1 : Int32)), .val (.int (1 : Int32)), .val (.int (1 : Int32)), .val (.int (0 : Int32)), .val (.ref al), .val .null, .unset, .unset, .unset] [(.ref ba)])
              refine B.dup 82 rfl at_81 rfl ?_
              refine B.iconst 83 rfl (0 : Int32) at_82 rfl ?_
              refine B.iloadN 84 rfl at_83 rfl ?_
              refine B.i2b 85 rfl at_84 ?_
              refine B.bastore 86 rfl at_85 A_ba (by decide) 0 rfl (by simp) (Or.inr g_ba) ?_
              intro hs40 Ws40 As40
              replace As40 : Ary Z hs40 ba .byte [(.int (((p2).toInt8.toInt32)).toInt8.toInt32)] := As40
              refine B.astore 88 rfl at_86 rfl #[.val (.int p1), .val (.int p2), .val (.int p3), .val (.int p4), .val (.int (1 : Int32)), .val (.int (1 : Int32)), .val (.int (1 : Int32)), .val (.int (0 : Int32)), .val (.ref al), .val (.ref ba), .unset, .unset, .unset] rfl ?_
              refine B.aconstNull 89 rfl at_88 ?_
              refine B.astore 91 rfl at_89 rfl #[.val (.int p1), .val (.int p2), .val (.int p3), .val (.int p4), .val (.int (1 : Int32)), .val (.int (1 : Int32)), .val (.int (1 : Int32)), .val (.int (0 : Int32)), .val (.ref al), .val (.ref ba), .val .null, .unset, .unset] rfl ?_
              refine B.iload 93 rfl at_91 rfl ?_
              refine B.if0_eq 117 96 rfl (by decide) rfl at_93 (fun c93 => ?_) (fun c93 => ?_)
              · exact absurd c93 (by decide)
              · refine B.newO 99 rfl at_96 (wd hw 27 rfl) (wd hw 28 rfl) (wd hw 29 rfl) (by decide) (by decide) ?_
                intro h_s1 s1 e_s1 g_s1 X_s1 E_s1 D_s1
                show B.G h_s1 3 8 (mkF m 99 #[.val (.int p1), .val (.int p2), .val (.int p3), .val (.int p4), .val (.int (1 : Int32)), .val (.int (1 : Int32)), .val (.int (1 : Int32)), .val (.int (0 : Int32)), .val (.ref al), .val (.ref ba), .val .null, .unset, .unset] [(.ref s1)])
                have F0_s1 : Fld Z h_s1 s1 "java/lang/String" "coder" "B" (.int 0) := D_s1 (Or.inr (wd hw 52 rfl)) (ty := .byte) (by decide)
                have F1_s1 : Fld Z h_s1 s1 "java/lang/String" "value" "[B" .null := D_s1 (Or.inr (wd hw 54 rfl)) (ty := (.array .byte)) (by decide)
                refine B.dup 100 rfl at_99 rfl ?_
                refine B.iconst 101 rfl (1 : Int32) at_100 rfl ?_
                refine B.newP 103 rfl at_101 (wd hw 30 rfl) (by decide) 1 (by decide) (by decide) (by decide) (by decide) ?_
                intro h_cs1 cs1 e_cs1 g_cs1 X_cs1 A_cs1
                replace A_cs1 : Ary Z h_cs1 cs1 .char [(.int (0 : Int32))] := A_cs1
                show B.G h_cs1 4 9 (mkF m 103 #[.val (.int p1), .val (.int p2), .val (.int p3), .val (.int p4), .val (.int (1 : Int32)), .val (.int (1 : Int32)), .val (.int (1 : Int32)), .val (.int (0 : Int32)), .val (.ref al), .val (.ref ba), .val .null, .unset, .unset] [(.ref cs1), (.ref s1), (.ref s1)])
                have n_s1_cs1 : s1 ≠ cs1 := fun q => absurd E_s1.lt (by rw [q, e_cs1]; exact Nat.lt_irrefl _)
                have E_s1_1 := E_s1.ext X_cs1
                have F0_s1_1 := F0_s1.ext X_cs1
                have F1_s1_1 := F1_s1.ext X_cs1
                refine B.dup 104 rfl at_103 rfl ?_
                refine B.iconst 105 rfl (0 : Int32) at_104 rfl ?_
                refine B.iloadN 106 rfl at_105 rfl ?_
                refine B.sipush 109 rfl (255 : Int32) at_106 rfl ?_
                refine B.iand 110 rfl at_109 ?_
                refine B.i2c 111 rfl at_110 ?_
                refine B.topI (p3 &&& (255 : Int32)) (i2c_mask p3) ?_
                refine B.castore 112 rfl at_111 A_cs1 (by decide) 0 rfl (by simp) (Or.inr g_cs1) ?_
                intro hs41 Ws41 As41
                rw [i2c_mask] at As41
                replace As41 : Ary Z hs41 cs1 .char [(.int (p3 &&& (255 : Int32)))] := As41
                have E_s1_2 := E_s1_1.wr Ws41
                have F0_s1_2 := F0_s1_1.other Ws41 (Or.inl n_s1_cs1)
                have F1_s1_2 := F1_s1_1.other Ws41 (Or.inl n_s1_cs1)
                refine B.olds fun Y42 => ?_
                refine B.callI 115 rfl at_112 rfl (wd hw 31 rfl) (wd hw 32 rfl) (wd hw 29 rfl) (wd hw 33 rfl) (by decide) [(.ref cs1)] [(.ref s1)] (rm_st1 l Z a0 hw s1 cs1 cs (p3 &&& 255) hs41 hcs (Ss.ext Y42) E_s1_2 F0_s1_2 F1_s1_2 As41 (own_c p3)) rfl rfl pd___C_V rfl rfl 1 rfl (by decide) (by decide) (by decide) (by decide) (fun x z => Or.inr (by cases List.mem_singleton.mp z; exact g_s1)) ?_
                rintro _ h_s12 - ⟨rfl, -⟩
                show B.G h_s12 5 10 (mkF m 115 #[.val (.int p1), .val (.int p2), .val (.int p3), .val (.int p4), .val (.int (1 : Int32)), .val (.int (1 : Int32)), .val (.int (1 : Int32)), .val (.int (0 : Int32)), .val (.ref al), .val (.ref ba), .val .null, .unset, .unset] [(.ref s1)])
                refine B.astore 117 rfl at_115 rfl #[.val (.int p1), .val (.int p2), .val (.int p3), .val (.int p4), .val (.int (1 : Int32)), .val (.int (1 : Int32)), .val (.int (1 : Int32)), .val (.int (0 : Int32)), .val (.ref al), .val (.ref ba), .val (.ref s1), .unset, .unset] rfl ?_
                refine B.aconstNull 118 rfl at_117 ?_
                refine B.astore 120 rfl at_118 rfl #[.val (.int p1), .val (.int p2), .val (.int p3), .val (.int p4), .val (.int (1 : Int32)), .val (.int (1 : Int32)), .val (.int (1 : Int32)), .val (.int (0 : Int32)), .val (.ref al), .val (.ref ba), .val (.ref s1), .val .null, .unset] rfl ?_
                refine B.iload 122 rfl at_120 rfl ?_
                refine B.if0_eq 146 125 rfl (by decide) rfl at_122 (fun c122 => ?_) (fun c122 => ?_)
                · refine B.newO 149 rfl at_146 (wd hw 0 rfl) (wd hw 1 rfl) (wd hw 2 rfl) (by decide) (by decide) ?_
                  intro h_o o e_o g_o X_o E_o D_o
                  show B.G h_o 6 14 (mkF m 149 #[.val (.int p1), .val (.int p2), .val (.int p3), .val (.int p4), .val (.int (1 : Int32)), .val (.int (1 : Int32)), .val (.int (1 : Int32)), .val (.int (0 : Int32)), .val (.ref al), .val (.ref ba), .val (.ref s1), .val .null, .unset] [(.ref o)])
                  have F0_o : Fld Z h_o o "com/example/siegelwerk/siegelwerk/DataObject" "xml" "Ljava/util/List;" .null := D_o (Or.inr (wd hw 15 rfl)) (ty := (.object "java/util/List")) (by decide)
                  have F1_o : Fld Z h_o o "com/example/siegelwerk/siegelwerk/DataObject" "bytes" "[B" .null := D_o (Or.inr (wd hw 17 rfl)) (ty := (.array .byte)) (by decide)
                  have F2_o : Fld Z h_o o "com/example/siegelwerk/siegelwerk/DataObject" "mimeType" "Ljava/lang/String;" .null := D_o (Or.inr (wd hw 19 rfl)) (ty := (.object "java/lang/String")) (by decide)
                  have F3_o : Fld Z h_o o "com/example/siegelwerk/siegelwerk/DataObject" "description" "Ljava/lang/String;" .null := D_o (Or.inr (wd hw 21 rfl)) (ty := (.object "java/lang/String")) (by decide)
                  refine B.dup 150 rfl at_149 rfl ?_
                  refine B.aload 152 rfl at_150 rfl rfl ?_
                  refine B.aload 154 rfl at_152 rfl rfl ?_
                  refine B.aload 156 rfl at_154 rfl rfl ?_
                  refine B.aload 158 rfl at_156 rfl rfl ?_
                  refine B.callI 161 rfl at_158 rfl (wd hw 3 rfl) (wd hw 4 rfl) (wd hw 2 rfl) (wd hw 5 rfl) (by decide) [(.ref al), (.ref ba), (.ref s1), .null] [(.ref o)] (rm_do l Z a0 hw o (.ref al) (.ref ba) (.ref s1) .null h_o rfl rfl rfl rfl rfl rfl rfl rfl E_o F0_o F1_o F2_o F3_o) rfl rfl pd__Ljava_util_List__BLjava_lang_String_Ljava_lang_String__V rfl rfl 1 rfl (by decide) (by decide) (by decide) (by decide) (fun x z => Or.inr (by cases List.mem_singleton.mp z; exact g_o)) ?_
                  rintro _ h_o2 - ⟨rfl, E_o2, F_o2⟩
                  show B.G h_o2 6 14 (mkF m 161 #[.val (.int p1), .val (.int p2), .val (.int p3), .val (.int p4), .val (.int (1 : Int32)), .val (.int (1 : Int32)), .val (.int (1 : Int32)), .val (.int (0 : Int32)), .val (.ref al), .val (.ref ba), .val (.ref s1), .val .null, .unset] [(.ref o)])
                  refine B.astore 163 rfl at_161 rfl #[.val (.int p1), .val (.int p2), .val (.int p3), .val (.int p4), .val (.int (1 : Int32)), .val (.int (1 : Int32)), .val (.int (1 : Int32)), .val (.int (0 : Int32)), .val (.ref al), .val (.ref ba), .val (.ref s1), .val .null, .val (.ref o)] rfl ?_
                  refine B.aload 165 rfl at_163 rfl rfl ?_
                  refine B.callV 168 rfl at_165 (wd hw 22 rfl) (wd hw 23 rfl) (wd hw 25 rfl) (wd hw 24 rfl) (wd hw 2 rfl) (wd hw 26 rfl) (by decide) E_o2 [] [] (rm_isR l Z a0 hw o al h_o2 F_o2) rfl rfl pd___Z rfl rfl 0 rfl (by decide) (by decide) (by decide) (by decide) (fun _ q => nomatch q) ?_
                  rintro _ _ - ⟨rfl, rfl⟩
                  show B.G h_o2 6 14 (mkF m 168 #[.val (.int p1), .val (.int p2), .val (.int p3), .val (.int p4), .val (.int (1 : Int32)), .val (.int (1 : Int32)), .val (.int (1 : Int32)), .val (.int (0 : Int32)), .val (.ref al), .val (.ref ba), .val (.ref s1), .val .null, .val (.ref o)] [(.int (1 : Int32))])
                  refine B.iload 170 rfl at_168 rfl ?_
                  refine B.icmp_ne 177 173 rfl (by decide) rfl at_170 (fun c170 => ?_) (fun c170 => ?_)
                  · exact absurd c170 (by decide)
                  · refine B.iconst 174 rfl (1 : Int32) at_173 rfl ?_
                    refine B.goto 178 rfl (by decide) at_174 ?_
                    refine B.retN (by simp) at_178 (by decide) (by decide) ?_
                    exact rfl
                · exact absurd c122 (by decide)
        · refine B.iconst 47 rfl (1 : Int32) at_46 rfl ?_
          refine B.goto 51 rfl (by decide) at_47 ?_
          refine B.istore 53 rfl at_51 #[.val (.int p1), .val (.int p2), .val (.int p3), .val (.int p4), .val (.int (1 : Int32)), .val (.int (1 : Int32)), .val (.int (1 : Int32)), .val (.int (1 : Int32)), .unset, .unset, .unset, .unset, .unset] rfl ?_
          refine B.aconstNull 54 rfl at_53 ?_
          refine B.astore 56 rfl at_54 rfl #[.val (.int p1), .val (.int p2), .val (.int p3), .val (.int p4), .val (.int (1 : Int32)), .val (.int (1 : Int32)), .val (.int (1 : Int32)), .val (.int (1 : Int32)), .val .null, .unset, .unset, .unset, .unset] rfl ?_
          refine B.iload 58 rfl at_56 rfl ?_
          refine B.if0_eq 70 61 rfl (by decide) rfl at_58 (fun c58 => ?_) (fun c58 => ?_)
          · exact absurd c58 (by decide)
          · refine B.newO 64 rfl at_61 (wd hw 55 rfl) (wd hw 56 rfl) (wd hw 57 rfl) (by decide) (by decide) ?_
            intro h_al al e_al g_al X_al E_al D_al
            show B.G h_al 1 3 (mkF m 64 #[.val (.int p1), .val (.int p2), .val (.int p3), .val (.int p4), .val (.int (1 : Int32)), .val (.int (1 : Int32)), .val (.int (1 : Int32)), .val (.int (1 : Int32)), .val .null, .unset, .unset, .unset, .unset] [(.ref al)])
            have F0_al : Fld Z h_al al "java/util/AbstractList" "modCount" "I" (.int 0) := D_al (Or.inl (wd hw 75 rfl)) (ty := .int) (by decide)
            have F1_al : Fld Z h_al al "java/util/ArrayList" "elementData" "[Ljava/lang/Object;" .null := D_al (Or.inl (wd hw 78 rfl)) (ty := (.array (.object "java/lang/Object"))) (by decide)
            refine B.dup 65 rfl at_64 rfl ?_
            refine B.olds fun Y43 => ?_
            refine B.callI 68 rfl at_65 rfl (wd hw 58 rfl) (wd hw 59 rfl) (wd hw 57 rfl) (wd hw 60 rfl) (by decide) [] [(.ref al)] (rm_al l Z a0 hw al de h_al (Sd.ext Y43) E_al F0_al F1_al) rfl rfl pd___V rfl rfl 1 rfl (by decide) (by decide) (by decide) (by decide) (fun x z => Or.inr (by cases List.mem_singleton.mp z; exact g_al)) ?_
            rintro _ h_al2 - rfl
            show B.G h_al2 1 3 (mkF m 68 #[.val (.int p1), .val (.int p2), .val (.int p3), .val (.int p4), .val (.int (1 : Int32)), .val (.int (1 : Int32)), .val (.int (1 : Int32)), .val (.int (1 : Int32)), .val .null, .unset, .unset, .unset, .unset] [(.ref al)])
            refine B.astore 70 rfl at_68 rfl #[.val (.int p1), .val (.int p2), .val (.int p3), .val (.int p4), .val (.int (1 : Int32)), .val (.int (1 : Int32)), .val (.int (1 : Int32)), .val (.int (1 : Int32)), .val (.ref al), .unset, .unset, .unset, .unset] rfl ?_
            refine B.aconstNull 71 rfl at_70 ?_
            refine B.astore 73 rfl at_71 rfl #[.val (.int p1), .val (.int p2), .val (.int p3), .val (.int p4), .val (.int (1 : Int32)), .val (.int (1 : Int32)), .val (.int (1 : Int32)), .val (.int (1 : Int32)), .val (.ref al), .val .null, .unset, .unset, .unset] rfl ?_
            refine B.iload 75 rfl at_73 rfl ?_
            refine B.if0_eq 88 78 rfl (by decide) rfl at_75 (fun c75 => ?_) (fun c75 => ?_)
            · exact absurd c75 (by decide)
            · refine B.iconst 79 rfl (1 : Int32) at_78 rfl ?_
              refine B.newP 81 rfl at_79 (wd hw 44 rfl) (by decide) 1 (by decide) (by decide) (by decide) (by decide) ?_
              intro h_ba ba e_ba g_ba X_ba A_ba
              replace A_ba : Ary Z h_ba ba .byte [(.int (0 : Int32))] := A_ba
              show B.G h_ba 2 4 (mkF m 81 #[.val (.int p1), .val (.int p2), .val (.int p3), .val (.int p4), .val (.int (1 : Int32)), .val (.int (1 : Int32)), .val (.int (1 : Int32)), .val (.int (1 : Int32)), .val (.ref al), .val .null, .unset, .unset, .unset] [(.ref ba)])
              refine B.dup 82 rfl at_81 rfl ?_
              refine B.iconst 83 rfl (0 : Int32) at_82 rfl ?_
              refine B.iloadN 84 rfl at_83 rfl ?_
              refine B.i2b 85 rfl at_84 ?_
              refine B.bastore 86 rfl at_85 A_ba (by decide) 0 rfl (by simp) (Or.inr g_ba) ?_
              intro hs44 Ws44 As44
              replace As44 : Ary Z hs44 ba .byte [(.int (((p2).toInt8.toInt32)).toInt8.toInt32)] := As44
              refine B.astore 88 rfl at_86 rfl #[.val (.int p1), .val (.int p2), .val (.int p3), .val (.int p4), .val (.int (1 : Int32)), .val (.int (1 : Int32)), .val (.int (1 : Int32)), .val (.int (1 : Int32)), .val (.ref al), .val (.ref ba), .unset, .unset, .unset] rfl ?_
              refine B.aconstNull 89 rfl at_88 ?_
              refine B.astore 91 rfl at_89 rfl #[.val (.int p1), .val (.int p2), .val (.int p3), .val (.int p4), .val (.int (1 : Int32)), .val (.int (1 : Int32)), .val (.int (1 : Int32)), .val (.int (1 : Int32)), .val (.ref al), .val (.ref ba), .val .null, .unset, .unset] rfl ?_
              refine B.iload 93 rfl at_91 rfl ?_
              refine B.if0_eq 117 96 rfl (by decide) rfl at_93 (fun c93 => ?_) (fun c93 => ?_)
              · exact absurd c93 (by decide)
              · refine B.newO 99 rfl at_96 (wd hw 27 rfl) (wd hw 28 rfl) (wd hw 29 rfl) (by decide) (by decide) ?_
                intro h_s1 s1 e_s1 g_s1 X_s1 E_s1 D_s1
                show B.G h_s1 3 8 (mkF m 99 #[.val (.int p1), .val (.int p2), .val (.int p3), .val (.int p4), .val (.int (1 : Int32)), .val (.int (1 : Int32)), .val (.int (1 : Int32)), .val (.int (1 : Int32)), .val (.ref al), .val (.ref ba), .val .null, .unset, .unset] [(.ref s1)])
                have F0_s1 : Fld Z h_s1 s1 "java/lang/String" "coder" "B" (.int 0) := D_s1 (Or.inr (wd hw 52 rfl)) (ty := .byte) (by decide)
                have F1_s1 : Fld Z h_s1 s1 "java/lang/String" "value" "[B" .null := D_s1 (Or.inr (wd hw 54 rfl)) (ty := (.array .byte)) (by decide)
                refine B.dup 100 rfl at_99 rfl ?_
                refine B.iconst 101 rfl (1 : Int32) at_100 rfl ?_
                refine B.newP 103 rfl at_101 (wd hw 30 rfl) (by decide) 1 (by decide) (by decide) (by decide) (by decide) ?_
                intro h_cs1 cs1 e_cs1 g_cs1 X_cs1 A_cs1
                replace A_cs1 : Ary Z h_cs1 cs1 .char [(.int (0 : Int32))] := A_cs1
                show B.G h_cs1 4 9 (mkF m 103 #[.val (.int p1), .val (.int p2), .val (.int p3), .val (.int p4), .val (.int (1 : Int32)), .val (.int (1 : Int32)), .val (.int (1 : Int32)), .val (.int (1 : Int32)), .val (.ref al), .val (.ref ba), .val .null, .unset, .unset] [(.ref cs1), (.ref s1), (.ref s1)])
                have n_s1_cs1 : s1 ≠ cs1 := fun q => absurd E_s1.lt (by rw [q, e_cs1]; exact Nat.lt_irrefl _)
                have E_s1_1 := E_s1.ext X_cs1
                have F0_s1_1 := F0_s1.ext X_cs1
                have F1_s1_1 := F1_s1.ext X_cs1
                refine B.dup 104 rfl at_103 rfl ?_
                refine B.iconst 105 rfl (0 : Int32) at_104 rfl ?_
                refine B.iloadN 106 rfl at_105 rfl ?_
                refine B.sipush 109 rfl (255 : Int32) at_106 rfl ?_
                refine B.iand 110 rfl at_109 ?_
                refine B.i2c 111 rfl at_110 ?_
                refine B.topI (p3 &&& (255 : Int32)) (i2c_mask p3) ?_
                refine B.castore 112 rfl at_111 A_cs1 (by decide) 0 rfl (by simp) (Or.inr g_cs1) ?_
                intro hs45 Ws45 As45
                rw [i2c_mask] at As45
                replace As45 : Ary Z hs45 cs1 .char [(.int (p3 &&& (255 : Int32)))] := As45
                have E_s1_2 := E_s1_1.wr Ws45
                have F0_s1_2 := F0_s1_1.other Ws45 (Or.inl n_s1_cs1)
                have F1_s1_2 := F1_s1_1.other Ws45 (Or.inl n_s1_cs1)
                refine B.olds fun Y46 => ?_
                refine B.callI 115 rfl at_112 rfl (wd hw 31 rfl) (wd hw 32 rfl) (wd hw 29 rfl) (wd hw 33 rfl) (by decide) [(.ref cs1)] [(.ref s1)] (rm_st1 l Z a0 hw s1 cs1 cs (p3 &&& 255) hs45 hcs (Ss.ext Y46) E_s1_2 F0_s1_2 F1_s1_2 As45 (own_c p3)) rfl rfl pd___C_V rfl rfl 1 rfl (by decide) (by decide) (by decide) (by decide) (fun x z => Or.inr (by cases List.mem_singleton.mp z; exact g_s1)) ?_
                rintro _ h_s12 - ⟨rfl, -⟩
                show B.G h_s12 5 10 (mkF m 115 #[.val (.int p1), .val (.int p2), .val (.int p3), .val (.int p4), .val (.int (1 : Int32)), .val (.int (1 : Int32)), .val (.int (1 : Int32)), .val (.int (1 : Int32)), .val (.ref al), .val (.ref ba), .val .null, .unset, .unset] [(.ref s1)])
                refine B.astore 117 rfl at_115 rfl #[.val (.int p1), .val (.int p2), .val (.int p3), .val (.int p4), .val (.int (1 : Int32)), .val (.int (1 : Int32)), .val (.int (1 : Int32)), .val (.int (1 : Int32)), .val (.ref al), .val (.ref ba), .val (.ref s1), .unset, .unset] rfl ?_
                refine B.aconstNull 118 rfl at_117 ?_
                refine B.astore 120 rfl at_118 rfl #[.val (.int p1), .val (.int p2), .val (.int p3), .val (.int p4), .val (.int (1 : Int32)), .val (.int (1 : Int32)), .val (.int (1 : Int32)), .val (.int (1 : Int32)), .val (.ref al), .val (.ref ba), .val (.ref s1), .val .null, .unset] rfl ?_
                refine B.iload 122 rfl at_120 rfl ?_
                refine B.if0_eq 146 125 rfl (by decide) rfl at_122 (fun c122 => ?_) (fun c122 => ?_)
                · exact absurd c122 (by decide)
                · refine B.newO 128 rfl at_125 (wd hw 27 rfl) (wd hw 28 rfl) (wd hw 29 rfl) (by decide) (by decide) ?_
                  intro h_s2 s2 e_s2 g_s2 X_s2 E_s2 D_s2
                  show B.G h_s2 6 14 (mkF m 128 #[.val (.int p1), .val (.int p2), .val (.int p3), .val (.int p4), .val (.int (1 : Int32)), .val (.int (1 : Int32)), .val (.int (1 : Int32)), .val (.int (1 : Int32)), .val (.ref al), .val (.ref ba), .val (.ref s1), .val .null, .unset] [(.ref s2)])
                  have F0_s2 : Fld Z h_s2 s2 "java/lang/String" "coder" "B" (.int 0) := D_s2 (Or.inr (wd hw 52 rfl)) (ty := .byte) (by decide)
                  have F1_s2 : Fld Z h_s2 s2 "java/lang/String" "value" "[B" .null := D_s2 (Or.inr (wd hw 54 rfl)) (ty := (.array .byte)) (by decide)
                  refine B.dup 129 rfl at_128 rfl ?_
                  refine B.iconst 130 rfl (1 : Int32) at_129 rfl ?_
                  refine B.newP 132 rfl at_130 (wd hw 30 rfl) (by decide) 1 (by decide) (by decide) (by decide) (by decide) ?_
                  intro h_cs2 cs2 e_cs2 g_cs2 X_cs2 A_cs2
                  replace A_cs2 : Ary Z h_cs2 cs2 .char [(.int (0 : Int32))] := A_cs2
                  show B.G h_cs2 7 15 (mkF m 132 #[.val (.int p1), .val (.int p2), .val (.int p3), .val (.int p4), .val (.int (1 : Int32)), .val (.int (1 : Int32)), .val (.int (1 : Int32)), .val (.int (1 : Int32)), .val (.ref al), .val (.ref ba), .val (.ref s1), .val .null, .unset] [(.ref cs2), (.ref s2), (.ref s2)])
                  have n_s2_cs2 : s2 ≠ cs2 := fun q => absurd E_s2.lt (by rw [q, e_cs2]; exact Nat.lt_irrefl _)
                  have E_s2_1 := E_s2.ext X_cs2
                  have F0_s2_1 := F0_s2.ext X_cs2
                  have F1_s2_1 := F1_s2.ext X_cs2
                  refine B.dup 133 rfl at_132 rfl ?_
                  refine B.iconst 134 rfl (0 : Int32) at_133 rfl ?_
                  refine B.iloadN 135 rfl at_134 rfl ?_
                  refine B.sipush 138 rfl (255 : Int32) at_135 rfl ?_
                  refine B.iand 139 rfl at_138 ?_
                  refine B.i2c 140 rfl at_139 ?_
                  refine B.topI (p4 &&& (255 : Int32)) (i2c_mask p4) ?_
                  refine B.castore 141 rfl at_140 A_cs2 (by decide) 0 rfl (by simp) (Or.inr g_cs2) ?_
                  intro hs47 Ws47 As47
                  rw [i2c_mask] at As47
                  replace As47 : Ary Z hs47 cs2 .char [(.int (p4 &&& (255 : Int32)))] := As47
                  have E_s2_2 := E_s2_1.wr Ws47
                  have F0_s2_2 := F0_s2_1.other Ws47 (Or.inl n_s2_cs2)
                  have F1_s2_2 := F1_s2_1.other Ws47 (Or.inl n_s2_cs2)
                  refine B.olds fun Y48 => ?_
                  refine B.callI 144 rfl at_141 rfl (wd hw 31 rfl) (wd hw 32 rfl) (wd hw 29 rfl) (wd hw 33 rfl) (by decide) [(.ref cs2)] [(.ref s2)] (rm_st1 l Z a0 hw s2 cs2 cs (p4 &&& 255) hs47 hcs (Ss.ext Y48) E_s2_2 F0_s2_2 F1_s2_2 As47 (own_c p4)) rfl rfl pd___C_V rfl rfl 1 rfl (by decide) (by decide) (by decide) (by decide) (fun x z => Or.inr (by cases List.mem_singleton.mp z; exact g_s2)) ?_
                  rintro _ h_s22 - ⟨rfl, -⟩
                  show B.G h_s22 8 16 (mkF m 144 #[.val (.int p1), .val (.int p2), .val (.int p3), .val (.int p4), .val (.int (1 : Int32)), .val (.int (1 : Int32)), .val (.int (1 : Int32)), .val (.int (1 : Int32)), .val (.ref al), .val (.ref ba), .val (.ref s1), .val .null, .unset] [(.ref s2)])
                  refine B.astore 146 rfl at_144 rfl #[.val (.int p1), .val (.int p2), .val (.int p3), .val (.int p4), .val (.int (1 : Int32)), .val (.int (1 : Int32)), .val (.int (1 : Int32)), .val (.int (1 : Int32)), .val (.ref al), .val (.ref ba), .val (.ref s1), .val (.ref s2), .unset] rfl ?_
                  refine B.newO 149 rfl at_146 (wd hw 0 rfl) (wd hw 1 rfl) (wd hw 2 rfl) (by decide) (by decide) ?_
                  intro h_o o e_o g_o X_o E_o D_o
                  show B.G h_o 9 20 (mkF m 149 #[.val (.int p1), .val (.int p2), .val (.int p3), .val (.int p4), .val (.int (1 : Int32)), .val (.int (1 : Int32)), .val (.int (1 : Int32)), .val (.int (1 : Int32)), .val (.ref al), .val (.ref ba), .val (.ref s1), .val (.ref s2), .unset] [(.ref o)])
                  have F0_o : Fld Z h_o o "com/example/siegelwerk/siegelwerk/DataObject" "xml" "Ljava/util/List;" .null := D_o (Or.inr (wd hw 15 rfl)) (ty := (.object "java/util/List")) (by decide)
                  have F1_o : Fld Z h_o o "com/example/siegelwerk/siegelwerk/DataObject" "bytes" "[B" .null := D_o (Or.inr (wd hw 17 rfl)) (ty := (.array .byte)) (by decide)
                  have F2_o : Fld Z h_o o "com/example/siegelwerk/siegelwerk/DataObject" "mimeType" "Ljava/lang/String;" .null := D_o (Or.inr (wd hw 19 rfl)) (ty := (.object "java/lang/String")) (by decide)
                  have F3_o : Fld Z h_o o "com/example/siegelwerk/siegelwerk/DataObject" "description" "Ljava/lang/String;" .null := D_o (Or.inr (wd hw 21 rfl)) (ty := (.object "java/lang/String")) (by decide)
                  refine B.dup 150 rfl at_149 rfl ?_
                  refine B.aload 152 rfl at_150 rfl rfl ?_
                  refine B.aload 154 rfl at_152 rfl rfl ?_
                  refine B.aload 156 rfl at_154 rfl rfl ?_
                  refine B.aload 158 rfl at_156 rfl rfl ?_
                  refine B.callI 161 rfl at_158 rfl (wd hw 3 rfl) (wd hw 4 rfl) (wd hw 2 rfl) (wd hw 5 rfl) (by decide) [(.ref al), (.ref ba), (.ref s1), (.ref s2)] [(.ref o)] (rm_do l Z a0 hw o (.ref al) (.ref ba) (.ref s1) (.ref s2) h_o rfl rfl rfl rfl rfl rfl rfl rfl E_o F0_o F1_o F2_o F3_o) rfl rfl pd__Ljava_util_List__BLjava_lang_String_Ljava_lang_String__V rfl rfl 1 rfl (by decide) (by decide) (by decide) (by decide) (fun x z => Or.inr (by cases List.mem_singleton.mp z; exact g_o)) ?_
                  rintro _ h_o2 - ⟨rfl, E_o2, F_o2⟩
                  show B.G h_o2 9 20 (mkF m 161 #[.val (.int p1), .val (.int p2), .val (.int p3), .val (.int p4), .val (.int (1 : Int32)), .val (.int (1 : Int32)), .val (.int (1 : Int32)), .val (.int (1 : Int32)), .val (.ref al), .val (.ref ba), .val (.ref s1), .val (.ref s2), .unset] [(.ref o)])
                  refine B.astore 163 rfl at_161 rfl #[.val (.int p1), .val (.int p2), .val (.int p3), .val (.int p4), .val (.int (1 : Int32)), .val (.int (1 : Int32)), .val (.int (1 : Int32)), .val (.int (1 : Int32)), .val (.ref al), .val (.ref ba), .val (.ref s1), .val (.ref s2), .val (.ref o)] rfl ?_
                  refine B.aload 165 rfl at_163 rfl rfl ?_
                  refine B.callV 168 rfl at_165 (wd hw 22 rfl) (wd hw 23 rfl) (wd hw 25 rfl) (wd hw 24 rfl) (wd hw 2 rfl) (wd hw 26 rfl) (by decide) E_o2 [] [] (rm_isR l Z a0 hw o al h_o2 F_o2) rfl rfl pd___Z rfl rfl 0 rfl (by decide) (by decide) (by decide) (by decide) (fun _ q => nomatch q) ?_
                  rintro _ _ - ⟨rfl, rfl⟩
                  show B.G h_o2 9 20 (mkF m 168 #[.val (.int p1), .val (.int p2), .val (.int p3), .val (.int p4), .val (.int (1 : Int32)), .val (.int (1 : Int32)), .val (.int (1 : Int32)), .val (.int (1 : Int32)), .val (.ref al), .val (.ref ba), .val (.ref s1), .val (.ref s2), .val (.ref o)] [(.int (1 : Int32))])
                  refine B.iload 170 rfl at_168 rfl ?_
                  refine B.icmp_ne 177 173 rfl (by decide) rfl at_170 (fun c170 => ?_) (fun c170 => ?_)
                  · exact absurd c170 (by decide)
                  · refine B.iconst 174 rfl (1 : Int32) at_173 rfl ?_
                    refine B.goto 178 rfl (by decide) at_174 ?_
                    refine B.retN (by simp) at_178 (by decide) (by decide) ?_
                    exact rfl
set_option maxRecDepth 65536 in
set_option maxHeartbeats 4000000 in
theorem comes_1 {Post : Tables → Env → Array Value → State → Outcome → State → Prop} (hpost : ∀ tb e args s v u, (limb_1_1.after args s (.returned v) u = true ∧ limb_1_2.after args s (.returned v) u = true ∧ True) → FrameEnd s (.returned v) u (Jvm.fieldLocs frame_1_writes args s ++ Jvm.arrayLocs frame_1_arrays args s ++ Jvm.staticLocs frame_1_statics s) 32 128 → Post tb e args s (.returned v) u) :
    ArmFor flags0 classFile x code maxLocals ret World_1 tables_1 room_1 Calls_1 rest_1 Pre_1 Post := by
  intro l hfl _ _ p e ha hc hk s m args below hf hA hF happ hP
  obtain ⟨hcalls, hrest, hpre⟩ := hP
  obtain ⟨-, -, -, hnamed, -, -, -, hat⟩ := (Spec.applies_iff hf).mp happ
  obtain ⟨hg, hn⟩ := and_e (Cond.before_iff.mp (show (Jvm.Cond.and given_1 narrow_1).before args s = true from hpre))
  obtain ⟨g0, gg0⟩ := and_e hg
  obtain ⟨k0, gg1⟩ := and_e gg0
  obtain ⟨k1, gg2⟩ := and_e gg1
  obtain ⟨k2, gg3⟩ := and_e gg2
  obtain ⟨w0, w1, w2, w3, rfl⟩ : ∃ w0 w1 w2 w3 : Value, args = #[w0, w1, w2, w3] := by
    have hs : args.size = 4 := by simpa [Cond.value, given_1] using g0
    obtain ⟨L⟩ := args
    match L, hs with
    | [w0, w1, w2, w3], _ => exact ⟨w0, w1, w2, w3, rfl⟩
  have hw := fun d (hd : d ∈ tables_1) => atoms_spec (ws := Jvm.Cond.code x code maxLocals ret :: tables_1) hat d (List.mem_cons_of_mem _ hd)
  obtain ⟨i0, ei0⟩ := is_v k0
  obtain rfl : w0 = (.int i0) := Option.some.inj ei0
  obtain ⟨i1, ei1⟩ := is_v k1
  obtain rfl : w1 = (.int i1) := Option.some.inj ei1
  obtain ⟨i2, ei2⟩ := is_v k2
  obtain rfl : w2 = (.int i2) := Option.some.inj ei2
  obtain ⟨i3, ei3⟩ := is_v gg3
  obtain rfl : w3 = (.int i3) := Option.some.inj ei3
  obtain ⟨hsets, hown0⟩ := atoms_of _ (rest_1_c_eq ▸ (show rest_1_c.before _ s = true from hrest))
  obtain ⟨cs, vcs⟩ := is_v (Cond.before_iff.mp (hsets _ (List.mem_of_getElem? (i := 1) rfl)))
  have hcs : ¬ cs = 0 := fun q => by
    subst q
    have z : Option.map (fun x => !x) ((Jvm.Cond.eq (Jvm.Term.static "java/lang/String" "COMPACT_STRINGS" "Z") (.int 0)).value _ s none s []) = some true := Cond.before_iff.mp (hsets _ (List.mem_of_getElem? (i := 2) rfl))
    rw [eq_i vcs (Term.int_eval (0)) rfl] at z
    exact absurd z (by decide)
  have Ss := Sta.start vcs (Or.inl (hsets _ (List.mem_of_getElem? (i := 0) rfl)))
  obtain ⟨de, vde⟩ := exa_v (Cond.before_iff.mp (hsets _ (List.mem_of_getElem? (i := 16) rfl)))
  have Sd := Sta.start vde (Or.inr ⟨wd hw 57 rfl, (hsets _ (List.mem_of_getElem? (i := 11) rfl))⟩)
  obtain ⟨n, o, h1, h2, h3, _, L, rfl, ⟨rfl, N, -⟩, hq⟩ := rm0 l s _ hw tables_1 i0 i1 i2 i3 s.heap cs hcs Ss de Sd p e ha hc hk s m _ below hf ((Spec.applies_iff_loose hf).mp happ).1 ⟨rfl, State.Warmed39.refl s, rfl⟩ trivial
  refine ⟨n, _, h1, h2, h3, hpost _ _ _ _ _ _ ⟨Cond.after_iff.mpr rfl, Cond.after_iff.mpr (eq_i res_at (Term.int_eval (1)) rfl), trivial⟩ ⟨hq.1, hq.2.1, (hq.2.2.sift fun y hy => Or.inr ((N y hy).resolve_left (by simp))).mono (by decide) (by decide)⟩⟩
theorem main_1_1 : Claimed_1_1 := comes_1 fun _ _ _ _ _ _ h hF => ⟨h.1, hF⟩
theorem main_1_2 : Claimed_1_2 := comes_1 fun _ _ _ _ _ _ h hF => ⟨h.2.1, hF⟩
end Jvm.Pilot.@@N@@
namespace Jvm.Pilot.@@N@@
open Jvm Jvm.ClassFile Sem Op Lib Jvm.Free Jvm.Stand Jvm.Pilot.@@N@@.Jvm.D
/-! MADE BY PROGRAM (witnessworld.py) out of the Statement's table words and the real class files: 30 classes; the members and pool entries that the words name. The judged class is class 1, her method 1. -/
namespace start1
open Jvm.ClassFile
def u (s : String) : CpInfo := .utf8 (stringToUtf16 s)
/-- a pool by its gaps: so many unusable entries, then the entry; so many at the end -/
def gap : Nat → List CpInfo → List CpInfo
  | 0, r => r
  | n + 1, r => .unusable :: gap n r
def poolList (es : List (Nat × CpInfo)) (last : Nat) : List CpInfo := es.foldr (fun e r => gap e.1 (e.2 :: r)) (gap last [])
def pool (es : List (Nat × CpInfo)) (last : Nat) : Array CpInfo := ⟨poolList es last⟩
def fileOf (pool : Array CpInfo) (this : Nat) (attrs : Array Attribute := #[]) (ms : Array MethodInfo := #[]) (fl : Nat := 33) (sup : Nat := 0) (ifs : Array Nat := #[]) (fds : Array FieldInfo := #[]) : ClassFile where
  minorVersion := 0
  majorVersion := 65
  constantPool := pool
  accessFlags := fl
  thisClass := this
  superClass := sup
  interfaces := ifs
  fields := fds
  methods := ms
  attributes := attrs
def plain (name : String) (sup : Option ClassId) : Class where
  name := name
  kind := .ordinary
  loader := none
  accessFlags := 33
  super := sup
  interfaces := #[]
  cf := none
  fields := #[]
  methods := #[]
  instanceTypes := #[]
  staticTypes := #[]
  resolved := #[]
  callSites := []
  init := .initialized
  statics := none
  mirror := none

def pool0 : Array CpInfo := pool [(5, u "<init>"), (0, u "()V"), (1, .class_ 10), (1, u "java/lang/Object")] 113

def k0c0 : Code := { maxStack := 0, maxLocals := 1, code := object_method_1_code, exceptionTable := #[], attributes := #[] }
def k0m0 : Method := { name := "<init>", desc := "()V", sig := { parameters := [], returnType := none }, accessFlags := 1, code := some k0c0 }
/-- java/lang/Object -/
def k0 : Class := { plain "java/lang/Object" none with
  accessFlags := 33
  interfaces := #[]
  cf := some (fileOf pool0 8 #[] #[{ accessFlags := 1, nameIndex := 5, descriptorIndex := 6, attributes := #[] }] 33 0 #[] #[])
  fields := #[]
  methods := #[k0m0]
  instanceTypes := #[]
  staticTypes := #[]
  resolved := Array.replicate 124 none
  statics := none }

def pool1 : Array CpInfo := pool [(2, .class_ 4), (0, .nameAndType 5 6), (0, u "java/lang/Object"), (0, u "<init>"), (0, u "()V"), (0, .class_ 8), (0, u "java/util/ArrayList"), (0, .methodref 7 3), (0, .class_ 11), (0, u "java/lang/String"), (0, .methodref 10 13), (0, .nameAndType 5 14), (0, u "([C)V"), (0, .class_ 16), (0, u "com/example/siegelwerk/siegelwerk/DataObject"), (0, .methodref 15 18), (0, .nameAndType 5 19), (0, u "(Ljava/util/List;[BLjava/lang/String;Ljava/lang/String;)V"), (0, .methodref 15 21), (0, .nameAndType 22 23), (0, u "isXml"), (0, u "()Z"), (0, .class_ 25), (0, u "com/example/siegelwerk/siegelwerk/DataObjectIsXmlPinLaw"), (2, u "law"), (0, u "(IIII)Z")] 7

def k1m0 : Method := { name := "<init>", desc := "()V", sig := { parameters := [], returnType := none }, accessFlags := 1, code := none }
def k1c1 : Code := { maxStack := 7, maxLocals := 13, code := code, exceptionTable := #[], attributes := #[] }
def k1m1 : Method := { name := "law", desc := "(IIII)Z", sig := { parameters := [.int, .int, .int, .int], returnType := some .boolean }, accessFlags := 9, code := some k1c1 }
/-- com/example/siegelwerk/siegelwerk/DataObjectIsXmlPinLaw -/
def k1 : Class := { plain "com/example/siegelwerk/siegelwerk/DataObjectIsXmlPinLaw" (some 0) with
  accessFlags := 49
  interfaces := #[]
  cf := some (fileOf pool1 24 #[] #[{ accessFlags := 1, nameIndex := 5, descriptorIndex := 6, attributes := #[] }, { accessFlags := 9, nameIndex := 28, descriptorIndex := 29, attributes := #[] }] 49 2 #[] #[])
  fields := #[]
  methods := #[k1m0, k1m1]
  instanceTypes := #[]
  staticTypes := #[]
  resolved := Array.replicate 37 none
  statics := none }

def pool2 : Array CpInfo := pool [(1, .methodref 2 3), (0, .class_ 4), (0, .nameAndType 5 6), (0, u "java/lang/Object"), (0, u "<init>"), (0, u "()V"), (0, .class_ 8), (0, u "java/lang/Record")] 13

def k2c0 : Code := { maxStack := 1, maxLocals := 1, code := jdk_30_method_1_code, exceptionTable := #[], attributes := #[] }
def k2m0 : Method := { name := "<init>", desc := "()V", sig := { parameters := [], returnType := none }, accessFlags := 4, code := some k2c0 }
/-- java/lang/Record -/
def k2 : Class := { plain "java/lang/Record" (some 0) with
  accessFlags := 1057
  interfaces := #[]
  cf := some (fileOf pool2 7 #[] #[{ accessFlags := 4, nameIndex := 5, descriptorIndex := 6, attributes := #[] }] 1057 2 #[] #[])
  fields := #[]
  methods := #[k2m0]
  instanceTypes := #[]
  staticTypes := #[]
  resolved := Array.replicate 22 none
  statics := none }

def pool3 : Array CpInfo := pool [(1, .methodref 2 3), (0, .class_ 4), (0, .nameAndType 5 6), (0, u "java/lang/Record"), (0, u "<init>"), (0, u "()V"), (0, .fieldref 8 9), (0, .class_ 10), (0, .nameAndType 11 12), (0, u "com/example/siegelwerk/siegelwerk/DataObject"), (0, u "xml"), (0, u "Ljava/util/List;"), (0, .fieldref 8 14), (0, .nameAndType 15 16), (0, u "bytes"), (0, u "[B"), (0, .fieldref 8 18), (0, .nameAndType 19 20), (0, u "mimeType"), (0, u "Ljava/lang/String;"), (0, .fieldref 8 22), (0, .nameAndType 23 20), (0, u "description"), (8, u "(Ljava/util/List;[BLjava/lang/String;Ljava/lang/String;)V"), (53, u "isXml"), (0, u "()Z")] 29

def k3c0 : Code := { maxStack := 2, maxLocals := 5, code := prog_13_method_1_code, exceptionTable := #[], attributes := #[] }
def k3m0 : Method := { name := "<init>", desc := "(Ljava/util/List;[BLjava/lang/String;Ljava/lang/String;)V", sig := { parameters := [(.object "java/util/List"), (.array .byte), (.object "java/lang/String"), (.object "java/lang/String")], returnType := none }, accessFlags := 0, code := some k3c0 }
def k3c1 : Code := { maxStack := 1, maxLocals := 1, code := prog_13_method_5_code, exceptionTable := #[], attributes := #[] }
def k3m1 : Method := { name := "isXml", desc := "()Z", sig := { parameters := [], returnType := some .boolean }, accessFlags := 0, code := some k3c1 }
/-- com/example/siegelwerk/siegelwerk/DataObject -/
def k3 : Class := { plain "com/example/siegelwerk/siegelwerk/DataObject" (some 2) with
  accessFlags := 48
  interfaces := #[]
  cf := some (fileOf pool3 8 #[] #[{ accessFlags := 0, nameIndex := 5, descriptorIndex := 32, attributes := #[] }, { accessFlags := 0, nameIndex := 86, descriptorIndex := 87, attributes := #[] }] 48 2 #[] #[{ accessFlags := 18, nameIndex := 11, descriptorIndex := 12, attributes := #[] }, { accessFlags := 18, nameIndex := 15, descriptorIndex := 16, attributes := #[] }, { accessFlags := 18, nameIndex := 19, descriptorIndex := 20, attributes := #[] }, { accessFlags := 18, nameIndex := 23, descriptorIndex := 20, attributes := #[] }])
  fields := #[{ name := "xml", type := (.object "java/util/List"), accessFlags := 18, slot := 0, constantValue := 0 }, { name := "bytes", type := (.array .byte), accessFlags := 18, slot := 1, constantValue := 0 }, { name := "mimeType", type := (.object "java/lang/String"), accessFlags := 18, slot := 2, constantValue := 0 }, { name := "description", type := (.object "java/lang/String"), accessFlags := 18, slot := 3, constantValue := 0 }]
  methods := #[k3m0, k3m1]
  instanceTypes := #[(.object "java/util/List"), (.array .byte), (.object "java/lang/String"), (.object "java/lang/String")]
  staticTypes := #[]
  resolved := Array.replicate 117 none
  statics := none }

def pool4 : Array CpInfo := pool [(1, .class_ 2), (0, u "java/io/Serializable"), (0, .class_ 4), (0, u "java/lang/Object")] 2

/-- java/io/Serializable -/
def k4 : Class := { plain "java/io/Serializable" (some 0) with
  accessFlags := 1537
  interfaces := #[]
  cf := some (fileOf pool4 1 #[] #[] 1537 3 #[] #[])
  fields := #[]
  methods := #[]
  instanceTypes := #[]
  staticTypes := #[]
  resolved := Array.replicate 7 none
  statics := none }

def pool5 : Array CpInfo := pool [(1, .class_ 2), (0, u "java/lang/Comparable"), (0, .class_ 4), (0, u "java/lang/Object")] 7

/-- java/lang/Comparable -/
def k5 : Class := { plain "java/lang/Comparable" (some 0) with
  accessFlags := 1537
  interfaces := #[]
  cf := some (fileOf pool5 1 #[] #[] 1537 3 #[] #[])
  fields := #[]
  methods := #[]
  instanceTypes := #[]
  staticTypes := #[]
  resolved := Array.replicate 12 none
  statics := none }

def pool6 : Array CpInfo := pool [(2, .class_ 4), (1, u "java/lang/CharSequence"), (42, .class_ 48), (0, u "java/lang/CharSequence$1CodePointIterator"), (10, .class_ 60), (0, u "java/lang/CharSequence$1CharIterator"), (5, .class_ 67), (0, u "java/lang/Object")] 63

/-- java/lang/CharSequence -/
def k6 : Class := { plain "java/lang/CharSequence" (some 0) with
  accessFlags := 1537
  interfaces := #[]
  cf := some (fileOf pool6 2 #[.nestMembers #[47, 59]] #[] 1537 66 #[] #[])
  fields := #[]
  methods := #[]
  instanceTypes := #[]
  staticTypes := #[]
  resolved := Array.replicate 131 none
  statics := none }

def pool7 : Array CpInfo := pool [(1, .class_ 2), (0, u "java/lang/constant/Constable"), (0, .class_ 4), (0, u "java/lang/Object")] 6

/-- java/lang/constant/Constable -/
def k7 : Class := { plain "java/lang/constant/Constable" (some 0) with
  accessFlags := 1537
  interfaces := #[]
  cf := some (fileOf pool7 1 #[] #[] 1537 3 #[] #[])
  fields := #[]
  methods := #[]
  instanceTypes := #[]
  staticTypes := #[]
  resolved := Array.replicate 11 none
  statics := none }

def pool8 : Array CpInfo := pool [(1, .class_ 2), (0, u "java/lang/constant/ConstantDesc"), (0, .class_ 4), (0, u "java/lang/Object")] 32

/-- java/lang/constant/ConstantDesc -/
def k8 : Class := { plain "java/lang/constant/ConstantDesc" (some 0) with
  accessFlags := 1537
  interfaces := #[]
  cf := some (fileOf pool8 1 #[] #[] 1537 3 #[] #[])
  fields := #[]
  methods := #[]
  instanceTypes := #[]
  staticTypes := #[]
  resolved := Array.replicate 37 none
  statics := none }

def pool9 : Array CpInfo := pool [(1, .methodref 2 3), (0, .class_ 4), (0, .nameAndType 5 6), (0, u "java/lang/Object"), (0, u "<init>"), (0, u "()V"), (2, .fieldref 10 11), (0, .class_ 12), (0, .nameAndType 13 14), (0, u "java/lang/String"), (0, u "value"), (0, u "[B"), (0, .fieldref 10 16), (0, .nameAndType 17 18), (0, u "coder"), (0, u "B"), (2, u "hash"), (0, u "I"), (2, u "hashIsZero"), (0, u "Z"), (0, .methodref 10 28), (0, .nameAndType 5 29), (0, u "([CIILjava/lang/Void;)V"), (8, .fieldref 10 39), (0, .nameAndType 40 26), (0, u "COMPACT_STRINGS"), (1, .class_ 44), (1, u "java/lang/StringUTF16"), (0, u "compress"), (1, .methodref 42 48), (0, .nameAndType 49 50), (0, u "coderFromArrayLen"), (0, u "([BI)B"), (126, .methodref 42 178), (0, .nameAndType 45 179), (0, u "([CII)[B"), (395, .class_ 576), (0, u "java/lang/CharSequence"), (22, u "CASE_INSENSITIVE_ORDER"), (0, u "Ljava/util/Comparator;"), (409, u "([C)V"), (90, u "serialPersistentFields"), (0, u "[Ljava/io/ObjectStreamField;"), (0, .class_ 1104), (0, u "java/lang/String$CaseInsensitiveComparator"), (1, .class_ 1107), (0, u "java/io/Serializable"), (0, .class_ 1109), (0, u "java/lang/Comparable"), (0, .class_ 1111), (0, u "java/lang/constant/Constable"), (0, .class_ 1113), (0, u "java/lang/constant/ConstantDesc"), (2, u "serialVersionUID"), (0, u "J"), (3, u "REPL"), (0, u "C"), (2, u "LATIN1"), (1, u "UTF16")] 323

def k9m0 : Method := { name := "<init>", desc := "()V", sig := { parameters := [], returnType := none }, accessFlags := 1, code := none }
def k9c1 : Code := { maxStack := 5, maxLocals := 2, code := jdk_42_method_3_code, exceptionTable := #[], attributes := #[] }
def k9m1 : Method := { name := "<init>", desc := "([C)V", sig := { parameters := [(.array .char)], returnType := none }, accessFlags := 1, code := some k9c1 }
def k9c2 : Code := { maxStack := 4, maxLocals := 6, code := jdk_42_method_149_code, exceptionTable := #[], attributes := #[] }
def k9m2 : Method := { name := "<init>", desc := "([CIILjava/lang/Void;)V", sig := { parameters := [(.array .char), .int, .int, (.object "java/lang/Void")], returnType := none }, accessFlags := 2, code := some k9c2 }
/-- java/lang/String -/
def k9 : Class := { plain "java/lang/String" (some 0) with
  accessFlags := 49
  interfaces := #[4, 5, 6, 7, 8]
  cf := some (fileOf pool9 10 #[.nestMembers #[1103]] #[{ accessFlags := 1, nameIndex := 5, descriptorIndex := 6, attributes := #[] }, { accessFlags := 1, nameIndex := 5, descriptorIndex := 1010, attributes := #[] }, { accessFlags := 2, nameIndex := 5, descriptorIndex := 29, attributes := #[] }] 49 2 #[1106, 1108, 575, 1110, 1112] #[{ accessFlags := 18, nameIndex := 13, descriptorIndex := 14, attributes := #[] }, { accessFlags := 18, nameIndex := 17, descriptorIndex := 18, attributes := #[] }, { accessFlags := 2, nameIndex := 21, descriptorIndex := 22, attributes := #[] }, { accessFlags := 2, nameIndex := 25, descriptorIndex := 26, attributes := #[] }, { accessFlags := 26, nameIndex := 1116, descriptorIndex := 1117, attributes := #[] }, { accessFlags := 24, nameIndex := 40, descriptorIndex := 26, attributes := #[] }, { accessFlags := 26, nameIndex := 1101, descriptorIndex := 1102, attributes := #[] }, { accessFlags := 26, nameIndex := 1121, descriptorIndex := 1122, attributes := #[] }, { accessFlags := 25, nameIndex := 599, descriptorIndex := 600, attributes := #[] }, { accessFlags := 24, nameIndex := 1125, descriptorIndex := 18, attributes := #[] }, { accessFlags := 24, nameIndex := 1127, descriptorIndex := 18, attributes := #[] }])
  fields := #[{ name := "value", type := (.array .byte), accessFlags := 18, slot := 0, constantValue := 0 }, { name := "coder", type := .byte, accessFlags := 18, slot := 1, constantValue := 0 }, { name := "hash", type := .int, accessFlags := 2, slot := 2, constantValue := 0 }, { name := "hashIsZero", type := .boolean, accessFlags := 2, slot := 3, constantValue := 0 }, { name := "serialVersionUID", type := .long, accessFlags := 26, slot := 0, constantValue := 0 }, { name := "COMPACT_STRINGS", type := .boolean, accessFlags := 24, slot := 1, constantValue := 0 }, { name := "serialPersistentFields", type := (.array (.object "java/io/ObjectStreamField")), accessFlags := 26, slot := 2, constantValue := 0 }, { name := "REPL", type := .char, accessFlags := 26, slot := 3, constantValue := 0 }, { name := "CASE_INSENSITIVE_ORDER", type := (.object "java/util/Comparator"), accessFlags := 25, slot := 4, constantValue := 0 }, { name := "LATIN1", type := .byte, accessFlags := 24, slot := 5, constantValue := 0 }, { name := "UTF16", type := .byte, accessFlags := 24, slot := 6, constantValue := 0 }]
  methods := #[k9m0, k9m1, k9m2]
  instanceTypes := #[(.array .byte), .byte, .int, .boolean]
  staticTypes := #[.long, .boolean, (.array (.object "java/io/ObjectStreamField")), .char, (.object "java/util/Comparator"), .byte, .byte]
  resolved := Array.replicate 1451 none
  statics := some 0 }

def pool10 : Array CpInfo := pool [(6, .class_ 8), (1, u "java/lang/Object"), (0, u "<init>"), (0, u "()V"), (1, .class_ 14), (1, u "java/lang/StringUTF16"), (31, u "$assertionsDisabled"), (0, u "Z"), (13, u "HI_BYTE_SHIFT"), (0, u "I"), (2, u "LO_BYTE_SHIFT"), (49, .methodref 12 116), (0, .nameAndType 117 118), (0, u "compress"), (0, u "([CI[BII)I"), (3, u "([CII)[B"), (138, u "coderFromArrayLen"), (0, u "([BI)B"), (106, .class_ 371), (1, u "java/lang/StringUTF16$LinesSpliterator"), (58, u "MAX_LENGTH"), (196, .class_ 628), (0, u "java/lang/StringUTF16$CodePointsSpliterator"), (0, .class_ 630), (0, u "java/lang/StringUTF16$CharsSpliterator")] 4

def k10m0 : Method := { name := "<init>", desc := "()V", sig := { parameters := [], returnType := none }, accessFlags := 0, code := none }
def k10c1 : Code := { maxStack := 2, maxLocals := 2, code := jdk_52_method_15_code, exceptionTable := #[], attributes := #[] }
def k10m1 : Method := { name := "coderFromArrayLen", desc := "([BI)B", sig := { parameters := [(.array .byte), .int], returnType := some .byte }, accessFlags := 8, code := some k10c1 }
def k10c2 : Code := { maxStack := 5, maxLocals := 6, code := jdk_52_method_16_code, exceptionTable := #[], attributes := #[] }
def k10m2 : Method := { name := "compress", desc := "([CII)[B", sig := { parameters := [(.array .char), .int, .int], returnType := some (.array .byte) }, accessFlags := 9, code := some k10c2 }
def k10c3 : Code := { maxStack := 3, maxLocals := 7, code := jdk_52_method_21_code, exceptionTable := #[], attributes := #[] }
def k10m3 : Method := { name := "compress", desc := "([CI[BII)I", sig := { parameters := [(.array .char), .int, (.array .byte), .int, .int], returnType := some .int }, accessFlags := 9, code := some k10c3 }
/-- java/lang/StringUTF16 -/
def k10 : Class := { plain "java/lang/StringUTF16" (some 0) with
  accessFlags := 48
  interfaces := #[]
  cf := some (fileOf pool10 12 #[.nestMembers #[627, 629, 369]] #[{ accessFlags := 0, nameIndex := 9, descriptorIndex := 10, attributes := #[] }, { accessFlags := 8, nameIndex := 261, descriptorIndex := 262, attributes := #[] }, { accessFlags := 9, nameIndex := 117, descriptorIndex := 122, attributes := #[] }, { accessFlags := 9, nameIndex := 117, descriptorIndex := 118, attributes := #[] }] 48 6 #[] #[{ accessFlags := 26, nameIndex := 61, descriptorIndex := 62, attributes := #[] }, { accessFlags := 26, nameIndex := 65, descriptorIndex := 62, attributes := #[] }, { accessFlags := 24, nameIndex := 430, descriptorIndex := 62, attributes := #[] }, { accessFlags := 4120, nameIndex := 46, descriptorIndex := 47, attributes := #[] }])
  fields := #[{ name := "HI_BYTE_SHIFT", type := .int, accessFlags := 26, slot := 0, constantValue := 0 }, { name := "LO_BYTE_SHIFT", type := .int, accessFlags := 26, slot := 1, constantValue := 0 }, { name := "MAX_LENGTH", type := .int, accessFlags := 24, slot := 2, constantValue := 0 }, { name := "$assertionsDisabled", type := .boolean, accessFlags := 4120, slot := 3, constantValue := 0 }]
  methods := #[k10m0, k10m1, k10m2, k10m3]
  instanceTypes := #[]
  staticTypes := #[.int, .int, .int, .boolean]
  resolved := Array.replicate 635 none
  statics := none }

def pool11 : Array CpInfo := pool [(8, .class_ 10), (1, u "java/lang/Iterable"), (24, .class_ 36), (0, u "java/lang/Object")] 25

/-- java/lang/Iterable -/
def k11 : Class := { plain "java/lang/Iterable" (some 0) with
  accessFlags := 1537
  interfaces := #[]
  cf := some (fileOf pool11 8 #[] #[] 1537 35 #[] #[])
  fields := #[]
  methods := #[]
  instanceTypes := #[]
  staticTypes := #[]
  resolved := Array.replicate 62 none
  statics := none }

def pool12 : Array CpInfo := pool [(10, .class_ 12), (1, u "java/util/Collection"), (47, .class_ 61), (0, u "java/lang/Object"), (0, .class_ 63), (0, u "java/lang/Iterable")] 51

/-- java/util/Collection -/
def k12 : Class := { plain "java/util/Collection" (some 0) with
  accessFlags := 1537
  interfaces := #[11]
  cf := some (fileOf pool12 10 #[] #[] 1537 60 #[62] #[])
  fields := #[]
  methods := #[]
  instanceTypes := #[]
  staticTypes := #[]
  resolved := Array.replicate 115 none
  statics := none }

def pool13 : Array CpInfo := pool [(1, .methodref 2 3), (0, .class_ 4), (0, .nameAndType 5 6), (0, u "java/lang/Object"), (0, u "<init>"), (0, u "()V"), (1, .class_ 10), (1, u "java/util/AbstractCollection"), (66, .class_ 78), (0, u "java/util/Collection")] 81

def k13c0 : Code := { maxStack := 1, maxLocals := 1, code := jdk_22_method_1_code, exceptionTable := #[], attributes := #[] }
def k13m0 : Method := { name := "<init>", desc := "()V", sig := { parameters := [], returnType := none }, accessFlags := 4, code := some k13c0 }
/-- java/util/AbstractCollection -/
def k13 : Class := { plain "java/util/AbstractCollection" (some 0) with
  accessFlags := 1057
  interfaces := #[12]
  cf := some (fileOf pool13 8 #[] #[{ accessFlags := 4, nameIndex := 5, descriptorIndex := 6, attributes := #[] }] 1057 2 #[77] #[])
  fields := #[]
  methods := #[k13m0]
  instanceTypes := #[]
  staticTypes := #[]
  resolved := Array.replicate 160 none
  statics := none }

def pool14 : Array CpInfo := pool [(8, .class_ 10), (1, u "java/util/SequencedCollection"), (15, .class_ 27), (0, u "java/lang/Object"), (0, .class_ 29), (0, u "java/util/Collection")] 27

/-- java/util/SequencedCollection -/
def k14 : Class := { plain "java/util/SequencedCollection" (some 0) with
  accessFlags := 1537
  interfaces := #[12]
  cf := some (fileOf pool14 8 #[] #[] 1537 26 #[28] #[])
  fields := #[]
  methods := #[]
  instanceTypes := #[]
  staticTypes := #[]
  resolved := Array.replicate 57 none
  statics := none }

def pool15 : Array CpInfo := pool [(8, .class_ 10), (1, u "java/util/List"), (92, .class_ 104), (0, u "java/lang/Object"), (15, .class_ 121), (0, u "java/util/SequencedCollection")] 129

/-- java/util/List -/
def k15 : Class := { plain "java/util/List" (some 0) with
  accessFlags := 1537
  interfaces := #[14]
  cf := some (fileOf pool15 8 #[] #[] 1537 103 #[120] #[])
  fields := #[]
  methods := #[]
  instanceTypes := #[]
  staticTypes := #[]
  resolved := Array.replicate 251 none
  statics := none }

def pool16 : Array CpInfo := pool [(1, .methodref 2 3), (0, .class_ 4), (0, .nameAndType 5 6), (0, u "java/util/AbstractCollection"), (0, u "<init>"), (0, u "()V"), (0, .fieldref 8 9), (0, .class_ 10), (0, .nameAndType 11 12), (0, u "java/util/AbstractList"), (0, u "modCount"), (0, u "I"), (64, .class_ 78), (0, u "java/util/AbstractList$Itr"), (3, .class_ 83), (0, u "java/util/AbstractList$ListItr"), (9, .class_ 94), (0, u "java/util/AbstractList$RandomAccessSubList"), (3, .class_ 99), (0, u "java/util/AbstractList$SubList"), (33, .class_ 134), (0, u "java/util/List"), (73, .class_ 209), (0, u "java/util/AbstractList$SubList$1"), (0, .class_ 211), (0, u "java/util/AbstractList$RandomAccessSpliterator")] 6

def k16c0 : Code := { maxStack := 2, maxLocals := 1, code := jdk_39_method_1_code, exceptionTable := #[], attributes := #[] }
def k16m0 : Method := { name := "<init>", desc := "()V", sig := { parameters := [], returnType := none }, accessFlags := 4, code := some k16c0 }
/-- java/util/AbstractList -/
def k16 : Class := { plain "java/util/AbstractList" (some 13) with
  accessFlags := 1057
  interfaces := #[15]
  cf := some (fileOf pool16 8 #[.nestMembers #[93, 98, 208, 210, 82, 77]] #[{ accessFlags := 4, nameIndex := 5, descriptorIndex := 6, attributes := #[] }] 1057 2 #[133] #[{ accessFlags := 132, nameIndex := 11, descriptorIndex := 12, attributes := #[] }])
  fields := #[{ name := "modCount", type := .int, accessFlags := 132, slot := 0, constantValue := 0 }]
  methods := #[k16m0]
  instanceTypes := #[.int]
  staticTypes := #[]
  resolved := Array.replicate 218 none
  statics := none }

def pool17 : Array CpInfo := pool [(1, .class_ 2), (0, u "java/util/RandomAccess"), (0, .class_ 4), (0, u "java/lang/Object")] 2

/-- java/util/RandomAccess -/
def k17 : Class := { plain "java/util/RandomAccess" (some 0) with
  accessFlags := 1537
  interfaces := #[]
  cf := some (fileOf pool17 1 #[] #[] 1537 3 #[] #[])
  fields := #[]
  methods := #[]
  instanceTypes := #[]
  staticTypes := #[]
  resolved := Array.replicate 7 none
  statics := none }

def pool18 : Array CpInfo := pool [(1, .class_ 2), (0, u "java/lang/Cloneable"), (0, .class_ 4), (0, u "java/lang/Object")] 2

/-- java/lang/Cloneable -/
def k18 : Class := { plain "java/lang/Cloneable" (some 0) with
  accessFlags := 1537
  interfaces := #[]
  cf := some (fileOf pool18 1 #[] #[] 1537 3 #[] #[])
  fields := #[]
  methods := #[]
  instanceTypes := #[]
  staticTypes := #[]
  resolved := Array.replicate 7 none
  statics := none }

def pool19 : Array CpInfo := pool [(1, .methodref 2 3), (0, .class_ 4), (0, .nameAndType 5 6), (0, u "java/util/AbstractList"), (0, u "<init>"), (0, u "()V"), (2, .fieldref 10 11), (0, .class_ 12), (0, .nameAndType 13 14), (0, u "java/util/ArrayList"), (0, u "elementData"), (0, u "[Ljava/lang/Object;"), (2, u "EMPTY_ELEMENTDATA"), (21, .fieldref 10 40), (0, .nameAndType 41 14), (0, u "DEFAULTCAPACITY_EMPTY_ELEMENTDATA"), (8, u "size"), (0, u "I"), (96, .class_ 149), (0, u "java/util/List"), (112, .class_ 263), (0, u "java/util/ArrayList$ListItr"), (3, .class_ 268), (0, u "java/util/ArrayList$Itr"), (7, .class_ 277), (0, u "java/util/ArrayList$SubList"), (12, .class_ 291), (0, u "java/util/ArrayList$ArrayListSpliterator"), (37, .class_ 330), (0, u "java/util/RandomAccess"), (0, .class_ 332), (0, u "java/lang/Cloneable"), (0, .class_ 334), (0, u "java/io/Serializable"), (0, u "serialVersionUID"), (0, u "J"), (3, u "DEFAULT_CAPACITY"), (159, .class_ 501), (0, u "java/util/ArrayList$SubList$2"), (0, .class_ 503), (0, u "java/util/ArrayList$SubList$1")] 5

def k19c0 : Code := { maxStack := 2, maxLocals := 1, code := jdk_38_method_2_code, exceptionTable := #[], attributes := #[] }
def k19m0 : Method := { name := "<init>", desc := "()V", sig := { parameters := [], returnType := none }, accessFlags := 1, code := some k19c0 }
/-- java/util/ArrayList -/
def k19 : Class := { plain "java/util/ArrayList" (some 16) with
  accessFlags := 33
  interfaces := #[15, 17, 18, 4]
  cf := some (fileOf pool19 10 #[.nestMembers #[290, 276, 500, 502, 262, 267]] #[{ accessFlags := 1, nameIndex := 5, descriptorIndex := 6, attributes := #[] }] 33 2 #[148, 329, 331, 333] #[{ accessFlags := 26, nameIndex := 335, descriptorIndex := 336, attributes := #[] }, { accessFlags := 26, nameIndex := 340, descriptorIndex := 51, attributes := #[] }, { accessFlags := 26, nameIndex := 17, descriptorIndex := 14, attributes := #[] }, { accessFlags := 26, nameIndex := 41, descriptorIndex := 14, attributes := #[] }, { accessFlags := 128, nameIndex := 13, descriptorIndex := 14, attributes := #[] }, { accessFlags := 2, nameIndex := 50, descriptorIndex := 51, attributes := #[] }])
  fields := #[{ name := "serialVersionUID", type := .long, accessFlags := 26, slot := 0, constantValue := 0 }, { name := "DEFAULT_CAPACITY", type := .int, accessFlags := 26, slot := 1, constantValue := 0 }, { name := "EMPTY_ELEMENTDATA", type := (.array (.object "java/lang/Object")), accessFlags := 26, slot := 2, constantValue := 0 }, { name := "DEFAULTCAPACITY_EMPTY_ELEMENTDATA", type := (.array (.object "java/lang/Object")), accessFlags := 26, slot := 3, constantValue := 0 }, { name := "elementData", type := (.array (.object "java/lang/Object")), accessFlags := 128, slot := 1, constantValue := 0 }, { name := "size", type := .int, accessFlags := 2, slot := 2, constantValue := 0 }]
  methods := #[k19m0]
  instanceTypes := #[.int, (.array (.object "java/lang/Object")), .int]
  staticTypes := #[.long, .int, (.array (.object "java/lang/Object")), (.array (.object "java/lang/Object"))]
  resolved := Array.replicate 509 none
  statics := some 1 }

def pool20 : Array CpInfo := pool [(4, .class_ 6), (1, u "java/lang/Object"), (0, u "<init>"), (0, u "()V"), (5, .class_ 16), (1, u "java/lang/StringLatin1"), (104, u "$assertionsDisabled"), (0, u "Z"), (98, .class_ 223), (1, u "java/lang/StringLatin1$LinesSpliterator"), (166, .class_ 391), (0, u "java/lang/StringLatin1$CharsSpliterator")] 3

def k20m0 : Method := { name := "<init>", desc := "()V", sig := { parameters := [], returnType := none }, accessFlags := 0, code := none }
/-- java/lang/StringLatin1 -/
def k20 : Class := { plain "java/lang/StringLatin1" (some 0) with
  accessFlags := 48
  interfaces := #[]
  cf := some (fileOf pool20 14 #[.nestMembers #[390, 221]] #[{ accessFlags := 0, nameIndex := 7, descriptorIndex := 8, attributes := #[] }] 48 4 #[] #[{ accessFlags := 4120, nameIndex := 121, descriptorIndex := 122, attributes := #[] }])
  fields := #[{ name := "$assertionsDisabled", type := .boolean, accessFlags := 4120, slot := 0, constantValue := 0 }]
  methods := #[k20m0]
  instanceTypes := #[]
  staticTypes := #[.boolean]
  resolved := Array.replicate 395 none
  statics := none }

def pool21 : Array CpInfo := pool [(2, .class_ 4), (1, u "java/lang/Object"), (0, u "<init>"), (0, u "()V"), (17, .class_ 26), (1, u "jdk/internal/util/Preconditions"), (28, .class_ 56), (0, u "jdk/internal/util/Preconditions$4"), (57, .class_ 115), (0, u "jdk/internal/util/Preconditions$1"), (7, u "SIOOBE_FORMATTER"), (0, u "Ljava/util/function/BiFunction;"), (0, .class_ 126), (0, u "jdk/internal/util/Preconditions$2"), (3, u "AIOOBE_FORMATTER"), (0, .class_ 132), (0, u "jdk/internal/util/Preconditions$3"), (3, u "IOOBE_FORMATTER")] 57

def k21m0 : Method := { name := "<init>", desc := "()V", sig := { parameters := [], returnType := none }, accessFlags := 1, code := none }
/-- jdk/internal/util/Preconditions -/
def k21 : Class := { plain "jdk/internal/util/Preconditions" (some 0) with
  accessFlags := 33
  interfaces := #[]
  cf := some (fileOf pool21 24 #[.nestMembers #[55, 131, 125, 114]] #[{ accessFlags := 1, nameIndex := 5, descriptorIndex := 6, attributes := #[] }] 33 2 #[] #[{ accessFlags := 25, nameIndex := 123, descriptorIndex := 124, attributes := #[] }, { accessFlags := 25, nameIndex := 130, descriptorIndex := 124, attributes := #[] }, { accessFlags := 25, nameIndex := 136, descriptorIndex := 124, attributes := #[] }])
  fields := #[{ name := "SIOOBE_FORMATTER", type := (.object "java/util/function/BiFunction"), accessFlags := 25, slot := 0, constantValue := 0 }, { name := "AIOOBE_FORMATTER", type := (.object "java/util/function/BiFunction"), accessFlags := 25, slot := 1, constantValue := 0 }, { name := "IOOBE_FORMATTER", type := (.object "java/util/function/BiFunction"), accessFlags := 25, slot := 2, constantValue := 0 }]
  methods := #[k21m0]
  instanceTypes := #[]
  staticTypes := #[(.object "java/util/function/BiFunction"), (.object "java/util/function/BiFunction"), (.object "java/util/function/BiFunction")]
  resolved := Array.replicate 194 none
  statics := some 2 }

def pool22 : Array CpInfo := pool [(9, u "<init>"), (6, .class_ 18), (1, u "java/lang/Object"), (0, u "()V"), (1, .class_ 23), (1, u "jdk/internal/util/ArraysSupport"), (0, u "LOG2_ARRAY_LONG_INDEX_SCALE"), (0, u "I"), (2, u "U"), (0, u "Ljdk/internal/misc/Unsafe;"), (8, u "BIG_ENDIAN"), (0, u "Z"), (8, u "LOG2_BYTE_BIT_SIZE"), (4, u "LOG2_ARRAY_INT_INDEX_SCALE"), (54, u "JLA"), (0, u "Ljdk/internal/access/JavaLangAccess;"), (11, u "LOG2_ARRAY_BOOLEAN_INDEX_SCALE"), (9, u "LOG2_ARRAY_BYTE_INDEX_SCALE"), (5, u "LOG2_ARRAY_CHAR_INDEX_SCALE"), (5, u "LOG2_ARRAY_SHORT_INDEX_SCALE"), (18, u "LOG2_ARRAY_FLOAT_INDEX_SCALE"), (24, u "LOG2_ARRAY_DOUBLE_INDEX_SCALE"), (89, u "T_BOOLEAN"), (2, u "T_CHAR"), (1, u "T_FLOAT"), (1, u "T_DOUBLE"), (1, u "T_BYTE"), (1, u "T_SHORT"), (1, u "T_INT"), (1, u "T_LONG"), (1, u "SOFT_MAX_ARRAY_LENGTH")] 83

def k22m0 : Method := { name := "<init>", desc := "()V", sig := { parameters := [], returnType := none }, accessFlags := 2, code := none }
/-- jdk/internal/util/ArraysSupport -/
def k22 : Class := { plain "jdk/internal/util/ArraysSupport" (some 0) with
  accessFlags := 33
  interfaces := #[]
  cf := some (fileOf pool22 21 #[] #[{ accessFlags := 2, nameIndex := 9, descriptorIndex := 19, attributes := #[] }] 33 16 #[] #[{ accessFlags := 24, nameIndex := 28, descriptorIndex := 29, attributes := #[] }, { accessFlags := 26, nameIndex := 38, descriptorIndex := 39, attributes := #[] }, { accessFlags := 25, nameIndex := 121, descriptorIndex := 25, attributes := #[] }, { accessFlags := 25, nameIndex := 131, descriptorIndex := 25, attributes := #[] }, { accessFlags := 25, nameIndex := 137, descriptorIndex := 25, attributes := #[] }, { accessFlags := 25, nameIndex := 143, descriptorIndex := 25, attributes := #[] }, { accessFlags := 25, nameIndex := 53, descriptorIndex := 25, attributes := #[] }, { accessFlags := 25, nameIndex := 24, descriptorIndex := 25, attributes := #[] }, { accessFlags := 25, nameIndex := 162, descriptorIndex := 25, attributes := #[] }, { accessFlags := 25, nameIndex := 187, descriptorIndex := 25, attributes := #[] }, { accessFlags := 26, nameIndex := 48, descriptorIndex := 25, attributes := #[] }, { accessFlags := 25, nameIndex := 277, descriptorIndex := 25, attributes := #[] }, { accessFlags := 25, nameIndex := 280, descriptorIndex := 25, attributes := #[] }, { accessFlags := 25, nameIndex := 282, descriptorIndex := 25, attributes := #[] }, { accessFlags := 25, nameIndex := 284, descriptorIndex := 25, attributes := #[] }, { accessFlags := 25, nameIndex := 286, descriptorIndex := 25, attributes := #[] }, { accessFlags := 25, nameIndex := 288, descriptorIndex := 25, attributes := #[] }, { accessFlags := 25, nameIndex := 290, descriptorIndex := 25, attributes := #[] }, { accessFlags := 25, nameIndex := 292, descriptorIndex := 25, attributes := #[] }, { accessFlags := 26, nameIndex := 108, descriptorIndex := 109, attributes := #[] }, { accessFlags := 25, nameIndex := 294, descriptorIndex := 25, attributes := #[] }])
  fields := #[{ name := "U", type := (.object "jdk/internal/misc/Unsafe"), accessFlags := 24, slot := 0, constantValue := 0 }, { name := "BIG_ENDIAN", type := .boolean, accessFlags := 26, slot := 1, constantValue := 0 }, { name := "LOG2_ARRAY_BOOLEAN_INDEX_SCALE", type := .int, accessFlags := 25, slot := 2, constantValue := 0 }, { name := "LOG2_ARRAY_BYTE_INDEX_SCALE", type := .int, accessFlags := 25, slot := 3, constantValue := 0 }, { name := "LOG2_ARRAY_CHAR_INDEX_SCALE", type := .int, accessFlags := 25, slot := 4, constantValue := 0 }, { name := "LOG2_ARRAY_SHORT_INDEX_SCALE", type := .int, accessFlags := 25, slot := 5, constantValue := 0 }, { name := "LOG2_ARRAY_INT_INDEX_SCALE", type := .int, accessFlags := 25, slot := 6, constantValue := 0 }, { name := "LOG2_ARRAY_LONG_INDEX_SCALE", type := .int, accessFlags := 25, slot := 7, constantValue := 0 }, { name := "LOG2_ARRAY_FLOAT_INDEX_SCALE", type := .int, accessFlags := 25, slot := 8, constantValue := 0 }, { name := "LOG2_ARRAY_DOUBLE_INDEX_SCALE", type := .int, accessFlags := 25, slot := 9, constantValue := 0 }, { name := "LOG2_BYTE_BIT_SIZE", type := .int, accessFlags := 26, slot := 10, constantValue := 0 }, { name := "T_BOOLEAN", type := .int, accessFlags := 25, slot := 11, constantValue := 0 }, { name := "T_CHAR", type := .int, accessFlags := 25, slot := 12, constantValue := 0 }, { name := "T_FLOAT", type := .int, accessFlags := 25, slot := 13, constantValue := 0 }, { name := "T_DOUBLE", type := .int, accessFlags := 25, slot := 14, constantValue := 0 }, { name := "T_BYTE", type := .int, accessFlags := 25, slot := 15, constantValue := 0 }, { name := "T_SHORT", type := .int, accessFlags := 25, slot := 16, constantValue := 0 }, { name := "T_INT", type := .int, accessFlags := 25, slot := 17, constantValue := 0 }, { name := "T_LONG", type := .int, accessFlags := 25, slot := 18, constantValue := 0 }, { name := "JLA", type := (.object "jdk/internal/access/JavaLangAccess"), accessFlags := 26, slot := 19, constantValue := 0 }, { name := "SOFT_MAX_ARRAY_LENGTH", type := .int, accessFlags := 25, slot := 20, constantValue := 0 }]
  methods := #[k22m0]
  instanceTypes := #[]
  staticTypes := #[(.object "jdk/internal/misc/Unsafe"), .boolean, .int, .int, .int, .int, .int, .int, .int, .int, .int, .int, .int, .int, .int, .int, .int, .int, .int, (.object "jdk/internal/access/JavaLangAccess"), .int]
  resolved := Array.replicate 378 none
  statics := none }

/-- the primitive byte -/
def k23 : Class := { plain "byte" none with kind := .primitive 'B', accessFlags := 0x411 }
/-- [B -/
def k24 : Class := { plain "[B" (some 0) with kind := .array 23 .byte, interfaces := #[18, 4], accessFlags := 1041 }

/-- the primitive char -/
def k25 : Class := { plain "char" none with kind := .primitive 'C', accessFlags := 0x411 }
/-- [C -/
def k26 : Class := { plain "[C" (some 0) with kind := .array 25 .char, interfaces := #[18, 4], accessFlags := 1041 }

/-- the primitive int -/
def k27 : Class := { plain "int" none with kind := .primitive 'I', accessFlags := 0x411 }
/-- [I -/
def k28 : Class := { plain "[I" (some 0) with kind := .array 27 .int, interfaces := #[18, 4], accessFlags := 1041 }

/-- [Ljava/lang/Object; -/
def k29 : Class := { plain "[Ljava/lang/Object;" (some 0) with kind := .array 0 (.object "java/lang/Object"), interfaces := #[18, 4], accessFlags := 1041 }

def heap : Heap := #[{ cls := 9, slots := #[.long 0, .int 1, .null, .int 0, .null, .int 0, .int 0], vm := .statics 9 },
  { cls := 19, slots := #[.long 0, .int 0, .ref 3, .ref 4], vm := .statics 19 },
  { cls := 21, slots := #[.null, .null, .null], vm := .statics 21 },
  { cls := 29, slots := #[], vm := .none },
  { cls := 29, slots := #[], vm := .none }]
def classes : Array Class := #[k0, k1, k2, k3, k4, k5, k6, k7, k8, k9, k10, k11, k12, k13, k14, k15, k16, k17, k18, k19, k20, k21, k22, k23, k24, k25, k26, k27, k28, k29]
def interned : List (Array UInt16 × Addr) := []
def slotsUsed : Nat := 14
def theMethod : MethodId := ⟨1, 1⟩
def args0 : Array Value := #[.int 5, .int 6, .int 7, .int 8]
def aboutOver (below : List Frame) : State where
  vm := { classes := classes, interned := interned.toArray }
  heap := heap
  slotsUsed := slotsUsed
  threads := #[{ frames := .invoking theMethod args0 :: below }]
def below0 : List Frame := [.native { method := ⟨0, 0⟩, args := #[] }]
def about1 : State := aboutOver below0
def p0 : Program := .bare "" "" ""
def e0 : Env := launch0.env 0 0 0
theorem w_frames : about1.frames = Frame.invoking theMethod args0 :: below0 := rfl
set_option maxRecDepth 65536 in
theorem w_args : argsFit about1.vm theMethod args0 = true := by decide +kernel
set_option maxRecDepth 65536 in
theorem w_heap : heapFits about1 = true := by decide +kernel
set_option maxRecDepth 65536 in
theorem w_runnable : about1.curStatus? = some .runnable := by decide +kernel
set_option maxRecDepth 65536 in
theorem w_alone : about1.alone = true := by decide +kernel
set_option maxRecDepth 65536 in
theorem w_named : about1.methodNamed? x = some theMethod := by decide +kernel
set_option maxRecDepth 65536 in
theorem w_hears : about1.hears theMethod below0 = true := by decide +kernel
set_option maxRecDepth 65536 in
theorem w_ripe : about1.ripe theMethod args0 below0 = true := by decide +kernel
theorem w_running : about1.status = .running := rfl
set_option maxRecDepth 65536 in
theorem w_room : about1.hasRoom e0.platform room_1 = true :=
  launch0.hasRoom_least _ room_1 (by decide +kernel) (by decide +kernel) (by decide +kernel) (by decide +kernel) (by decide +kernel) (by decide +kernel)
theorem allAtoms_all (ts : List Jvm.Cond) (a : Array Jvm.Value) (st : Jvm.State) : (allAtoms ts).before a st = ts.all (fun c => c.before a st) := by
  induction ts with
  | nil => rfl
  | cons c t ih =>
    show (Jvm.Cond.and c (allAtoms t)).before a st = _
    rw [Jvm.Cond.before_and, ih, List.all_cons]
def words1 : List Jvm.Cond := Jvm.Cond.code x code maxLocals ret :: tables_1
/-- a 'code' word, met by the world's own term for the bytes: nothing is compared byte by byte -/
theorem code_word {y : MethodName} {bytes : ByteArray} {mx : Nat} {rt : Option FieldType} {a : Array Value} {s : State} {m : MethodId} {meth : Method} {c : Code} (h1 : s.methodNamed? y = some m) (h2 : s.vm.method? m = some meth) (h3 : meth.code = some c) (h4 : c.code = bytes)
    (h5 : (c.maxLocals == mx && c.exceptionTable.isEmpty && decide (c.maxStack ≤ mostOperands) && decide (meth.sig.returnType = rt) && !meth.locks && decide (parseMethodDescriptor y.desc = some meth.sig)) = true) : (Jvm.Cond.code y bytes mx rt).before a s = true := by
  simp only [Bool.and_eq_true, beq_iff_eq, Bool.not_eq_true', decide_eq_true_eq] at h5
  obtain ⟨⟨⟨⟨⟨g1, g2⟩, g3⟩, g4⟩, g5⟩, g6⟩ := h5
  simp [Cond.before, Cond.holds, Cond.value, h1, h2, h3, h4, g1, g2, g3, g4, g5, g6]
def isCode : Jvm.Cond → Bool
  | .code _ _ _ _ => true
  | _ => false
theorem all_split {L : List Jvm.Cond} {P : Jvm.Cond → Bool} (h1 : L.all (fun c => isCode c || P c) = true) (h2 : ∀ c ∈ L.filter isCode, P c = true) : L.all P = true := by
  refine List.all_eq_true.mpr fun c hc => ?_
  have h := List.all_eq_true.mp h1 c hc
  rcases Bool.eq_false_or_eq_true (isCode c) with hi | hi
  · exact h2 c (List.mem_filter.mpr ⟨hc, hi⟩)
  · simpa [hi] using h
set_option maxRecDepth 65536 in
theorem w_c0 : (Jvm.Cond.code x code maxLocals ret).before args0 about1 = true := code_word (m := ⟨1, 1⟩) (meth := k1m1) (c := k1c1) (by decide +kernel) rfl rfl rfl (by decide +kernel)
set_option maxRecDepth 65536 in
theorem w_c1 : (Jvm.Cond.code ({ cls := "com/example/siegelwerk/siegelwerk/DataObject", name := "<init>", desc := "(Ljava/util/List;[BLjava/lang/String;Ljava/lang/String;)V" } : Jvm.MethodName) prog_13_method_1_code (5 : Nat) (Option.none : Option Jvm.ClassFile.FieldType)).before args0 about1 = true := code_word (m := ⟨3, 0⟩) (meth := k3m0) (c := k3c0) (by decide +kernel) rfl rfl rfl (by decide +kernel)
set_option maxRecDepth 65536 in
theorem w_c2 : (Jvm.Cond.code ({ cls := "java/lang/Record", name := "<init>", desc := "()V" } : Jvm.MethodName) jdk_30_method_1_code (1 : Nat) (Option.none : Option Jvm.ClassFile.FieldType)).before args0 about1 = true := code_word (m := ⟨2, 0⟩) (meth := k2m0) (c := k2c0) (by decide +kernel) rfl rfl rfl (by decide +kernel)
set_option maxRecDepth 65536 in
theorem w_c3 : (Jvm.Cond.code ({ cls := "java/lang/Object", name := "<init>", desc := "()V" } : Jvm.MethodName) object_method_1_code (1 : Nat) (Option.none : Option Jvm.ClassFile.FieldType)).before args0 about1 = true := code_word (m := ⟨0, 0⟩) (meth := k0m0) (c := k0c0) (by decide +kernel) rfl rfl rfl (by decide +kernel)
set_option maxRecDepth 65536 in
theorem w_c4 : (Jvm.Cond.code ({ cls := "com/example/siegelwerk/siegelwerk/DataObject", name := "isXml", desc := "()Z" } : Jvm.MethodName) prog_13_method_5_code (1 : Nat) (Option.some Jvm.ClassFile.FieldType.boolean)).before args0 about1 = true := code_word (m := ⟨3, 1⟩) (meth := k3m1) (c := k3c1) (by decide +kernel) rfl rfl rfl (by decide +kernel)
set_option maxRecDepth 65536 in
theorem w_c5 : (Jvm.Cond.code ({ cls := "java/lang/String", name := "<init>", desc := "([C)V" } : Jvm.MethodName) jdk_42_method_3_code (2 : Nat) (Option.none : Option Jvm.ClassFile.FieldType)).before args0 about1 = true := code_word (m := ⟨9, 1⟩) (meth := k9m1) (c := k9c1) (by decide +kernel) rfl rfl rfl (by decide +kernel)
set_option maxRecDepth 65536 in
theorem w_c6 : (Jvm.Cond.code ({ cls := "java/lang/String", name := "<init>", desc := "([CIILjava/lang/Void;)V" } : Jvm.MethodName) jdk_42_method_149_code (6 : Nat) (Option.none : Option Jvm.ClassFile.FieldType)).before args0 about1 = true := code_word (m := ⟨9, 2⟩) (meth := k9m2) (c := k9c2) (by decide +kernel) rfl rfl rfl (by decide +kernel)
set_option maxRecDepth 65536 in
theorem w_c7 : (Jvm.Cond.code ({ cls := "java/lang/StringUTF16", name := "compress", desc := "([CII)[B" } : Jvm.MethodName) jdk_52_method_16_code (6 : Nat) (Option.some (Jvm.ClassFile.FieldType.array Jvm.ClassFile.FieldType.byte))).before args0 about1 = true := code_word (m := ⟨10, 2⟩) (meth := k10m2) (c := k10c2) (by decide +kernel) rfl rfl rfl (by decide +kernel)
set_option maxRecDepth 65536 in
theorem w_c8 : (Jvm.Cond.code ({ cls := "java/lang/StringUTF16", name := "compress", desc := "([CI[BII)I" } : Jvm.MethodName) jdk_52_method_21_code (7 : Nat) (Option.some Jvm.ClassFile.FieldType.int)).before args0 about1 = true := code_word (m := ⟨10, 3⟩) (meth := k10m3) (c := k10c3) (by decide +kernel) rfl rfl rfl (by decide +kernel)
set_option maxRecDepth 65536 in
theorem w_c9 : (Jvm.Cond.code ({ cls := "java/lang/StringUTF16", name := "coderFromArrayLen", desc := "([BI)B" } : Jvm.MethodName) jdk_52_method_15_code (2 : Nat) (Option.some Jvm.ClassFile.FieldType.byte)).before args0 about1 = true := code_word (m := ⟨10, 1⟩) (meth := k10m1) (c := k10c1) (by decide +kernel) rfl rfl rfl (by decide +kernel)
set_option maxRecDepth 65536 in
theorem w_c10 : (Jvm.Cond.code ({ cls := "java/util/ArrayList", name := "<init>", desc := "()V" } : Jvm.MethodName) jdk_38_method_2_code (1 : Nat) (Option.none : Option Jvm.ClassFile.FieldType)).before args0 about1 = true := code_word (m := ⟨19, 0⟩) (meth := k19m0) (c := k19c0) (by decide +kernel) rfl rfl rfl (by decide +kernel)
set_option maxRecDepth 65536 in
theorem w_c11 : (Jvm.Cond.code ({ cls := "java/util/AbstractList", name := "<init>", desc := "()V" } : Jvm.MethodName) jdk_39_method_1_code (1 : Nat) (Option.none : Option Jvm.ClassFile.FieldType)).before args0 about1 = true := code_word (m := ⟨16, 0⟩) (meth := k16m0) (c := k16c0) (by decide +kernel) rfl rfl rfl (by decide +kernel)
set_option maxRecDepth 65536 in
theorem w_c12 : (Jvm.Cond.code ({ cls := "java/util/AbstractCollection", name := "<init>", desc := "()V" } : Jvm.MethodName) jdk_22_method_1_code (1 : Nat) (Option.none : Option Jvm.ClassFile.FieldType)).before args0 about1 = true := code_word (m := ⟨13, 0⟩) (meth := k13m0) (c := k13c0) (by decide +kernel) rfl rfl rfl (by decide +kernel)
def codes1 : List Jvm.Cond := [Jvm.Cond.code x code maxLocals ret, Jvm.Cond.code ({ cls := "com/example/siegelwerk/siegelwerk/DataObject", name := "<init>", desc := "(Ljava/util/List;[BLjava/lang/String;Ljava/lang/String;)V" } : Jvm.MethodName) prog_13_method_1_code (5 : Nat) (Option.none : Option Jvm.ClassFile.FieldType), Jvm.Cond.code ({ cls := "java/lang/Record", name := "<init>", desc := "()V" } : Jvm.MethodName) jdk_30_method_1_code (1 : Nat) (Option.none : Option Jvm.ClassFile.FieldType), Jvm.Cond.code ({ cls := "java/lang/Object", name := "<init>", desc := "()V" } : Jvm.MethodName) object_method_1_code (1 : Nat) (Option.none : Option Jvm.ClassFile.FieldType), Jvm.Cond.code ({ cls := "com/example/siegelwerk/siegelwerk/DataObject", name := "isXml", desc := "()Z" } : Jvm.MethodName) prog_13_method_5_code (1 : Nat) (Option.some Jvm.ClassFile.FieldType.boolean), Jvm.Cond.code ({ cls := "java/lang/String", name := "<init>", desc := "([C)V" } : Jvm.MethodName) jdk_42_method_3_code (2 : Nat) (Option.none : Option Jvm.ClassFile.FieldType), Jvm.Cond.code ({ cls := "java/lang/String", name := "<init>", desc := "([CIILjava/lang/Void;)V" } : Jvm.MethodName) jdk_42_method_149_code (6 : Nat) (Option.none : Option Jvm.ClassFile.FieldType), Jvm.Cond.code ({ cls := "java/lang/StringUTF16", name := "compress", desc := "([CII)[B" } : Jvm.MethodName) jdk_52_method_16_code (6 : Nat) (Option.some (Jvm.ClassFile.FieldType.array Jvm.ClassFile.FieldType.byte)), Jvm.Cond.code ({ cls := "java/lang/StringUTF16", name := "compress", desc := "([CI[BII)I" } : Jvm.MethodName) jdk_52_method_21_code (7 : Nat) (Option.some Jvm.ClassFile.FieldType.int), Jvm.Cond.code ({ cls := "java/lang/StringUTF16", name := "coderFromArrayLen", desc := "([BI)B" } : Jvm.MethodName) jdk_52_method_15_code (2 : Nat) (Option.some Jvm.ClassFile.FieldType.byte), Jvm.Cond.code ({ cls := "java/util/ArrayList", name := "<init>", desc := "()V" } : Jvm.MethodName) jdk_38_method_2_code (1 : Nat) (Option.none : Option Jvm.ClassFile.FieldType), Jvm.Cond.code ({ cls := "java/util/AbstractList", name := "<init>", desc := "()V" } : Jvm.MethodName) jdk_39_method_1_code (1 : Nat) (Option.none : Option Jvm.ClassFile.FieldType), Jvm.Cond.code ({ cls := "java/util/AbstractCollection", name := "<init>", desc := "()V" } : Jvm.MethodName) jdk_22_method_1_code (1 : Nat) (Option.none : Option Jvm.ClassFile.FieldType)]
set_option maxRecDepth 65536 in
theorem codes_eq : words1.filter isCode = codes1 := rfl
theorem w_codes : ∀ c ∈ words1.filter isCode, c.before args0 about1 = true := by
  rw [codes_eq]
  intro c hc
  simp only [codes1, List.mem_cons, List.not_mem_nil, or_false] at hc
  rcases hc with rfl | rfl | rfl | rfl | rfl | rfl | rfl | rfl | rfl | rfl | rfl | rfl | rfl
  · exact w_c0
  · exact w_c1
  · exact w_c2
  · exact w_c3
  · exact w_c4
  · exact w_c5
  · exact w_c6
  · exact w_c7
  · exact w_c8
  · exact w_c9
  · exact w_c10
  · exact w_c11
  · exact w_c12
set_option maxRecDepth 65536 in
theorem w_t1 : (words1.take 24).all (fun c => isCode c || c.before args0 about1) = true := by decide +kernel
set_option maxRecDepth 65536 in
theorem w_t2 : ((words1.drop 24).take 24).all (fun c => isCode c || c.before args0 about1) = true := by decide +kernel
set_option maxRecDepth 65536 in
theorem w_t3 : (((words1.drop 24).drop 24).take 24).all (fun c => isCode c || c.before args0 about1) = true := by decide +kernel
set_option maxRecDepth 65536 in
theorem w_t4 : (((words1.drop 24).drop 24).drop 24).all (fun c => isCode c || c.before args0 about1) = true := by decide +kernel
theorem w_tables : (allAtoms (Jvm.Cond.code x code maxLocals ret :: tables_1)).before args0 about1 = true := by
  rw [allAtoms_all]
  show words1.all (fun c => c.before args0 about1) = true
  refine all_split ?_ w_codes
  rw [← List.take_append_drop 24 words1, List.all_append, w_t1, ← List.take_append_drop 24 (words1.drop 24), List.all_append, w_t2, ← List.take_append_drop 24 ((words1.drop 24).drop 24), List.all_append, w_t3, w_t4]
  rfl
set_option maxRecDepth 65536 in
theorem w_rest : rest_1_c.before args0 about1 = true := by decide +kernel
set_option maxRecDepth 65536 in
theorem w_case : (Jvm.Cond.and given_1 narrow_1).before args0 about1 = true := by decide +kernel
theorem w_applies : (headSpec (Jvm.Cond.code x code maxLocals ret :: tables_1) room_1).applies x e0.platform about1 = true :=
  (Spec.applies_iff w_frames).mpr ⟨w_running, w_runnable, w_alone, w_named, w_hears, w_ripe, w_room, w_tables⟩
theorem atStart : AtStart classFile x code maxLocals ret World_1 tables_1 room_1 Calls_1 rest_1 Pre_1 launch0 p0 e0 about1 theMethod args0 below0 :=
  ⟨lists_1, trivial, launch0.admits_env _ _ _, launch0.least_env, fairChoices_fair.cas, fairChoices_fair.clock, w_frames, w_args, w_heap, w_applies, trivial, w_rest, w_case⟩
end start1
theorem witness_1 : WitnessClaimed_1 := ⟨start1.p0, start1.e0, start1.about1, start1.theMethod, start1.args0, start1.below0, start1.atStart⟩
end Jvm.Pilot.@@N@@
