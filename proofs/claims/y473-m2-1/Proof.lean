import JvmDerived
import JvmDerived.Pilot.@@N@@Statement
import JvmDerived.Pilot.@@N@@Code
set_option linter.unusedVariables false
set_option linter.unusedSimpArgs false
@@BLOCK:NumsL.lean.txt@@
namespace Jvm.Own
open Jvm Jvm.ClassFile Sem Op Lib Jvm.Free Jvm.Stand Jvm.LawKit Jvm.RoadKit
/-! THE WALKER's LAYER: 'B.G h cl sl g': from every place where the walk stands over the heap h with the frame g (cl cells, sl slots made), the method returns as its contract says. One law a step, backwards. -/
/-- written places lie in cells of ws or in new cells -/
def Frw (ws : List Addr) (k : Nat) (L : List Loc) : Prop := ∀ y ∈ L, y.base ∈ ws ∨ k ≤ y.base
/-- what a contract says at the end -/
def Qw (C : Option Value → Heap → Prop) (ws : List Addr) (h0 : Heap) (v : Option Value) (h : Heap) (L : List Loc) : Prop := C v h ∧ Frw ws h0.size L ∧ Keep h0 h ws
/-- a contract: called with the arguments as over the heap h0, it returns, as C says, writing in ws or in new cells alone -/
def Met (l : Launch) (Z : State) (y : MethodName) (bytes : ByteArray) (maxL : Nat) (ret : Option FieldType) (wds : List Jvm.Cond) (rm : Room) (as : Array Value) (h0 : Heap) (ws : List Addr) (C : Option Value → Heap → Prop) : Prop :=
  MetFree l y (head1 (Jvm.Cond.code y bytes maxL ret :: wds) rm) (fun a U => a = as ∧ Z.Warmed39 U.vm ∧ U.heap = h0) (fun _ _ _ _ _ => True) (fun _ U o U' => ∃ v L, o = .returned v ∧ Qw C ws h0 v U'.heap L ∧ FrameEnd U o U' L rm.cells rm.slots)
/-- what stands still through a body's walk -/
def Base (p : Program) (l : Launch) (e : Env) (R : Room) (s : State) (m : MethodId) (args : Array Value) (below : List Frame) (meth : Method) (c : Code) (Z : State) (y : MethodName) (bytes : ByteArray) (maxL : Nat) (ret : Option FieldType) (h0 : Heap) (ws : List Addr) (C : Option Value → Heap → Prop) : Prop :=
  p.tables.exec = Jvm.exec ∧ c.code = bytes ∧ c.maxLocals = maxL ∧ Z.Warmed39 s.vm ∧ s.vm.findClass y.cls = some m.cls ∧ meth.sig.returnType = ret ∧ meth.locks = false ∧ meth.name = y.name ∧ s.heap = h0
section Walk
variable {p : Program} {l : Launch} {e : Env} {R : Room} {s : State} {m : MethodId} {args : Array Value} {below : List Frame} {meth : Method} {c : Code} {Z : State} {a0 : Array Value} {y : MethodName} {bytes : ByteArray} {maxL : Nat} {ret : Option FieldType} {h0 : Heap} {ws : List Addr} {C : Option Value → Heap → Prop}
/-- from here the method returns as its contract says -/
def Base.G (B : Base p l e R s m args below meth c Z y bytes maxL ret h0 ws C) (h : Heap) (cl sl : Nat) (g : JFrame) : Prop :=
  ∀ (T : State) (locs : List Loc), Stand p l e R s m args below meth c T locs cl sl → Frw ws h0.size locs → T.heap = h → ∃ (t : State) (o : Outcome), Steps p.tables e below (T.setTop g) t ∧ t.status = .running ∧ Ended t below o ∧ ∃ v L, o = .returned v ∧ Qw C ws h0 v t.heap L ∧ FrameEnd s o t L R.cells R.slots
variable {h : Heap} {cl sl : Nat} {g g' : JFrame} {pc : Nat} {Ls : Array Slot} {st : List Value}
theorem Base.via (B : Base p l e R s m args below meth c Z y bytes maxL ret h0 ws C) (st : ∀ (T t : State), At T m c below → Steps p.tables e below (T.setTop g') t → Steps p.tables e below (T.setTop g) t) (k : B.G h cl sl g') : B.G h cl sl g := fun T locs X N eT => by
  obtain ⟨t, o, q, r⟩ := k T locs X N eT
  exact ⟨t, o, st T t X.here q, r⟩
theorem Base.viaX (B : Base p l e R s m args below meth c Z y bytes maxL ret h0 ws C) (st : ∀ (T t : State) (locs : List Loc), Stand p l e R s m args below meth c T locs cl sl → T.heap = h → Steps p.tables e below (T.setTop g') t → Steps p.tables e below (T.setTop g) t) (k : B.G h cl sl g') : B.G h cl sl g := fun T locs X N eT => by
  obtain ⟨t, o, q, r⟩ := k T locs X N eT
  exact ⟨t, o, st T t locs X eT q, r⟩
theorem Frw.nil (ws : List Addr) (k : Nat) : Frw ws k [] := fun _ q => nomatch q
theorem Frw.app {k : Nat} {L L' : List Loc} (N : Frw ws k L) (N' : Frw ws k L') : Frw ws k (L ++ L') := fun y q => (List.mem_append.mp q).elim (N y) (N' y)
theorem Frw.one {k : Nat} {L : List Loc} {a : Addr} {i : Nat} (N : Frw ws k L) (q : a ∈ ws ∨ k ≤ a) : Frw ws k (L ++ [⟨a, i⟩]) := N.app fun y hy => by cases List.mem_singleton.mp hy; exact q
theorem keep_of {T : State} {locs : List Loc} (X : Stand p l e R s m args below meth c T locs cl sl) (N : Frw ws s.heap.size locs) : Keep s.heap T.heap ws := by
  obtain ⟨-, h1, -, -, -, h2⟩ := X.same
  refine ⟨h1, fun x cc hc hn => ?_, fun x cc hc => ?_⟩
  · obtain ⟨c', e1, e2, e3, e4⟩ := h2 x cc hc
    have hlt := (Array.getElem?_eq_some_iff.mp hc).1
    have q : c'.slots = cc.slots := Array.ext_getElem? fun i => e4 i fun hm => by
      rcases N _ hm with z | z
      · exact hn z
      · exact absurd hlt (Nat.not_lt.mpr z)
    have e1' : T.heap[x]? = some c' := e1
    rw [e1', e2, q]
  · obtain ⟨c', e1, e2, e3, -⟩ := h2 x cc hc
    exact ⟨c', e1, by rw [e2], by rw [e2], e3⟩
theorem Met.walk (hpn : plainFor y = true) {as : Array Value} {rm : Room} {wds : List Jvm.Cond} (hef : ∀ m, entryFrame m as maxL = mkF m 0 Ls [])
    (body : ∀ (p : Program) (e : Env) (s : State) (m : MethodId) (below : List Frame) (meth : Method) (c : Code) (B : Base p l e rm s m as below meth c Z y bytes maxL ret h0 ws C), B.G h0 0 0 (mkF m 0 Ls [])) : Met l Z y bytes maxL ret wds rm as h0 ws C := by
  refine MetFree.of_bodySF hpn hisR ?_
  intro p e s m args below meth c s₁ Bd hml0 hP hK
  obtain ⟨rfl, hZ, hh⟩ := hP
  have X0 : Stand p l e rm s m args below meth c s₁ [] 0 0 := Stand.of_body Bd
  have e0 : s₁.heap = h0 := by rw [← hh, Bd.state]; rfl
  obtain ⟨t, o, q, r⟩ := body p e s m below meth c ⟨Bd.exec, Bd.bytes, hml0, hZ, findClass_of_methodNamed Bd.named, Bd.returns, Bd.notSynchronized, (name_of_methodNamed Bd.named Bd.method).1, hh⟩ s₁ [] X0 (Frw.nil _ _) e0
  exact ⟨t, o, castTop (hef m) q, r⟩
theorem Met.mono {as : Array Value} {rm : Room} {wds : List Jvm.Cond} {C' : Option Value → Heap → Prop} (M : Met l Z y bytes maxL ret wds rm as h0 ws C) (q : ∀ v h, C v h → C' v h) : Met l Z y bytes maxL ret wds rm as h0 ws C' := by
  intro p e ha hc hk s m args below hf happ hP hK
  obtain ⟨n, o, q1, q2, q3, v, L, q4, ⟨r1, r2⟩, q5⟩ := M p e ha hc hk s m args below hf happ hP hK
  exact ⟨n, o, q1, q2, q3, v, L, q4, ⟨q _ _ r1, r2⟩, q5⟩
/-! 1. steps that touch no heap -/
theorem Base.aloadN (B : Base p l e R s m args below meth c Z y bytes maxL ret h0 ws C) (pc' : Nat) (hp : pc' = pc + 1) {i : Fin 4} (hd : decode bytes pc = .ok (.aload_n i, 1)) {v : Value} (hl : Ls[i.val]? = some (.val v)) (hv : v.isRef = true) (k : B.G h cl sl (mkF m pc' Ls (v :: st))) : B.G h cl sl (mkF m pc Ls st) := by
  subst hp; exact B.via (fun T t X r => XS.aloadN X B.1 rfl (hb B.2.1 hd) hl hv r) k
theorem Base.aload (B : Base p l e R s m args below meth c Z y bytes maxL ret h0 ws C) (pc' : Nat) (hp : pc' = pc + 2) {i : Nat} (hd : decode bytes pc = .ok (.aload i, 2)) {v : Value} (hl : Ls[i]? = some (.val v)) (hv : v.isRef = true) (k : B.G h cl sl (mkF m pc' Ls (v :: st))) : B.G h cl sl (mkF m pc Ls st) := by
  subst hp; exact B.via (fun T t X r => XS.aload X B.1 rfl (hb B.2.1 hd) hl hv r) k
theorem Base.iloadN (B : Base p l e R s m args below meth c Z y bytes maxL ret h0 ws C) (pc' : Nat) (hp : pc' = pc + 1) {i : Fin 4} (hd : decode bytes pc = .ok (.iload_n i, 1)) {v : Int32} (hl : Ls[i.val]? = some (.val (.int v))) (k : B.G h cl sl (mkF m pc' Ls (.int v :: st))) : B.G h cl sl (mkF m pc Ls st) := by
  subst hp; exact B.via (fun T t X r => XS.iloadN X B.1 rfl (hb B.2.1 hd) hl r) k
theorem Base.iload (B : Base p l e R s m args below meth c Z y bytes maxL ret h0 ws C) (pc' : Nat) (hp : pc' = pc + 2) {i : Nat} (hd : decode bytes pc = .ok (.iload i, 2)) {v : Int32} (hl : Ls[i]? = some (.val (.int v))) (k : B.G h cl sl (mkF m pc' Ls (.int v :: st))) : B.G h cl sl (mkF m pc Ls st) := by
  subst hp; exact B.via (fun T t X r => XS.iload X B.1 rfl (hb B.2.1 hd) hl r) k
theorem Base.lloadN (B : Base p l e R s m args below meth c Z y bytes maxL ret h0 ws C) (pc' : Nat) (hp : pc' = pc + 1) {i : Fin 4} (hd : decode bytes pc = .ok (.lload_n i, 1)) {v : Int64} (hl : Ls[i.val]? = some (.val (.long v))) (k : B.G h cl sl (mkF m pc' Ls (.long v :: st))) : B.G h cl sl (mkF m pc Ls st) := by
  subst hp; exact B.via (fun T t X r => XT.lloadN X B.1 rfl (hb B.2.1 hd) hl r) k
theorem Base.lload (B : Base p l e R s m args below meth c Z y bytes maxL ret h0 ws C) (pc' : Nat) (hp : pc' = pc + 2) {i : Nat} (hd : decode bytes pc = .ok (.lload i, 2)) {v : Int64} (hl : Ls[i]? = some (.val (.long v))) (k : B.G h cl sl (mkF m pc' Ls (.long v :: st))) : B.G h cl sl (mkF m pc Ls st) := by
  subst hp; exact B.via (fun T t X r => XT.lload X B.1 rfl (hb B.2.1 hd) hl r) k
theorem Base.istoreN (B : Base p l e R s m args below meth c Z y bytes maxL ret h0 ws C) (pc' : Nat) (hp : pc' = pc + 1) {i : Fin 4} {x : Int32} (hd : decode bytes pc = .ok (.istore_n i, 1)) (Ls' : Array Slot) (hl : storeLocals Ls i.val (.int x) = some Ls') (k : B.G h cl sl (mkF m pc' Ls' st)) : B.G h cl sl (mkF m pc Ls (.int x :: st)) := by
  subst hp; exact B.via (fun T t X r => XS.istoreN X B.1 rfl (hb B.2.1 hd) rfl hl r) k
theorem Base.istore (B : Base p l e R s m args below meth c Z y bytes maxL ret h0 ws C) (pc' : Nat) (hp : pc' = pc + 2) {i : Nat} {x : Int32} (hd : decode bytes pc = .ok (.istore i, 2)) (Ls' : Array Slot) (hl : storeLocals Ls i (.int x) = some Ls') (k : B.G h cl sl (mkF m pc' Ls' st)) : B.G h cl sl (mkF m pc Ls (.int x :: st)) := by
  subst hp; exact B.via (fun T t X r => XS.istore X B.1 rfl (hb B.2.1 hd) rfl hl r) k
theorem Base.lstoreN (B : Base p l e R s m args below meth c Z y bytes maxL ret h0 ws C) (pc' : Nat) (hp : pc' = pc + 1) {i : Fin 4} {x : Int64} (hd : decode bytes pc = .ok (.lstore_n i, 1)) (Ls' : Array Slot) (hl : storeLocals Ls i.val (.long x) = some Ls') (k : B.G h cl sl (mkF m pc' Ls' st)) : B.G h cl sl (mkF m pc Ls (.long x :: st)) := by
  subst hp; exact B.via (fun T t X r => XT.lstoreN X B.1 rfl (hb B.2.1 hd) rfl hl r) k
theorem Base.lstore (B : Base p l e R s m args below meth c Z y bytes maxL ret h0 ws C) (pc' : Nat) (hp : pc' = pc + 2) {i : Nat} {x : Int64} (hd : decode bytes pc = .ok (.lstore i, 2)) (Ls' : Array Slot) (hl : storeLocals Ls i (.long x) = some Ls') (k : B.G h cl sl (mkF m pc' Ls' st)) : B.G h cl sl (mkF m pc Ls (.long x :: st)) := by
  subst hp; exact B.via (fun T t X r => XT.lstore X B.1 rfl (hb B.2.1 hd) rfl hl r) k
theorem Base.astoreN (B : Base p l e R s m args below meth c Z y bytes maxL ret h0 ws C) (pc' : Nat) (hp : pc' = pc + 1) {i : Fin 4} {x : Value} (hd : decode bytes pc = .ok (.astore_n i, 1)) (hv : x.isRef = true) (Ls' : Array Slot) (hl : storeLocals Ls i.val x = some Ls') (k : B.G h cl sl (mkF m pc' Ls' st)) : B.G h cl sl (mkF m pc Ls (x :: st)) := by
  subst hp; exact B.via (fun T t X r => XS.astoreN X B.1 rfl (hb B.2.1 hd) rfl hv hl r) k
theorem Base.astore (B : Base p l e R s m args below meth c Z y bytes maxL ret h0 ws C) (pc' : Nat) (hp : pc' = pc + 2) {i : Nat} {x : Value} (hd : decode bytes pc = .ok (.astore i, 2)) (hv : x.isRef = true) (Ls' : Array Slot) (hl : storeLocals Ls i x = some Ls') (k : B.G h cl sl (mkF m pc' Ls' st)) : B.G h cl sl (mkF m pc Ls (x :: st)) := by
  subst hp; exact B.via (fun T t X r => XS.astore X B.1 rfl (hb B.2.1 hd) rfl hv hl r) k
theorem Base.iinc (B : Base p l e R s m args below meth c Z y bytes maxL ret h0 ws C) (pc' : Nat) (hp : pc' = pc + 3) {i : Nat} {cst : Int} (v : Int32) {x : Int32} (hd : decode bytes pc = .ok (.iinc i cst, 3)) (hv : Int32.ofInt cst = v) (hl : Ls[i]? = some (.val (.int x))) (Ls' : Array Slot) (hl' : storeLocals Ls i (.int (x + v)) = some Ls') (k : B.G h cl sl (mkF m pc' Ls' st)) : B.G h cl sl (mkF m pc Ls st) := by
  subst hp hv; exact B.via (fun T t X r => XS.iinc X B.1 rfl (hb B.2.1 hd) hl hl' r) k
theorem Base.iconst (B : Base p l e R s m args below meth c Z y bytes maxL ret h0 ws C) (pc' : Nat) (hp : pc' = pc + 1) {i : Int} (v : Int32) (hd : decode bytes pc = .ok (.iconst i, 1)) (hv : Int32.ofInt i = v) (k : B.G h cl sl (mkF m pc' Ls (.int v :: st))) : B.G h cl sl (mkF m pc Ls st) := by
  subst hp hv; exact B.via (fun T t X r => XS.iconst X B.1 rfl (hb B.2.1 hd) r) k
theorem Base.bipush (B : Base p l e R s m args below meth c Z y bytes maxL ret h0 ws C) (pc' : Nat) (hp : pc' = pc + 2) {i : Int} (v : Int32) (hd : decode bytes pc = .ok (.bipush i, 2)) (hv : (Int8.ofInt i).toInt32 = v) (k : B.G h cl sl (mkF m pc' Ls (.int v :: st))) : B.G h cl sl (mkF m pc Ls st) := by
  subst hp hv; exact B.via (fun T t X r => XS.bipush X B.1 rfl (hb B.2.1 hd) r) k
theorem Base.sipush (B : Base p l e R s m args below meth c Z y bytes maxL ret h0 ws C) (pc' : Nat) (hp : pc' = pc + 3) {i : Int} (v : Int32) (hd : decode bytes pc = .ok (.sipush i, 3)) (hv : (Int16.ofInt i).toInt32 = v) (k : B.G h cl sl (mkF m pc' Ls (.int v :: st))) : B.G h cl sl (mkF m pc Ls st) := by
  subst hp hv; exact B.via (fun T t X r => XS.sipush X B.1 rfl (hb B.2.1 hd) r) k
theorem Base.lconst (B : Base p l e R s m args below meth c Z y bytes maxL ret h0 ws C) (pc' : Nat) (hp : pc' = pc + 1) {i : Fin 2} (v : Int64) (hd : decode bytes pc = .ok (.lconst i, 1)) (hv : Int64.ofNat i = v) (k : B.G h cl sl (mkF m pc' Ls (.long v :: st))) : B.G h cl sl (mkF m pc Ls st) := by
  subst hp hv; exact B.via (fun T t X r => XT.lconst X B.1 rfl (hb B.2.1 hd) r) k
theorem Base.aconstNull (B : Base p l e R s m args below meth c Z y bytes maxL ret h0 ws C) (pc' : Nat) (hp : pc' = pc + 1) (hd : decode bytes pc = .ok (.aconst_null, 1)) (k : B.G h cl sl (mkF m pc' Ls (.null :: st))) : B.G h cl sl (mkF m pc Ls st) := by
  subst hp; exact B.via (fun T t X r => XS.aconstNull X B.1 rfl (hb B.2.1 hd) r) k
theorem Base.ldcI (B : Base p l e R s m args below meth c Z y bytes maxL ret h0 ws C) (pc' : Nat) (hp : pc' = pc + 2) {i : Nat} {v : Int32} (hd : decode bytes pc = .ok (.ldc i, 2)) (w : (Cond.constant y.cls i v).before a0 Z = true) (k : B.G h cl sl (mkF m pc' Ls (.int v :: st))) : B.G h cl sl (mkF m pc Ls st) := by
  subst hp; exact B.viaX (fun T t L X _ r => X.ldcI B.1 B.2.2.2.2.1 (mv B.2.2.2.1 w) rfl (hb B.2.1 hd) r) k
theorem Base.ldcWI (B : Base p l e R s m args below meth c Z y bytes maxL ret h0 ws C) (pc' : Nat) (hp : pc' = pc + 3) {i : Nat} {v : Int32} (hd : decode bytes pc = .ok (.ldc_w i, 3)) (w : (Cond.constant y.cls i v).before a0 Z = true) (k : B.G h cl sl (mkF m pc' Ls (.int v :: st))) : B.G h cl sl (mkF m pc Ls st) := by
  subst hp; exact B.viaX (fun T t L X _ r => X.ldcWI B.1 B.2.2.2.2.1 (mv B.2.2.2.1 w) rfl (hb B.2.1 hd) r) k
theorem Base.ldc2J (B : Base p l e R s m args below meth c Z y bytes maxL ret h0 ws C) (pc' : Nat) (hp : pc' = pc + 3) {i : Nat} {v : Int64} (hd : decode bytes pc = .ok (.ldc2_w i, 3)) (w : (Cond.constantLong y.cls i v).before a0 Z = true) (k : B.G h cl sl (mkF m pc' Ls (.long v :: st))) : B.G h cl sl (mkF m pc Ls st) := by
  subst hp; exact B.viaX (fun T t L X _ r => X.ldc2J B.1 B.2.2.2.2.1 (mv B.2.2.2.1 w) rfl (hb B.2.1 hd) r) k
theorem Base.goto (B : Base p l e R s m args below meth c Z y bytes maxL ret h0 ws C) (pc' : Nat) {o : Int} (hp : ((pc : Int) + o).toNat = pc') (ho : 0 ≤ (pc : Int) + o) (hd : decode bytes pc = .ok (.goto o, 3)) (k : B.G h cl sl (mkF m pc' Ls st)) : B.G h cl sl (mkF m pc Ls st) :=
  B.via (fun T t X r => XS.goto X B.1 rfl rfl (hb B.2.1 hd) ho hp r) k
theorem Base.dup (B : Base p l e R s m args below meth c Z y bytes maxL ret h0 ws C) (pc' : Nat) (hp : pc' = pc + 1) {x : Value} (hd : decode bytes pc = .ok (.dup, 1)) (hc : x.category = 1) (k : B.G h cl sl (mkF m pc' Ls (x :: x :: st))) : B.G h cl sl (mkF m pc Ls (x :: st)) := by
  subst hp; exact B.via (fun T t X r => XS.dup X B.1 rfl (hb B.2.1 hd) rfl hc r) k
theorem Base.pop (B : Base p l e R s m args below meth c Z y bytes maxL ret h0 ws C) (pc' : Nat) (hp : pc' = pc + 1) {x : Value} (hd : decode bytes pc = .ok (.pop, 1)) (hc : x.category = 1) (k : B.G h cl sl (mkF m pc' Ls st)) : B.G h cl sl (mkF m pc Ls (x :: st)) := by
  subst hp; exact B.via (fun T t X r => XT.pop X B.1 rfl (hb B.2.1 hd) rfl hc r) k
theorem Base.dupX1 (B : Base p l e R s m args below meth c Z y bytes maxL ret h0 ws C) (pc' : Nat) (hp : pc' = pc + 1) {x z : Value} (hd : decode bytes pc = .ok (.dup_x1, 1)) (hc : x.category = 1) (hc' : z.category = 1) (k : B.G h cl sl (mkF m pc' Ls (x :: z :: x :: st))) : B.G h cl sl (mkF m pc Ls (x :: z :: st)) := by
  subst hp; exact B.via (fun T t X r => XT.dupX1 X B.1 rfl (hb B.2.1 hd) rfl hc hc' r) k
theorem Base.dup2 (B : Base p l e R s m args below meth c Z y bytes maxL ret h0 ws C) (pc' : Nat) (hp : pc' = pc + 1) {x z : Value} (hd : decode bytes pc = .ok (.dup2, 1)) (hc : x.category = 1) (hc' : z.category = 1) (k : B.G h cl sl (mkF m pc' Ls (x :: z :: x :: z :: st))) : B.G h cl sl (mkF m pc Ls (x :: z :: st)) := by
  subst hp; exact B.via (fun T t X r => XT.dup2 X B.1 rfl (hb B.2.1 hd) rfl hc hc' r) k
theorem Base.iadd (B : Base p l e R s m args below meth c Z y bytes maxL ret h0 ws C) (pc' : Nat) (hp : pc' = pc + 1) {x : Int32} {z : Int32} (hd : decode bytes pc = .ok (.iadd, 1)) (k : B.G h cl sl (mkF m pc' Ls (.int (x + z) :: st))) : B.G h cl sl (mkF m pc Ls (.int z :: .int x :: st)) := by
  subst hp; exact B.via (fun T t X r => XS.iadd X B.1 rfl (hb B.2.1 hd) rfl r) k
theorem Base.isub (B : Base p l e R s m args below meth c Z y bytes maxL ret h0 ws C) (pc' : Nat) (hp : pc' = pc + 1) {x : Int32} {z : Int32} (hd : decode bytes pc = .ok (.isub, 1)) (k : B.G h cl sl (mkF m pc' Ls (.int (x - z) :: st))) : B.G h cl sl (mkF m pc Ls (.int z :: .int x :: st)) := by
  subst hp; exact B.via (fun T t X r => XS.isub X B.1 rfl (hb B.2.1 hd) rfl r) k
theorem Base.iand (B : Base p l e R s m args below meth c Z y bytes maxL ret h0 ws C) (pc' : Nat) (hp : pc' = pc + 1) {x : Int32} {z : Int32} (hd : decode bytes pc = .ok (.iand, 1)) (k : B.G h cl sl (mkF m pc' Ls (.int (x &&& z) :: st))) : B.G h cl sl (mkF m pc Ls (.int z :: .int x :: st)) := by
  subst hp; exact B.via (fun T t X r => XS.iand X B.1 rfl (hb B.2.1 hd) rfl r) k
theorem Base.imul (B : Base p l e R s m args below meth c Z y bytes maxL ret h0 ws C) (pc' : Nat) (hp : pc' = pc + 1) {x : Int32} {z : Int32} (hd : decode bytes pc = .ok (.imul, 1)) (k : B.G h cl sl (mkF m pc' Ls (.int (x * z) :: st))) : B.G h cl sl (mkF m pc Ls (.int z :: .int x :: st)) := by
  subst hp; exact B.via (fun T t X r => XS.imul X B.1 rfl (hb B.2.1 hd) rfl r) k
theorem Base.ixor (B : Base p l e R s m args below meth c Z y bytes maxL ret h0 ws C) (pc' : Nat) (hp : pc' = pc + 1) {x : Int32} {z : Int32} (hd : decode bytes pc = .ok (.ixor, 1)) (k : B.G h cl sl (mkF m pc' Ls (.int (x ^^^ z) :: st))) : B.G h cl sl (mkF m pc Ls (.int z :: .int x :: st)) := by
  subst hp; exact B.via (fun T t X r => XT.ixor X B.1 rfl (hb B.2.1 hd) rfl r) k
theorem Base.ior (B : Base p l e R s m args below meth c Z y bytes maxL ret h0 ws C) (pc' : Nat) (hp : pc' = pc + 1) {x : Int32} {z : Int32} (hd : decode bytes pc = .ok (.ior, 1)) (k : B.G h cl sl (mkF m pc' Ls (.int (x ||| z) :: st))) : B.G h cl sl (mkF m pc Ls (.int z :: .int x :: st)) := by
  subst hp; exact B.via (fun T t X r => XT.ior X B.1 rfl (hb B.2.1 hd) rfl r) k
theorem Base.ishl (B : Base p l e R s m args below meth c Z y bytes maxL ret h0 ws C) (pc' : Nat) (hp : pc' = pc + 1) {x : Int32} {z : Int32} (hd : decode bytes pc = .ok (.ishl, 1)) (k : B.G h cl sl (mkF m pc' Ls (.int (x <<< (z &&& 31)) :: st))) : B.G h cl sl (mkF m pc Ls (.int z :: .int x :: st)) := by
  subst hp; exact B.via (fun T t X r => XT.ishl X B.1 rfl (hb B.2.1 hd) rfl r) k
theorem Base.ishr (B : Base p l e R s m args below meth c Z y bytes maxL ret h0 ws C) (pc' : Nat) (hp : pc' = pc + 1) {x : Int32} {z : Int32} (hd : decode bytes pc = .ok (.ishr, 1)) (k : B.G h cl sl (mkF m pc' Ls (.int (x >>> (z &&& 31)) :: st))) : B.G h cl sl (mkF m pc Ls (.int z :: .int x :: st)) := by
  subst hp; exact B.via (fun T t X r => XT.ishr X B.1 rfl (hb B.2.1 hd) rfl r) k
theorem Base.iushr (B : Base p l e R s m args below meth c Z y bytes maxL ret h0 ws C) (pc' : Nat) (hp : pc' = pc + 1) {x : Int32} {z : Int32} (hd : decode bytes pc = .ok (.iushr, 1)) (k : B.G h cl sl (mkF m pc' Ls (.int (XT.ushr x z) :: st))) : B.G h cl sl (mkF m pc Ls (.int z :: .int x :: st)) := by
  subst hp; exact B.via (fun T t X r => XT.iushr X B.1 rfl (hb B.2.1 hd) rfl r) k
theorem Base.ladd (B : Base p l e R s m args below meth c Z y bytes maxL ret h0 ws C) (pc' : Nat) (hp : pc' = pc + 1) {x : Int64} {z : Int64} (hd : decode bytes pc = .ok (.ladd, 1)) (k : B.G h cl sl (mkF m pc' Ls (.long (x + z) :: st))) : B.G h cl sl (mkF m pc Ls (.long z :: .long x :: st)) := by
  subst hp; exact B.via (fun T t X r => XT.ladd X B.1 rfl (hb B.2.1 hd) rfl r) k
theorem Base.lsub (B : Base p l e R s m args below meth c Z y bytes maxL ret h0 ws C) (pc' : Nat) (hp : pc' = pc + 1) {x : Int64} {z : Int64} (hd : decode bytes pc = .ok (.lsub, 1)) (k : B.G h cl sl (mkF m pc' Ls (.long (x - z) :: st))) : B.G h cl sl (mkF m pc Ls (.long z :: .long x :: st)) := by
  subst hp; exact B.via (fun T t X r => XT.lsub X B.1 rfl (hb B.2.1 hd) rfl r) k
theorem Base.lmul (B : Base p l e R s m args below meth c Z y bytes maxL ret h0 ws C) (pc' : Nat) (hp : pc' = pc + 1) {x : Int64} {z : Int64} (hd : decode bytes pc = .ok (.lmul, 1)) (k : B.G h cl sl (mkF m pc' Ls (.long (x * z) :: st))) : B.G h cl sl (mkF m pc Ls (.long z :: .long x :: st)) := by
  subst hp; exact B.via (fun T t X r => XT.lmul X B.1 rfl (hb B.2.1 hd) rfl r) k
theorem Base.land (B : Base p l e R s m args below meth c Z y bytes maxL ret h0 ws C) (pc' : Nat) (hp : pc' = pc + 1) {x : Int64} {z : Int64} (hd : decode bytes pc = .ok (.land, 1)) (k : B.G h cl sl (mkF m pc' Ls (.long (x &&& z) :: st))) : B.G h cl sl (mkF m pc Ls (.long z :: .long x :: st)) := by
  subst hp; exact B.via (fun T t X r => XT.land X B.1 rfl (hb B.2.1 hd) rfl r) k
theorem Base.lor (B : Base p l e R s m args below meth c Z y bytes maxL ret h0 ws C) (pc' : Nat) (hp : pc' = pc + 1) {x : Int64} {z : Int64} (hd : decode bytes pc = .ok (.lor, 1)) (k : B.G h cl sl (mkF m pc' Ls (.long (x ||| z) :: st))) : B.G h cl sl (mkF m pc Ls (.long z :: .long x :: st)) := by
  subst hp; exact B.via (fun T t X r => XT.lor X B.1 rfl (hb B.2.1 hd) rfl r) k
theorem Base.lxor (B : Base p l e R s m args below meth c Z y bytes maxL ret h0 ws C) (pc' : Nat) (hp : pc' = pc + 1) {x : Int64} {z : Int64} (hd : decode bytes pc = .ok (.lxor, 1)) (k : B.G h cl sl (mkF m pc' Ls (.long (x ^^^ z) :: st))) : B.G h cl sl (mkF m pc Ls (.long z :: .long x :: st)) := by
  subst hp; exact B.via (fun T t X r => XT.lxor X B.1 rfl (hb B.2.1 hd) rfl r) k
theorem Base.lshl (B : Base p l e R s m args below meth c Z y bytes maxL ret h0 ws C) (pc' : Nat) (hp : pc' = pc + 1) {x : Int64} {z : Int32} (hd : decode bytes pc = .ok (.lshl, 1)) (k : B.G h cl sl (mkF m pc' Ls (.long (x <<< (z.toInt64 &&& 63)) :: st))) : B.G h cl sl (mkF m pc Ls (.int z :: .long x :: st)) := by
  subst hp; exact B.via (fun T t X r => XT.lshl X B.1 rfl (hb B.2.1 hd) rfl r) k
theorem Base.lshr (B : Base p l e R s m args below meth c Z y bytes maxL ret h0 ws C) (pc' : Nat) (hp : pc' = pc + 1) {x : Int64} {z : Int32} (hd : decode bytes pc = .ok (.lshr, 1)) (k : B.G h cl sl (mkF m pc' Ls (.long (x >>> (z.toInt64 &&& 63)) :: st))) : B.G h cl sl (mkF m pc Ls (.int z :: .long x :: st)) := by
  subst hp; exact B.via (fun T t X r => XT.lshr X B.1 rfl (hb B.2.1 hd) rfl r) k
theorem Base.lushr (B : Base p l e R s m args below meth c Z y bytes maxL ret h0 ws C) (pc' : Nat) (hp : pc' = pc + 1) {x : Int64} {z : Int32} (hd : decode bytes pc = .ok (.lushr, 1)) (k : B.G h cl sl (mkF m pc' Ls (.long (XT.ushrL x z) :: st))) : B.G h cl sl (mkF m pc Ls (.int z :: .long x :: st)) := by
  subst hp; exact B.via (fun T t X r => XT.lushr X B.1 rfl (hb B.2.1 hd) rfl r) k
theorem Base.lcmp (B : Base p l e R s m args below meth c Z y bytes maxL ret h0 ws C) (pc' : Nat) (hp : pc' = pc + 1) {x : Int64} {z : Int64} (hd : decode bytes pc = .ok (.lcmp, 1)) (k : B.G h cl sl (mkF m pc' Ls (.int (XT.cmpL x z) :: st))) : B.G h cl sl (mkF m pc Ls (.long z :: .long x :: st)) := by
  subst hp; exact B.via (fun T t X r => XT.lcmp X B.1 rfl (hb B.2.1 hd) rfl r) k
theorem Base.idiv (B : Base p l e R s m args below meth c Z y bytes maxL ret h0 ws C) (pc' : Nat) (hp : pc' = pc + 1) {x : Int32} {z : Int32} (hd : decode bytes pc = .ok (.idiv, 1)) (hz : z ≠ 0) (k : B.G h cl sl (mkF m pc' Ls (.int (x / z) :: st))) : B.G h cl sl (mkF m pc Ls (.int z :: .int x :: st)) := by
  subst hp; exact B.via (fun T t X r => XS.idiv X B.1 rfl (hb B.2.1 hd) rfl hz r) k
theorem Base.ldiv (B : Base p l e R s m args below meth c Z y bytes maxL ret h0 ws C) (pc' : Nat) (hp : pc' = pc + 1) {x : Int64} {z : Int64} (hd : decode bytes pc = .ok (.ldiv, 1)) (hz : z ≠ 0) (k : B.G h cl sl (mkF m pc' Ls (.long (x / z) :: st))) : B.G h cl sl (mkF m pc Ls (.long z :: .long x :: st)) := by
  subst hp; exact B.via (fun T t X r => XT.ldiv X B.1 rfl (hb B.2.1 hd) rfl hz r) k
theorem Base.irem (B : Base p l e R s m args below meth c Z y bytes maxL ret h0 ws C) (pc' : Nat) (hp : pc' = pc + 1) {x z : Int32} (hd : decode bytes pc = .ok (.irem, 1)) (hz : z ≠ 0) (k : B.G h cl sl (mkF m pc' Ls (.int (x % z) :: st))) : B.G h cl sl (mkF m pc Ls (.int z :: .int x :: st)) := by
  subst hp; exact B.viaX (fun T t L X _ r => iremM X B.1 rfl (hb B.2.1 hd) rfl hz r) k
theorem Base.ineg (B : Base p l e R s m args below meth c Z y bytes maxL ret h0 ws C) (pc' : Nat) (hp : pc' = pc + 1) {x : Int32} (hd : decode bytes pc = .ok (.ineg, 1)) (k : B.G h cl sl (mkF m pc' Ls (.int (-x) :: st))) : B.G h cl sl (mkF m pc Ls (.int x :: st)) := by
  subst hp; exact B.via (fun T t X r => XS.ineg X B.1 rfl (hb B.2.1 hd) rfl r) k
theorem Base.lneg (B : Base p l e R s m args below meth c Z y bytes maxL ret h0 ws C) (pc' : Nat) (hp : pc' = pc + 1) {x : Int64} (hd : decode bytes pc = .ok (.lneg, 1)) (k : B.G h cl sl (mkF m pc' Ls (.long (-x) :: st))) : B.G h cl sl (mkF m pc Ls (.long x :: st)) := by
  subst hp; exact B.via (fun T t X r => XT.lneg X B.1 rfl (hb B.2.1 hd) rfl r) k
theorem Base.i2l (B : Base p l e R s m args below meth c Z y bytes maxL ret h0 ws C) (pc' : Nat) (hp : pc' = pc + 1) {x : Int32} (hd : decode bytes pc = .ok (.i2l, 1)) (k : B.G h cl sl (mkF m pc' Ls (.long (x.toInt64) :: st))) : B.G h cl sl (mkF m pc Ls (.int x :: st)) := by
  subst hp; exact B.via (fun T t X r => XT.i2l X B.1 rfl (hb B.2.1 hd) rfl r) k
theorem Base.l2i (B : Base p l e R s m args below meth c Z y bytes maxL ret h0 ws C) (pc' : Nat) (hp : pc' = pc + 1) {x : Int64} (hd : decode bytes pc = .ok (.l2i, 1)) (k : B.G h cl sl (mkF m pc' Ls (.int (x.toInt32) :: st))) : B.G h cl sl (mkF m pc Ls (.long x :: st)) := by
  subst hp; exact B.via (fun T t X r => XT.l2i X B.1 rfl (hb B.2.1 hd) rfl r) k
theorem Base.i2b (B : Base p l e R s m args below meth c Z y bytes maxL ret h0 ws C) (pc' : Nat) (hp : pc' = pc + 1) {x : Int32} (hd : decode bytes pc = .ok (.i2b, 1)) (k : B.G h cl sl (mkF m pc' Ls (.int (x.toInt8.toInt32) :: st))) : B.G h cl sl (mkF m pc Ls (.int x :: st)) := by
  subst hp; exact B.via (fun T t X r => XT.i2b X B.1 rfl (hb B.2.1 hd) rfl r) k
theorem Base.i2c (B : Base p l e R s m args below meth c Z y bytes maxL ret h0 ws C) (pc' : Nat) (hp : pc' = pc + 1) {x : Int32} (hd : decode bytes pc = .ok (.i2c, 1)) (k : B.G h cl sl (mkF m pc' Ls (.int (x.toUInt32.toUInt16.toUInt32.toInt32) :: st))) : B.G h cl sl (mkF m pc Ls (.int x :: st)) := by
  subst hp; exact B.via (fun T t X r => XT.i2c X B.1 rfl (hb B.2.1 hd) rfl r) k
theorem Base.i2s (B : Base p l e R s m args below meth c Z y bytes maxL ret h0 ws C) (pc' : Nat) (hp : pc' = pc + 1) {x : Int32} (hd : decode bytes pc = .ok (.i2s, 1)) (k : B.G h cl sl (mkF m pc' Ls (.int (x.toInt16.toInt32) :: st))) : B.G h cl sl (mkF m pc Ls (.int x :: st)) := by
  subst hp; exact B.via (fun T t X r => XT.i2s X B.1 rfl (hb B.2.1 hd) rfl r) k
theorem Base.icmp_eq (B : Base p l e R s m args below meth c Z y bytes maxL ret h0 ws C) (pt pf : Nat) {o : Int} (hpt : ((pc : Int) + o).toNat = pt) (ho : 0 ≤ (pc : Int) + o) (hpf : pf = pc + 3) {x z : Int32} (hd : decode bytes pc = .ok (.if_icmp .eq o, 3)) (kt : x = z → B.G h cl sl (mkF m pt Ls st)) (kf : ¬ x = z → B.G h cl sl (mkF m pf Ls st)) : B.G h cl sl (mkF m pc Ls (.int z :: .int x :: st)) := by
  subst hpt hpf
  by_cases q : x = z
  · exact B.via (fun T t X r => XS.icmpYes X B.1 rfl rfl (hb B.2.1 hd) rfl (XT.ii_eq_t q) ho rfl r) (kt q)
  · exact B.via (fun T t X r => XS.icmpNo X B.1 rfl (hb B.2.1 hd) rfl (XT.ii_eq_f q) r) (kf q)
theorem Base.if0_eq (B : Base p l e R s m args below meth c Z y bytes maxL ret h0 ws C) (pt pf : Nat) {o : Int} (hpt : ((pc : Int) + o).toNat = pt) (ho : 0 ≤ (pc : Int) + o) (hpf : pf = pc + 3) {x : Int32} (hd : decode bytes pc = .ok (.ifCond .eq o, 3)) (kt : x = 0 → B.G h cl sl (mkF m pt Ls st)) (kf : ¬ x = 0 → B.G h cl sl (mkF m pf Ls st)) : B.G h cl sl (mkF m pc Ls (.int x :: st)) := by
  subst hpt hpf
  by_cases q : x = 0
  · exact B.via (fun T t X r => XS.ifYes X B.1 rfl rfl (hb B.2.1 hd) rfl (XT.i0_eq_t q) ho rfl r) (kt q)
  · exact B.via (fun T t X r => XS.ifNo X B.1 rfl (hb B.2.1 hd) rfl (XT.i0_eq_f q) r) (kf q)
theorem Base.lif_eq (B : Base p l e R s m args below meth c Z y bytes maxL ret h0 ws C) (pt pf : Nat) {o : Int} (hpt : ((pc : Int) + o).toNat = pt) (ho : 0 ≤ (pc : Int) + o) (hpf : pf = pc + 3) {x z : Int64} (hd : decode bytes pc = .ok (.ifCond .eq o, 3)) (kt : x = z → B.G h cl sl (mkF m pt Ls st)) (kf : ¬ x = z → B.G h cl sl (mkF m pf Ls st)) : B.G h cl sl (mkF m pc Ls (.int (XT.cmpL x z) :: st)) := by
  subst hpt hpf
  by_cases q : x = z
  · exact B.via (fun T t X r => XS.ifYes X B.1 rfl rfl (hb B.2.1 hd) rfl (XT.ll_eq_t q) ho rfl r) (kt q)
  · exact B.via (fun T t X r => XS.ifNo X B.1 rfl (hb B.2.1 hd) rfl (XT.ll_eq_f q) r) (kf q)
theorem Base.icmp_ne (B : Base p l e R s m args below meth c Z y bytes maxL ret h0 ws C) (pt pf : Nat) {o : Int} (hpt : ((pc : Int) + o).toNat = pt) (ho : 0 ≤ (pc : Int) + o) (hpf : pf = pc + 3) {x z : Int32} (hd : decode bytes pc = .ok (.if_icmp .ne o, 3)) (kt : ¬ x = z → B.G h cl sl (mkF m pt Ls st)) (kf : x = z → B.G h cl sl (mkF m pf Ls st)) : B.G h cl sl (mkF m pc Ls (.int z :: .int x :: st)) := by
  subst hpt hpf
  by_cases q : x = z
  · exact B.via (fun T t X r => XS.icmpNo X B.1 rfl (hb B.2.1 hd) rfl (XT.ii_ne_f q) r) (kf q)
  · exact B.via (fun T t X r => XS.icmpYes X B.1 rfl rfl (hb B.2.1 hd) rfl (XT.ii_ne_t q) ho rfl r) (kt q)
theorem Base.if0_ne (B : Base p l e R s m args below meth c Z y bytes maxL ret h0 ws C) (pt pf : Nat) {o : Int} (hpt : ((pc : Int) + o).toNat = pt) (ho : 0 ≤ (pc : Int) + o) (hpf : pf = pc + 3) {x : Int32} (hd : decode bytes pc = .ok (.ifCond .ne o, 3)) (kt : ¬ x = 0 → B.G h cl sl (mkF m pt Ls st)) (kf : x = 0 → B.G h cl sl (mkF m pf Ls st)) : B.G h cl sl (mkF m pc Ls (.int x :: st)) := by
  subst hpt hpf
  by_cases q : x = 0
  · exact B.via (fun T t X r => XS.ifNo X B.1 rfl (hb B.2.1 hd) rfl (XT.i0_ne_f q) r) (kf q)
  · exact B.via (fun T t X r => XS.ifYes X B.1 rfl rfl (hb B.2.1 hd) rfl (XT.i0_ne_t q) ho rfl r) (kt q)
theorem Base.lif_ne (B : Base p l e R s m args below meth c Z y bytes maxL ret h0 ws C) (pt pf : Nat) {o : Int} (hpt : ((pc : Int) + o).toNat = pt) (ho : 0 ≤ (pc : Int) + o) (hpf : pf = pc + 3) {x z : Int64} (hd : decode bytes pc = .ok (.ifCond .ne o, 3)) (kt : ¬ x = z → B.G h cl sl (mkF m pt Ls st)) (kf : x = z → B.G h cl sl (mkF m pf Ls st)) : B.G h cl sl (mkF m pc Ls (.int (XT.cmpL x z) :: st)) := by
  subst hpt hpf
  by_cases q : x = z
  · exact B.via (fun T t X r => XS.ifNo X B.1 rfl (hb B.2.1 hd) rfl (XT.ll_ne_f q) r) (kf q)
  · exact B.via (fun T t X r => XS.ifYes X B.1 rfl rfl (hb B.2.1 hd) rfl (XT.ll_ne_t q) ho rfl r) (kt q)
theorem Base.icmp_lt (B : Base p l e R s m args below meth c Z y bytes maxL ret h0 ws C) (pt pf : Nat) {o : Int} (hpt : ((pc : Int) + o).toNat = pt) (ho : 0 ≤ (pc : Int) + o) (hpf : pf = pc + 3) {x z : Int32} (hd : decode bytes pc = .ok (.if_icmp .lt o, 3)) (kt : x < z → B.G h cl sl (mkF m pt Ls st)) (kf : ¬ x < z → B.G h cl sl (mkF m pf Ls st)) : B.G h cl sl (mkF m pc Ls (.int z :: .int x :: st)) := by
  subst hpt hpf
  by_cases q : x < z
  · exact B.via (fun T t X r => XS.icmpYes X B.1 rfl rfl (hb B.2.1 hd) rfl (XT.ii_lt_t q) ho rfl r) (kt q)
  · exact B.via (fun T t X r => XS.icmpNo X B.1 rfl (hb B.2.1 hd) rfl (XT.ii_lt_f q) r) (kf q)
theorem Base.if0_lt (B : Base p l e R s m args below meth c Z y bytes maxL ret h0 ws C) (pt pf : Nat) {o : Int} (hpt : ((pc : Int) + o).toNat = pt) (ho : 0 ≤ (pc : Int) + o) (hpf : pf = pc + 3) {x : Int32} (hd : decode bytes pc = .ok (.ifCond .lt o, 3)) (kt : x < 0 → B.G h cl sl (mkF m pt Ls st)) (kf : ¬ x < 0 → B.G h cl sl (mkF m pf Ls st)) : B.G h cl sl (mkF m pc Ls (.int x :: st)) := by
  subst hpt hpf
  by_cases q : x < 0
  · exact B.via (fun T t X r => XS.ifYes X B.1 rfl rfl (hb B.2.1 hd) rfl (XT.i0_lt_t q) ho rfl r) (kt q)
  · exact B.via (fun T t X r => XS.ifNo X B.1 rfl (hb B.2.1 hd) rfl (XT.i0_lt_f q) r) (kf q)
theorem Base.lif_lt (B : Base p l e R s m args below meth c Z y bytes maxL ret h0 ws C) (pt pf : Nat) {o : Int} (hpt : ((pc : Int) + o).toNat = pt) (ho : 0 ≤ (pc : Int) + o) (hpf : pf = pc + 3) {x z : Int64} (hd : decode bytes pc = .ok (.ifCond .lt o, 3)) (kt : x < z → B.G h cl sl (mkF m pt Ls st)) (kf : ¬ x < z → B.G h cl sl (mkF m pf Ls st)) : B.G h cl sl (mkF m pc Ls (.int (XT.cmpL x z) :: st)) := by
  subst hpt hpf
  by_cases q : x < z
  · exact B.via (fun T t X r => XS.ifYes X B.1 rfl rfl (hb B.2.1 hd) rfl (XT.ll_lt_t q) ho rfl r) (kt q)
  · exact B.via (fun T t X r => XS.ifNo X B.1 rfl (hb B.2.1 hd) rfl (XT.ll_lt_f q) r) (kf q)
theorem Base.icmp_ge (B : Base p l e R s m args below meth c Z y bytes maxL ret h0 ws C) (pt pf : Nat) {o : Int} (hpt : ((pc : Int) + o).toNat = pt) (ho : 0 ≤ (pc : Int) + o) (hpf : pf = pc + 3) {x z : Int32} (hd : decode bytes pc = .ok (.if_icmp .ge o, 3)) (kt : ¬ x < z → B.G h cl sl (mkF m pt Ls st)) (kf : x < z → B.G h cl sl (mkF m pf Ls st)) : B.G h cl sl (mkF m pc Ls (.int z :: .int x :: st)) := by
  subst hpt hpf
  by_cases q : x < z
  · exact B.via (fun T t X r => XS.icmpNo X B.1 rfl (hb B.2.1 hd) rfl (XT.ii_ge_f q) r) (kf q)
  · exact B.via (fun T t X r => XS.icmpYes X B.1 rfl rfl (hb B.2.1 hd) rfl (XT.ii_ge_t q) ho rfl r) (kt q)
theorem Base.if0_ge (B : Base p l e R s m args below meth c Z y bytes maxL ret h0 ws C) (pt pf : Nat) {o : Int} (hpt : ((pc : Int) + o).toNat = pt) (ho : 0 ≤ (pc : Int) + o) (hpf : pf = pc + 3) {x : Int32} (hd : decode bytes pc = .ok (.ifCond .ge o, 3)) (kt : ¬ x < 0 → B.G h cl sl (mkF m pt Ls st)) (kf : x < 0 → B.G h cl sl (mkF m pf Ls st)) : B.G h cl sl (mkF m pc Ls (.int x :: st)) := by
  subst hpt hpf
  by_cases q : x < 0
  · exact B.via (fun T t X r => XS.ifNo X B.1 rfl (hb B.2.1 hd) rfl (XT.i0_ge_f q) r) (kf q)
  · exact B.via (fun T t X r => XS.ifYes X B.1 rfl rfl (hb B.2.1 hd) rfl (XT.i0_ge_t q) ho rfl r) (kt q)
theorem Base.lif_ge (B : Base p l e R s m args below meth c Z y bytes maxL ret h0 ws C) (pt pf : Nat) {o : Int} (hpt : ((pc : Int) + o).toNat = pt) (ho : 0 ≤ (pc : Int) + o) (hpf : pf = pc + 3) {x z : Int64} (hd : decode bytes pc = .ok (.ifCond .ge o, 3)) (kt : ¬ x < z → B.G h cl sl (mkF m pt Ls st)) (kf : x < z → B.G h cl sl (mkF m pf Ls st)) : B.G h cl sl (mkF m pc Ls (.int (XT.cmpL x z) :: st)) := by
  subst hpt hpf
  by_cases q : x < z
  · exact B.via (fun T t X r => XS.ifNo X B.1 rfl (hb B.2.1 hd) rfl (XT.ll_ge_f q) r) (kf q)
  · exact B.via (fun T t X r => XS.ifYes X B.1 rfl rfl (hb B.2.1 hd) rfl (XT.ll_ge_t q) ho rfl r) (kt q)
theorem Base.icmp_gt (B : Base p l e R s m args below meth c Z y bytes maxL ret h0 ws C) (pt pf : Nat) {o : Int} (hpt : ((pc : Int) + o).toNat = pt) (ho : 0 ≤ (pc : Int) + o) (hpf : pf = pc + 3) {x z : Int32} (hd : decode bytes pc = .ok (.if_icmp .gt o, 3)) (kt : z < x → B.G h cl sl (mkF m pt Ls st)) (kf : ¬ z < x → B.G h cl sl (mkF m pf Ls st)) : B.G h cl sl (mkF m pc Ls (.int z :: .int x :: st)) := by
  subst hpt hpf
  by_cases q : z < x
  · exact B.via (fun T t X r => XS.icmpYes X B.1 rfl rfl (hb B.2.1 hd) rfl (XT.ii_gt_t q) ho rfl r) (kt q)
  · exact B.via (fun T t X r => XS.icmpNo X B.1 rfl (hb B.2.1 hd) rfl (XT.ii_gt_f q) r) (kf q)
theorem Base.if0_gt (B : Base p l e R s m args below meth c Z y bytes maxL ret h0 ws C) (pt pf : Nat) {o : Int} (hpt : ((pc : Int) + o).toNat = pt) (ho : 0 ≤ (pc : Int) + o) (hpf : pf = pc + 3) {x : Int32} (hd : decode bytes pc = .ok (.ifCond .gt o, 3)) (kt : 0 < x → B.G h cl sl (mkF m pt Ls st)) (kf : ¬ 0 < x → B.G h cl sl (mkF m pf Ls st)) : B.G h cl sl (mkF m pc Ls (.int x :: st)) := by
  subst hpt hpf
  by_cases q : 0 < x
  · exact B.via (fun T t X r => XS.ifYes X B.1 rfl rfl (hb B.2.1 hd) rfl (XT.i0_gt_t q) ho rfl r) (kt q)
  · exact B.via (fun T t X r => XS.ifNo X B.1 rfl (hb B.2.1 hd) rfl (XT.i0_gt_f q) r) (kf q)
theorem Base.lif_gt (B : Base p l e R s m args below meth c Z y bytes maxL ret h0 ws C) (pt pf : Nat) {o : Int} (hpt : ((pc : Int) + o).toNat = pt) (ho : 0 ≤ (pc : Int) + o) (hpf : pf = pc + 3) {x z : Int64} (hd : decode bytes pc = .ok (.ifCond .gt o, 3)) (kt : z < x → B.G h cl sl (mkF m pt Ls st)) (kf : ¬ z < x → B.G h cl sl (mkF m pf Ls st)) : B.G h cl sl (mkF m pc Ls (.int (XT.cmpL x z) :: st)) := by
  subst hpt hpf
  by_cases q : z < x
  · exact B.via (fun T t X r => XS.ifYes X B.1 rfl rfl (hb B.2.1 hd) rfl (XT.ll_gt_t q) ho rfl r) (kt q)
  · exact B.via (fun T t X r => XS.ifNo X B.1 rfl (hb B.2.1 hd) rfl (XT.ll_gt_f q) r) (kf q)
theorem Base.icmp_le (B : Base p l e R s m args below meth c Z y bytes maxL ret h0 ws C) (pt pf : Nat) {o : Int} (hpt : ((pc : Int) + o).toNat = pt) (ho : 0 ≤ (pc : Int) + o) (hpf : pf = pc + 3) {x z : Int32} (hd : decode bytes pc = .ok (.if_icmp .le o, 3)) (kt : ¬ z < x → B.G h cl sl (mkF m pt Ls st)) (kf : z < x → B.G h cl sl (mkF m pf Ls st)) : B.G h cl sl (mkF m pc Ls (.int z :: .int x :: st)) := by
  subst hpt hpf
  by_cases q : z < x
  · exact B.via (fun T t X r => XS.icmpNo X B.1 rfl (hb B.2.1 hd) rfl (XT.ii_le_f q) r) (kf q)
  · exact B.via (fun T t X r => XS.icmpYes X B.1 rfl rfl (hb B.2.1 hd) rfl (XT.ii_le_t q) ho rfl r) (kt q)
theorem Base.if0_le (B : Base p l e R s m args below meth c Z y bytes maxL ret h0 ws C) (pt pf : Nat) {o : Int} (hpt : ((pc : Int) + o).toNat = pt) (ho : 0 ≤ (pc : Int) + o) (hpf : pf = pc + 3) {x : Int32} (hd : decode bytes pc = .ok (.ifCond .le o, 3)) (kt : ¬ 0 < x → B.G h cl sl (mkF m pt Ls st)) (kf : 0 < x → B.G h cl sl (mkF m pf Ls st)) : B.G h cl sl (mkF m pc Ls (.int x :: st)) := by
  subst hpt hpf
  by_cases q : 0 < x
  · exact B.via (fun T t X r => XS.ifNo X B.1 rfl (hb B.2.1 hd) rfl (XT.i0_le_f q) r) (kf q)
  · exact B.via (fun T t X r => XS.ifYes X B.1 rfl rfl (hb B.2.1 hd) rfl (XT.i0_le_t q) ho rfl r) (kt q)
theorem Base.lif_le (B : Base p l e R s m args below meth c Z y bytes maxL ret h0 ws C) (pt pf : Nat) {o : Int} (hpt : ((pc : Int) + o).toNat = pt) (ho : 0 ≤ (pc : Int) + o) (hpf : pf = pc + 3) {x z : Int64} (hd : decode bytes pc = .ok (.ifCond .le o, 3)) (kt : ¬ z < x → B.G h cl sl (mkF m pt Ls st)) (kf : z < x → B.G h cl sl (mkF m pf Ls st)) : B.G h cl sl (mkF m pc Ls (.int (XT.cmpL x z) :: st)) := by
  subst hpt hpf
  by_cases q : z < x
  · exact B.via (fun T t X r => XS.ifNo X B.1 rfl (hb B.2.1 hd) rfl (XT.ll_le_f q) r) (kf q)
  · exact B.via (fun T t X r => XS.ifYes X B.1 rfl rfl (hb B.2.1 hd) rfl (XT.ll_le_t q) ho rfl r) (kt q)
theorem Base.acmp_eq (B : Base p l e R s m args below meth c Z y bytes maxL ret h0 ws C) (pt pf : Nat) {o : Int} (hpt : ((pc : Int) + o).toNat = pt) (ho : 0 ≤ (pc : Int) + o) (hpf : pf = pc + 3) {x z : Value} (hd : decode bytes pc = .ok (.if_acmp .eq o, 3)) (hx' : x.isRef = true) (hz' : z.isRef = true) (kt : x = z → B.G h cl sl (mkF m pt Ls st)) (kf : ¬ x = z → B.G h cl sl (mkF m pf Ls st)) : B.G h cl sl (mkF m pc Ls (z :: x :: st)) := by
  subst hpt hpf
  by_cases q : x = z
  · exact B.via (fun T t X r => XT.acmpYes X B.1 rfl rfl (hb B.2.1 hd) rfl hx' hz' (XT.aa_eq_t q) ho rfl r) (kt q)
  · exact B.via (fun T t X r => XT.acmpNo X B.1 rfl (hb B.2.1 hd) rfl hx' hz' (XT.aa_eq_f q) r) (kf q)
theorem Base.acmp_ne (B : Base p l e R s m args below meth c Z y bytes maxL ret h0 ws C) (pt pf : Nat) {o : Int} (hpt : ((pc : Int) + o).toNat = pt) (ho : 0 ≤ (pc : Int) + o) (hpf : pf = pc + 3) {x z : Value} (hd : decode bytes pc = .ok (.if_acmp .ne o, 3)) (hx' : x.isRef = true) (hz' : z.isRef = true) (kt : ¬ x = z → B.G h cl sl (mkF m pt Ls st)) (kf : x = z → B.G h cl sl (mkF m pf Ls st)) : B.G h cl sl (mkF m pc Ls (z :: x :: st)) := by
  subst hpt hpf
  by_cases q : x = z
  · exact B.via (fun T t X r => XT.acmpNo X B.1 rfl (hb B.2.1 hd) rfl hx' hz' (XT.aa_ne_f q) r) (kf q)
  · exact B.via (fun T t X r => XT.acmpYes X B.1 rfl rfl (hb B.2.1 hd) rfl hx' hz' (XT.aa_ne_t q) ho rfl r) (kt q)
theorem Base.ifnull (B : Base p l e R s m args below meth c Z y bytes maxL ret h0 ws C) (pt pf : Nat) {o : Int} (hpt : ((pc : Int) + o).toNat = pt) (ho : 0 ≤ (pc : Int) + o) (hpf : pf = pc + 3) {x : Value} (hd : decode bytes pc = .ok (.ifnull o, 3)) (hx' : x.isRef = true) (kt : x = .null → B.G h cl sl (mkF m pt Ls st)) (kf : ¬ x = .null → B.G h cl sl (mkF m pf Ls st)) : B.G h cl sl (mkF m pc Ls (x :: st)) := by
  subst hpt hpf
  by_cases q : x = .null
  · exact B.via (fun T t X r => XT.nullYes X B.1 rfl rfl (hb B.2.1 hd) rfl q ho rfl r) (kt q)
  · exact B.via (fun T t X r => XT.nullNo X B.1 rfl (hb B.2.1 hd) rfl hx' q r) (kf q)
theorem Base.ifnonnull (B : Base p l e R s m args below meth c Z y bytes maxL ret h0 ws C) (pt pf : Nat) {o : Int} (hpt : ((pc : Int) + o).toNat = pt) (ho : 0 ≤ (pc : Int) + o) (hpf : pf = pc + 3) {x : Value} (hd : decode bytes pc = .ok (.ifnonnull o, 3)) (hx' : x.isRef = true) (kt : ¬ x = .null → B.G h cl sl (mkF m pt Ls st)) (kf : x = .null → B.G h cl sl (mkF m pf Ls st)) : B.G h cl sl (mkF m pc Ls (x :: st)) := by
  subst hpt hpf
  by_cases q : x = .null
  · exact B.via (fun T t X r => XT.nonnullNo X B.1 rfl (hb B.2.1 hd) rfl q r) (kf q)
  · exact B.via (fun T t X r => XT.nonnullYes X B.1 rfl rfl (hb B.2.1 hd) rfl hx' q ho rfl r) (kt q)
theorem Base.topI (B : Base p l e R s m args below meth c Z y bytes maxL ret h0 ws C) {x : Int32} (v : Int32) (q : x = v) (k : B.G h cl sl (mkF m pc Ls (.int v :: st))) : B.G h cl sl (mkF m pc Ls (.int x :: st)) := by subst q; exact k
theorem Base.topL (B : Base p l e R s m args below meth c Z y bytes maxL ret h0 ws C) {x : Int64} (v : Int64) (q : x = v) (k : B.G h cl sl (mkF m pc Ls (.long v :: st))) : B.G h cl sl (mkF m pc Ls (.long x :: st)) := by subst q; exact k
/-! 2. the ends -/
theorem Base.leave (B : Base p l e R s m args below meth c Z y bytes maxL ret h0 ws C) (hcl : cl ≤ R.cells) (hsl : sl ≤ R.slots) {v : Option Value} (hv : meth.sig.returnType = none → v = none) (hC : C v h)
    (st : ∀ (T : State) (locs : List Loc) (fs : List Frame), Stand p l e R s m args below meth c T locs cl sl → (∀ (f : JFrame) (acts : List Action), f.method = m → f.locked = none → f.entered = [] → (doReturn e (T.setTop f) acts v).1 = T.setFrames fs) → Steps p.tables e below (T.setTop g) (T.setFrames fs)) : B.G h cl sl g := fun T locs X N eT => by
  have hlk : meth.locks = false := B.2.2.2.2.2.2.1
  obtain ⟨fs, hr, hrun, hended, hW, hsame⟩ := X.leave (v := v) hv hlk
  have e0 := B.2.2.2.2.2.2.2.2
  refine ⟨_, _, st T locs fs X hr, hrun, hended, _, _, rfl, ⟨?_, N, ?_⟩, ⟨_, rfl⟩, hW, hsame.mono hcl hsl⟩
  · show C v T.heap
    rw [eT]; exact hC
  · show Keep h0 T.heap ws
    rw [← e0] at N ⊢
    exact keep_of X N
theorem Base.ret0 (B : Base p l e R s m args below meth c Z y bytes maxL none h0 ws C) (hd : decode bytes pc = .ok (.return_, 1)) (hcl : cl ≤ R.cells) (hsl : sl ≤ R.slots) (hC : C none h) : B.G h cl sl (mkF m pc Ls []) :=
  B.leave hcl hsl (fun _ => rfl) hC fun T locs fs X hr => X.returnOut B.1 B.2.2.2.2.2.1 (hb B.2.1 hd) hr
theorem Base.retI (B : Base p l e R s m args below meth c Z y bytes maxL (some .int) h0 ws C) {x : Int32} (hd : decode bytes pc = .ok (.ireturn, 1)) (hcl : cl ≤ R.cells) (hsl : sl ≤ R.slots) (hC : C (some (.int x)) h) : B.G h cl sl (mkF m pc Ls (.int x :: st)) :=
  B.leave hcl hsl (fun q => by rw [B.2.2.2.2.2.1] at q; cases q) hC fun T locs fs X hr => retOut X B.1 B.2.2.2.2.2.1 rfl (Or.inl ⟨rfl, Or.inl rfl, _, rfl⟩) (hb B.2.1 hd) hr
theorem Base.retL (B : Base p l e R s m args below meth c Z y bytes maxL (some .long) h0 ws C) {x : Int64} (hd : decode bytes pc = .ok (.lreturn, 1)) (hcl : cl ≤ R.cells) (hsl : sl ≤ R.slots) (hC : C (some (.long x)) h) : B.G h cl sl (mkF m pc Ls (.long x :: st)) :=
  B.leave hcl hsl (fun q => by rw [B.2.2.2.2.2.1] at q; cases q) hC fun T locs fs X hr => retOut X B.1 B.2.2.2.2.2.1 rfl (Or.inr (Or.inl ⟨rfl, rfl, _, rfl⟩)) (hb B.2.1 hd) hr
/-- a boolean, byte, char, short: what comes back is narrowed -/
theorem Base.retN {t : FieldType} (B : Base p l e R s m args below meth c Z y bytes maxL (some t) h0 ws C) {x : Int32} (ht : t = .boolean ∨ t = .byte ∨ t = .char ∨ t = .short) (hd : decode bytes pc = .ok (.ireturn, 1)) (hcl : cl ≤ R.cells) (hsl : sl ≤ R.slots) (hC : C (some (.int (nar t x))) h) : B.G h cl sl (mkF m pc Ls (.int x :: st)) :=
  B.leave hcl hsl (fun q => by rw [B.2.2.2.2.2.1] at q; cases q) hC fun T locs fs X hr => Jvm.RoadKit.retN X B.1 B.2.2.2.2.2.1 ht (hb B.2.1 hd) hr
theorem Base.retA {t : FieldType} (B : Base p l e R s m args below meth c Z y bytes maxL (some t) h0 ws C) {x : Value} (ht : t.isReference = true) (hx' : x.isRef = true) (hd : decode bytes pc = .ok (.areturn, 1)) (hcl : cl ≤ R.cells) (hsl : sl ≤ R.slots) (hC : C (some x) h) : B.G h cl sl (mkF m pc Ls (x :: st)) :=
  B.leave hcl hsl (fun q => by rw [B.2.2.2.2.2.1] at q; cases q) hC fun T locs fs X hr => retOut X B.1 B.2.2.2.2.2.1 (by rcases ref_cases hx' with rfl | ⟨a, rfl⟩ <;> cases t <;> simp_all [narrow, FieldType.isReference]) (Or.inr (Or.inr (Or.inr (Or.inr ⟨rfl, ht, hx'⟩)))) (hb B.2.1 hd) hr
/-! 3. the heap -/
theorem Base.size (B : Base p l e R s m args below meth c Z y bytes maxL ret h0 ws C) {T : State} {locs : List Loc} (X : Stand p l e R s m args below meth c T locs cl sl) : h0.size ≤ T.heap.size := by
  have q := X.same.2.1
  rw [B.2.2.2.2.2.2.2.2] at q; exact q
/-- the heap has only grown -/
theorem Base.grown (B : Base p l e R s m args below meth c Z y bytes maxL ret h0 ws C) (k : h0.size ≤ h.size → B.G h cl sl g) : B.G h cl sl g := fun T locs X N eT => k (by rw [← eT]; exact B.size X) T locs X N eT
theorem Base.getF (B : Base p l e R s m args below meth c Z y bytes maxL ret h0 ws C) (pc' : Nat) (hp : pc' = pc + 3) {i : Nat} {O n d : String} {a : Addr} {v : Value} (hd : decode bytes pc = .ok (.getfield i, 3)) (w : (Cond.fieldLink y.cls i O n d).before a0 Z = true) (F : Fld Z h a O n d v) (k : B.G h cl sl (mkF m pc' Ls (v :: st))) : B.G h cl sl (mkF m pc Ls (.ref a :: st)) := fun T locs X N eT => by
  subst hp
  obtain ⟨T', X', e', stp⟩ := Jvm.RoadKit.getF X B.1 B.2.2.2.1 B.2.2.2.2.1 (host := "") (Or.inl w) Via.refl eT F (g := mkF m pc Ls (.ref a :: st)) rfl rfl (hb B.2.1 hd)
  obtain ⟨t, o, q, r⟩ := k T' locs X' N e'
  exact ⟨t, o, stp _ q, r⟩
theorem Base.getS (B : Base p l e R s m args below meth c Z y bytes maxL ret h0 ws C) (pc' : Nat) (hp : pc' = pc + 3) {i : Nat} {O n d : String} {v : Value} (hd : decode bytes pc = .ok (.getstatic i, 3)) (w : (Cond.fieldLink y.cls i O n d).before a0 Z = true) (F : Sta Z h O n d v) (k : B.G h cl sl (mkF m pc' Ls (v :: st))) : B.G h cl sl (mkF m pc Ls st) := fun T locs X N eT => by
  subst hp
  obtain ⟨T', X', e', stp⟩ := Jvm.RoadKit.getS (host := "") X B.1 B.2.2.2.1 B.2.2.2.2.1 w Via.refl eT F (g := mkF m pc Ls st) rfl (hb B.2.1 hd)
  obtain ⟨t, o, q, r⟩ := k T' locs X' N e'
  exact ⟨t, o, stp _ q, r⟩
theorem Base.putF (B : Base p l e R s m args below meth c Z y bytes maxL ret h0 ws C) (pc' : Nat) (hp : pc' = pc + 3) {i kk : Nat} {O n d CC : String} {a : Addr} {v old : Value} {ty : FieldType} (hd : decode bytes pc = .ok (.putfield i, 3)) (w : (Cond.fieldLink y.cls i O n d).before a0 Z = true) (F : Fld Z h a O n d old) (E : Exa Z h a CC)
    (L : (Cond.lays CC O n d).before a0 Z = true ∨ ((Cond.laysFinal CC O n d).before a0 Z = true ∧ y.cls = O ∧ y.name = "<init>")) (wi : (Cond.instantiable CC kk).before a0 Z = true) (hty : parseFieldDescriptor d = some ty) (hn : narrow ty v = v) (hf : fits ty v = true) (hw : a ∈ ws ∨ h0.size ≤ a)
    (k : ∀ h', Wr h h' a (Jvm.RoadKit.slotOf Z O n d) v → B.G h' cl sl (mkF m pc' Ls st)) : B.G h cl sl (mkF m pc Ls (v :: .ref a :: st)) := fun T locs X N eT => by
  subst hp
  obtain ⟨T', h', X', e', W, stp⟩ := Jvm.RoadKit.putF X B.1 B.2.2.2.1 B.2.2.2.2.1 (host := "") (Or.inl w) Via.refl eT F E (L.imp id fun q => ⟨q.1, q.2.1, B.2.2.2.2.2.2.2.1.trans q.2.2⟩) wi hty hn hf (g := mkF m pc Ls (v :: .ref a :: st)) rfl rfl (hb B.2.1 hd)
  obtain ⟨t, o, q, r⟩ := k h' W T' _ X' (N.one hw) e'
  exact ⟨t, o, stp _ q, r⟩
theorem Base.newO (B : Base p l e R s m args below meth c Z y bytes maxL ret h0 ws C) (pc' : Nat) (hp : pc' = pc + 3) {i n : Nat} {CC : String} (hd : decode bytes pc = .ok (.new i, 3)) (w : (Cond.classLink y.cls i CC).before a0 Z = true) (wi : (Cond.instantiable CC n).before a0 Z = true) (wz : (Cond.initialized CC).before a0 Z = true) (hc : cl + 1 ≤ R.cells) (hs : sl + n ≤ R.slots)
    (k : ∀ h' a, a = h.size → h0.size ≤ a → Ext h h' → Exa Z h' a CC → (∀ {O nm d : String} {ty : FieldType}, Laid Z a0 CC O nm d → parseFieldDescriptor d = some ty → Fld Z h' a O nm d (defaultValue ty)) → B.G h' (cl + 1) (sl + n) (mkF m pc' Ls (.ref a :: st))) : B.G h cl sl (mkF m pc Ls st) := fun T locs X N eT => by
  subst hp
  obtain ⟨T', h', X', e', E, A, D, -, stp⟩ := Jvm.RoadKit.newO X B.1 B.2.2.2.1 B.2.2.2.2.1 w wi wz eT (g := mkF m pc Ls st) rfl (hb B.2.1 hd) hc hs
  obtain ⟨t, o, q, r⟩ := k h' _ rfl (by rw [← eT]; exact B.size X) E A D T' locs X' N e'
  exact ⟨t, o, stp _ q, r⟩
theorem Base.initO (B : Base p l e R s m args below meth c Z y bytes maxL ret h0 ws C) (pc' : Nat) (hp : pc' = pc + 3) {i : Nat} {a : Addr} (hd : decode bytes pc = .ok (.invokespecial i, 3)) (w1 : (Cond.methodLink y.cls i Lib.objectInit).before a0 Z = true) (w2 : (Cond.instanceMethod Lib.objectInit).before a0 Z = true) (w3 : (Cond.code Lib.objectInit ⟨#[0xb1]⟩ 1 none).before a0 Z = true)
    (hLs : Ls.size = maxL) (W : Nat) (hW : (st.map fun v => v.category).sum = W) (hf : 1 ≤ R.frames) (hl : W + 12 ≤ R.locals) (k : B.G h cl sl (mkF m pc' Ls st)) : B.G h cl sl (mkF m pc Ls (.ref a :: st)) := fun T locs X N eT => by
  subst hp
  obtain ⟨T', X', e', stp⟩ := Jvm.RoadKit.initO X B.1 B.2.2.2.1 B.2.2.2.2.1 w1 w2 w3 eT (g := mkF m pc Ls (.ref a :: st)) rfl (hLs.trans B.2.2.1.symm) rfl (hb B.2.1 hd) hf (W := W) (by show 2 * 0 + _ ≤ _; omega) hl
  obtain ⟨t, o, q, r⟩ := k T' locs X' N e'
  exact ⟨t, o, stp _ q, r⟩
/-! 4. calls -/
section Calls
variable {z : MethodName} {i : Nat} {cb : ByteArray} {cm : Nat} {cr : Option FieldType} {rm : Room} {as : Array Value} {ws' : List Addr} {C' : Option Value → Heap → Prop} {argsL rest : List Value} {ps : List FieldType} {rt : Option FieldType} {W : Nat}
theorem Base.callS (B : Base p l e R s m args below meth c Z y bytes maxL ret h0 ws C) (pc' : Nat) (hp : pc' = pc + 3) (hd : decode bytes pc = .ok (.invokestatic i, 3))
    (w1 : (Cond.methodLink y.cls i z).before a0 Z = true) (w2 : (Cond.static z).before a0 Z = true) (w3 : (Cond.initialized z.cls).before a0 Z = true) (w4 : (Cond.code z cb cm cr).before a0 Z = true)
    (hz : z.cls ≠ "java/lang/invoke/MethodHandle" ∧ z.cls ≠ "java/lang/invoke/VarHandle") (argsL rest : List Value) (M : Met l Z z cb cm cr [] rm as h ws' C') (has : argsL.toArray = as) (hst : st = argsL.reverse ++ rest) (hpd : parseMethodDescriptor z.desc = some ⟨ps, rt⟩) (hlen : argsL.length = ps.length) (hLs : Ls.size = maxL)
    (W : Nat) (hW : (rest.map fun v => v.category).sum = W) (hf : rm.frames + 1 ≤ R.frames) (hl : W + (cm + 11) + rm.locals ≤ R.locals) (hc : cl + rm.cells ≤ R.cells) (hs : sl + rm.slots ≤ R.slots) (hws : ∀ x ∈ ws', x ∈ ws ∨ h0.size ≤ x)
    (k : ∀ v h', Keep h h' ws' → C' v h' → B.G h' (cl + rm.cells) (sl + rm.slots) (mkF m pc' Ls (v.toList ++ rest))) : B.G h cl sl (mkF m pc Ls st) := fun T locs X N eT => by
  subst hp
  have hZ := B.2.2.2.1
  obtain ⟨v, _, ⟨T', L', k', n'⟩, -, X', ⟨Lc, hQ, l', y', z'⟩, stp⟩ := Jvm.LawKit.callS X B.1 (y := z) B.2.2.2.2.1 (mvT hZ w1) (mvT hZ w2) (mvT hZ w3) (mvT hZ w4) hz (backOf (W := W) M hZ w4 w3 hf hl) (g := mkF m pc Ls st) rfl (hLs.trans B.2.2.1.symm) (argsL := argsL) (rest := rest) (lenOf hpd hlen) hst (by show 2 * 0 + _ ≤ _; omega) (hb B.2.1 hd) (fun _ _ => ⟨has, eT, hc, hs⟩)
  dsimp only [Pt.U, Pt.locs, Pt.cells, Pt.slots] at X' l' y' z' stp hQ
  subst l' y' z'
  obtain ⟨hC, hN, hK⟩ := hQ
  obtain ⟨t, o, q, r⟩ := k v T'.heap hK hC T' _ X' (N.app fun u hu => (hN u hu).elim (fun q => hws _ q) fun q => Or.inr (Nat.le_trans (by rw [← eT]; exact B.size X) q)) rfl
  exact ⟨t, o, stp _ q, r⟩
theorem Base.callI (B : Base p l e R s m args below meth c Z y bytes maxL ret h0 ws C) (pc' : Nat) (hp : pc' = pc + 3) (hd : decode bytes pc = .ok (.invokespecial i, 3)) (hin : z.name = "<init>")
    (w1 : (Cond.methodLink y.cls i z).before a0 Z = true) (w2 : (Cond.instanceMethod z).before a0 Z = true) (w3 : (Cond.initialized z.cls).before a0 Z = true) (w4 : (Cond.code z cb cm none).before a0 Z = true)
    (hz : z.cls ≠ "java/lang/invoke/MethodHandle" ∧ z.cls ≠ "java/lang/invoke/VarHandle") {a : Addr} (argsL rest : List Value) (M : Met l Z z cb cm none [] rm as h ws' C') (has : (.ref a :: argsL).toArray = as) (hst : st = argsL.reverse ++ .ref a :: rest) (hpd : parseMethodDescriptor z.desc = some ⟨ps, rt⟩) (hlen : argsL.length = ps.length) (hLs : Ls.size = maxL)
    (W : Nat) (hW : (rest.map fun v => v.category).sum = W) (hf : rm.frames + 1 ≤ R.frames) (hl : W + (cm + 11) + rm.locals ≤ R.locals) (hc : cl + rm.cells ≤ R.cells) (hs : sl + rm.slots ≤ R.slots) (hws : ∀ x ∈ ws', x ∈ ws ∨ h0.size ≤ x)
    (k : ∀ v h', Keep h h' ws' → C' v h' → B.G h' (cl + rm.cells) (sl + rm.slots) (mkF m pc' Ls (v.toList ++ rest))) : B.G h cl sl (mkF m pc Ls st) := fun T locs X N eT => by
  subst hp
  have hZ := B.2.2.2.1
  obtain ⟨v, _, ⟨T', L', k', n'⟩, -, X', ⟨Lc, hQ, l', y', z'⟩, stp⟩ := X.specialBack B.1 (y := z) hin B.2.2.2.2.1 (mvT hZ w1) (mvT hZ w2) (mvT hZ w4) hz (backOf (W := W) M hZ w4 w3 hf hl) (g := mkF m pc Ls st) rfl (hLs.trans B.2.2.1.symm) (Steps.refl _) (a := a) (argsL := argsL) (rest := rest) (lenOf hpd hlen) hst (by show 2 * 0 + _ ≤ _; omega) (hb B.2.1 hd) (fun _ _ => ⟨has, eT, hc, hs⟩)
  dsimp only [Pt.U, Pt.locs, Pt.cells, Pt.slots] at X' l' y' z' stp hQ
  subst l' y' z'
  obtain ⟨hC, hN, hK⟩ := hQ
  obtain ⟨t, o, q, r⟩ := k v T'.heap hK hC T' _ X' (N.app fun u hu => (hN u hu).elim (fun q => hws _ q) fun q => Or.inr (Nat.le_trans (by rw [← eT]; exact B.size X) q)) rfl
  exact ⟨t, o, stp.trans q, r⟩
theorem Base.callV (B : Base p l e R s m args below meth c Z y bytes maxL ret h0 ws C) (pc' : Nat) (hp : pc' = pc + 3) (hd : decode bytes pc = .ok (.invokevirtual i, 3)) {CC : String}
    (w1 : (Cond.methodLink y.cls i z).before a0 Z = true) (w2 : (Cond.declares z).before a0 Z = true) (w5 : (Cond.selects CC z z).before a0 Z = true) (w6 : (Cond.instanceMethod z).before a0 Z = true) (w3 : (Cond.initialized z.cls).before a0 Z = true) (w4 : (Cond.code z cb cm cr).before a0 Z = true)
    (hz : z.cls ≠ "java/lang/invoke/MethodHandle" ∧ z.cls ≠ "java/lang/invoke/VarHandle") {a : Addr} (E : Exa Z h a CC) (argsL rest : List Value) (M : Met l Z z cb cm cr [] rm as h ws' C') (has : (.ref a :: argsL).toArray = as) (hst : st = argsL.reverse ++ .ref a :: rest) (hpd : parseMethodDescriptor z.desc = some ⟨ps, rt⟩) (hlen : argsL.length = ps.length) (hLs : Ls.size = maxL)
    (W : Nat) (hW : (rest.map fun v => v.category).sum = W) (hf : rm.frames + 1 ≤ R.frames) (hl : W + (cm + 11) + rm.locals ≤ R.locals) (hc : cl + rm.cells ≤ R.cells) (hs : sl + rm.slots ≤ R.slots) (hws : ∀ x ∈ ws', x ∈ ws ∨ h0.size ≤ x)
    (k : ∀ v h', Keep h h' ws' → C' v h' → B.G h' (cl + rm.cells) (sl + rm.slots) (mkF m pc' Ls (v.toList ++ rest))) : B.G h cl sl (mkF m pc Ls st) := fun T locs X N eT => by
  subst hp
  have hZ := B.2.2.2.1
  obtain ⟨cq, kq, qa, qb, qc⟩ := isOf hZ eT E
  obtain ⟨v, _, ⟨T', L', k', n'⟩, -, X', ⟨Lc, hQ, l', y', z'⟩, stp⟩ := X.virtualBack B.1 (y := z) (z := z) B.2.2.2.2.1 (mvT hZ w1) (mvT hZ w2) (notFace_of_selects (args := args) (mvT hZ w5)) (mvT hZ w5) (mvT hZ w6) hz (backOf (W := W) M hZ w4 w3 hf hl) qa qc (g := mkF m pc Ls st) rfl (hLs.trans B.2.2.1.symm) (Steps.refl _) (argsL := argsL) (rest := rest) (lenOf hpd hlen) hst (by show 2 * 0 + _ ≤ _; omega) (hb B.2.1 hd) (fun _ _ => ⟨has, eT, hc, hs⟩)
  dsimp only [Pt.U, Pt.locs, Pt.cells, Pt.slots] at X' l' y' z' stp hQ
  subst l' y' z'
  obtain ⟨hC, hN, hK⟩ := hQ
  obtain ⟨t, o, q, r⟩ := k v T'.heap hK hC T' _ X' (N.app fun u hu => (hN u hu).elim (fun q => hws _ q) fun q => Or.inr (Nat.le_trans (by rw [← eT]; exact B.size X) q)) rfl
  exact ⟨t, o, stp.trans q, r⟩
theorem Base.callVU (B : Base p l e R s m args below meth c Z y bytes maxL ret h0 ws C) (pc' : Nat) (hp : pc' = pc + 3) (hd : decode bytes pc = .ok (.invokevirtual i, 3)) {x : MethodName} {CC ow : String}
    (w1 : (Cond.methodLink y.cls i x).before a0 Z = true) (w0 : (Cond.sameMethod x.cls ow x.name x.desc).before a0 Z = true) (w2 : (Cond.declares ⟨ow, x.name, x.desc⟩).before a0 Z = true) (w5 : (Cond.selects CC x z).before a0 Z = true) (w6 : (Cond.instanceMethod z).before a0 Z = true) (w3 : (Cond.initialized z.cls).before a0 Z = true) (w4 : (Cond.code z cb cm cr).before a0 Z = true)
    (hz : ow ≠ "java/lang/invoke/MethodHandle" ∧ ow ≠ "java/lang/invoke/VarHandle") {a : Addr} (E : Exa Z h a CC) (argsL rest : List Value) (M : Met l Z z cb cm cr [] rm as h ws' C') (has : (.ref a :: argsL).toArray = as) (hst : st = argsL.reverse ++ .ref a :: rest) (hpd : parseMethodDescriptor x.desc = some ⟨ps, rt⟩) (hlen : argsL.length = ps.length) (hLs : Ls.size = maxL)
    (W : Nat) (hW : (rest.map fun v => v.category).sum = W) (hf : rm.frames + 1 ≤ R.frames) (hl : W + (cm + 11) + rm.locals ≤ R.locals) (hc : cl + rm.cells ≤ R.cells) (hs : sl + rm.slots ≤ R.slots) (hws : ∀ x ∈ ws', x ∈ ws ∨ h0.size ≤ x)
    (k : ∀ v h', Keep h h' ws' → C' v h' → B.G h' (cl + rm.cells) (sl + rm.slots) (mkF m pc' Ls (v.toList ++ rest))) : B.G h cl sl (mkF m pc Ls st) := fun T locs X N eT => by
  subst hp
  have hZ := B.2.2.2.1
  obtain ⟨cq, kq, qa, qb, qc⟩ := isOf hZ eT E
  obtain ⟨v, _, ⟨T', L', k', n'⟩, -, X', ⟨Lc, hQ, l', y', z'⟩, stp⟩ := X.virtualBackUp B.1 (x := x) (y := z) B.2.2.2.2.1 (mvT hZ w1) (mvT hZ w0) (mvT hZ w2) hz (mvT hZ w5) (mvT hZ w6) (backOf (W := W) M hZ w4 w3 hf hl) qa qc (g := mkF m pc Ls st) rfl (hLs.trans B.2.2.1.symm) (Steps.refl _) (argsL := argsL) (rest := rest) (lenOf hpd hlen) hst (by show 2 * 0 + _ ≤ _; omega) (hb B.2.1 hd) (fun _ _ => ⟨has, eT, hc, hs⟩)
  dsimp only [Pt.U, Pt.locs, Pt.cells, Pt.slots] at X' l' y' z' stp hQ
  subst l' y' z'
  obtain ⟨hC, hN, hK⟩ := hQ
  obtain ⟨t, o, q, r⟩ := k v T'.heap hK hC T' _ X' (N.app fun u hu => (hN u hu).elim (fun q => hws _ q) fun q => Or.inr (Nat.le_trans (by rw [← eT]; exact B.size X) q)) rfl
  exact ⟨t, o, stp.trans q, r⟩
theorem Base.callP (B : Base p l e R s m args below meth c Z y bytes maxL ret h0 ws C) (pc' : Nat) (hp : pc' = pc + 3) (hd : decode bytes pc = .ok (.invokevirtual i, 3)) {x : MethodName} {CC : String}
    (w1 : (Cond.methodLink y.cls i z).before a0 Z = true) (w7 : (Cond.privateMethod z).before a0 Z = true) (w6 : (Cond.instanceMethod z).before a0 Z = true) (w5 : (Cond.selects CC x x).before a0 Z = true) (hxc : x.cls = z.cls) (w3 : (Cond.initialized z.cls).before a0 Z = true) (w4 : (Cond.code z cb cm cr).before a0 Z = true)
    (hz : z.cls ≠ "java/lang/invoke/MethodHandle" ∧ z.cls ≠ "java/lang/invoke/VarHandle") {a : Addr} {CE : String} (E : Exa Z h a CE) (argsL rest : List Value) (M : Met l Z z cb cm cr [] rm as h ws' C') (has : (.ref a :: argsL).toArray = as) (hst : st = argsL.reverse ++ .ref a :: rest) (hpd : parseMethodDescriptor z.desc = some ⟨ps, rt⟩) (hlen : argsL.length = ps.length) (hLs : Ls.size = maxL)
    (W : Nat) (hW : (rest.map fun v => v.category).sum = W) (hf : rm.frames + 1 ≤ R.frames) (hl : W + (cm + 11) + rm.locals ≤ R.locals) (hc : cl + rm.cells ≤ R.cells) (hs : sl + rm.slots ≤ R.slots) (hws : ∀ x ∈ ws', x ∈ ws ∨ h0.size ≤ x)
    (k : ∀ v h', Keep h h' ws' → C' v h' → B.G h' (cl + rm.cells) (sl + rm.slots) (mkF m pc' Ls (v.toList ++ rest))) : B.G h cl sl (mkF m pc Ls st) := fun T locs X N eT => by
  subst hp
  have hZ := B.2.2.2.1
  obtain ⟨cq, q1, q2⟩ := E.cell
  have hpr : s.PrivateAt z := Cond.privateMethod_at (mvP hZ w7 (args := args))
  have hi : (Cond.instanceMethod z).before args s = true := mvT hZ w6
  have hsel : (Cond.selects z.cls z z).before args s = true := by
    obtain ⟨c2, r2, m2, -, -, q3, -, kP, hkP, hkPi⟩ := Cond.selects_spec (mvT hZ w5 (args := args))
    have hc2 := findClass_of_methodNamed q3
    rw [hxc] at hc2
    exact selects_self_of_private hc2 hkP hkPi hpr hi hz
  obtain ⟨v, _, ⟨T', L', k', n'⟩, -, X', ⟨Lc, hQ, l', y', z'⟩, stp⟩ := X.privateBack B.1 (y := z) B.2.2.2.2.1 (mvT hZ w1) hi hsel hpr (mvT hZ w4) hz (backOf (W := W) M hZ w4 w3 hf hl) (g := mkF m pc Ls st) rfl (hLs.trans B.2.2.1.symm) (Steps.refl _) (a := a) (by rw [eT]; exact q1) q2 (argsL := argsL) (rest := rest) (lenOf hpd hlen) hst (by show 2 * 0 + _ ≤ _; omega) (hb B.2.1 hd) (fun _ _ => ⟨has, eT, hc, hs⟩)
  dsimp only [Pt.U, Pt.locs, Pt.cells, Pt.slots] at X' l' y' z' stp hQ
  subst l' y' z'
  obtain ⟨hC, hN, hK⟩ := hQ
  obtain ⟨t, o, q, r⟩ := k v T'.heap hK hC T' _ X' (N.app fun u hu => (hN u hu).elim (fun q => hws _ q) fun q => Or.inr (Nat.le_trans (by rw [← eT]; exact B.size X) q)) rfl
  exact ⟨t, o, stp.trans q, r⟩
end Calls
/-- where nothing old is written, all that stood at the start stands -/
theorem Base.olds (B : Base p l e R s m args below meth c Z y bytes maxL ret h0 [] C) (k : Ext h0 h → B.G h cl sl g) : B.G h cl sl g := fun T locs X N eT => by
  refine k ?_ T locs X N eT
  have e0 := B.2.2.2.2.2.2.2.2
  have N' := N
  rw [← e0] at N'
  have q := keep_of X N'
  rw [e0, eT] at q
  exact ⟨q.1, fun a c hc => q.2.1 a c hc (by simp)⟩
end Walk
/-! 3b. arrays: 'Ary': the array at a holds just the list vs -/
def Ary (Z : State) (h : Heap) (a : Addr) (ty : FieldType) (vs : List Value) : Prop := ∃ c : Cell, Arr Z h a c ty ∧ c.slots.toList = vs
section Arrays
variable {p : Program} {l : Launch} {e : Env} {R : Room} {s : State} {m : MethodId} {args : Array Value} {below : List Frame} {meth : Method} {c : Code} {Z : State} {a0 : Array Value} {y : MethodName} {bytes : ByteArray} {maxL : Nat} {ret : Option FieldType} {h0 : Heap} {ws : List Addr} {C : Option Value → Heap → Prop}
variable {h h' : Heap} {cl sl : Nat} {g g' : JFrame} {pc : Nat} {Ls : Array Slot} {st : List Value} {a b : Addr} {ty : FieldType} {vs : List Value} {j : Int32} {i : Nat} {v w : Value} {wl : List Addr}
theorem Ary.lt (A : Ary Z h a ty vs) : a < h.size := by obtain ⟨c, A, -⟩ := A; exact A.lt
theorem Ary.ext (A : Ary Z h a ty vs) (E : Ext h h') : Ary Z h' a ty vs := by obtain ⟨c, A, r⟩ := A; exact ⟨c, A.ext E, r⟩
theorem Ary.other (A : Ary Z h b ty vs) (W : Wr h h' a i v) (q : b ≠ a) : Ary Z h' b ty vs := by obtain ⟨c, A, r⟩ := A; exact ⟨c, A.other W q, r⟩
theorem Ary.keep (A : Ary Z h a ty vs) (K : Keep h h' wl) (q : a ∉ wl) : Ary Z h' a ty vs := by obtain ⟨c, A, r⟩ := A; exact ⟨c, ⟨K.2.1 a c A.1 q, A.2⟩, r⟩
theorem Ary.set (A : Ary Z h a ty vs) (W : Wr h h' a i v) : Ary Z h' a ty (vs.set i v) := by
  obtain ⟨c, A, rfl⟩ := A
  exact ⟨_, A.same W, by simp [Cell.setSlot]⟩
theorem Ary.new {cA : ClassId} {n : Int32} (A : Arr Z h a (newA cA ty n) ty) : Ary Z h a ty (List.replicate n.toNatClampNeg (defaultValue ty)) := ⟨_, A, by simp [newA]⟩
theorem ary_in {c : Cell} (r : c.slots.toList = vs) (hj : ¬ j < 0) (hi : j.toNatClampNeg = i) (hv : vs[i]? = some v) : ¬ (j < 0 ∨ c.slots.size ≤ j.toNatClampNeg) ∧ c.slots[j.toNatClampNeg]? = some v := by
  subst r hi
  rw [Array.getElem?_toList] at hv
  exact ⟨fun q => q.elim hj fun q => absurd (Array.getElem?_eq_some_iff.mp hv).1 (Nat.not_lt.mpr q), hv⟩
theorem ary_lt {c : Cell} (r : c.slots.toList = vs) (hj : ¬ j < 0) (hi : j.toNatClampNeg = i) (hv : i < vs.length) : ¬ (j < 0 ∨ c.slots.size ≤ j.toNatClampNeg) := by
  subst r hi
  rw [Array.length_toList] at hv
  exact fun q => q.elim hj fun q => absurd hv (Nat.not_lt.mpr q)
theorem Base.arrlen (B : Base p l e R s m args below meth c Z y bytes maxL ret h0 ws C) (pc' : Nat) (hp : pc' = pc + 1) (hd : decode bytes pc = .ok (.arraylength, 1)) (A : Ary Z h a ty vs) (n : Int32) (hn : vs.length.toInt32 = n) (k : B.G h cl sl (mkF m pc' Ls (.int n :: st))) : B.G h cl sl (mkF m pc Ls (.ref a :: st)) := by
  subst hp hn
  obtain ⟨c1, A, rfl⟩ := A
  rw [Array.length_toList] at k
  exact B.viaX (fun T t L X eT r => X.arraylength (g := mkF m pc Ls (.ref a :: st)) B.1 (by rw [eT]; exact A.1) (State.isArrayOf_alike (T := s) B.2.2.2.1.alike A.2.1) rfl rfl (hb B.2.1 hd) t r) k
theorem Base.baload (B : Base p l e R s m args below meth c Z y bytes maxL ret h0 ws C) (pc' : Nat) (hp : pc' = pc + 1) (hd : decode bytes pc = .ok (.baload, 1)) (A : Ary Z h a .byte vs) (hj : ¬ j < 0) (i : Nat) (hi : j.toNatClampNeg = i) (v : Value) (hv : vs[i]? = some v) (k : B.G h cl sl (mkF m pc' Ls (v :: st))) : B.G h cl sl (mkF m pc Ls (.int j :: .ref a :: st)) := by
  subst hp
  obtain ⟨c1, A, r⟩ := A
  obtain ⟨q1, q2⟩ := ary_in r hj hi hv
  exact B.viaX (fun T t L X eT r => X.baloadBytes (g := mkF m pc Ls (.int j :: .ref a :: st)) B.1 (by rw [eT]; exact A.1) (State.isArrayOf_alike (T := s) B.2.2.2.1.alike A.2.1) A.2.2 q1 q2 rfl rfl (hb B.2.1 hd) t r) k
theorem Base.iaload (B : Base p l e R s m args below meth c Z y bytes maxL ret h0 ws C) (pc' : Nat) (hp : pc' = pc + 1) (hd : decode bytes pc = .ok (.iaload, 1)) (A : Ary Z h a .int vs) (hj : ¬ j < 0) (i : Nat) (hi : j.toNatClampNeg = i) (v : Value) (hv : vs[i]? = some v) (k : B.G h cl sl (mkF m pc' Ls (v :: st))) : B.G h cl sl (mkF m pc Ls (.int j :: .ref a :: st)) := by
  subst hp
  obtain ⟨c1, A, r⟩ := A
  obtain ⟨q1, q2⟩ := ary_in r hj hi hv
  exact B.viaX (fun T t L X eT r => X.iaload (g := mkF m pc Ls (.int j :: .ref a :: st)) B.1 (by rw [eT]; exact A.1) (State.isArrayOf_alike (T := s) B.2.2.2.1.alike A.2.1) A.2.2 q1 q2 rfl rfl (hb B.2.1 hd) t r) k
theorem Base.laload (B : Base p l e R s m args below meth c Z y bytes maxL ret h0 ws C) (pc' : Nat) (hp : pc' = pc + 1) (hd : decode bytes pc = .ok (.laload, 1)) (A : Ary Z h a .long vs) (hj : ¬ j < 0) (i : Nat) (hi : j.toNatClampNeg = i) (v : Value) (hv : vs[i]? = some v) (k : B.G h cl sl (mkF m pc' Ls (v :: st))) : B.G h cl sl (mkF m pc Ls (.int j :: .ref a :: st)) := by
  subst hp
  obtain ⟨c1, A, r⟩ := A
  obtain ⟨q1, q2⟩ := ary_in r hj hi hv
  exact B.viaX (fun T t L X eT r => X.laload (g := mkF m pc Ls (.int j :: .ref a :: st)) B.1 (by rw [eT]; exact A.1) (State.isArrayOf_alike (T := s) B.2.2.2.1.alike A.2.1) A.2.2 q1 q2 rfl rfl (hb B.2.1 hd) t r) k
theorem Base.newP (B : Base p l e R s m args below meth c Z y bytes maxL ret h0 ws C) (pc' : Nat) (hp : pc' = pc + 2) {aty : ArrayType} (hd : decode bytes pc = .ok (.newarray aty, 2)) (w : (Cond.arrayClass (newarray.typeOf aty)).before a0 Z = true) {n : Int32} (hn : ¬ n < 0) (cap : Nat) (hcap : n.toNatClampNeg ≤ cap) (hb' : cap * 8 ≤ 536870912) (hc : cl + 1 ≤ R.cells) (hs : sl + cap ≤ R.slots)
    (k : ∀ h' a, a = h.size → h0.size ≤ a → Ext h h' → Ary Z h' a (newarray.typeOf aty) (List.replicate n.toNatClampNeg (defaultValue (newarray.typeOf aty))) → B.G h' (cl + 1) (sl + cap) (mkF m pc' Ls (.ref a :: st))) : B.G h cl sl (mkF m pc Ls (.int n :: st)) := fun T locs X N eT => by
  subst hp
  obtain ⟨T', h', cA, X', e', E, A, stp⟩ := Jvm.RoadKit.newP X B.1 B.2.2.2.1 w eT (g := mkF m pc Ls (.int n :: st)) rfl (hb B.2.1 hd) rfl hn hcap hb' hc hs
  obtain ⟨t, o, q, r⟩ := k h' _ rfl (by rw [← eT]; exact B.size X) E (Ary.new A) T' locs X' N e'
  exact ⟨t, o, stp _ q, r⟩
theorem Base.bastore (B : Base p l e R s m args below meth c Z y bytes maxL ret h0 ws C) (pc' : Nat) (hp : pc' = pc + 1) (hd : decode bytes pc = .ok (.bastore, 1)) (A : Ary Z h a .byte vs) (hj : ¬ j < 0) (i : Nat) (hi : j.toNatClampNeg = i) (hlt : i < vs.length) (hw : a ∈ ws ∨ h0.size ≤ a) {x : Int32} (k : ∀ h', Wr h h' a i (.int x.toInt8.toInt32) → Ary Z h' a .byte (vs.set i (.int x.toInt8.toInt32)) → B.G h' cl sl (mkF m pc' Ls st)) : B.G h cl sl (mkF m pc Ls (.int x :: .int j :: .ref a :: st)) := fun T locs X N eT => by
  subst hp
  obtain ⟨c1, A1, r1⟩ := A
  obtain ⟨T', h', X', e', W, stp⟩ := stB X B.1 B.2.2.2.1 eT A1 (ary_lt r1 hj hi hlt) (g := mkF m pc Ls (.int x :: .int j :: .ref a :: st)) rfl rfl (hb B.2.1 hd)
  rw [hi] at W
  obtain ⟨t, o, q, r⟩ := k h' W (Ary.set ⟨c1, A1, r1⟩ W) T' _ X' (N.one hw) e'
  exact ⟨t, o, stp _ q, r⟩
theorem Base.iastore (B : Base p l e R s m args below meth c Z y bytes maxL ret h0 ws C) (pc' : Nat) (hp : pc' = pc + 1) (hd : decode bytes pc = .ok (.iastore, 1)) (A : Ary Z h a .int vs) (hj : ¬ j < 0) (i : Nat) (hi : j.toNatClampNeg = i) (hlt : i < vs.length) (hw : a ∈ ws ∨ h0.size ≤ a) {x : Int32} (k : ∀ h', Wr h h' a i (.int x) → Ary Z h' a .int (vs.set i (.int x)) → B.G h' cl sl (mkF m pc' Ls st)) : B.G h cl sl (mkF m pc Ls (.int x :: .int j :: .ref a :: st)) := fun T locs X N eT => by
  subst hp
  obtain ⟨c1, A1, r1⟩ := A
  obtain ⟨T', h', X', e', W, stp⟩ := stI X B.1 B.2.2.2.1 eT A1 (ary_lt r1 hj hi hlt) (g := mkF m pc Ls (.int x :: .int j :: .ref a :: st)) rfl rfl (hb B.2.1 hd)
  rw [hi] at W
  obtain ⟨t, o, q, r⟩ := k h' W (Ary.set ⟨c1, A1, r1⟩ W) T' _ X' (N.one hw) e'
  exact ⟨t, o, stp _ q, r⟩
theorem Base.lastore (B : Base p l e R s m args below meth c Z y bytes maxL ret h0 ws C) (pc' : Nat) (hp : pc' = pc + 1) (hd : decode bytes pc = .ok (.lastore, 1)) (A : Ary Z h a .long vs) (hj : ¬ j < 0) (i : Nat) (hi : j.toNatClampNeg = i) (hlt : i < vs.length) (hw : a ∈ ws ∨ h0.size ≤ a) {x : Int64} (k : ∀ h', Wr h h' a i (.long x) → Ary Z h' a .long (vs.set i (.long x)) → B.G h' cl sl (mkF m pc' Ls st)) : B.G h cl sl (mkF m pc Ls (.long x :: .int j :: .ref a :: st)) := fun T locs X N eT => by
  subst hp
  obtain ⟨c1, A1, r1⟩ := A
  obtain ⟨T', h', X', e', W, stp⟩ := stJ X B.1 B.2.2.2.1 eT A1 (ary_lt r1 hj hi hlt) (g := mkF m pc Ls (.long x :: .int j :: .ref a :: st)) rfl rfl (hb B.2.1 hd)
  rw [hi] at W
  obtain ⟨t, o, q, r⟩ := k h' W (Ary.set ⟨c1, A1, r1⟩ W) T' _ X' (N.one hw) e'
  exact ⟨t, o, stp _ q, r⟩
theorem Base.caload (B : Base p l e R s m args below meth c Z y bytes maxL ret h0 ws C) (pc' : Nat) (hp : pc' = pc + 1) (hd : decode bytes pc = .ok (.caload, 1)) (A : Ary Z h a .char vs) (hj : ¬ j < 0) (i : Nat) (hi : j.toNatClampNeg = i) (v : Value) (hv : vs[i]? = some v) (k : B.G h cl sl (mkF m pc' Ls (v :: st))) : B.G h cl sl (mkF m pc Ls (.int j :: .ref a :: st)) := by
  subst hp
  obtain ⟨c1, A, r⟩ := A
  obtain ⟨q1, q2⟩ := ary_in r hj hi hv
  exact B.viaX (fun T t L X eT r => X.caload (g := mkF m pc Ls (.int j :: .ref a :: st)) B.1 (by rw [eT]; exact A.1) (State.isArrayOf_alike (T := s) B.2.2.2.1.alike A.2.1) A.2.2 q1 q2 rfl rfl (hb B.2.1 hd) t r) k
theorem Base.castore (B : Base p l e R s m args below meth c Z y bytes maxL ret h0 ws C) (pc' : Nat) (hp : pc' = pc + 1) (hd : decode bytes pc = .ok (.castore, 1)) (A : Ary Z h a .char vs) (hj : ¬ j < 0) (i : Nat) (hi : j.toNatClampNeg = i) (hlt : i < vs.length) (hw : a ∈ ws ∨ h0.size ≤ a) {x : Int32} (k : ∀ h', Wr h h' a i (.int x.toUInt32.toUInt16.toUInt32.toInt32) → Ary Z h' a .char (vs.set i (.int x.toUInt32.toUInt16.toUInt32.toInt32)) → B.G h' cl sl (mkF m pc' Ls st)) : B.G h cl sl (mkF m pc Ls (.int x :: .int j :: .ref a :: st)) := fun T locs X N eT => by
  subst hp
  obtain ⟨c1, A1, r1⟩ := A
  obtain ⟨T', h', X', e', W, stp⟩ := stC X B.1 B.2.2.2.1 eT A1 (ary_lt r1 hj hi hlt) (g := mkF m pc Ls (.int x :: .int j :: .ref a :: st)) rfl rfl (hb B.2.1 hd)
  rw [hi] at W
  obtain ⟨t, o, q, r⟩ := k h' W (Ary.set ⟨c1, A1, r1⟩ W) T' _ X' (N.one hw) e'
  exact ⟨t, o, stp _ q, r⟩
theorem Base.newPE (B : Base p l e R s m args below meth c Z y bytes maxL ret h0 ws C) (pc' : Nat) (hp : pc' = pc + 2) {aty : ArrayType} (hd : decode bytes pc = .ok (.newarray aty, 2)) (w : (Cond.arrayClass (newarray.typeOf aty)).before a0 Z = true) {n : Int32} (hn : ¬ n < 0) (cap : Nat) (hcap : n.toNatClampNeg ≤ cap) (hb' : cap * 8 ≤ 536870912) (hc : cl + 1 ≤ R.cells) (hs : sl + cap ≤ R.slots) (ad : String) (had : "[" ++ (newarray.typeOf aty).toString = ad)
    (k : ∀ h' a, a = h.size → h0.size ≤ a → Ext h h' → Ary Z h' a (newarray.typeOf aty) (List.replicate n.toNatClampNeg (defaultValue (newarray.typeOf aty))) → Exa Z h' a ad → B.G h' (cl + 1) (sl + cap) (mkF m pc' Ls (.ref a :: st))) : B.G h cl sl (mkF m pc Ls (.int n :: st)) := fun T locs X N eT => by
  subst hp
  obtain ⟨T', h', cA, X', e', E, A, A2, stp⟩ := Jvm.RoadKit.newPE X B.1 B.2.2.2.1 w eT (g := mkF m pc Ls (.int n :: st)) rfl (hb B.2.1 hd) rfl hn hcap hb' hc hs had
  obtain ⟨t, o, q, r⟩ := k h' _ rfl (by rw [← eT]; exact B.size X) E (Ary.new A) A2 T' locs X' N e'
  exact ⟨t, o, stp _ q, r⟩
theorem Base.clone (B : Base p l e R s m args below meth c Z y bytes maxL ret h0 ws C) (pc' : Nat) (hp : pc' = pc + 3) {ix : Nat} {ad : String} (hd : decode bytes pc = .ok (.invokevirtual ix, 3))
    (w1 : (Cond.methodLink y.cls ix ⟨ad, "clone", "()Ljava/lang/Object;"⟩).before a0 Z = true) (w2 : (Cond.sameMethod ad "java/lang/Object" "clone" "()Ljava/lang/Object;").before a0 Z = true) (w3 : (Cond.native ⟨"java/lang/Object", "clone", "()Ljava/lang/Object;"⟩).before a0 Z = true)
    (w4 : (Cond.instanceMethod ⟨"java/lang/Object", "clone", "()Ljava/lang/Object;"⟩).before a0 Z = true) (w5 : (Cond.selects ad ⟨ad, "clone", "()Ljava/lang/Object;"⟩ ⟨"java/lang/Object", "clone", "()Ljava/lang/Object;"⟩).before a0 Z = true) (w6 : (Cond.castable ad "java/lang/Cloneable").before a0 Z = true)
    (A : Ary Z h a ty vs) (E : Exa Z h a ad) (hfit : ∀ v ∈ vs, fits ty v = true) (hLs : Ls.size = maxL) (W : Nat) (hW : (st.map fun v => v.category).sum = W) (hf : 1 ≤ R.frames) (hl : W + 14 ≤ R.locals) (cap : Nat) (hcap : vs.length ≤ cap) (hc : cl + 1 ≤ R.cells) (hs : sl + cap ≤ R.slots)
    (k : ∀ h' b, b = h.size → h0.size ≤ b → Ext h h' → Ary Z h' b ty vs → Exa Z h' b ad → B.G h' (cl + 1) (sl + cap) (mkF m pc' Ls (.ref b :: st))) : B.G h cl sl (mkF m pc Ls (.ref a :: st)) := fun T locs X N eT => by
  subst hp
  obtain ⟨c1, A1, r1⟩ := A
  have FC : FitC Z c1 := fitC_of A1 fun i hi v hv => hfit v (by rw [← r1]; exact Array.mem_toList_iff.mpr (Array.mem_of_getElem? hv))
  obtain ⟨T', h', X', e', ex, A', E', stp⟩ := cloneA X B.1 B.2.2.2.1 B.2.2.2.2.1 w1 w2 w3 w4 w5 w6 eT A1 E FC (g := mkF m pc Ls (.ref a :: st)) rfl (hLs.trans B.2.2.1.symm) rfl (hb B.2.1 hd) hf (W := W) (cap := cap) (by show 2 * 0 + _ ≤ _; omega) hl (by rw [← r1, Array.length_toList] at hcap; exact hcap) hc hs
  obtain ⟨t, o, q, r⟩ := k h' _ rfl (by rw [← eT]; exact B.size X) ex ⟨_, A', r1⟩ E' T' locs X' N e'
  exact ⟨t, o, stp _ q, r⟩
theorem Base.castY (B : Base p l e R s m args below meth c Z y bytes maxL ret h0 ws C) (pc' : Nat) (hp : pc' = pc + 3) {ix : Nat} {K : String} (hd : decode bytes pc = .ok (.checkcast ix, 3)) (w : (Cond.classLink y.cls ix K).before a0 Z = true) (F : Ins Z h a K true) (k : B.G h cl sl (mkF m pc' Ls (.ref a :: st))) : B.G h cl sl (mkF m pc Ls (.ref a :: st)) := fun T locs X N eT => by
  subst hp
  obtain ⟨T', X', e', stp⟩ := Jvm.RoadKit.castY X B.1 B.2.2.2.1 B.2.2.2.2.1 w eT F (g := mkF m pc Ls (.ref a :: st)) rfl rfl (hb B.2.1 hd)
  obtain ⟨t, o, q, r⟩ := k T' locs X' N e'
  exact ⟨t, o, stp _ q, r⟩
theorem Base.instY (B : Base p l e R s m args below meth c Z y bytes maxL ret h0 ws C) (pc' : Nat) (hp : pc' = pc + 3) {ix : Nat} {K : String} (hd : decode bytes pc = .ok (.instanceof ix, 3)) (w : (Cond.classLink y.cls ix K).before a0 Z = true) (F : Ins Z h a K true) (k : B.G h cl sl (mkF m pc' Ls (.int 1 :: st))) : B.G h cl sl (mkF m pc Ls (.ref a :: st)) := fun T locs X N eT => by
  subst hp
  obtain ⟨T', X', e', stp⟩ := Jvm.RoadKit.instY X B.1 B.2.2.2.1 B.2.2.2.2.1 w eT F (g := mkF m pc Ls (.ref a :: st)) rfl rfl (hb B.2.1 hd)
  obtain ⟨t, o, q, r⟩ := k T' locs X' N e'
  exact ⟨t, o, stp _ q, r⟩
theorem Base.instN (B : Base p l e R s m args below meth c Z y bytes maxL ret h0 ws C) (pc' : Nat) (hp : pc' = pc + 3) {ix : Nat} {K CC : String} (hd : decode bytes pc = .ok (.instanceof ix, 3)) (w : (Cond.classLink y.cls ix K).before a0 Z = true) (E : Exa Z h a CC) (F : ∃ c t, Z.vm.findClass CC = some c ∧ Z.vm.findClass K = some t ∧ Z.vm.assignable c t = false) (k : B.G h cl sl (mkF m pc' Ls (.int 0 :: st))) : B.G h cl sl (mkF m pc Ls (.ref a :: st)) := fun T locs X N eT => by
  subst hp
  obtain ⟨T', X', e', stp⟩ := instNo X B.1 B.2.2.2.1 B.2.2.2.2.1 w eT E F (g := mkF m pc Ls (.ref a :: st)) rfl rfl (hb B.2.1 hd)
  obtain ⟨t, o, q, r⟩ := k T' locs X' N e'
  exact ⟨t, o, stp _ q, r⟩
theorem Base.inst0 (B : Base p l e R s m args below meth c Z y bytes maxL ret h0 ws C) (pc' : Nat) (hp : pc' = pc + 3) {ix : Nat} (hd : decode bytes pc = .ok (.instanceof ix, 3)) (k : B.G h cl sl (mkF m pc' Ls (.int 0 :: st))) : B.G h cl sl (mkF m pc Ls (.null :: st)) := by
  subst hp
  exact B.viaX (fun T t L X eT r => X.instanceofNull B.1 (g := mkF m pc Ls (.null :: st)) rfl rfl (hb B.2.1 hd) t r) k
theorem Base.aaload (B : Base p l e R s m args below meth c Z y bytes maxL ret h0 ws C) (pc' : Nat) (hp : pc' = pc + 1) (hd : decode bytes pc = .ok (.aaload, 1)) (A : Ary Z h a ty vs) (hty : ty.isReference = true) (hj : ¬ j < 0) (i : Nat) (hi : j.toNatClampNeg = i) (v : Value) (hv : vs[i]? = some v) (k : B.G h cl sl (mkF m pc' Ls (v :: st))) : B.G h cl sl (mkF m pc Ls (.int j :: .ref a :: st)) := by
  subst hp
  obtain ⟨c1, A, r⟩ := A
  obtain ⟨q1, q2⟩ := ary_in r hj hi hv
  exact B.viaX (fun T t L X eT r => X.aaload (g := mkF m pc Ls (.int j :: .ref a :: st)) B.1 (by rw [eT]; exact A.1) (State.isArrayOf_alike (T := s) B.2.2.2.1.alike A.2.1) hty A.2.2 q1 q2 rfl rfl (hb B.2.1 hd) t r) k
theorem ns_root {O K : String} {n : Nat} (w : (Cond.noSuperclass O).before a0 Z = true) (wk : (Cond.instantiable K n).before a0 Z = true) (hn : O ≠ K) : NS Z O K := by
  obtain ⟨c, k, h1, h2, h3, -, -⟩ := Cond.noSuperclass_spec w
  obtain ⟨t, -, g1, -⟩ := Cond.instantiable_spec wk
  have ne := ids_ne h1 g1 hn
  refine ⟨c, t, h1, g1, fun fuel => ?_⟩
  cases fuel with
  | zero => rfl
  | succ f => simp [Vm.isSubclassAux, ne, h2, h3]
theorem ns_no {CC K : String} {n n' : Nat} (w : (Cond.instantiable CC n').before a0 Z = true) (wk : (Cond.instantiable K n).before a0 Z = true) (q : NS Z CC K) (hn : CC ≠ K) : ∃ c t, Z.vm.findClass CC = some c ∧ Z.vm.findClass K = some t ∧ Z.vm.assignable c t = false := by
  obtain ⟨c, t, h0, g0, n3⟩ := q
  obtain ⟨c1, k, h1, h2, h5, -⟩ := Cond.instantiable_spec w
  obtain ⟨t1, k', g1, g2, g5, g7, -⟩ := Cond.instantiable_spec wk
  cases h0.symm.trans h1
  cases g0.symm.trans g1
  have ne := ids_ne h0 g0 hn
  have g8 : k'.isInterface = false := by simp only [Bool.or_eq_false_iff] at g7; exact g7.1
  refine ⟨c, t, h0, g0, ?_⟩
  show Z.vm.assignableAux (255 + 1) c t = false
  simp [Vm.assignableAux, ne, h2, g2, h5, g5, g8, Vm.isSubclass, n3]
end Arrays
/-! 5. the words -/
theorem wd {L : List Jvm.Cond} {a0 : Array Value} {Z : State} (hw : ∀ d ∈ L, d.before a0 Z = true) (i : Nat) {d : Jvm.Cond} (q : L[i]? = some d) : d.before a0 Z = true := hw d (List.mem_of_getElem? q)
/-! 6. from the words of a case -/
theorem fld_start {args : Array Value} {s : State} {t : Term} {a : Addr} {O n d : String} {z : Int32} (ht : t.eval args s none [] s = some (.ref a)) (q : (Cond.eq (.field t O n d) (.int z)).value args s none s [] = some true) : Fld s s.heap a O n d (.int z) :=
  Fld.start ((fld_at ht).symm.trans (eqv_i rfl q))
theorem eval_int {args : Array Value} {s : State} {u w : Term} {z : Int32} (q : (Cond.eq u w).value args s none s [] = some true) (hw : w.eval args s none [] s = some (.int z)) : u.eval args s none [] s = some (.int z) := by
  cases hv : u.eval args s none [] s with
  | none => simp [Cond.value, hv] at q
  | some v =>
    cases v <;> simp [Cond.value, hv, hw] at q
    subst q; rfl
theorem eval_ref {args : Array Value} {s : State} {u w : Term} {z : Addr} (q : (Cond.eq u w).value args s none s [] = some true) (hw : w.eval args s none [] s = some (.ref z)) : u.eval args s none [] s = some (.ref z) := by
  cases hv : u.eval args s none [] s with
  | none => simp [Cond.value, hv] at q
  | some v =>
    cases v <;> simp [Cond.value, hv, hw] at q
    subst q; rfl
/-- an array of the start, of known length and places -/
theorem ary_start {args : Array Value} {s : State} {t : Term} {a : Addr} {ty : FieldType} {vs : List Value} {n : Int32} (ht : t.eval args s none [] s = some (.ref a)) (hA : (Cond.arrayOf t ty).value args s none s [] = some true)
    (hl : (Cond.eq (.length t) (.int n)).value args s none s [] = some true) (hn : n.toNatClampNeg = vs.length) (hn0 : ¬ n < 0) (he : ∀ i, i < vs.length → ∃ v, vs[i]? = some v ∧ (Term.elem t (.int (Int32.ofNat i))).eval args s none [] s = some v) : Ary s s.heap a ty vs := by
  obtain ⟨c, A⟩ := Arr.start ht hA
  have e1 := eval_int hl rfl
  simp only [Term.eval, ht, Option.bind_eq_bind, Option.bind_some] at e1
  have hat : s.arrayAt? a = some c := A.fin (Vm.Alike.refl _)
  rw [hat] at e1
  simp only [Option.bind_some] at e1
  split at e1
  · rename_i hs
    simp only [Option.pure_def, Option.some.injEq, Value.int.injEq] at e1
    have hsz : c.slots.size = vs.length := by
      rw [← hn, ← e1]
      have := len_toInt hs
      simp only [Int32.toNatClampNeg, this]; omega
    refine ⟨c, A, ?_⟩
    apply List.ext_getElem?
    intro i
    by_cases hi : i < vs.length
    · obtain ⟨v, q1, q2⟩ := he i hi
      obtain ⟨cell, r1, -, r3⟩ := elem_at q2 ht rfl
      cases A.1.symm.trans r1
      have : (Int32.ofNat i).toNatClampNeg = i := by
        have := Int32.toInt_ofNat_small (show i < 2 ^ 31 by omega)
        simp only [Int32.toNatClampNeg, this]; omega
      rw [this] at r3
      rw [q1, Array.getElem?_toList]; exact r3
    · rw [List.getElem?_eq_none (by rw [Array.length_toList, hsz]; omega), List.getElem?_eq_none (by omega)]
  · simp at e1
end Jvm.Own
namespace Jvm.Pilot.@@N@@
open Jvm Jvm.ClassFile Sem Op Lib Jvm.Free Jvm.Stand Jvm.LawKit Jvm.RoadKit Jvm.Own Bundle Jvm.Pilot.@@N@@.Jvm.D
theorem pd__IIII_I : parseMethodDescriptor "(IIII)I" = some ⟨[.int, .int, .int, .int], some .int⟩ := by decide +kernel
theorem pd__II_I : parseMethodDescriptor "(II)I" = some ⟨[.int, .int], some .int⟩ := by decide +kernel
theorem pd__IJ_J : parseMethodDescriptor "(IJ)J" = some ⟨[.int, .long], some .long⟩ := by decide +kernel
theorem pd__I_I : parseMethodDescriptor "(I)I" = some ⟨[.int], some .int⟩ := by decide +kernel
theorem pd__I_Z : parseMethodDescriptor "(I)Z" = some ⟨[.int], some .boolean⟩ := by decide +kernel
theorem pd__JJ_J : parseMethodDescriptor "(JJ)J" = some ⟨[.long, .long], some .long⟩ := by decide +kernel
theorem pd___BIIIJ_I : parseMethodDescriptor "([BIIIJ)I" = some ⟨[(.array .byte), .int, .int, .int, .long], some .int⟩ := by decide +kernel
theorem pd___BIII_I : parseMethodDescriptor "([BIII)I" = some ⟨[(.array .byte), .int, .int, .int], some .int⟩ := by decide +kernel
theorem pd___BIIJ_I : parseMethodDescriptor "([BIIJ)I" = some ⟨[(.array .byte), .int, .int, .long], some .int⟩ := by decide +kernel
theorem pd___BII_I : parseMethodDescriptor "([BII)I" = some ⟨[(.array .byte), .int, .int], some .int⟩ := by decide +kernel
theorem pd___BI_Z : parseMethodDescriptor "([BI)Z" = some ⟨[(.array .byte), .int], some .boolean⟩ := by decide +kernel
theorem pd___B_IIIIIII_I : parseMethodDescriptor "([B[IIIIIII)I" = some ⟨[(.array .byte), (.array .int), .int, .int, .int, .int, .int, .int], some .int⟩ := by decide +kernel
theorem pd___III_V : parseMethodDescriptor "([III)V" = some ⟨[(.array .int), .int, .int], none⟩ := by decide +kernel
theorem own_oi (k : Nat) (h : k ≤ 400) : (Int32.ofNat k).toInt = k := Int32.toInt_ofNat_of_lt (by omega)
theorem own_nn (k : Nat) (h : k ≤ 400) : ¬ Int32.ofNat k < 0 ∧ (Int32.ofNat k).toNatClampNeg = k := by
  have e := own_oi k h
  refine ⟨?_, by simp only [Int32.toNatClampNeg, e]; omega⟩
  rw [Int32.lt_iff_toInt_lt, e]; simp only [Int32.reduceToInt]; omega
theorem own_add (a b : Nat) : Int32.ofNat a + Int32.ofNat b = Int32.ofNat (a + b) := (Int32.ofNat_add a b).symm
theorem own_lt (a b : Nat) (ha : a ≤ 400) (hb : b ≤ 400) : Int32.ofNat a < Int32.ofNat b ↔ a < b := by rw [Int32.lt_iff_toInt_lt, own_oi a ha, own_oi b hb]; omega
theorem own_inj (a b : Nat) (ha : a ≤ 400) (hb : b ≤ 400) : Int32.ofNat a = Int32.ofNat b ↔ a = b := by rw [← Int32.toInt_inj, own_oi a ha, own_oi b hb]; omega
theorem own_dec (a : Nat) : Int32.ofNat (a + 1) + (-1) = Int32.ofNat a := by
  rw [← own_add, Int32.add_assoc, show Int32.ofNat 1 + (-1 : Int32) = 0 from by decide, Int32.add_zero]
theorem own_dec1 (a : Nat) : Int32.ofNat (a + 1) - 1 = Int32.ofNat a := by
  rw [Int32.sub_eq_add_neg]; exact own_dec a
theorem own_m1 (k : Nat) (h : k ≤ 400) : ¬ Int32.ofNat k = -1 := fun q => by
  have := congrArg Int32.toInt q; rw [own_oi k h] at this; simp at this <;> omega
theorem own_oiL (k : Nat) (h : k < 1099511627776) : (Int64.ofNat k).toInt = k := Int64.toInt_ofNat_of_lt (by omega)
theorem own_ladd (a b : Nat) : Int64.ofNat a + Int64.ofNat b = Int64.ofNat (a + b) := (Int64.ofNat_add a b).symm
theorem own_llt (a b : Nat) (ha : a < 1099511627776) (hb : b < 1099511627776) : Int64.ofNat a < Int64.ofNat b ↔ a < b := by rw [Int64.lt_iff_toInt_lt, own_oiL a ha, own_oiL b hb]; omega
theorem own_lm1 (k : Nat) (h : k < 1099511627776) : ¬ Int64.ofNat k = -1 := fun q => by
  have := congrArg Int64.toInt q; rw [own_oiL k h] at this; simp at this <;> omega
theorem own_i2l (k : Nat) (h : k ≤ 400) : (Int32.ofNat k).toInt64 = Int64.ofNat k := by
  rw [← Int64.toInt_inj, Int32.toInt_toInt64, own_oi k h, own_oiL k (by omega)]
theorem own_l2i (k : Nat) (h : k ≤ 400) : (Int64.ofNat k).toInt32 = Int32.ofNat k := by
  rw [← Int32.toInt_inj, Jvm.Kit.i32_of_i64 (by rw [own_oiL k (by omega)]; omega) (by rw [own_oiL k (by omega)]; omega), own_oiL k (by omega), own_oi k h]
theorem own_msk (x mm : Int32) (k : Nat) (hk : k ≤ 30) (hm : mm.toBitVec.toNat = 2 ^ k - 1) : x &&& mm = Int32.ofNat (x &&& mm).toNatClampNeg ∧ (x &&& mm).toNatClampNeg < 2 ^ k := by
  have h : (x &&& mm).toInt = x.toInt % 2 ^ k := Jvm.Kit.i32_mask x mm (k := k) (by omega) hm
  have hp : (0 : Int) < 2 ^ k := Int.pow_pos (by decide)
  have h1 := Int.emod_nonneg x.toInt (Int.ne_of_gt hp)
  have h2 := Int.emod_lt_of_pos x.toInt hp
  have h3 : (2 : Nat) ^ k ≤ 2 ^ 30 := Nat.pow_le_pow_right (by decide) hk
  have h4 : ((2 ^ k : Nat) : Int) = 2 ^ k := by simp
  constructor
  · rw [← Int32.toInt_inj]
    simp only [Int32.toNatClampNeg, h]
    rw [Int32.toInt_ofNat_of_lt (by omega)]
    omega
  · simp only [Int32.toNatClampNeg, h]
    omega
theorem own_l8 (V : Nat) (h : V < 4294967296) : (Int64.ofNat V).toInt32 &&& 255 = Int32.ofNat (V % 256) := by
  rw [← Int32.toInt_inj, Jvm.Kit.i32_mask _ 255 (k := 8) (by decide) (by decide), own_oi _ (by omega)]
  have := c_l2i (Int64.ofNat V); rw [own_oiL V (by omega)] at this; omega
theorem own_lsh (V : Nat) (h : V < 4294967296) (y : Int32) (k : Nat) (hk : k < 64) (hy : (y.toInt64.toUInt64 &&& Int64.toUInt64 63).toNat = k) : (XT.ushrL (Int64.ofNat V) y).toInt32 &&& 255 = Int32.ofNat (V / 2 ^ k % 256) := by
  have e : (XT.ushrL (Int64.ofNat V) y).toInt = (Int64.ofNat V).toInt / 2 ^ k := Jvm.Kit.i64_lushr (by rw [Jvm.Kit.i64_nonneg, own_oiL V (by omega)]; omega) hy hk
  rw [own_oiL V (by omega)] at e
  have hle : V / 2 ^ k ≤ V := Nat.div_le_self _ _
  have e2 : XT.ushrL (Int64.ofNat V) y = Int64.ofNat (V / 2 ^ k) := by
    rw [← Int64.toInt_inj, e, own_oiL _ (by omega)]; simp
  rw [e2]; exact own_l8 _ (by omega)
theorem own_l0 (V : Nat) (h : V < 256) : (Int64.ofNat V).toInt32 = Int32.ofNat V := own_l2i V (by omega)
theorem own_acc (v b : Nat) (hv : v < 16777216) (hb : b < 256) : (Int64.ofNat v <<< ((8 : Int32).toInt64 &&& 63)) ||| (Int32.ofNat b).toInt64 = Int64.ofNat (v * 256 + b) := by
  have e1 : (Int64.ofNat v <<< ((8 : Int32).toInt64 &&& 63)).toInt = v * 256 := by
    rw [Jvm.Kit.i64_shl _ _ (k := 8) (by decide) (by rw [own_oiL v (by omega)]; omega) (by rw [own_oiL v (by omega)]; omega), own_oiL v (by omega)]; rfl
  have e2 : (Int32.ofNat b).toInt64.toInt = b := by rw [own_i2l b (by omega), own_oiL b (by omega)]
  have := c_orL (Int64.ofNat v <<< ((8 : Int32).toInt64 &&& 63)) (Int32.ofNat b).toInt64 8 (by decide) 256 (by decide) (by rw [e1]; omega) (by rw [e2]; omega) (by rw [e2]; omega)
  rw [e1, e2] at this
  rw [← Int64.toInt_inj, own_oiL _ (by omega)]
  have l1 := Int64.toInt_lt (Int64.ofNat v <<< ((8 : Int32).toInt64 &&& 63) ||| (Int32.ofNat b).toInt64)
  have l2 := Int64.le_toInt (Int64.ofNat v <<< ((8 : Int32).toInt64 &&& 63) ||| (Int32.ofNat b).toInt64)
  omega
def own_by (n : Nat) : Int32 := (Int32.ofNat n).toInt8.toInt32
theorem own_by_and : ∀ n, n < 256 → own_by n &&& 255 = Int32.ofNat n := by decide +kernel
theorem own_by_z : ∀ n, n < 256 → (own_by n = 0 ↔ n = 0) := by decide +kernel
theorem own_by_h : ∀ n, n < 256 → (own_by n &&& 128 = 0 ↔ n < 128) := by decide +kernel
theorem own_a31 : ∀ n, n < 256 → (Int32.ofNat n &&& 31 = 31 ↔ n % 32 = 31) := by decide +kernel
theorem own_a32 : ∀ n, n < 256 → (Int32.ofNat n &&& 32 = 0 ↔ n / 32 % 2 = 0) := by decide +kernel
theorem own_n129 : ∀ n, n < 256 → 128 ≤ n → Int32.ofNat n &&& (-129) = Int32.ofNat (n - 128) := by decide +kernel
theorem own_o128 : ∀ n, n < 128 → (128 : Int32) ||| Int32.ofNat n = Int32.ofNat (128 + n) := by decide +kernel
theorem own_byb (x : Int32) : x.toInt8.toInt32.toInt8.toInt32 = x.toInt8.toInt32 := by simp
/-! the heads -/
def own_ib (h : Int32) : Nat := (h &&& 223 ||| 32).toNatClampNeg
def own_pid (q : Int32) : Int32 := if q &&& 223 = 0 then 5 else q &&& 223
def own_pb (q : Int32) : Nat := (own_pid q).toNatClampNeg
theorem own_k (h : Int32) : ∃ k : Nat, k < 256 ∧ h &&& 223 = Int32.ofNat k &&& 223 ∧ h &&& 31 = Int32.ofNat k &&& 31 := by
  obtain ⟨e, l⟩ := own_msk h 255 8 (by decide) (by decide)
  refine ⟨_, l, ?_, ?_⟩
  · rw [← e, Int32.and_assoc]; rfl
  · rw [← e, Int32.and_assoc]; rfl
theorem own_ib_t : ∀ k, k < 256 → (Int32.ofNat k &&& 223 ||| 32 = Int32.ofNat (Int32.ofNat k &&& 223 ||| 32).toNatClampNeg ∧ (Int32.ofNat k &&& 223 ||| 32).toNatClampNeg < 256 ∧ ((Int32.ofNat k &&& 223 ||| 32).toNatClampNeg % 32 = 31 ↔ Int32.ofNat k &&& 31 = 31) ∧ (Int32.ofNat k &&& 223 ||| 32).toNatClampNeg / 32 % 2 = 1) := by decide +kernel
theorem own_ib_f (h : Int32) : h &&& 223 ||| 32 = Int32.ofNat (own_ib h) ∧ own_ib h < 256 ∧ (own_ib h % 32 = 31 ↔ h &&& 31 = 31) ∧ own_ib h / 32 % 2 = 1 := by
  obtain ⟨k, hk, e1, e2⟩ := own_k h
  unfold own_ib; rw [e1, e2]; exact own_ib_t k hk
def own_pidk (k : Nat) : Int32 := if Int32.ofNat k &&& 223 = 0 then 5 else Int32.ofNat k &&& 223
theorem own_pb_t : ∀ k, k < 256 → (own_pidk k = Int32.ofNat (own_pidk k).toNatClampNeg ∧ (own_pidk k).toNatClampNeg < 256 ∧ (own_pidk k).toNatClampNeg ≠ 0 ∧ ((own_pidk k).toNatClampNeg % 32 = 31 ↔ Int32.ofNat k &&& 31 = 31) ∧ (own_pidk k).toNatClampNeg / 32 % 2 = 0) := by decide +kernel
theorem own_pb_f (q : Int32) : own_pid q = Int32.ofNat (own_pb q) ∧ own_pb q < 256 ∧ own_pb q ≠ 0 ∧ (own_pb q % 32 = 31 ↔ q &&& 31 = 31) ∧ own_pb q / 32 % 2 = 0 := by
  obtain ⟨k, hk, e1, e2⟩ := own_k q
  have e : own_pid q = own_pidk k := by unfold own_pid own_pidk; rw [e1]
  unfold own_pb; rw [e, e2]; exact own_pb_t k hk
def own_il (d : Int32) : Nat := if d &&& 31 = 31 then (if XT.ushr d 8 &&& 1 = 0 then 2 else 3) else 1
def own_cc (h : Int32) : Nat := if (4 : Int32) < XT.ushr h 24 &&& 7 then 5 else (XT.ushr h 24 &&& 7).toNatClampNeg
def own_ci (k : Nat) : Int32 := if k = 5 then -1 else Int32.ofNat k
theorem own_cc_n {h : Int32} (c : ¬ (4 : Int32) < XT.ushr h 24 &&& 7) : own_cc h ≤ 4 ∧ XT.ushr h 24 &&& 7 = Int32.ofNat (own_cc h) := by
  obtain ⟨e, l⟩ := own_msk (XT.ushr h 24) 7 3 (by decide) (by decide)
  have e3 : own_cc h = (XT.ushr h 24 &&& 7).toNatClampNeg := by unfold own_cc; rw [if_neg c]
  rw [← e3] at e l
  rw [e] at c
  refine ⟨?_, e⟩
  by_cases q : 4 < own_cc h
  · exact absurd ((own_lt 4 _ (by omega) (by omega)).mpr q) c
  · omega
theorem own_cc_le (h : Int32) : own_cc h ≤ 5 := by
  by_cases c : (4 : Int32) < XT.ushr h 24 &&& 7
  · unfold own_cc; rw [if_pos c]; omega
  · have := (own_cc_n c).1; omega
theorem own_cc_v {h : Int32} (c : ¬ (4 : Int32) < XT.ushr h 24 &&& 7) : XT.ushr h 24 &&& 7 = own_ci (own_cc h) := by
  obtain ⟨l, e⟩ := own_cc_n c
  unfold own_ci; rw [if_neg (by omega)]; exact e
theorem own_cc_5 {h : Int32} (c : (4 : Int32) < XT.ushr h 24 &&& 7) : (-1 : Int32) = own_ci (own_cc h) := by
  unfold own_cc; rw [if_pos c]; rfl
def own_pc (q : Int32) : Nat := (XT.ushr q 24 &&& 3).toNatClampNeg
theorem own_pc_f (q : Int32) : XT.ushr q 24 &&& 3 = Int32.ofNat (own_pc q) ∧ own_pc q < 4 := own_msk _ 3 2 (by decide) (by decide)
theorem own_pc_ci (q : Int32) : XT.ushr q 24 &&& 3 = own_ci (own_pc q) := by
  obtain ⟨e, l⟩ := own_pc_f q
  unfold own_ci; rw [if_neg (by omega)]; exact e
def own_pn (q : Int32) : Nat := (XT.ushr q 26 &&& 3 : Int32).toNatClampNeg % 3
theorem own_rem3 : ∀ k, k < 4 → Int32.ofNat k % 3 = Int32.ofNat (k % 3) := by decide +kernel
theorem own_pn_f (q : Int32) : (XT.ushr q 26 &&& 3) % 3 = Int32.ofNat (own_pn q) := by
  obtain ⟨e, l⟩ := own_msk (XT.ushr q 26) 3 2 (by decide) (by decide)
  rw [e, own_rem3 _ l]; rfl
theorem own_pn_l (q : Int32) : own_pn q < 3 := Nat.mod_lt _ (by decide)
def own_ps (q : Int32) : Nat := own_il q + 1 + own_pc q + own_pn q
def own_cs (h : Int32) (n : Nat) : Nat := own_il h + 1 + (if own_cc h = 5 then 2 else own_cc h) + n
def own_sz (a : Nat) (h1 h2 q : Int32) : Nat := if a = 0 then own_ps q else if a = 1 then own_cs h1 (own_ps q) else own_cs h1 (own_cs h2 (own_ps q))
theorem own_il_l (d : Int32) : 1 ≤ own_il d ∧ own_il d ≤ 3 := by unfold own_il; split <;> (try split) <;> omega
theorem own_ps_l (q : Int32) : 2 ≤ own_ps q ∧ own_ps q ≤ 9 := by
  have := own_il_l q; have := (own_pc_f q).2; have := own_pn_l q; unfold own_ps; omega
theorem own_cs_l (h : Int32) (n : Nat) : n + 2 ≤ own_cs h n ∧ own_cs h n ≤ n + 8 := by
  have := own_il_l h; have := own_cc_le h; unfold own_cs; split <;> omega
theorem own_sz_l (a : Nat) (h1 h2 q : Int32) : 2 ≤ own_sz a h1 h2 q ∧ own_sz a h1 h2 q ≤ 25 := by
  have := own_ps_l q; have := own_cs_l h1 (own_ps q); have := own_cs_l h2 (own_ps q); have := own_cs_l h1 (own_cs h2 (own_ps q))
  unfold own_sz; split
  · omega
  · split <;> omega
/-! the bytes -/
def own_idT (d : Int32) : List Nat := if d &&& 31 = 31 then (if XT.ushr d 8 &&& 1 = 0 then [(XT.ushr d 16 &&& 127).toNatClampNeg] else [128 + (XT.ushr d 9 &&& 127).toNatClampNeg, (XT.ushr d 16 &&& 127).toNatClampNeg]) else []
def own_idB (n : Nat) (d : Int32) : List Nat := n :: own_idT d
theorem own_idL (n : Nat) (d : Int32) : (own_idB n d).length = own_il d := by
  unfold own_idB own_idT own_il; split
  · split <;> rfl
  · rfl
def own_lenB : Nat → Nat → List Nat
  | 0, V => [V]
  | 1, V => [129, V % 256]
  | 2, V => [130, V / 256 % 256, V % 256]
  | 3, V => [131, V / 65536 % 256, V / 256 % 256, V % 256]
  | 4, V => [132, V / 16777216 % 256, V / 65536 % 256, V / 256 % 256, V % 256]
  | _, _ => [128]
def own_vb : Nat → Nat → Prop
  | 0, V => V < 128
  | 1, V => V < 256
  | 2, V => V < 65536
  | 3, V => V < 16777216
  | _, V => V < 4294967296
theorem own_k5 {k : Nat} (h : k ≤ 5) : k = 0 ∨ k = 1 ∨ k = 2 ∨ k = 3 ∨ k = 4 ∨ k = 5 := by omega
theorem own_lenL (k V : Nat) (h : k ≤ 5) : (own_lenB k V).length = if k = 5 then 1 else k + 1 := by
  rcases own_k5 h with rfl | rfl | rfl | rfl | rfl | rfl <;> rfl
def own_ex : Nat → Int64 → Nat
  | 0, x => (x &&& 63).toNatClampNeg
  | 1, x => (x &&& 127).toNatClampNeg
  | 2, x => (x &&& 32767).toNatClampNeg
  | 3, x => (x &&& 8388607).toNatClampNeg
  | 4, x => (x &&& 2147483647).toNatClampNeg
  | _, _ => 0
theorem own_mskL (x mm : Int64) (k : Nat) (hk : k ≤ 32) (hm : mm.toBitVec.toNat = 2 ^ k - 1) : x &&& mm = Int64.ofNat (x &&& mm).toNatClampNeg ∧ (x &&& mm).toNatClampNeg < 2 ^ k := by
  have h : (x &&& mm).toInt = x.toInt % 2 ^ k := Jvm.Kit.i64_mask x mm (k := k) (by omega) hm
  have hp : (0 : Int) < 2 ^ k := Int.pow_pos (by decide)
  have h1 := Int.emod_nonneg x.toInt (Int.ne_of_gt hp)
  have h2 := Int.emod_lt_of_pos x.toInt hp
  have h3 : (2 : Nat) ^ k ≤ 2 ^ 32 := Nat.pow_le_pow_right (by decide) hk
  have h4 : ((2 ^ k : Nat) : Int) = 2 ^ k := by simp
  constructor
  · rw [← Int64.toInt_inj]
    simp only [Int64.toNatClampNeg, h]
    rw [Int64.toInt_ofNat_of_lt (by omega)]
    omega
  · simp only [Int64.toNatClampNeg, h]
    omega
theorem own_ex_v (k : Nat) (hk : k ≤ 5) (x : Int64) (n : Nat) (hn : n ≤ 50) : own_vb k (n + own_ex k x) := by
  rcases own_k5 hk with rfl | rfl | rfl | rfl | rfl | rfl
  · have := (own_mskL x 63 6 (by decide) (by decide)).2; show n + (x &&& 63).toNatClampNeg < 128; omega
  · have := (own_mskL x 127 7 (by decide) (by decide)).2; show n + (x &&& 127).toNatClampNeg < 256; omega
  · have := (own_mskL x 32767 15 (by decide) (by decide)).2; show n + (x &&& 32767).toNatClampNeg < 65536; omega
  · have := (own_mskL x 8388607 23 (by decide) (by decide)).2; show n + (x &&& 8388607).toNatClampNeg < 16777216; omega
  · have := (own_mskL x 2147483647 31 (by decide) (by decide)).2; show n + (x &&& 2147483647).toNatClampNeg < 4294967296; omega
  · show n + 0 < 4294967296; omega
theorem own_ex0 (k : Nat) : own_ex k 0 = 0 := by
  unfold own_ex; split <;> rfl
theorem own_vb32 {k V : Nat} (h : own_vb k V) : V < 4294967296 := by
  unfold own_vb at h; split at h <;> omega
def own_consB (h : Int32) (n : Nat) (x : Int64) : List Nat := own_idB (own_ib h) h ++ own_lenB (own_cc h) (n + own_ex (own_cc h) x)
def own_ct (q : Int32) : List Nat := if own_pn q = 0 then [] else if own_pn q = 1 then [(q &&& 255).toNatClampNeg] else [(q &&& 255).toNatClampNeg, (XT.ushr q 8 &&& 255).toNatClampNeg]
theorem own_ctL (q : Int32) : (own_ct q).length = own_pn q := by
  have := own_pn_l q; unfold own_ct; split
  · simp; omega
  · split <;> simp <;> omega
def own_primB (q : Int32) : List Nat := own_idB (own_pb q) q ++ own_lenB (own_pc q) (own_pn q) ++ own_ct q
theorem own_primL (q : Int32) : (own_primB q).length = own_ps q := by
  have := (own_pc_f q).2
  simp only [own_primB, List.length_append, own_idL, own_ctL, own_lenL (own_pc q) _ (by omega), own_ps]; rw [if_neg (by omega)]; omega
def own_eoc (h : Int32) : List Nat := if own_cc h = 5 then [0, 0] else []
theorem own_consL (h : Int32) (n : Nat) (x : Int64) : (own_consB h n x).length + (own_eoc h).length + n = own_cs h n := by
  have := own_cc_le h
  simp only [own_consB, List.length_append, own_idL, own_lenL (own_cc h) _ this, own_cs, own_eoc]; split <;> simp <;> omega
def own_chB (a : Nat) (h1 h2 q : Int32) : List Nat := if a = 0 then own_primB q else if a = 1 then own_consB h1 (own_ps q) 0 ++ (own_primB q ++ own_eoc h1) else own_consB h1 (own_cs h2 (own_ps q)) 0 ++ (own_consB h2 (own_ps q) 0 ++ (own_primB q ++ (own_eoc h2 ++ own_eoc h1)))
theorem own_chL (a : Nat) (h1 h2 q : Int32) : (own_chB a h1 h2 q).length = own_sz a h1 h2 q := by
  have := own_consL h1 (own_ps q) 0; have := own_consL h2 (own_ps q) 0; have := own_consL h1 (own_cs h2 (own_ps q)) 0
  unfold own_chB own_sz; split
  · exact own_primL q
  · split
    · simp only [List.length_append, own_primL]; omega
    · simp only [List.length_append, own_primL]; omega
/-! the parser -/
def own_pop (a : Nat) : List (Option Nat) → List (Option Nat)
  | [] => []
  | none :: t => none :: t
  | some k :: t => if k ≤ a then own_pop a t else some k :: t
def own_skip (f : Nat → Nat) : Nat → Nat → Nat
  | 0, a => a
  | n + 1, a => if a < 48 ∧ 128 ≤ f a then own_skip f n (a + 1) else a
def own_be (f : Nat → Nat) : Nat → Nat → Nat → Nat
  | 0, _, v => v
  | n + 1, a, v => own_be f n (a + 1) (v * 256 + f a)
def own_end (a : Nat) : Option Nat → Option Nat
  | none => none
  | some v => some (min (a + v) 48)
def own_hp (K : Nat → List (Option Nat) → Bool) (a : Nat) (sk : List (Option Nat)) : Option Nat → Bool
  | none => false
  | some v => if 48 < a + v then false else K (a + v) sk
def own_h (lim : Nat) (K : Nat → List (Option Nat) → Bool) (a id : Nat) (len : Option Nat) (sk : List (Option Nat)) : Bool :=
  if id / 32 % 2 = 0 then own_hp K a sk len else if sk.length = lim then true else K a (own_end a len :: sk)
def own_e (f : Nat → Nat) (lim : Nat) (K : Nat → List (Option Nat) → Bool) (a id : Nat) (sk : List (Option Nat)) : Bool :=
  if 48 ≤ a then false else if f a = 128 then own_h lim K (a + 1) id none sk else if f a < 128 then own_h lim K (a + 1) id (some (f a)) sk
  else if 4 < f a - 128 then false else if 48 < a + 1 + (f a - 128) then false else own_h lim K (a + 1 + (f a - 128)) id (some (own_be f (f a - 128) (a + 1) 0)) sk
def own_d (f : Nat → Nat) (lim : Nat) (K : Nat → List (Option Nat) → Bool) (a : Nat) (sk : List (Option Nat)) : Bool :=
  own_e f lim K (if f a % 32 = 31 then own_skip f 48 (a + 1) + 1 else a + 1) (f a) sk
def own_c (f : Nat → Nat) (lim : Nat) (K : Nat → List (Option Nat) → Bool) (a : Nat) (sk : List (Option Nat)) : Bool :=
  if sk.head? = some none ∧ a + 1 < 48 ∧ f a = 0 ∧ f (a + 1) = 0 then K (a + 2) sk.tail else own_d f lim K a sk
def own_p (f : Nat → Nat) (lim : Nat) : Nat → Nat → List (Option Nat) → Bool
  | 0, _, _ => false
  | n + 1, a, sk => if 48 ≤ a then false else own_c f lim (own_p f lim n) a (own_pop a sk)
theorem own_p_s (f : Nat → Nat) (lim n a : Nat) (sk : List (Option Nat)) : own_p f lim (n + 1) a sk = if 48 ≤ a then false else own_c f lim (own_p f lim n) a (own_pop a sk) := rfl
theorem own_skip_s (f : Nat → Nat) (n a : Nat) : own_skip f (n + 1) a = if a < 48 ∧ 128 ≤ f a then own_skip f n (a + 1) else a := rfl
/-! what the parser makes of the bytes -/
def own_at (f : Nat → Nat) (a : Nat) (L : List Nat) : Prop := ∀ j v, L[j]? = some v → f (a + j) = v
theorem own_at_l {f : Nat → Nat} {a : Nat} {L M : List Nat} (H : own_at f a (L ++ M)) : own_at f a L := fun j v q => H j v (by
  rw [List.getElem?_append_left (List.getElem?_eq_some_iff.mp q).1]; exact q)
theorem own_at_r {f : Nat → Nat} {a : Nat} {L M : List Nat} (H : own_at f a (L ++ M)) : own_at f (a + L.length) M := fun j v q => by
  rw [Nat.add_assoc]
  refine H (L.length + j) v ?_
  rw [List.getElem?_append_right (by omega)]; simpa using q
theorem own_d_id {f : Nat → Nat} {lim a : Nat} {K : Nat → List (Option Nat) → Bool} {sk : List (Option Nat)} {id : Nat} {d : Int32} (hid : id % 32 = 31 ↔ d &&& 31 = 31) (A : own_at f a (own_idB id d)) : own_d f lim K a sk = own_e f lim K (a + own_il d) id sk := by
  have h0 : f a = id := A 0 id rfl
  unfold own_d; rw [h0]
  by_cases hh : d &&& 31 = 31
  · rw [if_pos (hid.mpr hh), show (48 : Nat) = 47 + 1 from rfl, own_skip_s]
    by_cases h8 : XT.ushr d 8 &&& 1 = 0
    · have h1 : f (a + 1) = (XT.ushr d 16 &&& 127).toNatClampNeg := A 1 _ (by simp [own_idB, own_idT, hh, h8])
      have l1 := (own_msk (XT.ushr d 16) 127 7 (by decide) (by decide)).2
      rw [if_neg (by rw [h1]; omega)]
      have : own_il d = 2 := by simp [own_il, hh, h8]
      rw [this]
    · have h1 : f (a + 1) = 128 + (XT.ushr d 9 &&& 127).toNatClampNeg := A 1 _ (by simp [own_idB, own_idT, hh, h8])
      have h2 : f (a + 1 + 1) = (XT.ushr d 16 &&& 127).toNatClampNeg := A 2 _ (by simp [own_idB, own_idT, hh, h8])
      have l2 := (own_msk (XT.ushr d 16) 127 7 (by decide) (by decide)).2
      have e3 : own_il d = 3 := by simp [own_il, hh, h8]
      rw [e3]
      by_cases q : a + 1 < 48
      · rw [if_pos ⟨q, by rw [h1]; omega⟩, show (47 : Nat) = 46 + 1 from rfl, own_skip_s, if_neg (by rw [h2]; omega)]
      · rw [if_neg (by omega)]
        unfold own_e
        rw [if_pos (by omega), if_pos (by omega)]
  · rw [if_neg (fun z => hh (hid.mp z))]
    have : own_il d = 1 := by simp [own_il, hh]
    rw [this]
theorem own_be_s (f : Nat → Nat) (n a v : Nat) : own_be f (n + 1) a v = own_be f n (a + 1) (v * 256 + f a) := rfl
theorem own_be_0 (f : Nat → Nat) (a v : Nat) : own_be f 0 a v = v := rfl
theorem own_e_len {f : Nat → Nat} {lim a id : Nat} {K : Nat → List (Option Nat) → Bool} {sk : List (Option Nat)} (k V : Nat) (hk : k ≤ 5) (hV : own_vb k V) (A : own_at f a (own_lenB k V)) :
    own_e f lim K a id sk = if 48 < a + (own_lenB k V).length then false else own_h lim K (a + (own_lenB k V).length) id (if k = 5 then none else some V) sk := by
  unfold own_e
  rcases own_k5 hk with rfl | rfl | rfl | rfl | rfl | rfl
  · have h0 : f a = V := A 0 _ rfl
    have hV' : V < 128 := hV
    rw [h0]
    by_cases q : 48 ≤ a
    · rw [if_pos q, if_pos (by simp only [own_lenB, List.length_cons, List.length_nil]; omega)]
    · rw [if_neg q, if_neg (by omega), if_pos hV', if_neg (by simp only [own_lenB, List.length_cons, List.length_nil]; omega)]; rfl
  · have h0 : f a = 129 := A 0 _ rfl
    have h1 : f (a + 1) = V % 256 := A 1 _ rfl
    have hV' : V < 256 := hV
    rw [h0]
    by_cases q : 48 ≤ a
    · rw [if_pos q, if_pos (by simp only [own_lenB, List.length_cons, List.length_nil]; omega)]
    · rw [if_neg q, if_neg (by omega), if_neg (by omega), if_neg (by omega)]
      have e : own_be f (129 - 128) (a + 1) 0 = V := by
        rw [show 129 - 128 = 0 + 1 from rfl, own_be_s, own_be_0, h1]; omega
      rw [e]; rfl
  · have h0 : f a = 130 := A 0 _ rfl
    have h1 : f (a + 1) = V / 256 % 256 := A 1 _ rfl
    have h2 : f (a + 1 + 1) = V % 256 := A 2 _ rfl
    have hV' : V < 65536 := hV
    rw [h0]
    by_cases q : 48 ≤ a
    · rw [if_pos q, if_pos (by simp only [own_lenB, List.length_cons, List.length_nil]; omega)]
    · rw [if_neg q, if_neg (by omega), if_neg (by omega), if_neg (by omega)]
      have e : own_be f (130 - 128) (a + 1) 0 = V := by
        rw [show 130 - 128 = 0 + 1 + 1 from rfl, own_be_s, own_be_s, own_be_0, h1, h2]; omega
      rw [e]; rfl
  · have h0 : f a = 131 := A 0 _ rfl
    have h1 : f (a + 1) = V / 65536 % 256 := A 1 _ rfl
    have h2 : f (a + 1 + 1) = V / 256 % 256 := A 2 _ rfl
    have h3 : f (a + 1 + 1 + 1) = V % 256 := A 3 _ rfl
    have hV' : V < 16777216 := hV
    rw [h0]
    by_cases q : 48 ≤ a
    · rw [if_pos q, if_pos (by simp only [own_lenB, List.length_cons, List.length_nil]; omega)]
    · rw [if_neg q, if_neg (by omega), if_neg (by omega), if_neg (by omega)]
      have e : own_be f (131 - 128) (a + 1) 0 = V := by
        rw [show 131 - 128 = 0 + 1 + 1 + 1 from rfl, own_be_s, own_be_s, own_be_s, own_be_0, h1, h2, h3]; omega
      rw [e]; rfl
  · have h0 : f a = 132 := A 0 _ rfl
    have h1 : f (a + 1) = V / 16777216 % 256 := A 1 _ rfl
    have h2 : f (a + 1 + 1) = V / 65536 % 256 := A 2 _ rfl
    have h3 : f (a + 1 + 1 + 1) = V / 256 % 256 := A 3 _ rfl
    have h4 : f (a + 1 + 1 + 1 + 1) = V % 256 := A 4 _ rfl
    have hV' : V < 4294967296 := hV
    rw [h0]
    by_cases q : 48 ≤ a
    · rw [if_pos q, if_pos (by simp only [own_lenB, List.length_cons, List.length_nil]; omega)]
    · rw [if_neg q, if_neg (by omega), if_neg (by omega), if_neg (by omega)]
      have e : own_be f (132 - 128) (a + 1) 0 = V := by
        rw [show 132 - 128 = 0 + 1 + 1 + 1 + 1 from rfl, own_be_s, own_be_s, own_be_s, own_be_s, own_be_0, h1, h2, h3, h4]; omega
      rw [e]; rfl
  · have h0 : f a = 128 := A 0 _ rfl
    rw [h0]
    by_cases q : 48 ≤ a
    · rw [if_pos q, if_pos (by simp only [own_lenB, List.length_cons, List.length_nil]; omega)]
    · rw [if_neg q, if_pos rfl, if_neg (by simp only [own_lenB, List.length_cons, List.length_nil]; omega)]; rfl
/-- the parser's answer from here, with any fuel from n on -/
def own_R (f : Nat → Nat) (lim a : Nat) (sk : List (Option Nat)) (r : Bool) (n : Nat) : Prop := ∀ F, n ≤ F → own_p f lim F a sk = r
theorem own_R.mono {f : Nat → Nat} {lim a : Nat} {sk : List (Option Nat)} {r : Bool} {n n' : Nat} (H : own_R f lim a sk r n) (q : n ≤ n') : own_R f lim a sk r n' := fun F z => H F (Nat.le_trans q z)
theorem own_R.eq {f : Nat → Nat} {lim a : Nat} {sk sk' : List (Option Nat)} {r : Bool} {n : Nat} (H : own_R f lim a sk r n) (q : own_pop a sk' = own_pop a sk) : own_R f lim a sk' r n := fun F z => by
  rw [← H F z]
  cases F with
  | zero => rfl
  | succ F => rw [own_p_s, own_p_s, q]
theorem own_head {f : Nat → Nat} {lim a id : Nat} {d : Int32} {sk : List (Option Nat)} {k V n : Nat} (hid : id % 32 = 31 ↔ d &&& 31 = 31) (h0 : id ≠ 0) (hk : k ≤ 5) (hV : own_vb k V) (A : own_at f a (own_idB id d ++ own_lenB k V)) :
    own_p f lim (n + 1) a sk = if 48 < a + (own_idB id d ++ own_lenB k V).length then false else own_h lim (own_p f lim n) (a + (own_idB id d ++ own_lenB k V).length) id (if k = 5 then none else some V) (own_pop a sk) := by
  have hl := own_lenL k V hk
  have hl1 : 1 ≤ (own_lenB k V).length := by rw [hl]; split <;> omega
  have hi := own_il_l d
  have e0 : f a = id := own_at_l A 0 id rfl
  rw [own_p_s, List.length_append, own_idL]
  by_cases q : 48 ≤ a
  · rw [if_pos q, if_pos (by omega)]
  · rw [if_neg q]
    unfold own_c
    rw [if_neg (by rw [e0]; exact fun z => h0 z.2.2.1), own_d_id hid (own_at_l A), own_e_len k V hk hV (by have := own_at_r A; rw [own_idL] at this; exact this), Nat.add_assoc]
theorem own_tok_cons {f : Nat → Nat} {lim a id : Nat} {d : Int32} {sk : List (Option Nat)} {k V : Nat} {r : Bool} {n : Nat} (hid : id % 32 = 31 ↔ d &&& 31 = 31) (h1 : id / 32 % 2 = 1) (hk : k ≤ 5) (hV : own_vb k V) (A : own_at f a (own_idB id d ++ own_lenB k V))
    (L : Nat) (hL : (own_idB id d ++ own_lenB k V).length = L) (Hf : 48 < a + L → r = false) (Ht : a + L ≤ 48 → (own_pop a sk).length = lim → r = true) (Hr : a + L ≤ 48 → (own_pop a sk).length ≠ lim → own_R f lim (a + L) ((if k = 5 then none else some (min (a + L + V) 48)) :: own_pop a sk) r n) : own_R f lim a sk r (n + 1) := fun F z => by
  obtain ⟨F, rfl⟩ : ∃ F', F = F' + 1 := ⟨F - 1, by omega⟩
  rw [own_head hid (by rintro rfl; simp at h1) hk hV A, hL]
  by_cases q : 48 < a + L
  · rw [if_pos q, Hf q]
  · rw [if_neg q]
    unfold own_h
    rw [if_neg (by omega)]
    by_cases ql : (own_pop a sk).length = lim
    · rw [if_pos ql, Ht (by omega) ql]
    · rw [if_neg ql, ← Hr (by omega) ql F (by omega)]
      congr 1
      by_cases h5 : k = 5
      · rw [if_pos h5, if_pos h5]; rfl
      · rw [if_neg h5, if_neg h5]; rfl
theorem own_tok_prim {f : Nat → Nat} {lim a id : Nat} {d : Int32} {sk : List (Option Nat)} {k V : Nat} {r : Bool} {n : Nat} (hid : id % 32 = 31 ↔ d &&& 31 = 31) (h0 : id ≠ 0) (h1 : id / 32 % 2 = 0) (hk : k ≤ 4) (hV : own_vb k V) (A : own_at f a (own_idB id d ++ own_lenB k V))
    (L : Nat) (hL : (own_idB id d ++ own_lenB k V).length + V = L) (Hf : 48 < a + L → r = false) (Hr : a + L ≤ 48 → own_R f lim (a + L) (own_pop a sk) r n) : own_R f lim a sk r (n + 1) := fun F z => by
  obtain ⟨F, rfl⟩ : ∃ F', F = F' + 1 := ⟨F - 1, by omega⟩
  rw [own_head hid h0 (by omega) hV A]
  by_cases q : 48 < a + (own_idB id d ++ own_lenB k V).length
  · rw [if_pos q, Hf (by omega)]
  · rw [if_neg q, if_neg (by omega)]
    unfold own_h
    rw [if_pos h1]
    show (if 48 < a + (own_idB id d ++ own_lenB k V).length + V then false else _) = r
    rw [Nat.add_assoc, hL]
    by_cases q2 : 48 < a + L
    · rw [if_pos q2, Hf q2]
    · rw [if_neg q2]; exact Hr (by omega) F (by omega)
theorem own_tok_eoc {f : Nat → Nat} {lim a : Nat} {sk t : List (Option Nat)} {r : Bool} {n : Nat} (h0 : f a = 0) (h1 : f (a + 1) = 0) (hp : own_pop a sk = none :: t) (Hf : 48 < a + 2 → r = false) (Hr : a + 2 ≤ 48 → own_R f lim (a + 2) t r n) : own_R f lim a sk r (n + 1) := fun F z => by
  obtain ⟨F, rfl⟩ : ∃ F', F = F' + 1 := ⟨F - 1, by omega⟩
  rw [own_p_s]
  by_cases q : 48 ≤ a
  · rw [if_pos q, Hf (by omega)]
  · rw [if_neg q, hp]
    unfold own_c
    by_cases q2 : a + 1 < 48
    · rw [if_pos ⟨rfl, q2, h0, h1⟩]; exact Hr (by omega) F (by omega)
    · rw [if_neg (fun z => q2 z.2.1), Hf (by omega)]
      unfold own_d
      rw [h0, if_neg (by omega)]
      unfold own_e
      rw [if_pos (by omega)]
theorem own_zero {f : Nat → Nat} {lim : Nat} (n : Nat) : ∀ (a : Nat) (sk : List (Option Nat)), (∀ i, a ≤ i → f i = 0) → own_p f lim n a sk = false := by
  induction n with
  | zero => intro a sk _; rfl
  | succ n ih =>
    intro a sk h
    have h0 := h a (by omega); have h1 := h (a + 1) (by omega)
    have h2 : ∀ i, a + 2 ≤ i → f i = 0 := fun i q => h i (by omega)
    rw [own_p_s]
    split
    · rfl
    · unfold own_c
      split
      · exact ih _ _ h2
      · unfold own_d
        rw [h0, if_neg (by omega)]
        unfold own_e
        rw [h1]
        split
        · rfl
        · rw [if_neg (by omega), if_pos (by omega)]
          unfold own_h
          rw [if_pos (by omega)]
          show (if 48 < a + 1 + 1 + 0 then false else own_p f lim n (a + 1 + 1 + 0) _) = false
          split
          · rfl
          · exact ih _ _ h2
theorem own_cons {f : Nat → Nat} {lim a : Nat} {h : Int32} {n : Nat} {x : Int64} {sk : List (Option Nat)} {r : Bool} {m : Nat} (hn : n ≤ 50) (A : own_at f a (own_consB h n x))
    (L : Nat) (hL : (own_consB h n x).length = L) (Hf : 48 < a + L → r = false) (Ht : a + L ≤ 48 → (own_pop a sk).length = lim → r = true) (Hr : a + L ≤ 48 → (own_pop a sk).length ≠ lim → own_R f lim (a + L) ((if own_cc h = 5 then none else some (min (a + L + (n + own_ex (own_cc h) x)) 48)) :: own_pop a sk) r m) : own_R f lim a sk r (m + 1) := by
  obtain ⟨-, -, i1, i2⟩ := own_ib_f h
  exact own_tok_cons i1 i2 (own_cc_le h) (own_ex_v _ (own_cc_le h) x n hn) A L hL Hf Ht Hr
theorem own_vbp {k V : Nat} (hV : V < 3) : own_vb k V := by
  unfold own_vb; split <;> omega
theorem own_prim {f : Nat → Nat} {lim a : Nat} {q : Int32} {sk : List (Option Nat)} {r : Bool} {m : Nat} (A : own_at f a (own_primB q)) (Hf : 48 < a + own_ps q → r = false) (Hr : a + own_ps q ≤ 48 → own_R f lim (a + own_ps q) (own_pop a sk) r m) : own_R f lim a sk r (m + 1) := by
  obtain ⟨-, -, i0, i1, i2⟩ := own_pb_f q
  have hc := (own_pc_f q).2
  refine own_tok_prim i1 i0 i2 (by omega) (own_vbp (own_pn_l q)) (own_at_l A) (own_ps q) ?_ Hf Hr
  have := own_primL q
  simp only [own_primB, List.length_append, own_ctL] at this ⊢
  exact this
/-- the end of a constructed value -/
theorem own_close {f : Nat → Nat} {lim a : Nat} {h : Int32} {sk : List (Option Nat)} {r : Bool} {m : Nat} (A : own_at f a (own_eoc h)) (Hf : 48 < a + (own_eoc h).length → r = false) (Hr : a + (own_eoc h).length ≤ 48 → own_R f lim (a + (own_eoc h).length) sk r m) (ha : a ≤ 48) :
    own_R f lim a ((if own_cc h = 5 then none else some a) :: sk) r (m + 1) := by
  by_cases q : own_cc h = 5
  · have e : own_eoc h = [0, 0] := by unfold own_eoc; rw [if_pos q]
    rw [e] at A Hf Hr
    rw [if_pos q]
    exact own_tok_eoc (A 0 _ rfl) (A 1 _ rfl) rfl Hf Hr
  · have e : own_eoc h = [] := by unfold own_eoc; rw [if_neg q]
    rw [e] at Hf Hr
    rw [if_neg q]
    refine (own_R.eq (Hr ha) ?_).mono (by omega)
    show (if a ≤ a then own_pop a sk else _) = _
    rw [if_pos (Nat.le_refl _)]; rfl
theorem own_pop_e {a b : Nat} {c5 : Prop} [Decidable c5] {sk : List (Option Nat)} (h : a < b) : own_pop a ((if c5 then none else some b) :: sk) = (if c5 then none else some b) :: sk := by
  by_cases q : c5
  · rw [if_pos q]; rfl
  · rw [if_neg q]; show (if b ≤ a then _ else _) = _; rw [if_neg (by omega)]
def own_c1 (a : Nat) (h1 h2 q : Int32) : Nat := if a = 1 then (own_consB h1 (own_ps q) 0).length else (own_consB h1 (own_cs h2 (own_ps q)) 0).length
def own_c2 (h2 q : Int32) : Nat := (own_consB h2 (own_ps q) 0).length
def own_fnd (a lim d t c1 c2 : Nat) : Prop := 1 ≤ a ∧ t + c1 ≤ 48 ∧ (d = lim ∨ (a = 2 ∧ d + 1 = lim ∧ t + c1 + c2 ≤ 48))
def own_pas (a lim d t L : Nat) : Prop := t + L ≤ 48 ∧ (1 ≤ a → d ≠ lim) ∧ (a = 2 → d + 1 ≠ lim)
theorem own_consL2 (h : Int32) (n : Nat) (x : Int64) : 2 ≤ (own_consB h n x).length := by
  have := own_cc_le h; have := own_il_l h
  simp only [own_consB, List.length_append, own_idL, own_lenL (own_cc h) _ (by omega)]; split <;> omega
theorem own_eocL (h : Int32) : (own_eoc h).length ≤ 2 := by unfold own_eoc; split <;> simp
theorem own_chain {f : Nat → Nat} {lim : Nat} (a : Nat) (h1 h2 q : Int32) (ha : a ≤ 2) (t : Nat) (sk : List (Option Nat)) (r : Bool) (m : Nat) (A : own_at f t (own_chB a h1 h2 q)) (hp : t < 48 → own_pop t sk = sk)
    (Ht : own_fnd a lim sk.length t (own_c1 a h1 h2 q) (own_c2 h2 q) → r = true) (Hf : ¬ own_fnd a lim sk.length t (own_c1 a h1 h2 q) (own_c2 h2 q) → ¬ own_pas a lim sk.length t (own_sz a h1 h2 q) → r = false)
    (Hp : ¬ own_fnd a lim sk.length t (own_c1 a h1 h2 q) (own_c2 h2 q) → own_pas a lim sk.length t (own_sz a h1 h2 q) → own_R f lim (t + own_sz a h1 h2 q) sk r m) : own_R f lim t sk r (m + 5) := by
  have hq := own_ps_l q
  obtain rfl | rfl | rfl : a = 0 ∨ a = 1 ∨ a = 2 := by omega
  · have e : own_sz 0 h1 h2 q = own_ps q := rfl
    rw [e] at Hf Hp
    refine own_R.mono (own_prim A (fun z => Hf (by unfold own_fnd; omega) (by unfold own_pas; omega)) (m := m) fun z => ?_) (by omega)
    rw [hp (by omega)]
    exact Hp (by unfold own_fnd; omega) (by unfold own_pas; omega)
  · have e : own_sz 1 h1 h2 q = own_cs h1 (own_ps q) := rfl
    obtain ⟨c1, hc⟩ : ∃ c, (own_consB h1 (own_ps q) 0).length = c := ⟨_, rfl⟩
    have ec : own_c1 1 h1 h2 q = c1 := hc
    have hL := own_consL h1 (own_ps q) 0
    have hL2 := own_consL2 h1 (own_ps q) 0
    have A0 : own_at f t (own_consB h1 (own_ps q) 0 ++ (own_primB q ++ own_eoc h1)) := A
    have A1 := own_at_l A0
    have A2 := own_at_r A0
    have A3 := own_at_r A2
    rw [own_primL] at A3
    rw [hc] at hL hL2 A2 A3
    rw [ec, e] at Hf Hp
    rw [ec] at Ht
    unfold own_fnd at Ht Hf Hp
    unfold own_pas at Hf Hp
    refine own_R.mono (own_cons (by omega) A1 c1 hc (fun z => Hf (by omega) (by omega)) (fun z zl => ?_) (m := m + 2) fun z zl => ?_) (by omega)
    · rw [hp (by omega)] at zl; exact Ht ⟨by omega, z, Or.inl zl⟩
    · rw [hp (by omega)] at zl ⊢
      rw [own_ex0, Nat.add_zero]
      refine own_prim (own_at_l A2) (fun z2 => Hf (by omega) (by omega)) (m := m + 1) fun z2 => ?_
      rw [own_pop_e (by omega), Nat.min_eq_left z2]
      refine own_close A3 (fun z3 => Hf (by omega) (by omega)) (fun z3 => ?_) z2
      have := Hp (by omega) (by omega)
      rw [show t + own_cs h1 (own_ps q) = t + c1 + own_ps q + (own_eoc h1).length from by omega] at this
      exact this
  · obtain ⟨M, hM⟩ : ∃ c, own_cs h2 (own_ps q) = c := ⟨_, rfl⟩
    have hMl := own_cs_l h2 (own_ps q)
    have e : own_sz 2 h1 h2 q = own_cs h1 M := by rw [← hM]; rfl
    obtain ⟨c1, hc⟩ : ∃ c, (own_consB h1 M 0).length = c := ⟨_, rfl⟩
    obtain ⟨c2, hc2⟩ : ∃ c, (own_consB h2 (own_ps q) 0).length = c := ⟨_, rfl⟩
    have ec : own_c1 2 h1 h2 q = c1 := by rw [← hc, ← hM]; rfl
    have ec2 : own_c2 h2 q = c2 := hc2
    have hL := own_consL h1 M 0
    have hL2 := own_consL h2 (own_ps q) 0
    have hL3 := own_consL2 h1 M 0
    have hL4 := own_consL2 h2 (own_ps q) 0
    have A0 : own_at f t (own_consB h1 (own_cs h2 (own_ps q)) 0 ++ (own_consB h2 (own_ps q) 0 ++ (own_primB q ++ (own_eoc h2 ++ own_eoc h1)))) := A
    rw [hM] at A0 hL2 hMl
    have A1 := own_at_l A0
    have A2 := own_at_r A0
    have A3 := own_at_r A2
    have A4 := own_at_r A3
    have A5 := own_at_r A4
    rw [own_primL] at A4 A5
    rw [hc] at hL hL3 A2 A3 A4 A5
    rw [hc2] at hL2 hL4 A3 A4 A5
    rw [ec, ec2, e] at Hf Hp
    rw [ec, ec2] at Ht
    unfold own_fnd at Ht Hf Hp
    unfold own_pas at Hf Hp
    refine own_R.mono (own_cons (by omega) A1 c1 hc (fun z => Hf (by omega) (by omega)) (fun z zl => ?_) (m := m + 4) fun z zl => ?_) (by omega)
    · rw [hp (by omega)] at zl; exact Ht ⟨by omega, z, Or.inl zl⟩
    · rw [hp (by omega)] at zl ⊢
      rw [own_ex0, Nat.add_zero]
      refine own_cons (by omega) (own_at_l A2) c2 hc2 (fun z2 => Hf (by omega) (by omega)) (fun z2 zl2 => ?_) (m := m + 3) fun z2 zl2 => ?_
      · rw [own_pop_e (by omega), List.length_cons] at zl2; exact Ht ⟨by omega, z, Or.inr ⟨rfl, zl2, z2⟩⟩
      · rw [own_pop_e (by omega), List.length_cons] at zl2
        rw [own_pop_e (a := t + c1) (by omega), own_ex0, Nat.add_zero]
        refine own_prim (own_at_l A3) (fun z3 => Hf (by omega) (by omega)) (m := m + 2) fun z3 => ?_
        rw [own_pop_e (by omega), Nat.min_eq_left z3]
        refine own_close (own_at_l A4) (fun z4 => Hf (by omega) (by omega)) (fun z4 => ?_) z3
        rw [show min (t + c1 + M) 48 = t + c1 + c2 + own_ps q + (own_eoc h2).length from by omega]
        refine own_close A5 (fun z5 => Hf (by omega) (by omega)) (fun z5 => ?_) z4
        have := Hp (by omega) (by omega)
        rw [show t + own_cs h1 M = t + c1 + c2 + own_ps q + (own_eoc h2).length + (own_eoc h1).length from by omega] at this
        exact this
/-! the whole stream -/
def own_f (bs : List Nat) : Nat → Nat := fun i => bs.getD i 0
theorem own_f_at (A L M : List Nat) (a : Nat) (ha : A.length = a) : own_at (own_f (A ++ L ++ M)) a L := fun j v q => by
  subst ha
  have hj := (List.getElem?_eq_some_iff.mp q).1
  show (A ++ L ++ M).getD (A.length + j) 0 = v
  rw [List.getD_eq_getElem?_getD, List.append_assoc, List.getElem?_append_right (by omega), Nat.add_sub_cancel_left, List.getElem?_append_left hj, q]; rfl
def own_pre (p : Nat) : List Nat := if p = 0 then [] else 4 :: (p - 2) :: List.replicate (p - 2) 0
theorem own_preL (p : Nat) (h : p ≠ 1) : (own_pre p).length = p := by
  unfold own_pre; split
  · simp; omega
  · simp; omega
def own_mk (fs : Nat → Nat) (d p : Nat) : Nat → Nat := fun i => if i = d ∧ fs d = 0 then p else fs i
def own_chM (fs : Nat → Nat) (w t a : Nat) (h1 h2 q : Int32) : Nat → Nat := if a = 0 then fs else if a = 1 then own_mk fs (w + 1) (t + own_c1 a h1 h2 q) else own_mk (own_mk fs (w + 1) (t + own_c1 a h1 h2 q)) (w + 2) (t + own_c1 a h1 h2 q + own_c2 h2 q)
def own_W (w : Nat) (wh : Int32) (n : Nat) (x : Int64) : List Nat := if w = 1 then own_consB wh n x else []
def own_all (p w a b : Nat) (wh x1 x2 xq y1 y2 yq : Int32) (x : Int64) : List Nat := own_pre p ++ own_W w wh (own_sz a x1 x2 xq + own_sz b y1 y2 yq) x ++ own_chB a x1 x2 xq ++ own_chB b y1 y2 yq
theorem own_f_pre {p w a b : Nat} {wh x1 x2 xq y1 y2 yq : Int32} {x : Int64} : own_at (own_f (own_all p w a b wh x1 x2 xq y1 y2 yq x)) 0 (own_pre p) := by
  have := own_f_at [] (own_pre p) (own_W w wh (own_sz a x1 x2 xq + own_sz b y1 y2 yq) x ++ own_chB a x1 x2 xq ++ own_chB b y1 y2 yq) 0 rfl
  simpa only [own_all, List.nil_append, List.append_assoc] using this
/-- the pure law -/
theorem own_main (p w a b lim : Nat) (wh x1 x2 xq y1 y2 yq : Int32) (x : Int64) (hp : p ≠ 1) (hp14 : p ≤ 14) (hw : w ≤ 1) (ha : a ≤ 2) (hb : b ≤ 2) (r : Bool)
    (t : Nat) (ht : t = p + (own_W w wh (own_sz a x1 x2 xq + own_sz b y1 y2 yq) x).length)
    (Hw1 : w = 1 → lim = 0 → t ≤ 48 → r = true) (Hw2 : w = 1 → 48 < t → r = false)
    (Hx1 : (w = 1 → lim ≠ 0 ∧ t ≤ 48) → own_fnd a lim w t (own_c1 a x1 x2 xq) (own_c2 x2 xq) → r = true)
    (Hx2 : (w = 1 → lim ≠ 0 ∧ t ≤ 48) → ¬ own_fnd a lim w t (own_c1 a x1 x2 xq) (own_c2 x2 xq) → ¬ own_pas a lim w t (own_sz a x1 x2 xq) → r = false)
    (Hy1 : (w = 1 → lim ≠ 0 ∧ t ≤ 48) → own_pas a lim w t (own_sz a x1 x2 xq) → own_fnd b lim w (t + own_sz a x1 x2 xq) (own_c1 b y1 y2 yq) (own_c2 y2 yq) → r = true)
    (Hy2 : (w = 1 → lim ≠ 0 ∧ t ≤ 48) → own_pas a lim w t (own_sz a x1 x2 xq) → ¬ own_fnd b lim w (t + own_sz a x1 x2 xq) (own_c1 b y1 y2 yq) (own_c2 y2 yq) → r = false) :
    own_p (own_f (own_all p w a b wh x1 x2 xq y1 y2 yq x)) lim 49 0 [] = r := by
  have hsx := own_sz_l a x1 x2 xq
  have hsy := own_sz_l b y1 y2 yq
  have lp := own_preL p hp
  have AX : own_at (own_f (own_all p w a b wh x1 x2 xq y1 y2 yq x)) t (own_chB a x1 x2 xq) := own_f_at (own_pre p ++ own_W w wh (own_sz a x1 x2 xq + own_sz b y1 y2 yq) x) _ _ t (by rw [List.length_append, lp, ht])
  have AY : own_at (own_f (own_all p w a b wh x1 x2 xq y1 y2 yq x)) (t + own_sz a x1 x2 xq) (own_chB b y1 y2 yq) := by
    have := own_f_at (own_pre p ++ own_W w wh (own_sz a x1 x2 xq + own_sz b y1 y2 yq) x ++ own_chB a x1 x2 xq) (own_chB b y1 y2 yq) [] (t + own_sz a x1 x2 xq) (by rw [List.length_append, List.length_append, lp, own_chL, ht])
    simpa only [own_all, List.append_nil] using this
  have AZ : ∀ i, t + own_sz a x1 x2 xq + own_sz b y1 y2 yq ≤ i → own_f (own_all p w a b wh x1 x2 xq y1 y2 yq x) i = 0 := fun i q => by
    show (own_all p w a b wh x1 x2 xq y1 y2 yq x).getD i 0 = 0
    rw [List.getD_eq_getElem?_getD, List.getElem?_eq_none (by simp only [own_all, List.length_append, own_chL, lp]; omega)]; rfl
  have AP := @own_f_pre p w a b wh x1 x2 xq y1 y2 yq x
  have AW : own_at (own_f (own_all p w a b wh x1 x2 xq y1 y2 yq x)) p (own_W w wh (own_sz a x1 x2 xq + own_sz b y1 y2 yq) x) := by
    have := own_f_at (own_pre p) (own_W w wh (own_sz a x1 x2 xq + own_sz b y1 y2 yq) x) (own_chB a x1 x2 xq ++ own_chB b y1 y2 yq) p lp
    simpa only [own_all, List.append_assoc] using this
  generalize own_f (own_all p w a b wh x1 x2 xq y1 y2 yq x) = f at *
  -- the two chains
  have XY : (w = 1 → lim ≠ 0 ∧ t ≤ 48) → ∀ sk : List (Option Nat), sk.length = w → (t < 48 → own_pop t sk = sk) → (t + own_sz a x1 x2 xq < 48 → own_pop (t + own_sz a x1 x2 xq) sk = sk) → own_R f lim t sk r 10 := by
    intro hW sk hl p1 p2
    refine own_chain a x1 x2 xq ha t sk r 5 AX p1 ?_ ?_ ?_
    · rw [hl]; exact Hx1 hW
    · rw [hl]; exact Hx2 hW
    · rw [hl]; intro _ hpas
      refine own_chain b y1 y2 yq hb _ sk r 0 AY p2 ?_ ?_ ?_
      · rw [hl]; exact Hy1 hW hpas
      · rw [hl]; intro q _; exact Hy2 hW hpas q
      · rw [hl]; intro q _; rw [Hy2 hW hpas q]; exact fun F _ => own_zero F _ _ AZ
  have ST : own_R f lim p [] r 11 := by
    by_cases hw1 : w = 1
    · have eW : own_W w wh (own_sz a x1 x2 xq + own_sz b y1 y2 yq) x = own_consB wh (own_sz a x1 x2 xq + own_sz b y1 y2 yq) x := by unfold own_W; rw [if_pos hw1]
      rw [eW] at AW ht
      refine own_cons (sk := []) (m := 10) (by omega) AW _ rfl ?_ ?_ ?_
      · rw [← ht]; exact Hw2 hw1
      · rw [← ht]; intro z zl; exact Hw1 hw1 zl.symm z
      · rw [← ht]; intro z zl
        have z0 : lim ≠ 0 := fun q => zl q.symm
        refine XY (fun _ => ⟨z0, z⟩) _ (by rw [hw1]; rfl) (fun q => ?_) (fun q => ?_)
        · exact own_pop_e (by omega)
        · exact own_pop_e (by omega)
    · have eW : own_W w wh (own_sz a x1 x2 xq + own_sz b y1 y2 yq) x = [] := by unfold own_W; rw [if_neg hw1]
      rw [eW] at ht
      have : t = p := ht
      rw [← this]
      exact (XY (fun q => absurd q hw1) [] (by simp; omega) (fun _ => rfl) (fun _ => rfl)).mono (by omega)
  have : own_R f lim 0 [] r 12 := by
    by_cases h0 : p = 0
    · rw [h0] at ST; exact ST.mono (by omega)
    · have e : own_pre p = 4 :: (p - 2) :: List.replicate (p - 2) 0 := by unfold own_pre; rw [if_neg h0]
      rw [e] at AP
      have hT : own_idB 4 0 ++ own_lenB 0 (p - 2) = [4, p - 2] := rfl
      refine own_tok_prim (id := 4) (d := 0) (k := 0) (V := p - 2) (n := 11) (by decide) (by decide) (by decide) (by decide) (show p - 2 < 128 by omega) ?_ p ?_ ?_ ?_
      · rw [hT]; exact own_at_l (M := List.replicate (p - 2) 0) AP
      · rw [hT]; simp; omega
      · intro q; omega
      · intro q; rw [Nat.zero_add]; exact ST
  exact this 49 (by omega)
theorem own_first (w t sx a b c1x c2x c1y c2y d : Nat) (x1 x2 xq y1 y2 yq : Int32) (ht : w = 1 → 0 < t) (e1 : own_c1 a x1 x2 xq = c1x) (e2 : own_c2 x2 xq = c2x) (e3 : own_c1 b y1 y2 yq = c1y) (e4 : own_c2 y2 yq = c2y) (h1 : 0 < c1x) (ha : a ≤ 2) (hb : b ≤ 2) (hw : w ≤ 1) :
    own_chM (own_chM (if w = 1 then own_mk (fun _ => 0) 1 t else fun _ => 0) w t a x1 x2 xq) w (t + sx) b y1 y2 yq d
     = if w = 1 ∧ d = 1 then t else if 1 ≤ a ∧ d = w + 1 then t + c1x else if a = 2 ∧ d = w + 2 then t + c1x + c2x else if 1 ≤ b ∧ d = w + 1 then t + sx + c1y else if b = 2 ∧ d = w + 2 then t + sx + c1y + c2y else 0 := by
  unfold own_chM
  rw [e1, e2, e3, e4]
  obtain rfl | rfl : w = 0 ∨ w = 1 := by omega
  all_goals
    obtain rfl | rfl | rfl : a = 0 ∨ a = 1 ∨ a = 2 := by omega
    all_goals
      obtain rfl | rfl | rfl : b = 0 ∨ b = 1 ∨ b = 2 := by omega
      all_goals
        simp [own_mk]
        repeat' split
        all_goals first | rfl | omega
theorem own_c1_l (a : Nat) (h1 h2 q : Int32) (h : 1 ≤ a) (ha : a ≤ 2) : 2 ≤ own_c1 a h1 h2 q ∧ own_c1 a h1 h2 q + 2 ≤ own_sz a h1 h2 q ∧ (a = 2 → own_c1 a h1 h2 q + own_c2 h2 q + 2 ≤ own_sz a h1 h2 q) := by
  have hq := own_ps_l q
  obtain rfl | rfl : a = 1 ∨ a = 2 := by omega
  · have := own_consL2 h1 (own_ps q) 0
    have := own_consL h1 (own_ps q) 0
    have e : own_c1 1 h1 h2 q = (own_consB h1 (own_ps q) 0).length := rfl
    have e2 : own_sz 1 h1 h2 q = own_cs h1 (own_ps q) := rfl
    rw [e, e2]; omega
  · have := own_consL2 h1 (own_cs h2 (own_ps q)) 0
    have := own_consL h1 (own_cs h2 (own_ps q)) 0
    have := own_consL h2 (own_ps q) 0
    have e : own_c1 2 h1 h2 q = (own_consB h1 (own_cs h2 (own_ps q)) 0).length := rfl
    have e3 : own_c2 h2 q = (own_consB h2 (own_ps q) 0).length := rfl
    have e2 : own_sz 2 h1 h2 q = own_cs h1 (own_cs h2 (own_ps q)) := rfl
    rw [e, e2, e3]; omega
theorem own_c1_pos (a : Nat) (h1 h2 q : Int32) : 2 ≤ own_c1 a h1 h2 q := by
  unfold own_c1; split
  · exact own_consL2 _ _ _
  · exact own_consL2 _ _ _
theorem own_ans (p w a b lim : Nat) (wh x1 x2 xq y1 y2 yq : Int32) (x : Int64) (hp : p ≠ 1) (hp14 : p ≤ 14) (hw : w ≤ 1) (ha : a ≤ 2) (hb : b ≤ 2) (t : Nat) (ht : t = (own_pre p ++ own_W w wh (own_sz a x1 x2 xq + own_sz b y1 y2 yq) x).length) :
    own_p (own_f (own_all p w a b wh x1 x2 xq y1 y2 yq x)) lim 49 0 [] = decide (lim < w + max a b ∧ own_chM (own_chM (if w = 1 then own_mk (fun _ => 0) 1 t else fun _ => 0) w t a x1 x2 xq) w (t + own_sz a x1 x2 xq) b y1 y2 yq (lim + 1) ≤ 48) := by
  rw [List.length_append, own_preL p hp] at ht
  have htw : w = 1 → 0 < t := fun q => by
    have := own_consL2 wh (own_sz a x1 x2 xq + own_sz b y1 y2 yq) x
    have e : own_W w wh (own_sz a x1 x2 xq + own_sz b y1 y2 yq) x = own_consB wh (own_sz a x1 x2 xq + own_sz b y1 y2 yq) x := by unfold own_W; rw [if_pos q]
    rw [e] at ht; omega
  have hx := own_c1_pos a x1 x2 xq
  rw [own_first w t (own_sz a x1 x2 xq) a b _ _ _ _ (lim + 1) x1 x2 xq y1 y2 yq htw rfl rfl rfl rfl (by omega) ha hb hw]
  have kx := own_c1_l a x1 x2 xq
  have ky := own_c1_l b y1 y2 yq
  have sx := own_sz_l a x1 x2 xq
  refine own_main p w a b lim wh x1 x2 xq y1 y2 yq x hp hp14 hw ha hb _ t ht ?_ ?_ ?_ ?_ ?_ ?_
  all_goals
    generalize own_c1 a x1 x2 xq = c1x at *
    generalize own_c2 x2 xq = c2x at *
    generalize own_c1 b y1 y2 yq = c1y at *
    generalize own_c2 y2 yq = c2y at *
    generalize own_sz a x1 x2 xq = lx at *
    try unfold own_fnd
    try unfold own_pas
  · intro g1 g2 g3; refine decide_eq_true ⟨by omega, ?_⟩; split <;> omega
  · intro g1 g2; refine decide_eq_false ?_; rintro ⟨g3, g4⟩; split at g4 <;> (try split at g4) <;> (try split at g4) <;> (try split at g4) <;> (try split at g4) <;> omega
  · intro g1 g2; refine decide_eq_true ⟨by omega, ?_⟩; split <;> (try split) <;> (try split) <;> (try split) <;> (try split) <;> omega
  · intro g1 g2 g3; refine decide_eq_false ?_; rintro ⟨g4, g5⟩; split at g5 <;> (try split at g5) <;> (try split at g5) <;> (try split at g5) <;> (try split at g5) <;> omega
  · intro g1 g2 g3; refine decide_eq_true ⟨by omega, ?_⟩; split <;> (try split) <;> (try split) <;> (try split) <;> (try split) <;> omega
  · intro g1 g2 g3; refine decide_eq_false ?_; rintro ⟨g4, g5⟩; split at g5 <;> (try split at g5) <;> (try split at g5) <;> (try split at g5) <;> (try split at g5) <;> omega
/-! the arrays -/
def own_b (bs : List Nat) : List Value := (List.range 48).map fun i => Value.int (own_by (own_f bs i))
theorem own_b_len (bs : List Nat) : (own_b bs).length = 48 := by simp [own_b]
theorem own_b_get (bs : List Nat) (i : Nat) (h : i < 48) : (own_b bs)[i]? = some (.int (own_by (own_f bs i))) := by
  simp [own_b, h]
theorem own_b_eq {bs cs : List Nat} (h : ∀ i, i < 48 → own_f bs i = own_f cs i) : own_b bs = own_b cs := by
  unfold own_b
  exact List.map_congr_left fun i hi => by rw [h i (List.mem_range.mp hi)]
theorem own_f_l {bs cs : List Nat} {i : Nat} (h : i < bs.length) : own_f (bs ++ cs) i = own_f bs i := by
  simp only [own_f, List.getD_eq_getElem?_getD]; rw [List.getElem?_append_left h]
theorem own_f_n {bs : List Nat} {i : Nat} (h : bs.length ≤ i) : own_f bs i = 0 := by
  simp only [own_f, List.getD_eq_getElem?_getD]; rw [List.getElem?_eq_none h]; rfl
theorem own_b_put (bs : List Nat) (v : Nat) (h : bs.length < 48) : (own_b bs).set bs.length (.int (own_by v)) = own_b (bs ++ [v]) := by
  apply List.ext_getElem?
  intro i
  by_cases hi : i < 48
  · rw [own_b_get _ i hi]
    by_cases e : bs.length = i
    · subst e
      rw [List.getElem?_set_self (by rw [own_b_len]; exact h)]
      simp [own_f]
    · rw [List.getElem?_set_ne e, own_b_get _ i hi]
      by_cases q : i < bs.length
      · rw [own_f_l q]
      · rw [own_f_n (by omega), own_f_n (by simp; omega)]
  · rw [List.getElem?_eq_none (by rw [List.length_set, own_b_len]; omega), List.getElem?_eq_none (by rw [own_b_len]; omega)]
theorem own_b_over (bs : List Nat) (v : Nat) (h : 48 ≤ bs.length) : own_b (bs ++ [v]) = own_b bs := own_b_eq fun i q => own_f_l (by omega)
theorem own_b_z (bs : List Nat) (k : Nat) : own_b (bs ++ List.replicate k 0) = own_b bs := own_b_eq fun i q => by
  by_cases h : i < bs.length
  · exact own_f_l h
  · rw [own_f_n (bs := bs) (by omega)]
    simp only [own_f, List.getD_eq_getElem?_getD]
    rw [List.getElem?_append_right (by omega), List.getElem?_replicate]; split <;> rfl
theorem own_b_00 (bs : List Nat) : own_b (bs ++ [0, 0]) = own_b bs := own_b_z bs 2
theorem own_b_nil : List.replicate 48 (Value.int 0) = own_b [] := by
  unfold own_b
  rw [show (fun i => Value.int (own_by (own_f [] i))) = fun _ => Value.int 0 from funext fun i => congrArg Value.int (show own_by 0 = 0 by decide)]
  rfl
theorem own_b_pre (p : Nat) (h : p ≠ 0) : own_b ([] ++ [4] ++ [p - 2]) = own_b (own_pre p) := by
  have e : own_pre p = ([] ++ [4] ++ [p - 2]) ++ List.replicate (p - 2) 0 := by unfold own_pre; rw [if_neg h]; rfl
  rw [e, own_b_z]
def own_fv (fs : Nat → Nat) : List Value := (List.range 6).map fun i => Value.int (Int32.ofNat (fs i))
theorem own_fv_len (fs : Nat → Nat) : (own_fv fs).length = 6 := by simp [own_fv]
theorem own_fv_get (fs : Nat → Nat) (i : Nat) (h : i < 6) : (own_fv fs)[i]? = some (.int (Int32.ofNat (fs i))) := by simp [own_fv, h]
theorem own_fv_set (fs : Nat → Nat) (d p : Nat) (h : d < 6) (hz : fs d = 0) : (own_fv fs).set d (.int (Int32.ofNat p)) = own_fv (own_mk fs d p) := by
  apply List.ext_getElem?
  intro i
  by_cases hi : i < 6
  · rw [own_fv_get _ i hi]
    by_cases e : d = i
    · subst e
      rw [List.getElem?_set_self (by rw [own_fv_len]; exact h)]
      simp [own_mk, hz]
    · rw [List.getElem?_set_ne e, own_fv_get _ i hi]
      simp only [own_mk]; rw [if_neg (fun q => e q.1.symm)]
  · rw [List.getElem?_eq_none (by rw [List.length_set, own_fv_len]; omega), List.getElem?_eq_none (by rw [own_fv_len]; omega)]
theorem own_mk_no {fs : Nat → Nat} {d p : Nat} (h : ¬ fs d = 0) : own_mk fs d p = fs := by
  funext i; unfold own_mk; rw [if_neg (fun q => h q.2)]
theorem own_fv_nil : List.replicate 6 (Value.int 0) = own_fv (fun _ => 0) := by
  rfl
theorem own_mk_le {fs : Nat → Nat} {d p : Nat} (h : ∀ i, fs i ≤ 300) (hp : p ≤ 300) : ∀ i, own_mk fs d p i ≤ 300 := fun i => by
  unfold own_mk; split
  · exact hp
  · exact h i
/-! small facts for the walks -/
theorem own_len1 (bs : List Nat) (n : Nat) : Int32.ofNat bs.length + 1 = Int32.ofNat (bs ++ [n]).length := by rw [List.length_append]; exact own_add _ 1
theorem own_len2 (bs : List Nat) : Int32.ofNat bs.length + 2 = Int32.ofNat (bs ++ [0, 0]).length := by rw [List.length_append]; exact own_add _ 2
theorem own_il1 {d : Int32} (h : ¬ d &&& 31 = 31) : (1 : Int32) = Int32.ofNat (own_il d) := by unfold own_il; rw [if_neg h]; rfl
theorem own_il2 {d : Int32} (h : d &&& 31 = 31) (c : XT.ushr d 8 &&& 1 = 0) : (2 : Int32) = Int32.ofNat (own_il d) := by unfold own_il; rw [if_pos h, if_pos c]; rfl
theorem own_il3 {d : Int32} (h : d &&& 31 = 31) (c : ¬ XT.ushr d 8 &&& 1 = 0) : (3 : Int32) = Int32.ofNat (own_il d) := by unfold own_il; rw [if_pos h, if_neg c]; rfl
theorem own_ps_v (q : Int32) : Int32.ofNat (own_il q) + 1 + Int32.ofNat (own_pc q) + Int32.ofNat (own_pn q) = Int32.ofNat (own_ps q) := by
  show Int32.ofNat (own_il q) + Int32.ofNat 1 + Int32.ofNat (own_pc q) + Int32.ofNat (own_pn q) = Int32.ofNat (own_ps q)
  rw [own_add, own_add, own_add]; rfl
theorem own_ci_neg {k : Nat} (h : k ≤ 5) : own_ci k < 0 ↔ k = 5 := by
  rcases own_k5 h with rfl | rfl | rfl | rfl | rfl | rfl <;> decide
theorem own_cs_5 {u : Int32} (c : own_ci (own_cc u) < 0) (n : Nat) : Int32.ofNat (own_il u) + 1 + 2 + Int32.ofNat n = Int32.ofNat (own_cs u n) := by
  have := (own_ci_neg (own_cc_le u)).mp c
  show Int32.ofNat (own_il u) + Int32.ofNat 1 + Int32.ofNat 2 + Int32.ofNat n = _
  unfold own_cs
  rw [own_add, own_add, own_add, if_pos this]
theorem own_cs_n {u : Int32} (c : ¬ own_ci (own_cc u) < 0) (n : Nat) : Int32.ofNat (own_il u) + 1 + own_ci (own_cc u) + Int32.ofNat n = Int32.ofNat (own_cs u n) := by
  have h5 : ¬ own_cc u = 5 := fun q => c ((own_ci_neg (own_cc_le u)).mpr q)
  have e : own_ci (own_cc u) = Int32.ofNat (own_cc u) := by unfold own_ci; rw [if_neg h5]
  rw [e]
  show Int32.ofNat (own_il u) + Int32.ofNat 1 + _ + Int32.ofNat n = _
  unfold own_cs
  rw [own_add, own_add, own_add, if_neg h5]
theorem own_eoc_5 {u : Int32} (c : own_ci (own_cc u) < 0) : own_eoc u = [0, 0] := by
  unfold own_eoc; rw [if_pos ((own_ci_neg (own_cc_le u)).mp c)]
theorem own_eoc_n {u : Int32} (c : ¬ own_ci (own_cc u) < 0) : own_eoc u = [] := by
  unfold own_eoc; rw [if_neg fun q => c ((own_ci_neg (own_cc_le u)).mpr q)]
def own_cd (c0 : Int32) (k : Nat) : Prop := (c0 = 0 ∧ k = 0) ∨ (c0 = 1 ∧ k = 1) ∨ (c0 = 2 ∧ k = 2) ∨ (c0 = 3 ∧ k = 3) ∨ (c0 = 4 ∧ k = 4) ∨ (c0 = -1 ∧ k = 5)
theorem own_ci_c {k : Nat} (h : k ≤ 5) : own_cd (own_ci k) k := by
  unfold own_cd; rcases own_k5 h with rfl | rfl | rfl | rfl | rfl | rfl <;> decide
theorem own_of_c {k : Nat} (h : k < 4) : own_cd (Int32.ofNat k) k := by
  unfold own_cd; rcases own_k5 (k := k) (by omega) with rfl | rfl | rfl | rfl | rfl | rfl <;> first | decide | omega
theorem own_o9 (z : Int32) : (128 : Int32) ||| (z &&& 127) = Int32.ofNat (128 + (z &&& 127).toNatClampNeg) := by
  obtain ⟨e, l⟩ := own_msk z 127 7 (by decide) (by decide)
  exact (congrArg (fun y => (128 : Int32) ||| y) e).trans (own_o128 _ l)
theorem own_m127 (z : Int32) : z &&& 127 = Int32.ofNat (z &&& 127).toNatClampNeg := (own_msk z 127 7 (by decide) (by decide)).1
theorem own_m255 (z : Int32) : z &&& 255 = Int32.ofNat (z &&& 255).toNatClampNeg := (own_msk z 255 8 (by decide) (by decide)).1
theorem own_pid_n {q : Int32} (c : ¬ q &&& 223 = 0) : q &&& 223 = Int32.ofNat (own_pb q) := by
  have := (own_pb_f q).1; unfold own_pid at this; rw [if_neg c] at this; exact this
theorem own_pid_z {q : Int32} (c : q &&& 223 = 0) : (5 : Int32) = Int32.ofNat (own_pb q) := by
  have := (own_pb_f q).1; unfold own_pid at this; rw [if_pos c] at this; exact this
theorem own_pn_c (q : Int32) : own_pn q = 0 ∨ own_pn q = 1 ∨ own_pn q = 2 := by have := own_pn_l q; omega
theorem own_max (a b : Nat) (ha : a ≤ 400) (hb : b ≤ 400) (c : Int32.ofNat a < Int32.ofNat b) : Int32.ofNat b = Int32.ofNat (max a b) := by
  rw [Nat.max_eq_right (by have := (own_lt a b ha hb).mp c; omega)]
theorem own_max' (a b : Nat) (ha : a ≤ 400) (hb : b ≤ 400) (c : ¬ Int32.ofNat a < Int32.ofNat b) : Int32.ofNat a = Int32.ofNat (max a b) := by
  rw [Nat.max_eq_left (by have : ¬ a < b := fun q => c ((own_lt a b ha hb).mpr q); omega)]
theorem own_minL (a b : Nat) (ha : a < 1099511627776) (hb : b < 1099511627776) (c : Int64.ofNat b < Int64.ofNat a) : Int64.ofNat b = Int64.ofNat (min a b) := by
  rw [Nat.min_eq_right (by have := (own_llt b a hb ha).mp c; omega)]
theorem own_minL' (a b : Nat) (ha : a < 1099511627776) (hb : b < 1099511627776) (c : ¬ Int64.ofNat b < Int64.ofNat a) : Int64.ofNat a = Int64.ofNat (min a b) := by
  rw [Nat.min_eq_left (by have : ¬ b < a := fun q => c ((own_llt b a hb ha).mpr q); omega)]
theorem own_ex_e (k : Nat) (c0 : Int32) (h : own_cd c0 k) : k ≤ 5 := by unfold own_cd at h; omega
/-! every byte is less than 256 -/
def own_lb (bs : List Nat) : Prop := ∀ z ∈ bs, z < 256
theorem own_lb.app {A L : List Nat} (h1 : own_lb A) (h2 : own_lb L) : own_lb (A ++ L) := fun z q => (List.mem_append.mp q).elim (h1 z) (h2 z)
theorem own_lb_f {bs : List Nat} (h : own_lb bs) (i : Nat) : own_f bs i < 256 := by
  by_cases q : i < bs.length
  · simp only [own_f, List.getD_eq_getElem?_getD, List.getElem?_eq_getElem q, Option.getD_some]
    exact h _ (List.getElem_mem q)
  · rw [own_f_n (by omega)]; omega
theorem own_lb_id {n : Nat} (hn : n < 256) (d : Int32) : own_lb (own_idB n d) := by
  have l1 := (own_msk (XT.ushr d 16) 127 7 (by decide) (by decide)).2
  have l2 := (own_msk (XT.ushr d 9) 127 7 (by decide) (by decide)).2
  intro z hz
  unfold own_idB own_idT at hz
  split at hz
  · split at hz
    · simp only [List.mem_cons, List.not_mem_nil, or_false] at hz; omega
    · simp only [List.mem_cons, List.not_mem_nil, or_false] at hz; omega
  · simp only [List.mem_cons, List.not_mem_nil, or_false] at hz; omega
theorem own_lb_len {k V : Nat} (hk : k ≤ 5) (hV : own_vb k V) : own_lb (own_lenB k V) := by
  intro z hz
  rcases own_k5 hk with rfl | rfl | rfl | rfl | rfl | rfl <;> simp only [own_lenB, List.mem_cons, List.not_mem_nil, or_false] at hz
  · have : V < 128 := hV; omega
  all_goals omega
theorem own_lb_cons (h : Int32) (n : Nat) (x : Int64) (hn : n ≤ 50) : own_lb (own_consB h n x) :=
  (own_lb_id (own_ib_f h).2.1 h).app (own_lb_len (own_cc_le h) (own_ex_v _ (own_cc_le h) x n hn))
theorem own_lb_prim (q : Int32) : own_lb (own_primB q) := by
  have hc := (own_pc_f q).2
  refine ((own_lb_id (own_pb_f q).2.1 q).app (own_lb_len (by omega) (own_vbp (own_pn_l q)))).app ?_
  have l1 := (own_msk q 255 8 (by decide) (by decide)).2
  have l2 := (own_msk (XT.ushr q 8) 255 8 (by decide) (by decide)).2
  intro z hz
  unfold own_ct at hz
  split at hz
  · simp at hz
  · split at hz
    · simp only [List.mem_cons, List.not_mem_nil, or_false] at hz; omega
    · simp only [List.mem_cons, List.not_mem_nil, or_false] at hz; omega
theorem own_lb_eoc (h : Int32) : own_lb (own_eoc h) := by
  intro z hz
  unfold own_eoc at hz
  split at hz
  · simp only [List.mem_cons, List.not_mem_nil, or_false] at hz; omega
  · simp at hz
theorem own_lb_ch (a : Nat) (h1 h2 q : Int32) : own_lb (own_chB a h1 h2 q) := by
  have := own_ps_l q; have := own_cs_l h2 (own_ps q)
  unfold own_chB
  split
  · exact own_lb_prim q
  · split
    · exact (own_lb_cons _ _ _ (by omega)).app ((own_lb_prim q).app (own_lb_eoc h1))
    · exact (own_lb_cons _ _ _ (by omega)).app ((own_lb_cons _ _ _ (by omega)).app ((own_lb_prim q).app ((own_lb_eoc h2).app (own_lb_eoc h1))))
theorem own_lb_all (p w a b : Nat) (wh x1 x2 xq y1 y2 yq : Int32) (x : Int64) (hp : p ≤ 14) : own_lb (own_all p w a b wh x1 x2 xq y1 y2 yq x) := by
  have := own_sz_l a x1 x2 xq; have := own_sz_l b y1 y2 yq
  refine ((own_lb.app ?_ ?_).app (own_lb_ch a x1 x2 xq)).app (own_lb_ch b y1 y2 yq)
  · intro z hz
    unfold own_pre at hz
    split at hz
    · simp at hz
    · simp only [List.mem_cons, List.mem_replicate] at hz; omega
  · unfold own_W; split
    · exact own_lb_cons _ _ _ (by omega)
    · intro z hz; simp at hz
/-! the parser's stack -/
def own_xv : Option Nat → Int32
  | none => -1
  | some k => Int32.ofNat k
def own_ev (sk : List (Option Nat)) : List Value := (sk.map fun o => Value.int (own_xv o)).reverse
theorem own_ev_len (sk : List (Option Nat)) : (own_ev sk).length = sk.length := by simp [own_ev]
theorem own_ev_cons (o : Option Nat) (sk : List (Option Nat)) (rest : List Value) : own_ev (o :: sk) ++ rest = own_ev sk ++ Value.int (own_xv o) :: rest := by simp [own_ev]
theorem own_ev_get (o : Option Nat) (sk : List (Option Nat)) (rest : List Value) : (own_ev (o :: sk) ++ rest)[sk.length]? = some (.int (own_xv o)) := by
  rw [own_ev_cons, List.getElem?_append_right (by rw [own_ev_len]; omega), own_ev_len, Nat.sub_self]; rfl
theorem own_ev_set (o : Option Nat) (sk : List (Option Nat)) (y : Value) (rest : List Value) : (own_ev sk ++ y :: rest).set sk.length (.int (own_xv o)) = own_ev (o :: sk) ++ rest := by
  rw [own_ev_cons, List.set_append_right _ _ (by rw [own_ev_len]; omega), own_ev_len, Nat.sub_self]; rfl
def own_ok (sk : List (Option Nat)) : Prop := ∀ k, some k ∈ sk → k ≤ 48
def own_gi (g : Slot) : Prop := g = .unset ∨ ∃ z, g = .val (.int z)
def own_gl (g g' : Slot) : Prop := (g = .unset ∧ g' = .unset) ∨ ∃ z, g = .val (.long z) ∧ g' = .second
theorem own_gi_v (z : Int32) : own_gi (.val (.int z)) := Or.inr ⟨z, rfl⟩
theorem own_gl_v (z : Int64) : own_gl (.val (.long z)) .second := Or.inr ⟨z, rfl, rfl⟩
def own_lv : Option Nat → Int64
  | none => -1
  | some k => Int64.ofNat k
theorem own_mul2 (a : Nat) : (2 : Int32) * Int32.ofNat a = Int32.ofNat (2 * a) := (Int32.ofNat_mul 2 a).symm
theorem own_sub2 (a : Nat) (h : 2 ≤ a) : Int32.ofNat a - 2 = Int32.ofNat (a - 2) := by
  have : Int32.ofNat a = Int32.ofNat (a - 2) + Int32.ofNat 2 := by rw [own_add]; congr 1; omega
  rw [this]; show Int32.ofNat (a - 2) + 2 - 2 = _; simp
theorem own_consL8 (u : Int32) (n : Nat) (x : Int64) : (own_consB u n x).length ≤ 8 := by
  have := own_consL u n x; have := own_cs_l u n; omega
theorem own_chM_le {fs : Nat → Nat} {w t a : Nat} {h1 h2 q : Int32} (h : ∀ i, fs i ≤ 300) (ht : t ≤ 200) : ∀ i, own_chM fs w t a h1 h2 q i ≤ 300 := by
  have l1 : own_c1 a h1 h2 q ≤ 8 := by unfold own_c1; split <;> exact own_consL8 _ _ _
  have l2 : own_c2 h2 q ≤ 8 := own_consL8 _ _ _
  unfold own_chM; split
  · exact h
  · split
    · exact own_mk_le h (by omega)
    · exact own_mk_le (own_mk_le h (by omega)) (by omega)
theorem own_W_l (w : Nat) (u : Int32) (n : Nat) (x : Int64) : (own_W w u n x).length ≤ 8 := by
  unfold own_W; split
  · exact own_consL8 _ _ _
  · simp
theorem own_rem5 : ∀ k, k < 8 → Int32.ofNat k % 5 = Int32.ofNat (k % 5) := by decide +kernel
theorem own_dw (z : Int32) : ∃ k : Nat, k ≤ 1 ∧ z &&& 1 = Int32.ofNat k := by
  obtain ⟨e, l⟩ := own_msk z 1 1 (by decide) (by decide)
  exact ⟨_, by omega, e⟩
theorem own_d3 (z : Int32) : ∃ k : Nat, k ≤ 2 ∧ (z &&& 3) % 3 = Int32.ofNat k := by
  obtain ⟨e, l⟩ := own_msk z 3 2 (by decide) (by decide)
  refine ⟨(z &&& 3).toNatClampNeg % 3, by omega, ?_⟩
  rw [← own_rem3 _ l, ← e]
theorem own_d5 (z : Int32) : ∃ k : Nat, k ≤ 4 ∧ (z &&& 7) % 5 = Int32.ofNat k := by
  obtain ⟨e, l⟩ := own_msk z 7 3 (by decide) (by decide)
  refine ⟨(z &&& 7).toNatClampNeg % 5, by omega, ?_⟩
  rw [← own_rem5 _ l, ← e]
theorem own_d7 (z : Int32) : ∃ k : Nat, k ≤ 7 ∧ z &&& 7 = Int32.ofNat k := by
  obtain ⟨e, l⟩ := own_msk z 7 3 (by decide) (by decide)
  exact ⟨_, by omega, e⟩
theorem d10_0 : decode method_3_code 0 = .ok (.iload_n 1, 1) := by decide +kernel
theorem d10_1 : decode method_3_code 1 = .ok (.aload_n 0, 1) := by decide +kernel
theorem d10_2 : decode method_3_code 2 = .ok (.arraylength, 1) := by decide +kernel
theorem d10_3 : decode method_3_code 3 = .ok (.if_icmp .ge 8, 3) := by decide +kernel
theorem d10_6 : decode method_3_code 6 = .ok (.aload_n 0, 1) := by decide +kernel
theorem d10_7 : decode method_3_code 7 = .ok (.iload_n 1, 1) := by decide +kernel
theorem d10_8 : decode method_3_code 8 = .ok (.iload_n 2, 1) := by decide +kernel
theorem d10_9 : decode method_3_code 9 = .ok (.i2b, 1) := by decide +kernel
theorem d10_10 : decode method_3_code 10 = .ok (.bastore, 1) := by decide +kernel
theorem d10_11 : decode method_3_code 11 = .ok (.iload_n 1, 1) := by decide +kernel
theorem d10_12 : decode method_3_code 12 = .ok (.iconst 1, 1) := by decide +kernel
theorem d10_13 : decode method_3_code 13 = .ok (.iadd, 1) := by decide +kernel
theorem d10_14 : decode method_3_code 14 = .ok (.ireturn, 1) := by decide +kernel
theorem pn_10 : plainFor (⟨"com/example/siegelwerk/siegelwerk/BerNestingDeeperThanPinLaw", "put", "([BII)I"⟩ : MethodName) = true := by first | exact plainFor_of_name (by first | (simp [plainName, overriddenIn]; done) | decide +kernel) | decide +kernel
set_option maxRecDepth 65536 in
set_option maxHeartbeats 4000000 in
theorem rm_put (l : Launch) (Z : State) (a0 : Array Value) (hw : ∀ d ∈ tables_1, d.before a0 Z = true) (buf : Addr) (bs : List Nat) (n : Nat) (h0 : Heap) (A : Ary Z h0 buf .byte (own_b (bs))) (hl : bs.length ≤ 300) :
    Met l Z (⟨"com/example/siegelwerk/siegelwerk/BerNestingDeeperThanPinLaw", "put", "([BII)I"⟩ : MethodName) method_3_code 3 (some .int) [] ({ frames := 0, cells := 0, slots := 0, locals := 0 } : Room) #[(.ref buf), (.int (Int32.ofNat (bs.length))), (.int (Int32.ofNat n))] h0 [buf] (fun v h => v = some (.int (Int32.ofNat (bs ++ [n]).length)) ∧ Ary Z h buf .byte (own_b (bs ++ [n]))) := by
  refine Met.walk pn_10 (Ls := #[.val (.ref buf), .val (.int (Int32.ofNat (bs.length))), .val (.int (Int32.ofNat n))]) (fun m => by first | (simp [entryFrame, mkF, argsToLocals, Value.category, maxLocals]; done) | rfl) ?_
  intro p e s m below meth c B
  refine B.iloadN 1 rfl d10_0 rfl ?_
  refine B.aloadN 2 rfl d10_1 rfl rfl ?_
  refine B.arrlen 3 rfl d10_2 A (48 : Int32) (by rw [own_b_len]; rfl) ?_
  refine B.icmp_ge 11 6 rfl (by decide) rfl d10_3 (fun c3 => ?_) (fun c3 => ?_)
  · have q : 48 ≤ bs.length := Nat.not_lt.mp fun z => c3 ((own_lt _ 48 (by omega) (by omega)).mpr z)
    refine B.iloadN 12 rfl d10_11 rfl ?_
    refine B.iconst 13 rfl (1 : Int32) d10_12 rfl ?_
    refine B.iadd 14 rfl d10_13 ?_
    refine B.retI d10_14 (by decide) (by decide) ?_
    exact ⟨by rw [own_len1 bs n], by rw [own_b_over bs n q]; exact A⟩
  · have q : bs.length < 48 := (own_lt _ 48 (by omega) (by omega)).mp c3
    refine B.aloadN 7 rfl d10_6 rfl rfl ?_
    refine B.iloadN 8 rfl d10_7 rfl ?_
    refine B.iloadN 9 rfl d10_8 rfl ?_
    refine B.i2b 10 rfl d10_9 ?_
    refine B.bastore 11 rfl d10_10 A (own_nn _ (by omega)).1 bs.length (own_nn _ (by omega)).2 (by rw [own_b_len]; exact q) (Or.inl (by simp)) ?_
    intro h1 W1 A1
    rw [own_byb, show Value.int (Int32.ofNat n).toInt8.toInt32 = Value.int (own_by n) from rfl, own_b_put bs n q] at A1
    refine B.iloadN 12 rfl d10_11 rfl ?_
    refine B.iconst 13 rfl (1 : Int32) d10_12 rfl ?_
    refine B.iadd 14 rfl d10_13 ?_
    refine B.retI d10_14 (by decide) (by decide) ?_
    exact ⟨by rw [own_len1 bs n], A1⟩
theorem d4_0 : decode method_4_code 0 = .ok (.iload_n 0, 1) := by decide +kernel
theorem d4_1 : decode method_4_code 1 = .ok (.bipush 31, 2) := by decide +kernel
theorem d4_3 : decode method_4_code 3 = .ok (.iand, 1) := by decide +kernel
theorem d4_4 : decode method_4_code 4 = .ok (.bipush 31, 2) := by decide +kernel
theorem d4_6 : decode method_4_code 6 = .ok (.if_icmp .ne 7, 3) := by decide +kernel
theorem d4_9 : decode method_4_code 9 = .ok (.iconst 1, 1) := by decide +kernel
theorem d4_10 : decode method_4_code 10 = .ok (.goto 4, 3) := by decide +kernel
theorem d4_14 : decode method_4_code 14 = .ok (.ireturn, 1) := by decide +kernel
theorem pn_4 : plainFor (⟨"com/example/siegelwerk/siegelwerk/BerNestingDeeperThanPinLaw", "high", "(I)Z"⟩ : MethodName) = true := by first | exact plainFor_of_name (by first | (simp [plainName, overriddenIn]; done) | decide +kernel) | decide +kernel
set_option maxRecDepth 65536 in
set_option maxHeartbeats 4000000 in
theorem rm_hi1 (l : Launch) (Z : State) (a0 : Array Value) (hw : ∀ d ∈ tables_1, d.before a0 Z = true) (u0 : Int32) (h0 : Heap) (hh : u0 &&& 31 = 31) :
    Met l Z (⟨"com/example/siegelwerk/siegelwerk/BerNestingDeeperThanPinLaw", "high", "(I)Z"⟩ : MethodName) method_4_code 1 (some .boolean) [] ({ frames := 0, cells := 0, slots := 0, locals := 0 } : Room) #[(.int u0)] h0 [] (fun v h => v = some (.int (1 : Int32)) ∧ h0 = h) := by
  refine Met.walk pn_4 (Ls := #[.val (.int u0)]) (fun m => by first | (simp [entryFrame, mkF, argsToLocals, Value.category, maxLocals]; done) | rfl) ?_
  intro p e s m below meth c B
  refine B.iloadN 1 rfl d4_0 rfl ?_
  refine B.bipush 3 rfl (31 : Int32) d4_1 rfl ?_
  refine B.iand 4 rfl d4_3 ?_
  refine B.bipush 6 rfl (31 : Int32) d4_4 rfl ?_
  refine B.icmp_ne 13 9 rfl (by decide) rfl d4_6 (fun c6 => ?_) (fun c6 => ?_)
  · exact absurd hh c6
  · refine B.iconst 10 rfl (1 : Int32) d4_9 rfl ?_
    refine B.goto 14 rfl (by decide) d4_10 ?_
    refine B.retN (by simp) d4_14 (by decide) (by decide) ?_
    exact ⟨rfl, rfl⟩
theorem d4_13 : decode method_4_code 13 = .ok (.iconst 0, 1) := by decide +kernel
set_option maxRecDepth 65536 in
set_option maxHeartbeats 4000000 in
theorem rm_hi0 (l : Launch) (Z : State) (a0 : Array Value) (hw : ∀ d ∈ tables_1, d.before a0 Z = true) (u0 : Int32) (h0 : Heap) (hh : ¬ u0 &&& 31 = 31) :
    Met l Z (⟨"com/example/siegelwerk/siegelwerk/BerNestingDeeperThanPinLaw", "high", "(I)Z"⟩ : MethodName) method_4_code 1 (some .boolean) [] ({ frames := 0, cells := 0, slots := 0, locals := 0 } : Room) #[(.int u0)] h0 [] (fun v h => v = some (.int (0 : Int32)) ∧ h0 = h) := by
  refine Met.walk pn_4 (Ls := #[.val (.int u0)]) (fun m => by first | (simp [entryFrame, mkF, argsToLocals, Value.category, maxLocals]; done) | rfl) ?_
  intro p e s m below meth c B
  refine B.iloadN 1 rfl d4_0 rfl ?_
  refine B.bipush 3 rfl (31 : Int32) d4_1 rfl ?_
  refine B.iand 4 rfl d4_3 ?_
  refine B.bipush 6 rfl (31 : Int32) d4_4 rfl ?_
  refine B.icmp_ne 13 9 rfl (by decide) rfl d4_6 (fun c6 => ?_) (fun c6 => ?_)
  · refine B.iconst 14 rfl (0 : Int32) d4_13 rfl ?_
    refine B.retN (by simp) d4_14 (by decide) (by decide) ?_
    exact ⟨rfl, rfl⟩
  · exact absurd c6 hh
theorem d3_0 : decode method_5_code 0 = .ok (.iload_n 0, 1) := by decide +kernel
theorem d3_1 : decode method_5_code 1 = .ok (.invokestatic 41, 3) := by decide +kernel
theorem d3_4 : decode method_5_code 4 = .ok (.ifCond .ne 5, 3) := by decide +kernel
theorem d3_7 : decode method_5_code 7 = .ok (.iconst 1, 1) := by decide +kernel
theorem d3_8 : decode method_5_code 8 = .ok (.ireturn, 1) := by decide +kernel
theorem d3_9 : decode method_5_code 9 = .ok (.iload_n 0, 1) := by decide +kernel
theorem d3_10 : decode method_5_code 10 = .ok (.bipush 8, 2) := by decide +kernel
theorem d3_12 : decode method_5_code 12 = .ok (.iushr, 1) := by decide +kernel
theorem d3_13 : decode method_5_code 13 = .ok (.iconst 1, 1) := by decide +kernel
theorem d3_14 : decode method_5_code 14 = .ok (.iand, 1) := by decide +kernel
theorem d3_15 : decode method_5_code 15 = .ok (.ifCond .eq 7, 3) := by decide +kernel
theorem d3_18 : decode method_5_code 18 = .ok (.iconst 3, 1) := by decide +kernel
theorem d3_19 : decode method_5_code 19 = .ok (.goto 4, 3) := by decide +kernel
theorem d3_22 : decode method_5_code 22 = .ok (.iconst 2, 1) := by decide +kernel
theorem d3_23 : decode method_5_code 23 = .ok (.ireturn, 1) := by decide +kernel
theorem pn_3 : plainFor (⟨"com/example/siegelwerk/siegelwerk/BerNestingDeeperThanPinLaw", "idLen", "(I)I"⟩ : MethodName) = true := by first | exact plainFor_of_name (by first | (simp [plainName, overriddenIn]; done) | decide +kernel) | decide +kernel
set_option maxRecDepth 65536 in
set_option maxHeartbeats 4000000 in
theorem rm_il (l : Launch) (Z : State) (a0 : Array Value) (hw : ∀ d ∈ tables_1, d.before a0 Z = true) (u0 : Int32) (h0 : Heap)  :
    Met l Z (⟨"com/example/siegelwerk/siegelwerk/BerNestingDeeperThanPinLaw", "idLen", "(I)I"⟩ : MethodName) method_5_code 1 (some .int) [] ({ frames := 1, cells := 0, slots := 0, locals := 12 } : Room) #[(.int u0)] h0 [] (fun v h => v = some (.int (Int32.ofNat (own_il u0))) ∧ h0 = h) := by
  refine Met.walk pn_3 (Ls := #[.val (.int u0)]) (fun m => by first | (simp [entryFrame, mkF, argsToLocals, Value.category, maxLocals]; done) | rfl) ?_
  intro p e s m below meth c B
  refine B.iloadN 1 rfl d3_0 rfl ?_
  by_cases hh : u0 &&& 31 = 31
  · refine B.callS 4 rfl d3_1 (wd hw 12 rfl) (wd hw 13 rfl) (wd hw 4 rfl) (wd hw 14 rfl) (by decide) [(.int u0)] [] (rm_hi1 l Z a0 hw u0 h0 hh) rfl rfl pd__I_Z rfl rfl 0 rfl (by decide) (by decide) (by decide) (by decide) (fun _ q => nomatch q) ?_
    rintro _ _ - ⟨rfl, rfl⟩
    show B.G h0 0 0 (mkF m 4 #[.val (.int u0)] [(.int (1 : Int32))])
    refine B.if0_ne 9 7 rfl (by decide) rfl d3_4 (fun c4 => ?_) (fun c4 => ?_)
    · refine B.iloadN 10 rfl d3_9 rfl ?_
      refine B.bipush 12 rfl (8 : Int32) d3_10 rfl ?_
      refine B.iushr 13 rfl d3_12 ?_
      refine B.iconst 14 rfl (1 : Int32) d3_13 rfl ?_
      refine B.iand 15 rfl d3_14 ?_
      refine B.if0_eq 22 18 rfl (by decide) rfl d3_15 (fun c15 => ?_) (fun c15 => ?_)
      · refine B.iconst 23 rfl (2 : Int32) d3_22 rfl ?_
        refine B.retI d3_23 (by decide) (by decide) ?_
        exact ⟨congrArg (fun z => some (Value.int z)) (own_il2 hh c15), rfl⟩
      · refine B.iconst 19 rfl (3 : Int32) d3_18 rfl ?_
        refine B.goto 23 rfl (by decide) d3_19 ?_
        refine B.retI d3_23 (by decide) (by decide) ?_
        exact ⟨congrArg (fun z => some (Value.int z)) (own_il3 hh c15), rfl⟩
    · exact absurd c4 (by decide)
  · refine B.callS 4 rfl d3_1 (wd hw 12 rfl) (wd hw 13 rfl) (wd hw 4 rfl) (wd hw 14 rfl) (by decide) [(.int u0)] [] (rm_hi0 l Z a0 hw u0 h0 hh) rfl rfl pd__I_Z rfl rfl 0 rfl (by decide) (by decide) (by decide) (by decide) (fun _ q => nomatch q) ?_
    rintro _ _ - ⟨rfl, rfl⟩
    show B.G h0 0 0 (mkF m 4 #[.val (.int u0)] [(.int (0 : Int32))])
    refine B.if0_ne 9 7 rfl (by decide) rfl d3_4 (fun c4 => ?_) (fun c4 => ?_)
    · exact absurd c4 (by decide)
    · refine B.iconst 8 rfl (1 : Int32) d3_7 rfl ?_
      refine B.retI d3_8 (by decide) (by decide) ?_
      exact ⟨congrArg (fun z => some (Value.int z)) (own_il1 hh), rfl⟩
theorem d15_0 : decode method_6_code 0 = .ok (.iload_n 0, 1) := by decide +kernel
theorem d15_1 : decode method_6_code 1 = .ok (.bipush 24, 2) := by decide +kernel
theorem d15_3 : decode method_6_code 3 = .ok (.iushr, 1) := by decide +kernel
theorem d15_4 : decode method_6_code 4 = .ok (.bipush 7, 2) := by decide +kernel
theorem d15_6 : decode method_6_code 6 = .ok (.iand, 1) := by decide +kernel
theorem d15_7 : decode method_6_code 7 = .ok (.istore_n 1, 1) := by decide +kernel
theorem d15_8 : decode method_6_code 8 = .ok (.iload_n 1, 1) := by decide +kernel
theorem d15_9 : decode method_6_code 9 = .ok (.iconst 4, 1) := by decide +kernel
theorem d15_10 : decode method_6_code 10 = .ok (.if_icmp .gt 7, 3) := by decide +kernel
theorem d15_13 : decode method_6_code 13 = .ok (.iload_n 1, 1) := by decide +kernel
theorem d15_14 : decode method_6_code 14 = .ok (.goto 4, 3) := by decide +kernel
theorem d15_17 : decode method_6_code 17 = .ok (.iconst (-1), 1) := by decide +kernel
theorem d15_18 : decode method_6_code 18 = .ok (.ireturn, 1) := by decide +kernel
theorem pn_15 : plainFor (⟨"com/example/siegelwerk/siegelwerk/BerNestingDeeperThanPinLaw", "consCount", "(I)I"⟩ : MethodName) = true := by first | exact plainFor_of_name (by first | (simp [plainName, overriddenIn]; done) | decide +kernel) | decide +kernel
set_option maxRecDepth 65536 in
set_option maxHeartbeats 4000000 in
theorem rm_cc (l : Launch) (Z : State) (a0 : Array Value) (hw : ∀ d ∈ tables_1, d.before a0 Z = true) (u0 : Int32) (h0 : Heap)  :
    Met l Z (⟨"com/example/siegelwerk/siegelwerk/BerNestingDeeperThanPinLaw", "consCount", "(I)I"⟩ : MethodName) method_6_code 2 (some .int) [] ({ frames := 0, cells := 0, slots := 0, locals := 0 } : Room) #[(.int u0)] h0 [] (fun v h => v = some (.int (own_ci (own_cc u0))) ∧ h0 = h) := by
  refine Met.walk pn_15 (Ls := #[.val (.int u0), .unset]) (fun m => by first | (simp [entryFrame, mkF, argsToLocals, Value.category, maxLocals]; done) | rfl) ?_
  intro p e s m below meth c B
  refine B.iloadN 1 rfl d15_0 rfl ?_
  refine B.bipush 3 rfl (24 : Int32) d15_1 rfl ?_
  refine B.iushr 4 rfl d15_3 ?_
  refine B.bipush 6 rfl (7 : Int32) d15_4 rfl ?_
  refine B.iand 7 rfl d15_6 ?_
  refine B.istoreN 8 rfl d15_7 #[.val (.int u0), .val (.int ((XT.ushr u0 (24 : Int32)) &&& (7 : Int32)))] rfl ?_
  refine B.iloadN 9 rfl d15_8 rfl ?_
  refine B.iconst 10 rfl (4 : Int32) d15_9 rfl ?_
  refine B.icmp_gt 17 13 rfl (by decide) rfl d15_10 (fun c10 => ?_) (fun c10 => ?_)
  · refine B.iconst 18 rfl (-1 : Int32) d15_17 rfl ?_
    refine B.retI d15_18 (by decide) (by decide) ?_
    exact ⟨congrArg (fun z => some (Value.int z)) (own_cc_5 c10), rfl⟩
  · refine B.iloadN 14 rfl d15_13 rfl ?_
    refine B.goto 18 rfl (by decide) d15_14 ?_
    refine B.retI d15_18 (by decide) (by decide) ?_
    exact ⟨congrArg (fun z => some (Value.int z)) (own_cc_v c10), rfl⟩
theorem d5_0 : decode method_7_code 0 = .ok (.iload_n 0, 1) := by decide +kernel
theorem d5_1 : decode method_7_code 1 = .ok (.bipush 24, 2) := by decide +kernel
theorem d5_3 : decode method_7_code 3 = .ok (.iushr, 1) := by decide +kernel
theorem d5_4 : decode method_7_code 4 = .ok (.iconst 3, 1) := by decide +kernel
theorem d5_5 : decode method_7_code 5 = .ok (.iand, 1) := by decide +kernel
theorem d5_6 : decode method_7_code 6 = .ok (.ireturn, 1) := by decide +kernel
theorem pn_5 : plainFor (⟨"com/example/siegelwerk/siegelwerk/BerNestingDeeperThanPinLaw", "primCount", "(I)I"⟩ : MethodName) = true := by first | exact plainFor_of_name (by first | (simp [plainName, overriddenIn]; done) | decide +kernel) | decide +kernel
set_option maxRecDepth 65536 in
set_option maxHeartbeats 4000000 in
theorem rm_pc (l : Launch) (Z : State) (a0 : Array Value) (hw : ∀ d ∈ tables_1, d.before a0 Z = true) (u0 : Int32) (h0 : Heap)  :
    Met l Z (⟨"com/example/siegelwerk/siegelwerk/BerNestingDeeperThanPinLaw", "primCount", "(I)I"⟩ : MethodName) method_7_code 1 (some .int) [] ({ frames := 0, cells := 0, slots := 0, locals := 0 } : Room) #[(.int u0)] h0 [] (fun v h => v = some (.int (Int32.ofNat (own_pc u0))) ∧ h0 = h) := by
  refine Met.walk pn_5 (Ls := #[.val (.int u0)]) (fun m => by first | (simp [entryFrame, mkF, argsToLocals, Value.category, maxLocals]; done) | rfl) ?_
  intro p e s m below meth c B
  refine B.iloadN 1 rfl d5_0 rfl ?_
  refine B.bipush 3 rfl (24 : Int32) d5_1 rfl ?_
  refine B.iushr 4 rfl d5_3 ?_
  refine B.iconst 5 rfl (3 : Int32) d5_4 rfl ?_
  refine B.iand 6 rfl d5_5 ?_
  refine B.retI d5_6 (by decide) (by decide) ?_
  exact ⟨congrArg (fun z => some (Value.int z)) (own_pc_f u0).1, rfl⟩
theorem d6_0 : decode method_8_code 0 = .ok (.iload_n 0, 1) := by decide +kernel
theorem d6_1 : decode method_8_code 1 = .ok (.bipush 26, 2) := by decide +kernel
theorem d6_3 : decode method_8_code 3 = .ok (.iushr, 1) := by decide +kernel
theorem d6_4 : decode method_8_code 4 = .ok (.iconst 3, 1) := by decide +kernel
theorem d6_5 : decode method_8_code 5 = .ok (.iand, 1) := by decide +kernel
theorem d6_6 : decode method_8_code 6 = .ok (.iconst 3, 1) := by decide +kernel
theorem d6_7 : decode method_8_code 7 = .ok (.irem, 1) := by decide +kernel
theorem d6_8 : decode method_8_code 8 = .ok (.ireturn, 1) := by decide +kernel
theorem pn_6 : plainFor (⟨"com/example/siegelwerk/siegelwerk/BerNestingDeeperThanPinLaw", "primContent", "(I)I"⟩ : MethodName) = true := by first | exact plainFor_of_name (by first | (simp [plainName, overriddenIn]; done) | decide +kernel) | decide +kernel
set_option maxRecDepth 65536 in
set_option maxHeartbeats 4000000 in
theorem rm_pn (l : Launch) (Z : State) (a0 : Array Value) (hw : ∀ d ∈ tables_1, d.before a0 Z = true) (u0 : Int32) (h0 : Heap)  :
    Met l Z (⟨"com/example/siegelwerk/siegelwerk/BerNestingDeeperThanPinLaw", "primContent", "(I)I"⟩ : MethodName) method_8_code 1 (some .int) [] ({ frames := 0, cells := 0, slots := 0, locals := 0 } : Room) #[(.int u0)] h0 [] (fun v h => v = some (.int (Int32.ofNat (own_pn u0))) ∧ h0 = h) := by
  refine Met.walk pn_6 (Ls := #[.val (.int u0)]) (fun m => by first | (simp [entryFrame, mkF, argsToLocals, Value.category, maxLocals]; done) | rfl) ?_
  intro p e s m below meth c B
  refine B.iloadN 1 rfl d6_0 rfl ?_
  refine B.bipush 3 rfl (26 : Int32) d6_1 rfl ?_
  refine B.iushr 4 rfl d6_3 ?_
  refine B.iconst 5 rfl (3 : Int32) d6_4 rfl ?_
  refine B.iand 6 rfl d6_5 ?_
  refine B.iconst 7 rfl (3 : Int32) d6_6 rfl ?_
  refine B.irem 8 rfl d6_7 (by decide) ?_
  refine B.retI d6_8 (by decide) (by decide) ?_
  exact ⟨congrArg (fun z => some (Value.int z)) (own_pn_f u0), rfl⟩
theorem d2_0 : decode method_9_code 0 = .ok (.iload_n 0, 1) := by decide +kernel
theorem d2_1 : decode method_9_code 1 = .ok (.invokestatic 45, 3) := by decide +kernel
theorem d2_4 : decode method_9_code 4 = .ok (.iconst 1, 1) := by decide +kernel
theorem d2_5 : decode method_9_code 5 = .ok (.iadd, 1) := by decide +kernel
theorem d2_6 : decode method_9_code 6 = .ok (.iload_n 0, 1) := by decide +kernel
theorem d2_7 : decode method_9_code 7 = .ok (.invokestatic 49, 3) := by decide +kernel
theorem d2_10 : decode method_9_code 10 = .ok (.iadd, 1) := by decide +kernel
theorem d2_11 : decode method_9_code 11 = .ok (.iload_n 0, 1) := by decide +kernel
theorem d2_12 : decode method_9_code 12 = .ok (.invokestatic 52, 3) := by decide +kernel
theorem d2_15 : decode method_9_code 15 = .ok (.iadd, 1) := by decide +kernel
theorem d2_16 : decode method_9_code 16 = .ok (.ireturn, 1) := by decide +kernel
theorem pn_2 : plainFor (⟨"com/example/siegelwerk/siegelwerk/BerNestingDeeperThanPinLaw", "primSize", "(I)I"⟩ : MethodName) = true := by first | exact plainFor_of_name (by first | (simp [plainName, overriddenIn]; done) | decide +kernel) | decide +kernel
set_option maxRecDepth 65536 in
set_option maxHeartbeats 4000000 in
theorem rm_ps (l : Launch) (Z : State) (a0 : Array Value) (hw : ∀ d ∈ tables_1, d.before a0 Z = true) (u0 : Int32) (h0 : Heap)  :
    Met l Z (⟨"com/example/siegelwerk/siegelwerk/BerNestingDeeperThanPinLaw", "primSize", "(I)I"⟩ : MethodName) method_9_code 1 (some .int) [] ({ frames := 2, cells := 0, slots := 0, locals := 24 } : Room) #[(.int u0)] h0 [] (fun v h => v = some (.int (Int32.ofNat (own_ps u0))) ∧ h0 = h) := by
  refine Met.walk pn_2 (Ls := #[.val (.int u0)]) (fun m => by first | (simp [entryFrame, mkF, argsToLocals, Value.category, maxLocals]; done) | rfl) ?_
  intro p e s m below meth c B
  refine B.iloadN 1 rfl d2_0 rfl ?_
  refine B.callS 4 rfl d2_1 (wd hw 9 rfl) (wd hw 10 rfl) (wd hw 4 rfl) (wd hw 11 rfl) (by decide) [(.int u0)] [] (rm_il l Z a0 hw u0 h0) rfl rfl pd__I_I rfl rfl 0 rfl (by decide) (by decide) (by decide) (by decide) (fun _ q => nomatch q) ?_
  rintro _ _ - ⟨rfl, rfl⟩
  show B.G h0 0 0 (mkF m 4 #[.val (.int u0)] [(.int (Int32.ofNat (own_il u0)))])
  refine B.iconst 5 rfl (1 : Int32) d2_4 rfl ?_
  refine B.iadd 6 rfl d2_5 ?_
  refine B.iloadN 7 rfl d2_6 rfl ?_
  refine B.callS 10 rfl d2_7 (wd hw 15 rfl) (wd hw 16 rfl) (wd hw 4 rfl) (wd hw 17 rfl) (by decide) [(.int u0)] [(.int ((Int32.ofNat (own_il u0)) + (1 : Int32)))] (rm_pc l Z a0 hw u0 h0) rfl rfl pd__I_I rfl rfl 1 rfl (by decide) (by decide) (by decide) (by decide) (fun _ q => nomatch q) ?_
  rintro _ _ - ⟨rfl, rfl⟩
  show B.G h0 0 0 (mkF m 10 #[.val (.int u0)] [(.int (Int32.ofNat (own_pc u0))), (.int ((Int32.ofNat (own_il u0)) + (1 : Int32)))])
  refine B.iadd 11 rfl d2_10 ?_
  refine B.iloadN 12 rfl d2_11 rfl ?_
  refine B.callS 15 rfl d2_12 (wd hw 18 rfl) (wd hw 19 rfl) (wd hw 4 rfl) (wd hw 20 rfl) (by decide) [(.int u0)] [(.int (((Int32.ofNat (own_il u0)) + (1 : Int32)) + (Int32.ofNat (own_pc u0))))] (rm_pn l Z a0 hw u0 h0) rfl rfl pd__I_I rfl rfl 1 rfl (by decide) (by decide) (by decide) (by decide) (fun _ q => nomatch q) ?_
  rintro _ _ - ⟨rfl, rfl⟩
  show B.G h0 0 0 (mkF m 15 #[.val (.int u0)] [(.int (Int32.ofNat (own_pn u0))), (.int (((Int32.ofNat (own_il u0)) + (1 : Int32)) + (Int32.ofNat (own_pc u0))))])
  refine B.iadd 16 rfl d2_15 ?_
  refine B.retI d2_16 (by decide) (by decide) ?_
  exact ⟨congrArg (fun z => some (Value.int z)) (own_ps_v u0), rfl⟩
theorem d14_0 : decode method_10_code 0 = .ok (.iload_n 0, 1) := by decide +kernel
theorem d14_1 : decode method_10_code 1 = .ok (.invokestatic 55, 3) := by decide +kernel
theorem d14_4 : decode method_10_code 4 = .ok (.istore_n 2, 1) := by decide +kernel
theorem d14_5 : decode method_10_code 5 = .ok (.iload_n 0, 1) := by decide +kernel
theorem d14_6 : decode method_10_code 6 = .ok (.invokestatic 45, 3) := by decide +kernel
theorem d14_9 : decode method_10_code 9 = .ok (.iconst 1, 1) := by decide +kernel
theorem d14_10 : decode method_10_code 10 = .ok (.iadd, 1) := by decide +kernel
theorem d14_11 : decode method_10_code 11 = .ok (.iload_n 2, 1) := by decide +kernel
theorem d14_12 : decode method_10_code 12 = .ok (.ifCond .ge 7, 3) := by decide +kernel
theorem d14_15 : decode method_10_code 15 = .ok (.iconst 2, 1) := by decide +kernel
theorem d14_16 : decode method_10_code 16 = .ok (.goto 4, 3) := by decide +kernel
theorem d14_19 : decode method_10_code 19 = .ok (.iload_n 2, 1) := by decide +kernel
theorem d14_20 : decode method_10_code 20 = .ok (.iadd, 1) := by decide +kernel
theorem d14_21 : decode method_10_code 21 = .ok (.iload_n 1, 1) := by decide +kernel
theorem d14_22 : decode method_10_code 22 = .ok (.iadd, 1) := by decide +kernel
theorem d14_23 : decode method_10_code 23 = .ok (.ireturn, 1) := by decide +kernel
theorem pn_14 : plainFor (⟨"com/example/siegelwerk/siegelwerk/BerNestingDeeperThanPinLaw", "consSize", "(II)I"⟩ : MethodName) = true := by first | exact plainFor_of_name (by first | (simp [plainName, overriddenIn]; done) | decide +kernel) | decide +kernel
set_option maxRecDepth 65536 in
set_option maxHeartbeats 4000000 in
theorem rm_cs (l : Launch) (Z : State) (a0 : Array Value) (hw : ∀ d ∈ tables_1, d.before a0 Z = true) (u0 : Int32) (n : Nat) (h0 : Heap)  :
    Met l Z (⟨"com/example/siegelwerk/siegelwerk/BerNestingDeeperThanPinLaw", "consSize", "(II)I"⟩ : MethodName) method_10_code 3 (some .int) [] ({ frames := 2, cells := 0, slots := 0, locals := 24 } : Room) #[(.int u0), (.int (Int32.ofNat n))] h0 [] (fun v h => v = some (.int (Int32.ofNat (own_cs u0 n))) ∧ h0 = h) := by
  refine Met.walk pn_14 (Ls := #[.val (.int u0), .val (.int (Int32.ofNat n)), .unset]) (fun m => by first | (simp [entryFrame, mkF, argsToLocals, Value.category, maxLocals]; done) | rfl) ?_
  intro p e s m below meth c B
  refine B.iloadN 1 rfl d14_0 rfl ?_
  refine B.callS 4 rfl d14_1 (wd hw 48 rfl) (wd hw 49 rfl) (wd hw 4 rfl) (wd hw 50 rfl) (by decide) [(.int u0)] [] (rm_cc l Z a0 hw u0 h0) rfl rfl pd__I_I rfl rfl 0 rfl (by decide) (by decide) (by decide) (by decide) (fun _ q => nomatch q) ?_
  rintro _ _ - ⟨rfl, rfl⟩
  show B.G h0 0 0 (mkF m 4 #[.val (.int u0), .val (.int (Int32.ofNat n)), .unset] [(.int (own_ci (own_cc u0)))])
  refine B.istoreN 5 rfl d14_4 #[.val (.int u0), .val (.int (Int32.ofNat n)), .val (.int (own_ci (own_cc u0)))] rfl ?_
  refine B.iloadN 6 rfl d14_5 rfl ?_
  refine B.callS 9 rfl d14_6 (wd hw 9 rfl) (wd hw 10 rfl) (wd hw 4 rfl) (wd hw 11 rfl) (by decide) [(.int u0)] [] (rm_il l Z a0 hw u0 h0) rfl rfl pd__I_I rfl rfl 0 rfl (by decide) (by decide) (by decide) (by decide) (fun _ q => nomatch q) ?_
  rintro _ _ - ⟨rfl, rfl⟩
  show B.G h0 0 0 (mkF m 9 #[.val (.int u0), .val (.int (Int32.ofNat n)), .val (.int (own_ci (own_cc u0)))] [(.int (Int32.ofNat (own_il u0)))])
  refine B.iconst 10 rfl (1 : Int32) d14_9 rfl ?_
  refine B.iadd 11 rfl d14_10 ?_
  refine B.iloadN 12 rfl d14_11 rfl ?_
  refine B.if0_ge 19 15 rfl (by decide) rfl d14_12 (fun c12 => ?_) (fun c12 => ?_)
  · refine B.iloadN 20 rfl d14_19 rfl ?_
    refine B.iadd 21 rfl d14_20 ?_
    refine B.iloadN 22 rfl d14_21 rfl ?_
    refine B.iadd 23 rfl d14_22 ?_
    refine B.retI d14_23 (by decide) (by decide) ?_
    exact ⟨congrArg (fun z => some (Value.int z)) (own_cs_n c12 n), rfl⟩
  · refine B.iconst 16 rfl (2 : Int32) d14_15 rfl ?_
    refine B.goto 20 rfl (by decide) d14_16 ?_
    refine B.iadd 21 rfl d14_20 ?_
    refine B.iloadN 22 rfl d14_21 rfl ?_
    refine B.iadd 23 rfl d14_22 ?_
    refine B.retI d14_23 (by decide) (by decide) ?_
    exact ⟨congrArg (fun z => some (Value.int z)) (own_cs_5 c12 n), rfl⟩
theorem d1_0 : decode method_11_code 0 = .ok (.iload_n 2, 1) := by decide +kernel
theorem d1_1 : decode method_11_code 1 = .ok (.invokestatic 58, 3) := by decide +kernel
theorem d1_4 : decode method_11_code 4 = .ok (.istore 4, 2) := by decide +kernel
theorem d1_6 : decode method_11_code 6 = .ok (.iload_n 3, 1) := by decide +kernel
theorem d1_7 : decode method_11_code 7 = .ok (.iconst 2, 1) := by decide +kernel
theorem d1_8 : decode method_11_code 8 = .ok (.if_icmp .ne 11, 3) := by decide +kernel
theorem d1_11 : decode method_11_code 11 = .ok (.iload_n 1, 1) := by decide +kernel
theorem d1_12 : decode method_11_code 12 = .ok (.iload 4, 2) := by decide +kernel
theorem d1_14 : decode method_11_code 14 = .ok (.invokestatic 61, 3) := by decide +kernel
theorem d1_17 : decode method_11_code 17 = .ok (.istore 4, 2) := by decide +kernel
theorem d1_19 : decode method_11_code 19 = .ok (.iload_n 3, 1) := by decide +kernel
theorem d1_20 : decode method_11_code 20 = .ok (.iconst 1, 1) := by decide +kernel
theorem d1_21 : decode method_11_code 21 = .ok (.if_icmp .lt 11, 3) := by decide +kernel
theorem d1_24 : decode method_11_code 24 = .ok (.iload_n 0, 1) := by decide +kernel
theorem d1_25 : decode method_11_code 25 = .ok (.iload 4, 2) := by decide +kernel
theorem d1_27 : decode method_11_code 27 = .ok (.invokestatic 61, 3) := by decide +kernel
theorem d1_30 : decode method_11_code 30 = .ok (.istore 4, 2) := by decide +kernel
theorem d1_32 : decode method_11_code 32 = .ok (.iload 4, 2) := by decide +kernel
theorem d1_34 : decode method_11_code 34 = .ok (.ireturn, 1) := by decide +kernel
theorem pn_1 : plainFor (⟨"com/example/siegelwerk/siegelwerk/BerNestingDeeperThanPinLaw", "chainSize", "(IIII)I"⟩ : MethodName) = true := by first | exact plainFor_of_name (by first | (simp [plainName, overriddenIn]; done) | decide +kernel) | decide +kernel
set_option maxRecDepth 65536 in
set_option maxHeartbeats 4000000 in
theorem rm_sz (l : Launch) (Z : State) (a0 : Array Value) (hw : ∀ d ∈ tables_1, d.before a0 Z = true) (u1 u2 uq : Int32) (a : Nat) (h0 : Heap) (ha : a ≤ 2) :
    Met l Z (⟨"com/example/siegelwerk/siegelwerk/BerNestingDeeperThanPinLaw", "chainSize", "(IIII)I"⟩ : MethodName) method_11_code 5 (some .int) [] ({ frames := 3, cells := 0, slots := 0, locals := 38 } : Room) #[(.int u1), (.int u2), (.int uq), (.int (Int32.ofNat a))] h0 [] (fun v h => v = some (.int (Int32.ofNat (own_sz a u1 u2 uq))) ∧ h0 = h) := by
  refine Met.walk pn_1 (Ls := #[.val (.int u1), .val (.int u2), .val (.int uq), .val (.int (Int32.ofNat a)), .unset]) (fun m => by first | (simp [entryFrame, mkF, argsToLocals, Value.category, maxLocals]; done) | rfl) ?_
  intro p e s m below meth c B
  obtain rfl | rfl | rfl : a = 0 ∨ a = 1 ∨ a = 2 := by omega
  · refine B.iloadN 1 rfl d1_0 rfl ?_
    refine B.callS 4 rfl d1_1 (wd hw 6 rfl) (wd hw 7 rfl) (wd hw 4 rfl) (wd hw 8 rfl) (by decide) [(.int uq)] [] (rm_ps l Z a0 hw uq h0) rfl rfl pd__I_I rfl rfl 0 rfl (by decide) (by decide) (by decide) (by decide) (fun _ q => nomatch q) ?_
    rintro _ _ - ⟨rfl, rfl⟩
    show B.G h0 0 0 (mkF m 4 #[.val (.int u1), .val (.int u2), .val (.int uq), .val (.int (0 : Int32)), .unset] [(.int (Int32.ofNat (own_ps uq)))])
    refine B.istore 6 rfl d1_4 #[.val (.int u1), .val (.int u2), .val (.int uq), .val (.int (0 : Int32)), .val (.int (Int32.ofNat (own_ps uq)))] rfl ?_
    refine B.iloadN 7 rfl d1_6 rfl ?_
    refine B.iconst 8 rfl (2 : Int32) d1_7 rfl ?_
    refine B.icmp_ne 19 11 rfl (by decide) rfl d1_8 (fun c8 => ?_) (fun c8 => ?_)
    · refine B.iloadN 20 rfl d1_19 rfl ?_
      refine B.iconst 21 rfl (1 : Int32) d1_20 rfl ?_
      refine B.icmp_lt 32 24 rfl (by decide) rfl d1_21 (fun c21 => ?_) (fun c21 => ?_)
      · refine B.iload 34 rfl d1_32 rfl ?_
        refine B.retI d1_34 (by decide) (by decide) ?_
        exact ⟨rfl, rfl⟩
      · exact absurd c21 (by decide)
    · exact absurd c8 (by decide)
  · refine B.iloadN 1 rfl d1_0 rfl ?_
    refine B.callS 4 rfl d1_1 (wd hw 6 rfl) (wd hw 7 rfl) (wd hw 4 rfl) (wd hw 8 rfl) (by decide) [(.int uq)] [] (rm_ps l Z a0 hw uq h0) rfl rfl pd__I_I rfl rfl 0 rfl (by decide) (by decide) (by decide) (by decide) (fun _ q => nomatch q) ?_
    rintro _ _ - ⟨rfl, rfl⟩
    show B.G h0 0 0 (mkF m 4 #[.val (.int u1), .val (.int u2), .val (.int uq), .val (.int (1 : Int32)), .unset] [(.int (Int32.ofNat (own_ps uq)))])
    refine B.istore 6 rfl d1_4 #[.val (.int u1), .val (.int u2), .val (.int uq), .val (.int (1 : Int32)), .val (.int (Int32.ofNat (own_ps uq)))] rfl ?_
    refine B.iloadN 7 rfl d1_6 rfl ?_
    refine B.iconst 8 rfl (2 : Int32) d1_7 rfl ?_
    refine B.icmp_ne 19 11 rfl (by decide) rfl d1_8 (fun c8 => ?_) (fun c8 => ?_)
    · refine B.iloadN 20 rfl d1_19 rfl ?_
      refine B.iconst 21 rfl (1 : Int32) d1_20 rfl ?_
      refine B.icmp_lt 32 24 rfl (by decide) rfl d1_21 (fun c21 => ?_) (fun c21 => ?_)
      · exact absurd c21 (by decide)
      · refine B.iloadN 25 rfl d1_24 rfl ?_
        refine B.iload 27 rfl d1_25 rfl ?_
        refine B.callS 30 rfl d1_27 (wd hw 45 rfl) (wd hw 46 rfl) (wd hw 4 rfl) (wd hw 47 rfl) (by decide) [(.int u1), (.int (Int32.ofNat (own_ps uq)))] [] (rm_cs l Z a0 hw u1 (own_ps uq) h0) rfl rfl pd__II_I rfl rfl 0 rfl (by decide) (by decide) (by decide) (by decide) (fun _ q => nomatch q) ?_
        rintro _ _ - ⟨rfl, rfl⟩
        show B.G h0 0 0 (mkF m 30 #[.val (.int u1), .val (.int u2), .val (.int uq), .val (.int (1 : Int32)), .val (.int (Int32.ofNat (own_ps uq)))] [(.int (Int32.ofNat (own_cs u1 (own_ps uq))))])
        refine B.istore 32 rfl d1_30 #[.val (.int u1), .val (.int u2), .val (.int uq), .val (.int (1 : Int32)), .val (.int (Int32.ofNat (own_cs u1 (own_ps uq))))] rfl ?_
        refine B.iload 34 rfl d1_32 rfl ?_
        refine B.retI d1_34 (by decide) (by decide) ?_
        exact ⟨rfl, rfl⟩
    · exact absurd c8 (by decide)
  · refine B.iloadN 1 rfl d1_0 rfl ?_
    refine B.callS 4 rfl d1_1 (wd hw 6 rfl) (wd hw 7 rfl) (wd hw 4 rfl) (wd hw 8 rfl) (by decide) [(.int uq)] [] (rm_ps l Z a0 hw uq h0) rfl rfl pd__I_I rfl rfl 0 rfl (by decide) (by decide) (by decide) (by decide) (fun _ q => nomatch q) ?_
    rintro _ _ - ⟨rfl, rfl⟩
    show B.G h0 0 0 (mkF m 4 #[.val (.int u1), .val (.int u2), .val (.int uq), .val (.int (2 : Int32)), .unset] [(.int (Int32.ofNat (own_ps uq)))])
    refine B.istore 6 rfl d1_4 #[.val (.int u1), .val (.int u2), .val (.int uq), .val (.int (2 : Int32)), .val (.int (Int32.ofNat (own_ps uq)))] rfl ?_
    refine B.iloadN 7 rfl d1_6 rfl ?_
    refine B.iconst 8 rfl (2 : Int32) d1_7 rfl ?_
    refine B.icmp_ne 19 11 rfl (by decide) rfl d1_8 (fun c8 => ?_) (fun c8 => ?_)
    · exact absurd c8 (by decide)
    · refine B.iloadN 12 rfl d1_11 rfl ?_
      refine B.iload 14 rfl d1_12 rfl ?_
      refine B.callS 17 rfl d1_14 (wd hw 45 rfl) (wd hw 46 rfl) (wd hw 4 rfl) (wd hw 47 rfl) (by decide) [(.int u2), (.int (Int32.ofNat (own_ps uq)))] [] (rm_cs l Z a0 hw u2 (own_ps uq) h0) rfl rfl pd__II_I rfl rfl 0 rfl (by decide) (by decide) (by decide) (by decide) (fun _ q => nomatch q) ?_
      rintro _ _ - ⟨rfl, rfl⟩
      show B.G h0 0 0 (mkF m 17 #[.val (.int u1), .val (.int u2), .val (.int uq), .val (.int (2 : Int32)), .val (.int (Int32.ofNat (own_ps uq)))] [(.int (Int32.ofNat (own_cs u2 (own_ps uq))))])
      refine B.istore 19 rfl d1_17 #[.val (.int u1), .val (.int u2), .val (.int uq), .val (.int (2 : Int32)), .val (.int (Int32.ofNat (own_cs u2 (own_ps uq))))] rfl ?_
      refine B.iloadN 20 rfl d1_19 rfl ?_
      refine B.iconst 21 rfl (1 : Int32) d1_20 rfl ?_
      refine B.icmp_lt 32 24 rfl (by decide) rfl d1_21 (fun c21 => ?_) (fun c21 => ?_)
      · exact absurd c21 (by decide)
      · refine B.iloadN 25 rfl d1_24 rfl ?_
        refine B.iload 27 rfl d1_25 rfl ?_
        refine B.callS 30 rfl d1_27 (wd hw 45 rfl) (wd hw 46 rfl) (wd hw 4 rfl) (wd hw 47 rfl) (by decide) [(.int u1), (.int (Int32.ofNat (own_cs u2 (own_ps uq))))] [] (rm_cs l Z a0 hw u1 (own_cs u2 (own_ps uq)) h0) rfl rfl pd__II_I rfl rfl 0 rfl (by decide) (by decide) (by decide) (by decide) (fun _ q => nomatch q) ?_
        rintro _ _ - ⟨rfl, rfl⟩
        show B.G h0 0 0 (mkF m 30 #[.val (.int u1), .val (.int u2), .val (.int uq), .val (.int (2 : Int32)), .val (.int (Int32.ofNat (own_cs u2 (own_ps uq))))] [(.int (Int32.ofNat (own_cs u1 (own_cs u2 (own_ps uq)))))])
        refine B.istore 32 rfl d1_30 #[.val (.int u1), .val (.int u2), .val (.int uq), .val (.int (2 : Int32)), .val (.int (Int32.ofNat (own_cs u1 (own_cs u2 (own_ps uq)))))] rfl ?_
        refine B.iload 34 rfl d1_32 rfl ?_
        refine B.retI d1_34 (by decide) (by decide) ?_
        exact ⟨rfl, rfl⟩
theorem d9_0 : decode method_12_code 0 = .ok (.aload_n 0, 1) := by decide +kernel
theorem d9_1 : decode method_12_code 1 = .ok (.iload_n 1, 1) := by decide +kernel
theorem d9_2 : decode method_12_code 2 = .ok (.iload_n 3, 1) := by decide +kernel
theorem d9_3 : decode method_12_code 3 = .ok (.invokestatic 13, 3) := by decide +kernel
theorem d9_6 : decode method_12_code 6 = .ok (.istore_n 1, 1) := by decide +kernel
theorem d9_7 : decode method_12_code 7 = .ok (.iload_n 2, 1) := by decide +kernel
theorem d9_8 : decode method_12_code 8 = .ok (.invokestatic 41, 3) := by decide +kernel
theorem d9_11 : decode method_12_code 11 = .ok (.ifCond .eq 42, 3) := by decide +kernel
theorem d9_14 : decode method_12_code 14 = .ok (.iload_n 2, 1) := by decide +kernel
theorem d9_15 : decode method_12_code 15 = .ok (.bipush 8, 2) := by decide +kernel
theorem d9_17 : decode method_12_code 17 = .ok (.iushr, 1) := by decide +kernel
theorem d9_18 : decode method_12_code 18 = .ok (.iconst 1, 1) := by decide +kernel
theorem d9_19 : decode method_12_code 19 = .ok (.iand, 1) := by decide +kernel
theorem d9_20 : decode method_12_code 20 = .ok (.ifCond .eq 20, 3) := by decide +kernel
theorem d9_23 : decode method_12_code 23 = .ok (.aload_n 0, 1) := by decide +kernel
theorem d9_24 : decode method_12_code 24 = .ok (.iload_n 1, 1) := by decide +kernel
theorem d9_25 : decode method_12_code 25 = .ok (.sipush 128, 3) := by decide +kernel
theorem d9_28 : decode method_12_code 28 = .ok (.iload_n 2, 1) := by decide +kernel
theorem d9_29 : decode method_12_code 29 = .ok (.bipush 9, 2) := by decide +kernel
theorem d9_31 : decode method_12_code 31 = .ok (.iushr, 1) := by decide +kernel
theorem d9_32 : decode method_12_code 32 = .ok (.bipush 127, 2) := by decide +kernel
theorem d9_34 : decode method_12_code 34 = .ok (.iand, 1) := by decide +kernel
theorem d9_35 : decode method_12_code 35 = .ok (.ior, 1) := by decide +kernel
theorem d9_36 : decode method_12_code 36 = .ok (.invokestatic 13, 3) := by decide +kernel
theorem d9_39 : decode method_12_code 39 = .ok (.istore_n 1, 1) := by decide +kernel
theorem d9_40 : decode method_12_code 40 = .ok (.aload_n 0, 1) := by decide +kernel
theorem d9_41 : decode method_12_code 41 = .ok (.iload_n 1, 1) := by decide +kernel
theorem d9_42 : decode method_12_code 42 = .ok (.iload_n 2, 1) := by decide +kernel
theorem d9_43 : decode method_12_code 43 = .ok (.bipush 16, 2) := by decide +kernel
theorem d9_45 : decode method_12_code 45 = .ok (.iushr, 1) := by decide +kernel
theorem d9_46 : decode method_12_code 46 = .ok (.bipush 127, 2) := by decide +kernel
theorem d9_48 : decode method_12_code 48 = .ok (.iand, 1) := by decide +kernel
theorem d9_49 : decode method_12_code 49 = .ok (.invokestatic 13, 3) := by decide +kernel
theorem d9_52 : decode method_12_code 52 = .ok (.istore_n 1, 1) := by decide +kernel
theorem d9_53 : decode method_12_code 53 = .ok (.iload_n 1, 1) := by decide +kernel
theorem d9_54 : decode method_12_code 54 = .ok (.ireturn, 1) := by decide +kernel
theorem pn_9 : plainFor (⟨"com/example/siegelwerk/siegelwerk/BerNestingDeeperThanPinLaw", "writeId", "([BIII)I"⟩ : MethodName) = true := by first | exact plainFor_of_name (by first | (simp [plainName, overriddenIn]; done) | decide +kernel) | decide +kernel
set_option maxRecDepth 65536 in
set_option maxHeartbeats 4000000 in
theorem rm_wi (l : Launch) (Z : State) (a0 : Array Value) (hw : ∀ d ∈ tables_1, d.before a0 Z = true) (buf : Addr) (bs : List Nat) (u0 : Int32) (n : Nat) (h0 : Heap) (A : Ary Z h0 buf .byte (own_b (bs))) (hl : bs.length ≤ 200) :
    Met l Z (⟨"com/example/siegelwerk/siegelwerk/BerNestingDeeperThanPinLaw", "writeId", "([BIII)I"⟩ : MethodName) method_12_code 4 (some .int) [] ({ frames := 1, cells := 0, slots := 0, locals := 14 } : Room) #[(.ref buf), (.int (Int32.ofNat (bs.length))), (.int u0), (.int (Int32.ofNat n))] h0 [buf] (fun v h => v = some (.int (Int32.ofNat (bs ++ own_idB n u0).length)) ∧ Ary Z h buf .byte (own_b (bs ++ own_idB n u0))) := by
  refine Met.walk pn_9 (Ls := #[.val (.ref buf), .val (.int (Int32.ofNat (bs.length))), .val (.int u0), .val (.int (Int32.ofNat n))]) (fun m => by first | (simp [entryFrame, mkF, argsToLocals, Value.category, maxLocals]; done) | rfl) ?_
  intro p e s m below meth c B
  refine B.aloadN 1 rfl d9_0 rfl rfl ?_
  refine B.iloadN 2 rfl d9_1 rfl ?_
  refine B.iloadN 3 rfl d9_2 rfl ?_
  refine B.callS 6 rfl d9_3 (wd hw 30 rfl) (wd hw 31 rfl) (wd hw 4 rfl) (wd hw 32 rfl) (by decide) [(.ref buf), (.int (Int32.ofNat (bs.length))), (.int (Int32.ofNat n))] [] (rm_put l Z a0 hw buf (bs) (n) h0 A (by (try simp only [List.length_append, List.length_cons, List.length_nil, own_idL, own_primL]); omega)) rfl rfl pd___BII_I rfl rfl 0 rfl (by decide) (by decide) (by decide) (by decide) (fun x z => Or.inl z) ?_
  rintro _ h1 K_h1 ⟨rfl, A1⟩
  show B.G h1 0 0 (mkF m 6 #[.val (.ref buf), .val (.int (Int32.ofNat (bs.length))), .val (.int u0), .val (.int (Int32.ofNat n))] [(.int (Int32.ofNat (bs ++ [n]).length))])
  refine B.istoreN 7 rfl d9_6 #[.val (.ref buf), .val (.int (Int32.ofNat (bs ++ [n]).length)), .val (.int u0), .val (.int (Int32.ofNat n))] rfl ?_
  refine B.iloadN 8 rfl d9_7 rfl ?_
  by_cases hh : u0 &&& 31 = 31
  · refine B.callS 11 rfl d9_8 (wd hw 12 rfl) (wd hw 13 rfl) (wd hw 4 rfl) (wd hw 14 rfl) (by decide) [(.int u0)] [] (rm_hi1 l Z a0 hw u0 h1 hh) rfl rfl pd__I_Z rfl rfl 0 rfl (by decide) (by decide) (by decide) (by decide) (fun _ q => nomatch q) ?_
    rintro _ _ - ⟨rfl, rfl⟩
    show B.G h1 0 0 (mkF m 11 #[.val (.ref buf), .val (.int (Int32.ofNat (bs ++ [n]).length)), .val (.int u0), .val (.int (Int32.ofNat n))] [(.int (1 : Int32))])
    refine B.if0_eq 53 14 rfl (by decide) rfl d9_11 (fun c11 => ?_) (fun c11 => ?_)
    · exact absurd c11 (by decide)
    · refine B.iloadN 15 rfl d9_14 rfl ?_
      refine B.bipush 17 rfl (8 : Int32) d9_15 rfl ?_
      refine B.iushr 18 rfl d9_17 ?_
      refine B.iconst 19 rfl (1 : Int32) d9_18 rfl ?_
      refine B.iand 20 rfl d9_19 ?_
      refine B.if0_eq 40 23 rfl (by decide) rfl d9_20 (fun c20 => ?_) (fun c20 => ?_)
      · refine B.aloadN 41 rfl d9_40 rfl rfl ?_
        refine B.iloadN 42 rfl d9_41 rfl ?_
        refine B.iloadN 43 rfl d9_42 rfl ?_
        refine B.bipush 45 rfl (16 : Int32) d9_43 rfl ?_
        refine B.iushr 46 rfl d9_45 ?_
        refine B.bipush 48 rfl (127 : Int32) d9_46 rfl ?_
        refine B.iand 49 rfl d9_48 ?_
        refine B.topI (Int32.ofNat ((XT.ushr u0 16 &&& 127).toNatClampNeg)) (own_m127 (XT.ushr u0 16)) ?_
        refine B.callS 52 rfl d9_49 (wd hw 30 rfl) (wd hw 31 rfl) (wd hw 4 rfl) (wd hw 32 rfl) (by decide) [(.ref buf), (.int (Int32.ofNat (bs ++ [n]).length)), (.int (Int32.ofNat ((XT.ushr u0 16 &&& 127).toNatClampNeg)))] [] (rm_put l Z a0 hw buf (bs ++ [n]) ((XT.ushr u0 16 &&& 127).toNatClampNeg) h1 A1 (by (try simp only [List.length_append, List.length_cons, List.length_nil, own_idL, own_primL]); omega)) rfl rfl pd___BII_I rfl rfl 0 rfl (by decide) (by decide) (by decide) (by decide) (fun x z => Or.inl z) ?_
        rintro _ h3 K_h3 ⟨rfl, A3⟩
        show B.G h3 0 0 (mkF m 52 #[.val (.ref buf), .val (.int (Int32.ofNat (bs ++ [n]).length)), .val (.int u0), .val (.int (Int32.ofNat n))] [(.int (Int32.ofNat (bs ++ [n] ++ [(XT.ushr u0 16 &&& 127).toNatClampNeg]).length))])
        refine B.istoreN 53 rfl d9_52 #[.val (.ref buf), .val (.int (Int32.ofNat (bs ++ [n] ++ [(XT.ushr u0 16 &&& 127).toNatClampNeg]).length)), .val (.int u0), .val (.int (Int32.ofNat n))] rfl ?_
        refine B.iloadN 54 rfl d9_53 rfl ?_
        refine B.retI d9_54 (by decide) (by decide) ?_
        have ee : bs ++ own_idB n u0 = bs ++ [n] ++ [(XT.ushr u0 16 &&& 127).toNatClampNeg] := by simp [own_idB, own_idT, hh, c20]
        exact ⟨by rw [ee], by rw [ee]; exact A3⟩
      · refine B.aloadN 24 rfl d9_23 rfl rfl ?_
        refine B.iloadN 25 rfl d9_24 rfl ?_
        refine B.sipush 28 rfl (128 : Int32) d9_25 rfl ?_
        refine B.iloadN 29 rfl d9_28 rfl ?_
        refine B.bipush 31 rfl (9 : Int32) d9_29 rfl ?_
        refine B.iushr 32 rfl d9_31 ?_
        refine B.bipush 34 rfl (127 : Int32) d9_32 rfl ?_
        refine B.iand 35 rfl d9_34 ?_
        refine B.ior 36 rfl d9_35 ?_
        refine B.topI (Int32.ofNat (128 + (XT.ushr u0 9 &&& 127).toNatClampNeg)) (own_o9 (XT.ushr u0 9)) ?_
        refine B.callS 39 rfl d9_36 (wd hw 30 rfl) (wd hw 31 rfl) (wd hw 4 rfl) (wd hw 32 rfl) (by decide) [(.ref buf), (.int (Int32.ofNat (bs ++ [n]).length)), (.int (Int32.ofNat (128 + (XT.ushr u0 9 &&& 127).toNatClampNeg)))] [] (rm_put l Z a0 hw buf (bs ++ [n]) (128 + (XT.ushr u0 9 &&& 127).toNatClampNeg) h1 A1 (by (try simp only [List.length_append, List.length_cons, List.length_nil, own_idL, own_primL]); omega)) rfl rfl pd___BII_I rfl rfl 0 rfl (by decide) (by decide) (by decide) (by decide) (fun x z => Or.inl z) ?_
        rintro _ h2 K_h2 ⟨rfl, A2⟩
        show B.G h2 0 0 (mkF m 39 #[.val (.ref buf), .val (.int (Int32.ofNat (bs ++ [n]).length)), .val (.int u0), .val (.int (Int32.ofNat n))] [(.int (Int32.ofNat (bs ++ [n] ++ [128 + (XT.ushr u0 9 &&& 127).toNatClampNeg]).length))])
        refine B.istoreN 40 rfl d9_39 #[.val (.ref buf), .val (.int (Int32.ofNat (bs ++ [n] ++ [128 + (XT.ushr u0 9 &&& 127).toNatClampNeg]).length)), .val (.int u0), .val (.int (Int32.ofNat n))] rfl ?_
        refine B.aloadN 41 rfl d9_40 rfl rfl ?_
        refine B.iloadN 42 rfl d9_41 rfl ?_
        refine B.iloadN 43 rfl d9_42 rfl ?_
        refine B.bipush 45 rfl (16 : Int32) d9_43 rfl ?_
        refine B.iushr 46 rfl d9_45 ?_
        refine B.bipush 48 rfl (127 : Int32) d9_46 rfl ?_
        refine B.iand 49 rfl d9_48 ?_
        refine B.topI (Int32.ofNat ((XT.ushr u0 16 &&& 127).toNatClampNeg)) (own_m127 (XT.ushr u0 16)) ?_
        refine B.callS 52 rfl d9_49 (wd hw 30 rfl) (wd hw 31 rfl) (wd hw 4 rfl) (wd hw 32 rfl) (by decide) [(.ref buf), (.int (Int32.ofNat (bs ++ [n] ++ [128 + (XT.ushr u0 9 &&& 127).toNatClampNeg]).length)), (.int (Int32.ofNat ((XT.ushr u0 16 &&& 127).toNatClampNeg)))] [] (rm_put l Z a0 hw buf (bs ++ [n] ++ [128 + (XT.ushr u0 9 &&& 127).toNatClampNeg]) ((XT.ushr u0 16 &&& 127).toNatClampNeg) h2 A2 (by (try simp only [List.length_append, List.length_cons, List.length_nil, own_idL, own_primL]); omega)) rfl rfl pd___BII_I rfl rfl 0 rfl (by decide) (by decide) (by decide) (by decide) (fun x z => Or.inl z) ?_
        rintro _ h3 K_h3 ⟨rfl, A3⟩
        show B.G h3 0 0 (mkF m 52 #[.val (.ref buf), .val (.int (Int32.ofNat (bs ++ [n] ++ [128 + (XT.ushr u0 9 &&& 127).toNatClampNeg]).length)), .val (.int u0), .val (.int (Int32.ofNat n))] [(.int (Int32.ofNat (bs ++ [n] ++ [128 + (XT.ushr u0 9 &&& 127).toNatClampNeg] ++ [(XT.ushr u0 16 &&& 127).toNatClampNeg]).length))])
        refine B.istoreN 53 rfl d9_52 #[.val (.ref buf), .val (.int (Int32.ofNat (bs ++ [n] ++ [128 + (XT.ushr u0 9 &&& 127).toNatClampNeg] ++ [(XT.ushr u0 16 &&& 127).toNatClampNeg]).length)), .val (.int u0), .val (.int (Int32.ofNat n))] rfl ?_
        refine B.iloadN 54 rfl d9_53 rfl ?_
        refine B.retI d9_54 (by decide) (by decide) ?_
        have ee : bs ++ own_idB n u0 = bs ++ [n] ++ [128 + (XT.ushr u0 9 &&& 127).toNatClampNeg] ++ [(XT.ushr u0 16 &&& 127).toNatClampNeg] := by simp [own_idB, own_idT, hh, c20]
        exact ⟨by rw [ee], by rw [ee]; exact A3⟩
  · refine B.callS 11 rfl d9_8 (wd hw 12 rfl) (wd hw 13 rfl) (wd hw 4 rfl) (wd hw 14 rfl) (by decide) [(.int u0)] [] (rm_hi0 l Z a0 hw u0 h1 hh) rfl rfl pd__I_Z rfl rfl 0 rfl (by decide) (by decide) (by decide) (by decide) (fun _ q => nomatch q) ?_
    rintro _ _ - ⟨rfl, rfl⟩
    show B.G h1 0 0 (mkF m 11 #[.val (.ref buf), .val (.int (Int32.ofNat (bs ++ [n]).length)), .val (.int u0), .val (.int (Int32.ofNat n))] [(.int (0 : Int32))])
    refine B.if0_eq 53 14 rfl (by decide) rfl d9_11 (fun c11 => ?_) (fun c11 => ?_)
    · refine B.iloadN 54 rfl d9_53 rfl ?_
      refine B.retI d9_54 (by decide) (by decide) ?_
      have ee : bs ++ own_idB n u0 = bs ++ [n] := by simp [own_idB, own_idT, hh]
      exact ⟨by rw [ee], by rw [ee]; exact A1⟩
    · exact absurd c11 (by decide)
theorem d11_0 : decode method_13_code 0 = .ok (.iload_n 2, 1) := by decide +kernel
theorem d11_1 : decode method_13_code 1 = .ok (.ifCond .ge 12, 3) := by decide +kernel
theorem d11_4 : decode method_13_code 4 = .ok (.aload_n 0, 1) := by decide +kernel
theorem d11_5 : decode method_13_code 5 = .ok (.iload_n 1, 1) := by decide +kernel
theorem d11_6 : decode method_13_code 6 = .ok (.sipush 128, 3) := by decide +kernel
theorem d11_9 : decode method_13_code 9 = .ok (.invokestatic 13, 3) := by decide +kernel
theorem d11_12 : decode method_13_code 12 = .ok (.ireturn, 1) := by decide +kernel
theorem d11_13 : decode method_13_code 13 = .ok (.iload_n 2, 1) := by decide +kernel
theorem d11_14 : decode method_13_code 14 = .ok (.ifCond .ne 11, 3) := by decide +kernel
theorem d11_17 : decode method_13_code 17 = .ok (.aload_n 0, 1) := by decide +kernel
theorem d11_18 : decode method_13_code 18 = .ok (.iload_n 1, 1) := by decide +kernel
theorem d11_19 : decode method_13_code 19 = .ok (.lload_n 3, 1) := by decide +kernel
theorem d11_20 : decode method_13_code 20 = .ok (.l2i, 1) := by decide +kernel
theorem d11_21 : decode method_13_code 21 = .ok (.invokestatic 13, 3) := by decide +kernel
theorem d11_24 : decode method_13_code 24 = .ok (.ireturn, 1) := by decide +kernel
theorem d11_25 : decode method_13_code 25 = .ok (.aload_n 0, 1) := by decide +kernel
theorem d11_26 : decode method_13_code 26 = .ok (.iload_n 1, 1) := by decide +kernel
theorem d11_27 : decode method_13_code 27 = .ok (.sipush 128, 3) := by decide +kernel
theorem d11_30 : decode method_13_code 30 = .ok (.iload_n 2, 1) := by decide +kernel
theorem d11_31 : decode method_13_code 31 = .ok (.ior, 1) := by decide +kernel
theorem d11_32 : decode method_13_code 32 = .ok (.invokestatic 13, 3) := by decide +kernel
theorem d11_35 : decode method_13_code 35 = .ok (.istore_n 1, 1) := by decide +kernel
theorem d11_36 : decode method_13_code 36 = .ok (.iload_n 2, 1) := by decide +kernel
theorem d11_37 : decode method_13_code 37 = .ok (.iconst 4, 1) := by decide +kernel
theorem d11_38 : decode method_13_code 38 = .ok (.if_icmp .lt 18, 3) := by decide +kernel
theorem d11_41 : decode method_13_code 41 = .ok (.aload_n 0, 1) := by decide +kernel
theorem d11_42 : decode method_13_code 42 = .ok (.iload_n 1, 1) := by decide +kernel
theorem d11_43 : decode method_13_code 43 = .ok (.lload_n 3, 1) := by decide +kernel
theorem d11_44 : decode method_13_code 44 = .ok (.bipush 24, 2) := by decide +kernel
theorem d11_46 : decode method_13_code 46 = .ok (.lushr, 1) := by decide +kernel
theorem d11_47 : decode method_13_code 47 = .ok (.l2i, 1) := by decide +kernel
theorem d11_48 : decode method_13_code 48 = .ok (.sipush 255, 3) := by decide +kernel
theorem d11_51 : decode method_13_code 51 = .ok (.iand, 1) := by decide +kernel
theorem d11_52 : decode method_13_code 52 = .ok (.invokestatic 13, 3) := by decide +kernel
theorem d11_55 : decode method_13_code 55 = .ok (.istore_n 1, 1) := by decide +kernel
theorem d11_56 : decode method_13_code 56 = .ok (.iload_n 2, 1) := by decide +kernel
theorem d11_57 : decode method_13_code 57 = .ok (.iconst 3, 1) := by decide +kernel
theorem d11_58 : decode method_13_code 58 = .ok (.if_icmp .lt 18, 3) := by decide +kernel
theorem d11_61 : decode method_13_code 61 = .ok (.aload_n 0, 1) := by decide +kernel
theorem d11_62 : decode method_13_code 62 = .ok (.iload_n 1, 1) := by decide +kernel
theorem d11_63 : decode method_13_code 63 = .ok (.lload_n 3, 1) := by decide +kernel
theorem d11_64 : decode method_13_code 64 = .ok (.bipush 16, 2) := by decide +kernel
theorem d11_66 : decode method_13_code 66 = .ok (.lushr, 1) := by decide +kernel
theorem d11_67 : decode method_13_code 67 = .ok (.l2i, 1) := by decide +kernel
theorem d11_68 : decode method_13_code 68 = .ok (.sipush 255, 3) := by decide +kernel
theorem d11_71 : decode method_13_code 71 = .ok (.iand, 1) := by decide +kernel
theorem d11_72 : decode method_13_code 72 = .ok (.invokestatic 13, 3) := by decide +kernel
theorem d11_75 : decode method_13_code 75 = .ok (.istore_n 1, 1) := by decide +kernel
theorem d11_76 : decode method_13_code 76 = .ok (.iload_n 2, 1) := by decide +kernel
theorem d11_77 : decode method_13_code 77 = .ok (.iconst 2, 1) := by decide +kernel
theorem d11_78 : decode method_13_code 78 = .ok (.if_icmp .lt 18, 3) := by decide +kernel
theorem d11_81 : decode method_13_code 81 = .ok (.aload_n 0, 1) := by decide +kernel
theorem d11_82 : decode method_13_code 82 = .ok (.iload_n 1, 1) := by decide +kernel
theorem d11_83 : decode method_13_code 83 = .ok (.lload_n 3, 1) := by decide +kernel
theorem d11_84 : decode method_13_code 84 = .ok (.bipush 8, 2) := by decide +kernel
theorem d11_86 : decode method_13_code 86 = .ok (.lushr, 1) := by decide +kernel
theorem d11_87 : decode method_13_code 87 = .ok (.l2i, 1) := by decide +kernel
theorem d11_88 : decode method_13_code 88 = .ok (.sipush 255, 3) := by decide +kernel
theorem d11_91 : decode method_13_code 91 = .ok (.iand, 1) := by decide +kernel
theorem d11_92 : decode method_13_code 92 = .ok (.invokestatic 13, 3) := by decide +kernel
theorem d11_95 : decode method_13_code 95 = .ok (.istore_n 1, 1) := by decide +kernel
theorem d11_96 : decode method_13_code 96 = .ok (.aload_n 0, 1) := by decide +kernel
theorem d11_97 : decode method_13_code 97 = .ok (.iload_n 1, 1) := by decide +kernel
theorem d11_98 : decode method_13_code 98 = .ok (.lload_n 3, 1) := by decide +kernel
theorem d11_99 : decode method_13_code 99 = .ok (.l2i, 1) := by decide +kernel
theorem d11_100 : decode method_13_code 100 = .ok (.sipush 255, 3) := by decide +kernel
theorem d11_103 : decode method_13_code 103 = .ok (.iand, 1) := by decide +kernel
theorem d11_104 : decode method_13_code 104 = .ok (.invokestatic 13, 3) := by decide +kernel
theorem d11_107 : decode method_13_code 107 = .ok (.ireturn, 1) := by decide +kernel
theorem pn_11 : plainFor (⟨"com/example/siegelwerk/siegelwerk/BerNestingDeeperThanPinLaw", "writeLen", "([BIIJ)I"⟩ : MethodName) = true := by first | exact plainFor_of_name (by first | (simp [plainName, overriddenIn]; done) | decide +kernel) | decide +kernel
set_option maxRecDepth 65536 in
set_option maxHeartbeats 4000000 in
theorem rm_wl (l : Launch) (Z : State) (a0 : Array Value) (hw : ∀ d ∈ tables_1, d.before a0 Z = true) (buf : Addr) (bs : List Nat) (c0 : Int32) (k V : Nat) (h0 : Heap) (A : Ary Z h0 buf .byte (own_b (bs))) (hl : bs.length ≤ 220) (hk : own_cd c0 k) (hV : own_vb k V) :
    Met l Z (⟨"com/example/siegelwerk/siegelwerk/BerNestingDeeperThanPinLaw", "writeLen", "([BIIJ)I"⟩ : MethodName) method_13_code 5 (some .int) [] ({ frames := 1, cells := 0, slots := 0, locals := 14 } : Room) #[(.ref buf), (.int (Int32.ofNat (bs.length))), (.int c0), (.long (Int64.ofNat V))] h0 [buf] (fun v h => v = some (.int (Int32.ofNat (bs ++ own_lenB k V).length)) ∧ Ary Z h buf .byte (own_b (bs ++ own_lenB k V))) := by
  refine Met.walk pn_11 (Ls := #[.val (.ref buf), .val (.int (Int32.ofNat (bs.length))), .val (.int c0), .val (.long (Int64.ofNat V)), .second]) (fun m => by first | (simp [entryFrame, mkF, argsToLocals, Value.category, maxLocals]; done) | rfl) ?_
  intro p e s m below meth c B
  rcases hk with ⟨rfl, rfl⟩ | ⟨rfl, rfl⟩ | ⟨rfl, rfl⟩ | ⟨rfl, rfl⟩ | ⟨rfl, rfl⟩ | ⟨rfl, rfl⟩
  · refine B.iloadN 1 rfl d11_0 rfl ?_
    refine B.if0_ge 13 4 rfl (by decide) rfl d11_1 (fun c1 => ?_) (fun c1 => ?_)
    · refine B.iloadN 14 rfl d11_13 rfl ?_
      refine B.if0_ne 25 17 rfl (by decide) rfl d11_14 (fun c14 => ?_) (fun c14 => ?_)
      · exact absurd c14 (by decide)
      · refine B.aloadN 18 rfl d11_17 rfl rfl ?_
        refine B.iloadN 19 rfl d11_18 rfl ?_
        refine B.lloadN 20 rfl d11_19 rfl ?_
        refine B.l2i 21 rfl d11_20 ?_
        refine B.topI (Int32.ofNat V) (own_l0 V (show V < 256 by have : V < 128 := hV; omega)) ?_
        refine B.callS 24 rfl d11_21 (wd hw 30 rfl) (wd hw 31 rfl) (wd hw 4 rfl) (wd hw 32 rfl) (by decide) [(.ref buf), (.int (Int32.ofNat (bs.length))), (.int (Int32.ofNat V))] [] (rm_put l Z a0 hw buf (bs) (V) h0 A (by (try simp only [List.length_append, List.length_cons, List.length_nil, own_idL, own_primL]); omega)) rfl rfl pd___BII_I rfl rfl 0 rfl (by decide) (by decide) (by decide) (by decide) (fun x z => Or.inl z) ?_
        rintro _ h1 K_h1 ⟨rfl, A1⟩
        show B.G h1 0 0 (mkF m 24 #[.val (.ref buf), .val (.int (Int32.ofNat (bs.length))), .val (.int (0 : Int32)), .val (.long (Int64.ofNat V)), .second] [(.int (Int32.ofNat (bs ++ [V]).length))])
        refine B.retI d11_24 (by decide) (by decide) ?_
        have ee : bs ++ own_lenB 0 V = bs ++ [V] := by simp [own_lenB]
        exact ⟨by rw [ee], by rw [ee]; exact A1⟩
    · exact absurd c1 (by decide)
  · refine B.iloadN 1 rfl d11_0 rfl ?_
    refine B.if0_ge 13 4 rfl (by decide) rfl d11_1 (fun c1 => ?_) (fun c1 => ?_)
    · refine B.iloadN 14 rfl d11_13 rfl ?_
      refine B.if0_ne 25 17 rfl (by decide) rfl d11_14 (fun c14 => ?_) (fun c14 => ?_)
      · refine B.aloadN 26 rfl d11_25 rfl rfl ?_
        refine B.iloadN 27 rfl d11_26 rfl ?_
        refine B.sipush 30 rfl (128 : Int32) d11_27 rfl ?_
        refine B.iloadN 31 rfl d11_30 rfl ?_
        refine B.ior 32 rfl d11_31 ?_
        refine B.topI (129 : Int32) (by decide) ?_
        refine B.callS 35 rfl d11_32 (wd hw 30 rfl) (wd hw 31 rfl) (wd hw 4 rfl) (wd hw 32 rfl) (by decide) [(.ref buf), (.int (Int32.ofNat (bs.length))), (.int (129 : Int32))] [] (rm_put l Z a0 hw buf (bs) (129) h0 A (by (try simp only [List.length_append, List.length_cons, List.length_nil, own_idL, own_primL]); omega)) rfl rfl pd___BII_I rfl rfl 0 rfl (by decide) (by decide) (by decide) (by decide) (fun x z => Or.inl z) ?_
        rintro _ h1 K_h1 ⟨rfl, A1⟩
        show B.G h1 0 0 (mkF m 35 #[.val (.ref buf), .val (.int (Int32.ofNat (bs.length))), .val (.int (1 : Int32)), .val (.long (Int64.ofNat V)), .second] [(.int (Int32.ofNat (bs ++ [129]).length))])
        refine B.istoreN 36 rfl d11_35 #[.val (.ref buf), .val (.int (Int32.ofNat (bs ++ [129]).length)), .val (.int (1 : Int32)), .val (.long (Int64.ofNat V)), .second] rfl ?_
        refine B.iloadN 37 rfl d11_36 rfl ?_
        refine B.iconst 38 rfl (4 : Int32) d11_37 rfl ?_
        refine B.icmp_lt 56 41 rfl (by decide) rfl d11_38 (fun c38 => ?_) (fun c38 => ?_)
        · refine B.iloadN 57 rfl d11_56 rfl ?_
          refine B.iconst 58 rfl (3 : Int32) d11_57 rfl ?_
          refine B.icmp_lt 76 61 rfl (by decide) rfl d11_58 (fun c58 => ?_) (fun c58 => ?_)
          · refine B.iloadN 77 rfl d11_76 rfl ?_
            refine B.iconst 78 rfl (2 : Int32) d11_77 rfl ?_
            refine B.icmp_lt 96 81 rfl (by decide) rfl d11_78 (fun c78 => ?_) (fun c78 => ?_)
            · refine B.aloadN 97 rfl d11_96 rfl rfl ?_
              refine B.iloadN 98 rfl d11_97 rfl ?_
              refine B.lloadN 99 rfl d11_98 rfl ?_
              refine B.l2i 100 rfl d11_99 ?_
              refine B.sipush 103 rfl (255 : Int32) d11_100 rfl ?_
              refine B.iand 104 rfl d11_103 ?_
              refine B.topI (Int32.ofNat (V % 256)) (own_l8 V (own_vb32 hV)) ?_
              refine B.callS 107 rfl d11_104 (wd hw 30 rfl) (wd hw 31 rfl) (wd hw 4 rfl) (wd hw 32 rfl) (by decide) [(.ref buf), (.int (Int32.ofNat (bs ++ [129]).length)), (.int (Int32.ofNat (V % 256)))] [] (rm_put l Z a0 hw buf (bs ++ [129]) (V % 256) h1 A1 (by (try simp only [List.length_append, List.length_cons, List.length_nil, own_idL, own_primL]); omega)) rfl rfl pd___BII_I rfl rfl 0 rfl (by decide) (by decide) (by decide) (by decide) (fun x z => Or.inl z) ?_
              rintro _ h2 K_h2 ⟨rfl, A2⟩
              show B.G h2 0 0 (mkF m 107 #[.val (.ref buf), .val (.int (Int32.ofNat (bs ++ [129]).length)), .val (.int (1 : Int32)), .val (.long (Int64.ofNat V)), .second] [(.int (Int32.ofNat (bs ++ [129] ++ [V % 256]).length))])
              refine B.retI d11_107 (by decide) (by decide) ?_
              have ee : bs ++ own_lenB 1 V = bs ++ [129] ++ [V % 256] := by simp [own_lenB]
              exact ⟨by rw [ee], by rw [ee]; exact A2⟩
            · exact absurd c78 (by decide)
          · exact absurd c58 (by decide)
        · exact absurd c38 (by decide)
      · exact absurd c14 (by decide)
    · exact absurd c1 (by decide)
  · refine B.iloadN 1 rfl d11_0 rfl ?_
    refine B.if0_ge 13 4 rfl (by decide) rfl d11_1 (fun c1 => ?_) (fun c1 => ?_)
    · refine B.iloadN 14 rfl d11_13 rfl ?_
      refine B.if0_ne 25 17 rfl (by decide) rfl d11_14 (fun c14 => ?_) (fun c14 => ?_)
      · refine B.aloadN 26 rfl d11_25 rfl rfl ?_
        refine B.iloadN 27 rfl d11_26 rfl ?_
        refine B.sipush 30 rfl (128 : Int32) d11_27 rfl ?_
        refine B.iloadN 31 rfl d11_30 rfl ?_
        refine B.ior 32 rfl d11_31 ?_
        refine B.topI (130 : Int32) (by decide) ?_
        refine B.callS 35 rfl d11_32 (wd hw 30 rfl) (wd hw 31 rfl) (wd hw 4 rfl) (wd hw 32 rfl) (by decide) [(.ref buf), (.int (Int32.ofNat (bs.length))), (.int (130 : Int32))] [] (rm_put l Z a0 hw buf (bs) (130) h0 A (by (try simp only [List.length_append, List.length_cons, List.length_nil, own_idL, own_primL]); omega)) rfl rfl pd___BII_I rfl rfl 0 rfl (by decide) (by decide) (by decide) (by decide) (fun x z => Or.inl z) ?_
        rintro _ h1 K_h1 ⟨rfl, A1⟩
        show B.G h1 0 0 (mkF m 35 #[.val (.ref buf), .val (.int (Int32.ofNat (bs.length))), .val (.int (2 : Int32)), .val (.long (Int64.ofNat V)), .second] [(.int (Int32.ofNat (bs ++ [130]).length))])
        refine B.istoreN 36 rfl d11_35 #[.val (.ref buf), .val (.int (Int32.ofNat (bs ++ [130]).length)), .val (.int (2 : Int32)), .val (.long (Int64.ofNat V)), .second] rfl ?_
        refine B.iloadN 37 rfl d11_36 rfl ?_
        refine B.iconst 38 rfl (4 : Int32) d11_37 rfl ?_
        refine B.icmp_lt 56 41 rfl (by decide) rfl d11_38 (fun c38 => ?_) (fun c38 => ?_)
        · refine B.iloadN 57 rfl d11_56 rfl ?_
          refine B.iconst 58 rfl (3 : Int32) d11_57 rfl ?_
          refine B.icmp_lt 76 61 rfl (by decide) rfl d11_58 (fun c58 => ?_) (fun c58 => ?_)
          · refine B.iloadN 77 rfl d11_76 rfl ?_
            refine B.iconst 78 rfl (2 : Int32) d11_77 rfl ?_
            refine B.icmp_lt 96 81 rfl (by decide) rfl d11_78 (fun c78 => ?_) (fun c78 => ?_)
            · exact absurd c78 (by decide)
            · refine B.aloadN 82 rfl d11_81 rfl rfl ?_
              refine B.iloadN 83 rfl d11_82 rfl ?_
              refine B.lloadN 84 rfl d11_83 rfl ?_
              refine B.bipush 86 rfl (8 : Int32) d11_84 rfl ?_
              refine B.lushr 87 rfl d11_86 ?_
              refine B.l2i 88 rfl d11_87 ?_
              refine B.sipush 91 rfl (255 : Int32) d11_88 rfl ?_
              refine B.iand 92 rfl d11_91 ?_
              refine B.topI (Int32.ofNat (V / 256 % 256)) (own_lsh V (own_vb32 hV) 8 8 (by decide) (by decide)) ?_
              refine B.callS 95 rfl d11_92 (wd hw 30 rfl) (wd hw 31 rfl) (wd hw 4 rfl) (wd hw 32 rfl) (by decide) [(.ref buf), (.int (Int32.ofNat (bs ++ [130]).length)), (.int (Int32.ofNat (V / 256 % 256)))] [] (rm_put l Z a0 hw buf (bs ++ [130]) (V / 256 % 256) h1 A1 (by (try simp only [List.length_append, List.length_cons, List.length_nil, own_idL, own_primL]); omega)) rfl rfl pd___BII_I rfl rfl 0 rfl (by decide) (by decide) (by decide) (by decide) (fun x z => Or.inl z) ?_
              rintro _ h2 K_h2 ⟨rfl, A2⟩
              show B.G h2 0 0 (mkF m 95 #[.val (.ref buf), .val (.int (Int32.ofNat (bs ++ [130]).length)), .val (.int (2 : Int32)), .val (.long (Int64.ofNat V)), .second] [(.int (Int32.ofNat (bs ++ [130] ++ [V / 256 % 256]).length))])
              refine B.istoreN 96 rfl d11_95 #[.val (.ref buf), .val (.int (Int32.ofNat (bs ++ [130] ++ [V / 256 % 256]).length)), .val (.int (2 : Int32)), .val (.long (Int64.ofNat V)), .second] rfl ?_
              refine B.aloadN 97 rfl d11_96 rfl rfl ?_
              refine B.iloadN 98 rfl d11_97 rfl ?_
              refine B.lloadN 99 rfl d11_98 rfl ?_
              refine B.l2i 100 rfl d11_99 ?_
              refine B.sipush 103 rfl (255 : Int32) d11_100 rfl ?_
              refine B.iand 104 rfl d11_103 ?_
              refine B.topI (Int32.ofNat (V % 256)) (own_l8 V (own_vb32 hV)) ?_
              refine B.callS 107 rfl d11_104 (wd hw 30 rfl) (wd hw 31 rfl) (wd hw 4 rfl) (wd hw 32 rfl) (by decide) [(.ref buf), (.int (Int32.ofNat (bs ++ [130] ++ [V / 256 % 256]).length)), (.int (Int32.ofNat (V % 256)))] [] (rm_put l Z a0 hw buf (bs ++ [130] ++ [V / 256 % 256]) (V % 256) h2 A2 (by (try simp only [List.length_append, List.length_cons, List.length_nil, own_idL, own_primL]); omega)) rfl rfl pd___BII_I rfl rfl 0 rfl (by decide) (by decide) (by decide) (by decide) (fun x z => Or.inl z) ?_
              rintro _ h3 K_h3 ⟨rfl, A3⟩
              show B.G h3 0 0 (mkF m 107 #[.val (.ref buf), .val (.int (Int32.ofNat (bs ++ [130] ++ [V / 256 % 256]).length)), .val (.int (2 : Int32)), .val (.long (Int64.ofNat V)), .second] [(.int (Int32.ofNat (bs ++ [130] ++ [V / 256 % 256] ++ [V % 256]).length))])
              refine B.retI d11_107 (by decide) (by decide) ?_
              have ee : bs ++ own_lenB 2 V = bs ++ [130] ++ [V / 256 % 256] ++ [V % 256] := by simp [own_lenB]
              exact ⟨by rw [ee], by rw [ee]; exact A3⟩
          · exact absurd c58 (by decide)
        · exact absurd c38 (by decide)
      · exact absurd c14 (by decide)
    · exact absurd c1 (by decide)
  · refine B.iloadN 1 rfl d11_0 rfl ?_
    refine B.if0_ge 13 4 rfl (by decide) rfl d11_1 (fun c1 => ?_) (fun c1 => ?_)
    · refine B.iloadN 14 rfl d11_13 rfl ?_
      refine B.if0_ne 25 17 rfl (by decide) rfl d11_14 (fun c14 => ?_) (fun c14 => ?_)
      · refine B.aloadN 26 rfl d11_25 rfl rfl ?_
        refine B.iloadN 27 rfl d11_26 rfl ?_
        refine B.sipush 30 rfl (128 : Int32) d11_27 rfl ?_
        refine B.iloadN 31 rfl d11_30 rfl ?_
        refine B.ior 32 rfl d11_31 ?_
        refine B.topI (131 : Int32) (by decide) ?_
        refine B.callS 35 rfl d11_32 (wd hw 30 rfl) (wd hw 31 rfl) (wd hw 4 rfl) (wd hw 32 rfl) (by decide) [(.ref buf), (.int (Int32.ofNat (bs.length))), (.int (131 : Int32))] [] (rm_put l Z a0 hw buf (bs) (131) h0 A (by (try simp only [List.length_append, List.length_cons, List.length_nil, own_idL, own_primL]); omega)) rfl rfl pd___BII_I rfl rfl 0 rfl (by decide) (by decide) (by decide) (by decide) (fun x z => Or.inl z) ?_
        rintro _ h1 K_h1 ⟨rfl, A1⟩
        show B.G h1 0 0 (mkF m 35 #[.val (.ref buf), .val (.int (Int32.ofNat (bs.length))), .val (.int (3 : Int32)), .val (.long (Int64.ofNat V)), .second] [(.int (Int32.ofNat (bs ++ [131]).length))])
        refine B.istoreN 36 rfl d11_35 #[.val (.ref buf), .val (.int (Int32.ofNat (bs ++ [131]).length)), .val (.int (3 : Int32)), .val (.long (Int64.ofNat V)), .second] rfl ?_
        refine B.iloadN 37 rfl d11_36 rfl ?_
        refine B.iconst 38 rfl (4 : Int32) d11_37 rfl ?_
        refine B.icmp_lt 56 41 rfl (by decide) rfl d11_38 (fun c38 => ?_) (fun c38 => ?_)
        · refine B.iloadN 57 rfl d11_56 rfl ?_
          refine B.iconst 58 rfl (3 : Int32) d11_57 rfl ?_
          refine B.icmp_lt 76 61 rfl (by decide) rfl d11_58 (fun c58 => ?_) (fun c58 => ?_)
          · exact absurd c58 (by decide)
          · refine B.aloadN 62 rfl d11_61 rfl rfl ?_
            refine B.iloadN 63 rfl d11_62 rfl ?_
            refine B.lloadN 64 rfl d11_63 rfl ?_
            refine B.bipush 66 rfl (16 : Int32) d11_64 rfl ?_
            refine B.lushr 67 rfl d11_66 ?_
            refine B.l2i 68 rfl d11_67 ?_
            refine B.sipush 71 rfl (255 : Int32) d11_68 rfl ?_
            refine B.iand 72 rfl d11_71 ?_
            refine B.topI (Int32.ofNat (V / 65536 % 256)) (own_lsh V (own_vb32 hV) 16 16 (by decide) (by decide)) ?_
            refine B.callS 75 rfl d11_72 (wd hw 30 rfl) (wd hw 31 rfl) (wd hw 4 rfl) (wd hw 32 rfl) (by decide) [(.ref buf), (.int (Int32.ofNat (bs ++ [131]).length)), (.int (Int32.ofNat (V / 65536 % 256)))] [] (rm_put l Z a0 hw buf (bs ++ [131]) (V / 65536 % 256) h1 A1 (by (try simp only [List.length_append, List.length_cons, List.length_nil, own_idL, own_primL]); omega)) rfl rfl pd___BII_I rfl rfl 0 rfl (by decide) (by decide) (by decide) (by decide) (fun x z => Or.inl z) ?_
            rintro _ h2 K_h2 ⟨rfl, A2⟩
            show B.G h2 0 0 (mkF m 75 #[.val (.ref buf), .val (.int (Int32.ofNat (bs ++ [131]).length)), .val (.int (3 : Int32)), .val (.long (Int64.ofNat V)), .second] [(.int (Int32.ofNat (bs ++ [131] ++ [V / 65536 % 256]).length))])
            refine B.istoreN 76 rfl d11_75 #[.val (.ref buf), .val (.int (Int32.ofNat (bs ++ [131] ++ [V / 65536 % 256]).length)), .val (.int (3 : Int32)), .val (.long (Int64.ofNat V)), .second] rfl ?_
            refine B.iloadN 77 rfl d11_76 rfl ?_
            refine B.iconst 78 rfl (2 : Int32) d11_77 rfl ?_
            refine B.icmp_lt 96 81 rfl (by decide) rfl d11_78 (fun c78 => ?_) (fun c78 => ?_)
            · exact absurd c78 (by decide)
            · refine B.aloadN 82 rfl d11_81 rfl rfl ?_
              refine B.iloadN 83 rfl d11_82 rfl ?_
              refine B.lloadN 84 rfl d11_83 rfl ?_
              refine B.bipush 86 rfl (8 : Int32) d11_84 rfl ?_
              refine B.lushr 87 rfl d11_86 ?_
              refine B.l2i 88 rfl d11_87 ?_
              refine B.sipush 91 rfl (255 : Int32) d11_88 rfl ?_
              refine B.iand 92 rfl d11_91 ?_
              refine B.topI (Int32.ofNat (V / 256 % 256)) (own_lsh V (own_vb32 hV) 8 8 (by decide) (by decide)) ?_
              refine B.callS 95 rfl d11_92 (wd hw 30 rfl) (wd hw 31 rfl) (wd hw 4 rfl) (wd hw 32 rfl) (by decide) [(.ref buf), (.int (Int32.ofNat (bs ++ [131] ++ [V / 65536 % 256]).length)), (.int (Int32.ofNat (V / 256 % 256)))] [] (rm_put l Z a0 hw buf (bs ++ [131] ++ [V / 65536 % 256]) (V / 256 % 256) h2 A2 (by (try simp only [List.length_append, List.length_cons, List.length_nil, own_idL, own_primL]); omega)) rfl rfl pd___BII_I rfl rfl 0 rfl (by decide) (by decide) (by decide) (by decide) (fun x z => Or.inl z) ?_
              rintro _ h3 K_h3 ⟨rfl, A3⟩
              show B.G h3 0 0 (mkF m 95 #[.val (.ref buf), .val (.int (Int32.ofNat (bs ++ [131] ++ [V / 65536 % 256]).length)), .val (.int (3 : Int32)), .val (.long (Int64.ofNat V)), .second] [(.int (Int32.ofNat (bs ++ [131] ++ [V / 65536 % 256] ++ [V / 256 % 256]).length))])
              refine B.istoreN 96 rfl d11_95 #[.val (.ref buf), .val (.int (Int32.ofNat (bs ++ [131] ++ [V / 65536 % 256] ++ [V / 256 % 256]).length)), .val (.int (3 : Int32)), .val (.long (Int64.ofNat V)), .second] rfl ?_
              refine B.aloadN 97 rfl d11_96 rfl rfl ?_
              refine B.iloadN 98 rfl d11_97 rfl ?_
              refine B.lloadN 99 rfl d11_98 rfl ?_
              refine B.l2i 100 rfl d11_99 ?_
              refine B.sipush 103 rfl (255 : Int32) d11_100 rfl ?_
              refine B.iand 104 rfl d11_103 ?_
              refine B.topI (Int32.ofNat (V % 256)) (own_l8 V (own_vb32 hV)) ?_
              refine B.callS 107 rfl d11_104 (wd hw 30 rfl) (wd hw 31 rfl) (wd hw 4 rfl) (wd hw 32 rfl) (by decide) [(.ref buf), (.int (Int32.ofNat (bs ++ [131] ++ [V / 65536 % 256] ++ [V / 256 % 256]).length)), (.int (Int32.ofNat (V % 256)))] [] (rm_put l Z a0 hw buf (bs ++ [131] ++ [V / 65536 % 256] ++ [V / 256 % 256]) (V % 256) h3 A3 (by (try simp only [List.length_append, List.length_cons, List.length_nil, own_idL, own_primL]); omega)) rfl rfl pd___BII_I rfl rfl 0 rfl (by decide) (by decide) (by decide) (by decide) (fun x z => Or.inl z) ?_
              rintro _ h4 K_h4 ⟨rfl, A4⟩
              show B.G h4 0 0 (mkF m 107 #[.val (.ref buf), .val (.int (Int32.ofNat (bs ++ [131] ++ [V / 65536 % 256] ++ [V / 256 % 256]).length)), .val (.int (3 : Int32)), .val (.long (Int64.ofNat V)), .second] [(.int (Int32.ofNat (bs ++ [131] ++ [V / 65536 % 256] ++ [V / 256 % 256] ++ [V % 256]).length))])
              refine B.retI d11_107 (by decide) (by decide) ?_
              have ee : bs ++ own_lenB 3 V = bs ++ [131] ++ [V / 65536 % 256] ++ [V / 256 % 256] ++ [V % 256] := by simp [own_lenB]
              exact ⟨by rw [ee], by rw [ee]; exact A4⟩
        · exact absurd c38 (by decide)
      · exact absurd c14 (by decide)
    · exact absurd c1 (by decide)
  · refine B.iloadN 1 rfl d11_0 rfl ?_
    refine B.if0_ge 13 4 rfl (by decide) rfl d11_1 (fun c1 => ?_) (fun c1 => ?_)
    · refine B.iloadN 14 rfl d11_13 rfl ?_
      refine B.if0_ne 25 17 rfl (by decide) rfl d11_14 (fun c14 => ?_) (fun c14 => ?_)
      · refine B.aloadN 26 rfl d11_25 rfl rfl ?_
        refine B.iloadN 27 rfl d11_26 rfl ?_
        refine B.sipush 30 rfl (128 : Int32) d11_27 rfl ?_
        refine B.iloadN 31 rfl d11_30 rfl ?_
        refine B.ior 32 rfl d11_31 ?_
        refine B.topI (132 : Int32) (by decide) ?_
        refine B.callS 35 rfl d11_32 (wd hw 30 rfl) (wd hw 31 rfl) (wd hw 4 rfl) (wd hw 32 rfl) (by decide) [(.ref buf), (.int (Int32.ofNat (bs.length))), (.int (132 : Int32))] [] (rm_put l Z a0 hw buf (bs) (132) h0 A (by (try simp only [List.length_append, List.length_cons, List.length_nil, own_idL, own_primL]); omega)) rfl rfl pd___BII_I rfl rfl 0 rfl (by decide) (by decide) (by decide) (by decide) (fun x z => Or.inl z) ?_
        rintro _ h1 K_h1 ⟨rfl, A1⟩
        show B.G h1 0 0 (mkF m 35 #[.val (.ref buf), .val (.int (Int32.ofNat (bs.length))), .val (.int (4 : Int32)), .val (.long (Int64.ofNat V)), .second] [(.int (Int32.ofNat (bs ++ [132]).length))])
        refine B.istoreN 36 rfl d11_35 #[.val (.ref buf), .val (.int (Int32.ofNat (bs ++ [132]).length)), .val (.int (4 : Int32)), .val (.long (Int64.ofNat V)), .second] rfl ?_
        refine B.iloadN 37 rfl d11_36 rfl ?_
        refine B.iconst 38 rfl (4 : Int32) d11_37 rfl ?_
        refine B.icmp_lt 56 41 rfl (by decide) rfl d11_38 (fun c38 => ?_) (fun c38 => ?_)
        · exact absurd c38 (by decide)
        · refine B.aloadN 42 rfl d11_41 rfl rfl ?_
          refine B.iloadN 43 rfl d11_42 rfl ?_
          refine B.lloadN 44 rfl d11_43 rfl ?_
          refine B.bipush 46 rfl (24 : Int32) d11_44 rfl ?_
          refine B.lushr 47 rfl d11_46 ?_
          refine B.l2i 48 rfl d11_47 ?_
          refine B.sipush 51 rfl (255 : Int32) d11_48 rfl ?_
          refine B.iand 52 rfl d11_51 ?_
          refine B.topI (Int32.ofNat (V / 16777216 % 256)) (own_lsh V (own_vb32 hV) 24 24 (by decide) (by decide)) ?_
          refine B.callS 55 rfl d11_52 (wd hw 30 rfl) (wd hw 31 rfl) (wd hw 4 rfl) (wd hw 32 rfl) (by decide) [(.ref buf), (.int (Int32.ofNat (bs ++ [132]).length)), (.int (Int32.ofNat (V / 16777216 % 256)))] [] (rm_put l Z a0 hw buf (bs ++ [132]) (V / 16777216 % 256) h1 A1 (by (try simp only [List.length_append, List.length_cons, List.length_nil, own_idL, own_primL]); omega)) rfl rfl pd___BII_I rfl rfl 0 rfl (by decide) (by decide) (by decide) (by decide) (fun x z => Or.inl z) ?_
          rintro _ h2 K_h2 ⟨rfl, A2⟩
          show B.G h2 0 0 (mkF m 55 #[.val (.ref buf), .val (.int (Int32.ofNat (bs ++ [132]).length)), .val (.int (4 : Int32)), .val (.long (Int64.ofNat V)), .second] [(.int (Int32.ofNat (bs ++ [132] ++ [V / 16777216 % 256]).length))])
          refine B.istoreN 56 rfl d11_55 #[.val (.ref buf), .val (.int (Int32.ofNat (bs ++ [132] ++ [V / 16777216 % 256]).length)), .val (.int (4 : Int32)), .val (.long (Int64.ofNat V)), .second] rfl ?_
          refine B.iloadN 57 rfl d11_56 rfl ?_
          refine B.iconst 58 rfl (3 : Int32) d11_57 rfl ?_
          refine B.icmp_lt 76 61 rfl (by decide) rfl d11_58 (fun c58 => ?_) (fun c58 => ?_)
          · exact absurd c58 (by decide)
          · refine B.aloadN 62 rfl d11_61 rfl rfl ?_
            refine B.iloadN 63 rfl d11_62 rfl ?_
            refine B.lloadN 64 rfl d11_63 rfl ?_
            refine B.bipush 66 rfl (16 : Int32) d11_64 rfl ?_
            refine B.lushr 67 rfl d11_66 ?_
            refine B.l2i 68 rfl d11_67 ?_
            refine B.sipush 71 rfl (255 : Int32) d11_68 rfl ?_
            refine B.iand 72 rfl d11_71 ?_
            refine B.topI (Int32.ofNat (V / 65536 % 256)) (own_lsh V (own_vb32 hV) 16 16 (by decide) (by decide)) ?_
            refine B.callS 75 rfl d11_72 (wd hw 30 rfl) (wd hw 31 rfl) (wd hw 4 rfl) (wd hw 32 rfl) (by decide) [(.ref buf), (.int (Int32.ofNat (bs ++ [132] ++ [V / 16777216 % 256]).length)), (.int (Int32.ofNat (V / 65536 % 256)))] [] (rm_put l Z a0 hw buf (bs ++ [132] ++ [V / 16777216 % 256]) (V / 65536 % 256) h2 A2 (by (try simp only [List.length_append, List.length_cons, List.length_nil, own_idL, own_primL]); omega)) rfl rfl pd___BII_I rfl rfl 0 rfl (by decide) (by decide) (by decide) (by decide) (fun x z => Or.inl z) ?_
            rintro _ h3 K_h3 ⟨rfl, A3⟩
            show B.G h3 0 0 (mkF m 75 #[.val (.ref buf), .val (.int (Int32.ofNat (bs ++ [132] ++ [V / 16777216 % 256]).length)), .val (.int (4 : Int32)), .val (.long (Int64.ofNat V)), .second] [(.int (Int32.ofNat (bs ++ [132] ++ [V / 16777216 % 256] ++ [V / 65536 % 256]).length))])
            refine B.istoreN 76 rfl d11_75 #[.val (.ref buf), .val (.int (Int32.ofNat (bs ++ [132] ++ [V / 16777216 % 256] ++ [V / 65536 % 256]).length)), .val (.int (4 : Int32)), .val (.long (Int64.ofNat V)), .second] rfl ?_
            refine B.iloadN 77 rfl d11_76 rfl ?_
            refine B.iconst 78 rfl (2 : Int32) d11_77 rfl ?_
            refine B.icmp_lt 96 81 rfl (by decide) rfl d11_78 (fun c78 => ?_) (fun c78 => ?_)
            · exact absurd c78 (by decide)
            · refine B.aloadN 82 rfl d11_81 rfl rfl ?_
              refine B.iloadN 83 rfl d11_82 rfl ?_
              refine B.lloadN 84 rfl d11_83 rfl ?_
              refine B.bipush 86 rfl (8 : Int32) d11_84 rfl ?_
              refine B.lushr 87 rfl d11_86 ?_
              refine B.l2i 88 rfl d11_87 ?_
              refine B.sipush 91 rfl (255 : Int32) d11_88 rfl ?_
              refine B.iand 92 rfl d11_91 ?_
              refine B.topI (Int32.ofNat (V / 256 % 256)) (own_lsh V (own_vb32 hV) 8 8 (by decide) (by decide)) ?_
              refine B.callS 95 rfl d11_92 (wd hw 30 rfl) (wd hw 31 rfl) (wd hw 4 rfl) (wd hw 32 rfl) (by decide) [(.ref buf), (.int (Int32.ofNat (bs ++ [132] ++ [V / 16777216 % 256] ++ [V / 65536 % 256]).length)), (.int (Int32.ofNat (V / 256 % 256)))] [] (rm_put l Z a0 hw buf (bs ++ [132] ++ [V / 16777216 % 256] ++ [V / 65536 % 256]) (V / 256 % 256) h3 A3 (by (try simp only [List.length_append, List.length_cons, List.length_nil, own_idL, own_primL]); omega)) rfl rfl pd___BII_I rfl rfl 0 rfl (by decide) (by decide) (by decide) (by decide) (fun x z => Or.inl z) ?_
              rintro _ h4 K_h4 ⟨rfl, A4⟩
              show B.G h4 0 0 (mkF m 95 #[.val (.ref buf), .val (.int (Int32.ofNat (bs ++ [132] ++ [V / 16777216 % 256] ++ [V / 65536 % 256]).length)), .val (.int (4 : Int32)), .val (.long (Int64.ofNat V)), .second] [(.int (Int32.ofNat (bs ++ [132] ++ [V / 16777216 % 256] ++ [V / 65536 % 256] ++ [V / 256 % 256]).length))])
              refine B.istoreN 96 rfl d11_95 #[.val (.ref buf), .val (.int (Int32.ofNat (bs ++ [132] ++ [V / 16777216 % 256] ++ [V / 65536 % 256] ++ [V / 256 % 256]).length)), .val (.int (4 : Int32)), .val (.long (Int64.ofNat V)), .second] rfl ?_
              refine B.aloadN 97 rfl d11_96 rfl rfl ?_
              refine B.iloadN 98 rfl d11_97 rfl ?_
              refine B.lloadN 99 rfl d11_98 rfl ?_
              refine B.l2i 100 rfl d11_99 ?_
              refine B.sipush 103 rfl (255 : Int32) d11_100 rfl ?_
              refine B.iand 104 rfl d11_103 ?_
              refine B.topI (Int32.ofNat (V % 256)) (own_l8 V (own_vb32 hV)) ?_
              refine B.callS 107 rfl d11_104 (wd hw 30 rfl) (wd hw 31 rfl) (wd hw 4 rfl) (wd hw 32 rfl) (by decide) [(.ref buf), (.int (Int32.ofNat (bs ++ [132] ++ [V / 16777216 % 256] ++ [V / 65536 % 256] ++ [V / 256 % 256]).length)), (.int (Int32.ofNat (V % 256)))] [] (rm_put l Z a0 hw buf (bs ++ [132] ++ [V / 16777216 % 256] ++ [V / 65536 % 256] ++ [V / 256 % 256]) (V % 256) h4 A4 (by (try simp only [List.length_append, List.length_cons, List.length_nil, own_idL, own_primL]); omega)) rfl rfl pd___BII_I rfl rfl 0 rfl (by decide) (by decide) (by decide) (by decide) (fun x z => Or.inl z) ?_
              rintro _ h5 K_h5 ⟨rfl, A5⟩
              show B.G h5 0 0 (mkF m 107 #[.val (.ref buf), .val (.int (Int32.ofNat (bs ++ [132] ++ [V / 16777216 % 256] ++ [V / 65536 % 256] ++ [V / 256 % 256]).length)), .val (.int (4 : Int32)), .val (.long (Int64.ofNat V)), .second] [(.int (Int32.ofNat (bs ++ [132] ++ [V / 16777216 % 256] ++ [V / 65536 % 256] ++ [V / 256 % 256] ++ [V % 256]).length))])
              refine B.retI d11_107 (by decide) (by decide) ?_
              have ee : bs ++ own_lenB 4 V = bs ++ [132] ++ [V / 16777216 % 256] ++ [V / 65536 % 256] ++ [V / 256 % 256] ++ [V % 256] := by simp [own_lenB]
              exact ⟨by rw [ee], by rw [ee]; exact A5⟩
      · exact absurd c14 (by decide)
    · exact absurd c1 (by decide)
  · refine B.iloadN 1 rfl d11_0 rfl ?_
    refine B.if0_ge 13 4 rfl (by decide) rfl d11_1 (fun c1 => ?_) (fun c1 => ?_)
    · exact absurd c1 (by decide)
    · refine B.aloadN 5 rfl d11_4 rfl rfl ?_
      refine B.iloadN 6 rfl d11_5 rfl ?_
      refine B.sipush 9 rfl (128 : Int32) d11_6 rfl ?_
      refine B.callS 12 rfl d11_9 (wd hw 30 rfl) (wd hw 31 rfl) (wd hw 4 rfl) (wd hw 32 rfl) (by decide) [(.ref buf), (.int (Int32.ofNat (bs.length))), (.int (128 : Int32))] [] (rm_put l Z a0 hw buf (bs) (128) h0 A (by (try simp only [List.length_append, List.length_cons, List.length_nil, own_idL, own_primL]); omega)) rfl rfl pd___BII_I rfl rfl 0 rfl (by decide) (by decide) (by decide) (by decide) (fun x z => Or.inl z) ?_
      rintro _ h1 K_h1 ⟨rfl, A1⟩
      show B.G h1 0 0 (mkF m 12 #[.val (.ref buf), .val (.int (Int32.ofNat (bs.length))), .val (.int (-1 : Int32)), .val (.long (Int64.ofNat V)), .second] [(.int (Int32.ofNat (bs ++ [128]).length))])
      refine B.retI d11_12 (by decide) (by decide) ?_
      have ee : bs ++ own_lenB 5 V = bs ++ [128] := by simp [own_lenB]
      exact ⟨by rw [ee], by rw [ee]; exact A1⟩
theorem d17_0 : decode method_14_code 0 = .ok (.iload_n 0, 1) := by decide +kernel
theorem d17_1 : decode method_14_code 1 = .ok (.ifCond .ge 5, 3) := by decide +kernel
theorem d17_4 : decode method_14_code 4 = .ok (.lconst 0, 1) := by decide +kernel
theorem d17_5 : decode method_14_code 5 = .ok (.lreturn, 1) := by decide +kernel
theorem d17_6 : decode method_14_code 6 = .ok (.iload_n 0, 1) := by decide +kernel
theorem d17_7 : decode method_14_code 7 = .ok (.ifCond .ne 9, 3) := by decide +kernel
theorem d17_10 : decode method_14_code 10 = .ok (.lload_n 1, 1) := by decide +kernel
theorem d17_11 : decode method_14_code 11 = .ok (.ldc2_w 64, 3) := by decide +kernel
theorem d17_14 : decode method_14_code 14 = .ok (.land, 1) := by decide +kernel
theorem d17_15 : decode method_14_code 15 = .ok (.lreturn, 1) := by decide +kernel
theorem d17_16 : decode method_14_code 16 = .ok (.iload_n 0, 1) := by decide +kernel
theorem d17_17 : decode method_14_code 17 = .ok (.iconst 1, 1) := by decide +kernel
theorem d17_18 : decode method_14_code 18 = .ok (.if_icmp .ne 9, 3) := by decide +kernel
theorem d17_21 : decode method_14_code 21 = .ok (.lload_n 1, 1) := by decide +kernel
theorem d17_22 : decode method_14_code 22 = .ok (.ldc2_w 66, 3) := by decide +kernel
theorem d17_25 : decode method_14_code 25 = .ok (.land, 1) := by decide +kernel
theorem d17_26 : decode method_14_code 26 = .ok (.lreturn, 1) := by decide +kernel
theorem d17_27 : decode method_14_code 27 = .ok (.iload_n 0, 1) := by decide +kernel
theorem d17_28 : decode method_14_code 28 = .ok (.iconst 2, 1) := by decide +kernel
theorem d17_29 : decode method_14_code 29 = .ok (.if_icmp .ne 9, 3) := by decide +kernel
theorem d17_32 : decode method_14_code 32 = .ok (.lload_n 1, 1) := by decide +kernel
theorem d17_33 : decode method_14_code 33 = .ok (.ldc2_w 68, 3) := by decide +kernel
theorem d17_36 : decode method_14_code 36 = .ok (.land, 1) := by decide +kernel
theorem d17_37 : decode method_14_code 37 = .ok (.lreturn, 1) := by decide +kernel
theorem d17_38 : decode method_14_code 38 = .ok (.iload_n 0, 1) := by decide +kernel
theorem d17_39 : decode method_14_code 39 = .ok (.iconst 3, 1) := by decide +kernel
theorem d17_40 : decode method_14_code 40 = .ok (.if_icmp .ne 9, 3) := by decide +kernel
theorem d17_43 : decode method_14_code 43 = .ok (.lload_n 1, 1) := by decide +kernel
theorem d17_44 : decode method_14_code 44 = .ok (.ldc2_w 70, 3) := by decide +kernel
theorem d17_47 : decode method_14_code 47 = .ok (.land, 1) := by decide +kernel
theorem d17_48 : decode method_14_code 48 = .ok (.lreturn, 1) := by decide +kernel
theorem d17_49 : decode method_14_code 49 = .ok (.lload_n 1, 1) := by decide +kernel
theorem d17_50 : decode method_14_code 50 = .ok (.ldc2_w 72, 3) := by decide +kernel
theorem d17_53 : decode method_14_code 53 = .ok (.land, 1) := by decide +kernel
theorem d17_54 : decode method_14_code 54 = .ok (.lreturn, 1) := by decide +kernel
theorem pn_17 : plainFor (⟨"com/example/siegelwerk/siegelwerk/BerNestingDeeperThanPinLaw", "extraFor", "(IJ)J"⟩ : MethodName) = true := by first | exact plainFor_of_name (by first | (simp [plainName, overriddenIn]; done) | decide +kernel) | decide +kernel
set_option maxRecDepth 65536 in
set_option maxHeartbeats 4000000 in
theorem rm_ef (l : Launch) (Z : State) (a0 : Array Value) (hw : ∀ d ∈ tables_1, d.before a0 Z = true) (c0 : Int32) (k : Nat) (xe : Int64) (h0 : Heap) (hk : own_cd c0 k) :
    Met l Z (⟨"com/example/siegelwerk/siegelwerk/BerNestingDeeperThanPinLaw", "extraFor", "(IJ)J"⟩ : MethodName) method_14_code 3 (some .long) [] ({ frames := 0, cells := 0, slots := 0, locals := 0 } : Room) #[(.int c0), (.long xe)] h0 [] (fun v h => v = some (.long (Int64.ofNat (own_ex k xe))) ∧ h0 = h) := by
  refine Met.walk pn_17 (Ls := #[.val (.int c0), .val (.long xe), .second]) (fun m => by first | (simp [entryFrame, mkF, argsToLocals, Value.category, maxLocals]; done) | rfl) ?_
  intro p e s m below meth c B
  rcases hk with ⟨rfl, rfl⟩ | ⟨rfl, rfl⟩ | ⟨rfl, rfl⟩ | ⟨rfl, rfl⟩ | ⟨rfl, rfl⟩ | ⟨rfl, rfl⟩
  · refine B.iloadN 1 rfl d17_0 rfl ?_
    refine B.if0_ge 6 4 rfl (by decide) rfl d17_1 (fun c1 => ?_) (fun c1 => ?_)
    · refine B.iloadN 7 rfl d17_6 rfl ?_
      refine B.if0_ne 16 10 rfl (by decide) rfl d17_7 (fun c7 => ?_) (fun c7 => ?_)
      · exact absurd c7 (by decide)
      · refine B.lloadN 11 rfl d17_10 rfl ?_
        refine B.ldc2J 14 rfl d17_11 (wd hw 57 rfl) ?_
        refine B.land 15 rfl d17_14 ?_
        refine B.retL d17_15 (by decide) (by decide) ?_
        exact ⟨congrArg (fun z => some (Value.long z)) (own_mskL xe 63 6 (by decide) (by decide)).1, rfl⟩
    · exact absurd c1 (by decide)
  · refine B.iloadN 1 rfl d17_0 rfl ?_
    refine B.if0_ge 6 4 rfl (by decide) rfl d17_1 (fun c1 => ?_) (fun c1 => ?_)
    · refine B.iloadN 7 rfl d17_6 rfl ?_
      refine B.if0_ne 16 10 rfl (by decide) rfl d17_7 (fun c7 => ?_) (fun c7 => ?_)
      · refine B.iloadN 17 rfl d17_16 rfl ?_
        refine B.iconst 18 rfl (1 : Int32) d17_17 rfl ?_
        refine B.icmp_ne 27 21 rfl (by decide) rfl d17_18 (fun c18 => ?_) (fun c18 => ?_)
        · exact absurd c18 (by decide)
        · refine B.lloadN 22 rfl d17_21 rfl ?_
          refine B.ldc2J 25 rfl d17_22 (wd hw 67 rfl) ?_
          refine B.land 26 rfl d17_25 ?_
          refine B.retL d17_26 (by decide) (by decide) ?_
          exact ⟨congrArg (fun z => some (Value.long z)) (own_mskL xe 127 7 (by decide) (by decide)).1, rfl⟩
      · exact absurd c7 (by decide)
    · exact absurd c1 (by decide)
  · refine B.iloadN 1 rfl d17_0 rfl ?_
    refine B.if0_ge 6 4 rfl (by decide) rfl d17_1 (fun c1 => ?_) (fun c1 => ?_)
    · refine B.iloadN 7 rfl d17_6 rfl ?_
      refine B.if0_ne 16 10 rfl (by decide) rfl d17_7 (fun c7 => ?_) (fun c7 => ?_)
      · refine B.iloadN 17 rfl d17_16 rfl ?_
        refine B.iconst 18 rfl (1 : Int32) d17_17 rfl ?_
        refine B.icmp_ne 27 21 rfl (by decide) rfl d17_18 (fun c18 => ?_) (fun c18 => ?_)
        · refine B.iloadN 28 rfl d17_27 rfl ?_
          refine B.iconst 29 rfl (2 : Int32) d17_28 rfl ?_
          refine B.icmp_ne 38 32 rfl (by decide) rfl d17_29 (fun c29 => ?_) (fun c29 => ?_)
          · exact absurd c29 (by decide)
          · refine B.lloadN 33 rfl d17_32 rfl ?_
            refine B.ldc2J 36 rfl d17_33 (wd hw 65 rfl) ?_
            refine B.land 37 rfl d17_36 ?_
            refine B.retL d17_37 (by decide) (by decide) ?_
            exact ⟨congrArg (fun z => some (Value.long z)) (own_mskL xe 32767 15 (by decide) (by decide)).1, rfl⟩
        · exact absurd c18 (by decide)
      · exact absurd c7 (by decide)
    · exact absurd c1 (by decide)
  · refine B.iloadN 1 rfl d17_0 rfl ?_
    refine B.if0_ge 6 4 rfl (by decide) rfl d17_1 (fun c1 => ?_) (fun c1 => ?_)
    · refine B.iloadN 7 rfl d17_6 rfl ?_
      refine B.if0_ne 16 10 rfl (by decide) rfl d17_7 (fun c7 => ?_) (fun c7 => ?_)
      · refine B.iloadN 17 rfl d17_16 rfl ?_
        refine B.iconst 18 rfl (1 : Int32) d17_17 rfl ?_
        refine B.icmp_ne 27 21 rfl (by decide) rfl d17_18 (fun c18 => ?_) (fun c18 => ?_)
        · refine B.iloadN 28 rfl d17_27 rfl ?_
          refine B.iconst 29 rfl (2 : Int32) d17_28 rfl ?_
          refine B.icmp_ne 38 32 rfl (by decide) rfl d17_29 (fun c29 => ?_) (fun c29 => ?_)
          · refine B.iloadN 39 rfl d17_38 rfl ?_
            refine B.iconst 40 rfl (3 : Int32) d17_39 rfl ?_
            refine B.icmp_ne 49 43 rfl (by decide) rfl d17_40 (fun c40 => ?_) (fun c40 => ?_)
            · exact absurd c40 (by decide)
            · refine B.lloadN 44 rfl d17_43 rfl ?_
              refine B.ldc2J 47 rfl d17_44 (wd hw 66 rfl) ?_
              refine B.land 48 rfl d17_47 ?_
              refine B.retL d17_48 (by decide) (by decide) ?_
              exact ⟨congrArg (fun z => some (Value.long z)) (own_mskL xe 8388607 23 (by decide) (by decide)).1, rfl⟩
          · exact absurd c29 (by decide)
        · exact absurd c18 (by decide)
      · exact absurd c7 (by decide)
    · exact absurd c1 (by decide)
  · refine B.iloadN 1 rfl d17_0 rfl ?_
    refine B.if0_ge 6 4 rfl (by decide) rfl d17_1 (fun c1 => ?_) (fun c1 => ?_)
    · refine B.iloadN 7 rfl d17_6 rfl ?_
      refine B.if0_ne 16 10 rfl (by decide) rfl d17_7 (fun c7 => ?_) (fun c7 => ?_)
      · refine B.iloadN 17 rfl d17_16 rfl ?_
        refine B.iconst 18 rfl (1 : Int32) d17_17 rfl ?_
        refine B.icmp_ne 27 21 rfl (by decide) rfl d17_18 (fun c18 => ?_) (fun c18 => ?_)
        · refine B.iloadN 28 rfl d17_27 rfl ?_
          refine B.iconst 29 rfl (2 : Int32) d17_28 rfl ?_
          refine B.icmp_ne 38 32 rfl (by decide) rfl d17_29 (fun c29 => ?_) (fun c29 => ?_)
          · refine B.iloadN 39 rfl d17_38 rfl ?_
            refine B.iconst 40 rfl (3 : Int32) d17_39 rfl ?_
            refine B.icmp_ne 49 43 rfl (by decide) rfl d17_40 (fun c40 => ?_) (fun c40 => ?_)
            · refine B.lloadN 50 rfl d17_49 rfl ?_
              refine B.ldc2J 53 rfl d17_50 (wd hw 61 rfl) ?_
              refine B.land 54 rfl d17_53 ?_
              refine B.retL d17_54 (by decide) (by decide) ?_
              exact ⟨congrArg (fun z => some (Value.long z)) (own_mskL xe 2147483647 31 (by decide) (by decide)).1, rfl⟩
            · exact absurd c40 (by decide)
          · exact absurd c29 (by decide)
        · exact absurd c18 (by decide)
      · exact absurd c7 (by decide)
    · exact absurd c1 (by decide)
  · refine B.iloadN 1 rfl d17_0 rfl ?_
    refine B.if0_ge 6 4 rfl (by decide) rfl d17_1 (fun c1 => ?_) (fun c1 => ?_)
    · exact absurd c1 (by decide)
    · refine B.lconst 5 rfl (0 : Int64) d17_4 rfl ?_
      refine B.retL d17_5 (by decide) (by decide) ?_
      exact ⟨rfl, rfl⟩
theorem d16_0 : decode method_15_code 0 = .ok (.iload_n 2, 1) := by decide +kernel
theorem d16_1 : decode method_15_code 1 = .ok (.invokestatic 55, 3) := by decide +kernel
theorem d16_4 : decode method_15_code 4 = .ok (.istore 6, 2) := by decide +kernel
theorem d16_6 : decode method_15_code 6 = .ok (.aload_n 0, 1) := by decide +kernel
theorem d16_7 : decode method_15_code 7 = .ok (.iload_n 1, 1) := by decide +kernel
theorem d16_8 : decode method_15_code 8 = .ok (.iload_n 2, 1) := by decide +kernel
theorem d16_9 : decode method_15_code 9 = .ok (.iload_n 2, 1) := by decide +kernel
theorem d16_10 : decode method_15_code 10 = .ok (.sipush 223, 3) := by decide +kernel
theorem d16_13 : decode method_15_code 13 = .ok (.iand, 1) := by decide +kernel
theorem d16_14 : decode method_15_code 14 = .ok (.bipush 32, 2) := by decide +kernel
theorem d16_16 : decode method_15_code 16 = .ok (.ior, 1) := by decide +kernel
theorem d16_17 : decode method_15_code 17 = .ok (.invokestatic 74, 3) := by decide +kernel
theorem d16_20 : decode method_15_code 20 = .ok (.istore_n 1, 1) := by decide +kernel
theorem d16_21 : decode method_15_code 21 = .ok (.aload_n 0, 1) := by decide +kernel
theorem d16_22 : decode method_15_code 22 = .ok (.iload_n 1, 1) := by decide +kernel
theorem d16_23 : decode method_15_code 23 = .ok (.iload 6, 2) := by decide +kernel
theorem d16_25 : decode method_15_code 25 = .ok (.iload_n 3, 1) := by decide +kernel
theorem d16_26 : decode method_15_code 26 = .ok (.i2l, 1) := by decide +kernel
theorem d16_27 : decode method_15_code 27 = .ok (.iload 6, 2) := by decide +kernel
theorem d16_29 : decode method_15_code 29 = .ok (.lload 4, 2) := by decide +kernel
theorem d16_31 : decode method_15_code 31 = .ok (.invokestatic 78, 3) := by decide +kernel
theorem d16_34 : decode method_15_code 34 = .ok (.ladd, 1) := by decide +kernel
theorem d16_35 : decode method_15_code 35 = .ok (.invokestatic 82, 3) := by decide +kernel
theorem d16_38 : decode method_15_code 38 = .ok (.ireturn, 1) := by decide +kernel
theorem pn_16 : plainFor (⟨"com/example/siegelwerk/siegelwerk/BerNestingDeeperThanPinLaw", "writeCons", "([BIIIJ)I"⟩ : MethodName) = true := by first | exact plainFor_of_name (by first | (simp [plainName, overriddenIn]; done) | decide +kernel) | decide +kernel
set_option maxRecDepth 65536 in
set_option maxHeartbeats 4000000 in
theorem rm_wc (l : Launch) (Z : State) (a0 : Array Value) (hw : ∀ d ∈ tables_1, d.before a0 Z = true) (buf : Addr) (bs : List Nat) (u0 : Int32) (n : Nat) (xe : Int64) (h0 : Heap) (A : Ary Z h0 buf .byte (own_b (bs))) (hl : bs.length ≤ 200) (hn : n ≤ 50) :
    Met l Z (⟨"com/example/siegelwerk/siegelwerk/BerNestingDeeperThanPinLaw", "writeCons", "([BIIIJ)I"⟩ : MethodName) method_15_code 7 (some .int) [] ({ frames := 2, cells := 0, slots := 0, locals := 30 } : Room) #[(.ref buf), (.int (Int32.ofNat (bs.length))), (.int u0), (.int (Int32.ofNat n)), (.long xe)] h0 [buf] (fun v h => v = some (.int (Int32.ofNat (bs ++ own_consB u0 n xe).length)) ∧ Ary Z h buf .byte (own_b (bs ++ own_consB u0 n xe))) := by
  refine Met.walk pn_16 (Ls := #[.val (.ref buf), .val (.int (Int32.ofNat (bs.length))), .val (.int u0), .val (.int (Int32.ofNat n)), .val (.long xe), .second, .unset]) (fun m => by first | (simp [entryFrame, mkF, argsToLocals, Value.category, maxLocals]; done) | rfl) ?_
  intro p e s m below meth c B
  refine B.iloadN 1 rfl d16_0 rfl ?_
  refine B.callS 4 rfl d16_1 (wd hw 48 rfl) (wd hw 49 rfl) (wd hw 4 rfl) (wd hw 50 rfl) (by decide) [(.int u0)] [] (rm_cc l Z a0 hw u0 h0) rfl rfl pd__I_I rfl rfl 0 rfl (by decide) (by decide) (by decide) (by decide) (fun _ q => nomatch q) ?_
  rintro _ _ - ⟨rfl, rfl⟩
  show B.G h0 0 0 (mkF m 4 #[.val (.ref buf), .val (.int (Int32.ofNat (bs.length))), .val (.int u0), .val (.int (Int32.ofNat n)), .val (.long xe), .second, .unset] [(.int (own_ci (own_cc u0)))])
  refine B.istore 6 rfl d16_4 #[.val (.ref buf), .val (.int (Int32.ofNat (bs.length))), .val (.int u0), .val (.int (Int32.ofNat n)), .val (.long xe), .second, .val (.int (own_ci (own_cc u0)))] rfl ?_
  refine B.aloadN 7 rfl d16_6 rfl rfl ?_
  refine B.iloadN 8 rfl d16_7 rfl ?_
  refine B.iloadN 9 rfl d16_8 rfl ?_
  refine B.iloadN 10 rfl d16_9 rfl ?_
  refine B.sipush 13 rfl (223 : Int32) d16_10 rfl ?_
  refine B.iand 14 rfl d16_13 ?_
  refine B.bipush 16 rfl (32 : Int32) d16_14 rfl ?_
  refine B.ior 17 rfl d16_16 ?_
  refine B.topI (Int32.ofNat (own_ib u0)) ((own_ib_f u0).1) ?_
  refine B.callS 20 rfl d16_17 (wd hw 27 rfl) (wd hw 28 rfl) (wd hw 4 rfl) (wd hw 29 rfl) (by decide) [(.ref buf), (.int (Int32.ofNat (bs.length))), (.int u0), (.int (Int32.ofNat (own_ib u0)))] [] (rm_wi l Z a0 hw buf bs u0 (own_ib u0) h0 A hl) rfl rfl pd___BIII_I rfl rfl 0 rfl (by decide) (by decide) (by decide) (by decide) (fun x z => Or.inl z) ?_
  rintro _ h1 K1 ⟨rfl, A1⟩
  show B.G h1 0 0 (mkF m 20 #[.val (.ref buf), .val (.int (Int32.ofNat (bs.length))), .val (.int u0), .val (.int (Int32.ofNat n)), .val (.long xe), .second, .val (.int (own_ci (own_cc u0)))] [(.int (Int32.ofNat (bs ++ own_idB (own_ib u0) u0).length))])
  refine B.istoreN 21 rfl d16_20 #[.val (.ref buf), .val (.int (Int32.ofNat (bs ++ own_idB (own_ib u0) u0).length)), .val (.int u0), .val (.int (Int32.ofNat n)), .val (.long xe), .second, .val (.int (own_ci (own_cc u0)))] rfl ?_
  refine B.aloadN 22 rfl d16_21 rfl rfl ?_
  refine B.iloadN 23 rfl d16_22 rfl ?_
  refine B.iload 25 rfl d16_23 rfl ?_
  refine B.iloadN 26 rfl d16_25 rfl ?_
  refine B.i2l 27 rfl d16_26 ?_
  refine B.iload 29 rfl d16_27 rfl ?_
  refine B.lload 31 rfl d16_29 rfl ?_
  refine B.callS 34 rfl d16_31 (wd hw 54 rfl) (wd hw 55 rfl) (wd hw 4 rfl) (wd hw 56 rfl) (by decide) [(.int (own_ci (own_cc u0))), (.long xe)] [(.long (((Int32.ofNat n)).toInt64)), (.int (own_ci (own_cc u0))), (.int (Int32.ofNat (bs ++ own_idB (own_ib u0) u0).length)), (.ref buf)] (rm_ef l Z a0 hw (own_ci (own_cc u0)) (own_cc u0) xe h1 (own_ci_c (own_cc_le u0))) rfl rfl pd__IJ_J rfl rfl 5 rfl (by decide) (by decide) (by decide) (by decide) (fun _ q => nomatch q) ?_
  rintro _ _ - ⟨rfl, rfl⟩
  show B.G h1 0 0 (mkF m 34 #[.val (.ref buf), .val (.int (Int32.ofNat (bs ++ own_idB (own_ib u0) u0).length)), .val (.int u0), .val (.int (Int32.ofNat n)), .val (.long xe), .second, .val (.int (own_ci (own_cc u0)))] [(.long (Int64.ofNat (own_ex (own_cc u0) xe))), (.long (((Int32.ofNat n)).toInt64)), (.int (own_ci (own_cc u0))), (.int (Int32.ofNat (bs ++ own_idB (own_ib u0) u0).length)), (.ref buf)])
  refine B.ladd 35 rfl d16_34 ?_
  refine B.topL (Int64.ofNat (n + own_ex (own_cc u0) xe)) (by rw [own_i2l n (by omega), own_ladd]) ?_
  refine B.callS 38 rfl d16_35 (wd hw 33 rfl) (wd hw 34 rfl) (wd hw 4 rfl) (wd hw 35 rfl) (by decide) [(.ref buf), (.int (Int32.ofNat (bs ++ own_idB (own_ib u0) u0).length)), (.int (own_ci (own_cc u0))), (.long (Int64.ofNat (n + own_ex (own_cc u0) xe)))] [] (rm_wl l Z a0 hw buf (bs ++ own_idB (own_ib u0) u0) (own_ci (own_cc u0)) (own_cc u0) (n + own_ex (own_cc u0) xe) h1 A1 (by have := own_il_l u0; rw [List.length_append, own_idL]; omega) (own_ci_c (own_cc_le u0)) (own_ex_v _ (own_cc_le u0) xe n hn)) rfl rfl pd___BIIJ_I rfl rfl 0 rfl (by decide) (by decide) (by decide) (by decide) (fun x z => Or.inl z) ?_
  rintro _ h2 K2 ⟨rfl, A2⟩
  show B.G h2 0 0 (mkF m 38 #[.val (.ref buf), .val (.int (Int32.ofNat (bs ++ own_idB (own_ib u0) u0).length)), .val (.int u0), .val (.int (Int32.ofNat n)), .val (.long xe), .second, .val (.int (own_ci (own_cc u0)))] [(.int (Int32.ofNat (bs ++ own_idB (own_ib u0) u0 ++ own_lenB (own_cc u0) (n + own_ex (own_cc u0) xe)).length))])
  refine B.retI d16_38 (by decide) (by decide) ?_
  have ee : bs ++ own_consB u0 n xe = bs ++ own_idB (own_ib u0) u0 ++ own_lenB (own_cc u0) (n + own_ex (own_cc u0) xe) := by rw [own_consB, List.append_assoc]
  exact ⟨by rw [ee], by rw [ee]; exact A2⟩
theorem d8_0 : decode method_16_code 0 = .ok (.iload_n 2, 1) := by decide +kernel
theorem d8_1 : decode method_16_code 1 = .ok (.sipush 223, 3) := by decide +kernel
theorem d8_4 : decode method_16_code 4 = .ok (.iand, 1) := by decide +kernel
theorem d8_5 : decode method_16_code 5 = .ok (.istore_n 3, 1) := by decide +kernel
theorem d8_6 : decode method_16_code 6 = .ok (.iload_n 3, 1) := by decide +kernel
theorem d8_7 : decode method_16_code 7 = .ok (.ifCond .ne 5, 3) := by decide +kernel
theorem d8_10 : decode method_16_code 10 = .ok (.iconst 5, 1) := by decide +kernel
theorem d8_11 : decode method_16_code 11 = .ok (.istore_n 3, 1) := by decide +kernel
theorem d8_12 : decode method_16_code 12 = .ok (.iload_n 2, 1) := by decide +kernel
theorem d8_13 : decode method_16_code 13 = .ok (.invokestatic 52, 3) := by decide +kernel
theorem d8_16 : decode method_16_code 16 = .ok (.istore 4, 2) := by decide +kernel
theorem d8_18 : decode method_16_code 18 = .ok (.aload_n 0, 1) := by decide +kernel
theorem d8_19 : decode method_16_code 19 = .ok (.iload_n 1, 1) := by decide +kernel
theorem d8_20 : decode method_16_code 20 = .ok (.iload_n 2, 1) := by decide +kernel
theorem d8_21 : decode method_16_code 21 = .ok (.iload_n 3, 1) := by decide +kernel
theorem d8_22 : decode method_16_code 22 = .ok (.invokestatic 74, 3) := by decide +kernel
theorem d8_25 : decode method_16_code 25 = .ok (.istore_n 1, 1) := by decide +kernel
theorem d8_26 : decode method_16_code 26 = .ok (.aload_n 0, 1) := by decide +kernel
theorem d8_27 : decode method_16_code 27 = .ok (.iload_n 1, 1) := by decide +kernel
theorem d8_28 : decode method_16_code 28 = .ok (.iload_n 2, 1) := by decide +kernel
theorem d8_29 : decode method_16_code 29 = .ok (.invokestatic 49, 3) := by decide +kernel
theorem d8_32 : decode method_16_code 32 = .ok (.iload 4, 2) := by decide +kernel
theorem d8_34 : decode method_16_code 34 = .ok (.i2l, 1) := by decide +kernel
theorem d8_35 : decode method_16_code 35 = .ok (.invokestatic 82, 3) := by decide +kernel
theorem d8_38 : decode method_16_code 38 = .ok (.istore_n 1, 1) := by decide +kernel
theorem d8_39 : decode method_16_code 39 = .ok (.iload 4, 2) := by decide +kernel
theorem d8_41 : decode method_16_code 41 = .ok (.iconst 1, 1) := by decide +kernel
theorem d8_42 : decode method_16_code 42 = .ok (.if_icmp .lt 14, 3) := by decide +kernel
theorem d8_45 : decode method_16_code 45 = .ok (.aload_n 0, 1) := by decide +kernel
theorem d8_46 : decode method_16_code 46 = .ok (.iload_n 1, 1) := by decide +kernel
theorem d8_47 : decode method_16_code 47 = .ok (.iload_n 2, 1) := by decide +kernel
theorem d8_48 : decode method_16_code 48 = .ok (.sipush 255, 3) := by decide +kernel
theorem d8_51 : decode method_16_code 51 = .ok (.iand, 1) := by decide +kernel
theorem d8_52 : decode method_16_code 52 = .ok (.invokestatic 13, 3) := by decide +kernel
theorem d8_55 : decode method_16_code 55 = .ok (.istore_n 1, 1) := by decide +kernel
theorem d8_56 : decode method_16_code 56 = .ok (.iload 4, 2) := by decide +kernel
theorem d8_58 : decode method_16_code 58 = .ok (.iconst 2, 1) := by decide +kernel
theorem d8_59 : decode method_16_code 59 = .ok (.if_icmp .lt 17, 3) := by decide +kernel
theorem d8_62 : decode method_16_code 62 = .ok (.aload_n 0, 1) := by decide +kernel
theorem d8_63 : decode method_16_code 63 = .ok (.iload_n 1, 1) := by decide +kernel
theorem d8_64 : decode method_16_code 64 = .ok (.iload_n 2, 1) := by decide +kernel
theorem d8_65 : decode method_16_code 65 = .ok (.bipush 8, 2) := by decide +kernel
theorem d8_67 : decode method_16_code 67 = .ok (.iushr, 1) := by decide +kernel
theorem d8_68 : decode method_16_code 68 = .ok (.sipush 255, 3) := by decide +kernel
theorem d8_71 : decode method_16_code 71 = .ok (.iand, 1) := by decide +kernel
theorem d8_72 : decode method_16_code 72 = .ok (.invokestatic 13, 3) := by decide +kernel
theorem d8_75 : decode method_16_code 75 = .ok (.istore_n 1, 1) := by decide +kernel
theorem d8_76 : decode method_16_code 76 = .ok (.iload_n 1, 1) := by decide +kernel
theorem d8_77 : decode method_16_code 77 = .ok (.ireturn, 1) := by decide +kernel
theorem pn_8 : plainFor (⟨"com/example/siegelwerk/siegelwerk/BerNestingDeeperThanPinLaw", "writePrim", "([BII)I"⟩ : MethodName) = true := by first | exact plainFor_of_name (by first | (simp [plainName, overriddenIn]; done) | decide +kernel) | decide +kernel
set_option maxRecDepth 65536 in
set_option maxHeartbeats 4000000 in
theorem rm_wp (l : Launch) (Z : State) (a0 : Array Value) (hw : ∀ d ∈ tables_1, d.before a0 Z = true) (buf : Addr) (bs : List Nat) (u0 : Int32) (h0 : Heap) (A : Ary Z h0 buf .byte (own_b (bs))) (hl : bs.length ≤ 200) :
    Met l Z (⟨"com/example/siegelwerk/siegelwerk/BerNestingDeeperThanPinLaw", "writePrim", "([BII)I"⟩ : MethodName) method_16_code 5 (some .int) [] ({ frames := 2, cells := 0, slots := 0, locals := 30 } : Room) #[(.ref buf), (.int (Int32.ofNat (bs.length))), (.int u0)] h0 [buf] (fun v h => v = some (.int (Int32.ofNat (bs ++ own_primB u0).length)) ∧ Ary Z h buf .byte (own_b (bs ++ own_primB u0))) := by
  refine Met.walk pn_8 (Ls := #[.val (.ref buf), .val (.int (Int32.ofNat (bs.length))), .val (.int u0), .unset, .unset]) (fun m => by first | (simp [entryFrame, mkF, argsToLocals, Value.category, maxLocals]; done) | rfl) ?_
  intro p e s m below meth c B
  refine B.iloadN 1 rfl d8_0 rfl ?_
  refine B.sipush 4 rfl (223 : Int32) d8_1 rfl ?_
  refine B.iand 5 rfl d8_4 ?_
  refine B.istoreN 6 rfl d8_5 #[.val (.ref buf), .val (.int (Int32.ofNat (bs.length))), .val (.int u0), .val (.int (u0 &&& (223 : Int32))), .unset] rfl ?_
  refine B.iloadN 7 rfl d8_6 rfl ?_
  refine B.if0_ne 12 10 rfl (by decide) rfl d8_7 (fun c7 => ?_) (fun c7 => ?_)
  · refine B.iloadN 13 rfl d8_12 rfl ?_
    refine B.callS 16 rfl d8_13 (wd hw 18 rfl) (wd hw 19 rfl) (wd hw 4 rfl) (wd hw 20 rfl) (by decide) [(.int u0)] [] (rm_pn l Z a0 hw u0 h0) rfl rfl pd__I_I rfl rfl 0 rfl (by decide) (by decide) (by decide) (by decide) (fun _ q => nomatch q) ?_
    rintro _ _ - ⟨rfl, rfl⟩
    show B.G h0 0 0 (mkF m 16 #[.val (.ref buf), .val (.int (Int32.ofNat (bs.length))), .val (.int u0), .val (.int (u0 &&& (223 : Int32))), .unset] [(.int (Int32.ofNat (own_pn u0)))])
    refine B.istore 18 rfl d8_16 #[.val (.ref buf), .val (.int (Int32.ofNat (bs.length))), .val (.int u0), .val (.int (u0 &&& (223 : Int32))), .val (.int (Int32.ofNat (own_pn u0)))] rfl ?_
    refine B.aloadN 19 rfl d8_18 rfl rfl ?_
    refine B.iloadN 20 rfl d8_19 rfl ?_
    refine B.iloadN 21 rfl d8_20 rfl ?_
    refine B.iloadN 22 rfl d8_21 rfl ?_
    refine B.topI (Int32.ofNat (own_pb u0)) (own_pid_n c7) ?_
    refine B.callS 25 rfl d8_22 (wd hw 27 rfl) (wd hw 28 rfl) (wd hw 4 rfl) (wd hw 29 rfl) (by decide) [(.ref buf), (.int (Int32.ofNat (bs.length))), (.int u0), (.int (Int32.ofNat (own_pb u0)))] [] (rm_wi l Z a0 hw buf bs u0 (own_pb u0) h0 A hl) rfl rfl pd___BIII_I rfl rfl 0 rfl (by decide) (by decide) (by decide) (by decide) (fun x z => Or.inl z) ?_
    rintro _ h1 K1 ⟨rfl, A1⟩
    show B.G h1 0 0 (mkF m 25 #[.val (.ref buf), .val (.int (Int32.ofNat (bs.length))), .val (.int u0), .val (.int (u0 &&& (223 : Int32))), .val (.int (Int32.ofNat (own_pn u0)))] [(.int (Int32.ofNat (bs ++ own_idB (own_pb u0) u0).length))])
    refine B.istoreN 26 rfl d8_25 #[.val (.ref buf), .val (.int (Int32.ofNat (bs ++ own_idB (own_pb u0) u0).length)), .val (.int u0), .val (.int (u0 &&& (223 : Int32))), .val (.int (Int32.ofNat (own_pn u0)))] rfl ?_
    refine B.aloadN 27 rfl d8_26 rfl rfl ?_
    refine B.iloadN 28 rfl d8_27 rfl ?_
    refine B.iloadN 29 rfl d8_28 rfl ?_
    refine B.callS 32 rfl d8_29 (wd hw 15 rfl) (wd hw 16 rfl) (wd hw 4 rfl) (wd hw 17 rfl) (by decide) [(.int u0)] [(.int (Int32.ofNat (bs ++ own_idB (own_pb u0) u0).length)), (.ref buf)] (rm_pc l Z a0 hw u0 h1) rfl rfl pd__I_I rfl rfl 2 rfl (by decide) (by decide) (by decide) (by decide) (fun _ q => nomatch q) ?_
    rintro _ _ - ⟨rfl, rfl⟩
    show B.G h1 0 0 (mkF m 32 #[.val (.ref buf), .val (.int (Int32.ofNat (bs ++ own_idB (own_pb u0) u0).length)), .val (.int u0), .val (.int (u0 &&& (223 : Int32))), .val (.int (Int32.ofNat (own_pn u0)))] [(.int (Int32.ofNat (own_pc u0))), (.int (Int32.ofNat (bs ++ own_idB (own_pb u0) u0).length)), (.ref buf)])
    refine B.iload 34 rfl d8_32 rfl ?_
    refine B.i2l 35 rfl d8_34 ?_
    refine B.topL (Int64.ofNat (own_pn u0)) (own_i2l _ (by have := own_pn_l u0; omega)) ?_
    refine B.callS 38 rfl d8_35 (wd hw 33 rfl) (wd hw 34 rfl) (wd hw 4 rfl) (wd hw 35 rfl) (by decide) [(.ref buf), (.int (Int32.ofNat (bs ++ own_idB (own_pb u0) u0).length)), (.int (Int32.ofNat (own_pc u0))), (.long (Int64.ofNat (own_pn u0)))] [] (rm_wl l Z a0 hw buf (bs ++ own_idB (own_pb u0) u0) (Int32.ofNat (own_pc u0)) (own_pc u0) (own_pn u0) h1 A1 (by have := own_il_l u0; rw [List.length_append, own_idL]; omega) (own_of_c (own_pc_f u0).2) (own_vbp (own_pn_l u0))) rfl rfl pd___BIIJ_I rfl rfl 0 rfl (by decide) (by decide) (by decide) (by decide) (fun x z => Or.inl z) ?_
    rintro _ h2 K2 ⟨rfl, A2⟩
    show B.G h2 0 0 (mkF m 38 #[.val (.ref buf), .val (.int (Int32.ofNat (bs ++ own_idB (own_pb u0) u0).length)), .val (.int u0), .val (.int (u0 &&& (223 : Int32))), .val (.int (Int32.ofNat (own_pn u0)))] [(.int (Int32.ofNat (bs ++ own_idB (own_pb u0) u0 ++ own_lenB (own_pc u0) (own_pn u0)).length))])
    refine B.istoreN 39 rfl d8_38 #[.val (.ref buf), .val (.int (Int32.ofNat (bs ++ own_idB (own_pb u0) u0 ++ own_lenB (own_pc u0) (own_pn u0)).length)), .val (.int u0), .val (.int (u0 &&& (223 : Int32))), .val (.int (Int32.ofNat (own_pn u0)))] rfl ?_
    rcases own_pn_c u0 with q | q | q
    · refine B.iload 41 rfl d8_39 rfl ?_
      refine B.iconst 42 rfl (1 : Int32) d8_41 rfl ?_
      refine B.icmp_lt 56 45 rfl (by decide) rfl d8_42 (fun c42 => ?_) (fun c42 => ?_)
      · refine B.iload 58 rfl d8_56 rfl ?_
        refine B.iconst 59 rfl (2 : Int32) d8_58 rfl ?_
        refine B.icmp_lt 76 62 rfl (by decide) rfl d8_59 (fun c59 => ?_) (fun c59 => ?_)
        · refine B.iloadN 77 rfl d8_76 rfl ?_
          refine B.retI d8_77 (by decide) (by decide) ?_
          have ee : bs ++ own_primB u0 = bs ++ own_idB (own_pb u0) u0 ++ own_lenB (own_pc u0) (own_pn u0) := by simp [own_primB, own_ct, q]
          exact ⟨by rw [ee], by rw [ee]; exact A2⟩
        · exact absurd c59 (by rw [q]; decide)
      · exact absurd c42 (by rw [q]; decide)
    · refine B.iload 41 rfl d8_39 rfl ?_
      refine B.iconst 42 rfl (1 : Int32) d8_41 rfl ?_
      refine B.icmp_lt 56 45 rfl (by decide) rfl d8_42 (fun c42 => ?_) (fun c42 => ?_)
      · exact absurd c42 (by rw [q]; decide)
      · refine B.aloadN 46 rfl d8_45 rfl rfl ?_
        refine B.iloadN 47 rfl d8_46 rfl ?_
        refine B.iloadN 48 rfl d8_47 rfl ?_
        refine B.sipush 51 rfl (255 : Int32) d8_48 rfl ?_
        refine B.iand 52 rfl d8_51 ?_
        refine B.topI (Int32.ofNat ((u0 &&& 255).toNatClampNeg)) (own_m255 u0) ?_
        refine B.callS 55 rfl d8_52 (wd hw 30 rfl) (wd hw 31 rfl) (wd hw 4 rfl) (wd hw 32 rfl) (by decide) [(.ref buf), (.int (Int32.ofNat (bs ++ own_idB (own_pb u0) u0 ++ own_lenB (own_pc u0) (own_pn u0)).length)), (.int (Int32.ofNat ((u0 &&& 255).toNatClampNeg)))] [] (rm_put l Z a0 hw buf (bs ++ own_idB (own_pb u0) u0 ++ own_lenB (own_pc u0) (own_pn u0)) ((u0 &&& 255).toNatClampNeg) h2 A2 (by have := own_il_l u0; have := (own_pc_f u0).2; simp only [List.length_append, List.length_cons, List.length_nil, own_idL, own_lenL (own_pc u0) (own_pn u0) (by omega)]; split <;> omega)) rfl rfl pd___BII_I rfl rfl 0 rfl (by decide) (by decide) (by decide) (by decide) (fun x z => Or.inl z) ?_
        rintro _ h3 K_h3 ⟨rfl, A3⟩
        show B.G h3 0 0 (mkF m 55 #[.val (.ref buf), .val (.int (Int32.ofNat (bs ++ own_idB (own_pb u0) u0 ++ own_lenB (own_pc u0) (own_pn u0)).length)), .val (.int u0), .val (.int (u0 &&& (223 : Int32))), .val (.int (Int32.ofNat (own_pn u0)))] [(.int (Int32.ofNat (bs ++ own_idB (own_pb u0) u0 ++ own_lenB (own_pc u0) (own_pn u0) ++ [(u0 &&& 255).toNatClampNeg]).length))])
        refine B.istoreN 56 rfl d8_55 #[.val (.ref buf), .val (.int (Int32.ofNat (bs ++ own_idB (own_pb u0) u0 ++ own_lenB (own_pc u0) (own_pn u0) ++ [(u0 &&& 255).toNatClampNeg]).length)), .val (.int u0), .val (.int (u0 &&& (223 : Int32))), .val (.int (Int32.ofNat (own_pn u0)))] rfl ?_
        refine B.iload 58 rfl d8_56 rfl ?_
        refine B.iconst 59 rfl (2 : Int32) d8_58 rfl ?_
        refine B.icmp_lt 76 62 rfl (by decide) rfl d8_59 (fun c59 => ?_) (fun c59 => ?_)
        · refine B.iloadN 77 rfl d8_76 rfl ?_
          refine B.retI d8_77 (by decide) (by decide) ?_
          have ee : bs ++ own_primB u0 = bs ++ own_idB (own_pb u0) u0 ++ own_lenB (own_pc u0) (own_pn u0) ++ [(u0 &&& 255).toNatClampNeg] := by simp [own_primB, own_ct, q]
          exact ⟨by rw [ee], by rw [ee]; exact A3⟩
        · exact absurd c59 (by rw [q]; decide)
    · refine B.iload 41 rfl d8_39 rfl ?_
      refine B.iconst 42 rfl (1 : Int32) d8_41 rfl ?_
      refine B.icmp_lt 56 45 rfl (by decide) rfl d8_42 (fun c42 => ?_) (fun c42 => ?_)
      · exact absurd c42 (by rw [q]; decide)
      · refine B.aloadN 46 rfl d8_45 rfl rfl ?_
        refine B.iloadN 47 rfl d8_46 rfl ?_
        refine B.iloadN 48 rfl d8_47 rfl ?_
        refine B.sipush 51 rfl (255 : Int32) d8_48 rfl ?_
        refine B.iand 52 rfl d8_51 ?_
        refine B.topI (Int32.ofNat ((u0 &&& 255).toNatClampNeg)) (own_m255 u0) ?_
        refine B.callS 55 rfl d8_52 (wd hw 30 rfl) (wd hw 31 rfl) (wd hw 4 rfl) (wd hw 32 rfl) (by decide) [(.ref buf), (.int (Int32.ofNat (bs ++ own_idB (own_pb u0) u0 ++ own_lenB (own_pc u0) (own_pn u0)).length)), (.int (Int32.ofNat ((u0 &&& 255).toNatClampNeg)))] [] (rm_put l Z a0 hw buf (bs ++ own_idB (own_pb u0) u0 ++ own_lenB (own_pc u0) (own_pn u0)) ((u0 &&& 255).toNatClampNeg) h2 A2 (by have := own_il_l u0; have := (own_pc_f u0).2; simp only [List.length_append, List.length_cons, List.length_nil, own_idL, own_lenL (own_pc u0) (own_pn u0) (by omega)]; split <;> omega)) rfl rfl pd___BII_I rfl rfl 0 rfl (by decide) (by decide) (by decide) (by decide) (fun x z => Or.inl z) ?_
        rintro _ h3 K_h3 ⟨rfl, A3⟩
        show B.G h3 0 0 (mkF m 55 #[.val (.ref buf), .val (.int (Int32.ofNat (bs ++ own_idB (own_pb u0) u0 ++ own_lenB (own_pc u0) (own_pn u0)).length)), .val (.int u0), .val (.int (u0 &&& (223 : Int32))), .val (.int (Int32.ofNat (own_pn u0)))] [(.int (Int32.ofNat (bs ++ own_idB (own_pb u0) u0 ++ own_lenB (own_pc u0) (own_pn u0) ++ [(u0 &&& 255).toNatClampNeg]).length))])
        refine B.istoreN 56 rfl d8_55 #[.val (.ref buf), .val (.int (Int32.ofNat (bs ++ own_idB (own_pb u0) u0 ++ own_lenB (own_pc u0) (own_pn u0) ++ [(u0 &&& 255).toNatClampNeg]).length)), .val (.int u0), .val (.int (u0 &&& (223 : Int32))), .val (.int (Int32.ofNat (own_pn u0)))] rfl ?_
        refine B.iload 58 rfl d8_56 rfl ?_
        refine B.iconst 59 rfl (2 : Int32) d8_58 rfl ?_
        refine B.icmp_lt 76 62 rfl (by decide) rfl d8_59 (fun c59 => ?_) (fun c59 => ?_)
        · exact absurd c59 (by rw [q]; decide)
        · refine B.aloadN 63 rfl d8_62 rfl rfl ?_
          refine B.iloadN 64 rfl d8_63 rfl ?_
          refine B.iloadN 65 rfl d8_64 rfl ?_
          refine B.bipush 67 rfl (8 : Int32) d8_65 rfl ?_
          refine B.iushr 68 rfl d8_67 ?_
          refine B.sipush 71 rfl (255 : Int32) d8_68 rfl ?_
          refine B.iand 72 rfl d8_71 ?_
          refine B.topI (Int32.ofNat ((XT.ushr u0 8 &&& 255).toNatClampNeg)) (own_m255 (XT.ushr u0 8)) ?_
          refine B.callS 75 rfl d8_72 (wd hw 30 rfl) (wd hw 31 rfl) (wd hw 4 rfl) (wd hw 32 rfl) (by decide) [(.ref buf), (.int (Int32.ofNat (bs ++ own_idB (own_pb u0) u0 ++ own_lenB (own_pc u0) (own_pn u0) ++ [(u0 &&& 255).toNatClampNeg]).length)), (.int (Int32.ofNat ((XT.ushr u0 8 &&& 255).toNatClampNeg)))] [] (rm_put l Z a0 hw buf (bs ++ own_idB (own_pb u0) u0 ++ own_lenB (own_pc u0) (own_pn u0) ++ [(u0 &&& 255).toNatClampNeg]) ((XT.ushr u0 8 &&& 255).toNatClampNeg) h3 A3 (by have := own_il_l u0; have := (own_pc_f u0).2; simp only [List.length_append, List.length_cons, List.length_nil, own_idL, own_lenL (own_pc u0) (own_pn u0) (by omega)]; split <;> omega)) rfl rfl pd___BII_I rfl rfl 0 rfl (by decide) (by decide) (by decide) (by decide) (fun x z => Or.inl z) ?_
          rintro _ h4 K_h4 ⟨rfl, A4⟩
          show B.G h4 0 0 (mkF m 75 #[.val (.ref buf), .val (.int (Int32.ofNat (bs ++ own_idB (own_pb u0) u0 ++ own_lenB (own_pc u0) (own_pn u0) ++ [(u0 &&& 255).toNatClampNeg]).length)), .val (.int u0), .val (.int (u0 &&& (223 : Int32))), .val (.int (Int32.ofNat (own_pn u0)))] [(.int (Int32.ofNat (bs ++ own_idB (own_pb u0) u0 ++ own_lenB (own_pc u0) (own_pn u0) ++ [(u0 &&& 255).toNatClampNeg] ++ [(XT.ushr u0 8 &&& 255).toNatClampNeg]).length))])
          refine B.istoreN 76 rfl d8_75 #[.val (.ref buf), .val (.int (Int32.ofNat (bs ++ own_idB (own_pb u0) u0 ++ own_lenB (own_pc u0) (own_pn u0) ++ [(u0 &&& 255).toNatClampNeg] ++ [(XT.ushr u0 8 &&& 255).toNatClampNeg]).length)), .val (.int u0), .val (.int (u0 &&& (223 : Int32))), .val (.int (Int32.ofNat (own_pn u0)))] rfl ?_
          refine B.iloadN 77 rfl d8_76 rfl ?_
          refine B.retI d8_77 (by decide) (by decide) ?_
          have ee : bs ++ own_primB u0 = bs ++ own_idB (own_pb u0) u0 ++ own_lenB (own_pc u0) (own_pn u0) ++ [(u0 &&& 255).toNatClampNeg] ++ [(XT.ushr u0 8 &&& 255).toNatClampNeg] := by simp [own_primB, own_ct, q]
          exact ⟨by rw [ee], by rw [ee]; exact A4⟩
  · refine B.iconst 11 rfl (5 : Int32) d8_10 rfl ?_
    refine B.istoreN 12 rfl d8_11 #[.val (.ref buf), .val (.int (Int32.ofNat (bs.length))), .val (.int u0), .val (.int (5 : Int32)), .unset] rfl ?_
    refine B.iloadN 13 rfl d8_12 rfl ?_
    refine B.callS 16 rfl d8_13 (wd hw 18 rfl) (wd hw 19 rfl) (wd hw 4 rfl) (wd hw 20 rfl) (by decide) [(.int u0)] [] (rm_pn l Z a0 hw u0 h0) rfl rfl pd__I_I rfl rfl 0 rfl (by decide) (by decide) (by decide) (by decide) (fun _ q => nomatch q) ?_
    rintro _ _ - ⟨rfl, rfl⟩
    show B.G h0 0 0 (mkF m 16 #[.val (.ref buf), .val (.int (Int32.ofNat (bs.length))), .val (.int u0), .val (.int (5 : Int32)), .unset] [(.int (Int32.ofNat (own_pn u0)))])
    refine B.istore 18 rfl d8_16 #[.val (.ref buf), .val (.int (Int32.ofNat (bs.length))), .val (.int u0), .val (.int (5 : Int32)), .val (.int (Int32.ofNat (own_pn u0)))] rfl ?_
    refine B.aloadN 19 rfl d8_18 rfl rfl ?_
    refine B.iloadN 20 rfl d8_19 rfl ?_
    refine B.iloadN 21 rfl d8_20 rfl ?_
    refine B.iloadN 22 rfl d8_21 rfl ?_
    refine B.topI (Int32.ofNat (own_pb u0)) (own_pid_z c7) ?_
    refine B.callS 25 rfl d8_22 (wd hw 27 rfl) (wd hw 28 rfl) (wd hw 4 rfl) (wd hw 29 rfl) (by decide) [(.ref buf), (.int (Int32.ofNat (bs.length))), (.int u0), (.int (Int32.ofNat (own_pb u0)))] [] (rm_wi l Z a0 hw buf bs u0 (own_pb u0) h0 A hl) rfl rfl pd___BIII_I rfl rfl 0 rfl (by decide) (by decide) (by decide) (by decide) (fun x z => Or.inl z) ?_
    rintro _ h1 K1 ⟨rfl, A1⟩
    show B.G h1 0 0 (mkF m 25 #[.val (.ref buf), .val (.int (Int32.ofNat (bs.length))), .val (.int u0), .val (.int (5 : Int32)), .val (.int (Int32.ofNat (own_pn u0)))] [(.int (Int32.ofNat (bs ++ own_idB (own_pb u0) u0).length))])
    refine B.istoreN 26 rfl d8_25 #[.val (.ref buf), .val (.int (Int32.ofNat (bs ++ own_idB (own_pb u0) u0).length)), .val (.int u0), .val (.int (5 : Int32)), .val (.int (Int32.ofNat (own_pn u0)))] rfl ?_
    refine B.aloadN 27 rfl d8_26 rfl rfl ?_
    refine B.iloadN 28 rfl d8_27 rfl ?_
    refine B.iloadN 29 rfl d8_28 rfl ?_
    refine B.callS 32 rfl d8_29 (wd hw 15 rfl) (wd hw 16 rfl) (wd hw 4 rfl) (wd hw 17 rfl) (by decide) [(.int u0)] [(.int (Int32.ofNat (bs ++ own_idB (own_pb u0) u0).length)), (.ref buf)] (rm_pc l Z a0 hw u0 h1) rfl rfl pd__I_I rfl rfl 2 rfl (by decide) (by decide) (by decide) (by decide) (fun _ q => nomatch q) ?_
    rintro _ _ - ⟨rfl, rfl⟩
    show B.G h1 0 0 (mkF m 32 #[.val (.ref buf), .val (.int (Int32.ofNat (bs ++ own_idB (own_pb u0) u0).length)), .val (.int u0), .val (.int (5 : Int32)), .val (.int (Int32.ofNat (own_pn u0)))] [(.int (Int32.ofNat (own_pc u0))), (.int (Int32.ofNat (bs ++ own_idB (own_pb u0) u0).length)), (.ref buf)])
    refine B.iload 34 rfl d8_32 rfl ?_
    refine B.i2l 35 rfl d8_34 ?_
    refine B.topL (Int64.ofNat (own_pn u0)) (own_i2l _ (by have := own_pn_l u0; omega)) ?_
    refine B.callS 38 rfl d8_35 (wd hw 33 rfl) (wd hw 34 rfl) (wd hw 4 rfl) (wd hw 35 rfl) (by decide) [(.ref buf), (.int (Int32.ofNat (bs ++ own_idB (own_pb u0) u0).length)), (.int (Int32.ofNat (own_pc u0))), (.long (Int64.ofNat (own_pn u0)))] [] (rm_wl l Z a0 hw buf (bs ++ own_idB (own_pb u0) u0) (Int32.ofNat (own_pc u0)) (own_pc u0) (own_pn u0) h1 A1 (by have := own_il_l u0; rw [List.length_append, own_idL]; omega) (own_of_c (own_pc_f u0).2) (own_vbp (own_pn_l u0))) rfl rfl pd___BIIJ_I rfl rfl 0 rfl (by decide) (by decide) (by decide) (by decide) (fun x z => Or.inl z) ?_
    rintro _ h2 K2 ⟨rfl, A2⟩
    show B.G h2 0 0 (mkF m 38 #[.val (.ref buf), .val (.int (Int32.ofNat (bs ++ own_idB (own_pb u0) u0).length)), .val (.int u0), .val (.int (5 : Int32)), .val (.int (Int32.ofNat (own_pn u0)))] [(.int (Int32.ofNat (bs ++ own_idB (own_pb u0) u0 ++ own_lenB (own_pc u0) (own_pn u0)).length))])
    refine B.istoreN 39 rfl d8_38 #[.val (.ref buf), .val (.int (Int32.ofNat (bs ++ own_idB (own_pb u0) u0 ++ own_lenB (own_pc u0) (own_pn u0)).length)), .val (.int u0), .val (.int (5 : Int32)), .val (.int (Int32.ofNat (own_pn u0)))] rfl ?_
    rcases own_pn_c u0 with q | q | q
    · refine B.iload 41 rfl d8_39 rfl ?_
      refine B.iconst 42 rfl (1 : Int32) d8_41 rfl ?_
      refine B.icmp_lt 56 45 rfl (by decide) rfl d8_42 (fun c42 => ?_) (fun c42 => ?_)
      · refine B.iload 58 rfl d8_56 rfl ?_
        refine B.iconst 59 rfl (2 : Int32) d8_58 rfl ?_
        refine B.icmp_lt 76 62 rfl (by decide) rfl d8_59 (fun c59 => ?_) (fun c59 => ?_)
        · refine B.iloadN 77 rfl d8_76 rfl ?_
          refine B.retI d8_77 (by decide) (by decide) ?_
          have ee : bs ++ own_primB u0 = bs ++ own_idB (own_pb u0) u0 ++ own_lenB (own_pc u0) (own_pn u0) := by simp [own_primB, own_ct, q]
          exact ⟨by rw [ee], by rw [ee]; exact A2⟩
        · exact absurd c59 (by rw [q]; decide)
      · exact absurd c42 (by rw [q]; decide)
    · refine B.iload 41 rfl d8_39 rfl ?_
      refine B.iconst 42 rfl (1 : Int32) d8_41 rfl ?_
      refine B.icmp_lt 56 45 rfl (by decide) rfl d8_42 (fun c42 => ?_) (fun c42 => ?_)
      · exact absurd c42 (by rw [q]; decide)
      · refine B.aloadN 46 rfl d8_45 rfl rfl ?_
        refine B.iloadN 47 rfl d8_46 rfl ?_
        refine B.iloadN 48 rfl d8_47 rfl ?_
        refine B.sipush 51 rfl (255 : Int32) d8_48 rfl ?_
        refine B.iand 52 rfl d8_51 ?_
        refine B.topI (Int32.ofNat ((u0 &&& 255).toNatClampNeg)) (own_m255 u0) ?_
        refine B.callS 55 rfl d8_52 (wd hw 30 rfl) (wd hw 31 rfl) (wd hw 4 rfl) (wd hw 32 rfl) (by decide) [(.ref buf), (.int (Int32.ofNat (bs ++ own_idB (own_pb u0) u0 ++ own_lenB (own_pc u0) (own_pn u0)).length)), (.int (Int32.ofNat ((u0 &&& 255).toNatClampNeg)))] [] (rm_put l Z a0 hw buf (bs ++ own_idB (own_pb u0) u0 ++ own_lenB (own_pc u0) (own_pn u0)) ((u0 &&& 255).toNatClampNeg) h2 A2 (by have := own_il_l u0; have := (own_pc_f u0).2; simp only [List.length_append, List.length_cons, List.length_nil, own_idL, own_lenL (own_pc u0) (own_pn u0) (by omega)]; split <;> omega)) rfl rfl pd___BII_I rfl rfl 0 rfl (by decide) (by decide) (by decide) (by decide) (fun x z => Or.inl z) ?_
        rintro _ h3 K_h3 ⟨rfl, A3⟩
        show B.G h3 0 0 (mkF m 55 #[.val (.ref buf), .val (.int (Int32.ofNat (bs ++ own_idB (own_pb u0) u0 ++ own_lenB (own_pc u0) (own_pn u0)).length)), .val (.int u0), .val (.int (5 : Int32)), .val (.int (Int32.ofNat (own_pn u0)))] [(.int (Int32.ofNat (bs ++ own_idB (own_pb u0) u0 ++ own_lenB (own_pc u0) (own_pn u0) ++ [(u0 &&& 255).toNatClampNeg]).length))])
        refine B.istoreN 56 rfl d8_55 #[.val (.ref buf), .val (.int (Int32.ofNat (bs ++ own_idB (own_pb u0) u0 ++ own_lenB (own_pc u0) (own_pn u0) ++ [(u0 &&& 255).toNatClampNeg]).length)), .val (.int u0), .val (.int (5 : Int32)), .val (.int (Int32.ofNat (own_pn u0)))] rfl ?_
        refine B.iload 58 rfl d8_56 rfl ?_
        refine B.iconst 59 rfl (2 : Int32) d8_58 rfl ?_
        refine B.icmp_lt 76 62 rfl (by decide) rfl d8_59 (fun c59 => ?_) (fun c59 => ?_)
        · refine B.iloadN 77 rfl d8_76 rfl ?_
          refine B.retI d8_77 (by decide) (by decide) ?_
          have ee : bs ++ own_primB u0 = bs ++ own_idB (own_pb u0) u0 ++ own_lenB (own_pc u0) (own_pn u0) ++ [(u0 &&& 255).toNatClampNeg] := by simp [own_primB, own_ct, q]
          exact ⟨by rw [ee], by rw [ee]; exact A3⟩
        · exact absurd c59 (by rw [q]; decide)
    · refine B.iload 41 rfl d8_39 rfl ?_
      refine B.iconst 42 rfl (1 : Int32) d8_41 rfl ?_
      refine B.icmp_lt 56 45 rfl (by decide) rfl d8_42 (fun c42 => ?_) (fun c42 => ?_)
      · exact absurd c42 (by rw [q]; decide)
      · refine B.aloadN 46 rfl d8_45 rfl rfl ?_
        refine B.iloadN 47 rfl d8_46 rfl ?_
        refine B.iloadN 48 rfl d8_47 rfl ?_
        refine B.sipush 51 rfl (255 : Int32) d8_48 rfl ?_
        refine B.iand 52 rfl d8_51 ?_
        refine B.topI (Int32.ofNat ((u0 &&& 255).toNatClampNeg)) (own_m255 u0) ?_
        refine B.callS 55 rfl d8_52 (wd hw 30 rfl) (wd hw 31 rfl) (wd hw 4 rfl) (wd hw 32 rfl) (by decide) [(.ref buf), (.int (Int32.ofNat (bs ++ own_idB (own_pb u0) u0 ++ own_lenB (own_pc u0) (own_pn u0)).length)), (.int (Int32.ofNat ((u0 &&& 255).toNatClampNeg)))] [] (rm_put l Z a0 hw buf (bs ++ own_idB (own_pb u0) u0 ++ own_lenB (own_pc u0) (own_pn u0)) ((u0 &&& 255).toNatClampNeg) h2 A2 (by have := own_il_l u0; have := (own_pc_f u0).2; simp only [List.length_append, List.length_cons, List.length_nil, own_idL, own_lenL (own_pc u0) (own_pn u0) (by omega)]; split <;> omega)) rfl rfl pd___BII_I rfl rfl 0 rfl (by decide) (by decide) (by decide) (by decide) (fun x z => Or.inl z) ?_
        rintro _ h3 K_h3 ⟨rfl, A3⟩
        show B.G h3 0 0 (mkF m 55 #[.val (.ref buf), .val (.int (Int32.ofNat (bs ++ own_idB (own_pb u0) u0 ++ own_lenB (own_pc u0) (own_pn u0)).length)), .val (.int u0), .val (.int (5 : Int32)), .val (.int (Int32.ofNat (own_pn u0)))] [(.int (Int32.ofNat (bs ++ own_idB (own_pb u0) u0 ++ own_lenB (own_pc u0) (own_pn u0) ++ [(u0 &&& 255).toNatClampNeg]).length))])
        refine B.istoreN 56 rfl d8_55 #[.val (.ref buf), .val (.int (Int32.ofNat (bs ++ own_idB (own_pb u0) u0 ++ own_lenB (own_pc u0) (own_pn u0) ++ [(u0 &&& 255).toNatClampNeg]).length)), .val (.int u0), .val (.int (5 : Int32)), .val (.int (Int32.ofNat (own_pn u0)))] rfl ?_
        refine B.iload 58 rfl d8_56 rfl ?_
        refine B.iconst 59 rfl (2 : Int32) d8_58 rfl ?_
        refine B.icmp_lt 76 62 rfl (by decide) rfl d8_59 (fun c59 => ?_) (fun c59 => ?_)
        · exact absurd c59 (by rw [q]; decide)
        · refine B.aloadN 63 rfl d8_62 rfl rfl ?_
          refine B.iloadN 64 rfl d8_63 rfl ?_
          refine B.iloadN 65 rfl d8_64 rfl ?_
          refine B.bipush 67 rfl (8 : Int32) d8_65 rfl ?_
          refine B.iushr 68 rfl d8_67 ?_
          refine B.sipush 71 rfl (255 : Int32) d8_68 rfl ?_
          refine B.iand 72 rfl d8_71 ?_
          refine B.topI (Int32.ofNat ((XT.ushr u0 8 &&& 255).toNatClampNeg)) (own_m255 (XT.ushr u0 8)) ?_
          refine B.callS 75 rfl d8_72 (wd hw 30 rfl) (wd hw 31 rfl) (wd hw 4 rfl) (wd hw 32 rfl) (by decide) [(.ref buf), (.int (Int32.ofNat (bs ++ own_idB (own_pb u0) u0 ++ own_lenB (own_pc u0) (own_pn u0) ++ [(u0 &&& 255).toNatClampNeg]).length)), (.int (Int32.ofNat ((XT.ushr u0 8 &&& 255).toNatClampNeg)))] [] (rm_put l Z a0 hw buf (bs ++ own_idB (own_pb u0) u0 ++ own_lenB (own_pc u0) (own_pn u0) ++ [(u0 &&& 255).toNatClampNeg]) ((XT.ushr u0 8 &&& 255).toNatClampNeg) h3 A3 (by have := own_il_l u0; have := (own_pc_f u0).2; simp only [List.length_append, List.length_cons, List.length_nil, own_idL, own_lenL (own_pc u0) (own_pn u0) (by omega)]; split <;> omega)) rfl rfl pd___BII_I rfl rfl 0 rfl (by decide) (by decide) (by decide) (by decide) (fun x z => Or.inl z) ?_
          rintro _ h4 K_h4 ⟨rfl, A4⟩
          show B.G h4 0 0 (mkF m 75 #[.val (.ref buf), .val (.int (Int32.ofNat (bs ++ own_idB (own_pb u0) u0 ++ own_lenB (own_pc u0) (own_pn u0) ++ [(u0 &&& 255).toNatClampNeg]).length)), .val (.int u0), .val (.int (5 : Int32)), .val (.int (Int32.ofNat (own_pn u0)))] [(.int (Int32.ofNat (bs ++ own_idB (own_pb u0) u0 ++ own_lenB (own_pc u0) (own_pn u0) ++ [(u0 &&& 255).toNatClampNeg] ++ [(XT.ushr u0 8 &&& 255).toNatClampNeg]).length))])
          refine B.istoreN 76 rfl d8_75 #[.val (.ref buf), .val (.int (Int32.ofNat (bs ++ own_idB (own_pb u0) u0 ++ own_lenB (own_pc u0) (own_pn u0) ++ [(u0 &&& 255).toNatClampNeg] ++ [(XT.ushr u0 8 &&& 255).toNatClampNeg]).length)), .val (.int u0), .val (.int (5 : Int32)), .val (.int (Int32.ofNat (own_pn u0)))] rfl ?_
          refine B.iloadN 77 rfl d8_76 rfl ?_
          refine B.retI d8_77 (by decide) (by decide) ?_
          have ee : bs ++ own_primB u0 = bs ++ own_idB (own_pb u0) u0 ++ own_lenB (own_pc u0) (own_pn u0) ++ [(u0 &&& 255).toNatClampNeg] ++ [(XT.ushr u0 8 &&& 255).toNatClampNeg] := by simp [own_primB, own_ct, q]
          exact ⟨by rw [ee], by rw [ee]; exact A4⟩
theorem d18_0 : decode method_17_code 0 = .ok (.aload_n 0, 1) := by decide +kernel
theorem d18_1 : decode method_17_code 1 = .ok (.iload_n 1, 1) := by decide +kernel
theorem d18_2 : decode method_17_code 2 = .ok (.iaload, 1) := by decide +kernel
theorem d18_3 : decode method_17_code 3 = .ok (.ifCond .ne 7, 3) := by decide +kernel
theorem d18_6 : decode method_17_code 6 = .ok (.aload_n 0, 1) := by decide +kernel
theorem d18_7 : decode method_17_code 7 = .ok (.iload_n 1, 1) := by decide +kernel
theorem d18_8 : decode method_17_code 8 = .ok (.iload_n 2, 1) := by decide +kernel
theorem d18_9 : decode method_17_code 9 = .ok (.iastore, 1) := by decide +kernel
theorem d18_10 : decode method_17_code 10 = .ok (.return_, 1) := by decide +kernel
theorem pn_18 : plainFor (⟨"com/example/siegelwerk/siegelwerk/BerNestingDeeperThanPinLaw", "mark", "([III)V"⟩ : MethodName) = true := by first | exact plainFor_of_name (by first | (simp [plainName, overriddenIn]; done) | decide +kernel) | decide +kernel
set_option maxRecDepth 65536 in
set_option maxHeartbeats 4000000 in
theorem rm_mk (l : Launch) (Z : State) (a0 : Array Value) (hw : ∀ d ∈ tables_1, d.before a0 Z = true) (fa : Addr) (fs : Nat → Nat) (dn pn : Nat) (h0 : Heap) (A : Ary Z h0 fa .int (own_fv fs)) (hd : dn < 6) (hf : ∀ i, fs i ≤ 300) :
    Met l Z (⟨"com/example/siegelwerk/siegelwerk/BerNestingDeeperThanPinLaw", "mark", "([III)V"⟩ : MethodName) method_17_code 3 none [] ({ frames := 0, cells := 0, slots := 0, locals := 0 } : Room) #[(.ref fa), (.int (Int32.ofNat dn)), (.int (Int32.ofNat pn))] h0 [fa] (fun v h => v = none ∧ Ary Z h fa .int (own_fv (own_mk fs dn pn))) := by
  refine Met.walk pn_18 (Ls := #[.val (.ref fa), .val (.int (Int32.ofNat dn)), .val (.int (Int32.ofNat pn))]) (fun m => by first | (simp [entryFrame, mkF, argsToLocals, Value.category, maxLocals]; done) | rfl) ?_
  intro p e s m below meth c B
  refine B.aloadN 1 rfl d18_0 rfl rfl ?_
  refine B.iloadN 2 rfl d18_1 rfl ?_
  refine B.iaload 3 rfl d18_2 A (own_nn dn (by omega)).1 dn (own_nn dn (by omega)).2 (.int (Int32.ofNat (fs dn))) (own_fv_get fs dn hd) ?_
  refine B.if0_ne 10 6 rfl (by decide) rfl d18_3 (fun c3 => ?_) (fun c3 => ?_)
  · refine B.ret0 d18_10 (by decide) (by decide) ?_
    exact ⟨rfl, by rw [own_mk_no (fun z => c3 (by rw [z]; rfl))]; exact A⟩
  · refine B.aloadN 7 rfl d18_6 rfl rfl ?_
    refine B.iloadN 8 rfl d18_7 rfl ?_
    refine B.iloadN 9 rfl d18_8 rfl ?_
    refine B.iastore 10 rfl d18_9 A (own_nn dn (by omega)).1 dn (own_nn dn (by omega)).2 (by rw [own_fv_len]; exact hd) (Or.inl (by simp)) ?_
    intro h1 W1 A1
    rw [own_fv_set fs dn pn hd ((own_inj _ 0 (by have := hf dn; omega) (by omega)).mp c3)] at A1
    refine B.ret0 d18_10 (by decide) (by decide) ?_
    exact ⟨rfl, A1⟩
theorem d7_0 : decode method_18_code 0 = .ok (.iload 6, 2) := by decide +kernel
theorem d7_2 : decode method_18_code 2 = .ok (.invokestatic 58, 3) := by decide +kernel
theorem d7_5 : decode method_18_code 5 = .ok (.istore 8, 2) := by decide +kernel
theorem d7_7 : decode method_18_code 7 = .ok (.iload 7, 2) := by decide +kernel
theorem d7_9 : decode method_18_code 9 = .ok (.iconst 2, 1) := by decide +kernel
theorem d7_10 : decode method_18_code 10 = .ok (.if_icmp .ne 13, 3) := by decide +kernel
theorem d7_13 : decode method_18_code 13 = .ok (.iload 5, 2) := by decide +kernel
theorem d7_15 : decode method_18_code 15 = .ok (.iload 8, 2) := by decide +kernel
theorem d7_17 : decode method_18_code 17 = .ok (.invokestatic 61, 3) := by decide +kernel
theorem d7_20 : decode method_18_code 20 = .ok (.goto 5, 3) := by decide +kernel
theorem d7_23 : decode method_18_code 23 = .ok (.iload 8, 2) := by decide +kernel
theorem d7_25 : decode method_18_code 25 = .ok (.istore 9, 2) := by decide +kernel
theorem d7_27 : decode method_18_code 27 = .ok (.iload 7, 2) := by decide +kernel
theorem d7_29 : decode method_18_code 29 = .ok (.iconst 1, 1) := by decide +kernel
theorem d7_30 : decode method_18_code 30 = .ok (.if_icmp .lt 22, 3) := by decide +kernel
theorem d7_33 : decode method_18_code 33 = .ok (.aload_n 0, 1) := by decide +kernel
theorem d7_34 : decode method_18_code 34 = .ok (.iload_n 2, 1) := by decide +kernel
theorem d7_35 : decode method_18_code 35 = .ok (.iload 4, 2) := by decide +kernel
theorem d7_37 : decode method_18_code 37 = .ok (.iload 9, 2) := by decide +kernel
theorem d7_39 : decode method_18_code 39 = .ok (.lconst 0, 1) := by decide +kernel
theorem d7_40 : decode method_18_code 40 = .ok (.invokestatic 17, 3) := by decide +kernel
theorem d7_43 : decode method_18_code 43 = .ok (.istore_n 2, 1) := by decide +kernel
theorem d7_44 : decode method_18_code 44 = .ok (.aload_n 1, 1) := by decide +kernel
theorem d7_45 : decode method_18_code 45 = .ok (.iload_n 3, 1) := by decide +kernel
theorem d7_46 : decode method_18_code 46 = .ok (.iconst 1, 1) := by decide +kernel
theorem d7_47 : decode method_18_code 47 = .ok (.iadd, 1) := by decide +kernel
theorem d7_48 : decode method_18_code 48 = .ok (.iload_n 2, 1) := by decide +kernel
theorem d7_49 : decode method_18_code 49 = .ok (.invokestatic 21, 3) := by decide +kernel
theorem d7_52 : decode method_18_code 52 = .ok (.iload 7, 2) := by decide +kernel
theorem d7_54 : decode method_18_code 54 = .ok (.iconst 2, 1) := by decide +kernel
theorem d7_55 : decode method_18_code 55 = .ok (.if_icmp .ne 22, 3) := by decide +kernel
theorem d7_58 : decode method_18_code 58 = .ok (.aload_n 0, 1) := by decide +kernel
theorem d7_59 : decode method_18_code 59 = .ok (.iload_n 2, 1) := by decide +kernel
theorem d7_60 : decode method_18_code 60 = .ok (.iload 5, 2) := by decide +kernel
theorem d7_62 : decode method_18_code 62 = .ok (.iload 8, 2) := by decide +kernel
theorem d7_64 : decode method_18_code 64 = .ok (.lconst 0, 1) := by decide +kernel
theorem d7_65 : decode method_18_code 65 = .ok (.invokestatic 17, 3) := by decide +kernel
theorem d7_68 : decode method_18_code 68 = .ok (.istore_n 2, 1) := by decide +kernel
theorem d7_69 : decode method_18_code 69 = .ok (.aload_n 1, 1) := by decide +kernel
theorem d7_70 : decode method_18_code 70 = .ok (.iload_n 3, 1) := by decide +kernel
theorem d7_71 : decode method_18_code 71 = .ok (.iconst 2, 1) := by decide +kernel
theorem d7_72 : decode method_18_code 72 = .ok (.iadd, 1) := by decide +kernel
theorem d7_73 : decode method_18_code 73 = .ok (.iload_n 2, 1) := by decide +kernel
theorem d7_74 : decode method_18_code 74 = .ok (.invokestatic 21, 3) := by decide +kernel
theorem d7_77 : decode method_18_code 77 = .ok (.aload_n 0, 1) := by decide +kernel
theorem d7_78 : decode method_18_code 78 = .ok (.iload_n 2, 1) := by decide +kernel
theorem d7_79 : decode method_18_code 79 = .ok (.iload 6, 2) := by decide +kernel
theorem d7_81 : decode method_18_code 81 = .ok (.invokestatic 86, 3) := by decide +kernel
theorem d7_84 : decode method_18_code 84 = .ok (.istore_n 2, 1) := by decide +kernel
theorem d7_85 : decode method_18_code 85 = .ok (.iload 7, 2) := by decide +kernel
theorem d7_87 : decode method_18_code 87 = .ok (.iconst 2, 1) := by decide +kernel
theorem d7_88 : decode method_18_code 88 = .ok (.if_icmp .ne 14, 3) := by decide +kernel
theorem d7_91 : decode method_18_code 91 = .ok (.iload 5, 2) := by decide +kernel
theorem d7_93 : decode method_18_code 93 = .ok (.invokestatic 55, 3) := by decide +kernel
theorem d7_96 : decode method_18_code 96 = .ok (.ifCond .ge 6, 3) := by decide +kernel
theorem d7_99 : decode method_18_code 99 = .ok (.iinc 2 2, 3) := by decide +kernel
theorem d7_102 : decode method_18_code 102 = .ok (.iload 7, 2) := by decide +kernel
theorem d7_104 : decode method_18_code 104 = .ok (.iconst 1, 1) := by decide +kernel
theorem d7_105 : decode method_18_code 105 = .ok (.if_icmp .lt 14, 3) := by decide +kernel
theorem d7_108 : decode method_18_code 108 = .ok (.iload 4, 2) := by decide +kernel
theorem d7_110 : decode method_18_code 110 = .ok (.invokestatic 55, 3) := by decide +kernel
theorem d7_113 : decode method_18_code 113 = .ok (.ifCond .ge 6, 3) := by decide +kernel
theorem d7_116 : decode method_18_code 116 = .ok (.iinc 2 2, 3) := by decide +kernel
theorem d7_119 : decode method_18_code 119 = .ok (.iload_n 2, 1) := by decide +kernel
theorem d7_120 : decode method_18_code 120 = .ok (.ireturn, 1) := by decide +kernel
theorem pn_7 : plainFor (⟨"com/example/siegelwerk/siegelwerk/BerNestingDeeperThanPinLaw", "writeChain", "([B[IIIIIII)I"⟩ : MethodName) = true := by first | exact plainFor_of_name (by first | (simp [plainName, overriddenIn]; done) | decide +kernel) | decide +kernel
set_option maxRecDepth 65536 in
set_option maxHeartbeats 4000000 in
theorem rm_ch (l : Launch) (Z : State) (a0 : Array Value) (hw : ∀ d ∈ tables_1, d.before a0 Z = true) (buf fa : Addr) (bs : List Nat) (fs : Nat → Nat) (w : Nat) (u1 u2 uq : Int32) (a : Nat) (h0 : Heap) (hne : fa ≠ buf) (A : Ary Z h0 buf .byte (own_b (bs))) (Af : Ary Z h0 fa .int (own_fv fs)) (hl : bs.length ≤ 150) (hf : ∀ i, fs i ≤ 300) (hwl : w ≤ 1) (ha : a ≤ 2) :
    Met l Z (⟨"com/example/siegelwerk/siegelwerk/BerNestingDeeperThanPinLaw", "writeChain", "([B[IIIIIII)I"⟩ : MethodName) method_18_code 10 (some .int) [] ({ frames := 3, cells := 0, slots := 0, locals := 48 } : Room) #[(.ref buf), (.ref fa), (.int (Int32.ofNat (bs.length))), (.int (Int32.ofNat w)), (.int u1), (.int u2), (.int uq), (.int (Int32.ofNat a))] h0 [buf, fa] (fun v h => v = some (.int (Int32.ofNat (bs ++ own_chB a u1 u2 uq).length)) ∧ Ary Z h buf .byte (own_b (bs ++ own_chB a u1 u2 uq)) ∧ Ary Z h fa .int (own_fv (own_chM fs w bs.length a u1 u2 uq))) := by
  refine Met.walk pn_7 (Ls := #[.val (.ref buf), .val (.ref fa), .val (.int (Int32.ofNat (bs.length))), .val (.int (Int32.ofNat w)), .val (.int u1), .val (.int u2), .val (.int uq), .val (.int (Int32.ofNat a)), .unset, .unset]) (fun m => by first | (simp [entryFrame, mkF, argsToLocals, Value.category, maxLocals]; done) | rfl) ?_
  intro p e s m below meth c B
  obtain rfl | rfl | rfl : a = 0 ∨ a = 1 ∨ a = 2 := by omega
  · refine B.iload 2 rfl d7_0 rfl ?_
    refine B.callS 5 rfl d7_2 (wd hw 6 rfl) (wd hw 7 rfl) (wd hw 4 rfl) (wd hw 8 rfl) (by decide) [(.int uq)] [] (rm_ps l Z a0 hw uq h0) rfl rfl pd__I_I rfl rfl 0 rfl (by decide) (by decide) (by decide) (by decide) (fun _ q => nomatch q) ?_
    rintro _ _ - ⟨rfl, rfl⟩
    show B.G h0 0 0 (mkF m 5 #[.val (.ref buf), .val (.ref fa), .val (.int (Int32.ofNat (bs.length))), .val (.int (Int32.ofNat w)), .val (.int u1), .val (.int u2), .val (.int uq), .val (.int (0 : Int32)), .unset, .unset] [(.int (Int32.ofNat (own_ps uq)))])
    refine B.istore 7 rfl d7_5 #[.val (.ref buf), .val (.ref fa), .val (.int (Int32.ofNat (bs.length))), .val (.int (Int32.ofNat w)), .val (.int u1), .val (.int u2), .val (.int uq), .val (.int (0 : Int32)), .val (.int (Int32.ofNat (own_ps uq))), .unset] rfl ?_
    refine B.iload 9 rfl d7_7 rfl ?_
    refine B.iconst 10 rfl (2 : Int32) d7_9 rfl ?_
    refine B.icmp_ne 23 13 rfl (by decide) rfl d7_10 (fun c10 => ?_) (fun c10 => ?_)
    · refine B.iload 25 rfl d7_23 rfl ?_
      refine B.istore 27 rfl d7_25 #[.val (.ref buf), .val (.ref fa), .val (.int (Int32.ofNat (bs.length))), .val (.int (Int32.ofNat w)), .val (.int u1), .val (.int u2), .val (.int uq), .val (.int (0 : Int32)), .val (.int (Int32.ofNat (own_ps uq))), .val (.int (Int32.ofNat (own_ps uq)))] rfl ?_
      refine B.iload 29 rfl d7_27 rfl ?_
      refine B.iconst 30 rfl (1 : Int32) d7_29 rfl ?_
      refine B.icmp_lt 52 33 rfl (by decide) rfl d7_30 (fun c30 => ?_) (fun c30 => ?_)
      · refine B.iload 54 rfl d7_52 rfl ?_
        refine B.iconst 55 rfl (2 : Int32) d7_54 rfl ?_
        refine B.icmp_ne 77 58 rfl (by decide) rfl d7_55 (fun c55 => ?_) (fun c55 => ?_)
        · refine B.aloadN 78 rfl d7_77 rfl rfl ?_
          refine B.iloadN 79 rfl d7_78 rfl ?_
          refine B.iload 81 rfl d7_79 rfl ?_
          refine B.callS 84 rfl d7_81 (wd hw 24 rfl) (wd hw 25 rfl) (wd hw 4 rfl) (wd hw 26 rfl) (by decide) [(.ref buf), (.int (Int32.ofNat (bs.length))), (.int uq)] [] (rm_wp l Z a0 hw buf (bs) uq h0 A (by have := own_ps_l uq; have := own_cs_l u2 (own_ps uq); have := own_cs_l u1 (own_cs u2 (own_ps uq)); have := own_cs_l u1 (own_ps uq); have := own_consL u1 (own_ps uq) 0; have := own_consL u2 (own_ps uq) 0; have := own_consL u1 (own_cs u2 (own_ps uq)) 0; (try simp only [List.length_append]); omega)) rfl rfl pd___BII_I rfl rfl 0 rfl (by decide) (by decide) (by decide) (by decide) (fun x z => Or.inl (by rw [List.mem_singleton.mp z]; simp)) ?_
          rintro _ h1 K1 ⟨rfl, A1⟩
          show B.G h1 0 0 (mkF m 84 #[.val (.ref buf), .val (.ref fa), .val (.int (Int32.ofNat (bs.length))), .val (.int (Int32.ofNat w)), .val (.int u1), .val (.int u2), .val (.int uq), .val (.int (0 : Int32)), .val (.int (Int32.ofNat (own_ps uq))), .val (.int (Int32.ofNat (own_ps uq)))] [(.int (Int32.ofNat (bs ++ own_primB uq).length))])
          have Af1 := Af.keep K1 (ninS hne nin0)
          refine B.istoreN 85 rfl d7_84 #[.val (.ref buf), .val (.ref fa), .val (.int (Int32.ofNat (bs ++ own_primB uq).length)), .val (.int (Int32.ofNat w)), .val (.int u1), .val (.int u2), .val (.int uq), .val (.int (0 : Int32)), .val (.int (Int32.ofNat (own_ps uq))), .val (.int (Int32.ofNat (own_ps uq)))] rfl ?_
          refine B.iload 87 rfl d7_85 rfl ?_
          refine B.iconst 88 rfl (2 : Int32) d7_87 rfl ?_
          refine B.icmp_ne 102 91 rfl (by decide) rfl d7_88 (fun c88 => ?_) (fun c88 => ?_)
          · refine B.iload 104 rfl d7_102 rfl ?_
            refine B.iconst 105 rfl (1 : Int32) d7_104 rfl ?_
            refine B.icmp_lt 119 108 rfl (by decide) rfl d7_105 (fun c105 => ?_) (fun c105 => ?_)
            · refine B.iloadN 120 rfl d7_119 rfl ?_
              refine B.retI d7_120 (by decide) (by decide) ?_
              have ee : bs ++ own_chB 0 u1 u2 uq = bs ++ own_primB uq := by simp [own_chB]
              exact ⟨by rw [ee], by rw [ee]; exact A1, Af1⟩
            · exact absurd c105 (by decide)
          · exact absurd c88 (by decide)
        · exact absurd c55 (by decide)
      · exact absurd c30 (by decide)
    · exact absurd c10 (by decide)
  · refine B.iload 2 rfl d7_0 rfl ?_
    refine B.callS 5 rfl d7_2 (wd hw 6 rfl) (wd hw 7 rfl) (wd hw 4 rfl) (wd hw 8 rfl) (by decide) [(.int uq)] [] (rm_ps l Z a0 hw uq h0) rfl rfl pd__I_I rfl rfl 0 rfl (by decide) (by decide) (by decide) (by decide) (fun _ q => nomatch q) ?_
    rintro _ _ - ⟨rfl, rfl⟩
    show B.G h0 0 0 (mkF m 5 #[.val (.ref buf), .val (.ref fa), .val (.int (Int32.ofNat (bs.length))), .val (.int (Int32.ofNat w)), .val (.int u1), .val (.int u2), .val (.int uq), .val (.int (1 : Int32)), .unset, .unset] [(.int (Int32.ofNat (own_ps uq)))])
    refine B.istore 7 rfl d7_5 #[.val (.ref buf), .val (.ref fa), .val (.int (Int32.ofNat (bs.length))), .val (.int (Int32.ofNat w)), .val (.int u1), .val (.int u2), .val (.int uq), .val (.int (1 : Int32)), .val (.int (Int32.ofNat (own_ps uq))), .unset] rfl ?_
    refine B.iload 9 rfl d7_7 rfl ?_
    refine B.iconst 10 rfl (2 : Int32) d7_9 rfl ?_
    refine B.icmp_ne 23 13 rfl (by decide) rfl d7_10 (fun c10 => ?_) (fun c10 => ?_)
    · refine B.iload 25 rfl d7_23 rfl ?_
      refine B.istore 27 rfl d7_25 #[.val (.ref buf), .val (.ref fa), .val (.int (Int32.ofNat (bs.length))), .val (.int (Int32.ofNat w)), .val (.int u1), .val (.int u2), .val (.int uq), .val (.int (1 : Int32)), .val (.int (Int32.ofNat (own_ps uq))), .val (.int (Int32.ofNat (own_ps uq)))] rfl ?_
      refine B.iload 29 rfl d7_27 rfl ?_
      refine B.iconst 30 rfl (1 : Int32) d7_29 rfl ?_
      refine B.icmp_lt 52 33 rfl (by decide) rfl d7_30 (fun c30 => ?_) (fun c30 => ?_)
      · exact absurd c30 (by decide)
      · refine B.aloadN 34 rfl d7_33 rfl rfl ?_
        refine B.iloadN 35 rfl d7_34 rfl ?_
        refine B.iload 37 rfl d7_35 rfl ?_
        refine B.iload 39 rfl d7_37 rfl ?_
        refine B.lconst 40 rfl (0 : Int64) d7_39 rfl ?_
        refine B.callS 43 rfl d7_40 (wd hw 51 rfl) (wd hw 52 rfl) (wd hw 4 rfl) (wd hw 53 rfl) (by decide) [(.ref buf), (.int (Int32.ofNat (bs.length))), (.int u1), (.int (Int32.ofNat (own_ps uq))), (.long (0 : Int64))] [] (rm_wc l Z a0 hw buf (bs) u1 (own_ps uq) 0 h0 A (by have := own_ps_l uq; have := own_cs_l u2 (own_ps uq); have := own_cs_l u1 (own_cs u2 (own_ps uq)); have := own_cs_l u1 (own_ps uq); have := own_consL u1 (own_ps uq) 0; have := own_consL u2 (own_ps uq) 0; have := own_consL u1 (own_cs u2 (own_ps uq)) 0; (try simp only [List.length_append]); omega) (by have := own_ps_l uq; have := own_cs_l u2 (own_ps uq); omega)) rfl rfl pd___BIIIJ_I rfl rfl 0 rfl (by decide) (by decide) (by decide) (by decide) (fun x z => Or.inl (by rw [List.mem_singleton.mp z]; simp)) ?_
        rintro _ h1 K1 ⟨rfl, A1⟩
        show B.G h1 0 0 (mkF m 43 #[.val (.ref buf), .val (.ref fa), .val (.int (Int32.ofNat (bs.length))), .val (.int (Int32.ofNat w)), .val (.int u1), .val (.int u2), .val (.int uq), .val (.int (1 : Int32)), .val (.int (Int32.ofNat (own_ps uq))), .val (.int (Int32.ofNat (own_ps uq)))] [(.int (Int32.ofNat (bs ++ own_consB u1 (own_ps uq) 0).length))])
        have Af1 := Af.keep K1 (ninS hne nin0)
        refine B.istoreN 44 rfl d7_43 #[.val (.ref buf), .val (.ref fa), .val (.int (Int32.ofNat (bs ++ own_consB u1 (own_ps uq) 0).length)), .val (.int (Int32.ofNat w)), .val (.int u1), .val (.int u2), .val (.int uq), .val (.int (1 : Int32)), .val (.int (Int32.ofNat (own_ps uq))), .val (.int (Int32.ofNat (own_ps uq)))] rfl ?_
        refine B.aloadN 45 rfl d7_44 rfl rfl ?_
        refine B.iloadN 46 rfl d7_45 rfl ?_
        refine B.iconst 47 rfl (1 : Int32) d7_46 rfl ?_
        refine B.iadd 48 rfl d7_47 ?_
        refine B.topI (Int32.ofNat (w + 1)) (own_add w 1) ?_
        refine B.iloadN 49 rfl d7_48 rfl ?_
        refine B.callS 52 rfl d7_49 (wd hw 58 rfl) (wd hw 59 rfl) (wd hw 4 rfl) (wd hw 60 rfl) (by decide) [(.ref fa), (.int (Int32.ofNat (w + 1))), (.int (Int32.ofNat (bs ++ own_consB u1 (own_ps uq) 0).length))] [] (rm_mk l Z a0 hw fa (fs) (w + 1) (bs ++ own_consB u1 (own_ps uq) 0).length h1 Af1 (by omega) hf) rfl rfl pd___III_V rfl rfl 0 rfl (by decide) (by decide) (by decide) (by decide) (fun x z => Or.inl (by rw [List.mem_singleton.mp z]; simp)) ?_
        rintro _ h2 K2 ⟨rfl, Af2⟩
        show B.G h2 0 0 (mkF m 52 #[.val (.ref buf), .val (.ref fa), .val (.int (Int32.ofNat (bs ++ own_consB u1 (own_ps uq) 0).length)), .val (.int (Int32.ofNat w)), .val (.int u1), .val (.int u2), .val (.int uq), .val (.int (1 : Int32)), .val (.int (Int32.ofNat (own_ps uq))), .val (.int (Int32.ofNat (own_ps uq)))] [])
        have A2 := A1.keep K2 (ninS (Ne.symm hne) nin0)
        have hf2 := own_mk_le (d := w + 1) (p := (bs ++ own_consB u1 (own_ps uq) 0).length) hf (by have := own_ps_l uq; have := own_cs_l u2 (own_ps uq); have := own_cs_l u1 (own_cs u2 (own_ps uq)); have := own_cs_l u1 (own_ps uq); have := own_consL u1 (own_ps uq) 0; have := own_consL u2 (own_ps uq) 0; have := own_consL u1 (own_cs u2 (own_ps uq)) 0; (try simp only [List.length_append]); omega)
        refine B.iload 54 rfl d7_52 rfl ?_
        refine B.iconst 55 rfl (2 : Int32) d7_54 rfl ?_
        refine B.icmp_ne 77 58 rfl (by decide) rfl d7_55 (fun c55 => ?_) (fun c55 => ?_)
        · refine B.aloadN 78 rfl d7_77 rfl rfl ?_
          refine B.iloadN 79 rfl d7_78 rfl ?_
          refine B.iload 81 rfl d7_79 rfl ?_
          refine B.callS 84 rfl d7_81 (wd hw 24 rfl) (wd hw 25 rfl) (wd hw 4 rfl) (wd hw 26 rfl) (by decide) [(.ref buf), (.int (Int32.ofNat (bs ++ own_consB u1 (own_ps uq) 0).length)), (.int uq)] [] (rm_wp l Z a0 hw buf (bs ++ own_consB u1 (own_ps uq) 0) uq h2 A2 (by have := own_ps_l uq; have := own_cs_l u2 (own_ps uq); have := own_cs_l u1 (own_cs u2 (own_ps uq)); have := own_cs_l u1 (own_ps uq); have := own_consL u1 (own_ps uq) 0; have := own_consL u2 (own_ps uq) 0; have := own_consL u1 (own_cs u2 (own_ps uq)) 0; (try simp only [List.length_append]); omega)) rfl rfl pd___BII_I rfl rfl 0 rfl (by decide) (by decide) (by decide) (by decide) (fun x z => Or.inl (by rw [List.mem_singleton.mp z]; simp)) ?_
          rintro _ h3 K3 ⟨rfl, A3⟩
          show B.G h3 0 0 (mkF m 84 #[.val (.ref buf), .val (.ref fa), .val (.int (Int32.ofNat (bs ++ own_consB u1 (own_ps uq) 0).length)), .val (.int (Int32.ofNat w)), .val (.int u1), .val (.int u2), .val (.int uq), .val (.int (1 : Int32)), .val (.int (Int32.ofNat (own_ps uq))), .val (.int (Int32.ofNat (own_ps uq)))] [(.int (Int32.ofNat (bs ++ own_consB u1 (own_ps uq) 0 ++ own_primB uq).length))])
          have Af3 := Af2.keep K3 (ninS hne nin0)
          refine B.istoreN 85 rfl d7_84 #[.val (.ref buf), .val (.ref fa), .val (.int (Int32.ofNat (bs ++ own_consB u1 (own_ps uq) 0 ++ own_primB uq).length)), .val (.int (Int32.ofNat w)), .val (.int u1), .val (.int u2), .val (.int uq), .val (.int (1 : Int32)), .val (.int (Int32.ofNat (own_ps uq))), .val (.int (Int32.ofNat (own_ps uq)))] rfl ?_
          refine B.iload 87 rfl d7_85 rfl ?_
          refine B.iconst 88 rfl (2 : Int32) d7_87 rfl ?_
          refine B.icmp_ne 102 91 rfl (by decide) rfl d7_88 (fun c88 => ?_) (fun c88 => ?_)
          · refine B.iload 104 rfl d7_102 rfl ?_
            refine B.iconst 105 rfl (1 : Int32) d7_104 rfl ?_
            refine B.icmp_lt 119 108 rfl (by decide) rfl d7_105 (fun c105 => ?_) (fun c105 => ?_)
            · exact absurd c105 (by decide)
            · refine B.iload 110 rfl d7_108 rfl ?_
              refine B.callS 113 rfl d7_110 (wd hw 48 rfl) (wd hw 49 rfl) (wd hw 4 rfl) (wd hw 50 rfl) (by decide) [(.int u1)] [] (rm_cc l Z a0 hw u1 h3) rfl rfl pd__I_I rfl rfl 0 rfl (by decide) (by decide) (by decide) (by decide) (fun _ q => nomatch q) ?_
              rintro _ _ - ⟨rfl, rfl⟩
              show B.G h3 0 0 (mkF m 113 #[.val (.ref buf), .val (.ref fa), .val (.int (Int32.ofNat (bs ++ own_consB u1 (own_ps uq) 0 ++ own_primB uq).length)), .val (.int (Int32.ofNat w)), .val (.int u1), .val (.int u2), .val (.int uq), .val (.int (1 : Int32)), .val (.int (Int32.ofNat (own_ps uq))), .val (.int (Int32.ofNat (own_ps uq)))] [(.int (own_ci (own_cc u1)))])
              refine B.if0_ge 119 116 rfl (by decide) rfl d7_113 (fun c113 => ?_) (fun c113 => ?_)
              · refine B.iloadN 120 rfl d7_119 rfl ?_
                refine B.retI d7_120 (by decide) (by decide) ?_
                have ee : bs ++ own_chB 1 u1 u2 uq = bs ++ own_consB u1 (own_ps uq) 0 ++ own_primB uq := by simp [own_chB, own_eoc_n c113]
                exact ⟨by rw [ee], by rw [ee]; exact A3, (by have z := Af3; rw [List.length_append] at z; exact z)⟩
              · refine B.iinc 119 rfl (2 : Int32) d7_116 rfl rfl #[.val (.ref buf), .val (.ref fa), .val (.int (Int32.ofNat (bs ++ own_consB u1 (own_ps uq) 0 ++ own_primB uq ++ [0, 0]).length)), .val (.int (Int32.ofNat w)), .val (.int u1), .val (.int u2), .val (.int uq), .val (.int (1 : Int32)), .val (.int (Int32.ofNat (own_ps uq))), .val (.int (Int32.ofNat (own_ps uq)))] (by rw [own_len2]; rfl) ?_
                refine B.iloadN 120 rfl d7_119 rfl ?_
                refine B.retI d7_120 (by decide) (by decide) ?_
                have ee : bs ++ own_chB 1 u1 u2 uq = bs ++ own_consB u1 (own_ps uq) 0 ++ own_primB uq ++ [0, 0] := by simp [own_chB, own_eoc_5 c113]
                exact ⟨by rw [ee], by rw [ee, own_b_00]; exact A3, (by have z := Af3; rw [List.length_append] at z; exact z)⟩
          · exact absurd c88 (by decide)
        · exact absurd c55 (by decide)
    · exact absurd c10 (by decide)
  · refine B.iload 2 rfl d7_0 rfl ?_
    refine B.callS 5 rfl d7_2 (wd hw 6 rfl) (wd hw 7 rfl) (wd hw 4 rfl) (wd hw 8 rfl) (by decide) [(.int uq)] [] (rm_ps l Z a0 hw uq h0) rfl rfl pd__I_I rfl rfl 0 rfl (by decide) (by decide) (by decide) (by decide) (fun _ q => nomatch q) ?_
    rintro _ _ - ⟨rfl, rfl⟩
    show B.G h0 0 0 (mkF m 5 #[.val (.ref buf), .val (.ref fa), .val (.int (Int32.ofNat (bs.length))), .val (.int (Int32.ofNat w)), .val (.int u1), .val (.int u2), .val (.int uq), .val (.int (2 : Int32)), .unset, .unset] [(.int (Int32.ofNat (own_ps uq)))])
    refine B.istore 7 rfl d7_5 #[.val (.ref buf), .val (.ref fa), .val (.int (Int32.ofNat (bs.length))), .val (.int (Int32.ofNat w)), .val (.int u1), .val (.int u2), .val (.int uq), .val (.int (2 : Int32)), .val (.int (Int32.ofNat (own_ps uq))), .unset] rfl ?_
    refine B.iload 9 rfl d7_7 rfl ?_
    refine B.iconst 10 rfl (2 : Int32) d7_9 rfl ?_
    refine B.icmp_ne 23 13 rfl (by decide) rfl d7_10 (fun c10 => ?_) (fun c10 => ?_)
    · exact absurd c10 (by decide)
    · refine B.iload 15 rfl d7_13 rfl ?_
      refine B.iload 17 rfl d7_15 rfl ?_
      refine B.callS 20 rfl d7_17 (wd hw 45 rfl) (wd hw 46 rfl) (wd hw 4 rfl) (wd hw 47 rfl) (by decide) [(.int u2), (.int (Int32.ofNat (own_ps uq)))] [] (rm_cs l Z a0 hw u2 (own_ps uq) h0) rfl rfl pd__II_I rfl rfl 0 rfl (by decide) (by decide) (by decide) (by decide) (fun _ q => nomatch q) ?_
      rintro _ _ - ⟨rfl, rfl⟩
      show B.G h0 0 0 (mkF m 20 #[.val (.ref buf), .val (.ref fa), .val (.int (Int32.ofNat (bs.length))), .val (.int (Int32.ofNat w)), .val (.int u1), .val (.int u2), .val (.int uq), .val (.int (2 : Int32)), .val (.int (Int32.ofNat (own_ps uq))), .unset] [(.int (Int32.ofNat (own_cs u2 (own_ps uq))))])
      refine B.goto 25 rfl (by decide) d7_20 ?_
      refine B.istore 27 rfl d7_25 #[.val (.ref buf), .val (.ref fa), .val (.int (Int32.ofNat (bs.length))), .val (.int (Int32.ofNat w)), .val (.int u1), .val (.int u2), .val (.int uq), .val (.int (2 : Int32)), .val (.int (Int32.ofNat (own_ps uq))), .val (.int (Int32.ofNat (own_cs u2 (own_ps uq))))] rfl ?_
      refine B.iload 29 rfl d7_27 rfl ?_
      refine B.iconst 30 rfl (1 : Int32) d7_29 rfl ?_
      refine B.icmp_lt 52 33 rfl (by decide) rfl d7_30 (fun c30 => ?_) (fun c30 => ?_)
      · exact absurd c30 (by decide)
      · refine B.aloadN 34 rfl d7_33 rfl rfl ?_
        refine B.iloadN 35 rfl d7_34 rfl ?_
        refine B.iload 37 rfl d7_35 rfl ?_
        refine B.iload 39 rfl d7_37 rfl ?_
        refine B.lconst 40 rfl (0 : Int64) d7_39 rfl ?_
        refine B.callS 43 rfl d7_40 (wd hw 51 rfl) (wd hw 52 rfl) (wd hw 4 rfl) (wd hw 53 rfl) (by decide) [(.ref buf), (.int (Int32.ofNat (bs.length))), (.int u1), (.int (Int32.ofNat (own_cs u2 (own_ps uq)))), (.long (0 : Int64))] [] (rm_wc l Z a0 hw buf (bs) u1 (own_cs u2 (own_ps uq)) 0 h0 A (by have := own_ps_l uq; have := own_cs_l u2 (own_ps uq); have := own_cs_l u1 (own_cs u2 (own_ps uq)); have := own_cs_l u1 (own_ps uq); have := own_consL u1 (own_ps uq) 0; have := own_consL u2 (own_ps uq) 0; have := own_consL u1 (own_cs u2 (own_ps uq)) 0; (try simp only [List.length_append]); omega) (by have := own_ps_l uq; have := own_cs_l u2 (own_ps uq); omega)) rfl rfl pd___BIIIJ_I rfl rfl 0 rfl (by decide) (by decide) (by decide) (by decide) (fun x z => Or.inl (by rw [List.mem_singleton.mp z]; simp)) ?_
        rintro _ h1 K1 ⟨rfl, A1⟩
        show B.G h1 0 0 (mkF m 43 #[.val (.ref buf), .val (.ref fa), .val (.int (Int32.ofNat (bs.length))), .val (.int (Int32.ofNat w)), .val (.int u1), .val (.int u2), .val (.int uq), .val (.int (2 : Int32)), .val (.int (Int32.ofNat (own_ps uq))), .val (.int (Int32.ofNat (own_cs u2 (own_ps uq))))] [(.int (Int32.ofNat (bs ++ own_consB u1 (own_cs u2 (own_ps uq)) 0).length))])
        have Af1 := Af.keep K1 (ninS hne nin0)
        refine B.istoreN 44 rfl d7_43 #[.val (.ref buf), .val (.ref fa), .val (.int (Int32.ofNat (bs ++ own_consB u1 (own_cs u2 (own_ps uq)) 0).length)), .val (.int (Int32.ofNat w)), .val (.int u1), .val (.int u2), .val (.int uq), .val (.int (2 : Int32)), .val (.int (Int32.ofNat (own_ps uq))), .val (.int (Int32.ofNat (own_cs u2 (own_ps uq))))] rfl ?_
        refine B.aloadN 45 rfl d7_44 rfl rfl ?_
        refine B.iloadN 46 rfl d7_45 rfl ?_
        refine B.iconst 47 rfl (1 : Int32) d7_46 rfl ?_
        refine B.iadd 48 rfl d7_47 ?_
        refine B.topI (Int32.ofNat (w + 1)) (own_add w 1) ?_
        refine B.iloadN 49 rfl d7_48 rfl ?_
        refine B.callS 52 rfl d7_49 (wd hw 58 rfl) (wd hw 59 rfl) (wd hw 4 rfl) (wd hw 60 rfl) (by decide) [(.ref fa), (.int (Int32.ofNat (w + 1))), (.int (Int32.ofNat (bs ++ own_consB u1 (own_cs u2 (own_ps uq)) 0).length))] [] (rm_mk l Z a0 hw fa (fs) (w + 1) (bs ++ own_consB u1 (own_cs u2 (own_ps uq)) 0).length h1 Af1 (by omega) hf) rfl rfl pd___III_V rfl rfl 0 rfl (by decide) (by decide) (by decide) (by decide) (fun x z => Or.inl (by rw [List.mem_singleton.mp z]; simp)) ?_
        rintro _ h2 K2 ⟨rfl, Af2⟩
        show B.G h2 0 0 (mkF m 52 #[.val (.ref buf), .val (.ref fa), .val (.int (Int32.ofNat (bs ++ own_consB u1 (own_cs u2 (own_ps uq)) 0).length)), .val (.int (Int32.ofNat w)), .val (.int u1), .val (.int u2), .val (.int uq), .val (.int (2 : Int32)), .val (.int (Int32.ofNat (own_ps uq))), .val (.int (Int32.ofNat (own_cs u2 (own_ps uq))))] [])
        have A2 := A1.keep K2 (ninS (Ne.symm hne) nin0)
        have hf2 := own_mk_le (d := w + 1) (p := (bs ++ own_consB u1 (own_cs u2 (own_ps uq)) 0).length) hf (by have := own_ps_l uq; have := own_cs_l u2 (own_ps uq); have := own_cs_l u1 (own_cs u2 (own_ps uq)); have := own_cs_l u1 (own_ps uq); have := own_consL u1 (own_ps uq) 0; have := own_consL u2 (own_ps uq) 0; have := own_consL u1 (own_cs u2 (own_ps uq)) 0; (try simp only [List.length_append]); omega)
        refine B.iload 54 rfl d7_52 rfl ?_
        refine B.iconst 55 rfl (2 : Int32) d7_54 rfl ?_
        refine B.icmp_ne 77 58 rfl (by decide) rfl d7_55 (fun c55 => ?_) (fun c55 => ?_)
        · exact absurd c55 (by decide)
        · refine B.aloadN 59 rfl d7_58 rfl rfl ?_
          refine B.iloadN 60 rfl d7_59 rfl ?_
          refine B.iload 62 rfl d7_60 rfl ?_
          refine B.iload 64 rfl d7_62 rfl ?_
          refine B.lconst 65 rfl (0 : Int64) d7_64 rfl ?_
          refine B.callS 68 rfl d7_65 (wd hw 51 rfl) (wd hw 52 rfl) (wd hw 4 rfl) (wd hw 53 rfl) (by decide) [(.ref buf), (.int (Int32.ofNat (bs ++ own_consB u1 (own_cs u2 (own_ps uq)) 0).length)), (.int u2), (.int (Int32.ofNat (own_ps uq))), (.long (0 : Int64))] [] (rm_wc l Z a0 hw buf (bs ++ own_consB u1 (own_cs u2 (own_ps uq)) 0) u2 (own_ps uq) 0 h2 A2 (by have := own_ps_l uq; have := own_cs_l u2 (own_ps uq); have := own_cs_l u1 (own_cs u2 (own_ps uq)); have := own_cs_l u1 (own_ps uq); have := own_consL u1 (own_ps uq) 0; have := own_consL u2 (own_ps uq) 0; have := own_consL u1 (own_cs u2 (own_ps uq)) 0; (try simp only [List.length_append]); omega) (by have := own_ps_l uq; have := own_cs_l u2 (own_ps uq); omega)) rfl rfl pd___BIIIJ_I rfl rfl 0 rfl (by decide) (by decide) (by decide) (by decide) (fun x z => Or.inl (by rw [List.mem_singleton.mp z]; simp)) ?_
          rintro _ h3 K3 ⟨rfl, A3⟩
          show B.G h3 0 0 (mkF m 68 #[.val (.ref buf), .val (.ref fa), .val (.int (Int32.ofNat (bs ++ own_consB u1 (own_cs u2 (own_ps uq)) 0).length)), .val (.int (Int32.ofNat w)), .val (.int u1), .val (.int u2), .val (.int uq), .val (.int (2 : Int32)), .val (.int (Int32.ofNat (own_ps uq))), .val (.int (Int32.ofNat (own_cs u2 (own_ps uq))))] [(.int (Int32.ofNat (bs ++ own_consB u1 (own_cs u2 (own_ps uq)) 0 ++ own_consB u2 (own_ps uq) 0).length))])
          have Af3 := Af2.keep K3 (ninS hne nin0)
          refine B.istoreN 69 rfl d7_68 #[.val (.ref buf), .val (.ref fa), .val (.int (Int32.ofNat (bs ++ own_consB u1 (own_cs u2 (own_ps uq)) 0 ++ own_consB u2 (own_ps uq) 0).length)), .val (.int (Int32.ofNat w)), .val (.int u1), .val (.int u2), .val (.int uq), .val (.int (2 : Int32)), .val (.int (Int32.ofNat (own_ps uq))), .val (.int (Int32.ofNat (own_cs u2 (own_ps uq))))] rfl ?_
          refine B.aloadN 70 rfl d7_69 rfl rfl ?_
          refine B.iloadN 71 rfl d7_70 rfl ?_
          refine B.iconst 72 rfl (2 : Int32) d7_71 rfl ?_
          refine B.iadd 73 rfl d7_72 ?_
          refine B.topI (Int32.ofNat (w + 2)) (own_add w 2) ?_
          refine B.iloadN 74 rfl d7_73 rfl ?_
          refine B.callS 77 rfl d7_74 (wd hw 58 rfl) (wd hw 59 rfl) (wd hw 4 rfl) (wd hw 60 rfl) (by decide) [(.ref fa), (.int (Int32.ofNat (w + 2))), (.int (Int32.ofNat (bs ++ own_consB u1 (own_cs u2 (own_ps uq)) 0 ++ own_consB u2 (own_ps uq) 0).length))] [] (rm_mk l Z a0 hw fa (own_mk (fs) (w + 1) (bs ++ own_consB u1 (own_cs u2 (own_ps uq)) 0).length) (w + 2) (bs ++ own_consB u1 (own_cs u2 (own_ps uq)) 0 ++ own_consB u2 (own_ps uq) 0).length h3 Af3 (by omega) hf2) rfl rfl pd___III_V rfl rfl 0 rfl (by decide) (by decide) (by decide) (by decide) (fun x z => Or.inl (by rw [List.mem_singleton.mp z]; simp)) ?_
          rintro _ h4 K4 ⟨rfl, Af4⟩
          show B.G h4 0 0 (mkF m 77 #[.val (.ref buf), .val (.ref fa), .val (.int (Int32.ofNat (bs ++ own_consB u1 (own_cs u2 (own_ps uq)) 0 ++ own_consB u2 (own_ps uq) 0).length)), .val (.int (Int32.ofNat w)), .val (.int u1), .val (.int u2), .val (.int uq), .val (.int (2 : Int32)), .val (.int (Int32.ofNat (own_ps uq))), .val (.int (Int32.ofNat (own_cs u2 (own_ps uq))))] [])
          have A4 := A3.keep K4 (ninS (Ne.symm hne) nin0)
          have hf4 := own_mk_le (d := w + 2) (p := (bs ++ own_consB u1 (own_cs u2 (own_ps uq)) 0 ++ own_consB u2 (own_ps uq) 0).length) hf2 (by have := own_ps_l uq; have := own_cs_l u2 (own_ps uq); have := own_cs_l u1 (own_cs u2 (own_ps uq)); have := own_cs_l u1 (own_ps uq); have := own_consL u1 (own_ps uq) 0; have := own_consL u2 (own_ps uq) 0; have := own_consL u1 (own_cs u2 (own_ps uq)) 0; (try simp only [List.length_append]); omega)
          refine B.aloadN 78 rfl d7_77 rfl rfl ?_
          refine B.iloadN 79 rfl d7_78 rfl ?_
          refine B.iload 81 rfl d7_79 rfl ?_
          refine B.callS 84 rfl d7_81 (wd hw 24 rfl) (wd hw 25 rfl) (wd hw 4 rfl) (wd hw 26 rfl) (by decide) [(.ref buf), (.int (Int32.ofNat (bs ++ own_consB u1 (own_cs u2 (own_ps uq)) 0 ++ own_consB u2 (own_ps uq) 0).length)), (.int uq)] [] (rm_wp l Z a0 hw buf (bs ++ own_consB u1 (own_cs u2 (own_ps uq)) 0 ++ own_consB u2 (own_ps uq) 0) uq h4 A4 (by have := own_ps_l uq; have := own_cs_l u2 (own_ps uq); have := own_cs_l u1 (own_cs u2 (own_ps uq)); have := own_cs_l u1 (own_ps uq); have := own_consL u1 (own_ps uq) 0; have := own_consL u2 (own_ps uq) 0; have := own_consL u1 (own_cs u2 (own_ps uq)) 0; (try simp only [List.length_append]); omega)) rfl rfl pd___BII_I rfl rfl 0 rfl (by decide) (by decide) (by decide) (by decide) (fun x z => Or.inl (by rw [List.mem_singleton.mp z]; simp)) ?_
          rintro _ h5 K5 ⟨rfl, A5⟩
          show B.G h5 0 0 (mkF m 84 #[.val (.ref buf), .val (.ref fa), .val (.int (Int32.ofNat (bs ++ own_consB u1 (own_cs u2 (own_ps uq)) 0 ++ own_consB u2 (own_ps uq) 0).length)), .val (.int (Int32.ofNat w)), .val (.int u1), .val (.int u2), .val (.int uq), .val (.int (2 : Int32)), .val (.int (Int32.ofNat (own_ps uq))), .val (.int (Int32.ofNat (own_cs u2 (own_ps uq))))] [(.int (Int32.ofNat (bs ++ own_consB u1 (own_cs u2 (own_ps uq)) 0 ++ own_consB u2 (own_ps uq) 0 ++ own_primB uq).length))])
          have Af5 := Af4.keep K5 (ninS hne nin0)
          refine B.istoreN 85 rfl d7_84 #[.val (.ref buf), .val (.ref fa), .val (.int (Int32.ofNat (bs ++ own_consB u1 (own_cs u2 (own_ps uq)) 0 ++ own_consB u2 (own_ps uq) 0 ++ own_primB uq).length)), .val (.int (Int32.ofNat w)), .val (.int u1), .val (.int u2), .val (.int uq), .val (.int (2 : Int32)), .val (.int (Int32.ofNat (own_ps uq))), .val (.int (Int32.ofNat (own_cs u2 (own_ps uq))))] rfl ?_
          refine B.iload 87 rfl d7_85 rfl ?_
          refine B.iconst 88 rfl (2 : Int32) d7_87 rfl ?_
          refine B.icmp_ne 102 91 rfl (by decide) rfl d7_88 (fun c88 => ?_) (fun c88 => ?_)
          · exact absurd c88 (by decide)
          · refine B.iload 93 rfl d7_91 rfl ?_
            refine B.callS 96 rfl d7_93 (wd hw 48 rfl) (wd hw 49 rfl) (wd hw 4 rfl) (wd hw 50 rfl) (by decide) [(.int u2)] [] (rm_cc l Z a0 hw u2 h5) rfl rfl pd__I_I rfl rfl 0 rfl (by decide) (by decide) (by decide) (by decide) (fun _ q => nomatch q) ?_
            rintro _ _ - ⟨rfl, rfl⟩
            show B.G h5 0 0 (mkF m 96 #[.val (.ref buf), .val (.ref fa), .val (.int (Int32.ofNat (bs ++ own_consB u1 (own_cs u2 (own_ps uq)) 0 ++ own_consB u2 (own_ps uq) 0 ++ own_primB uq).length)), .val (.int (Int32.ofNat w)), .val (.int u1), .val (.int u2), .val (.int uq), .val (.int (2 : Int32)), .val (.int (Int32.ofNat (own_ps uq))), .val (.int (Int32.ofNat (own_cs u2 (own_ps uq))))] [(.int (own_ci (own_cc u2)))])
            refine B.if0_ge 102 99 rfl (by decide) rfl d7_96 (fun c96 => ?_) (fun c96 => ?_)
            · refine B.iload 104 rfl d7_102 rfl ?_
              refine B.iconst 105 rfl (1 : Int32) d7_104 rfl ?_
              refine B.icmp_lt 119 108 rfl (by decide) rfl d7_105 (fun c105 => ?_) (fun c105 => ?_)
              · exact absurd c105 (by decide)
              · refine B.iload 110 rfl d7_108 rfl ?_
                refine B.callS 113 rfl d7_110 (wd hw 48 rfl) (wd hw 49 rfl) (wd hw 4 rfl) (wd hw 50 rfl) (by decide) [(.int u1)] [] (rm_cc l Z a0 hw u1 h5) rfl rfl pd__I_I rfl rfl 0 rfl (by decide) (by decide) (by decide) (by decide) (fun _ q => nomatch q) ?_
                rintro _ _ - ⟨rfl, rfl⟩
                show B.G h5 0 0 (mkF m 113 #[.val (.ref buf), .val (.ref fa), .val (.int (Int32.ofNat (bs ++ own_consB u1 (own_cs u2 (own_ps uq)) 0 ++ own_consB u2 (own_ps uq) 0 ++ own_primB uq).length)), .val (.int (Int32.ofNat w)), .val (.int u1), .val (.int u2), .val (.int uq), .val (.int (2 : Int32)), .val (.int (Int32.ofNat (own_ps uq))), .val (.int (Int32.ofNat (own_cs u2 (own_ps uq))))] [(.int (own_ci (own_cc u1)))])
                refine B.if0_ge 119 116 rfl (by decide) rfl d7_113 (fun c113 => ?_) (fun c113 => ?_)
                · refine B.iloadN 120 rfl d7_119 rfl ?_
                  refine B.retI d7_120 (by decide) (by decide) ?_
                  have ee : bs ++ own_chB 2 u1 u2 uq = bs ++ own_consB u1 (own_cs u2 (own_ps uq)) 0 ++ own_consB u2 (own_ps uq) 0 ++ own_primB uq := by simp [own_chB, own_eoc_n c96, own_eoc_n c113]
                  exact ⟨by rw [ee], by rw [ee]; exact A5, (by have z := Af5; simp only [List.length_append] at z; exact z)⟩
                · refine B.iinc 119 rfl (2 : Int32) d7_116 rfl rfl #[.val (.ref buf), .val (.ref fa), .val (.int (Int32.ofNat (bs ++ own_consB u1 (own_cs u2 (own_ps uq)) 0 ++ own_consB u2 (own_ps uq) 0 ++ own_primB uq ++ [0, 0]).length)), .val (.int (Int32.ofNat w)), .val (.int u1), .val (.int u2), .val (.int uq), .val (.int (2 : Int32)), .val (.int (Int32.ofNat (own_ps uq))), .val (.int (Int32.ofNat (own_cs u2 (own_ps uq))))] (by rw [own_len2]; rfl) ?_
                  refine B.iloadN 120 rfl d7_119 rfl ?_
                  refine B.retI d7_120 (by decide) (by decide) ?_
                  have ee : bs ++ own_chB 2 u1 u2 uq = bs ++ own_consB u1 (own_cs u2 (own_ps uq)) 0 ++ own_consB u2 (own_ps uq) 0 ++ own_primB uq ++ [0, 0] := by simp [own_chB, own_eoc_n c96, own_eoc_5 c113]
                  exact ⟨by rw [ee], by rw [ee, own_b_00]; exact A5, (by have z := Af5; simp only [List.length_append] at z; exact z)⟩
            · refine B.iinc 102 rfl (2 : Int32) d7_99 rfl rfl #[.val (.ref buf), .val (.ref fa), .val (.int (Int32.ofNat (bs ++ own_consB u1 (own_cs u2 (own_ps uq)) 0 ++ own_consB u2 (own_ps uq) 0 ++ own_primB uq ++ [0, 0]).length)), .val (.int (Int32.ofNat w)), .val (.int u1), .val (.int u2), .val (.int uq), .val (.int (2 : Int32)), .val (.int (Int32.ofNat (own_ps uq))), .val (.int (Int32.ofNat (own_cs u2 (own_ps uq))))] (by rw [own_len2]; rfl) ?_
              refine B.iload 104 rfl d7_102 rfl ?_
              refine B.iconst 105 rfl (1 : Int32) d7_104 rfl ?_
              refine B.icmp_lt 119 108 rfl (by decide) rfl d7_105 (fun c105 => ?_) (fun c105 => ?_)
              · exact absurd c105 (by decide)
              · refine B.iload 110 rfl d7_108 rfl ?_
                refine B.callS 113 rfl d7_110 (wd hw 48 rfl) (wd hw 49 rfl) (wd hw 4 rfl) (wd hw 50 rfl) (by decide) [(.int u1)] [] (rm_cc l Z a0 hw u1 h5) rfl rfl pd__I_I rfl rfl 0 rfl (by decide) (by decide) (by decide) (by decide) (fun _ q => nomatch q) ?_
                rintro _ _ - ⟨rfl, rfl⟩
                show B.G h5 0 0 (mkF m 113 #[.val (.ref buf), .val (.ref fa), .val (.int (Int32.ofNat (bs ++ own_consB u1 (own_cs u2 (own_ps uq)) 0 ++ own_consB u2 (own_ps uq) 0 ++ own_primB uq ++ [0, 0]).length)), .val (.int (Int32.ofNat w)), .val (.int u1), .val (.int u2), .val (.int uq), .val (.int (2 : Int32)), .val (.int (Int32.ofNat (own_ps uq))), .val (.int (Int32.ofNat (own_cs u2 (own_ps uq))))] [(.int (own_ci (own_cc u1)))])
                refine B.if0_ge 119 116 rfl (by decide) rfl d7_113 (fun c113 => ?_) (fun c113 => ?_)
                · refine B.iloadN 120 rfl d7_119 rfl ?_
                  refine B.retI d7_120 (by decide) (by decide) ?_
                  have ee : bs ++ own_chB 2 u1 u2 uq = bs ++ own_consB u1 (own_cs u2 (own_ps uq)) 0 ++ own_consB u2 (own_ps uq) 0 ++ own_primB uq ++ [0, 0] := by simp [own_chB, own_eoc_5 c96, own_eoc_n c113]
                  exact ⟨by rw [ee], by rw [ee, own_b_00]; exact A5, (by have z := Af5; simp only [List.length_append] at z; exact z)⟩
                · refine B.iinc 119 rfl (2 : Int32) d7_116 rfl rfl #[.val (.ref buf), .val (.ref fa), .val (.int (Int32.ofNat (bs ++ own_consB u1 (own_cs u2 (own_ps uq)) 0 ++ own_consB u2 (own_ps uq) 0 ++ own_primB uq ++ [0, 0] ++ [0, 0]).length)), .val (.int (Int32.ofNat w)), .val (.int u1), .val (.int u2), .val (.int uq), .val (.int (2 : Int32)), .val (.int (Int32.ofNat (own_ps uq))), .val (.int (Int32.ofNat (own_cs u2 (own_ps uq))))] (by rw [own_len2]; rfl) ?_
                  refine B.iloadN 120 rfl d7_119 rfl ?_
                  refine B.retI d7_120 (by decide) (by decide) ?_
                  have ee : bs ++ own_chB 2 u1 u2 uq = bs ++ own_consB u1 (own_cs u2 (own_ps uq)) 0 ++ own_consB u2 (own_ps uq) 0 ++ own_primB uq ++ [0, 0] ++ [0, 0] := by simp [own_chB, own_eoc_5 c96, own_eoc_5 c113]
                  exact ⟨by rw [ee], by rw [ee, own_b_00, own_b_00]; exact A5, (by have z := Af5; simp only [List.length_append] at z; exact z)⟩
theorem d12_0 : decode jdk_29_method_65_code 0 = .ok (.iload_n 0, 1) := by decide +kernel
theorem d12_1 : decode jdk_29_method_65_code 1 = .ok (.iload_n 1, 1) := by decide +kernel
theorem d12_2 : decode jdk_29_method_65_code 2 = .ok (.if_icmp .lt 7, 3) := by decide +kernel
theorem d12_5 : decode jdk_29_method_65_code 5 = .ok (.iload_n 0, 1) := by decide +kernel
theorem d12_6 : decode jdk_29_method_65_code 6 = .ok (.goto 4, 3) := by decide +kernel
theorem d12_9 : decode jdk_29_method_65_code 9 = .ok (.iload_n 1, 1) := by decide +kernel
theorem d12_10 : decode jdk_29_method_65_code 10 = .ok (.ireturn, 1) := by decide +kernel
theorem pn_12 : plainFor (⟨"java/lang/Math", "max", "(II)I"⟩ : MethodName) = true := by first | exact plainFor_of_name (by first | (simp [plainName, overriddenIn]; done) | decide +kernel) | decide +kernel
set_option maxRecDepth 65536 in
set_option maxHeartbeats 4000000 in
theorem rm_max (l : Launch) (Z : State) (a0 : Array Value) (hw : ∀ d ∈ tables_1, d.before a0 Z = true) (x0 x1 : Nat) (h0 : Heap) (g0 : x0 ≤ 2) (g1 : x1 ≤ 2) :
    Met l Z (⟨"java/lang/Math", "max", "(II)I"⟩ : MethodName) jdk_29_method_65_code 2 (some .int) [] ({ frames := 0, cells := 0, slots := 0, locals := 0 } : Room) #[(.int (Int32.ofNat x0)), (.int (Int32.ofNat x1))] h0 [] (fun v h => v = some (.int (Int32.ofNat (max x0 x1))) ∧ h0 = h) := by
  refine Met.walk pn_12 (Ls := #[.val (.int (Int32.ofNat x0)), .val (.int (Int32.ofNat x1))]) (fun m => by first | (simp [entryFrame, mkF, argsToLocals, Value.category, maxLocals]; done) | rfl) ?_
  intro p e s m below meth c B
  refine B.iloadN 1 rfl d12_0 rfl ?_
  refine B.iloadN 2 rfl d12_1 rfl ?_
  refine B.icmp_lt 9 5 rfl (by decide) rfl d12_2 (fun c2 => ?_) (fun c2 => ?_)
  · refine B.iloadN 10 rfl d12_9 rfl ?_
    refine B.retI d12_10 (by decide) (by decide) ?_
    exact ⟨congrArg (fun z => some (Value.int z)) (own_max x0 x1 (by omega) (by omega) c2), rfl⟩
  · refine B.iloadN 6 rfl d12_5 rfl ?_
    refine B.goto 10 rfl (by decide) d12_6 ?_
    refine B.retI d12_10 (by decide) (by decide) ?_
    exact ⟨congrArg (fun z => some (Value.int z)) (own_max' x0 x1 (by omega) (by omega) c2), rfl⟩
theorem d19_0 : decode jdk_29_method_70_code 0 = .ok (.lload_n 0, 1) := by decide +kernel
theorem d19_1 : decode jdk_29_method_70_code 1 = .ok (.lload_n 2, 1) := by decide +kernel
theorem d19_2 : decode jdk_29_method_70_code 2 = .ok (.lcmp, 1) := by decide +kernel
theorem d19_3 : decode jdk_29_method_70_code 3 = .ok (.ifCond .gt 7, 3) := by decide +kernel
theorem d19_6 : decode jdk_29_method_70_code 6 = .ok (.lload_n 0, 1) := by decide +kernel
theorem d19_7 : decode jdk_29_method_70_code 7 = .ok (.goto 4, 3) := by decide +kernel
theorem d19_10 : decode jdk_29_method_70_code 10 = .ok (.lload_n 2, 1) := by decide +kernel
theorem d19_11 : decode jdk_29_method_70_code 11 = .ok (.lreturn, 1) := by decide +kernel
theorem pn_19 : plainFor (⟨"java/lang/Math", "min", "(JJ)J"⟩ : MethodName) = true := by first | exact plainFor_of_name (by first | (simp [plainName, overriddenIn]; done) | decide +kernel) | decide +kernel
set_option maxRecDepth 65536 in
set_option maxHeartbeats 4000000 in
theorem rm_min (l : Launch) (Z : State) (a0 : Array Value) (hw : ∀ d ∈ tables_1, d.before a0 Z = true) (x0 x1 : Nat) (h0 : Heap) (g0 : x0 < 8589934592) (g1 : x1 < 8589934592) :
    Met l Z (⟨"java/lang/Math", "min", "(JJ)J"⟩ : MethodName) jdk_29_method_70_code 4 (some .long) [] ({ frames := 0, cells := 0, slots := 0, locals := 0 } : Room) #[(.long (Int64.ofNat x0)), (.long (Int64.ofNat x1))] h0 [] (fun v h => v = some (.long (Int64.ofNat (min x0 x1))) ∧ h0 = h) := by
  refine Met.walk pn_19 (Ls := #[.val (.long (Int64.ofNat x0)), .second, .val (.long (Int64.ofNat x1)), .second]) (fun m => by first | (simp [entryFrame, mkF, argsToLocals, Value.category, maxLocals]; done) | rfl) ?_
  intro p e s m below meth c B
  refine B.lloadN 1 rfl d19_0 rfl ?_
  refine B.lloadN 2 rfl d19_1 rfl ?_
  refine B.lcmp 3 rfl d19_2 ?_
  refine B.lif_gt 10 6 rfl (by decide) rfl d19_3 (fun c3 => ?_) (fun c3 => ?_)
  · refine B.lloadN 11 rfl d19_10 rfl ?_
    refine B.retL d19_11 (by decide) (by decide) ?_
    exact ⟨congrArg (fun z => some (Value.long z)) (own_minL x0 x1 (by omega) (by omega) c3), rfl⟩
  · refine B.lloadN 7 rfl d19_6 rfl ?_
    refine B.goto 11 rfl (by decide) d19_7 ?_
    refine B.retL d19_11 (by decide) (by decide) ?_
    exact ⟨congrArg (fun z => some (Value.long z)) (own_minL' x0 x1 (by omega) (by omega) c3), rfl⟩
theorem d13_0 : decode prog_1_method_2_code 0 = .ok (.iload_n 1, 1) := by decide +kernel
theorem d13_1 : decode prog_1_method_2_code 1 = .ok (.newarray .int, 2) := by decide +kernel
theorem d13_3 : decode prog_1_method_2_code 3 = .ok (.astore_n 2, 1) := by decide +kernel
theorem d13_4 : decode prog_1_method_2_code 4 = .ok (.iconst 0, 1) := by decide +kernel
theorem d13_5 : decode prog_1_method_2_code 5 = .ok (.istore_n 3, 1) := by decide +kernel
theorem d13_6 : decode prog_1_method_2_code 6 = .ok (.iconst 0, 1) := by decide +kernel
theorem d13_7 : decode prog_1_method_2_code 7 = .ok (.istore 4, 2) := by decide +kernel
theorem d13_9 : decode prog_1_method_2_code 9 = .ok (.iload 4, 2) := by decide +kernel
theorem d13_11 : decode prog_1_method_2_code 11 = .ok (.aload_n 0, 1) := by decide +kernel
theorem d13_12 : decode prog_1_method_2_code 12 = .ok (.arraylength, 1) := by decide +kernel
theorem d13_13 : decode prog_1_method_2_code 13 = .ok (.if_icmp .ge 337, 3) := by decide +kernel
theorem d13_16 : decode prog_1_method_2_code 16 = .ok (.iload_n 3, 1) := by decide +kernel
theorem d13_17 : decode prog_1_method_2_code 17 = .ok (.ifCond .le 28, 3) := by decide +kernel
theorem d13_20 : decode prog_1_method_2_code 20 = .ok (.aload_n 2, 1) := by decide +kernel
theorem d13_21 : decode prog_1_method_2_code 21 = .ok (.iload_n 3, 1) := by decide +kernel
theorem d13_22 : decode prog_1_method_2_code 22 = .ok (.iconst 1, 1) := by decide +kernel
theorem d13_23 : decode prog_1_method_2_code 23 = .ok (.isub, 1) := by decide +kernel
theorem d13_24 : decode prog_1_method_2_code 24 = .ok (.iaload, 1) := by decide +kernel
theorem d13_25 : decode prog_1_method_2_code 25 = .ok (.iconst (-1), 1) := by decide +kernel
theorem d13_26 : decode prog_1_method_2_code 26 = .ok (.if_icmp .eq 19, 3) := by decide +kernel
theorem d13_29 : decode prog_1_method_2_code 29 = .ok (.iload 4, 2) := by decide +kernel
theorem d13_31 : decode prog_1_method_2_code 31 = .ok (.aload_n 2, 1) := by decide +kernel
theorem d13_32 : decode prog_1_method_2_code 32 = .ok (.iload_n 3, 1) := by decide +kernel
theorem d13_33 : decode prog_1_method_2_code 33 = .ok (.iconst 1, 1) := by decide +kernel
theorem d13_34 : decode prog_1_method_2_code 34 = .ok (.isub, 1) := by decide +kernel
theorem d13_35 : decode prog_1_method_2_code 35 = .ok (.iaload, 1) := by decide +kernel
theorem d13_36 : decode prog_1_method_2_code 36 = .ok (.if_icmp .lt 9, 3) := by decide +kernel
theorem d13_39 : decode prog_1_method_2_code 39 = .ok (.iinc 3 (-1), 3) := by decide +kernel
theorem d13_42 : decode prog_1_method_2_code 42 = .ok (.goto (-26), 3) := by decide +kernel
theorem d13_45 : decode prog_1_method_2_code 45 = .ok (.iload_n 3, 1) := by decide +kernel
theorem d13_46 : decode prog_1_method_2_code 46 = .ok (.ifCond .le 46, 3) := by decide +kernel
theorem d13_49 : decode prog_1_method_2_code 49 = .ok (.aload_n 2, 1) := by decide +kernel
theorem d13_50 : decode prog_1_method_2_code 50 = .ok (.iload_n 3, 1) := by decide +kernel
theorem d13_51 : decode prog_1_method_2_code 51 = .ok (.iconst 1, 1) := by decide +kernel
theorem d13_52 : decode prog_1_method_2_code 52 = .ok (.isub, 1) := by decide +kernel
theorem d13_53 : decode prog_1_method_2_code 53 = .ok (.iaload, 1) := by decide +kernel
theorem d13_54 : decode prog_1_method_2_code 54 = .ok (.iconst (-1), 1) := by decide +kernel
theorem d13_55 : decode prog_1_method_2_code 55 = .ok (.if_icmp .ne 37, 3) := by decide +kernel
theorem d13_58 : decode prog_1_method_2_code 58 = .ok (.iload 4, 2) := by decide +kernel
theorem d13_60 : decode prog_1_method_2_code 60 = .ok (.iconst 1, 1) := by decide +kernel
theorem d13_61 : decode prog_1_method_2_code 61 = .ok (.iadd, 1) := by decide +kernel
theorem d13_62 : decode prog_1_method_2_code 62 = .ok (.aload_n 0, 1) := by decide +kernel
theorem d13_63 : decode prog_1_method_2_code 63 = .ok (.arraylength, 1) := by decide +kernel
theorem d13_64 : decode prog_1_method_2_code 64 = .ok (.if_icmp .ge 28, 3) := by decide +kernel
theorem d13_67 : decode prog_1_method_2_code 67 = .ok (.aload_n 0, 1) := by decide +kernel
theorem d13_68 : decode prog_1_method_2_code 68 = .ok (.iload 4, 2) := by decide +kernel
theorem d13_70 : decode prog_1_method_2_code 70 = .ok (.baload, 1) := by decide +kernel
theorem d13_71 : decode prog_1_method_2_code 71 = .ok (.ifCond .ne 21, 3) := by decide +kernel
theorem d13_74 : decode prog_1_method_2_code 74 = .ok (.aload_n 0, 1) := by decide +kernel
theorem d13_75 : decode prog_1_method_2_code 75 = .ok (.iload 4, 2) := by decide +kernel
theorem d13_77 : decode prog_1_method_2_code 77 = .ok (.iconst 1, 1) := by decide +kernel
theorem d13_78 : decode prog_1_method_2_code 78 = .ok (.iadd, 1) := by decide +kernel
theorem d13_79 : decode prog_1_method_2_code 79 = .ok (.baload, 1) := by decide +kernel
theorem d13_80 : decode prog_1_method_2_code 80 = .ok (.ifCond .ne 12, 3) := by decide +kernel
theorem d13_83 : decode prog_1_method_2_code 83 = .ok (.iinc 3 (-1), 3) := by decide +kernel
theorem d13_86 : decode prog_1_method_2_code 86 = .ok (.iinc 4 2, 3) := by decide +kernel
theorem d13_89 : decode prog_1_method_2_code 89 = .ok (.goto (-80), 3) := by decide +kernel
theorem d13_92 : decode prog_1_method_2_code 92 = .ok (.aload_n 0, 1) := by decide +kernel
theorem d13_93 : decode prog_1_method_2_code 93 = .ok (.iload 4, 2) := by decide +kernel
theorem d13_95 : decode prog_1_method_2_code 95 = .ok (.iinc 4 1, 3) := by decide +kernel
theorem d13_98 : decode prog_1_method_2_code 98 = .ok (.baload, 1) := by decide +kernel
theorem d13_99 : decode prog_1_method_2_code 99 = .ok (.sipush 255, 3) := by decide +kernel
theorem d13_102 : decode prog_1_method_2_code 102 = .ok (.iand, 1) := by decide +kernel
theorem d13_103 : decode prog_1_method_2_code 103 = .ok (.istore 5, 2) := by decide +kernel
theorem d13_105 : decode prog_1_method_2_code 105 = .ok (.iload 5, 2) := by decide +kernel
theorem d13_107 : decode prog_1_method_2_code 107 = .ok (.bipush 31, 2) := by decide +kernel
theorem d13_109 : decode prog_1_method_2_code 109 = .ok (.iand, 1) := by decide +kernel
theorem d13_110 : decode prog_1_method_2_code 110 = .ok (.bipush 31, 2) := by decide +kernel
theorem d13_112 : decode prog_1_method_2_code 112 = .ok (.if_icmp .ne 30, 3) := by decide +kernel
theorem d13_115 : decode prog_1_method_2_code 115 = .ok (.iload 4, 2) := by decide +kernel
theorem d13_117 : decode prog_1_method_2_code 117 = .ok (.aload_n 0, 1) := by decide +kernel
theorem d13_118 : decode prog_1_method_2_code 118 = .ok (.arraylength, 1) := by decide +kernel
theorem d13_119 : decode prog_1_method_2_code 119 = .ok (.if_icmp .ge 20, 3) := by decide +kernel
theorem d13_122 : decode prog_1_method_2_code 122 = .ok (.aload_n 0, 1) := by decide +kernel
theorem d13_123 : decode prog_1_method_2_code 123 = .ok (.iload 4, 2) := by decide +kernel
theorem d13_125 : decode prog_1_method_2_code 125 = .ok (.baload, 1) := by decide +kernel
theorem d13_126 : decode prog_1_method_2_code 126 = .ok (.sipush 128, 3) := by decide +kernel
theorem d13_129 : decode prog_1_method_2_code 129 = .ok (.iand, 1) := by decide +kernel
theorem d13_130 : decode prog_1_method_2_code 130 = .ok (.ifCond .eq 9, 3) := by decide +kernel
theorem d13_133 : decode prog_1_method_2_code 133 = .ok (.iinc 4 1, 3) := by decide +kernel
theorem d13_136 : decode prog_1_method_2_code 136 = .ok (.goto (-21), 3) := by decide +kernel
theorem d13_139 : decode prog_1_method_2_code 139 = .ok (.iinc 4 1, 3) := by decide +kernel
theorem d13_142 : decode prog_1_method_2_code 142 = .ok (.iload 4, 2) := by decide +kernel
theorem d13_144 : decode prog_1_method_2_code 144 = .ok (.aload_n 0, 1) := by decide +kernel
theorem d13_145 : decode prog_1_method_2_code 145 = .ok (.arraylength, 1) := by decide +kernel
theorem d13_146 : decode prog_1_method_2_code 146 = .ok (.if_icmp .lt 5, 3) := by decide +kernel
theorem d13_149 : decode prog_1_method_2_code 149 = .ok (.iconst 0, 1) := by decide +kernel
theorem d13_150 : decode prog_1_method_2_code 150 = .ok (.ireturn, 1) := by decide +kernel
theorem d13_151 : decode prog_1_method_2_code 151 = .ok (.aload_n 0, 1) := by decide +kernel
theorem d13_152 : decode prog_1_method_2_code 152 = .ok (.iload 4, 2) := by decide +kernel
theorem d13_154 : decode prog_1_method_2_code 154 = .ok (.iinc 4 1, 3) := by decide +kernel
theorem d13_157 : decode prog_1_method_2_code 157 = .ok (.baload, 1) := by decide +kernel
theorem d13_158 : decode prog_1_method_2_code 158 = .ok (.sipush 255, 3) := by decide +kernel
theorem d13_161 : decode prog_1_method_2_code 161 = .ok (.iand, 1) := by decide +kernel
theorem d13_162 : decode prog_1_method_2_code 162 = .ok (.istore 6, 2) := by decide +kernel
theorem d13_164 : decode prog_1_method_2_code 164 = .ok (.iload 6, 2) := by decide +kernel
theorem d13_166 : decode prog_1_method_2_code 166 = .ok (.sipush 128, 3) := by decide +kernel
theorem d13_169 : decode prog_1_method_2_code 169 = .ok (.if_icmp .ne 11, 3) := by decide +kernel
theorem d13_172 : decode prog_1_method_2_code 172 = .ok (.ldc2_w 9, 3) := by decide +kernel
theorem d13_175 : decode prog_1_method_2_code 175 = .ok (.lstore 7, 2) := by decide +kernel
theorem d13_177 : decode prog_1_method_2_code 177 = .ok (.goto 88, 3) := by decide +kernel
theorem d13_180 : decode prog_1_method_2_code 180 = .ok (.iload 6, 2) := by decide +kernel
theorem d13_182 : decode prog_1_method_2_code 182 = .ok (.sipush 128, 3) := by decide +kernel
theorem d13_185 : decode prog_1_method_2_code 185 = .ok (.if_icmp .ge 11, 3) := by decide +kernel
theorem d13_188 : decode prog_1_method_2_code 188 = .ok (.iload 6, 2) := by decide +kernel
theorem d13_190 : decode prog_1_method_2_code 190 = .ok (.i2l, 1) := by decide +kernel
theorem d13_191 : decode prog_1_method_2_code 191 = .ok (.lstore 7, 2) := by decide +kernel
theorem d13_193 : decode prog_1_method_2_code 193 = .ok (.goto 72, 3) := by decide +kernel
theorem d13_196 : decode prog_1_method_2_code 196 = .ok (.iload 6, 2) := by decide +kernel
theorem d13_198 : decode prog_1_method_2_code 198 = .ok (.sipush (-129), 3) := by decide +kernel
theorem d13_201 : decode prog_1_method_2_code 201 = .ok (.iand, 1) := by decide +kernel
theorem d13_202 : decode prog_1_method_2_code 202 = .ok (.istore 9, 2) := by decide +kernel
theorem d13_204 : decode prog_1_method_2_code 204 = .ok (.iload 9, 2) := by decide +kernel
theorem d13_206 : decode prog_1_method_2_code 206 = .ok (.iconst 4, 1) := by decide +kernel
theorem d13_207 : decode prog_1_method_2_code 207 = .ok (.if_icmp .gt 13, 3) := by decide +kernel
theorem d13_210 : decode prog_1_method_2_code 210 = .ok (.iload 4, 2) := by decide +kernel
theorem d13_212 : decode prog_1_method_2_code 212 = .ok (.iload 9, 2) := by decide +kernel
theorem d13_214 : decode prog_1_method_2_code 214 = .ok (.iadd, 1) := by decide +kernel
theorem d13_215 : decode prog_1_method_2_code 215 = .ok (.aload_n 0, 1) := by decide +kernel
theorem d13_216 : decode prog_1_method_2_code 216 = .ok (.arraylength, 1) := by decide +kernel
theorem d13_217 : decode prog_1_method_2_code 217 = .ok (.if_icmp .le 5, 3) := by decide +kernel
theorem d13_220 : decode prog_1_method_2_code 220 = .ok (.iconst 0, 1) := by decide +kernel
theorem d13_221 : decode prog_1_method_2_code 221 = .ok (.ireturn, 1) := by decide +kernel
theorem d13_222 : decode prog_1_method_2_code 222 = .ok (.lconst 0, 1) := by decide +kernel
theorem d13_223 : decode prog_1_method_2_code 223 = .ok (.lstore 10, 2) := by decide +kernel
theorem d13_225 : decode prog_1_method_2_code 225 = .ok (.iconst 0, 1) := by decide +kernel
theorem d13_226 : decode prog_1_method_2_code 226 = .ok (.istore 12, 2) := by decide +kernel
theorem d13_228 : decode prog_1_method_2_code 228 = .ok (.iload 12, 2) := by decide +kernel
theorem d13_230 : decode prog_1_method_2_code 230 = .ok (.iload 9, 2) := by decide +kernel
theorem d13_232 : decode prog_1_method_2_code 232 = .ok (.if_icmp .ge 29, 3) := by decide +kernel
theorem d13_235 : decode prog_1_method_2_code 235 = .ok (.lload 10, 2) := by decide +kernel
theorem d13_237 : decode prog_1_method_2_code 237 = .ok (.bipush 8, 2) := by decide +kernel
theorem d13_239 : decode prog_1_method_2_code 239 = .ok (.lshl, 1) := by decide +kernel
theorem d13_240 : decode prog_1_method_2_code 240 = .ok (.aload_n 0, 1) := by decide +kernel
theorem d13_241 : decode prog_1_method_2_code 241 = .ok (.iload 4, 2) := by decide +kernel
theorem d13_243 : decode prog_1_method_2_code 243 = .ok (.iinc 4 1, 3) := by decide +kernel
theorem d13_246 : decode prog_1_method_2_code 246 = .ok (.baload, 1) := by decide +kernel
theorem d13_247 : decode prog_1_method_2_code 247 = .ok (.sipush 255, 3) := by decide +kernel
theorem d13_250 : decode prog_1_method_2_code 250 = .ok (.iand, 1) := by decide +kernel
theorem d13_251 : decode prog_1_method_2_code 251 = .ok (.i2l, 1) := by decide +kernel
theorem d13_252 : decode prog_1_method_2_code 252 = .ok (.lor, 1) := by decide +kernel
theorem d13_253 : decode prog_1_method_2_code 253 = .ok (.lstore 10, 2) := by decide +kernel
theorem d13_255 : decode prog_1_method_2_code 255 = .ok (.iinc 12 1, 3) := by decide +kernel
theorem d13_258 : decode prog_1_method_2_code 258 = .ok (.goto (-30), 3) := by decide +kernel
theorem d13_261 : decode prog_1_method_2_code 261 = .ok (.lload 10, 2) := by decide +kernel
theorem d13_263 : decode prog_1_method_2_code 263 = .ok (.lstore 7, 2) := by decide +kernel
theorem d13_265 : decode prog_1_method_2_code 265 = .ok (.iload 5, 2) := by decide +kernel
theorem d13_267 : decode prog_1_method_2_code 267 = .ok (.bipush 32, 2) := by decide +kernel
theorem d13_269 : decode prog_1_method_2_code 269 = .ok (.iand, 1) := by decide +kernel
theorem d13_270 : decode prog_1_method_2_code 270 = .ok (.ifCond .ne 38, 3) := by decide +kernel
theorem d13_273 : decode prog_1_method_2_code 273 = .ok (.lload 7, 2) := by decide +kernel
theorem d13_275 : decode prog_1_method_2_code 275 = .ok (.ldc2_w 9, 3) := by decide +kernel
theorem d13_278 : decode prog_1_method_2_code 278 = .ok (.lcmp, 1) := by decide +kernel
theorem d13_279 : decode prog_1_method_2_code 279 = .ok (.ifCond .eq 16, 3) := by decide +kernel
theorem d13_282 : decode prog_1_method_2_code 282 = .ok (.iload 4, 2) := by decide +kernel
theorem d13_284 : decode prog_1_method_2_code 284 = .ok (.i2l, 1) := by decide +kernel
theorem d13_285 : decode prog_1_method_2_code 285 = .ok (.lload 7, 2) := by decide +kernel
theorem d13_287 : decode prog_1_method_2_code 287 = .ok (.ladd, 1) := by decide +kernel
theorem d13_288 : decode prog_1_method_2_code 288 = .ok (.aload_n 0, 1) := by decide +kernel
theorem d13_289 : decode prog_1_method_2_code 289 = .ok (.arraylength, 1) := by decide +kernel
theorem d13_290 : decode prog_1_method_2_code 290 = .ok (.i2l, 1) := by decide +kernel
theorem d13_291 : decode prog_1_method_2_code 291 = .ok (.lcmp, 1) := by decide +kernel
theorem d13_292 : decode prog_1_method_2_code 292 = .ok (.ifCond .le 5, 3) := by decide +kernel
theorem d13_295 : decode prog_1_method_2_code 295 = .ok (.iconst 0, 1) := by decide +kernel
theorem d13_296 : decode prog_1_method_2_code 296 = .ok (.ireturn, 1) := by decide +kernel
theorem d13_297 : decode prog_1_method_2_code 297 = .ok (.iload 4, 2) := by decide +kernel
theorem d13_299 : decode prog_1_method_2_code 299 = .ok (.lload 7, 2) := by decide +kernel
theorem d13_301 : decode prog_1_method_2_code 301 = .ok (.l2i, 1) := by decide +kernel
theorem d13_302 : decode prog_1_method_2_code 302 = .ok (.iadd, 1) := by decide +kernel
theorem d13_303 : decode prog_1_method_2_code 303 = .ok (.istore 4, 2) := by decide +kernel
theorem d13_305 : decode prog_1_method_2_code 305 = .ok (.goto 42, 3) := by decide +kernel
theorem d13_308 : decode prog_1_method_2_code 308 = .ok (.iload_n 3, 1) := by decide +kernel
theorem d13_309 : decode prog_1_method_2_code 309 = .ok (.iload_n 1, 1) := by decide +kernel
theorem d13_310 : decode prog_1_method_2_code 310 = .ok (.if_icmp .ne 5, 3) := by decide +kernel
theorem d13_313 : decode prog_1_method_2_code 313 = .ok (.iconst 1, 1) := by decide +kernel
theorem d13_314 : decode prog_1_method_2_code 314 = .ok (.ireturn, 1) := by decide +kernel
theorem d13_315 : decode prog_1_method_2_code 315 = .ok (.aload_n 2, 1) := by decide +kernel
theorem d13_316 : decode prog_1_method_2_code 316 = .ok (.iload_n 3, 1) := by decide +kernel
theorem d13_317 : decode prog_1_method_2_code 317 = .ok (.iinc 3 1, 3) := by decide +kernel
theorem d13_320 : decode prog_1_method_2_code 320 = .ok (.lload 7, 2) := by decide +kernel
theorem d13_322 : decode prog_1_method_2_code 322 = .ok (.ldc2_w 9, 3) := by decide +kernel
theorem d13_325 : decode prog_1_method_2_code 325 = .ok (.lcmp, 1) := by decide +kernel
theorem d13_326 : decode prog_1_method_2_code 326 = .ok (.ifCond .ne 7, 3) := by decide +kernel
theorem d13_329 : decode prog_1_method_2_code 329 = .ok (.iconst (-1), 1) := by decide +kernel
theorem d13_330 : decode prog_1_method_2_code 330 = .ok (.goto 16, 3) := by decide +kernel
theorem d13_333 : decode prog_1_method_2_code 333 = .ok (.iload 4, 2) := by decide +kernel
theorem d13_335 : decode prog_1_method_2_code 335 = .ok (.i2l, 1) := by decide +kernel
theorem d13_336 : decode prog_1_method_2_code 336 = .ok (.lload 7, 2) := by decide +kernel
theorem d13_338 : decode prog_1_method_2_code 338 = .ok (.ladd, 1) := by decide +kernel
theorem d13_339 : decode prog_1_method_2_code 339 = .ok (.aload_n 0, 1) := by decide +kernel
theorem d13_340 : decode prog_1_method_2_code 340 = .ok (.arraylength, 1) := by decide +kernel
theorem d13_341 : decode prog_1_method_2_code 341 = .ok (.i2l, 1) := by decide +kernel
theorem d13_342 : decode prog_1_method_2_code 342 = .ok (.invokestatic 11, 3) := by decide +kernel
theorem d13_345 : decode prog_1_method_2_code 345 = .ok (.l2i, 1) := by decide +kernel
theorem d13_346 : decode prog_1_method_2_code 346 = .ok (.iastore, 1) := by decide +kernel
theorem d13_347 : decode prog_1_method_2_code 347 = .ok (.goto (-338), 3) := by decide +kernel
theorem d13_350 : decode prog_1_method_2_code 350 = .ok (.iconst 0, 1) := by decide +kernel
theorem d13_351 : decode prog_1_method_2_code 351 = .ok (.ireturn, 1) := by decide +kernel
theorem pn_13 : plainFor (⟨"com/example/siegelwerk/siegelwerk/BerNesting", "deeperThan", "([BI)Z"⟩ : MethodName) = true := by first | exact plainFor_of_name (by first | (simp [plainName, overriddenIn]; done) | decide +kernel) | decide +kernel
set_option maxRecDepth 65536 in
set_option maxHeartbeats 4000000 in
theorem rm_de (l : Launch) (Z : State) (a0 : Array Value) (hw : ∀ d ∈ tables_1, d.before a0 Z = true) (buf : Addr) (bs : List Nat) (ln : Nat) (R : Bool) (h0 : Heap) (A : Ary Z h0 buf .byte (own_b (bs))) (hb : ∀ i, own_f bs i < 256) (hln : ln ≤ 4) (hr0 : own_p (own_f bs) ln 49 0 [] = R) :
    Met l Z (⟨"com/example/siegelwerk/siegelwerk/BerNesting", "deeperThan", "([BI)Z"⟩ : MethodName) prog_1_method_2_code 13 (some .boolean) [] ({ frames := 1, cells := 1, slots := 4, locals := 17 } : Room) #[(.ref buf), (.int (Int32.ofNat ln))] h0 [] (fun v h => v = some (.int (if R then 1 else 0))) := by
  refine Met.walk pn_13 (Ls := #[.val (.ref buf), .val (.int (Int32.ofNat ln)), .unset, .unset, .unset, .unset, .unset, .unset, .unset, .unset, .unset, .unset, .unset]) (fun m => by first | (simp [entryFrame, mkF, argsToLocals, Value.category, maxLocals]; done) | rfl) ?_
  intro p e s m below meth c B
  refine B.iloadN 1 rfl d13_0 rfl ?_
  refine B.newP 3 rfl d13_1 (wd hw 1 rfl) (own_nn ln (by omega)).1 4 (by rw [(own_nn ln (by omega)).2]; exact hln) (by decide) (by decide) (by decide) ?_
  intro h1 en e_en g_en X_en A_en
  rw [(own_nn ln (by omega)).2] at A_en
  replace A_en : Ary Z h1 en .int (own_ev [] ++ List.replicate ln (Value.int 0)) := A_en
  have A1 := A.ext X_en
  have nbe : buf ≠ en := fun q => absurd A.lt (by rw [q, e_en]; exact Nat.lt_irrefl _)
  show B.G h1 1 4 (mkF m 3 #[.val (.ref buf), .val (.int (Int32.ofNat ln)), .unset, .unset, .unset, .unset, .unset, .unset, .unset, .unset, .unset, .unset, .unset] [(.ref en)])
  refine B.astoreN 4 rfl d13_3 rfl #[.val (.ref buf), .val (.int (Int32.ofNat ln)), .val (.ref en), .unset, .unset, .unset, .unset, .unset, .unset, .unset, .unset, .unset, .unset] rfl ?_
  refine B.iconst 5 rfl (0 : Int32) d13_4 rfl ?_
  refine B.istoreN 6 rfl d13_5 #[.val (.ref buf), .val (.int (Int32.ofNat ln)), .val (.ref en), .val (.int (0 : Int32)), .unset, .unset, .unset, .unset, .unset, .unset, .unset, .unset, .unset] rfl ?_
  refine B.iconst 7 rfl (0 : Int32) d13_6 rfl ?_
  refine B.istore 9 rfl d13_7 #[.val (.ref buf), .val (.int (Int32.ofNat ln)), .val (.ref en), .val (.int (0 : Int32)), .val (.int (0 : Int32)), .unset, .unset, .unset, .unset, .unset, .unset, .unset, .unset] rfl ?_
  have HD : ∀ (f t : Nat) (sk : List (Option Nat)) (rest : List Value) (h : Heap) (g5 g6 g7 g8 g9 g10 g11 g12 : Slot), own_gi g5 → own_gi g6 → own_gl g7 g8 → own_gi g9 → own_gl g10 g11 → own_gi g12 → 48 ≤ t + f → t ≤ 48 → own_ok sk → sk.length + rest.length = ln → Ary Z h buf .byte (own_b bs) → Ary Z h en .int (own_ev sk ++ rest) → own_p (own_f bs) ln f t sk = R → B.G h 1 4 (mkF m 9 #[.val (.ref buf), .val (.int (Int32.ofNat ln)), .val (.ref en), .val (.int (Int32.ofNat (sk.length))), .val (.int (Int32.ofNat t)), g5, g6, g7, g8, g9, g10, g11, g12] []) := by
    intro f
    induction f with
    | zero =>
      intro t sk rest h g5 g6 g7 g8 g9 g10 g11 g12 G5 G6 G7 G9 G10 G12 hf ht hok hlen Ab Ae hr
      refine B.iload 11 rfl d13_9 rfl ?_
      refine B.aloadN 12 rfl d13_11 rfl rfl ?_
      refine B.arrlen 13 rfl d13_12 Ab (48 : Int32) (by rw [own_b_len]; rfl) ?_
      refine B.icmp_ge 350 16 rfl (by decide) rfl d13_13 (fun c13 => ?_) (fun c13 => ?_)
      · have hR : R = false := hr.symm
        refine B.iconst 351 rfl (0 : Int32) d13_350 rfl ?_
        refine B.retN (by simp) d13_351 (by decide) (by decide) ?_
        subst hR
        exact rfl
      · exact absurd ((own_lt (t) (48) (by omega) (by omega)).mp c13) (by omega)
    | succ f ih =>
      intro t sk rest h g5 g6 g7 g8 g9 g10 g11 g12 G5 G6 G7 G9 G10 G12 hf ht hok hlen Ab Ae hr
      by_cases h48 : 48 ≤ t
      · refine B.iload 11 rfl d13_9 rfl ?_
        refine B.aloadN 12 rfl d13_11 rfl rfl ?_
        refine B.arrlen 13 rfl d13_12 Ab (48 : Int32) (by rw [own_b_len]; rfl) ?_
        refine B.icmp_ge 350 16 rfl (by decide) rfl d13_13 (fun c13 => ?_) (fun c13 => ?_)
        · have hR : R = false := by rw [own_p_s, if_pos h48] at hr; exact hr.symm
          refine B.iconst 351 rfl (0 : Int32) d13_350 rfl ?_
          refine B.retN (by simp) d13_351 (by decide) (by decide) ?_
          subst hR
          exact rfl
        · exact absurd ((own_lt (t) (48) (by omega) (by omega)).mp c13) (by omega)
      · rw [own_p_s, if_neg h48] at hr
        have J265 : ∀ (t2 id : Nat) (len : Option Nat) (sk : List (Option Nat)) (rest : List Value) (z6 : Int32) (g9 g10 g11 g12 : Slot), own_gi g9 → own_gl g10 g11 → own_gi g12 → t < t2 → t2 ≤ 48 → id < 256 → (∀ v, len = some v → v < 4294967296) → own_ok sk → sk.length + rest.length = ln → Ary Z h en .int (own_ev sk ++ rest) → own_h ln (own_p (own_f bs) ln f) t2 id len sk = R → B.G h 1 4 (mkF m 265 #[.val (.ref buf), .val (.int (Int32.ofNat ln)), .val (.ref en), .val (.int (Int32.ofNat (sk.length))), .val (.int (Int32.ofNat t2)), .val (.int (Int32.ofNat id)), .val (.int z6), .val (.long (own_lv len)), .second, g9, g10, g11, g12] []) := by
          intro t2 id len sk rest z6 g9 g10 g11 g12 G9 G10 G12 q1 q2 q3 q4 hok hlen Ae hr
          unfold own_h at hr
          by_cases qp : id / 32 % 2 = 0
          · rw [if_pos qp] at hr
            refine B.iload 267 rfl d13_265 rfl ?_
            refine B.bipush 269 rfl (32 : Int32) d13_267 rfl ?_
            refine B.iand 270 rfl d13_269 ?_
            refine B.if0_ne 308 273 rfl (by decide) rfl d13_270 (fun c270 => ?_) (fun c270 => ?_)
            · exact absurd ((own_a32 id q3).mpr qp) c270
            · cases len with
              | none =>
                show B.G h 1 4 (mkF m 273 #[.val (.ref buf), .val (.int (Int32.ofNat ln)), .val (.ref en), .val (.int (Int32.ofNat (sk.length))), .val (.int (Int32.ofNat t2)), .val (.int (Int32.ofNat id)), .val (.int z6), .val (.long (-1 : Int64)), .second, g9, g10, g11, g12] [])
                refine B.lload 275 rfl d13_273 rfl ?_
                refine B.ldc2J 278 rfl d13_275 (wd hw 44 rfl) ?_
                refine B.lcmp 279 rfl d13_278 ?_
                refine B.lif_eq 295 282 rfl (by decide) rfl d13_279 (fun c279 => ?_) (fun c279 => ?_)
                · have hR : R = false := hr.symm
                  refine B.iconst 296 rfl (0 : Int32) d13_295 rfl ?_
                  refine B.retN (by simp) d13_296 (by decide) (by decide) ?_
                  subst hR
                  exact rfl
                · exact absurd rfl c279
              | some v =>
                have q5 := q4 v rfl
                show B.G h 1 4 (mkF m 273 #[.val (.ref buf), .val (.int (Int32.ofNat ln)), .val (.ref en), .val (.int (Int32.ofNat (sk.length))), .val (.int (Int32.ofNat t2)), .val (.int (Int32.ofNat id)), .val (.int z6), .val (.long (Int64.ofNat v)), .second, g9, g10, g11, g12] [])
                replace hr : (if 48 < t2 + v then false else own_p (own_f bs) ln f (t2 + v) sk) = R := hr
                refine B.lload 275 rfl d13_273 rfl ?_
                refine B.ldc2J 278 rfl d13_275 (wd hw 44 rfl) ?_
                refine B.lcmp 279 rfl d13_278 ?_
                refine B.lif_eq 295 282 rfl (by decide) rfl d13_279 (fun c279 => ?_) (fun c279 => ?_)
                · exact absurd c279 (own_lm1 v (by omega))
                · refine B.iload 284 rfl d13_282 rfl ?_
                  refine B.i2l 285 rfl d13_284 ?_
                  refine B.lload 287 rfl d13_285 rfl ?_
                  refine B.ladd 288 rfl d13_287 ?_
                  refine B.topL (Int64.ofNat (t2 + v)) (by rw [own_i2l t2 (by omega), own_ladd]) ?_
                  refine B.aloadN 289 rfl d13_288 rfl rfl ?_
                  refine B.arrlen 290 rfl d13_289 Ab (48 : Int32) (by rw [own_b_len]; rfl) ?_
                  refine B.i2l 291 rfl d13_290 ?_
                  refine B.topL (Int64.ofNat 48) (rfl) ?_
                  refine B.lcmp 292 rfl d13_291 ?_
                  refine B.lif_le 297 295 rfl (by decide) rfl d13_292 (fun c292 => ?_) (fun c292 => ?_)
                  · have n1 : ¬ 48 < t2 + v := fun z => c292 ((own_llt 48 (t2 + v) (by omega) (by omega)).mpr z)
                    rw [if_neg n1] at hr
                    refine B.iload 299 rfl d13_297 rfl ?_
                    refine B.lload 301 rfl d13_299 rfl ?_
                    refine B.l2i 302 rfl d13_301 ?_
                    refine B.iadd 303 rfl d13_302 ?_
                    refine B.topI (Int32.ofNat (t2 + v)) (by rw [own_l2i v (by omega), own_add]) ?_
                    refine B.istore 305 rfl d13_303 #[.val (.ref buf), .val (.int (Int32.ofNat ln)), .val (.ref en), .val (.int (Int32.ofNat (sk.length))), .val (.int (Int32.ofNat (t2 + v))), .val (.int (Int32.ofNat id)), .val (.int z6), .val (.long (Int64.ofNat v)), .second, g9, g10, g11, g12] rfl ?_
                    refine B.goto 347 rfl (by decide) d13_305 ?_
                    refine B.goto 9 rfl (by decide) d13_347 ?_
                    exact ih (t2 + v) sk rest h _ _ _ _ _ _ _ _ (own_gi_v _) (own_gi_v _) (own_gl_v _) G9 G10 G12 (by omega) (by omega) hok hlen Ab Ae hr
                  · have hR : R = false := by rw [if_pos ((own_llt 48 (t2 + v) (by omega) (by omega)).mp c292)] at hr; exact hr.symm
                    refine B.iconst 296 rfl (0 : Int32) d13_295 rfl ?_
                    refine B.retN (by simp) d13_296 (by decide) (by decide) ?_
                    subst hR
                    exact rfl
          · rw [if_neg qp] at hr
            refine B.iload 267 rfl d13_265 rfl ?_
            refine B.bipush 269 rfl (32 : Int32) d13_267 rfl ?_
            refine B.iand 270 rfl d13_269 ?_
            refine B.if0_ne 308 273 rfl (by decide) rfl d13_270 (fun c270 => ?_) (fun c270 => ?_)
            · refine B.iloadN 309 rfl d13_308 rfl ?_
              refine B.iloadN 310 rfl d13_309 rfl ?_
              refine B.icmp_ne 315 313 rfl (by decide) rfl d13_310 (fun c310 => ?_) (fun c310 => ?_)
              · have qn : ¬ sk.length = ln := fun z => c310 (by rw [z])
                rw [if_neg qn] at hr
                obtain ⟨y, rest2, rfl⟩ : ∃ y r2, rest = y :: r2 := by
                  cases rest with
                  | nil => exact absurd hlen qn
                  | cons y r2 => exact ⟨y, r2, rfl⟩
                have hl2 : sk.length + (rest2.length + 1) = ln := hlen
                refine B.aloadN 316 rfl d13_315 rfl rfl ?_
                refine B.iloadN 317 rfl d13_316 rfl ?_
                refine B.iinc 320 rfl (1 : Int32) d13_317 rfl rfl #[.val (.ref buf), .val (.int (Int32.ofNat ln)), .val (.ref en), .val (.int (Int32.ofNat (sk.length + 1))), .val (.int (Int32.ofNat t2)), .val (.int (Int32.ofNat id)), .val (.int z6), .val (.long (own_lv len)), .second, g9, g10, g11, g12] (by rw [show (Int32.ofNat (sk.length)) + (1 : Int32) = (Int32.ofNat (sk.length + 1)) from own_add _ 1]; rfl) ?_
                cases len with
                | none =>
                  show B.G h 1 4 (mkF m 320 #[.val (.ref buf), .val (.int (Int32.ofNat ln)), .val (.ref en), .val (.int (Int32.ofNat (sk.length + 1))), .val (.int (Int32.ofNat t2)), .val (.int (Int32.ofNat id)), .val (.int z6), .val (.long (-1 : Int64)), .second, g9, g10, g11, g12] [(.int (Int32.ofNat (sk.length))), (.ref en)])
                  refine B.lload 322 rfl d13_320 rfl ?_
                  refine B.ldc2J 325 rfl d13_322 (wd hw 44 rfl) ?_
                  refine B.lcmp 326 rfl d13_325 ?_
                  refine B.lif_ne 333 329 rfl (by decide) rfl d13_326 (fun c326 => ?_) (fun c326 => ?_)
                  · exact absurd rfl c326
                  · refine B.iconst 330 rfl (-1 : Int32) d13_329 rfl ?_
                    refine B.goto 346 rfl (by decide) d13_330 ?_
                    refine B.iastore 347 rfl d13_346 Ae (own_nn sk.length (by omega)).1 sk.length (own_nn sk.length (by omega)).2 (by rw [List.length_append, own_ev_len, List.length_cons]; omega) (Or.inr g_en) ?_
                    intro h2 W2 A2
                    replace A2 : Ary Z h2 en .int ((own_ev sk ++ y :: rest2).set sk.length (.int (own_xv none))) := A2
                    rw [own_ev_set] at A2
                    refine B.goto 9 rfl (by decide) d13_347 ?_
                    exact ih t2 (none :: sk) rest2 h2 _ _ _ _ _ _ _ _ (own_gi_v _) (own_gi_v _) (own_gl_v _) G9 G10 G12 (by omega) (by omega) (fun k z => by rcases List.mem_cons.mp z with z | z; cases z; exact hok k z) (by rw [List.length_cons]; omega) (Ab.other W2 nbe) A2 hr
                | some v =>
                  have q5 := q4 v rfl
                  show B.G h 1 4 (mkF m 320 #[.val (.ref buf), .val (.int (Int32.ofNat ln)), .val (.ref en), .val (.int (Int32.ofNat (sk.length + 1))), .val (.int (Int32.ofNat t2)), .val (.int (Int32.ofNat id)), .val (.int z6), .val (.long (Int64.ofNat v)), .second, g9, g10, g11, g12] [(.int (Int32.ofNat (sk.length))), (.ref en)])
                  refine B.lload 322 rfl d13_320 rfl ?_
                  refine B.ldc2J 325 rfl d13_322 (wd hw 44 rfl) ?_
                  refine B.lcmp 326 rfl d13_325 ?_
                  refine B.lif_ne 333 329 rfl (by decide) rfl d13_326 (fun c326 => ?_) (fun c326 => ?_)
                  · refine B.iload 335 rfl d13_333 rfl ?_
                    refine B.i2l 336 rfl d13_335 ?_
                    refine B.lload 338 rfl d13_336 rfl ?_
                    refine B.ladd 339 rfl d13_338 ?_
                    refine B.topL (Int64.ofNat (t2 + v)) (by rw [own_i2l t2 (by omega), own_ladd]) ?_
                    refine B.aloadN 340 rfl d13_339 rfl rfl ?_
                    refine B.arrlen 341 rfl d13_340 Ab (48 : Int32) (by rw [own_b_len]; rfl) ?_
                    refine B.i2l 342 rfl d13_341 ?_
                    refine B.topL (Int64.ofNat 48) (rfl) ?_
                    refine B.callS 345 rfl d13_342 (wd hw 62 rfl) (wd hw 63 rfl) (wd hw 38 rfl) (wd hw 64 rfl) (by decide) [(.long (Int64.ofNat (t2 + v))), (.long (Int64.ofNat 48))] [(.int (Int32.ofNat (sk.length))), (.ref en)] (rm_min l Z a0 hw (t2 + v) 48 h (by omega) (by omega)) rfl rfl pd__JJ_J rfl rfl 2 rfl (by decide) (by decide) (by decide) (by decide) (fun _ q => nomatch q) ?_
                    rintro _ _ - ⟨rfl, rfl⟩
                    show B.G h 1 4 (mkF m 345 #[.val (.ref buf), .val (.int (Int32.ofNat ln)), .val (.ref en), .val (.int (Int32.ofNat (sk.length + 1))), .val (.int (Int32.ofNat t2)), .val (.int (Int32.ofNat id)), .val (.int z6), .val (.long (Int64.ofNat v)), .second, g9, g10, g11, g12] [(.long (Int64.ofNat (min (t2 + v) 48))), (.int (Int32.ofNat (sk.length))), (.ref en)])
                    refine B.l2i 346 rfl d13_345 ?_
                    refine B.topI (Int32.ofNat (min (t2 + v) 48)) (own_l2i _ (by omega)) ?_
                    refine B.iastore 347 rfl d13_346 Ae (own_nn sk.length (by omega)).1 sk.length (own_nn sk.length (by omega)).2 (by rw [List.length_append, own_ev_len, List.length_cons]; omega) (Or.inr g_en) ?_
                    intro h2 W2 A2
                    replace A2 : Ary Z h2 en .int ((own_ev sk ++ y :: rest2).set sk.length (.int (own_xv (some (min (t2 + v) 48))))) := A2
                    rw [own_ev_set] at A2
                    refine B.goto 9 rfl (by decide) d13_347 ?_
                    exact ih t2 (some (min (t2 + v) 48) :: sk) rest2 h2 _ _ _ _ _ _ _ _ (own_gi_v _) (own_gi_v _) (own_gl_v _) G9 G10 G12 (by omega) (by omega) (fun k z => by rcases List.mem_cons.mp z with z | z; cases z; omega; exact hok k z) (by rw [List.length_cons]; omega) (Ab.other W2 nbe) A2 hr
                  · exact absurd c326 (own_lm1 v (by omega))
              · have hR : R = true := by rw [if_pos ((own_inj _ _ (by omega) (by omega)).mp c310)] at hr; exact hr.symm
                refine B.iconst 314 rfl (1 : Int32) d13_313 rfl ?_
                refine B.retN (by simp) d13_314 (by decide) (by decide) ?_
                subst hR
                exact rfl
            · exact absurd ((own_a32 id q3).mp c270) qp
        have J142 : ∀ (t1 id : Nat) (sk : List (Option Nat)) (rest : List Value), t < t1 → t1 ≤ 49 → id < 256 → own_ok sk → sk.length + rest.length = ln → Ary Z h en .int (own_ev sk ++ rest) → own_e (own_f bs) ln (own_p (own_f bs) ln f) t1 id sk = R → B.G h 1 4 (mkF m 142 #[.val (.ref buf), .val (.int (Int32.ofNat ln)), .val (.ref en), .val (.int (Int32.ofNat (sk.length))), .val (.int (Int32.ofNat t1)), .val (.int (Int32.ofNat id)), g6, g7, g8, g9, g10, g11, g12] []) := by
          intro t1 id sk rest q1 q2 q3 hok hlen Ae hr
          unfold own_e at hr
          refine B.iload 144 rfl d13_142 rfl ?_
          refine B.aloadN 145 rfl d13_144 rfl rfl ?_
          refine B.arrlen 146 rfl d13_145 Ab (48 : Int32) (by rw [own_b_len]; rfl) ?_
          refine B.icmp_lt 151 149 rfl (by decide) rfl d13_146 (fun c146 => ?_) (fun c146 => ?_)
          · have n1 : t1 < 48 := (own_lt (t1) (48) (by omega) (by omega)).mp c146
            rw [if_neg (by omega)] at hr
            obtain ⟨bb, hbb⟩ : ∃ z, own_f bs t1 = z := ⟨_, rfl⟩
            have hb1 : bb < 256 := hbb ▸ hb t1
            rw [hbb] at hr
            refine B.aloadN 152 rfl d13_151 rfl rfl ?_
            refine B.iload 154 rfl d13_152 rfl ?_
            refine B.iinc 157 rfl (1 : Int32) d13_154 rfl rfl #[.val (.ref buf), .val (.int (Int32.ofNat ln)), .val (.ref en), .val (.int (Int32.ofNat (sk.length))), .val (.int (Int32.ofNat (t1 + 1))), .val (.int (Int32.ofNat id)), g6, g7, g8, g9, g10, g11, g12] (by rw [show (Int32.ofNat t1) + (1 : Int32) = (Int32.ofNat (t1 + 1)) from own_add _ 1]; rfl) ?_
            refine B.baload 158 rfl d13_157 Ab (own_nn (t1) (by omega)).1 (t1) (own_nn (t1) (by omega)).2 (.int (own_by (own_f bs (t1)))) (own_b_get bs (t1) (n1)) ?_
            refine B.sipush 161 rfl (255 : Int32) d13_158 rfl ?_
            refine B.iand 162 rfl d13_161 ?_
            refine B.topI (Int32.ofNat bb) (by rw [hbb]; exact own_by_and bb hb1) ?_
            refine B.istore 164 rfl d13_162 #[.val (.ref buf), .val (.int (Int32.ofNat ln)), .val (.ref en), .val (.int (Int32.ofNat (sk.length))), .val (.int (Int32.ofNat (t1 + 1))), .val (.int (Int32.ofNat id)), .val (.int (Int32.ofNat bb)), g7, g8, g9, g10, g11, g12] (by rcases G6 with rfl | ⟨z, rfl⟩ <;> rfl) ?_
            refine B.iload 166 rfl d13_164 rfl ?_
            refine B.sipush 169 rfl (128 : Int32) d13_166 rfl ?_
            refine B.icmp_ne 180 172 rfl (by decide) rfl d13_169 (fun c169 => ?_) (fun c169 => ?_)
            · have e1 : ¬ bb = 128 := fun z => c169 (by rw [z]; rfl)
              rw [if_neg e1] at hr
              refine B.iload 182 rfl d13_180 rfl ?_
              refine B.sipush 185 rfl (128 : Int32) d13_182 rfl ?_
              refine B.icmp_ge 196 188 rfl (by decide) rfl d13_185 (fun c185 => ?_) (fun c185 => ?_)
              · have e2 : ¬ bb < 128 := fun z => c185 ((own_lt (bb) (128) (by omega) (by omega)).mpr z)
                rw [if_neg e2] at hr
                obtain ⟨cn, hcn⟩ : ∃ z, bb - 128 = z := ⟨_, rfl⟩
                rw [hcn] at hr
                refine B.iload 198 rfl d13_196 rfl ?_
                refine B.sipush 201 rfl (-129 : Int32) d13_198 rfl ?_
                refine B.iand 202 rfl d13_201 ?_
                refine B.topI (Int32.ofNat cn) (by rw [own_n129 bb hb1 (by omega), hcn]) ?_
                refine B.istore 204 rfl d13_202 #[.val (.ref buf), .val (.int (Int32.ofNat ln)), .val (.ref en), .val (.int (Int32.ofNat (sk.length))), .val (.int (Int32.ofNat (t1 + 1))), .val (.int (Int32.ofNat id)), .val (.int (Int32.ofNat bb)), g7, g8, .val (.int (Int32.ofNat cn)), g10, g11, g12] (by rcases G9 with rfl | ⟨z, rfl⟩ <;> rfl) ?_
                refine B.iload 206 rfl d13_204 rfl ?_
                refine B.iconst 207 rfl (4 : Int32) d13_206 rfl ?_
                refine B.icmp_gt 220 210 rfl (by decide) rfl d13_207 (fun c207 => ?_) (fun c207 => ?_)
                · have hR : R = false := by rw [if_pos ((own_lt (4) (cn) (by omega) (by omega)).mp c207)] at hr; exact hr.symm
                  refine B.iconst 221 rfl (0 : Int32) d13_220 rfl ?_
                  refine B.retN (by simp) d13_221 (by decide) (by decide) ?_
                  subst hR
                  exact rfl
                · have e3 : ¬ 4 < cn := fun z => c207 ((own_lt (4) (cn) (by omega) (by omega)).mpr z)
                  rw [if_neg e3] at hr
                  refine B.iload 212 rfl d13_210 rfl ?_
                  refine B.iload 214 rfl d13_212 rfl ?_
                  refine B.iadd 215 rfl d13_214 ?_
                  refine B.topI (Int32.ofNat (t1 + 1 + cn)) (own_add _ _) ?_
                  refine B.aloadN 216 rfl d13_215 rfl rfl ?_
                  refine B.arrlen 217 rfl d13_216 Ab (48 : Int32) (by rw [own_b_len]; rfl) ?_
                  refine B.icmp_le 222 220 rfl (by decide) rfl d13_217 (fun c217 => ?_) (fun c217 => ?_)
                  · have e4 : ¬ 48 < t1 + 1 + cn := fun z => c217 ((own_lt (48) (t1 + 1 + cn) (by omega) (by omega)).mpr z)
                    rw [if_neg e4] at hr
                    refine B.lconst 223 rfl (0 : Int64) d13_222 rfl ?_
                    refine B.lstore 225 rfl d13_223 #[.val (.ref buf), .val (.int (Int32.ofNat ln)), .val (.ref en), .val (.int (Int32.ofNat (sk.length))), .val (.int (Int32.ofNat (t1 + 1))), .val (.int (Int32.ofNat id)), .val (.int (Int32.ofNat bb)), g7, g8, .val (.int (Int32.ofNat cn)), .val (.long (0 : Int64)), .second, g12] (by rcases G10 with ⟨rfl, rfl⟩ | ⟨z, rfl, rfl⟩ <;> rfl) ?_
                    refine B.iconst 226 rfl (0 : Int32) d13_225 rfl ?_
                    refine B.istore 228 rfl d13_226 #[.val (.ref buf), .val (.int (Int32.ofNat ln)), .val (.ref en), .val (.int (Int32.ofNat (sk.length))), .val (.int (Int32.ofNat (t1 + 1))), .val (.int (Int32.ofNat id)), .val (.int (Int32.ofNat bb)), g7, g8, .val (.int (Int32.ofNat cn)), .val (.long (0 : Int64)), .second, .val (.int (0 : Int32))] (by rcases G12 with rfl | ⟨z, rfl⟩ <;> rfl) ?_
                    have J228 : ∀ (j i v tt : Nat), i + j = cn → tt + j = t1 + 1 + cn → v < 256 ^ i → own_h ln (own_p (own_f bs) ln f) (t1 + 1 + cn) id (some (own_be (own_f bs) j tt v)) sk = R → B.G h 1 4 (mkF m 228 #[.val (.ref buf), .val (.int (Int32.ofNat ln)), .val (.ref en), .val (.int (Int32.ofNat (sk.length))), .val (.int (Int32.ofNat tt)), .val (.int (Int32.ofNat id)), .val (.int (Int32.ofNat bb)), g7, g8, .val (.int (Int32.ofNat cn)), .val (.long (Int64.ofNat v)), .second, .val (.int (Int32.ofNat i))] []) := by
                      intro j
                      induction j with
                      | zero =>
                        intro i v tt p1 p2 p3 hr2
                        obtain rfl : tt = t1 + 1 + cn := p2
                        have p4 : v < 4294967296 := Nat.lt_of_lt_of_le p3 (Nat.le_trans (Nat.pow_le_pow_right (by decide) (show i ≤ 4 by omega)) (by decide))
                        refine B.iload 230 rfl d13_228 rfl ?_
                        refine B.iload 232 rfl d13_230 rfl ?_
                        refine B.icmp_ge 261 235 rfl (by decide) rfl d13_232 (fun c232 => ?_) (fun c232 => ?_)
                        · refine B.lload 263 rfl d13_261 rfl ?_
                          refine B.lstore 265 rfl d13_263 #[.val (.ref buf), .val (.int (Int32.ofNat ln)), .val (.ref en), .val (.int (Int32.ofNat (sk.length))), .val (.int (Int32.ofNat (t1 + 1 + cn))), .val (.int (Int32.ofNat id)), .val (.int (Int32.ofNat bb)), .val (.long (Int64.ofNat v)), .second, .val (.int (Int32.ofNat cn)), .val (.long (Int64.ofNat v)), .second, .val (.int (Int32.ofNat i))] (by rcases G7 with ⟨rfl, rfl⟩ | ⟨z, rfl, rfl⟩ <;> rfl) ?_
                          exact J265 (t1 + 1 + cn) id (some v) sk rest _ _ _ _ _ (own_gi_v _) (own_gl_v _) (own_gi_v _) (by omega) (by omega) q3 (by intro v2 z; cases z; exact p4) hok hlen Ae hr2
                        · exact absurd ((own_lt (i) (cn) (by omega) (by omega)).mp c232) (by omega)
                      | succ j ihj =>
                        intro i v tt p1 p2 p3 hr2
                        have p4 : v < 16777216 := Nat.lt_of_lt_of_le p3 (Nat.le_trans (Nat.pow_le_pow_right (by decide) (show i ≤ 3 by omega)) (by decide))
                        have p5 := hb tt
                        refine B.iload 230 rfl d13_228 rfl ?_
                        refine B.iload 232 rfl d13_230 rfl ?_
                        refine B.icmp_ge 261 235 rfl (by decide) rfl d13_232 (fun c232 => ?_) (fun c232 => ?_)
                        · exact absurd ((own_lt (i) (cn) (by omega) (by omega)).mpr (by omega)) c232
                        · refine B.lload 237 rfl d13_235 rfl ?_
                          refine B.bipush 239 rfl (8 : Int32) d13_237 rfl ?_
                          refine B.lshl 240 rfl d13_239 ?_
                          refine B.aloadN 241 rfl d13_240 rfl rfl ?_
                          refine B.iload 243 rfl d13_241 rfl ?_
                          refine B.iinc 246 rfl (1 : Int32) d13_243 rfl rfl #[.val (.ref buf), .val (.int (Int32.ofNat ln)), .val (.ref en), .val (.int (Int32.ofNat (sk.length))), .val (.int (Int32.ofNat (tt + 1))), .val (.int (Int32.ofNat id)), .val (.int (Int32.ofNat bb)), g7, g8, .val (.int (Int32.ofNat cn)), .val (.long (Int64.ofNat v)), .second, .val (.int (Int32.ofNat i))] (by rw [show (Int32.ofNat tt) + (1 : Int32) = (Int32.ofNat (tt + 1)) from own_add _ 1]; rfl) ?_
                          refine B.baload 247 rfl d13_246 Ab (own_nn (tt) (by omega)).1 (tt) (own_nn (tt) (by omega)).2 (.int (own_by (own_f bs (tt)))) (own_b_get bs (tt) (by omega)) ?_
                          refine B.sipush 250 rfl (255 : Int32) d13_247 rfl ?_
                          refine B.iand 251 rfl d13_250 ?_
                          refine B.topI (Int32.ofNat (own_f bs tt)) (own_by_and _ (hb tt)) ?_
                          refine B.i2l 252 rfl d13_251 ?_
                          refine B.lor 253 rfl d13_252 ?_
                          refine B.topL (Int64.ofNat (v * 256 + own_f bs tt)) (own_acc v _ p4 p5) ?_
                          refine B.lstore 255 rfl d13_253 #[.val (.ref buf), .val (.int (Int32.ofNat ln)), .val (.ref en), .val (.int (Int32.ofNat (sk.length))), .val (.int (Int32.ofNat (tt + 1))), .val (.int (Int32.ofNat id)), .val (.int (Int32.ofNat bb)), g7, g8, .val (.int (Int32.ofNat cn)), .val (.long (Int64.ofNat (v * 256 + own_f bs tt))), .second, .val (.int (Int32.ofNat i))] rfl ?_
                          refine B.iinc 258 rfl (1 : Int32) d13_255 rfl rfl #[.val (.ref buf), .val (.int (Int32.ofNat ln)), .val (.ref en), .val (.int (Int32.ofNat (sk.length))), .val (.int (Int32.ofNat (tt + 1))), .val (.int (Int32.ofNat id)), .val (.int (Int32.ofNat bb)), g7, g8, .val (.int (Int32.ofNat cn)), .val (.long (Int64.ofNat (v * 256 + own_f bs tt))), .second, .val (.int (Int32.ofNat (i + 1)))] (by rw [show (Int32.ofNat i) + (1 : Int32) = (Int32.ofNat (i + 1)) from own_add _ 1]; rfl) ?_
                          refine B.goto 228 rfl (by decide) d13_258 ?_
                          exact ihj (i + 1) (v * 256 + own_f bs tt) (tt + 1) (by omega) (by omega) (by rw [Nat.pow_succ]; omega) hr2
                    exact J228 cn 0 0 (t1 + 1) (by omega) (by omega) (by decide) hr
                  · have hR : R = false := by rw [if_pos ((own_lt (48) (t1 + 1 + cn) (by omega) (by omega)).mp c217)] at hr; exact hr.symm
                    refine B.iconst 221 rfl (0 : Int32) d13_220 rfl ?_
                    refine B.retN (by simp) d13_221 (by decide) (by decide) ?_
                    subst hR
                    exact rfl
              · have e2 : bb < 128 := (own_lt (bb) (128) (by omega) (by omega)).mp c185
                rw [if_pos e2] at hr
                refine B.iload 190 rfl d13_188 rfl ?_
                refine B.i2l 191 rfl d13_190 ?_
                refine B.topL (Int64.ofNat bb) (own_i2l bb (by omega)) ?_
                refine B.lstore 193 rfl d13_191 #[.val (.ref buf), .val (.int (Int32.ofNat ln)), .val (.ref en), .val (.int (Int32.ofNat (sk.length))), .val (.int (Int32.ofNat (t1 + 1))), .val (.int (Int32.ofNat id)), .val (.int (Int32.ofNat bb)), .val (.long (Int64.ofNat bb)), .second, g9, g10, g11, g12] (by rcases G7 with ⟨rfl, rfl⟩ | ⟨z, rfl, rfl⟩ <;> rfl) ?_
                refine B.goto 265 rfl (by decide) d13_193 ?_
                exact J265 (t1 + 1) id (some bb) sk rest _ _ _ _ _ G9 G10 G12 (by omega) (by omega) q3 (by intro v z; cases z; omega) hok hlen Ae hr
            · have e1 : bb = 128 := (own_inj bb 128 (by omega) (by omega)).mp c169
              rw [if_pos e1] at hr
              refine B.ldc2J 175 rfl d13_172 (wd hw 44 rfl) ?_
              refine B.lstore 177 rfl d13_175 #[.val (.ref buf), .val (.int (Int32.ofNat ln)), .val (.ref en), .val (.int (Int32.ofNat (sk.length))), .val (.int (Int32.ofNat (t1 + 1))), .val (.int (Int32.ofNat id)), .val (.int (Int32.ofNat bb)), .val (.long (-1 : Int64)), .second, g9, g10, g11, g12] (by rcases G7 with ⟨rfl, rfl⟩ | ⟨z, rfl, rfl⟩ <;> rfl) ?_
              refine B.goto 265 rfl (by decide) d13_177 ?_
              exact J265 (t1 + 1) id none sk rest _ _ _ _ _ G9 G10 G12 (by omega) (by omega) q3 (by intro v z; cases z) hok hlen Ae hr
          · have n1 : ¬ t1 < 48 := fun z => c146 ((own_lt (t1) (48) (by omega) (by omega)).mpr z)
            have hR : R = false := by rw [if_pos (by omega)] at hr; exact hr.symm
            refine B.iconst 150 rfl (0 : Int32) d13_149 rfl ?_
            refine B.retN (by simp) d13_150 (by decide) (by decide) ?_
            subst hR
            exact rfl
        have J92 : ∀ (sk : List (Option Nat)) (rest : List Value), own_ok sk → sk.length + rest.length = ln → Ary Z h en .int (own_ev sk ++ rest) → own_d (own_f bs) ln (own_p (own_f bs) ln f) t sk = R → B.G h 1 4 (mkF m 92 #[.val (.ref buf), .val (.int (Int32.ofNat ln)), .val (.ref en), .val (.int (Int32.ofNat (sk.length))), .val (.int (Int32.ofNat t)), g5, g6, g7, g8, g9, g10, g11, g12] []) := by
          intro sk rest hok hlen Ae hr
          unfold own_d at hr
          obtain ⟨bb, hbb⟩ : ∃ z, own_f bs t = z := ⟨_, rfl⟩
          have hb1 : bb < 256 := hbb ▸ hb t
          rw [hbb] at hr
          refine B.aloadN 93 rfl d13_92 rfl rfl ?_
          refine B.iload 95 rfl d13_93 rfl ?_
          refine B.iinc 98 rfl (1 : Int32) d13_95 rfl rfl #[.val (.ref buf), .val (.int (Int32.ofNat ln)), .val (.ref en), .val (.int (Int32.ofNat (sk.length))), .val (.int (Int32.ofNat (t + 1))), g5, g6, g7, g8, g9, g10, g11, g12] (by rw [show (Int32.ofNat t) + (1 : Int32) = (Int32.ofNat (t + 1)) from own_add _ 1]; rfl) ?_
          refine B.baload 99 rfl d13_98 Ab (own_nn (t) (by omega)).1 (t) (own_nn (t) (by omega)).2 (.int (own_by (own_f bs (t)))) (own_b_get bs (t) (by omega)) ?_
          refine B.sipush 102 rfl (255 : Int32) d13_99 rfl ?_
          refine B.iand 103 rfl d13_102 ?_
          refine B.topI (Int32.ofNat bb) (by rw [hbb]; exact own_by_and bb hb1) ?_
          refine B.istore 105 rfl d13_103 #[.val (.ref buf), .val (.int (Int32.ofNat ln)), .val (.ref en), .val (.int (Int32.ofNat (sk.length))), .val (.int (Int32.ofNat (t + 1))), .val (.int (Int32.ofNat bb)), g6, g7, g8, g9, g10, g11, g12] (by rcases G5 with rfl | ⟨z, rfl⟩ <;> rfl) ?_
          refine B.iload 107 rfl d13_105 rfl ?_
          refine B.bipush 109 rfl (31 : Int32) d13_107 rfl ?_
          refine B.iand 110 rfl d13_109 ?_
          refine B.bipush 112 rfl (31 : Int32) d13_110 rfl ?_
          refine B.icmp_ne 142 115 rfl (by decide) rfl d13_112 (fun c112 => ?_) (fun c112 => ?_)
          · have e1 : ¬ bb % 32 = 31 := fun z => c112 ((own_a31 bb hb1).mpr z)
            rw [if_neg e1] at hr
            exact J142 (t + 1) bb sk rest (by omega) (by omega) hb1 hok hlen Ae hr
          · have e1 : bb % 32 = 31 := (own_a31 bb hb1).mp c112
            rw [if_pos e1] at hr
            have J115 : ∀ (n tt : Nat), t < tt → tt ≤ 48 → 48 ≤ tt + n → own_e (own_f bs) ln (own_p (own_f bs) ln f) (own_skip (own_f bs) n tt + 1) bb sk = R → B.G h 1 4 (mkF m 115 #[.val (.ref buf), .val (.int (Int32.ofNat ln)), .val (.ref en), .val (.int (Int32.ofNat (sk.length))), .val (.int (Int32.ofNat tt)), .val (.int (Int32.ofNat bb)), g6, g7, g8, g9, g10, g11, g12] []) := by
              intro n
              induction n with
              | zero =>
                intro tt p1 p2 p3 hr2
                refine B.iload 117 rfl d13_115 rfl ?_
                refine B.aloadN 118 rfl d13_117 rfl rfl ?_
                refine B.arrlen 119 rfl d13_118 Ab (48 : Int32) (by rw [own_b_len]; rfl) ?_
                refine B.icmp_ge 139 122 rfl (by decide) rfl d13_119 (fun c119 => ?_) (fun c119 => ?_)
                · refine B.iinc 142 rfl (1 : Int32) d13_139 rfl rfl #[.val (.ref buf), .val (.int (Int32.ofNat ln)), .val (.ref en), .val (.int (Int32.ofNat (sk.length))), .val (.int (Int32.ofNat (tt + 1))), .val (.int (Int32.ofNat bb)), g6, g7, g8, g9, g10, g11, g12] (by rw [show (Int32.ofNat tt) + (1 : Int32) = (Int32.ofNat (tt + 1)) from own_add _ 1]; rfl) ?_
                  exact J142 (tt + 1) bb sk rest (by omega) (by omega) hb1 hok hlen Ae hr2
                · exact absurd ((own_lt (tt) (48) (by omega) (by omega)).mp c119) (by omega)
              | succ n ihn =>
                intro tt p1 p2 p3 hr2
                rw [own_skip_s] at hr2
                refine B.iload 117 rfl d13_115 rfl ?_
                refine B.aloadN 118 rfl d13_117 rfl rfl ?_
                refine B.arrlen 119 rfl d13_118 Ab (48 : Int32) (by rw [own_b_len]; rfl) ?_
                refine B.icmp_ge 139 122 rfl (by decide) rfl d13_119 (fun c119 => ?_) (fun c119 => ?_)
                · have n1 : ¬ tt < 48 := fun z => c119 ((own_lt (tt) (48) (by omega) (by omega)).mpr z)
                  rw [if_neg (fun z => n1 z.1)] at hr2
                  refine B.iinc 142 rfl (1 : Int32) d13_139 rfl rfl #[.val (.ref buf), .val (.int (Int32.ofNat ln)), .val (.ref en), .val (.int (Int32.ofNat (sk.length))), .val (.int (Int32.ofNat (tt + 1))), .val (.int (Int32.ofNat bb)), g6, g7, g8, g9, g10, g11, g12] (by rw [show (Int32.ofNat tt) + (1 : Int32) = (Int32.ofNat (tt + 1)) from own_add _ 1]; rfl) ?_
                  exact J142 (tt + 1) bb sk rest (by omega) (by omega) hb1 hok hlen Ae hr2
                · have n1 : tt < 48 := (own_lt (tt) (48) (by omega) (by omega)).mp c119
                  refine B.aloadN 123 rfl d13_122 rfl rfl ?_
                  refine B.iload 125 rfl d13_123 rfl ?_
                  refine B.baload 126 rfl d13_125 Ab (own_nn (tt) (by omega)).1 (tt) (own_nn (tt) (by omega)).2 (.int (own_by (own_f bs (tt)))) (own_b_get bs (tt) (n1)) ?_
                  refine B.sipush 129 rfl (128 : Int32) d13_126 rfl ?_
                  refine B.iand 130 rfl d13_129 ?_
                  refine B.if0_eq 139 133 rfl (by decide) rfl d13_130 (fun c130 => ?_) (fun c130 => ?_)
                  · have n2 : own_f bs tt < 128 := (own_by_h _ (hb tt)).mp c130
                    rw [if_neg (by omega)] at hr2
                    refine B.iinc 142 rfl (1 : Int32) d13_139 rfl rfl #[.val (.ref buf), .val (.int (Int32.ofNat ln)), .val (.ref en), .val (.int (Int32.ofNat (sk.length))), .val (.int (Int32.ofNat (tt + 1))), .val (.int (Int32.ofNat bb)), g6, g7, g8, g9, g10, g11, g12] (by rw [show (Int32.ofNat tt) + (1 : Int32) = (Int32.ofNat (tt + 1)) from own_add _ 1]; rfl) ?_
                    exact J142 (tt + 1) bb sk rest (by omega) (by omega) hb1 hok hlen Ae hr2
                  · have n2 : ¬ own_f bs tt < 128 := fun z => c130 ((own_by_h _ (hb tt)).mpr z)
                    rw [if_pos ⟨n1, by omega⟩] at hr2
                    refine B.iinc 136 rfl (1 : Int32) d13_133 rfl rfl #[.val (.ref buf), .val (.int (Int32.ofNat ln)), .val (.ref en), .val (.int (Int32.ofNat (sk.length))), .val (.int (Int32.ofNat (tt + 1))), .val (.int (Int32.ofNat bb)), g6, g7, g8, g9, g10, g11, g12] (by rw [show (Int32.ofNat tt) + (1 : Int32) = (Int32.ofNat (tt + 1)) from own_add _ 1]; rfl) ?_
                    refine B.goto 115 rfl (by decide) d13_136 ?_
                    exact ihn (tt + 1) (by omega) (by omega) (by omega) hr2
            exact J115 48 (t + 1) (by omega) (by omega) (by omega) hr
        have J45 : ∀ (sk : List (Option Nat)) (rest : List Value), own_ok sk → sk.length + rest.length = ln → Ary Z h en .int (own_ev sk ++ rest) → own_c (own_f bs) ln (own_p (own_f bs) ln f) t sk = R → B.G h 1 4 (mkF m 45 #[.val (.ref buf), .val (.int (Int32.ofNat ln)), .val (.ref en), .val (.int (Int32.ofNat (sk.length))), .val (.int (Int32.ofNat t)), g5, g6, g7, g8, g9, g10, g11, g12] []) := by
          intro sk rest hok hlen Ae hr
          unfold own_c at hr
          rcases sk with _ | ⟨_ | k, sk2⟩
          · rw [if_neg (by simp)] at hr
            refine B.iloadN 46 rfl d13_45 rfl ?_
            refine B.if0_le 92 49 rfl (by decide) rfl d13_46 (fun c46 => ?_) (fun c46 => ?_)
            · exact J92 _ rest hok hlen Ae hr
            · exact absurd c46 (by decide)
          · have hl2 : sk2.length + 1 + rest.length = ln := hlen
            refine B.iloadN 46 rfl d13_45 rfl ?_
            refine B.if0_le 92 49 rfl (by decide) rfl d13_46 (fun c46 => ?_) (fun c46 => ?_)
            · exact absurd ((own_lt (0) (sk2.length + 1) (by omega) (by omega)).mpr (by omega)) c46
            · refine B.aloadN 50 rfl d13_49 rfl rfl ?_
              refine B.iloadN 51 rfl d13_50 rfl ?_
              refine B.iconst 52 rfl (1 : Int32) d13_51 rfl ?_
              refine B.isub 53 rfl d13_52 ?_
              refine B.topI (Int32.ofNat (sk2.length)) (own_dec1 sk2.length) ?_
              refine B.iaload 54 rfl d13_53 Ae (own_nn sk2.length (by omega)).1 sk2.length (own_nn sk2.length (by omega)).2 (.int (own_xv none)) (own_ev_get none sk2 rest) ?_
              refine B.topI (-1 : Int32) (rfl) ?_
              refine B.iconst 55 rfl (-1 : Int32) d13_54 rfl ?_
              refine B.icmp_ne 92 58 rfl (by decide) rfl d13_55 (fun c55 => ?_) (fun c55 => ?_)
              · exact absurd rfl c55
              · refine B.iload 60 rfl d13_58 rfl ?_
                refine B.iconst 61 rfl (1 : Int32) d13_60 rfl ?_
                refine B.iadd 62 rfl d13_61 ?_
                refine B.topI (Int32.ofNat (t + 1)) (own_add t 1) ?_
                refine B.aloadN 63 rfl d13_62 rfl rfl ?_
                refine B.arrlen 64 rfl d13_63 Ab (48 : Int32) (by rw [own_b_len]; rfl) ?_
                refine B.icmp_ge 92 67 rfl (by decide) rfl d13_64 (fun c64 => ?_) (fun c64 => ?_)
                · have n1 : ¬ t + 1 < 48 := fun z => c64 ((own_lt (t + 1) (48) (by omega) (by omega)).mpr z)
                  rw [if_neg (fun z => n1 z.2.1)] at hr
                  exact J92 _ rest hok hlen Ae hr
                · have n1 : t + 1 < 48 := (own_lt (t + 1) (48) (by omega) (by omega)).mp c64
                  refine B.aloadN 68 rfl d13_67 rfl rfl ?_
                  refine B.iload 70 rfl d13_68 rfl ?_
                  refine B.baload 71 rfl d13_70 Ab (own_nn (t) (by omega)).1 (t) (own_nn (t) (by omega)).2 (.int (own_by (own_f bs (t)))) (own_b_get bs (t) (by omega)) ?_
                  refine B.if0_ne 92 74 rfl (by decide) rfl d13_71 (fun c71 => ?_) (fun c71 => ?_)
                  · have m71 : ¬ own_f bs (t) = 0 := fun z => c71 ((own_by_z _ (hb _)).mpr z)
                    rw [if_neg (fun z => m71 z.2.2.1)] at hr
                    exact J92 _ rest hok hlen Ae hr
                  · have m71 : own_f bs (t) = 0 := (own_by_z _ (hb _)).mp c71
                    refine B.aloadN 75 rfl d13_74 rfl rfl ?_
                    refine B.iload 77 rfl d13_75 rfl ?_
                    refine B.iconst 78 rfl (1 : Int32) d13_77 rfl ?_
                    refine B.iadd 79 rfl d13_78 ?_
                    refine B.topI (Int32.ofNat (t + 1)) (own_add t 1) ?_
                    refine B.baload 80 rfl d13_79 Ab (own_nn (t + 1) (by omega)).1 (t + 1) (own_nn (t + 1) (by omega)).2 (.int (own_by (own_f bs (t + 1)))) (own_b_get bs (t + 1) (n1)) ?_
                    refine B.if0_ne 92 83 rfl (by decide) rfl d13_80 (fun c80 => ?_) (fun c80 => ?_)
                    · have m80 : ¬ own_f bs (t + 1) = 0 := fun z => c80 ((own_by_z _ (hb _)).mpr z)
                      rw [if_neg (fun z => m80 z.2.2.2)] at hr
                      exact J92 _ rest hok hlen Ae hr
                    · have m80 : own_f bs (t + 1) = 0 := (own_by_z _ (hb _)).mp c80
                      rw [if_pos ⟨rfl, n1, m71, m80⟩] at hr
                      rw [own_ev_cons] at Ae
                      refine B.iinc 86 rfl (-1 : Int32) d13_83 rfl rfl #[.val (.ref buf), .val (.int (Int32.ofNat ln)), .val (.ref en), .val (.int (Int32.ofNat (sk2.length))), .val (.int (Int32.ofNat t)), g5, g6, g7, g8, g9, g10, g11, g12] (by rw [show (Int32.ofNat (none :: sk2 : List (Option Nat)).length) + (-1 : Int32) = (Int32.ofNat (sk2.length)) from own_dec sk2.length]; rfl) ?_
                      refine B.iinc 89 rfl (2 : Int32) d13_86 rfl rfl #[.val (.ref buf), .val (.int (Int32.ofNat ln)), .val (.ref en), .val (.int (Int32.ofNat (sk2.length))), .val (.int (Int32.ofNat (t + 2))), g5, g6, g7, g8, g9, g10, g11, g12] (by rw [show (Int32.ofNat t) + (2 : Int32) = (Int32.ofNat (t + 2)) from own_add t 2]; rfl) ?_
                      refine B.goto 9 rfl (by decide) d13_89 ?_
                      exact ih (t + 2) sk2 (Value.int (own_xv none) :: rest) h _ _ _ _ _ _ _ _ G5 G6 G7 G9 G10 G12 (by omega) (by omega) (fun k z => hok k (List.mem_cons_of_mem _ z)) (by rw [List.length_cons]; omega) Ab Ae hr
          · have hl2 : sk2.length + 1 + rest.length = ln := hlen
            rw [if_neg (by simp)] at hr
            refine B.iloadN 46 rfl d13_45 rfl ?_
            refine B.if0_le 92 49 rfl (by decide) rfl d13_46 (fun c46 => ?_) (fun c46 => ?_)
            · exact absurd ((own_lt (0) (sk2.length + 1) (by omega) (by omega)).mpr (by omega)) c46
            · refine B.aloadN 50 rfl d13_49 rfl rfl ?_
              refine B.iloadN 51 rfl d13_50 rfl ?_
              refine B.iconst 52 rfl (1 : Int32) d13_51 rfl ?_
              refine B.isub 53 rfl d13_52 ?_
              refine B.topI (Int32.ofNat (sk2.length)) (own_dec1 sk2.length) ?_
              refine B.iaload 54 rfl d13_53 Ae (own_nn sk2.length (by omega)).1 sk2.length (own_nn sk2.length (by omega)).2 (.int (own_xv (some k))) (own_ev_get (some k) sk2 rest) ?_
              refine B.topI (Int32.ofNat k) (rfl) ?_
              refine B.iconst 55 rfl (-1 : Int32) d13_54 rfl ?_
              refine B.icmp_ne 92 58 rfl (by decide) rfl d13_55 (fun c55 => ?_) (fun c55 => ?_)
              · exact J92 _ rest hok hlen Ae hr
              · exact absurd c55 (own_m1 k (by have := hok k (by simp); omega))
        have J16 : ∀ (sk : List (Option Nat)) (rest : List Value), own_ok sk → sk.length + rest.length = ln → Ary Z h en .int (own_ev sk ++ rest) → own_c (own_f bs) ln (own_p (own_f bs) ln f) t (own_pop t sk) = R → B.G h 1 4 (mkF m 16 #[.val (.ref buf), .val (.int (Int32.ofNat ln)), .val (.ref en), .val (.int (Int32.ofNat (sk.length))), .val (.int (Int32.ofNat t)), g5, g6, g7, g8, g9, g10, g11, g12] []) := by
          intro sk
          induction sk with
          | nil =>
            intro rest hok hlen Ae hr
            refine B.iloadN 17 rfl d13_16 rfl ?_
            refine B.if0_le 45 20 rfl (by decide) rfl d13_17 (fun c17 => ?_) (fun c17 => ?_)
            · exact J45 _ rest hok hlen Ae hr
            · exact absurd c17 (by decide)
          | cons o sk2 ih16 =>
            intro rest hok hlen Ae hr
            have hl2 : sk2.length + 1 + rest.length = ln := hlen
            rcases o with _ | k
            · refine B.iloadN 17 rfl d13_16 rfl ?_
              refine B.if0_le 45 20 rfl (by decide) rfl d13_17 (fun c17 => ?_) (fun c17 => ?_)
              · exact absurd ((own_lt (0) (sk2.length + 1) (by omega) (by omega)).mpr (by omega)) c17
              · refine B.aloadN 21 rfl d13_20 rfl rfl ?_
                refine B.iloadN 22 rfl d13_21 rfl ?_
                refine B.iconst 23 rfl (1 : Int32) d13_22 rfl ?_
                refine B.isub 24 rfl d13_23 ?_
                refine B.topI (Int32.ofNat (sk2.length)) (own_dec1 sk2.length) ?_
                refine B.iaload 25 rfl d13_24 Ae (own_nn sk2.length (by omega)).1 sk2.length (own_nn sk2.length (by omega)).2 (.int (own_xv none)) (own_ev_get none sk2 rest) ?_
                refine B.topI (-1 : Int32) (rfl) ?_
                refine B.iconst 26 rfl (-1 : Int32) d13_25 rfl ?_
                refine B.icmp_eq 45 29 rfl (by decide) rfl d13_26 (fun c26 => ?_) (fun c26 => ?_)
                · exact J45 _ rest hok hlen Ae hr
                · exact absurd rfl c26
            · have hk := hok k (by simp)
              refine B.iloadN 17 rfl d13_16 rfl ?_
              refine B.if0_le 45 20 rfl (by decide) rfl d13_17 (fun c17 => ?_) (fun c17 => ?_)
              · exact absurd ((own_lt (0) (sk2.length + 1) (by omega) (by omega)).mpr (by omega)) c17
              · refine B.aloadN 21 rfl d13_20 rfl rfl ?_
                refine B.iloadN 22 rfl d13_21 rfl ?_
                refine B.iconst 23 rfl (1 : Int32) d13_22 rfl ?_
                refine B.isub 24 rfl d13_23 ?_
                refine B.topI (Int32.ofNat (sk2.length)) (own_dec1 sk2.length) ?_
                refine B.iaload 25 rfl d13_24 Ae (own_nn sk2.length (by omega)).1 sk2.length (own_nn sk2.length (by omega)).2 (.int (own_xv (some k))) (own_ev_get (some k) sk2 rest) ?_
                refine B.topI (Int32.ofNat k) (rfl) ?_
                refine B.iconst 26 rfl (-1 : Int32) d13_25 rfl ?_
                refine B.icmp_eq 45 29 rfl (by decide) rfl d13_26 (fun c26 => ?_) (fun c26 => ?_)
                · exact absurd c26 (own_m1 k (by omega))
                · refine B.iload 31 rfl d13_29 rfl ?_
                  refine B.aloadN 32 rfl d13_31 rfl rfl ?_
                  refine B.iloadN 33 rfl d13_32 rfl ?_
                  refine B.iconst 34 rfl (1 : Int32) d13_33 rfl ?_
                  refine B.isub 35 rfl d13_34 ?_
                  refine B.topI (Int32.ofNat (sk2.length)) (own_dec1 sk2.length) ?_
                  refine B.iaload 36 rfl d13_35 Ae (own_nn sk2.length (by omega)).1 sk2.length (own_nn sk2.length (by omega)).2 (.int (own_xv (some k))) (own_ev_get (some k) sk2 rest) ?_
                  refine B.topI (Int32.ofNat k) (rfl) ?_
                  refine B.icmp_lt 45 39 rfl (by decide) rfl d13_36 (fun c36 => ?_) (fun c36 => ?_)
                  · have n1 : t < k := (own_lt (t) (k) (by omega) (by omega)).mp c36
                    have e1 : own_pop t (some k :: sk2) = some k :: sk2 := by show (if k ≤ t then own_pop t sk2 else some k :: sk2) = _; rw [if_neg (by omega)]
                    rw [e1] at hr
                    exact J45 _ rest hok hlen Ae hr
                  · have n1 : ¬ t < k := fun z => c36 ((own_lt (t) (k) (by omega) (by omega)).mpr z)
                    have e1 : own_pop t (some k :: sk2) = own_pop t sk2 := by show (if k ≤ t then own_pop t sk2 else some k :: sk2) = _; rw [if_pos (by omega)]
                    rw [e1] at hr
                    rw [own_ev_cons] at Ae
                    refine B.iinc 42 rfl (-1 : Int32) d13_39 rfl rfl #[.val (.ref buf), .val (.int (Int32.ofNat ln)), .val (.ref en), .val (.int (Int32.ofNat (sk2.length))), .val (.int (Int32.ofNat t)), g5, g6, g7, g8, g9, g10, g11, g12] (by rw [show (Int32.ofNat (some k :: sk2 : List (Option Nat)).length) + (-1 : Int32) = (Int32.ofNat (sk2.length)) from own_dec sk2.length]; rfl) ?_
                    refine B.goto 16 rfl (by decide) d13_42 ?_
                    exact ih16 (Value.int (own_xv (some k)) :: rest) (fun k z => hok k (List.mem_cons_of_mem _ z)) (by rw [List.length_cons]; omega) Ae hr
        refine B.iload 11 rfl d13_9 rfl ?_
        refine B.aloadN 12 rfl d13_11 rfl rfl ?_
        refine B.arrlen 13 rfl d13_12 Ab (48 : Int32) (by rw [own_b_len]; rfl) ?_
        refine B.icmp_ge 350 16 rfl (by decide) rfl d13_13 (fun c13 => ?_) (fun c13 => ?_)
        · exact absurd ((own_lt (t) (48) (by omega) (by omega)).mpr (by omega)) c13
        · exact J16 sk rest hok hlen Ae hr
  exact HD 49 0 [] (List.replicate ln (Value.int 0)) h1 _ _ _ _ _ _ _ _ (Or.inl rfl) (Or.inl rfl) (Or.inl ⟨rfl, rfl⟩) (Or.inl rfl) (Or.inl ⟨rfl, rfl⟩) (Or.inl rfl) (by omega) (by omega) (fun k z => nomatch z) (by simp) A1 A_en hr0
theorem pn_0 : plainFor x = true := by first | exact plainFor_of_name (by first | (simp [plainName, overriddenIn]; done) | decide +kernel) | decide +kernel
set_option maxRecDepth 65536 in
set_option maxHeartbeats 4000000 in
theorem rm0 (l : Launch) (Z : State) (a0 : Array Value) (hw : ∀ d ∈ tables_1, d.before a0 Z = true) (wds : List Jvm.Cond) (p1 : Int32) (p2 p3 p4 p5 : Int64) (h0 : Heap)  :
    Met l Z x code maxLocals ret wds room_1 #[(.int p1), (.long p2), (.long p3), (.long p4), (.long p5)] h0 [] (fun v _ => v = some (.int 1)) := by
  refine Met.walk pn_0 (Ls := #[.val (.int p1), .val (.long p2), .second, .val (.long p3), .second, .val (.long p4), .second, .val (.long p5), .second, .unset, .unset, .unset, .unset, .unset, .unset, .unset, .unset, .unset, .unset, .unset, .unset, .unset, .unset, .unset, .unset, .unset, .unset, .unset, .unset, .unset]) (fun m => by first | (simp [entryFrame, mkF, argsToLocals, Value.category, maxLocals]; done) | rfl) ?_
  intro p e s m below meth c B
  obtain ⟨wn, l_wn, e_wn⟩ := own_dw p1
  obtain ⟨an, l_an, e_an⟩ := own_d3 (XT.ushr p1 1)
  obtain ⟨bn, l_bn, e_bn⟩ := own_d3 (XT.ushr p1 3)
  obtain ⟨ln, l_ln, e_ln⟩ := own_d5 (XT.ushr p1 5)
  obtain ⟨pk, l_pk, e_pk⟩ := own_d7 (XT.ushr p1 8)
  obtain ⟨uw, e_uw⟩ : ∃ z, p2.toInt32 = z := ⟨_, rfl⟩
  obtain ⟨xe, e_xe⟩ : ∃ z, XT.ushrL p2 32 = z := ⟨_, rfl⟩
  obtain ⟨x1, e_x1⟩ : ∃ z, p3.toInt32 = z := ⟨_, rfl⟩
  obtain ⟨x2, e_x2⟩ : ∃ z, (XT.ushrL p3 32).toInt32 = z := ⟨_, rfl⟩
  obtain ⟨y1, e_y1⟩ : ∃ z, p4.toInt32 = z := ⟨_, rfl⟩
  obtain ⟨y2, e_y2⟩ : ∃ z, (XT.ushrL p4 32).toInt32 = z := ⟨_, rfl⟩
  obtain ⟨xq, e_xq⟩ : ∃ z, p5.toInt32 = z := ⟨_, rfl⟩
  obtain ⟨yq, e_yq⟩ : ∃ z, (XT.ushrL p5 32).toInt32 = z := ⟨_, rfl⟩
  refine B.iloadN 1 rfl at_0 rfl ?_
  refine B.iconst 2 rfl (1 : Int32) at_1 rfl ?_
  refine B.iand 3 rfl at_2 ?_
  refine B.topI (Int32.ofNat wn) (e_wn) ?_
  refine B.istore 5 rfl at_3 #[.val (.int p1), .val (.long p2), .second, .val (.long p3), .second, .val (.long p4), .second, .val (.long p5), .second, .val (.int (Int32.ofNat wn)), .unset, .unset, .unset, .unset, .unset, .unset, .unset, .unset, .unset, .unset, .unset, .unset, .unset, .unset, .unset, .unset, .unset, .unset, .unset, .unset] rfl ?_
  refine B.iloadN 6 rfl at_5 rfl ?_
  refine B.iconst 7 rfl (1 : Int32) at_6 rfl ?_
  refine B.iushr 8 rfl at_7 ?_
  refine B.iconst 9 rfl (3 : Int32) at_8 rfl ?_
  refine B.iand 10 rfl at_9 ?_
  refine B.iconst 11 rfl (3 : Int32) at_10 rfl ?_
  refine B.irem 12 rfl at_11 (by decide) ?_
  refine B.topI (Int32.ofNat an) (e_an) ?_
  refine B.istore 14 rfl at_12 #[.val (.int p1), .val (.long p2), .second, .val (.long p3), .second, .val (.long p4), .second, .val (.long p5), .second, .val (.int (Int32.ofNat wn)), .val (.int (Int32.ofNat an)), .unset, .unset, .unset, .unset, .unset, .unset, .unset, .unset, .unset, .unset, .unset, .unset, .unset, .unset, .unset, .unset, .unset, .unset, .unset] rfl ?_
  refine B.iloadN 15 rfl at_14 rfl ?_
  refine B.iconst 16 rfl (3 : Int32) at_15 rfl ?_
  refine B.iushr 17 rfl at_16 ?_
  refine B.iconst 18 rfl (3 : Int32) at_17 rfl ?_
  refine B.iand 19 rfl at_18 ?_
  refine B.iconst 20 rfl (3 : Int32) at_19 rfl ?_
  refine B.irem 21 rfl at_20 (by decide) ?_
  refine B.topI (Int32.ofNat bn) (e_bn) ?_
  refine B.istore 23 rfl at_21 #[.val (.int p1), .val (.long p2), .second, .val (.long p3), .second, .val (.long p4), .second, .val (.long p5), .second, .val (.int (Int32.ofNat wn)), .val (.int (Int32.ofNat an)), .val (.int (Int32.ofNat bn)), .unset, .unset, .unset, .unset, .unset, .unset, .unset, .unset, .unset, .unset, .unset, .unset, .unset, .unset, .unset, .unset, .unset, .unset] rfl ?_
  refine B.iloadN 24 rfl at_23 rfl ?_
  refine B.iconst 25 rfl (5 : Int32) at_24 rfl ?_
  refine B.iushr 26 rfl at_25 ?_
  refine B.bipush 28 rfl (7 : Int32) at_26 rfl ?_
  refine B.iand 29 rfl at_28 ?_
  refine B.iconst 30 rfl (5 : Int32) at_29 rfl ?_
  refine B.irem 31 rfl at_30 (by decide) ?_
  refine B.topI (Int32.ofNat ln) (e_ln) ?_
  refine B.istore 33 rfl at_31 #[.val (.int p1), .val (.long p2), .second, .val (.long p3), .second, .val (.long p4), .second, .val (.long p5), .second, .val (.int (Int32.ofNat wn)), .val (.int (Int32.ofNat an)), .val (.int (Int32.ofNat bn)), .val (.int (Int32.ofNat ln)), .unset, .unset, .unset, .unset, .unset, .unset, .unset, .unset, .unset, .unset, .unset, .unset, .unset, .unset, .unset, .unset, .unset] rfl ?_
  refine B.iconst 34 rfl (2 : Int32) at_33 rfl ?_
  refine B.iloadN 35 rfl at_34 rfl ?_
  refine B.bipush 37 rfl (8 : Int32) at_35 rfl ?_
  refine B.iushr 38 rfl at_37 ?_
  refine B.bipush 40 rfl (7 : Int32) at_38 rfl ?_
  refine B.iand 41 rfl at_40 ?_
  refine B.topI (Int32.ofNat pk) (e_pk) ?_
  refine B.imul 42 rfl at_41 ?_
  refine B.topI (Int32.ofNat (2 * pk)) (own_mul2 pk) ?_
  refine B.istore 44 rfl at_42 #[.val (.int p1), .val (.long p2), .second, .val (.long p3), .second, .val (.long p4), .second, .val (.long p5), .second, .val (.int (Int32.ofNat wn)), .val (.int (Int32.ofNat an)), .val (.int (Int32.ofNat bn)), .val (.int (Int32.ofNat ln)), .val (.int (Int32.ofNat (2 * pk))), .unset, .unset, .unset, .unset, .unset, .unset, .unset, .unset, .unset, .unset, .unset, .unset, .unset, .unset, .unset, .unset] rfl ?_
  refine B.lloadN 45 rfl at_44 rfl ?_
  refine B.l2i 46 rfl at_45 ?_
  refine B.topI uw (e_uw) ?_
  refine B.istore 48 rfl at_46 #[.val (.int p1), .val (.long p2), .second, .val (.long p3), .second, .val (.long p4), .second, .val (.long p5), .second, .val (.int (Int32.ofNat wn)), .val (.int (Int32.ofNat an)), .val (.int (Int32.ofNat bn)), .val (.int (Int32.ofNat ln)), .val (.int (Int32.ofNat (2 * pk))), .val (.int uw), .unset, .unset, .unset, .unset, .unset, .unset, .unset, .unset, .unset, .unset, .unset, .unset, .unset, .unset, .unset] rfl ?_
  refine B.lloadN 49 rfl at_48 rfl ?_
  refine B.bipush 51 rfl (32 : Int32) at_49 rfl ?_
  refine B.lushr 52 rfl at_51 ?_
  refine B.topL xe (e_xe) ?_
  refine B.lstore 54 rfl at_52 #[.val (.int p1), .val (.long p2), .second, .val (.long p3), .second, .val (.long p4), .second, .val (.long p5), .second, .val (.int (Int32.ofNat wn)), .val (.int (Int32.ofNat an)), .val (.int (Int32.ofNat bn)), .val (.int (Int32.ofNat ln)), .val (.int (Int32.ofNat (2 * pk))), .val (.int uw), .val (.long xe), .second, .unset, .unset, .unset, .unset, .unset, .unset, .unset, .unset, .unset, .unset, .unset, .unset, .unset] rfl ?_
  refine B.lloadN 55 rfl at_54 rfl ?_
  refine B.l2i 56 rfl at_55 ?_
  refine B.topI x1 (e_x1) ?_
  refine B.istore 58 rfl at_56 #[.val (.int p1), .val (.long p2), .second, .val (.long p3), .second, .val (.long p4), .second, .val (.long p5), .second, .val (.int (Int32.ofNat wn)), .val (.int (Int32.ofNat an)), .val (.int (Int32.ofNat bn)), .val (.int (Int32.ofNat ln)), .val (.int (Int32.ofNat (2 * pk))), .val (.int uw), .val (.long xe), .second, .val (.int x1), .unset, .unset, .unset, .unset, .unset, .unset, .unset, .unset, .unset, .unset, .unset, .unset] rfl ?_
  refine B.lloadN 59 rfl at_58 rfl ?_
  refine B.bipush 61 rfl (32 : Int32) at_59 rfl ?_
  refine B.lushr 62 rfl at_61 ?_
  refine B.l2i 63 rfl at_62 ?_
  refine B.topI x2 (e_x2) ?_
  refine B.istore 65 rfl at_63 #[.val (.int p1), .val (.long p2), .second, .val (.long p3), .second, .val (.long p4), .second, .val (.long p5), .second, .val (.int (Int32.ofNat wn)), .val (.int (Int32.ofNat an)), .val (.int (Int32.ofNat bn)), .val (.int (Int32.ofNat ln)), .val (.int (Int32.ofNat (2 * pk))), .val (.int uw), .val (.long xe), .second, .val (.int x1), .val (.int x2), .unset, .unset, .unset, .unset, .unset, .unset, .unset, .unset, .unset, .unset, .unset] rfl ?_
  refine B.lload 67 rfl at_65 rfl ?_
  refine B.l2i 68 rfl at_67 ?_
  refine B.topI y1 (e_y1) ?_
  refine B.istore 70 rfl at_68 #[.val (.int p1), .val (.long p2), .second, .val (.long p3), .second, .val (.long p4), .second, .val (.long p5), .second, .val (.int (Int32.ofNat wn)), .val (.int (Int32.ofNat an)), .val (.int (Int32.ofNat bn)), .val (.int (Int32.ofNat ln)), .val (.int (Int32.ofNat (2 * pk))), .val (.int uw), .val (.long xe), .second, .val (.int x1), .val (.int x2), .val (.int y1), .unset, .unset, .unset, .unset, .unset, .unset, .unset, .unset, .unset, .unset] rfl ?_
  refine B.lload 72 rfl at_70 rfl ?_
  refine B.bipush 74 rfl (32 : Int32) at_72 rfl ?_
  refine B.lushr 75 rfl at_74 ?_
  refine B.l2i 76 rfl at_75 ?_
  refine B.topI y2 (e_y2) ?_
  refine B.istore 78 rfl at_76 #[.val (.int p1), .val (.long p2), .second, .val (.long p3), .second, .val (.long p4), .second, .val (.long p5), .second, .val (.int (Int32.ofNat wn)), .val (.int (Int32.ofNat an)), .val (.int (Int32.ofNat bn)), .val (.int (Int32.ofNat ln)), .val (.int (Int32.ofNat (2 * pk))), .val (.int uw), .val (.long xe), .second, .val (.int x1), .val (.int x2), .val (.int y1), .val (.int y2), .unset, .unset, .unset, .unset, .unset, .unset, .unset, .unset, .unset] rfl ?_
  refine B.lload 80 rfl at_78 rfl ?_
  refine B.l2i 81 rfl at_80 ?_
  refine B.topI xq (e_xq) ?_
  refine B.istore 83 rfl at_81 #[.val (.int p1), .val (.long p2), .second, .val (.long p3), .second, .val (.long p4), .second, .val (.long p5), .second, .val (.int (Int32.ofNat wn)), .val (.int (Int32.ofNat an)), .val (.int (Int32.ofNat bn)), .val (.int (Int32.ofNat ln)), .val (.int (Int32.ofNat (2 * pk))), .val (.int uw), .val (.long xe), .second, .val (.int x1), .val (.int x2), .val (.int y1), .val (.int y2), .val (.int xq), .unset, .unset, .unset, .unset, .unset, .unset, .unset, .unset] rfl ?_
  refine B.lload 85 rfl at_83 rfl ?_
  refine B.bipush 87 rfl (32 : Int32) at_85 rfl ?_
  refine B.lushr 88 rfl at_87 ?_
  refine B.l2i 89 rfl at_88 ?_
  refine B.topI yq (e_yq) ?_
  refine B.istore 91 rfl at_89 #[.val (.int p1), .val (.long p2), .second, .val (.long p3), .second, .val (.long p4), .second, .val (.long p5), .second, .val (.int (Int32.ofNat wn)), .val (.int (Int32.ofNat an)), .val (.int (Int32.ofNat bn)), .val (.int (Int32.ofNat ln)), .val (.int (Int32.ofNat (2 * pk))), .val (.int uw), .val (.long xe), .second, .val (.int x1), .val (.int x2), .val (.int y1), .val (.int y2), .val (.int xq), .val (.int yq), .unset, .unset, .unset, .unset, .unset, .unset, .unset] rfl ?_
  refine B.bipush 93 rfl (48 : Int32) at_91 rfl ?_
  refine B.newP 95 rfl at_93 (wd hw 0 rfl) (by decide) 48 (by decide) (by decide) (by decide) (by decide) ?_
  intro h_buf buf e_buf g_buf X_buf A_buf
  replace A_buf : Ary Z h_buf buf .byte (List.replicate 48 (Value.int 0)) := A_buf
  rw [own_b_nil] at A_buf
  show B.G h_buf 1 48 (mkF m 95 #[.val (.int p1), .val (.long p2), .second, .val (.long p3), .second, .val (.long p4), .second, .val (.long p5), .second, .val (.int (Int32.ofNat wn)), .val (.int (Int32.ofNat an)), .val (.int (Int32.ofNat bn)), .val (.int (Int32.ofNat ln)), .val (.int (Int32.ofNat (2 * pk))), .val (.int uw), .val (.long xe), .second, .val (.int x1), .val (.int x2), .val (.int y1), .val (.int y2), .val (.int xq), .val (.int yq), .unset, .unset, .unset, .unset, .unset, .unset, .unset] [(.ref buf)])
  refine B.astore 97 rfl at_95 rfl #[.val (.int p1), .val (.long p2), .second, .val (.long p3), .second, .val (.long p4), .second, .val (.long p5), .second, .val (.int (Int32.ofNat wn)), .val (.int (Int32.ofNat an)), .val (.int (Int32.ofNat bn)), .val (.int (Int32.ofNat ln)), .val (.int (Int32.ofNat (2 * pk))), .val (.int uw), .val (.long xe), .second, .val (.int x1), .val (.int x2), .val (.int y1), .val (.int y2), .val (.int xq), .val (.int yq), .val (.ref buf), .unset, .unset, .unset, .unset, .unset, .unset] rfl ?_
  refine B.bipush 99 rfl (6 : Int32) at_97 rfl ?_
  refine B.newP 101 rfl at_99 (wd hw 1 rfl) (by decide) 6 (by decide) (by decide) (by decide) (by decide) ?_
  intro h_fa fa e_fa g_fa X_fa A_fa
  replace A_fa : Ary Z h_fa fa .int (List.replicate 6 (Value.int 0)) := A_fa
  rw [own_fv_nil] at A_fa
  have A_bf := A_buf.ext X_fa
  have hne : fa ≠ buf := fun q => absurd A_buf.lt (by rw [← q, e_fa]; exact Nat.lt_irrefl _)
  show B.G h_fa 2 54 (mkF m 101 #[.val (.int p1), .val (.long p2), .second, .val (.long p3), .second, .val (.long p4), .second, .val (.long p5), .second, .val (.int (Int32.ofNat wn)), .val (.int (Int32.ofNat an)), .val (.int (Int32.ofNat bn)), .val (.int (Int32.ofNat ln)), .val (.int (Int32.ofNat (2 * pk))), .val (.int uw), .val (.long xe), .second, .val (.int x1), .val (.int x2), .val (.int y1), .val (.int y2), .val (.int xq), .val (.int yq), .val (.ref buf), .unset, .unset, .unset, .unset, .unset, .unset] [(.ref fa)])
  refine B.astore 103 rfl at_101 rfl #[.val (.int p1), .val (.long p2), .second, .val (.long p3), .second, .val (.long p4), .second, .val (.long p5), .second, .val (.int (Int32.ofNat wn)), .val (.int (Int32.ofNat an)), .val (.int (Int32.ofNat bn)), .val (.int (Int32.ofNat ln)), .val (.int (Int32.ofNat (2 * pk))), .val (.int uw), .val (.long xe), .second, .val (.int x1), .val (.int x2), .val (.int y1), .val (.int y2), .val (.int xq), .val (.int yq), .val (.ref buf), .val (.ref fa), .unset, .unset, .unset, .unset, .unset] rfl ?_
  refine B.iload 105 rfl at_103 rfl ?_
  refine B.iload 107 rfl at_105 rfl ?_
  refine B.iload 109 rfl at_107 rfl ?_
  refine B.iload 111 rfl at_109 rfl ?_
  refine B.callS 114 rfl at_111 (wd hw 2 rfl) (wd hw 3 rfl) (wd hw 4 rfl) (wd hw 5 rfl) (by decide) [(.int x1), (.int x2), (.int xq), (.int (Int32.ofNat an))] [] (rm_sz l Z a0 hw x1 x2 xq an h_fa l_an) rfl rfl pd__IIII_I rfl rfl 0 rfl (by decide) (by decide) (by decide) (by decide) (fun _ q => nomatch q) ?_
  rintro _ _ - ⟨rfl, rfl⟩
  show B.G h_fa 2 54 (mkF m 114 #[.val (.int p1), .val (.long p2), .second, .val (.long p3), .second, .val (.long p4), .second, .val (.long p5), .second, .val (.int (Int32.ofNat wn)), .val (.int (Int32.ofNat an)), .val (.int (Int32.ofNat bn)), .val (.int (Int32.ofNat ln)), .val (.int (Int32.ofNat (2 * pk))), .val (.int uw), .val (.long xe), .second, .val (.int x1), .val (.int x2), .val (.int y1), .val (.int y2), .val (.int xq), .val (.int yq), .val (.ref buf), .val (.ref fa), .unset, .unset, .unset, .unset, .unset] [(.int (Int32.ofNat (own_sz an x1 x2 xq)))])
  refine B.istore 116 rfl at_114 #[.val (.int p1), .val (.long p2), .second, .val (.long p3), .second, .val (.long p4), .second, .val (.long p5), .second, .val (.int (Int32.ofNat wn)), .val (.int (Int32.ofNat an)), .val (.int (Int32.ofNat bn)), .val (.int (Int32.ofNat ln)), .val (.int (Int32.ofNat (2 * pk))), .val (.int uw), .val (.long xe), .second, .val (.int x1), .val (.int x2), .val (.int y1), .val (.int y2), .val (.int xq), .val (.int yq), .val (.ref buf), .val (.ref fa), .val (.int (Int32.ofNat (own_sz an x1 x2 xq))), .unset, .unset, .unset, .unset] rfl ?_
  refine B.iload 118 rfl at_116 rfl ?_
  refine B.iload 120 rfl at_118 rfl ?_
  refine B.iload 122 rfl at_120 rfl ?_
  refine B.iload 124 rfl at_122 rfl ?_
  refine B.callS 127 rfl at_124 (wd hw 2 rfl) (wd hw 3 rfl) (wd hw 4 rfl) (wd hw 5 rfl) (by decide) [(.int y1), (.int y2), (.int yq), (.int (Int32.ofNat bn))] [] (rm_sz l Z a0 hw y1 y2 yq bn h_fa l_bn) rfl rfl pd__IIII_I rfl rfl 0 rfl (by decide) (by decide) (by decide) (by decide) (fun _ q => nomatch q) ?_
  rintro _ _ - ⟨rfl, rfl⟩
  show B.G h_fa 2 54 (mkF m 127 #[.val (.int p1), .val (.long p2), .second, .val (.long p3), .second, .val (.long p4), .second, .val (.long p5), .second, .val (.int (Int32.ofNat wn)), .val (.int (Int32.ofNat an)), .val (.int (Int32.ofNat bn)), .val (.int (Int32.ofNat ln)), .val (.int (Int32.ofNat (2 * pk))), .val (.int uw), .val (.long xe), .second, .val (.int x1), .val (.int x2), .val (.int y1), .val (.int y2), .val (.int xq), .val (.int yq), .val (.ref buf), .val (.ref fa), .val (.int (Int32.ofNat (own_sz an x1 x2 xq))), .unset, .unset, .unset, .unset] [(.int (Int32.ofNat (own_sz bn y1 y2 yq)))])
  refine B.istore 129 rfl at_127 #[.val (.int p1), .val (.long p2), .second, .val (.long p3), .second, .val (.long p4), .second, .val (.long p5), .second, .val (.int (Int32.ofNat wn)), .val (.int (Int32.ofNat an)), .val (.int (Int32.ofNat bn)), .val (.int (Int32.ofNat ln)), .val (.int (Int32.ofNat (2 * pk))), .val (.int uw), .val (.long xe), .second, .val (.int x1), .val (.int x2), .val (.int y1), .val (.int y2), .val (.int xq), .val (.int yq), .val (.ref buf), .val (.ref fa), .val (.int (Int32.ofNat (own_sz an x1 x2 xq))), .val (.int (Int32.ofNat (own_sz bn y1 y2 yq))), .unset, .unset, .unset] rfl ?_
  refine B.iconst 130 rfl (0 : Int32) at_129 rfl ?_
  refine B.istore 132 rfl at_130 #[.val (.int p1), .val (.long p2), .second, .val (.long p3), .second, .val (.long p4), .second, .val (.long p5), .second, .val (.int (Int32.ofNat wn)), .val (.int (Int32.ofNat an)), .val (.int (Int32.ofNat bn)), .val (.int (Int32.ofNat ln)), .val (.int (Int32.ofNat (2 * pk))), .val (.int uw), .val (.long xe), .second, .val (.int x1), .val (.int x2), .val (.int y1), .val (.int y2), .val (.int xq), .val (.int yq), .val (.ref buf), .val (.ref fa), .val (.int (Int32.ofNat (own_sz an x1 x2 xq))), .val (.int (Int32.ofNat (own_sz bn y1 y2 yq))), .val (.int (0 : Int32)), .unset, .unset] rfl ?_
  have J160 : ∀ (h : Heap), Ary Z h buf .byte (own_b (own_pre (2 * pk))) → Ary Z h fa .int (own_fv (fun _ => 0)) → B.G h 2 54 (mkF m 160 #[.val (.int p1), .val (.long p2), .second, .val (.long p3), .second, .val (.long p4), .second, .val (.long p5), .second, .val (.int (Int32.ofNat wn)), .val (.int (Int32.ofNat an)), .val (.int (Int32.ofNat bn)), .val (.int (Int32.ofNat ln)), .val (.int (Int32.ofNat (2 * pk))), .val (.int uw), .val (.long xe), .second, .val (.int x1), .val (.int x2), .val (.int y1), .val (.int y2), .val (.int xq), .val (.int yq), .val (.ref buf), .val (.ref fa), .val (.int (Int32.ofNat (own_sz an x1 x2 xq))), .val (.int (Int32.ofNat (own_sz bn y1 y2 yq))), .val (.int (Int32.ofNat (own_pre (2 * pk)).length)), .unset, .unset] []) := by
    intro h Ab Af
    have J192 : ∀ (h : Heap) (bs1 : List Nat) (fs1 : Nat → Nat), bs1 = own_pre (2 * pk) ++ own_W wn uw (own_sz an x1 x2 xq + own_sz bn y1 y2 yq) xe → fs1 = (if wn = 1 then own_mk (fun _ => 0) 1 bs1.length else fun _ => 0) → Ary Z h buf .byte (own_b (bs1)) → Ary Z h fa .int (own_fv (fs1)) → B.G h 2 54 (mkF m 192 #[.val (.int p1), .val (.long p2), .second, .val (.long p3), .second, .val (.long p4), .second, .val (.long p5), .second, .val (.int (Int32.ofNat wn)), .val (.int (Int32.ofNat an)), .val (.int (Int32.ofNat bn)), .val (.int (Int32.ofNat ln)), .val (.int (Int32.ofNat (2 * pk))), .val (.int uw), .val (.long xe), .second, .val (.int x1), .val (.int x2), .val (.int y1), .val (.int y2), .val (.int xq), .val (.int yq), .val (.ref buf), .val (.ref fa), .val (.int (Int32.ofNat (own_sz an x1 x2 xq))), .val (.int (Int32.ofNat (own_sz bn y1 y2 yq))), .val (.int (Int32.ofNat (bs1.length))), .unset, .unset] []) := by
      intro h bs1 fs1 eb ef Ab Af
      have lb : bs1.length ≤ 22 := by rw [eb, List.length_append, own_preL _ (by omega)]; have := own_W_l wn uw (own_sz an x1 x2 xq + own_sz bn y1 y2 yq) xe; omega
      have lf : ∀ i, fs1 i ≤ 300 := by
        rw [ef]; split
        · exact own_mk_le (fun _ => by omega) (by omega)
        · intro i; exact Nat.zero_le _
      refine B.aload 194 rfl at_192 rfl rfl ?_
      refine B.aload 196 rfl at_194 rfl rfl ?_
      refine B.iload 198 rfl at_196 rfl ?_
      refine B.iload 200 rfl at_198 rfl ?_
      refine B.iload 202 rfl at_200 rfl ?_
      refine B.iload 204 rfl at_202 rfl ?_
      refine B.iload 206 rfl at_204 rfl ?_
      refine B.iload 208 rfl at_206 rfl ?_
      refine B.callS 211 rfl at_208 (wd hw 21 rfl) (wd hw 22 rfl) (wd hw 4 rfl) (wd hw 23 rfl) (by decide) [(.ref buf), (.ref fa), (.int (Int32.ofNat (bs1.length))), (.int (Int32.ofNat wn)), (.int x1), (.int x2), (.int xq), (.int (Int32.ofNat an))] [] (rm_ch l Z a0 hw buf fa bs1 fs1 wn x1 x2 xq an h hne Ab Af (by omega) lf l_wn l_an) rfl rfl pd___B_IIIIIII_I rfl rfl 0 rfl (by decide) (by decide) (by decide) (by decide) (fun x z => Or.inr (by rcases List.mem_cons.mp z with rfl | z; exact g_buf; cases List.mem_singleton.mp z; exact g_fa)) ?_
      rintro _ h4 K4 ⟨rfl, A4, Af4⟩
      show B.G h4 2 54 (mkF m 211 #[.val (.int p1), .val (.long p2), .second, .val (.long p3), .second, .val (.long p4), .second, .val (.long p5), .second, .val (.int (Int32.ofNat wn)), .val (.int (Int32.ofNat an)), .val (.int (Int32.ofNat bn)), .val (.int (Int32.ofNat ln)), .val (.int (Int32.ofNat (2 * pk))), .val (.int uw), .val (.long xe), .second, .val (.int x1), .val (.int x2), .val (.int y1), .val (.int y2), .val (.int xq), .val (.int yq), .val (.ref buf), .val (.ref fa), .val (.int (Int32.ofNat (own_sz an x1 x2 xq))), .val (.int (Int32.ofNat (own_sz bn y1 y2 yq))), .val (.int (Int32.ofNat (bs1.length))), .unset, .unset] [(.int (Int32.ofNat (bs1 ++ own_chB an x1 x2 xq).length))])
      refine B.istore 213 rfl at_211 #[.val (.int p1), .val (.long p2), .second, .val (.long p3), .second, .val (.long p4), .second, .val (.long p5), .second, .val (.int (Int32.ofNat wn)), .val (.int (Int32.ofNat an)), .val (.int (Int32.ofNat bn)), .val (.int (Int32.ofNat ln)), .val (.int (Int32.ofNat (2 * pk))), .val (.int uw), .val (.long xe), .second, .val (.int x1), .val (.int x2), .val (.int y1), .val (.int y2), .val (.int xq), .val (.int yq), .val (.ref buf), .val (.ref fa), .val (.int (Int32.ofNat (own_sz an x1 x2 xq))), .val (.int (Int32.ofNat (own_sz bn y1 y2 yq))), .val (.int (Int32.ofNat (bs1 ++ own_chB an x1 x2 xq).length)), .unset, .unset] rfl ?_
      refine B.aload 215 rfl at_213 rfl rfl ?_
      refine B.aload 217 rfl at_215 rfl rfl ?_
      refine B.iload 219 rfl at_217 rfl ?_
      refine B.iload 221 rfl at_219 rfl ?_
      refine B.iload 223 rfl at_221 rfl ?_
      refine B.iload 225 rfl at_223 rfl ?_
      refine B.iload 227 rfl at_225 rfl ?_
      refine B.iload 229 rfl at_227 rfl ?_
      refine B.callS 232 rfl at_229 (wd hw 21 rfl) (wd hw 22 rfl) (wd hw 4 rfl) (wd hw 23 rfl) (by decide) [(.ref buf), (.ref fa), (.int (Int32.ofNat (bs1 ++ own_chB an x1 x2 xq).length)), (.int (Int32.ofNat wn)), (.int y1), (.int y2), (.int yq), (.int (Int32.ofNat bn))] [] (rm_ch l Z a0 hw buf fa (bs1 ++ own_chB an x1 x2 xq) _ wn y1 y2 yq bn h4 hne A4 Af4 (by rw [List.length_append, own_chL]; have := own_sz_l an x1 x2 xq; omega) (own_chM_le lf (by omega)) l_wn l_bn) rfl rfl pd___B_IIIIIII_I rfl rfl 0 rfl (by decide) (by decide) (by decide) (by decide) (fun x z => Or.inr (by rcases List.mem_cons.mp z with rfl | z; exact g_buf; cases List.mem_singleton.mp z; exact g_fa)) ?_
      rintro _ h5 K5 ⟨rfl, A5, Af5⟩
      show B.G h5 2 54 (mkF m 232 #[.val (.int p1), .val (.long p2), .second, .val (.long p3), .second, .val (.long p4), .second, .val (.long p5), .second, .val (.int (Int32.ofNat wn)), .val (.int (Int32.ofNat an)), .val (.int (Int32.ofNat bn)), .val (.int (Int32.ofNat ln)), .val (.int (Int32.ofNat (2 * pk))), .val (.int uw), .val (.long xe), .second, .val (.int x1), .val (.int x2), .val (.int y1), .val (.int y2), .val (.int xq), .val (.int yq), .val (.ref buf), .val (.ref fa), .val (.int (Int32.ofNat (own_sz an x1 x2 xq))), .val (.int (Int32.ofNat (own_sz bn y1 y2 yq))), .val (.int (Int32.ofNat (bs1 ++ own_chB an x1 x2 xq).length)), .unset, .unset] [(.int (Int32.ofNat (bs1 ++ own_chB an x1 x2 xq ++ own_chB bn y1 y2 yq).length))])
      have eall : bs1 ++ own_chB an x1 x2 xq ++ own_chB bn y1 y2 yq = own_all (2 * pk) wn an bn uw x1 x2 xq y1 y2 yq xe := by rw [eb]; rfl
      rw [eall] at A5
      have hans := own_ans (2 * pk) wn an bn ln uw x1 x2 xq y1 y2 yq xe (by omega) (by omega) l_wn l_an l_bn bs1.length (by rw [eb])
      rw [← ef] at hans
      rw [List.length_append, own_chL] at Af5
      have lf3 : ∀ i, own_chM (own_chM fs1 wn bs1.length an x1 x2 xq) wn (bs1.length + own_sz an x1 x2 xq) bn y1 y2 yq i ≤ 300 := own_chM_le (own_chM_le lf (by omega)) (by have := own_sz_l an x1 x2 xq; omega)
      generalize own_chM (own_chM fs1 wn bs1.length an x1 x2 xq) wn (bs1.length + own_sz an x1 x2 xq) bn y1 y2 yq = fs3 at hans Af5 lf3
      refine B.istore 234 rfl at_232 #[.val (.int p1), .val (.long p2), .second, .val (.long p3), .second, .val (.long p4), .second, .val (.long p5), .second, .val (.int (Int32.ofNat wn)), .val (.int (Int32.ofNat an)), .val (.int (Int32.ofNat bn)), .val (.int (Int32.ofNat ln)), .val (.int (Int32.ofNat (2 * pk))), .val (.int uw), .val (.long xe), .second, .val (.int x1), .val (.int x2), .val (.int y1), .val (.int y2), .val (.int xq), .val (.int yq), .val (.ref buf), .val (.ref fa), .val (.int (Int32.ofNat (own_sz an x1 x2 xq))), .val (.int (Int32.ofNat (own_sz bn y1 y2 yq))), .val (.int (Int32.ofNat (bs1 ++ own_chB an x1 x2 xq ++ own_chB bn y1 y2 yq).length)), .unset, .unset] rfl ?_
      refine B.iload 236 rfl at_234 rfl ?_
      refine B.iload 238 rfl at_236 rfl ?_
      refine B.iload 240 rfl at_238 rfl ?_
      refine B.callS 243 rfl at_240 (wd hw 36 rfl) (wd hw 37 rfl) (wd hw 38 rfl) (wd hw 39 rfl) (by decide) [(.int (Int32.ofNat an)), (.int (Int32.ofNat bn))] [(.int (Int32.ofNat wn))] (rm_max l Z a0 hw an bn h5 l_an l_bn) rfl rfl pd__II_I rfl rfl 1 rfl (by decide) (by decide) (by decide) (by decide) (fun _ q => nomatch q) ?_
      rintro _ _ - ⟨rfl, rfl⟩
      show B.G h5 2 54 (mkF m 243 #[.val (.int p1), .val (.long p2), .second, .val (.long p3), .second, .val (.long p4), .second, .val (.long p5), .second, .val (.int (Int32.ofNat wn)), .val (.int (Int32.ofNat an)), .val (.int (Int32.ofNat bn)), .val (.int (Int32.ofNat ln)), .val (.int (Int32.ofNat (2 * pk))), .val (.int uw), .val (.long xe), .second, .val (.int x1), .val (.int x2), .val (.int y1), .val (.int y2), .val (.int xq), .val (.int yq), .val (.ref buf), .val (.ref fa), .val (.int (Int32.ofNat (own_sz an x1 x2 xq))), .val (.int (Int32.ofNat (own_sz bn y1 y2 yq))), .val (.int (Int32.ofNat (bs1 ++ own_chB an x1 x2 xq ++ own_chB bn y1 y2 yq).length)), .unset, .unset] [(.int (Int32.ofNat (max an bn))), (.int (Int32.ofNat wn))])
      refine B.iadd 244 rfl at_243 ?_
      refine B.topI (Int32.ofNat (wn + max an bn)) (own_add _ _) ?_
      refine B.istore 246 rfl at_244 #[.val (.int p1), .val (.long p2), .second, .val (.long p3), .second, .val (.long p4), .second, .val (.long p5), .second, .val (.int (Int32.ofNat wn)), .val (.int (Int32.ofNat an)), .val (.int (Int32.ofNat bn)), .val (.int (Int32.ofNat ln)), .val (.int (Int32.ofNat (2 * pk))), .val (.int uw), .val (.long xe), .second, .val (.int x1), .val (.int x2), .val (.int y1), .val (.int y2), .val (.int xq), .val (.int yq), .val (.ref buf), .val (.ref fa), .val (.int (Int32.ofNat (own_sz an x1 x2 xq))), .val (.int (Int32.ofNat (own_sz bn y1 y2 yq))), .val (.int (Int32.ofNat (bs1 ++ own_chB an x1 x2 xq ++ own_chB bn y1 y2 yq).length)), .val (.int (Int32.ofNat (wn + max an bn))), .unset] rfl ?_
      refine B.iload 248 rfl at_246 rfl ?_
      refine B.iload 250 rfl at_248 rfl ?_
      refine B.icmp_le 269 253 rfl (by decide) rfl at_250 (fun c250 => ?_) (fun c250 => ?_)
      · have n2 : ¬ ln < wn + max an bn := fun z => c250 ((own_lt (ln) (wn + max an bn) (by omega) (by omega)).mpr z)
        refine B.iconst 270 rfl (0 : Int32) at_269 rfl ?_
        refine B.istore 272 rfl at_270 #[.val (.int p1), .val (.long p2), .second, .val (.long p3), .second, .val (.long p4), .second, .val (.long p5), .second, .val (.int (Int32.ofNat wn)), .val (.int (Int32.ofNat an)), .val (.int (Int32.ofNat bn)), .val (.int (Int32.ofNat ln)), .val (.int (Int32.ofNat (2 * pk))), .val (.int uw), .val (.long xe), .second, .val (.int x1), .val (.int x2), .val (.int y1), .val (.int y2), .val (.int xq), .val (.int yq), .val (.ref buf), .val (.ref fa), .val (.int (Int32.ofNat (own_sz an x1 x2 xq))), .val (.int (Int32.ofNat (own_sz bn y1 y2 yq))), .val (.int (Int32.ofNat (bs1 ++ own_chB an x1 x2 xq ++ own_chB bn y1 y2 yq).length)), .val (.int (Int32.ofNat (wn + max an bn))), .val (.int (0 : Int32))] rfl ?_
        refine B.aload 274 rfl at_272 rfl rfl ?_
        refine B.iload 276 rfl at_274 rfl ?_
        refine B.callS 279 rfl at_276 (wd hw 40 rfl) (wd hw 41 rfl) (wd hw 42 rfl) (wd hw 43 rfl) (by decide) [(.ref buf), (.int (Int32.ofNat ln))] [] (rm_de l Z a0 hw buf (own_all (2 * pk) wn an bn uw x1 x2 xq y1 y2 yq xe) ln false h5 A5 (own_lb_f (own_lb_all _ _ _ _ _ _ _ _ _ _ _ _ (by omega))) l_ln (by rw [hans]; exact decide_eq_false (fun z => n2 z.1))) rfl rfl pd___BI_Z rfl rfl 0 rfl (by decide) (by decide) (by decide) (by decide) (fun _ q => nomatch q) ?_
        rintro _ h6 K6 rfl
        show B.G h6 3 58 (mkF m 279 #[.val (.int p1), .val (.long p2), .second, .val (.long p3), .second, .val (.long p4), .second, .val (.long p5), .second, .val (.int (Int32.ofNat wn)), .val (.int (Int32.ofNat an)), .val (.int (Int32.ofNat bn)), .val (.int (Int32.ofNat ln)), .val (.int (Int32.ofNat (2 * pk))), .val (.int uw), .val (.long xe), .second, .val (.int x1), .val (.int x2), .val (.int y1), .val (.int y2), .val (.int xq), .val (.int yq), .val (.ref buf), .val (.ref fa), .val (.int (Int32.ofNat (own_sz an x1 x2 xq))), .val (.int (Int32.ofNat (own_sz bn y1 y2 yq))), .val (.int (Int32.ofNat (bs1 ++ own_chB an x1 x2 xq ++ own_chB bn y1 y2 yq).length)), .val (.int (Int32.ofNat (wn + max an bn))), .val (.int (0 : Int32))] [(.int (0 : Int32))])
        refine B.iload 281 rfl at_279 rfl ?_
        refine B.icmp_ne 288 284 rfl (by decide) rfl at_281 (fun c281 => ?_) (fun c281 => ?_)
        · exact absurd c281 (by decide)
        · refine B.iconst 285 rfl (1 : Int32) at_284 rfl ?_
          refine B.goto 289 rfl (by decide) at_285 ?_
          refine B.retN (by simp) at_289 (by decide) (by decide) ?_
          exact rfl
      · have n2 : ln < wn + max an bn := (own_lt (ln) (wn + max an bn) (by omega) (by omega)).mp c250
        refine B.aload 255 rfl at_253 rfl rfl ?_
        refine B.iload 257 rfl at_255 rfl ?_
        refine B.iconst 258 rfl (1 : Int32) at_257 rfl ?_
        refine B.iadd 259 rfl at_258 ?_
        refine B.topI (Int32.ofNat (ln + 1)) (own_add ln 1) ?_
        refine B.iaload 260 rfl at_259 Af5 (own_nn (ln + 1) (by omega)).1 (ln + 1) (own_nn (ln + 1) (by omega)).2 (.int (Int32.ofNat (fs3 (ln + 1)))) (own_fv_get fs3 (ln + 1) (by omega)) ?_
        refine B.bipush 262 rfl (48 : Int32) at_260 rfl ?_
        refine B.icmp_gt 269 265 rfl (by decide) rfl at_262 (fun c262 => ?_) (fun c262 => ?_)
        · have n3 : ¬ fs3 (ln + 1) ≤ 48 := by have := (own_lt 48 (fs3 (ln + 1)) (by omega) (by have := lf3 (ln + 1); omega)).mp c262; omega
          refine B.iconst 270 rfl (0 : Int32) at_269 rfl ?_
          refine B.istore 272 rfl at_270 #[.val (.int p1), .val (.long p2), .second, .val (.long p3), .second, .val (.long p4), .second, .val (.long p5), .second, .val (.int (Int32.ofNat wn)), .val (.int (Int32.ofNat an)), .val (.int (Int32.ofNat bn)), .val (.int (Int32.ofNat ln)), .val (.int (Int32.ofNat (2 * pk))), .val (.int uw), .val (.long xe), .second, .val (.int x1), .val (.int x2), .val (.int y1), .val (.int y2), .val (.int xq), .val (.int yq), .val (.ref buf), .val (.ref fa), .val (.int (Int32.ofNat (own_sz an x1 x2 xq))), .val (.int (Int32.ofNat (own_sz bn y1 y2 yq))), .val (.int (Int32.ofNat (bs1 ++ own_chB an x1 x2 xq ++ own_chB bn y1 y2 yq).length)), .val (.int (Int32.ofNat (wn + max an bn))), .val (.int (0 : Int32))] rfl ?_
          refine B.aload 274 rfl at_272 rfl rfl ?_
          refine B.iload 276 rfl at_274 rfl ?_
          refine B.callS 279 rfl at_276 (wd hw 40 rfl) (wd hw 41 rfl) (wd hw 42 rfl) (wd hw 43 rfl) (by decide) [(.ref buf), (.int (Int32.ofNat ln))] [] (rm_de l Z a0 hw buf (own_all (2 * pk) wn an bn uw x1 x2 xq y1 y2 yq xe) ln false h5 A5 (own_lb_f (own_lb_all _ _ _ _ _ _ _ _ _ _ _ _ (by omega))) l_ln (by rw [hans]; exact decide_eq_false (fun z => n3 z.2))) rfl rfl pd___BI_Z rfl rfl 0 rfl (by decide) (by decide) (by decide) (by decide) (fun _ q => nomatch q) ?_
          rintro _ h6 K6 rfl
          show B.G h6 3 58 (mkF m 279 #[.val (.int p1), .val (.long p2), .second, .val (.long p3), .second, .val (.long p4), .second, .val (.long p5), .second, .val (.int (Int32.ofNat wn)), .val (.int (Int32.ofNat an)), .val (.int (Int32.ofNat bn)), .val (.int (Int32.ofNat ln)), .val (.int (Int32.ofNat (2 * pk))), .val (.int uw), .val (.long xe), .second, .val (.int x1), .val (.int x2), .val (.int y1), .val (.int y2), .val (.int xq), .val (.int yq), .val (.ref buf), .val (.ref fa), .val (.int (Int32.ofNat (own_sz an x1 x2 xq))), .val (.int (Int32.ofNat (own_sz bn y1 y2 yq))), .val (.int (Int32.ofNat (bs1 ++ own_chB an x1 x2 xq ++ own_chB bn y1 y2 yq).length)), .val (.int (Int32.ofNat (wn + max an bn))), .val (.int (0 : Int32))] [(.int (0 : Int32))])
          refine B.iload 281 rfl at_279 rfl ?_
          refine B.icmp_ne 288 284 rfl (by decide) rfl at_281 (fun c281 => ?_) (fun c281 => ?_)
          · exact absurd c281 (by decide)
          · refine B.iconst 285 rfl (1 : Int32) at_284 rfl ?_
            refine B.goto 289 rfl (by decide) at_285 ?_
            refine B.retN (by simp) at_289 (by decide) (by decide) ?_
            exact rfl
        · have n3 : fs3 (ln + 1) ≤ 48 := by have : ¬ 48 < fs3 (ln + 1) := fun z => c262 ((own_lt 48 (fs3 (ln + 1)) (by omega) (by have := lf3 (ln + 1); omega)).mpr z); omega
          refine B.iconst 266 rfl (1 : Int32) at_265 rfl ?_
          refine B.goto 270 rfl (by decide) at_266 ?_
          refine B.istore 272 rfl at_270 #[.val (.int p1), .val (.long p2), .second, .val (.long p3), .second, .val (.long p4), .second, .val (.long p5), .second, .val (.int (Int32.ofNat wn)), .val (.int (Int32.ofNat an)), .val (.int (Int32.ofNat bn)), .val (.int (Int32.ofNat ln)), .val (.int (Int32.ofNat (2 * pk))), .val (.int uw), .val (.long xe), .second, .val (.int x1), .val (.int x2), .val (.int y1), .val (.int y2), .val (.int xq), .val (.int yq), .val (.ref buf), .val (.ref fa), .val (.int (Int32.ofNat (own_sz an x1 x2 xq))), .val (.int (Int32.ofNat (own_sz bn y1 y2 yq))), .val (.int (Int32.ofNat (bs1 ++ own_chB an x1 x2 xq ++ own_chB bn y1 y2 yq).length)), .val (.int (Int32.ofNat (wn + max an bn))), .val (.int (1 : Int32))] rfl ?_
          refine B.aload 274 rfl at_272 rfl rfl ?_
          refine B.iload 276 rfl at_274 rfl ?_
          refine B.callS 279 rfl at_276 (wd hw 40 rfl) (wd hw 41 rfl) (wd hw 42 rfl) (wd hw 43 rfl) (by decide) [(.ref buf), (.int (Int32.ofNat ln))] [] (rm_de l Z a0 hw buf (own_all (2 * pk) wn an bn uw x1 x2 xq y1 y2 yq xe) ln true h5 A5 (own_lb_f (own_lb_all _ _ _ _ _ _ _ _ _ _ _ _ (by omega))) l_ln (by rw [hans]; exact decide_eq_true ⟨n2, n3⟩)) rfl rfl pd___BI_Z rfl rfl 0 rfl (by decide) (by decide) (by decide) (by decide) (fun _ q => nomatch q) ?_
          rintro _ h6 K6 rfl
          show B.G h6 3 58 (mkF m 279 #[.val (.int p1), .val (.long p2), .second, .val (.long p3), .second, .val (.long p4), .second, .val (.long p5), .second, .val (.int (Int32.ofNat wn)), .val (.int (Int32.ofNat an)), .val (.int (Int32.ofNat bn)), .val (.int (Int32.ofNat ln)), .val (.int (Int32.ofNat (2 * pk))), .val (.int uw), .val (.long xe), .second, .val (.int x1), .val (.int x2), .val (.int y1), .val (.int y2), .val (.int xq), .val (.int yq), .val (.ref buf), .val (.ref fa), .val (.int (Int32.ofNat (own_sz an x1 x2 xq))), .val (.int (Int32.ofNat (own_sz bn y1 y2 yq))), .val (.int (Int32.ofNat (bs1 ++ own_chB an x1 x2 xq ++ own_chB bn y1 y2 yq).length)), .val (.int (Int32.ofNat (wn + max an bn))), .val (.int (1 : Int32))] [(.int (1 : Int32))])
          refine B.iload 281 rfl at_279 rfl ?_
          refine B.icmp_ne 288 284 rfl (by decide) rfl at_281 (fun c281 => ?_) (fun c281 => ?_)
          · exact absurd c281 (by decide)
          · refine B.iconst 285 rfl (1 : Int32) at_284 rfl ?_
            refine B.goto 289 rfl (by decide) at_285 ?_
            refine B.retN (by simp) at_289 (by decide) (by decide) ?_
            exact rfl
    refine B.iload 162 rfl at_160 rfl ?_
    refine B.iconst 163 rfl (1 : Int32) at_162 rfl ?_
    refine B.icmp_ne 192 166 rfl (by decide) rfl at_163 (fun c163 => ?_) (fun c163 => ?_)
    · have n1 : ¬ wn = 1 := fun z => c163 (by rw [z]; rfl)
      exact J192 h (own_pre (2 * pk)) (fun _ => 0) (by simp [own_W, n1]) (by simp [n1]) Ab Af
    · have n1 : wn = 1 := (own_inj wn 1 (by omega) (by omega)).mp c163
      refine B.aload 168 rfl at_166 rfl rfl ?_
      refine B.iload 170 rfl at_168 rfl ?_
      refine B.iload 172 rfl at_170 rfl ?_
      refine B.iload 174 rfl at_172 rfl ?_
      refine B.iload 176 rfl at_174 rfl ?_
      refine B.iadd 177 rfl at_176 ?_
      refine B.topI (Int32.ofNat (own_sz an x1 x2 xq + own_sz bn y1 y2 yq)) (own_add _ _) ?_
      refine B.lload 179 rfl at_177 rfl ?_
      refine B.callS 182 rfl at_179 (wd hw 51 rfl) (wd hw 52 rfl) (wd hw 4 rfl) (wd hw 53 rfl) (by decide) [(.ref buf), (.int (Int32.ofNat (own_pre (2 * pk)).length)), (.int uw), (.int (Int32.ofNat (own_sz an x1 x2 xq + own_sz bn y1 y2 yq))), (.long xe)] [] (rm_wc l Z a0 hw buf (own_pre (2 * pk)) uw (own_sz an x1 x2 xq + own_sz bn y1 y2 yq) xe h Ab (by rw [own_preL _ (by omega)]; omega) (by have := own_sz_l an x1 x2 xq; have := own_sz_l bn y1 y2 yq; omega)) rfl rfl pd___BIIIJ_I rfl rfl 0 rfl (by decide) (by decide) (by decide) (by decide) (fun x z => Or.inr (by cases List.mem_singleton.mp z; exact g_buf)) ?_
      rintro _ h2 K2 ⟨rfl, Ab2⟩
      show B.G h2 2 54 (mkF m 182 #[.val (.int p1), .val (.long p2), .second, .val (.long p3), .second, .val (.long p4), .second, .val (.long p5), .second, .val (.int (Int32.ofNat wn)), .val (.int (Int32.ofNat an)), .val (.int (Int32.ofNat bn)), .val (.int (Int32.ofNat ln)), .val (.int (Int32.ofNat (2 * pk))), .val (.int uw), .val (.long xe), .second, .val (.int x1), .val (.int x2), .val (.int y1), .val (.int y2), .val (.int xq), .val (.int yq), .val (.ref buf), .val (.ref fa), .val (.int (Int32.ofNat (own_sz an x1 x2 xq))), .val (.int (Int32.ofNat (own_sz bn y1 y2 yq))), .val (.int (Int32.ofNat (own_pre (2 * pk)).length)), .unset, .unset] [(.int (Int32.ofNat (own_pre (2 * pk) ++ own_consB uw (own_sz an x1 x2 xq + own_sz bn y1 y2 yq) xe).length))])
      have Af2 := Af.keep K2 (ninS hne nin0)
      refine B.istore 184 rfl at_182 #[.val (.int p1), .val (.long p2), .second, .val (.long p3), .second, .val (.long p4), .second, .val (.long p5), .second, .val (.int (Int32.ofNat wn)), .val (.int (Int32.ofNat an)), .val (.int (Int32.ofNat bn)), .val (.int (Int32.ofNat ln)), .val (.int (Int32.ofNat (2 * pk))), .val (.int uw), .val (.long xe), .second, .val (.int x1), .val (.int x2), .val (.int y1), .val (.int y2), .val (.int xq), .val (.int yq), .val (.ref buf), .val (.ref fa), .val (.int (Int32.ofNat (own_sz an x1 x2 xq))), .val (.int (Int32.ofNat (own_sz bn y1 y2 yq))), .val (.int (Int32.ofNat (own_pre (2 * pk) ++ own_consB uw (own_sz an x1 x2 xq + own_sz bn y1 y2 yq) xe).length)), .unset, .unset] rfl ?_
      refine B.aload 186 rfl at_184 rfl rfl ?_
      refine B.iconst 187 rfl (1 : Int32) at_186 rfl ?_
      refine B.iload 189 rfl at_187 rfl ?_
      refine B.callS 192 rfl at_189 (wd hw 58 rfl) (wd hw 59 rfl) (wd hw 4 rfl) (wd hw 60 rfl) (by decide) [(.ref fa), (.int (1 : Int32)), (.int (Int32.ofNat (own_pre (2 * pk) ++ own_consB uw (own_sz an x1 x2 xq + own_sz bn y1 y2 yq) xe).length))] [] (rm_mk l Z a0 hw fa (fun _ => 0) 1 (own_pre (2 * pk) ++ own_consB uw (own_sz an x1 x2 xq + own_sz bn y1 y2 yq) xe).length h2 Af2 (by omega) (fun _ => by omega)) rfl rfl pd___III_V rfl rfl 0 rfl (by decide) (by decide) (by decide) (by decide) (fun x z => Or.inr (by cases List.mem_singleton.mp z; exact g_fa)) ?_
      rintro _ h3 K3 ⟨rfl, Af3⟩
      show B.G h3 2 54 (mkF m 192 #[.val (.int p1), .val (.long p2), .second, .val (.long p3), .second, .val (.long p4), .second, .val (.long p5), .second, .val (.int (Int32.ofNat wn)), .val (.int (Int32.ofNat an)), .val (.int (Int32.ofNat bn)), .val (.int (Int32.ofNat ln)), .val (.int (Int32.ofNat (2 * pk))), .val (.int uw), .val (.long xe), .second, .val (.int x1), .val (.int x2), .val (.int y1), .val (.int y2), .val (.int xq), .val (.int yq), .val (.ref buf), .val (.ref fa), .val (.int (Int32.ofNat (own_sz an x1 x2 xq))), .val (.int (Int32.ofNat (own_sz bn y1 y2 yq))), .val (.int (Int32.ofNat (own_pre (2 * pk) ++ own_consB uw (own_sz an x1 x2 xq + own_sz bn y1 y2 yq) xe).length)), .unset, .unset] [])
      have Ab3 := Ab2.keep K3 (ninS (Ne.symm hne) nin0)
      exact J192 _ _ _ (by simp [own_W, n1]) (by simp [n1]) Ab3 Af3
  refine B.iload 134 rfl at_132 rfl ?_
  refine B.if0_le 160 137 rfl (by decide) rfl at_134 (fun c134 => ?_) (fun c134 => ?_)
  · have n1 : pk = 0 := by have : ¬ 0 < 2 * pk := fun z => c134 ((own_lt (0) (2 * pk) (by omega) (by omega)).mpr z); omega
    subst n1
    exact J160 _ A_bf A_fa
  · have n1 : 0 < 2 * pk := (own_lt (0) (2 * pk) (by omega) (by omega)).mp c134
    refine B.aload 139 rfl at_137 rfl rfl ?_
    refine B.iconst 140 rfl (0 : Int32) at_139 rfl ?_
    refine B.iconst 141 rfl (4 : Int32) at_140 rfl ?_
    refine B.callS 144 rfl at_141 (wd hw 30 rfl) (wd hw 31 rfl) (wd hw 4 rfl) (wd hw 32 rfl) (by decide) [(.ref buf), (.int (0 : Int32)), (.int (4 : Int32))] [] (rm_put l Z a0 hw buf [] 4 h_fa A_bf (by simp)) rfl rfl pd___BII_I rfl rfl 0 rfl (by decide) (by decide) (by decide) (by decide) (fun x z => Or.inr (by cases List.mem_singleton.mp z; exact g_buf)) ?_
    rintro _ h1 K1 ⟨rfl, A1⟩
    show B.G h1 2 54 (mkF m 144 #[.val (.int p1), .val (.long p2), .second, .val (.long p3), .second, .val (.long p4), .second, .val (.long p5), .second, .val (.int (Int32.ofNat wn)), .val (.int (Int32.ofNat an)), .val (.int (Int32.ofNat bn)), .val (.int (Int32.ofNat ln)), .val (.int (Int32.ofNat (2 * pk))), .val (.int uw), .val (.long xe), .second, .val (.int x1), .val (.int x2), .val (.int y1), .val (.int y2), .val (.int xq), .val (.int yq), .val (.ref buf), .val (.ref fa), .val (.int (Int32.ofNat (own_sz an x1 x2 xq))), .val (.int (Int32.ofNat (own_sz bn y1 y2 yq))), .val (.int (0 : Int32)), .unset, .unset] [(.int (Int32.ofNat ([] ++ [4] : List Nat).length))])
    refine B.pop 145 rfl at_144 rfl ?_
    refine B.aload 147 rfl at_145 rfl rfl ?_
    refine B.iconst 148 rfl (1 : Int32) at_147 rfl ?_
    refine B.iload 150 rfl at_148 rfl ?_
    refine B.iconst 151 rfl (2 : Int32) at_150 rfl ?_
    refine B.isub 152 rfl at_151 ?_
    refine B.topI (Int32.ofNat (2 * pk - 2)) (own_sub2 _ (by omega)) ?_
    refine B.callS 155 rfl at_152 (wd hw 30 rfl) (wd hw 31 rfl) (wd hw 4 rfl) (wd hw 32 rfl) (by decide) [(.ref buf), (.int (1 : Int32)), (.int (Int32.ofNat (2 * pk - 2)))] [] (rm_put l Z a0 hw buf ([] ++ [4]) (2 * pk - 2) h1 A1 (by simp)) rfl rfl pd___BII_I rfl rfl 0 rfl (by decide) (by decide) (by decide) (by decide) (fun x z => Or.inr (by cases List.mem_singleton.mp z; exact g_buf)) ?_
    rintro _ h2 K2 ⟨rfl, A2⟩
    show B.G h2 2 54 (mkF m 155 #[.val (.int p1), .val (.long p2), .second, .val (.long p3), .second, .val (.long p4), .second, .val (.long p5), .second, .val (.int (Int32.ofNat wn)), .val (.int (Int32.ofNat an)), .val (.int (Int32.ofNat bn)), .val (.int (Int32.ofNat ln)), .val (.int (Int32.ofNat (2 * pk))), .val (.int uw), .val (.long xe), .second, .val (.int x1), .val (.int x2), .val (.int y1), .val (.int y2), .val (.int xq), .val (.int yq), .val (.ref buf), .val (.ref fa), .val (.int (Int32.ofNat (own_sz an x1 x2 xq))), .val (.int (Int32.ofNat (own_sz bn y1 y2 yq))), .val (.int (0 : Int32)), .unset, .unset] [(.int (Int32.ofNat ([] ++ [4] ++ [2 * pk - 2] : List Nat).length))])
    refine B.pop 156 rfl at_155 rfl ?_
    refine B.iload 158 rfl at_156 rfl ?_
    refine B.istore 160 rfl at_158 #[.val (.int p1), .val (.long p2), .second, .val (.long p3), .second, .val (.long p4), .second, .val (.long p5), .second, .val (.int (Int32.ofNat wn)), .val (.int (Int32.ofNat an)), .val (.int (Int32.ofNat bn)), .val (.int (Int32.ofNat ln)), .val (.int (Int32.ofNat (2 * pk))), .val (.int uw), .val (.long xe), .second, .val (.int x1), .val (.int x2), .val (.int y1), .val (.int y2), .val (.int xq), .val (.int yq), .val (.ref buf), .val (.ref fa), .val (.int (Int32.ofNat (own_sz an x1 x2 xq))), .val (.int (Int32.ofNat (own_sz bn y1 y2 yq))), .val (.int (Int32.ofNat (2 * pk))), .unset, .unset] rfl ?_
    rw [own_b_pre (2 * pk) (by omega)] at A2
    have J := J160 _ A2 ((A_fa.keep K1 (ninS hne nin0)).keep K2 (ninS hne nin0))
    rw [own_preL (2 * pk) (by omega)] at J
    exact J
set_option maxRecDepth 65536 in
set_option maxHeartbeats 4000000 in
theorem comes_1 {Post : Tables → Env → Array Value → State → Outcome → State → Prop} (hpost : ∀ tb e args s v u, (limb_1_1.after args s (.returned v) u = true ∧ limb_1_2.after args s (.returned v) u = true ∧ True) → FrameEnd s (.returned v) u (Jvm.fieldLocs frame_1_writes args s ++ Jvm.arrayLocs frame_1_arrays args s ++ Jvm.staticLocs frame_1_statics s) 16 192 → Post tb e args s (.returned v) u) :
    ArmFor flags0 classFile x code maxLocals ret World_1 tables_1 room_1 Calls_1 rest_1 Pre_1 Post := by
  intro l hfl _ _ p e ha hc hk s m args below hf hA hF happ hP
  obtain ⟨hcalls, hrest, hpre⟩ := hP
  obtain ⟨-, -, -, hnamed, -, -, -, hat⟩ := (Spec.applies_iff hf).mp happ
  obtain ⟨hg, hn⟩ := and_e (Cond.before_iff.mp (show (Jvm.Cond.and given_1 narrow_1).before args s = true from hpre))
  obtain ⟨g0, gg0⟩ := and_e hg
  obtain ⟨k0, gg1⟩ := and_e gg0
  obtain ⟨k1, gg2⟩ := and_e gg1
  obtain ⟨k2, gg3⟩ := and_e gg2
  obtain ⟨k3, gg4⟩ := and_e gg3
  obtain ⟨w0, w1, w2, w3, w4, rfl⟩ : ∃ w0 w1 w2 w3 w4 : Value, args = #[w0, w1, w2, w3, w4] := by
    have hs : args.size = 5 := by simpa [Cond.value, given_1] using g0
    obtain ⟨L⟩ := args
    match L, hs with
    | [w0, w1, w2, w3, w4], _ => exact ⟨w0, w1, w2, w3, w4, rfl⟩
  have hw := fun d (hd : d ∈ tables_1) => atoms_spec (ws := Jvm.Cond.code x code maxLocals ret :: tables_1) hat d (List.mem_cons_of_mem _ hd)
  obtain ⟨i0, ei0⟩ := is_v k0
  obtain rfl : w0 = (.int i0) := Option.some.inj ei0
  obtain ⟨i1, ei1⟩ := isL_v k1
  obtain rfl : w1 = (.long i1) := Option.some.inj ei1
  obtain ⟨i2, ei2⟩ := isL_v k2
  obtain rfl : w2 = (.long i2) := Option.some.inj ei2
  obtain ⟨i3, ei3⟩ := isL_v k3
  obtain rfl : w3 = (.long i3) := Option.some.inj ei3
  obtain ⟨i4, ei4⟩ := isL_v gg4
  obtain rfl : w4 = (.long i4) := Option.some.inj ei4
  obtain ⟨n, o, h1, h2, h3, _, L, rfl, ⟨rfl, N, -⟩, hq⟩ := rm0 l s _ hw tables_1 i0 i1 i2 i3 i4 s.heap  p e ha hc hk s m _ below hf ((Spec.applies_iff_loose hf).mp happ).1 ⟨rfl, State.Warmed39.refl s, rfl⟩ trivial
  refine ⟨n, _, h1, h2, h3, hpost _ _ _ _ _ _ ⟨Cond.after_iff.mpr rfl, Cond.after_iff.mpr (eq_i res_at (Term.int_eval (1)) rfl), trivial⟩ ⟨hq.1, hq.2.1, (hq.2.2.sift fun y hy => Or.inr ((N y hy).resolve_left (by simp))).mono (by decide) (by decide)⟩⟩
theorem main_1_1 : Claimed_1_1 := comes_1 fun _ _ _ _ _ _ h hF => ⟨h.1, hF⟩
theorem main_1_2 : Claimed_1_2 := comes_1 fun _ _ _ _ _ _ h hF => ⟨h.2.1, hF⟩
end Jvm.Pilot.@@N@@
namespace Jvm.Pilot.@@N@@
open Jvm Jvm.ClassFile Sem Op Lib Jvm.Free Jvm.Stand Jvm.Pilot.@@N@@.Jvm.D
/-! MADE BY PROGRAM (witnessworld.py) out of the Statement's table words and the real class files: 10 classes; the members and pool entries that the words name. The judged class is class 1, her method 1. -/
namespace start1
open Jvm.ClassFile
def u (s : String) : CpInfo := .utf8 (stringToUtf16 s)
/-- a pool by its gaps: so many unusable entries, then the entry; so many at the end -/
def gap : Nat → List CpInfo → List CpInfo
  | 0, r => r
  | n + 1, r => .unusable :: gap n r
def poolList (es : List (Nat × CpInfo)) (last : Nat) : List CpInfo := es.foldr (fun e r => gap e.1 (e.2 :: r)) (gap last [])
def pool (es : List (Nat × CpInfo)) (last : Nat) : Array CpInfo := ⟨poolList es last⟩
def fileOf (pool : Array CpInfo) (this : Nat) (attrs : Array Attribute := #[]) (ms : Array MethodInfo := #[]) (fl : Nat := 33) (sup : Nat := 0) (ifs : Array Nat := #[]) (fds : Array FieldInfo := #[]) : ClassFile where
  minorVersion := 0
  majorVersion := 65
  constantPool := pool
  accessFlags := fl
  thisClass := this
  superClass := sup
  interfaces := ifs
  fields := fds
  methods := ms
  attributes := attrs
def plain (name : String) (sup : Option ClassId) : Class where
  name := name
  kind := .ordinary
  loader := none
  accessFlags := 33
  super := sup
  interfaces := #[]
  cf := none
  fields := #[]
  methods := #[]
  instanceTypes := #[]
  staticTypes := #[]
  resolved := #[]
  callSites := []
  init := .initialized
  statics := none
  mirror := none

def pool0 : Array CpInfo := pool [(5, u "<init>"), (0, u "()V"), (1, .class_ 10), (1, u "java/lang/Object")] 113

def k0m0 : Method := { name := "<init>", desc := "()V", sig := { parameters := [], returnType := none }, accessFlags := 1, code := none }
/-- java/lang/Object -/
def k0 : Class := { plain "java/lang/Object" none with
  accessFlags := 33
  interfaces := #[]
  cf := some (fileOf pool0 8 #[] #[{ accessFlags := 1, nameIndex := 5, descriptorIndex := 6, attributes := #[] }] 33 0 #[] #[])
  fields := #[]
  methods := #[k0m0]
  instanceTypes := #[]
  staticTypes := #[]
  resolved := Array.replicate 124 none
  statics := none }

def pool1 : Array CpInfo := pool [(2, .class_ 4), (1, u "java/lang/Object"), (0, u "<init>"), (0, u "()V"), (0, .methodref 8 9), (0, .class_ 10), (0, .nameAndType 11 12), (0, u "com/example/siegelwerk/siegelwerk/BerNestingDeeperThanPinLaw"), (0, u "chainSize"), (0, u "(IIII)I"), (0, .methodref 8 14), (0, .nameAndType 15 16), (0, u "put"), (0, u "([BII)I"), (0, .methodref 8 18), (0, .nameAndType 19 20), (0, u "writeCons"), (0, u "([BIIIJ)I"), (0, .methodref 8 22), (0, .nameAndType 23 24), (0, u "mark"), (0, u "([III)V"), (0, .methodref 8 26), (0, .nameAndType 27 28), (0, u "writeChain"), (0, u "([B[IIIIIII)I"), (0, .methodref 30 31), (0, .class_ 32), (0, .nameAndType 33 34), (0, u "java/lang/Math"), (0, u "max"), (0, u "(II)I"), (0, .methodref 36 37), (0, .class_ 38), (0, .nameAndType 39 40), (0, u "com/example/siegelwerk/siegelwerk/BerNesting"), (0, u "deeperThan"), (0, u "([BI)Z"), (0, .methodref 8 42), (0, .nameAndType 43 44), (0, u "high"), (0, u "(I)Z"), (0, .methodref 8 46), (0, .nameAndType 47 48), (0, u "idLen"), (0, u "(I)I"), (0, .methodref 8 50), (0, .nameAndType 51 48), (0, u "primCount"), (0, .methodref 8 53), (0, .nameAndType 54 48), (0, u "primContent"), (0, .methodref 8 56), (0, .nameAndType 57 48), (0, u "consCount"), (0, .methodref 8 59), (0, .nameAndType 60 48), (0, u "primSize"), (0, .methodref 8 62), (0, .nameAndType 63 34), (0, u "consSize"), (0, .long 63), (1, .long 127), (1, .long 32767), (1, .long 8388607), (1, .long 2147483647), (1, .methodref 8 75), (0, .nameAndType 76 77), (0, u "writeId"), (0, u "([BIII)I"), (0, .methodref 8 79), (0, .nameAndType 80 81), (0, u "extraFor"), (0, u "(IJ)J"), (0, .methodref 8 83), (0, .nameAndType 84 85), (0, u "writeLen"), (0, u "([BIIJ)I"), (0, .methodref 8 87), (0, .nameAndType 88 16), (0, u "writePrim"), (2, u "law"), (0, u "(IJJJJ)Z")] 7

def k1m0 : Method := { name := "<init>", desc := "()V", sig := { parameters := [], returnType := none }, accessFlags := 2, code := none }
def k1c1 : Code := { maxStack := 8, maxLocals := 30, code := code, exceptionTable := #[], attributes := #[] }
def k1m1 : Method := { name := "law", desc := "(IJJJJ)Z", sig := { parameters := [.int, .long, .long, .long, .long], returnType := some .boolean }, accessFlags := 9, code := some k1c1 }
def k1c2 : Code := { maxStack := 3, maxLocals := 3, code := method_3_code, exceptionTable := #[], attributes := #[] }
def k1m2 : Method := { name := "put", desc := "([BII)I", sig := { parameters := [(.array .byte), .int, .int], returnType := some .int }, accessFlags := 10, code := some k1c2 }
def k1c3 : Code := { maxStack := 2, maxLocals := 1, code := method_4_code, exceptionTable := #[], attributes := #[] }
def k1m3 : Method := { name := "high", desc := "(I)Z", sig := { parameters := [.int], returnType := some .boolean }, accessFlags := 10, code := some k1c3 }
def k1c4 : Code := { maxStack := 2, maxLocals := 1, code := method_5_code, exceptionTable := #[], attributes := #[] }
def k1m4 : Method := { name := "idLen", desc := "(I)I", sig := { parameters := [.int], returnType := some .int }, accessFlags := 10, code := some k1c4 }
def k1c5 : Code := { maxStack := 2, maxLocals := 2, code := method_6_code, exceptionTable := #[], attributes := #[] }
def k1m5 : Method := { name := "consCount", desc := "(I)I", sig := { parameters := [.int], returnType := some .int }, accessFlags := 10, code := some k1c5 }
def k1c6 : Code := { maxStack := 2, maxLocals := 1, code := method_7_code, exceptionTable := #[], attributes := #[] }
def k1m6 : Method := { name := "primCount", desc := "(I)I", sig := { parameters := [.int], returnType := some .int }, accessFlags := 10, code := some k1c6 }
def k1c7 : Code := { maxStack := 2, maxLocals := 1, code := method_8_code, exceptionTable := #[], attributes := #[] }
def k1m7 : Method := { name := "primContent", desc := "(I)I", sig := { parameters := [.int], returnType := some .int }, accessFlags := 10, code := some k1c7 }
def k1c8 : Code := { maxStack := 2, maxLocals := 1, code := method_9_code, exceptionTable := #[], attributes := #[] }
def k1m8 : Method := { name := "primSize", desc := "(I)I", sig := { parameters := [.int], returnType := some .int }, accessFlags := 10, code := some k1c8 }
def k1c9 : Code := { maxStack := 2, maxLocals := 3, code := method_10_code, exceptionTable := #[], attributes := #[] }
def k1m9 : Method := { name := "consSize", desc := "(II)I", sig := { parameters := [.int, .int], returnType := some .int }, accessFlags := 10, code := some k1c9 }
def k1c10 : Code := { maxStack := 2, maxLocals := 5, code := method_11_code, exceptionTable := #[], attributes := #[] }
def k1m10 : Method := { name := "chainSize", desc := "(IIII)I", sig := { parameters := [.int, .int, .int, .int], returnType := some .int }, accessFlags := 10, code := some k1c10 }
def k1c11 : Code := { maxStack := 5, maxLocals := 4, code := method_12_code, exceptionTable := #[], attributes := #[] }
def k1m11 : Method := { name := "writeId", desc := "([BIII)I", sig := { parameters := [(.array .byte), .int, .int, .int], returnType := some .int }, accessFlags := 10, code := some k1c11 }
def k1c12 : Code := { maxStack := 5, maxLocals := 5, code := method_13_code, exceptionTable := #[], attributes := #[] }
def k1m12 : Method := { name := "writeLen", desc := "([BIIJ)I", sig := { parameters := [(.array .byte), .int, .int, .long], returnType := some .int }, accessFlags := 10, code := some k1c12 }
def k1c13 : Code := { maxStack := 4, maxLocals := 3, code := method_14_code, exceptionTable := #[], attributes := #[] }
def k1m13 : Method := { name := "extraFor", desc := "(IJ)J", sig := { parameters := [.int, .long], returnType := some .long }, accessFlags := 10, code := some k1c13 }
def k1c14 : Code := { maxStack := 8, maxLocals := 7, code := method_15_code, exceptionTable := #[], attributes := #[] }
def k1m14 : Method := { name := "writeCons", desc := "([BIIIJ)I", sig := { parameters := [(.array .byte), .int, .int, .int, .long], returnType := some .int }, accessFlags := 10, code := some k1c14 }
def k1c15 : Code := { maxStack := 5, maxLocals := 5, code := method_16_code, exceptionTable := #[], attributes := #[] }
def k1m15 : Method := { name := "writePrim", desc := "([BII)I", sig := { parameters := [(.array .byte), .int, .int], returnType := some .int }, accessFlags := 10, code := some k1c15 }
def k1c16 : Code := { maxStack := 3, maxLocals := 3, code := method_17_code, exceptionTable := #[], attributes := #[] }
def k1m16 : Method := { name := "mark", desc := "([III)V", sig := { parameters := [(.array .int), .int, .int], returnType := none }, accessFlags := 10, code := some k1c16 }
def k1c17 : Code := { maxStack := 6, maxLocals := 10, code := method_18_code, exceptionTable := #[], attributes := #[] }
def k1m17 : Method := { name := "writeChain", desc := "([B[IIIIIII)I", sig := { parameters := [(.array .byte), (.array .int), .int, .int, .int, .int, .int, .int], returnType := some .int }, accessFlags := 10, code := some k1c17 }
/-- com/example/siegelwerk/siegelwerk/BerNestingDeeperThanPinLaw -/
def k1 : Class := { plain "com/example/siegelwerk/siegelwerk/BerNestingDeeperThanPinLaw" (some 0) with
  accessFlags := 49
  interfaces := #[]
  cf := some (fileOf pool1 8 #[] #[{ accessFlags := 2, nameIndex := 5, descriptorIndex := 6, attributes := #[] }, { accessFlags := 9, nameIndex := 91, descriptorIndex := 92, attributes := #[] }, { accessFlags := 10, nameIndex := 15, descriptorIndex := 16, attributes := #[] }, { accessFlags := 10, nameIndex := 43, descriptorIndex := 44, attributes := #[] }, { accessFlags := 10, nameIndex := 47, descriptorIndex := 48, attributes := #[] }, { accessFlags := 10, nameIndex := 57, descriptorIndex := 48, attributes := #[] }, { accessFlags := 10, nameIndex := 51, descriptorIndex := 48, attributes := #[] }, { accessFlags := 10, nameIndex := 54, descriptorIndex := 48, attributes := #[] }, { accessFlags := 10, nameIndex := 60, descriptorIndex := 48, attributes := #[] }, { accessFlags := 10, nameIndex := 63, descriptorIndex := 34, attributes := #[] }, { accessFlags := 10, nameIndex := 11, descriptorIndex := 12, attributes := #[] }, { accessFlags := 10, nameIndex := 76, descriptorIndex := 77, attributes := #[] }, { accessFlags := 10, nameIndex := 84, descriptorIndex := 85, attributes := #[] }, { accessFlags := 10, nameIndex := 80, descriptorIndex := 81, attributes := #[] }, { accessFlags := 10, nameIndex := 19, descriptorIndex := 20, attributes := #[] }, { accessFlags := 10, nameIndex := 88, descriptorIndex := 16, attributes := #[] }, { accessFlags := 10, nameIndex := 23, descriptorIndex := 24, attributes := #[] }, { accessFlags := 10, nameIndex := 27, descriptorIndex := 28, attributes := #[] }] 49 2 #[] #[])
  fields := #[]
  methods := #[k1m0, k1m1, k1m2, k1m3, k1m4, k1m5, k1m6, k1m7, k1m8, k1m9, k1m10, k1m11, k1m12, k1m13, k1m14, k1m15, k1m16, k1m17]
  instanceTypes := #[]
  staticTypes := #[]
  resolved := Array.replicate 100 none
  statics := none }

def pool2 : Array CpInfo := pool [(1, .class_ 2), (0, u "java/lang/Math"), (1, .class_ 6), (1, u "java/lang/Object"), (0, u "<init>"), (0, u "()V"), (89, .class_ 100), (1, u "java/lang/Math$RandomNumberGeneratorHolder"), (20, u "(JJ)J"), (50, u "negativeZeroFloatBits"), (0, u "J"), (2, u "negativeZeroDoubleBits"), (21, u "max"), (2, u "min"), (43, u "$assertionsDisabled"), (0, u "Z"), (88, u "(II)I"), (2, u "twoToTheDoubleScaleDown"), (0, u "D"), (4, u "twoToTheDoubleScaleUp"), (9, u "E"), (3, u "PI"), (2, u "TAU"), (2, u "DEGREES_TO_RADIANS"), (0, u "RADIANS_TO_DEGREES")] 94

def k2m0 : Method := { name := "<init>", desc := "()V", sig := { parameters := [], returnType := none }, accessFlags := 2, code := none }
def k2c1 : Code := { maxStack := 2, maxLocals := 2, code := jdk_29_method_65_code, exceptionTable := #[], attributes := #[] }
def k2m1 : Method := { name := "max", desc := "(II)I", sig := { parameters := [.int, .int], returnType := some .int }, accessFlags := 9, code := some k2c1 }
def k2c2 : Code := { maxStack := 4, maxLocals := 4, code := jdk_29_method_70_code, exceptionTable := #[], attributes := #[] }
def k2m2 : Method := { name := "min", desc := "(JJ)J", sig := { parameters := [.long, .long], returnType := some .long }, accessFlags := 9, code := some k2c2 }
/-- java/lang/Math -/
def k2 : Class := { plain "java/lang/Math" (some 0) with
  accessFlags := 49
  interfaces := #[]
  cf := some (fileOf pool2 1 #[.nestMembers #[98]] #[{ accessFlags := 2, nameIndex := 7, descriptorIndex := 8, attributes := #[] }, { accessFlags := 9, nameIndex := 198, descriptorIndex := 335, attributes := #[] }, { accessFlags := 9, nameIndex := 201, descriptorIndex := 121, attributes := #[] }] 49 4 #[] #[{ accessFlags := 25, nameIndex := 354, descriptorIndex := 339, attributes := #[] }, { accessFlags := 25, nameIndex := 358, descriptorIndex := 339, attributes := #[] }, { accessFlags := 25, nameIndex := 361, descriptorIndex := 339, attributes := #[] }, { accessFlags := 26, nameIndex := 364, descriptorIndex := 339, attributes := #[] }, { accessFlags := 26, nameIndex := 365, descriptorIndex := 339, attributes := #[] }, { accessFlags := 26, nameIndex := 172, descriptorIndex := 173, attributes := #[] }, { accessFlags := 26, nameIndex := 176, descriptorIndex := 173, attributes := #[] }, { accessFlags := 8, nameIndex := 344, descriptorIndex := 339, attributes := #[] }, { accessFlags := 8, nameIndex := 338, descriptorIndex := 339, attributes := #[] }, { accessFlags := 4120, nameIndex := 245, descriptorIndex := 246, attributes := #[] }])
  fields := #[{ name := "E", type := .double, accessFlags := 25, slot := 0, constantValue := 0 }, { name := "PI", type := .double, accessFlags := 25, slot := 1, constantValue := 0 }, { name := "TAU", type := .double, accessFlags := 25, slot := 2, constantValue := 0 }, { name := "DEGREES_TO_RADIANS", type := .double, accessFlags := 26, slot := 3, constantValue := 0 }, { name := "RADIANS_TO_DEGREES", type := .double, accessFlags := 26, slot := 4, constantValue := 0 }, { name := "negativeZeroFloatBits", type := .long, accessFlags := 26, slot := 5, constantValue := 0 }, { name := "negativeZeroDoubleBits", type := .long, accessFlags := 26, slot := 6, constantValue := 0 }, { name := "twoToTheDoubleScaleUp", type := .double, accessFlags := 8, slot := 7, constantValue := 0 }, { name := "twoToTheDoubleScaleDown", type := .double, accessFlags := 8, slot := 8, constantValue := 0 }, { name := "$assertionsDisabled", type := .boolean, accessFlags := 4120, slot := 9, constantValue := 0 }]
  methods := #[k2m0, k2m1, k2m2]
  instanceTypes := #[]
  staticTypes := #[.double, .double, .double, .double, .double, .long, .long, .double, .double, .boolean]
  resolved := Array.replicate 460 none
  statics := none }

def pool3 : Array CpInfo := pool [(2, .class_ 4), (1, u "java/lang/Object"), (0, u "<init>"), (0, u "()V"), (0, .class_ 8), (0, u "com/example/siegelwerk/siegelwerk/BerNesting"), (0, .long 18446744073709551615), (1, .methodref 12 13), (0, .class_ 14), (0, .nameAndType 15 16), (0, u "java/lang/Math"), (0, u "min"), (0, u "(JJ)J"), (0, u "INDEFINITE"), (0, u "I"), (2, u "CONSTRUCTED"), (1, u "HIGH_TAG_NUMBER"), (1, u "LONG_FORM"), (3, u "deeperThan"), (0, u "([BI)Z")] 7

def k3m0 : Method := { name := "<init>", desc := "()V", sig := { parameters := [], returnType := none }, accessFlags := 2, code := none }
def k3c1 : Code := { maxStack := 6, maxLocals := 13, code := prog_1_method_2_code, exceptionTable := #[], attributes := #[] }
def k3m1 : Method := { name := "deeperThan", desc := "([BI)Z", sig := { parameters := [(.array .byte), .int], returnType := some .boolean }, accessFlags := 8, code := some k3c1 }
/-- com/example/siegelwerk/siegelwerk/BerNesting -/
def k3 : Class := { plain "com/example/siegelwerk/siegelwerk/BerNesting" (some 0) with
  accessFlags := 48
  interfaces := #[]
  cf := some (fileOf pool3 7 #[] #[{ accessFlags := 2, nameIndex := 5, descriptorIndex := 6, attributes := #[] }, { accessFlags := 8, nameIndex := 29, descriptorIndex := 30, attributes := #[] }] 48 2 #[] #[{ accessFlags := 26, nameIndex := 17, descriptorIndex := 18, attributes := #[] }, { accessFlags := 26, nameIndex := 21, descriptorIndex := 18, attributes := #[] }, { accessFlags := 26, nameIndex := 23, descriptorIndex := 18, attributes := #[] }, { accessFlags := 26, nameIndex := 25, descriptorIndex := 18, attributes := #[] }])
  fields := #[{ name := "INDEFINITE", type := .int, accessFlags := 26, slot := 0, constantValue := 0 }, { name := "CONSTRUCTED", type := .int, accessFlags := 26, slot := 1, constantValue := 0 }, { name := "HIGH_TAG_NUMBER", type := .int, accessFlags := 26, slot := 2, constantValue := 0 }, { name := "LONG_FORM", type := .int, accessFlags := 26, slot := 3, constantValue := 0 }]
  methods := #[k3m0, k3m1]
  instanceTypes := #[]
  staticTypes := #[.int, .int, .int, .int]
  resolved := Array.replicate 38 none
  statics := none }

def pool4 : Array CpInfo := pool [(1, u "java/lang/Cloneable"), (0, .class_ 1), (0, u "java/lang/Object"), (0, .class_ 3)] 3

/-- java/lang/Cloneable -/
def k4 : Class := { plain "java/lang/Cloneable" (some 0) with
  accessFlags := 1537
  interfaces := #[]
  cf := some (fileOf pool4 2 #[] #[] 1537 4 #[] #[])
  fields := #[]
  methods := #[]
  instanceTypes := #[]
  staticTypes := #[]
  resolved := Array.replicate 8 none
  statics := none }

def pool5 : Array CpInfo := pool [(1, u "java/io/Serializable"), (0, .class_ 1), (0, u "java/lang/Object"), (0, .class_ 3)] 3

/-- java/io/Serializable -/
def k5 : Class := { plain "java/io/Serializable" (some 0) with
  accessFlags := 1537
  interfaces := #[]
  cf := some (fileOf pool5 2 #[] #[] 1537 4 #[] #[])
  fields := #[]
  methods := #[]
  instanceTypes := #[]
  staticTypes := #[]
  resolved := Array.replicate 8 none
  statics := none }

/-- the primitive byte -/
def k6 : Class := { plain "byte" none with kind := .primitive 'B', accessFlags := 0x411 }
/-- [B -/
def k7 : Class := { plain "[B" (some 0) with kind := .array 6 .byte, interfaces := #[4, 5], accessFlags := 1041 }

/-- the primitive int -/
def k8 : Class := { plain "int" none with kind := .primitive 'I', accessFlags := 0x411 }
/-- [I -/
def k9 : Class := { plain "[I" (some 0) with kind := .array 8 .int, interfaces := #[4, 5], accessFlags := 1041 }

def heap : Heap := #[]
def classes : Array Class := #[k0, k1, k2, k3, k4, k5, k6, k7, k8, k9]
def interned : List (Array UInt16 × Addr) := []
def slotsUsed : Nat := 0
def theMethod : MethodId := ⟨1, 1⟩
def args0 : Array Value := #[.int 5, .long 6, .long 7, .long 8, .long 9]
def aboutOver (below : List Frame) : State where
  vm := { classes := classes, interned := interned.toArray }
  heap := heap
  slotsUsed := slotsUsed
  threads := #[{ frames := .invoking theMethod args0 :: below }]
def below0 : List Frame := [.native { method := ⟨0, 0⟩, args := #[] }]
def about1 : State := aboutOver below0
def p0 : Program := .bare "" "" ""
def e0 : Env := launch0.env 0 0 0
theorem w_frames : about1.frames = Frame.invoking theMethod args0 :: below0 := rfl
set_option maxRecDepth 65536 in
theorem w_args : argsFit about1.vm theMethod args0 = true := by decide +kernel
set_option maxRecDepth 65536 in
theorem w_heap : heapFits about1 = true := by decide +kernel
set_option maxRecDepth 65536 in
theorem w_runnable : about1.curStatus? = some .runnable := by decide +kernel
set_option maxRecDepth 65536 in
theorem w_alone : about1.alone = true := by decide +kernel
set_option maxRecDepth 65536 in
theorem w_named : about1.methodNamed? x = some theMethod := by decide +kernel
set_option maxRecDepth 65536 in
theorem w_hears : about1.hears theMethod below0 = true := by decide +kernel
set_option maxRecDepth 65536 in
theorem w_ripe : about1.ripe theMethod args0 below0 = true := by decide +kernel
theorem w_running : about1.status = .running := rfl
set_option maxRecDepth 65536 in
theorem w_room : about1.hasRoom e0.platform room_1 = true :=
  launch0.hasRoom_least _ room_1 (by decide +kernel) (by decide +kernel) (by decide +kernel) (by decide +kernel) (by decide +kernel) (by decide +kernel)
theorem allAtoms_all (ts : List Jvm.Cond) (a : Array Jvm.Value) (st : Jvm.State) : (allAtoms ts).before a st = ts.all (fun c => c.before a st) := by
  induction ts with
  | nil => rfl
  | cons c t ih =>
    show (Jvm.Cond.and c (allAtoms t)).before a st = _
    rw [Jvm.Cond.before_and, ih, List.all_cons]
def words1 : List Jvm.Cond := Jvm.Cond.code x code maxLocals ret :: tables_1
/-- a 'code' word, met by the world's own term for the bytes: nothing is compared byte by byte -/
theorem code_word {y : MethodName} {bytes : ByteArray} {mx : Nat} {rt : Option FieldType} {a : Array Value} {s : State} {m : MethodId} {meth : Method} {c : Code} (h1 : s.methodNamed? y = some m) (h2 : s.vm.method? m = some meth) (h3 : meth.code = some c) (h4 : c.code = bytes)
    (h5 : (c.maxLocals == mx && c.exceptionTable.isEmpty && decide (c.maxStack ≤ mostOperands) && decide (meth.sig.returnType = rt) && !meth.locks && decide (parseMethodDescriptor y.desc = some meth.sig)) = true) : (Jvm.Cond.code y bytes mx rt).before a s = true := by
  simp only [Bool.and_eq_true, beq_iff_eq, Bool.not_eq_true', decide_eq_true_eq] at h5
  obtain ⟨⟨⟨⟨⟨g1, g2⟩, g3⟩, g4⟩, g5⟩, g6⟩ := h5
  simp [Cond.before, Cond.holds, Cond.value, h1, h2, h3, h4, g1, g2, g3, g4, g5, g6]
def isCode : Jvm.Cond → Bool
  | .code _ _ _ _ => true
  | _ => false
theorem all_split {L : List Jvm.Cond} {P : Jvm.Cond → Bool} (h1 : L.all (fun c => isCode c || P c) = true) (h2 : ∀ c ∈ L.filter isCode, P c = true) : L.all P = true := by
  refine List.all_eq_true.mpr fun c hc => ?_
  have h := List.all_eq_true.mp h1 c hc
  rcases Bool.eq_false_or_eq_true (isCode c) with hi | hi
  · exact h2 c (List.mem_filter.mpr ⟨hc, hi⟩)
  · simpa [hi] using h
set_option maxRecDepth 65536 in
theorem w_c0 : (Jvm.Cond.code x code maxLocals ret).before args0 about1 = true := code_word (m := ⟨1, 1⟩) (meth := k1m1) (c := k1c1) (by decide +kernel) rfl rfl rfl (by decide +kernel)
set_option maxRecDepth 65536 in
theorem w_c1 : (Jvm.Cond.code ({ cls := "com/example/siegelwerk/siegelwerk/BerNestingDeeperThanPinLaw", name := "chainSize", desc := "(IIII)I" } : Jvm.MethodName) method_11_code (5 : Nat) (Option.some Jvm.ClassFile.FieldType.int)).before args0 about1 = true := code_word (m := ⟨1, 10⟩) (meth := k1m10) (c := k1c10) (by decide +kernel) rfl rfl rfl (by decide +kernel)
set_option maxRecDepth 65536 in
theorem w_c2 : (Jvm.Cond.code ({ cls := "com/example/siegelwerk/siegelwerk/BerNestingDeeperThanPinLaw", name := "primSize", desc := "(I)I" } : Jvm.MethodName) method_9_code (1 : Nat) (Option.some Jvm.ClassFile.FieldType.int)).before args0 about1 = true := code_word (m := ⟨1, 8⟩) (meth := k1m8) (c := k1c8) (by decide +kernel) rfl rfl rfl (by decide +kernel)
set_option maxRecDepth 65536 in
theorem w_c3 : (Jvm.Cond.code ({ cls := "com/example/siegelwerk/siegelwerk/BerNestingDeeperThanPinLaw", name := "idLen", desc := "(I)I" } : Jvm.MethodName) method_5_code (1 : Nat) (Option.some Jvm.ClassFile.FieldType.int)).before args0 about1 = true := code_word (m := ⟨1, 4⟩) (meth := k1m4) (c := k1c4) (by decide +kernel) rfl rfl rfl (by decide +kernel)
set_option maxRecDepth 65536 in
theorem w_c4 : (Jvm.Cond.code ({ cls := "com/example/siegelwerk/siegelwerk/BerNestingDeeperThanPinLaw", name := "high", desc := "(I)Z" } : Jvm.MethodName) method_4_code (1 : Nat) (Option.some Jvm.ClassFile.FieldType.boolean)).before args0 about1 = true := code_word (m := ⟨1, 3⟩) (meth := k1m3) (c := k1c3) (by decide +kernel) rfl rfl rfl (by decide +kernel)
set_option maxRecDepth 65536 in
theorem w_c5 : (Jvm.Cond.code ({ cls := "com/example/siegelwerk/siegelwerk/BerNestingDeeperThanPinLaw", name := "primCount", desc := "(I)I" } : Jvm.MethodName) method_7_code (1 : Nat) (Option.some Jvm.ClassFile.FieldType.int)).before args0 about1 = true := code_word (m := ⟨1, 6⟩) (meth := k1m6) (c := k1c6) (by decide +kernel) rfl rfl rfl (by decide +kernel)
set_option maxRecDepth 65536 in
theorem w_c6 : (Jvm.Cond.code ({ cls := "com/example/siegelwerk/siegelwerk/BerNestingDeeperThanPinLaw", name := "primContent", desc := "(I)I" } : Jvm.MethodName) method_8_code (1 : Nat) (Option.some Jvm.ClassFile.FieldType.int)).before args0 about1 = true := code_word (m := ⟨1, 7⟩) (meth := k1m7) (c := k1c7) (by decide +kernel) rfl rfl rfl (by decide +kernel)
set_option maxRecDepth 65536 in
theorem w_c7 : (Jvm.Cond.code ({ cls := "com/example/siegelwerk/siegelwerk/BerNestingDeeperThanPinLaw", name := "writeChain", desc := "([B[IIIIIII)I" } : Jvm.MethodName) method_18_code (10 : Nat) (Option.some Jvm.ClassFile.FieldType.int)).before args0 about1 = true := code_word (m := ⟨1, 17⟩) (meth := k1m17) (c := k1c17) (by decide +kernel) rfl rfl rfl (by decide +kernel)
set_option maxRecDepth 65536 in
theorem w_c8 : (Jvm.Cond.code ({ cls := "com/example/siegelwerk/siegelwerk/BerNestingDeeperThanPinLaw", name := "writePrim", desc := "([BII)I" } : Jvm.MethodName) method_16_code (5 : Nat) (Option.some Jvm.ClassFile.FieldType.int)).before args0 about1 = true := code_word (m := ⟨1, 15⟩) (meth := k1m15) (c := k1c15) (by decide +kernel) rfl rfl rfl (by decide +kernel)
set_option maxRecDepth 65536 in
theorem w_c9 : (Jvm.Cond.code ({ cls := "com/example/siegelwerk/siegelwerk/BerNestingDeeperThanPinLaw", name := "writeId", desc := "([BIII)I" } : Jvm.MethodName) method_12_code (4 : Nat) (Option.some Jvm.ClassFile.FieldType.int)).before args0 about1 = true := code_word (m := ⟨1, 11⟩) (meth := k1m11) (c := k1c11) (by decide +kernel) rfl rfl rfl (by decide +kernel)
set_option maxRecDepth 65536 in
theorem w_c10 : (Jvm.Cond.code ({ cls := "com/example/siegelwerk/siegelwerk/BerNestingDeeperThanPinLaw", name := "put", desc := "([BII)I" } : Jvm.MethodName) method_3_code (3 : Nat) (Option.some Jvm.ClassFile.FieldType.int)).before args0 about1 = true := code_word (m := ⟨1, 2⟩) (meth := k1m2) (c := k1c2) (by decide +kernel) rfl rfl rfl (by decide +kernel)
set_option maxRecDepth 65536 in
theorem w_c11 : (Jvm.Cond.code ({ cls := "com/example/siegelwerk/siegelwerk/BerNestingDeeperThanPinLaw", name := "writeLen", desc := "([BIIJ)I" } : Jvm.MethodName) method_13_code (5 : Nat) (Option.some Jvm.ClassFile.FieldType.int)).before args0 about1 = true := code_word (m := ⟨1, 12⟩) (meth := k1m12) (c := k1c12) (by decide +kernel) rfl rfl rfl (by decide +kernel)
set_option maxRecDepth 65536 in
theorem w_c12 : (Jvm.Cond.code ({ cls := "java/lang/Math", name := "max", desc := "(II)I" } : Jvm.MethodName) jdk_29_method_65_code (2 : Nat) (Option.some Jvm.ClassFile.FieldType.int)).before args0 about1 = true := code_word (m := ⟨2, 1⟩) (meth := k2m1) (c := k2c1) (by decide +kernel) rfl rfl rfl (by decide +kernel)
set_option maxRecDepth 65536 in
theorem w_c13 : (Jvm.Cond.code ({ cls := "com/example/siegelwerk/siegelwerk/BerNesting", name := "deeperThan", desc := "([BI)Z" } : Jvm.MethodName) prog_1_method_2_code (13 : Nat) (Option.some Jvm.ClassFile.FieldType.boolean)).before args0 about1 = true := code_word (m := ⟨3, 1⟩) (meth := k3m1) (c := k3c1) (by decide +kernel) rfl rfl rfl (by decide +kernel)
set_option maxRecDepth 65536 in
theorem w_c14 : (Jvm.Cond.code ({ cls := "com/example/siegelwerk/siegelwerk/BerNestingDeeperThanPinLaw", name := "consSize", desc := "(II)I" } : Jvm.MethodName) method_10_code (3 : Nat) (Option.some Jvm.ClassFile.FieldType.int)).before args0 about1 = true := code_word (m := ⟨1, 9⟩) (meth := k1m9) (c := k1c9) (by decide +kernel) rfl rfl rfl (by decide +kernel)
set_option maxRecDepth 65536 in
theorem w_c15 : (Jvm.Cond.code ({ cls := "com/example/siegelwerk/siegelwerk/BerNestingDeeperThanPinLaw", name := "consCount", desc := "(I)I" } : Jvm.MethodName) method_6_code (2 : Nat) (Option.some Jvm.ClassFile.FieldType.int)).before args0 about1 = true := code_word (m := ⟨1, 5⟩) (meth := k1m5) (c := k1c5) (by decide +kernel) rfl rfl rfl (by decide +kernel)
set_option maxRecDepth 65536 in
theorem w_c16 : (Jvm.Cond.code ({ cls := "com/example/siegelwerk/siegelwerk/BerNestingDeeperThanPinLaw", name := "writeCons", desc := "([BIIIJ)I" } : Jvm.MethodName) method_15_code (7 : Nat) (Option.some Jvm.ClassFile.FieldType.int)).before args0 about1 = true := code_word (m := ⟨1, 14⟩) (meth := k1m14) (c := k1c14) (by decide +kernel) rfl rfl rfl (by decide +kernel)
set_option maxRecDepth 65536 in
theorem w_c17 : (Jvm.Cond.code ({ cls := "com/example/siegelwerk/siegelwerk/BerNestingDeeperThanPinLaw", name := "extraFor", desc := "(IJ)J" } : Jvm.MethodName) method_14_code (3 : Nat) (Option.some Jvm.ClassFile.FieldType.long)).before args0 about1 = true := code_word (m := ⟨1, 13⟩) (meth := k1m13) (c := k1c13) (by decide +kernel) rfl rfl rfl (by decide +kernel)
set_option maxRecDepth 65536 in
theorem w_c18 : (Jvm.Cond.code ({ cls := "com/example/siegelwerk/siegelwerk/BerNestingDeeperThanPinLaw", name := "mark", desc := "([III)V" } : Jvm.MethodName) method_17_code (3 : Nat) (Option.none : Option Jvm.ClassFile.FieldType)).before args0 about1 = true := code_word (m := ⟨1, 16⟩) (meth := k1m16) (c := k1c16) (by decide +kernel) rfl rfl rfl (by decide +kernel)
set_option maxRecDepth 65536 in
theorem w_c19 : (Jvm.Cond.code ({ cls := "java/lang/Math", name := "min", desc := "(JJ)J" } : Jvm.MethodName) jdk_29_method_70_code (4 : Nat) (Option.some Jvm.ClassFile.FieldType.long)).before args0 about1 = true := code_word (m := ⟨2, 2⟩) (meth := k2m2) (c := k2c2) (by decide +kernel) rfl rfl rfl (by decide +kernel)
def codes1 : List Jvm.Cond := [Jvm.Cond.code x code maxLocals ret, Jvm.Cond.code ({ cls := "com/example/siegelwerk/siegelwerk/BerNestingDeeperThanPinLaw", name := "chainSize", desc := "(IIII)I" } : Jvm.MethodName) method_11_code (5 : Nat) (Option.some Jvm.ClassFile.FieldType.int), Jvm.Cond.code ({ cls := "com/example/siegelwerk/siegelwerk/BerNestingDeeperThanPinLaw", name := "primSize", desc := "(I)I" } : Jvm.MethodName) method_9_code (1 : Nat) (Option.some Jvm.ClassFile.FieldType.int), Jvm.Cond.code ({ cls := "com/example/siegelwerk/siegelwerk/BerNestingDeeperThanPinLaw", name := "idLen", desc := "(I)I" } : Jvm.MethodName) method_5_code (1 : Nat) (Option.some Jvm.ClassFile.FieldType.int), Jvm.Cond.code ({ cls := "com/example/siegelwerk/siegelwerk/BerNestingDeeperThanPinLaw", name := "high", desc := "(I)Z" } : Jvm.MethodName) method_4_code (1 : Nat) (Option.some Jvm.ClassFile.FieldType.boolean), Jvm.Cond.code ({ cls := "com/example/siegelwerk/siegelwerk/BerNestingDeeperThanPinLaw", name := "primCount", desc := "(I)I" } : Jvm.MethodName) method_7_code (1 : Nat) (Option.some Jvm.ClassFile.FieldType.int), Jvm.Cond.code ({ cls := "com/example/siegelwerk/siegelwerk/BerNestingDeeperThanPinLaw", name := "primContent", desc := "(I)I" } : Jvm.MethodName) method_8_code (1 : Nat) (Option.some Jvm.ClassFile.FieldType.int), Jvm.Cond.code ({ cls := "com/example/siegelwerk/siegelwerk/BerNestingDeeperThanPinLaw", name := "writeChain", desc := "([B[IIIIIII)I" } : Jvm.MethodName) method_18_code (10 : Nat) (Option.some Jvm.ClassFile.FieldType.int), Jvm.Cond.code ({ cls := "com/example/siegelwerk/siegelwerk/BerNestingDeeperThanPinLaw", name := "writePrim", desc := "([BII)I" } : Jvm.MethodName) method_16_code (5 : Nat) (Option.some Jvm.ClassFile.FieldType.int), Jvm.Cond.code ({ cls := "com/example/siegelwerk/siegelwerk/BerNestingDeeperThanPinLaw", name := "writeId", desc := "([BIII)I" } : Jvm.MethodName) method_12_code (4 : Nat) (Option.some Jvm.ClassFile.FieldType.int), Jvm.Cond.code ({ cls := "com/example/siegelwerk/siegelwerk/BerNestingDeeperThanPinLaw", name := "put", desc := "([BII)I" } : Jvm.MethodName) method_3_code (3 : Nat) (Option.some Jvm.ClassFile.FieldType.int), Jvm.Cond.code ({ cls := "com/example/siegelwerk/siegelwerk/BerNestingDeeperThanPinLaw", name := "writeLen", desc := "([BIIJ)I" } : Jvm.MethodName) method_13_code (5 : Nat) (Option.some Jvm.ClassFile.FieldType.int), Jvm.Cond.code ({ cls := "java/lang/Math", name := "max", desc := "(II)I" } : Jvm.MethodName) jdk_29_method_65_code (2 : Nat) (Option.some Jvm.ClassFile.FieldType.int), Jvm.Cond.code ({ cls := "com/example/siegelwerk/siegelwerk/BerNesting", name := "deeperThan", desc := "([BI)Z" } : Jvm.MethodName) prog_1_method_2_code (13 : Nat) (Option.some Jvm.ClassFile.FieldType.boolean), Jvm.Cond.code ({ cls := "com/example/siegelwerk/siegelwerk/BerNestingDeeperThanPinLaw", name := "consSize", desc := "(II)I" } : Jvm.MethodName) method_10_code (3 : Nat) (Option.some Jvm.ClassFile.FieldType.int), Jvm.Cond.code ({ cls := "com/example/siegelwerk/siegelwerk/BerNestingDeeperThanPinLaw", name := "consCount", desc := "(I)I" } : Jvm.MethodName) method_6_code (2 : Nat) (Option.some Jvm.ClassFile.FieldType.int), Jvm.Cond.code ({ cls := "com/example/siegelwerk/siegelwerk/BerNestingDeeperThanPinLaw", name := "writeCons", desc := "([BIIIJ)I" } : Jvm.MethodName) method_15_code (7 : Nat) (Option.some Jvm.ClassFile.FieldType.int), Jvm.Cond.code ({ cls := "com/example/siegelwerk/siegelwerk/BerNestingDeeperThanPinLaw", name := "extraFor", desc := "(IJ)J" } : Jvm.MethodName) method_14_code (3 : Nat) (Option.some Jvm.ClassFile.FieldType.long), Jvm.Cond.code ({ cls := "com/example/siegelwerk/siegelwerk/BerNestingDeeperThanPinLaw", name := "mark", desc := "([III)V" } : Jvm.MethodName) method_17_code (3 : Nat) (Option.none : Option Jvm.ClassFile.FieldType), Jvm.Cond.code ({ cls := "java/lang/Math", name := "min", desc := "(JJ)J" } : Jvm.MethodName) jdk_29_method_70_code (4 : Nat) (Option.some Jvm.ClassFile.FieldType.long)]
set_option maxRecDepth 65536 in
theorem codes_eq : words1.filter isCode = codes1 := rfl
theorem w_codes : ∀ c ∈ words1.filter isCode, c.before args0 about1 = true := by
  rw [codes_eq]
  intro c hc
  simp only [codes1, List.mem_cons, List.not_mem_nil, or_false] at hc
  rcases hc with rfl | rfl | rfl | rfl | rfl | rfl | rfl | rfl | rfl | rfl | rfl | rfl | rfl | rfl | rfl | rfl | rfl | rfl | rfl | rfl
  · exact w_c0
  · exact w_c1
  · exact w_c2
  · exact w_c3
  · exact w_c4
  · exact w_c5
  · exact w_c6
  · exact w_c7
  · exact w_c8
  · exact w_c9
  · exact w_c10
  · exact w_c11
  · exact w_c12
  · exact w_c13
  · exact w_c14
  · exact w_c15
  · exact w_c16
  · exact w_c17
  · exact w_c18
  · exact w_c19
set_option maxRecDepth 65536 in
theorem w_t1 : (words1.take 24).all (fun c => isCode c || c.before args0 about1) = true := by decide +kernel
set_option maxRecDepth 65536 in
theorem w_t2 : ((words1.drop 24).take 24).all (fun c => isCode c || c.before args0 about1) = true := by decide +kernel
set_option maxRecDepth 65536 in
theorem w_t3 : ((words1.drop 24).drop 24).all (fun c => isCode c || c.before args0 about1) = true := by decide +kernel
theorem w_tables : (allAtoms (Jvm.Cond.code x code maxLocals ret :: tables_1)).before args0 about1 = true := by
  rw [allAtoms_all]
  show words1.all (fun c => c.before args0 about1) = true
  refine all_split ?_ w_codes
  rw [← List.take_append_drop 24 words1, List.all_append, w_t1, ← List.take_append_drop 24 (words1.drop 24), List.all_append, w_t2, w_t3]
  rfl
set_option maxRecDepth 65536 in
theorem w_case : (Jvm.Cond.and given_1 narrow_1).before args0 about1 = true := by decide +kernel
theorem w_applies : (headSpec (Jvm.Cond.code x code maxLocals ret :: tables_1) room_1).applies x e0.platform about1 = true :=
  (Spec.applies_iff w_frames).mpr ⟨w_running, w_runnable, w_alone, w_named, w_hears, w_ripe, w_room, w_tables⟩
theorem atStart : AtStart classFile x code maxLocals ret World_1 tables_1 room_1 Calls_1 rest_1 Pre_1 launch0 p0 e0 about1 theMethod args0 below0 :=
  ⟨lists_1, trivial, launch0.admits_env _ _ _, launch0.least_env, fairChoices_fair.cas, fairChoices_fair.clock, w_frames, w_args, w_heap, w_applies, trivial, trivial, w_case⟩
end start1
theorem witness_1 : WitnessClaimed_1 := ⟨start1.p0, start1.e0, start1.about1, start1.theMethod, start1.args0, start1.below0, start1.atStart⟩
end Jvm.Pilot.@@N@@
