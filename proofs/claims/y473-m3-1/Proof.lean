import JvmDerived
import JvmDerived.Pilot.@@N@@Statement
import JvmDerived.Pilot.@@N@@Code
set_option linter.unusedVariables false
set_option linter.unusedSimpArgs false
@@BLOCK:NumsL.lean.txt@@
namespace Jvm.Own
open Jvm Jvm.ClassFile Sem Op Lib Jvm.Free Jvm.Stand Jvm.LawKit Jvm.RoadKit
/-! THE WALKER's LAYER: 'B.G h cl sl g': from every place where the walk stands over the heap h with the frame g (cl cells, sl slots made), the method returns as its contract says. One law a step, backwards. -/
/-- written places lie in cells of ws or in new cells -/
def Frw (ws : List Addr) (k : Nat) (L : List Loc) : Prop := ∀ y ∈ L, y.base ∈ ws ∨ k ≤ y.base
/-- what a contract says at the end -/
def Qw (C : Option Value → Heap → Prop) (ws : List Addr) (h0 : Heap) (v : Option Value) (h : Heap) (L : List Loc) : Prop := C v h ∧ Frw ws h0.size L ∧ Keep h0 h ws
/-- a contract: called with the arguments as over the heap h0, it returns, as C says, writing in ws or in new cells alone -/
def Met (l : Launch) (Z : State) (y : MethodName) (bytes : ByteArray) (maxL : Nat) (ret : Option FieldType) (wds : List Jvm.Cond) (rm : Room) (as : Array Value) (h0 : Heap) (ws : List Addr) (C : Option Value → Heap → Prop) : Prop :=
  MetFree l y (head1 (Jvm.Cond.code y bytes maxL ret :: wds) rm) (fun a U => a = as ∧ Z.Warmed39 U.vm ∧ U.heap = h0) (fun _ _ _ _ _ => True) (fun _ U o U' => ∃ v L, o = .returned v ∧ Qw C ws h0 v U'.heap L ∧ FrameEnd U o U' L rm.cells rm.slots)
/-- what stands still through a body's walk -/
def Base (p : Program) (l : Launch) (e : Env) (R : Room) (s : State) (m : MethodId) (args : Array Value) (below : List Frame) (meth : Method) (c : Code) (Z : State) (y : MethodName) (bytes : ByteArray) (maxL : Nat) (ret : Option FieldType) (h0 : Heap) (ws : List Addr) (C : Option Value → Heap → Prop) : Prop :=
  p.tables.exec = Jvm.exec ∧ c.code = bytes ∧ c.maxLocals = maxL ∧ Z.Warmed39 s.vm ∧ s.vm.findClass y.cls = some m.cls ∧ meth.sig.returnType = ret ∧ meth.locks = false ∧ meth.name = y.name ∧ s.heap = h0
section Walk
variable {p : Program} {l : Launch} {e : Env} {R : Room} {s : State} {m : MethodId} {args : Array Value} {below : List Frame} {meth : Method} {c : Code} {Z : State} {a0 : Array Value} {y : MethodName} {bytes : ByteArray} {maxL : Nat} {ret : Option FieldType} {h0 : Heap} {ws : List Addr} {C : Option Value → Heap → Prop}
/-- from here the method returns as its contract says -/
def Base.G (B : Base p l e R s m args below meth c Z y bytes maxL ret h0 ws C) (h : Heap) (cl sl : Nat) (g : JFrame) : Prop :=
  ∀ (T : State) (locs : List Loc), Stand p l e R s m args below meth c T locs cl sl → Frw ws h0.size locs → T.heap = h → ∃ (t : State) (o : Outcome), Steps p.tables e below (T.setTop g) t ∧ t.status = .running ∧ Ended t below o ∧ ∃ v L, o = .returned v ∧ Qw C ws h0 v t.heap L ∧ FrameEnd s o t L R.cells R.slots
variable {h : Heap} {cl sl : Nat} {g g' : JFrame} {pc : Nat} {Ls : Array Slot} {st : List Value}
theorem Base.via (B : Base p l e R s m args below meth c Z y bytes maxL ret h0 ws C) (st : ∀ (T t : State), At T m c below → Steps p.tables e below (T.setTop g') t → Steps p.tables e below (T.setTop g) t) (k : B.G h cl sl g') : B.G h cl sl g := fun T locs X N eT => by
  obtain ⟨t, o, q, r⟩ := k T locs X N eT
  exact ⟨t, o, st T t X.here q, r⟩
theorem Base.viaX (B : Base p l e R s m args below meth c Z y bytes maxL ret h0 ws C) (st : ∀ (T t : State) (locs : List Loc), Stand p l e R s m args below meth c T locs cl sl → T.heap = h → Steps p.tables e below (T.setTop g') t → Steps p.tables e below (T.setTop g) t) (k : B.G h cl sl g') : B.G h cl sl g := fun T locs X N eT => by
  obtain ⟨t, o, q, r⟩ := k T locs X N eT
  exact ⟨t, o, st T t locs X eT q, r⟩
theorem Frw.nil (ws : List Addr) (k : Nat) : Frw ws k [] := fun _ q => nomatch q
theorem Frw.app {k : Nat} {L L' : List Loc} (N : Frw ws k L) (N' : Frw ws k L') : Frw ws k (L ++ L') := fun y q => (List.mem_append.mp q).elim (N y) (N' y)
theorem Frw.one {k : Nat} {L : List Loc} {a : Addr} {i : Nat} (N : Frw ws k L) (q : a ∈ ws ∨ k ≤ a) : Frw ws k (L ++ [⟨a, i⟩]) := N.app fun y hy => by cases List.mem_singleton.mp hy; exact q
theorem keep_of {T : State} {locs : List Loc} (X : Stand p l e R s m args below meth c T locs cl sl) (N : Frw ws s.heap.size locs) : Keep s.heap T.heap ws := by
  obtain ⟨-, h1, -, -, -, h2⟩ := X.same
  refine ⟨h1, fun x cc hc hn => ?_, fun x cc hc => ?_⟩
  · obtain ⟨c', e1, e2, e3, e4⟩ := h2 x cc hc
    have hlt := (Array.getElem?_eq_some_iff.mp hc).1
    have q : c'.slots = cc.slots := Array.ext_getElem? fun i => e4 i fun hm => by
      rcases N _ hm with z | z
      · exact hn z
      · exact absurd hlt (Nat.not_lt.mpr z)
    have e1' : T.heap[x]? = some c' := e1
    rw [e1', e2, q]
  · obtain ⟨c', e1, e2, e3, -⟩ := h2 x cc hc
    exact ⟨c', e1, by rw [e2], by rw [e2], e3⟩
theorem Met.walk (hpn : plainFor y = true) {as : Array Value} {rm : Room} {wds : List Jvm.Cond} (hef : ∀ m, entryFrame m as maxL = mkF m 0 Ls [])
    (body : ∀ (p : Program) (e : Env) (s : State) (m : MethodId) (below : List Frame) (meth : Method) (c : Code) (B : Base p l e rm s m as below meth c Z y bytes maxL ret h0 ws C), B.G h0 0 0 (mkF m 0 Ls [])) : Met l Z y bytes maxL ret wds rm as h0 ws C := by
  refine MetFree.of_bodySF hpn hisR ?_
  intro p e s m args below meth c s₁ Bd hml0 hP hK
  obtain ⟨rfl, hZ, hh⟩ := hP
  have X0 : Stand p l e rm s m args below meth c s₁ [] 0 0 := Stand.of_body Bd
  have e0 : s₁.heap = h0 := by rw [← hh, Bd.state]; rfl
  obtain ⟨t, o, q, r⟩ := body p e s m below meth c ⟨Bd.exec, Bd.bytes, hml0, hZ, findClass_of_methodNamed Bd.named, Bd.returns, Bd.notSynchronized, (name_of_methodNamed Bd.named Bd.method).1, hh⟩ s₁ [] X0 (Frw.nil _ _) e0
  exact ⟨t, o, castTop (hef m) q, r⟩
theorem Met.mono {as : Array Value} {rm : Room} {wds : List Jvm.Cond} {C' : Option Value → Heap → Prop} (M : Met l Z y bytes maxL ret wds rm as h0 ws C) (q : ∀ v h, C v h → C' v h) : Met l Z y bytes maxL ret wds rm as h0 ws C' := by
  intro p e ha hc hk s m args below hf happ hP hK
  obtain ⟨n, o, q1, q2, q3, v, L, q4, ⟨r1, r2⟩, q5⟩ := M p e ha hc hk s m args below hf happ hP hK
  exact ⟨n, o, q1, q2, q3, v, L, q4, ⟨q _ _ r1, r2⟩, q5⟩
/-! 1. steps that touch no heap -/
theorem Base.aloadN (B : Base p l e R s m args below meth c Z y bytes maxL ret h0 ws C) (pc' : Nat) (hp : pc' = pc + 1) {i : Fin 4} (hd : decode bytes pc = .ok (.aload_n i, 1)) {v : Value} (hl : Ls[i.val]? = some (.val v)) (hv : v.isRef = true) (k : B.G h cl sl (mkF m pc' Ls (v :: st))) : B.G h cl sl (mkF m pc Ls st) := by
  subst hp; exact B.via (fun T t X r => XS.aloadN X B.1 rfl (hb B.2.1 hd) hl hv r) k
theorem Base.aload (B : Base p l e R s m args below meth c Z y bytes maxL ret h0 ws C) (pc' : Nat) (hp : pc' = pc + 2) {i : Nat} (hd : decode bytes pc = .ok (.aload i, 2)) {v : Value} (hl : Ls[i]? = some (.val v)) (hv : v.isRef = true) (k : B.G h cl sl (mkF m pc' Ls (v :: st))) : B.G h cl sl (mkF m pc Ls st) := by
  subst hp; exact B.via (fun T t X r => XS.aload X B.1 rfl (hb B.2.1 hd) hl hv r) k
theorem Base.iloadN (B : Base p l e R s m args below meth c Z y bytes maxL ret h0 ws C) (pc' : Nat) (hp : pc' = pc + 1) {i : Fin 4} (hd : decode bytes pc = .ok (.iload_n i, 1)) {v : Int32} (hl : Ls[i.val]? = some (.val (.int v))) (k : B.G h cl sl (mkF m pc' Ls (.int v :: st))) : B.G h cl sl (mkF m pc Ls st) := by
  subst hp; exact B.via (fun T t X r => XS.iloadN X B.1 rfl (hb B.2.1 hd) hl r) k
theorem Base.iload (B : Base p l e R s m args below meth c Z y bytes maxL ret h0 ws C) (pc' : Nat) (hp : pc' = pc + 2) {i : Nat} (hd : decode bytes pc = .ok (.iload i, 2)) {v : Int32} (hl : Ls[i]? = some (.val (.int v))) (k : B.G h cl sl (mkF m pc' Ls (.int v :: st))) : B.G h cl sl (mkF m pc Ls st) := by
  subst hp; exact B.via (fun T t X r => XS.iload X B.1 rfl (hb B.2.1 hd) hl r) k
theorem Base.lloadN (B : Base p l e R s m args below meth c Z y bytes maxL ret h0 ws C) (pc' : Nat) (hp : pc' = pc + 1) {i : Fin 4} (hd : decode bytes pc = .ok (.lload_n i, 1)) {v : Int64} (hl : Ls[i.val]? = some (.val (.long v))) (k : B.G h cl sl (mkF m pc' Ls (.long v :: st))) : B.G h cl sl (mkF m pc Ls st) := by
  subst hp; exact B.via (fun T t X r => XT.lloadN X B.1 rfl (hb B.2.1 hd) hl r) k
theorem Base.lload (B : Base p l e R s m args below meth c Z y bytes maxL ret h0 ws C) (pc' : Nat) (hp : pc' = pc + 2) {i : Nat} (hd : decode bytes pc = .ok (.lload i, 2)) {v : Int64} (hl : Ls[i]? = some (.val (.long v))) (k : B.G h cl sl (mkF m pc' Ls (.long v :: st))) : B.G h cl sl (mkF m pc Ls st) := by
  subst hp; exact B.via (fun T t X r => XT.lload X B.1 rfl (hb B.2.1 hd) hl r) k
theorem Base.istoreN (B : Base p l e R s m args below meth c Z y bytes maxL ret h0 ws C) (pc' : Nat) (hp : pc' = pc + 1) {i : Fin 4} {x : Int32} (hd : decode bytes pc = .ok (.istore_n i, 1)) (Ls' : Array Slot) (hl : storeLocals Ls i.val (.int x) = some Ls') (k : B.G h cl sl (mkF m pc' Ls' st)) : B.G h cl sl (mkF m pc Ls (.int x :: st)) := by
  subst hp; exact B.via (fun T t X r => XS.istoreN X B.1 rfl (hb B.2.1 hd) rfl hl r) k
theorem Base.istore (B : Base p l e R s m args below meth c Z y bytes maxL ret h0 ws C) (pc' : Nat) (hp : pc' = pc + 2) {i : Nat} {x : Int32} (hd : decode bytes pc = .ok (.istore i, 2)) (Ls' : Array Slot) (hl : storeLocals Ls i (.int x) = some Ls') (k : B.G h cl sl (mkF m pc' Ls' st)) : B.G h cl sl (mkF m pc Ls (.int x :: st)) := by
  subst hp; exact B.via (fun T t X r => XS.istore X B.1 rfl (hb B.2.1 hd) rfl hl r) k
theorem Base.lstoreN (B : Base p l e R s m args below meth c Z y bytes maxL ret h0 ws C) (pc' : Nat) (hp : pc' = pc + 1) {i : Fin 4} {x : Int64} (hd : decode bytes pc = .ok (.lstore_n i, 1)) (Ls' : Array Slot) (hl : storeLocals Ls i.val (.long x) = some Ls') (k : B.G h cl sl (mkF m pc' Ls' st)) : B.G h cl sl (mkF m pc Ls (.long x :: st)) := by
  subst hp; exact B.via (fun T t X r => XT.lstoreN X B.1 rfl (hb B.2.1 hd) rfl hl r) k
theorem Base.lstore (B : Base p l e R s m args below meth c Z y bytes maxL ret h0 ws C) (pc' : Nat) (hp : pc' = pc + 2) {i : Nat} {x : Int64} (hd : decode bytes pc = .ok (.lstore i, 2)) (Ls' : Array Slot) (hl : storeLocals Ls i (.long x) = some Ls') (k : B.G h cl sl (mkF m pc' Ls' st)) : B.G h cl sl (mkF m pc Ls (.long x :: st)) := by
  subst hp; exact B.via (fun T t X r => XT.lstore X B.1 rfl (hb B.2.1 hd) rfl hl r) k
theorem Base.astoreN (B : Base p l e R s m args below meth c Z y bytes maxL ret h0 ws C) (pc' : Nat) (hp : pc' = pc + 1) {i : Fin 4} {x : Value} (hd : decode bytes pc = .ok (.astore_n i, 1)) (hv : x.isRef = true) (Ls' : Array Slot) (hl : storeLocals Ls i.val x = some Ls') (k : B.G h cl sl (mkF m pc' Ls' st)) : B.G h cl sl (mkF m pc Ls (x :: st)) := by
  subst hp; exact B.via (fun T t X r => XS.astoreN X B.1 rfl (hb B.2.1 hd) rfl hv hl r) k
theorem Base.astore (B : Base p l e R s m args below meth c Z y bytes maxL ret h0 ws C) (pc' : Nat) (hp : pc' = pc + 2) {i : Nat} {x : Value} (hd : decode bytes pc = .ok (.astore i, 2)) (hv : x.isRef = true) (Ls' : Array Slot) (hl : storeLocals Ls i x = some Ls') (k : B.G h cl sl (mkF m pc' Ls' st)) : B.G h cl sl (mkF m pc Ls (x :: st)) := by
  subst hp; exact B.via (fun T t X r => XS.astore X B.1 rfl (hb B.2.1 hd) rfl hv hl r) k
theorem Base.iinc (B : Base p l e R s m args below meth c Z y bytes maxL ret h0 ws C) (pc' : Nat) (hp : pc' = pc + 3) {i : Nat} {cst : Int} (v : Int32) {x : Int32} (hd : decode bytes pc = .ok (.iinc i cst, 3)) (hv : Int32.ofInt cst = v) (hl : Ls[i]? = some (.val (.int x))) (Ls' : Array Slot) (hl' : storeLocals Ls i (.int (x + v)) = some Ls') (k : B.G h cl sl (mkF m pc' Ls' st)) : B.G h cl sl (mkF m pc Ls st) := by
  subst hp hv; exact B.via (fun T t X r => XS.iinc X B.1 rfl (hb B.2.1 hd) hl hl' r) k
theorem Base.iconst (B : Base p l e R s m args below meth c Z y bytes maxL ret h0 ws C) (pc' : Nat) (hp : pc' = pc + 1) {i : Int} (v : Int32) (hd : decode bytes pc = .ok (.iconst i, 1)) (hv : Int32.ofInt i = v) (k : B.G h cl sl (mkF m pc' Ls (.int v :: st))) : B.G h cl sl (mkF m pc Ls st) := by
  subst hp hv; exact B.via (fun T t X r => XS.iconst X B.1 rfl (hb B.2.1 hd) r) k
theorem Base.bipush (B : Base p l e R s m args below meth c Z y bytes maxL ret h0 ws C) (pc' : Nat) (hp : pc' = pc + 2) {i : Int} (v : Int32) (hd : decode bytes pc = .ok (.bipush i, 2)) (hv : (Int8.ofInt i).toInt32 = v) (k : B.G h cl sl (mkF m pc' Ls (.int v :: st))) : B.G h cl sl (mkF m pc Ls st) := by
  subst hp hv; exact B.via (fun T t X r => XS.bipush X B.1 rfl (hb B.2.1 hd) r) k
theorem Base.sipush (B : Base p l e R s m args below meth c Z y bytes maxL ret h0 ws C) (pc' : Nat) (hp : pc' = pc + 3) {i : Int} (v : Int32) (hd : decode bytes pc = .ok (.sipush i, 3)) (hv : (Int16.ofInt i).toInt32 = v) (k : B.G h cl sl (mkF m pc' Ls (.int v :: st))) : B.G h cl sl (mkF m pc Ls st) := by
  subst hp hv; exact B.via (fun T t X r => XS.sipush X B.1 rfl (hb B.2.1 hd) r) k
theorem Base.lconst (B : Base p l e R s m args below meth c Z y bytes maxL ret h0 ws C) (pc' : Nat) (hp : pc' = pc + 1) {i : Fin 2} (v : Int64) (hd : decode bytes pc = .ok (.lconst i, 1)) (hv : Int64.ofNat i = v) (k : B.G h cl sl (mkF m pc' Ls (.long v :: st))) : B.G h cl sl (mkF m pc Ls st) := by
  subst hp hv; exact B.via (fun T t X r => XT.lconst X B.1 rfl (hb B.2.1 hd) r) k
theorem Base.aconstNull (B : Base p l e R s m args below meth c Z y bytes maxL ret h0 ws C) (pc' : Nat) (hp : pc' = pc + 1) (hd : decode bytes pc = .ok (.aconst_null, 1)) (k : B.G h cl sl (mkF m pc' Ls (.null :: st))) : B.G h cl sl (mkF m pc Ls st) := by
  subst hp; exact B.via (fun T t X r => XS.aconstNull X B.1 rfl (hb B.2.1 hd) r) k
theorem Base.ldcI (B : Base p l e R s m args below meth c Z y bytes maxL ret h0 ws C) (pc' : Nat) (hp : pc' = pc + 2) {i : Nat} {v : Int32} (hd : decode bytes pc = .ok (.ldc i, 2)) (w : (Cond.constant y.cls i v).before a0 Z = true) (k : B.G h cl sl (mkF m pc' Ls (.int v :: st))) : B.G h cl sl (mkF m pc Ls st) := by
  subst hp; exact B.viaX (fun T t L X _ r => X.ldcI B.1 B.2.2.2.2.1 (mv B.2.2.2.1 w) rfl (hb B.2.1 hd) r) k
theorem Base.ldcWI (B : Base p l e R s m args below meth c Z y bytes maxL ret h0 ws C) (pc' : Nat) (hp : pc' = pc + 3) {i : Nat} {v : Int32} (hd : decode bytes pc = .ok (.ldc_w i, 3)) (w : (Cond.constant y.cls i v).before a0 Z = true) (k : B.G h cl sl (mkF m pc' Ls (.int v :: st))) : B.G h cl sl (mkF m pc Ls st) := by
  subst hp; exact B.viaX (fun T t L X _ r => X.ldcWI B.1 B.2.2.2.2.1 (mv B.2.2.2.1 w) rfl (hb B.2.1 hd) r) k
theorem Base.ldc2J (B : Base p l e R s m args below meth c Z y bytes maxL ret h0 ws C) (pc' : Nat) (hp : pc' = pc + 3) {i : Nat} {v : Int64} (hd : decode bytes pc = .ok (.ldc2_w i, 3)) (w : (Cond.constantLong y.cls i v).before a0 Z = true) (k : B.G h cl sl (mkF m pc' Ls (.long v :: st))) : B.G h cl sl (mkF m pc Ls st) := by
  subst hp; exact B.viaX (fun T t L X _ r => X.ldc2J B.1 B.2.2.2.2.1 (mv B.2.2.2.1 w) rfl (hb B.2.1 hd) r) k
theorem Base.goto (B : Base p l e R s m args below meth c Z y bytes maxL ret h0 ws C) (pc' : Nat) {o : Int} (hp : ((pc : Int) + o).toNat = pc') (ho : 0 ≤ (pc : Int) + o) (hd : decode bytes pc = .ok (.goto o, 3)) (k : B.G h cl sl (mkF m pc' Ls st)) : B.G h cl sl (mkF m pc Ls st) :=
  B.via (fun T t X r => XS.goto X B.1 rfl rfl (hb B.2.1 hd) ho hp r) k
theorem Base.dup (B : Base p l e R s m args below meth c Z y bytes maxL ret h0 ws C) (pc' : Nat) (hp : pc' = pc + 1) {x : Value} (hd : decode bytes pc = .ok (.dup, 1)) (hc : x.category = 1) (k : B.G h cl sl (mkF m pc' Ls (x :: x :: st))) : B.G h cl sl (mkF m pc Ls (x :: st)) := by
  subst hp; exact B.via (fun T t X r => XS.dup X B.1 rfl (hb B.2.1 hd) rfl hc r) k
theorem Base.pop (B : Base p l e R s m args below meth c Z y bytes maxL ret h0 ws C) (pc' : Nat) (hp : pc' = pc + 1) {x : Value} (hd : decode bytes pc = .ok (.pop, 1)) (hc : x.category = 1) (k : B.G h cl sl (mkF m pc' Ls st)) : B.G h cl sl (mkF m pc Ls (x :: st)) := by
  subst hp; exact B.via (fun T t X r => XT.pop X B.1 rfl (hb B.2.1 hd) rfl hc r) k
theorem Base.dupX1 (B : Base p l e R s m args below meth c Z y bytes maxL ret h0 ws C) (pc' : Nat) (hp : pc' = pc + 1) {x z : Value} (hd : decode bytes pc = .ok (.dup_x1, 1)) (hc : x.category = 1) (hc' : z.category = 1) (k : B.G h cl sl (mkF m pc' Ls (x :: z :: x :: st))) : B.G h cl sl (mkF m pc Ls (x :: z :: st)) := by
  subst hp; exact B.via (fun T t X r => XT.dupX1 X B.1 rfl (hb B.2.1 hd) rfl hc hc' r) k
theorem Base.dup2 (B : Base p l e R s m args below meth c Z y bytes maxL ret h0 ws C) (pc' : Nat) (hp : pc' = pc + 1) {x z : Value} (hd : decode bytes pc = .ok (.dup2, 1)) (hc : x.category = 1) (hc' : z.category = 1) (k : B.G h cl sl (mkF m pc' Ls (x :: z :: x :: z :: st))) : B.G h cl sl (mkF m pc Ls (x :: z :: st)) := by
  subst hp; exact B.via (fun T t X r => XT.dup2 X B.1 rfl (hb B.2.1 hd) rfl hc hc' r) k
theorem Base.iadd (B : Base p l e R s m args below meth c Z y bytes maxL ret h0 ws C) (pc' : Nat) (hp : pc' = pc + 1) {x : Int32} {z : Int32} (hd : decode bytes pc = .ok (.iadd, 1)) (k : B.G h cl sl (mkF m pc' Ls (.int (x + z) :: st))) : B.G h cl sl (mkF m pc Ls (.int z :: .int x :: st)) := by
  subst hp; exact B.via (fun T t X r => XS.iadd X B.1 rfl (hb B.2.1 hd) rfl r) k
theorem Base.isub (B : Base p l e R s m args below meth c Z y bytes maxL ret h0 ws C) (pc' : Nat) (hp : pc' = pc + 1) {x : Int32} {z : Int32} (hd : decode bytes pc = .ok (.isub, 1)) (k : B.G h cl sl (mkF m pc' Ls (.int (x - z) :: st))) : B.G h cl sl (mkF m pc Ls (.int z :: .int x :: st)) := by
  subst hp; exact B.via (fun T t X r => XS.isub X B.1 rfl (hb B.2.1 hd) rfl r) k
theorem Base.iand (B : Base p l e R s m args below meth c Z y bytes maxL ret h0 ws C) (pc' : Nat) (hp : pc' = pc + 1) {x : Int32} {z : Int32} (hd : decode bytes pc = .ok (.iand, 1)) (k : B.G h cl sl (mkF m pc' Ls (.int (x &&& z) :: st))) : B.G h cl sl (mkF m pc Ls (.int z :: .int x :: st)) := by
  subst hp; exact B.via (fun T t X r => XS.iand X B.1 rfl (hb B.2.1 hd) rfl r) k
theorem Base.imul (B : Base p l e R s m args below meth c Z y bytes maxL ret h0 ws C) (pc' : Nat) (hp : pc' = pc + 1) {x : Int32} {z : Int32} (hd : decode bytes pc = .ok (.imul, 1)) (k : B.G h cl sl (mkF m pc' Ls (.int (x * z) :: st))) : B.G h cl sl (mkF m pc Ls (.int z :: .int x :: st)) := by
  subst hp; exact B.via (fun T t X r => XS.imul X B.1 rfl (hb B.2.1 hd) rfl r) k
theorem Base.ixor (B : Base p l e R s m args below meth c Z y bytes maxL ret h0 ws C) (pc' : Nat) (hp : pc' = pc + 1) {x : Int32} {z : Int32} (hd : decode bytes pc = .ok (.ixor, 1)) (k : B.G h cl sl (mkF m pc' Ls (.int (x ^^^ z) :: st))) : B.G h cl sl (mkF m pc Ls (.int z :: .int x :: st)) := by
  subst hp; exact B.via (fun T t X r => XT.ixor X B.1 rfl (hb B.2.1 hd) rfl r) k
theorem Base.ior (B : Base p l e R s m args below meth c Z y bytes maxL ret h0 ws C) (pc' : Nat) (hp : pc' = pc + 1) {x : Int32} {z : Int32} (hd : decode bytes pc = .ok (.ior, 1)) (k : B.G h cl sl (mkF m pc' Ls (.int (x ||| z) :: st))) : B.G h cl sl (mkF m pc Ls (.int z :: .int x :: st)) := by
  subst hp; exact B.via (fun T t X r => XT.ior X B.1 rfl (hb B.2.1 hd) rfl r) k
theorem Base.ishl (B : Base p l e R s m args below meth c Z y bytes maxL ret h0 ws C) (pc' : Nat) (hp : pc' = pc + 1) {x : Int32} {z : Int32} (hd : decode bytes pc = .ok (.ishl, 1)) (k : B.G h cl sl (mkF m pc' Ls (.int (x <<< (z &&& 31)) :: st))) : B.G h cl sl (mkF m pc Ls (.int z :: .int x :: st)) := by
  subst hp; exact B.via (fun T t X r => XT.ishl X B.1 rfl (hb B.2.1 hd) rfl r) k
theorem Base.ishr (B : Base p l e R s m args below meth c Z y bytes maxL ret h0 ws C) (pc' : Nat) (hp : pc' = pc + 1) {x : Int32} {z : Int32} (hd : decode bytes pc = .ok (.ishr, 1)) (k : B.G h cl sl (mkF m pc' Ls (.int (x >>> (z &&& 31)) :: st))) : B.G h cl sl (mkF m pc Ls (.int z :: .int x :: st)) := by
  subst hp; exact B.via (fun T t X r => XT.ishr X B.1 rfl (hb B.2.1 hd) rfl r) k
theorem Base.iushr (B : Base p l e R s m args below meth c Z y bytes maxL ret h0 ws C) (pc' : Nat) (hp : pc' = pc + 1) {x : Int32} {z : Int32} (hd : decode bytes pc = .ok (.iushr, 1)) (k : B.G h cl sl (mkF m pc' Ls (.int (XT.ushr x z) :: st))) : B.G h cl sl (mkF m pc Ls (.int z :: .int x :: st)) := by
  subst hp; exact B.via (fun T t X r => XT.iushr X B.1 rfl (hb B.2.1 hd) rfl r) k
theorem Base.ladd (B : Base p l e R s m args below meth c Z y bytes maxL ret h0 ws C) (pc' : Nat) (hp : pc' = pc + 1) {x : Int64} {z : Int64} (hd : decode bytes pc = .ok (.ladd, 1)) (k : B.G h cl sl (mkF m pc' Ls (.long (x + z) :: st))) : B.G h cl sl (mkF m pc Ls (.long z :: .long x :: st)) := by
  subst hp; exact B.via (fun T t X r => XT.ladd X B.1 rfl (hb B.2.1 hd) rfl r) k
theorem Base.lsub (B : Base p l e R s m args below meth c Z y bytes maxL ret h0 ws C) (pc' : Nat) (hp : pc' = pc + 1) {x : Int64} {z : Int64} (hd : decode bytes pc = .ok (.lsub, 1)) (k : B.G h cl sl (mkF m pc' Ls (.long (x - z) :: st))) : B.G h cl sl (mkF m pc Ls (.long z :: .long x :: st)) := by
  subst hp; exact B.via (fun T t X r => XT.lsub X B.1 rfl (hb B.2.1 hd) rfl r) k
theorem Base.lmul (B : Base p l e R s m args below meth c Z y bytes maxL ret h0 ws C) (pc' : Nat) (hp : pc' = pc + 1) {x : Int64} {z : Int64} (hd : decode bytes pc = .ok (.lmul, 1)) (k : B.G h cl sl (mkF m pc' Ls (.long (x * z) :: st))) : B.G h cl sl (mkF m pc Ls (.long z :: .long x :: st)) := by
  subst hp; exact B.via (fun T t X r => XT.lmul X B.1 rfl (hb B.2.1 hd) rfl r) k
theorem Base.land (B : Base p l e R s m args below meth c Z y bytes maxL ret h0 ws C) (pc' : Nat) (hp : pc' = pc + 1) {x : Int64} {z : Int64} (hd : decode bytes pc = .ok (.land, 1)) (k : B.G h cl sl (mkF m pc' Ls (.long (x &&& z) :: st))) : B.G h cl sl (mkF m pc Ls (.long z :: .long x :: st)) := by
  subst hp; exact B.via (fun T t X r => XT.land X B.1 rfl (hb B.2.1 hd) rfl r) k
theorem Base.lor (B : Base p l e R s m args below meth c Z y bytes maxL ret h0 ws C) (pc' : Nat) (hp : pc' = pc + 1) {x : Int64} {z : Int64} (hd : decode bytes pc = .ok (.lor, 1)) (k : B.G h cl sl (mkF m pc' Ls (.long (x ||| z) :: st))) : B.G h cl sl (mkF m pc Ls (.long z :: .long x :: st)) := by
  subst hp; exact B.via (fun T t X r => XT.lor X B.1 rfl (hb B.2.1 hd) rfl r) k
theorem Base.lxor (B : Base p l e R s m args below meth c Z y bytes maxL ret h0 ws C) (pc' : Nat) (hp : pc' = pc + 1) {x : Int64} {z : Int64} (hd : decode bytes pc = .ok (.lxor, 1)) (k : B.G h cl sl (mkF m pc' Ls (.long (x ^^^ z) :: st))) : B.G h cl sl (mkF m pc Ls (.long z :: .long x :: st)) := by
  subst hp; exact B.via (fun T t X r => XT.lxor X B.1 rfl (hb B.2.1 hd) rfl r) k
theorem Base.lshl (B : Base p l e R s m args below meth c Z y bytes maxL ret h0 ws C) (pc' : Nat) (hp : pc' = pc + 1) {x : Int64} {z : Int32} (hd : decode bytes pc = .ok (.lshl, 1)) (k : B.G h cl sl (mkF m pc' Ls (.long (x <<< (z.toInt64 &&& 63)) :: st))) : B.G h cl sl (mkF m pc Ls (.int z :: .long x :: st)) := by
  subst hp; exact B.via (fun T t X r => XT.lshl X B.1 rfl (hb B.2.1 hd) rfl r) k
theorem Base.lshr (B : Base p l e R s m args below meth c Z y bytes maxL ret h0 ws C) (pc' : Nat) (hp : pc' = pc + 1) {x : Int64} {z : Int32} (hd : decode bytes pc = .ok (.lshr, 1)) (k : B.G h cl sl (mkF m pc' Ls (.long (x >>> (z.toInt64 &&& 63)) :: st))) : B.G h cl sl (mkF m pc Ls (.int z :: .long x :: st)) := by
  subst hp; exact B.via (fun T t X r => XT.lshr X B.1 rfl (hb B.2.1 hd) rfl r) k
theorem Base.lushr (B : Base p l e R s m args below meth c Z y bytes maxL ret h0 ws C) (pc' : Nat) (hp : pc' = pc + 1) {x : Int64} {z : Int32} (hd : decode bytes pc = .ok (.lushr, 1)) (k : B.G h cl sl (mkF m pc' Ls (.long (XT.ushrL x z) :: st))) : B.G h cl sl (mkF m pc Ls (.int z :: .long x :: st)) := by
  subst hp; exact B.via (fun T t X r => XT.lushr X B.1 rfl (hb B.2.1 hd) rfl r) k
theorem Base.lcmp (B : Base p l e R s m args below meth c Z y bytes maxL ret h0 ws C) (pc' : Nat) (hp : pc' = pc + 1) {x : Int64} {z : Int64} (hd : decode bytes pc = .ok (.lcmp, 1)) (k : B.G h cl sl (mkF m pc' Ls (.int (XT.cmpL x z) :: st))) : B.G h cl sl (mkF m pc Ls (.long z :: .long x :: st)) := by
  subst hp; exact B.via (fun T t X r => XT.lcmp X B.1 rfl (hb B.2.1 hd) rfl r) k
theorem Base.idiv (B : Base p l e R s m args below meth c Z y bytes maxL ret h0 ws C) (pc' : Nat) (hp : pc' = pc + 1) {x : Int32} {z : Int32} (hd : decode bytes pc = .ok (.idiv, 1)) (hz : z ≠ 0) (k : B.G h cl sl (mkF m pc' Ls (.int (x / z) :: st))) : B.G h cl sl (mkF m pc Ls (.int z :: .int x :: st)) := by
  subst hp; exact B.via (fun T t X r => XS.idiv X B.1 rfl (hb B.2.1 hd) rfl hz r) k
theorem Base.ldiv (B : Base p l e R s m args below meth c Z y bytes maxL ret h0 ws C) (pc' : Nat) (hp : pc' = pc + 1) {x : Int64} {z : Int64} (hd : decode bytes pc = .ok (.ldiv, 1)) (hz : z ≠ 0) (k : B.G h cl sl (mkF m pc' Ls (.long (x / z) :: st))) : B.G h cl sl (mkF m pc Ls (.long z :: .long x :: st)) := by
  subst hp; exact B.via (fun T t X r => XT.ldiv X B.1 rfl (hb B.2.1 hd) rfl hz r) k
theorem Base.irem (B : Base p l e R s m args below meth c Z y bytes maxL ret h0 ws C) (pc' : Nat) (hp : pc' = pc + 1) {x z : Int32} (hd : decode bytes pc = .ok (.irem, 1)) (hz : z ≠ 0) (k : B.G h cl sl (mkF m pc' Ls (.int (x % z) :: st))) : B.G h cl sl (mkF m pc Ls (.int z :: .int x :: st)) := by
  subst hp; exact B.viaX (fun T t L X _ r => iremM X B.1 rfl (hb B.2.1 hd) rfl hz r) k
theorem Base.ineg (B : Base p l e R s m args below meth c Z y bytes maxL ret h0 ws C) (pc' : Nat) (hp : pc' = pc + 1) {x : Int32} (hd : decode bytes pc = .ok (.ineg, 1)) (k : B.G h cl sl (mkF m pc' Ls (.int (-x) :: st))) : B.G h cl sl (mkF m pc Ls (.int x :: st)) := by
  subst hp; exact B.via (fun T t X r => XS.ineg X B.1 rfl (hb B.2.1 hd) rfl r) k
theorem Base.lneg (B : Base p l e R s m args below meth c Z y bytes maxL ret h0 ws C) (pc' : Nat) (hp : pc' = pc + 1) {x : Int64} (hd : decode bytes pc = .ok (.lneg, 1)) (k : B.G h cl sl (mkF m pc' Ls (.long (-x) :: st))) : B.G h cl sl (mkF m pc Ls (.long x :: st)) := by
  subst hp; exact B.via (fun T t X r => XT.lneg X B.1 rfl (hb B.2.1 hd) rfl r) k
theorem Base.i2l (B : Base p l e R s m args below meth c Z y bytes maxL ret h0 ws C) (pc' : Nat) (hp : pc' = pc + 1) {x : Int32} (hd : decode bytes pc = .ok (.i2l, 1)) (k : B.G h cl sl (mkF m pc' Ls (.long (x.toInt64) :: st))) : B.G h cl sl (mkF m pc Ls (.int x :: st)) := by
  subst hp; exact B.via (fun T t X r => XT.i2l X B.1 rfl (hb B.2.1 hd) rfl r) k
theorem Base.l2i (B : Base p l e R s m args below meth c Z y bytes maxL ret h0 ws C) (pc' : Nat) (hp : pc' = pc + 1) {x : Int64} (hd : decode bytes pc = .ok (.l2i, 1)) (k : B.G h cl sl (mkF m pc' Ls (.int (x.toInt32) :: st))) : B.G h cl sl (mkF m pc Ls (.long x :: st)) := by
  subst hp; exact B.via (fun T t X r => XT.l2i X B.1 rfl (hb B.2.1 hd) rfl r) k
theorem Base.i2b (B : Base p l e R s m args below meth c Z y bytes maxL ret h0 ws C) (pc' : Nat) (hp : pc' = pc + 1) {x : Int32} (hd : decode bytes pc = .ok (.i2b, 1)) (k : B.G h cl sl (mkF m pc' Ls (.int (x.toInt8.toInt32) :: st))) : B.G h cl sl (mkF m pc Ls (.int x :: st)) := by
  subst hp; exact B.via (fun T t X r => XT.i2b X B.1 rfl (hb B.2.1 hd) rfl r) k
theorem Base.i2c (B : Base p l e R s m args below meth c Z y bytes maxL ret h0 ws C) (pc' : Nat) (hp : pc' = pc + 1) {x : Int32} (hd : decode bytes pc = .ok (.i2c, 1)) (k : B.G h cl sl (mkF m pc' Ls (.int (x.toUInt32.toUInt16.toUInt32.toInt32) :: st))) : B.G h cl sl (mkF m pc Ls (.int x :: st)) := by
  subst hp; exact B.via (fun T t X r => XT.i2c X B.1 rfl (hb B.2.1 hd) rfl r) k
theorem Base.i2s (B : Base p l e R s m args below meth c Z y bytes maxL ret h0 ws C) (pc' : Nat) (hp : pc' = pc + 1) {x : Int32} (hd : decode bytes pc = .ok (.i2s, 1)) (k : B.G h cl sl (mkF m pc' Ls (.int (x.toInt16.toInt32) :: st))) : B.G h cl sl (mkF m pc Ls (.int x :: st)) := by
  subst hp; exact B.via (fun T t X r => XT.i2s X B.1 rfl (hb B.2.1 hd) rfl r) k
theorem Base.icmp_eq (B : Base p l e R s m args below meth c Z y bytes maxL ret h0 ws C) (pt pf : Nat) {o : Int} (hpt : ((pc : Int) + o).toNat = pt) (ho : 0 ≤ (pc : Int) + o) (hpf : pf = pc + 3) {x z : Int32} (hd : decode bytes pc = .ok (.if_icmp .eq o, 3)) (kt : x = z → B.G h cl sl (mkF m pt Ls st)) (kf : ¬ x = z → B.G h cl sl (mkF m pf Ls st)) : B.G h cl sl (mkF m pc Ls (.int z :: .int x :: st)) := by
  subst hpt hpf
  by_cases q : x = z
  · exact B.via (fun T t X r => XS.icmpYes X B.1 rfl rfl (hb B.2.1 hd) rfl (XT.ii_eq_t q) ho rfl r) (kt q)
  · exact B.via (fun T t X r => XS.icmpNo X B.1 rfl (hb B.2.1 hd) rfl (XT.ii_eq_f q) r) (kf q)
theorem Base.if0_eq (B : Base p l e R s m args below meth c Z y bytes maxL ret h0 ws C) (pt pf : Nat) {o : Int} (hpt : ((pc : Int) + o).toNat = pt) (ho : 0 ≤ (pc : Int) + o) (hpf : pf = pc + 3) {x : Int32} (hd : decode bytes pc = .ok (.ifCond .eq o, 3)) (kt : x = 0 → B.G h cl sl (mkF m pt Ls st)) (kf : ¬ x = 0 → B.G h cl sl (mkF m pf Ls st)) : B.G h cl sl (mkF m pc Ls (.int x :: st)) := by
  subst hpt hpf
  by_cases q : x = 0
  · exact B.via (fun T t X r => XS.ifYes X B.1 rfl rfl (hb B.2.1 hd) rfl (XT.i0_eq_t q) ho rfl r) (kt q)
  · exact B.via (fun T t X r => XS.ifNo X B.1 rfl (hb B.2.1 hd) rfl (XT.i0_eq_f q) r) (kf q)
theorem Base.lif_eq (B : Base p l e R s m args below meth c Z y bytes maxL ret h0 ws C) (pt pf : Nat) {o : Int} (hpt : ((pc : Int) + o).toNat = pt) (ho : 0 ≤ (pc : Int) + o) (hpf : pf = pc + 3) {x z : Int64} (hd : decode bytes pc = .ok (.ifCond .eq o, 3)) (kt : x = z → B.G h cl sl (mkF m pt Ls st)) (kf : ¬ x = z → B.G h cl sl (mkF m pf Ls st)) : B.G h cl sl (mkF m pc Ls (.int (XT.cmpL x z) :: st)) := by
  subst hpt hpf
  by_cases q : x = z
  · exact B.via (fun T t X r => XS.ifYes X B.1 rfl rfl (hb B.2.1 hd) rfl (XT.ll_eq_t q) ho rfl r) (kt q)
  · exact B.via (fun T t X r => XS.ifNo X B.1 rfl (hb B.2.1 hd) rfl (XT.ll_eq_f q) r) (kf q)
theorem Base.icmp_ne (B : Base p l e R s m args below meth c Z y bytes maxL ret h0 ws C) (pt pf : Nat) {o : Int} (hpt : ((pc : Int) + o).toNat = pt) (ho : 0 ≤ (pc : Int) + o) (hpf : pf = pc + 3) {x z : Int32} (hd : decode bytes pc = .ok (.if_icmp .ne o, 3)) (kt : ¬ x = z → B.G h cl sl (mkF m pt Ls st)) (kf : x = z → B.G h cl sl (mkF m pf Ls st)) : B.G h cl sl (mkF m pc Ls (.int z :: .int x :: st)) := by
  subst hpt hpf
  by_cases q : x = z
  · exact B.via (fun T t X r => XS.icmpNo X B.1 rfl (hb B.2.1 hd) rfl (XT.ii_ne_f q) r) (kf q)
  · exact B.via (fun T t X r => XS.icmpYes X B.1 rfl rfl (hb B.2.1 hd) rfl (XT.ii_ne_t q) ho rfl r) (kt q)
theorem Base.if0_ne (B : Base p l e R s m args below meth c Z y bytes maxL ret h0 ws C) (pt pf : Nat) {o : Int} (hpt : ((pc : Int) + o).toNat = pt) (ho : 0 ≤ (pc : Int) + o) (hpf : pf = pc + 3) {x : Int32} (hd : decode bytes pc = .ok (.ifCond .ne o, 3)) (kt : ¬ x = 0 → B.G h cl sl (mkF m pt Ls st)) (kf : x = 0 → B.G h cl sl (mkF m pf Ls st)) : B.G h cl sl (mkF m pc Ls (.int x :: st)) := by
  subst hpt hpf
  by_cases q : x = 0
  · exact B.via (fun T t X r => XS.ifNo X B.1 rfl (hb B.2.1 hd) rfl (XT.i0_ne_f q) r) (kf q)
  · exact B.via (fun T t X r => XS.ifYes X B.1 rfl rfl (hb B.2.1 hd) rfl (XT.i0_ne_t q) ho rfl r) (kt q)
theorem Base.lif_ne (B : Base p l e R s m args below meth c Z y bytes maxL ret h0 ws C) (pt pf : Nat) {o : Int} (hpt : ((pc : Int) + o).toNat = pt) (ho : 0 ≤ (pc : Int) + o) (hpf : pf = pc + 3) {x z : Int64} (hd : decode bytes pc = .ok (.ifCond .ne o, 3)) (kt : ¬ x = z → B.G h cl sl (mkF m pt Ls st)) (kf : x = z → B.G h cl sl (mkF m pf Ls st)) : B.G h cl sl (mkF m pc Ls (.int (XT.cmpL x z) :: st)) := by
  subst hpt hpf
  by_cases q : x = z
  · exact B.via (fun T t X r => XS.ifNo X B.1 rfl (hb B.2.1 hd) rfl (XT.ll_ne_f q) r) (kf q)
  · exact B.via (fun T t X r => XS.ifYes X B.1 rfl rfl (hb B.2.1 hd) rfl (XT.ll_ne_t q) ho rfl r) (kt q)
theorem Base.icmp_lt (B : Base p l e R s m args below meth c Z y bytes maxL ret h0 ws C) (pt pf : Nat) {o : Int} (hpt : ((pc : Int) + o).toNat = pt) (ho : 0 ≤ (pc : Int) + o) (hpf : pf = pc + 3) {x z : Int32} (hd : decode bytes pc = .ok (.if_icmp .lt o, 3)) (kt : x < z → B.G h cl sl (mkF m pt Ls st)) (kf : ¬ x < z → B.G h cl sl (mkF m pf Ls st)) : B.G h cl sl (mkF m pc Ls (.int z :: .int x :: st)) := by
  subst hpt hpf
  by_cases q : x < z
  · exact B.via (fun T t X r => XS.icmpYes X B.1 rfl rfl (hb B.2.1 hd) rfl (XT.ii_lt_t q) ho rfl r) (kt q)
  · exact B.via (fun T t X r => XS.icmpNo X B.1 rfl (hb B.2.1 hd) rfl (XT.ii_lt_f q) r) (kf q)
theorem Base.if0_lt (B : Base p l e R s m args below meth c Z y bytes maxL ret h0 ws C) (pt pf : Nat) {o : Int} (hpt : ((pc : Int) + o).toNat = pt) (ho : 0 ≤ (pc : Int) + o) (hpf : pf = pc + 3) {x : Int32} (hd : decode bytes pc = .ok (.ifCond .lt o, 3)) (kt : x < 0 → B.G h cl sl (mkF m pt Ls st)) (kf : ¬ x < 0 → B.G h cl sl (mkF m pf Ls st)) : B.G h cl sl (mkF m pc Ls (.int x :: st)) := by
  subst hpt hpf
  by_cases q : x < 0
  · exact B.via (fun T t X r => XS.ifYes X B.1 rfl rfl (hb B.2.1 hd) rfl (XT.i0_lt_t q) ho rfl r) (kt q)
  · exact B.via (fun T t X r => XS.ifNo X B.1 rfl (hb B.2.1 hd) rfl (XT.i0_lt_f q) r) (kf q)
theorem Base.lif_lt (B : Base p l e R s m args below meth c Z y bytes maxL ret h0 ws C) (pt pf : Nat) {o : Int} (hpt : ((pc : Int) + o).toNat = pt) (ho : 0 ≤ (pc : Int) + o) (hpf : pf = pc + 3) {x z : Int64} (hd : decode bytes pc = .ok (.ifCond .lt o, 3)) (kt : x < z → B.G h cl sl (mkF m pt Ls st)) (kf : ¬ x < z → B.G h cl sl (mkF m pf Ls st)) : B.G h cl sl (mkF m pc Ls (.int (XT.cmpL x z) :: st)) := by
  subst hpt hpf
  by_cases q : x < z
  · exact B.via (fun T t X r => XS.ifYes X B.1 rfl rfl (hb B.2.1 hd) rfl (XT.ll_lt_t q) ho rfl r) (kt q)
  · exact B.via (fun T t X r => XS.ifNo X B.1 rfl (hb B.2.1 hd) rfl (XT.ll_lt_f q) r) (kf q)
theorem Base.icmp_ge (B : Base p l e R s m args below meth c Z y bytes maxL ret h0 ws C) (pt pf : Nat) {o : Int} (hpt : ((pc : Int) + o).toNat = pt) (ho : 0 ≤ (pc : Int) + o) (hpf : pf = pc + 3) {x z : Int32} (hd : decode bytes pc = .ok (.if_icmp .ge o, 3)) (kt : ¬ x < z → B.G h cl sl (mkF m pt Ls st)) (kf : x < z → B.G h cl sl (mkF m pf Ls st)) : B.G h cl sl (mkF m pc Ls (.int z :: .int x :: st)) := by
  subst hpt hpf
  by_cases q : x < z
  · exact B.via (fun T t X r => XS.icmpNo X B.1 rfl (hb B.2.1 hd) rfl (XT.ii_ge_f q) r) (kf q)
  · exact B.via (fun T t X r => XS.icmpYes X B.1 rfl rfl (hb B.2.1 hd) rfl (XT.ii_ge_t q) ho rfl r) (kt q)
theorem Base.if0_ge (B : Base p l e R s m args below meth c Z y bytes maxL ret h0 ws C) (pt pf : Nat) {o : Int} (hpt : ((pc : Int) + o).toNat = pt) (ho : 0 ≤ (pc : Int) + o) (hpf : pf = pc + 3) {x : Int32} (hd : decode bytes pc = .ok (.ifCond .ge o, 3)) (kt : ¬ x < 0 → B.G h cl sl (mkF m pt Ls st)) (kf : x < 0 → B.G h cl sl (mkF m pf Ls st)) : B.G h cl sl (mkF m pc Ls (.int x :: st)) := by
  subst hpt hpf
  by_cases q : x < 0
  · exact B.via (fun T t X r => XS.ifNo X B.1 rfl (hb B.2.1 hd) rfl (XT.i0_ge_f q) r) (kf q)
  · exact B.via (fun T t X r => XS.ifYes X B.1 rfl rfl (hb B.2.1 hd) rfl (XT.i0_ge_t q) ho rfl r) (kt q)
theorem Base.lif_ge (B : Base p l e R s m args below meth c Z y bytes maxL ret h0 ws C) (pt pf : Nat) {o : Int} (hpt : ((pc : Int) + o).toNat = pt) (ho : 0 ≤ (pc : Int) + o) (hpf : pf = pc + 3) {x z : Int64} (hd : decode bytes pc = .ok (.ifCond .ge o, 3)) (kt : ¬ x < z → B.G h cl sl (mkF m pt Ls st)) (kf : x < z → B.G h cl sl (mkF m pf Ls st)) : B.G h cl sl (mkF m pc Ls (.int (XT.cmpL x z) :: st)) := by
  subst hpt hpf
  by_cases q : x < z
  · exact B.via (fun T t X r => XS.ifNo X B.1 rfl (hb B.2.1 hd) rfl (XT.ll_ge_f q) r) (kf q)
  · exact B.via (fun T t X r => XS.ifYes X B.1 rfl rfl (hb B.2.1 hd) rfl (XT.ll_ge_t q) ho rfl r) (kt q)
theorem Base.icmp_gt (B : Base p l e R s m args below meth c Z y bytes maxL ret h0 ws C) (pt pf : Nat) {o : Int} (hpt : ((pc : Int) + o).toNat = pt) (ho : 0 ≤ (pc : Int) + o) (hpf : pf = pc + 3) {x z : Int32} (hd : decode bytes pc = .ok (.if_icmp .gt o, 3)) (kt : z < x → B.G h cl sl (mkF m pt Ls st)) (kf : ¬ z < x → B.G h cl sl (mkF m pf Ls st)) : B.G h cl sl (mkF m pc Ls (.int z :: .int x :: st)) := by
  subst hpt hpf
  by_cases q : z < x
  · exact B.via (fun T t X r => XS.icmpYes X B.1 rfl rfl (hb B.2.1 hd) rfl (XT.ii_gt_t q) ho rfl r) (kt q)
  · exact B.via (fun T t X r => XS.icmpNo X B.1 rfl (hb B.2.1 hd) rfl (XT.ii_gt_f q) r) (kf q)
theorem Base.if0_gt (B : Base p l e R s m args below meth c Z y bytes maxL ret h0 ws C) (pt pf : Nat) {o : Int} (hpt : ((pc : Int) + o).toNat = pt) (ho : 0 ≤ (pc : Int) + o) (hpf : pf = pc + 3) {x : Int32} (hd : decode bytes pc = .ok (.ifCond .gt o, 3)) (kt : 0 < x → B.G h cl sl (mkF m pt Ls st)) (kf : ¬ 0 < x → B.G h cl sl (mkF m pf Ls st)) : B.G h cl sl (mkF m pc Ls (.int x :: st)) := by
  subst hpt hpf
  by_cases q : 0 < x
  · exact B.via (fun T t X r => XS.ifYes X B.1 rfl rfl (hb B.2.1 hd) rfl (XT.i0_gt_t q) ho rfl r) (kt q)
  · exact B.via (fun T t X r => XS.ifNo X B.1 rfl (hb B.2.1 hd) rfl (XT.i0_gt_f q) r) (kf q)
theorem Base.lif_gt (B : Base p l e R s m args below meth c Z y bytes maxL ret h0 ws C) (pt pf : Nat) {o : Int} (hpt : ((pc : Int) + o).toNat = pt) (ho : 0 ≤ (pc : Int) + o) (hpf : pf = pc + 3) {x z : Int64} (hd : decode bytes pc = .ok (.ifCond .gt o, 3)) (kt : z < x → B.G h cl sl (mkF m pt Ls st)) (kf : ¬ z < x → B.G h cl sl (mkF m pf Ls st)) : B.G h cl sl (mkF m pc Ls (.int (XT.cmpL x z) :: st)) := by
  subst hpt hpf
  by_cases q : z < x
  · exact B.via (fun T t X r => XS.ifYes X B.1 rfl rfl (hb B.2.1 hd) rfl (XT.ll_gt_t q) ho rfl r) (kt q)
  · exact B.via (fun T t X r => XS.ifNo X B.1 rfl (hb B.2.1 hd) rfl (XT.ll_gt_f q) r) (kf q)
theorem Base.icmp_le (B : Base p l e R s m args below meth c Z y bytes maxL ret h0 ws C) (pt pf : Nat) {o : Int} (hpt : ((pc : Int) + o).toNat = pt) (ho : 0 ≤ (pc : Int) + o) (hpf : pf = pc + 3) {x z : Int32} (hd : decode bytes pc = .ok (.if_icmp .le o, 3)) (kt : ¬ z < x → B.G h cl sl (mkF m pt Ls st)) (kf : z < x → B.G h cl sl (mkF m pf Ls st)) : B.G h cl sl (mkF m pc Ls (.int z :: .int x :: st)) := by
  subst hpt hpf
  by_cases q : z < x
  · exact B.via (fun T t X r => XS.icmpNo X B.1 rfl (hb B.2.1 hd) rfl (XT.ii_le_f q) r) (kf q)
  · exact B.via (fun T t X r => XS.icmpYes X B.1 rfl rfl (hb B.2.1 hd) rfl (XT.ii_le_t q) ho rfl r) (kt q)
theorem Base.if0_le (B : Base p l e R s m args below meth c Z y bytes maxL ret h0 ws C) (pt pf : Nat) {o : Int} (hpt : ((pc : Int) + o).toNat = pt) (ho : 0 ≤ (pc : Int) + o) (hpf : pf = pc + 3) {x : Int32} (hd : decode bytes pc = .ok (.ifCond .le o, 3)) (kt : ¬ 0 < x → B.G h cl sl (mkF m pt Ls st)) (kf : 0 < x → B.G h cl sl (mkF m pf Ls st)) : B.G h cl sl (mkF m pc Ls (.int x :: st)) := by
  subst hpt hpf
  by_cases q : 0 < x
  · exact B.via (fun T t X r => XS.ifNo X B.1 rfl (hb B.2.1 hd) rfl (XT.i0_le_f q) r) (kf q)
  · exact B.via (fun T t X r => XS.ifYes X B.1 rfl rfl (hb B.2.1 hd) rfl (XT.i0_le_t q) ho rfl r) (kt q)
theorem Base.lif_le (B : Base p l e R s m args below meth c Z y bytes maxL ret h0 ws C) (pt pf : Nat) {o : Int} (hpt : ((pc : Int) + o).toNat = pt) (ho : 0 ≤ (pc : Int) + o) (hpf : pf = pc + 3) {x z : Int64} (hd : decode bytes pc = .ok (.ifCond .le o, 3)) (kt : ¬ z < x → B.G h cl sl (mkF m pt Ls st)) (kf : z < x → B.G h cl sl (mkF m pf Ls st)) : B.G h cl sl (mkF m pc Ls (.int (XT.cmpL x z) :: st)) := by
  subst hpt hpf
  by_cases q : z < x
  · exact B.via (fun T t X r => XS.ifNo X B.1 rfl (hb B.2.1 hd) rfl (XT.ll_le_f q) r) (kf q)
  · exact B.via (fun T t X r => XS.ifYes X B.1 rfl rfl (hb B.2.1 hd) rfl (XT.ll_le_t q) ho rfl r) (kt q)
theorem Base.acmp_eq (B : Base p l e R s m args below meth c Z y bytes maxL ret h0 ws C) (pt pf : Nat) {o : Int} (hpt : ((pc : Int) + o).toNat = pt) (ho : 0 ≤ (pc : Int) + o) (hpf : pf = pc + 3) {x z : Value} (hd : decode bytes pc = .ok (.if_acmp .eq o, 3)) (hx' : x.isRef = true) (hz' : z.isRef = true) (kt : x = z → B.G h cl sl (mkF m pt Ls st)) (kf : ¬ x = z → B.G h cl sl (mkF m pf Ls st)) : B.G h cl sl (mkF m pc Ls (z :: x :: st)) := by
  subst hpt hpf
  by_cases q : x = z
  · exact B.via (fun T t X r => XT.acmpYes X B.1 rfl rfl (hb B.2.1 hd) rfl hx' hz' (XT.aa_eq_t q) ho rfl r) (kt q)
  · exact B.via (fun T t X r => XT.acmpNo X B.1 rfl (hb B.2.1 hd) rfl hx' hz' (XT.aa_eq_f q) r) (kf q)
theorem Base.acmp_ne (B : Base p l e R s m args below meth c Z y bytes maxL ret h0 ws C) (pt pf : Nat) {o : Int} (hpt : ((pc : Int) + o).toNat = pt) (ho : 0 ≤ (pc : Int) + o) (hpf : pf = pc + 3) {x z : Value} (hd : decode bytes pc = .ok (.if_acmp .ne o, 3)) (hx' : x.isRef = true) (hz' : z.isRef = true) (kt : ¬ x = z → B.G h cl sl (mkF m pt Ls st)) (kf : x = z → B.G h cl sl (mkF m pf Ls st)) : B.G h cl sl (mkF m pc Ls (z :: x :: st)) := by
  subst hpt hpf
  by_cases q : x = z
  · exact B.via (fun T t X r => XT.acmpNo X B.1 rfl (hb B.2.1 hd) rfl hx' hz' (XT.aa_ne_f q) r) (kf q)
  · exact B.via (fun T t X r => XT.acmpYes X B.1 rfl rfl (hb B.2.1 hd) rfl hx' hz' (XT.aa_ne_t q) ho rfl r) (kt q)
theorem Base.ifnull (B : Base p l e R s m args below meth c Z y bytes maxL ret h0 ws C) (pt pf : Nat) {o : Int} (hpt : ((pc : Int) + o).toNat = pt) (ho : 0 ≤ (pc : Int) + o) (hpf : pf = pc + 3) {x : Value} (hd : decode bytes pc = .ok (.ifnull o, 3)) (hx' : x.isRef = true) (kt : x = .null → B.G h cl sl (mkF m pt Ls st)) (kf : ¬ x = .null → B.G h cl sl (mkF m pf Ls st)) : B.G h cl sl (mkF m pc Ls (x :: st)) := by
  subst hpt hpf
  by_cases q : x = .null
  · exact B.via (fun T t X r => XT.nullYes X B.1 rfl rfl (hb B.2.1 hd) rfl q ho rfl r) (kt q)
  · exact B.via (fun T t X r => XT.nullNo X B.1 rfl (hb B.2.1 hd) rfl hx' q r) (kf q)
theorem Base.ifnonnull (B : Base p l e R s m args below meth c Z y bytes maxL ret h0 ws C) (pt pf : Nat) {o : Int} (hpt : ((pc : Int) + o).toNat = pt) (ho : 0 ≤ (pc : Int) + o) (hpf : pf = pc + 3) {x : Value} (hd : decode bytes pc = .ok (.ifnonnull o, 3)) (hx' : x.isRef = true) (kt : ¬ x = .null → B.G h cl sl (mkF m pt Ls st)) (kf : x = .null → B.G h cl sl (mkF m pf Ls st)) : B.G h cl sl (mkF m pc Ls (x :: st)) := by
  subst hpt hpf
  by_cases q : x = .null
  · exact B.via (fun T t X r => XT.nonnullNo X B.1 rfl (hb B.2.1 hd) rfl q r) (kf q)
  · exact B.via (fun T t X r => XT.nonnullYes X B.1 rfl rfl (hb B.2.1 hd) rfl hx' q ho rfl r) (kt q)
theorem Base.topI (B : Base p l e R s m args below meth c Z y bytes maxL ret h0 ws C) {x : Int32} (v : Int32) (q : x = v) (k : B.G h cl sl (mkF m pc Ls (.int v :: st))) : B.G h cl sl (mkF m pc Ls (.int x :: st)) := by subst q; exact k
theorem Base.topL (B : Base p l e R s m args below meth c Z y bytes maxL ret h0 ws C) {x : Int64} (v : Int64) (q : x = v) (k : B.G h cl sl (mkF m pc Ls (.long v :: st))) : B.G h cl sl (mkF m pc Ls (.long x :: st)) := by subst q; exact k
/-! 2. the ends -/
theorem Base.leave (B : Base p l e R s m args below meth c Z y bytes maxL ret h0 ws C) (hcl : cl ≤ R.cells) (hsl : sl ≤ R.slots) {v : Option Value} (hv : meth.sig.returnType = none → v = none) (hC : C v h)
    (st : ∀ (T : State) (locs : List Loc) (fs : List Frame), Stand p l e R s m args below meth c T locs cl sl → (∀ (f : JFrame) (acts : List Action), f.method = m → f.locked = none → f.entered = [] → (doReturn e (T.setTop f) acts v).1 = T.setFrames fs) → Steps p.tables e below (T.setTop g) (T.setFrames fs)) : B.G h cl sl g := fun T locs X N eT => by
  have hlk : meth.locks = false := B.2.2.2.2.2.2.1
  obtain ⟨fs, hr, hrun, hended, hW, hsame⟩ := X.leave (v := v) hv hlk
  have e0 := B.2.2.2.2.2.2.2.2
  refine ⟨_, _, st T locs fs X hr, hrun, hended, _, _, rfl, ⟨?_, N, ?_⟩, ⟨_, rfl⟩, hW, hsame.mono hcl hsl⟩
  · show C v T.heap
    rw [eT]; exact hC
  · show Keep h0 T.heap ws
    rw [← e0] at N ⊢
    exact keep_of X N
theorem Base.ret0 (B : Base p l e R s m args below meth c Z y bytes maxL none h0 ws C) (hd : decode bytes pc = .ok (.return_, 1)) (hcl : cl ≤ R.cells) (hsl : sl ≤ R.slots) (hC : C none h) : B.G h cl sl (mkF m pc Ls []) :=
  B.leave hcl hsl (fun _ => rfl) hC fun T locs fs X hr => X.returnOut B.1 B.2.2.2.2.2.1 (hb B.2.1 hd) hr
theorem Base.retI (B : Base p l e R s m args below meth c Z y bytes maxL (some .int) h0 ws C) {x : Int32} (hd : decode bytes pc = .ok (.ireturn, 1)) (hcl : cl ≤ R.cells) (hsl : sl ≤ R.slots) (hC : C (some (.int x)) h) : B.G h cl sl (mkF m pc Ls (.int x :: st)) :=
  B.leave hcl hsl (fun q => by rw [B.2.2.2.2.2.1] at q; cases q) hC fun T locs fs X hr => retOut X B.1 B.2.2.2.2.2.1 rfl (Or.inl ⟨rfl, Or.inl rfl, _, rfl⟩) (hb B.2.1 hd) hr
theorem Base.retL (B : Base p l e R s m args below meth c Z y bytes maxL (some .long) h0 ws C) {x : Int64} (hd : decode bytes pc = .ok (.lreturn, 1)) (hcl : cl ≤ R.cells) (hsl : sl ≤ R.slots) (hC : C (some (.long x)) h) : B.G h cl sl (mkF m pc Ls (.long x :: st)) :=
  B.leave hcl hsl (fun q => by rw [B.2.2.2.2.2.1] at q; cases q) hC fun T locs fs X hr => retOut X B.1 B.2.2.2.2.2.1 rfl (Or.inr (Or.inl ⟨rfl, rfl, _, rfl⟩)) (hb B.2.1 hd) hr
/-- a boolean, byte, char, short: what comes back is narrowed -/
theorem Base.retN {t : FieldType} (B : Base p l e R s m args below meth c Z y bytes maxL (some t) h0 ws C) {x : Int32} (ht : t = .boolean ∨ t = .byte ∨ t = .char ∨ t = .short) (hd : decode bytes pc = .ok (.ireturn, 1)) (hcl : cl ≤ R.cells) (hsl : sl ≤ R.slots) (hC : C (some (.int (nar t x))) h) : B.G h cl sl (mkF m pc Ls (.int x :: st)) :=
  B.leave hcl hsl (fun q => by rw [B.2.2.2.2.2.1] at q; cases q) hC fun T locs fs X hr => Jvm.RoadKit.retN X B.1 B.2.2.2.2.2.1 ht (hb B.2.1 hd) hr
theorem Base.retA {t : FieldType} (B : Base p l e R s m args below meth c Z y bytes maxL (some t) h0 ws C) {x : Value} (ht : t.isReference = true) (hx' : x.isRef = true) (hd : decode bytes pc = .ok (.areturn, 1)) (hcl : cl ≤ R.cells) (hsl : sl ≤ R.slots) (hC : C (some x) h) : B.G h cl sl (mkF m pc Ls (x :: st)) :=
  B.leave hcl hsl (fun q => by rw [B.2.2.2.2.2.1] at q; cases q) hC fun T locs fs X hr => retOut X B.1 B.2.2.2.2.2.1 (by rcases ref_cases hx' with rfl | ⟨a, rfl⟩ <;> cases t <;> simp_all [narrow, FieldType.isReference]) (Or.inr (Or.inr (Or.inr (Or.inr ⟨rfl, ht, hx'⟩)))) (hb B.2.1 hd) hr
/-! 3. the heap -/
theorem Base.size (B : Base p l e R s m args below meth c Z y bytes maxL ret h0 ws C) {T : State} {locs : List Loc} (X : Stand p l e R s m args below meth c T locs cl sl) : h0.size ≤ T.heap.size := by
  have q := X.same.2.1
  rw [B.2.2.2.2.2.2.2.2] at q; exact q
/-- the heap has only grown -/
theorem Base.grown (B : Base p l e R s m args below meth c Z y bytes maxL ret h0 ws C) (k : h0.size ≤ h.size → B.G h cl sl g) : B.G h cl sl g := fun T locs X N eT => k (by rw [← eT]; exact B.size X) T locs X N eT
theorem Base.getF (B : Base p l e R s m args below meth c Z y bytes maxL ret h0 ws C) (pc' : Nat) (hp : pc' = pc + 3) {i : Nat} {O n d : String} {a : Addr} {v : Value} (hd : decode bytes pc = .ok (.getfield i, 3)) (w : (Cond.fieldLink y.cls i O n d).before a0 Z = true) (F : Fld Z h a O n d v) (k : B.G h cl sl (mkF m pc' Ls (v :: st))) : B.G h cl sl (mkF m pc Ls (.ref a :: st)) := fun T locs X N eT => by
  subst hp
  obtain ⟨T', X', e', stp⟩ := Jvm.RoadKit.getF X B.1 B.2.2.2.1 B.2.2.2.2.1 (host := "") (Or.inl w) Via.refl eT F (g := mkF m pc Ls (.ref a :: st)) rfl rfl (hb B.2.1 hd)
  obtain ⟨t, o, q, r⟩ := k T' locs X' N e'
  exact ⟨t, o, stp _ q, r⟩
theorem Base.getS (B : Base p l e R s m args below meth c Z y bytes maxL ret h0 ws C) (pc' : Nat) (hp : pc' = pc + 3) {i : Nat} {O n d : String} {v : Value} (hd : decode bytes pc = .ok (.getstatic i, 3)) (w : (Cond.fieldLink y.cls i O n d).before a0 Z = true) (F : Sta Z h O n d v) (k : B.G h cl sl (mkF m pc' Ls (v :: st))) : B.G h cl sl (mkF m pc Ls st) := fun T locs X N eT => by
  subst hp
  obtain ⟨T', X', e', stp⟩ := Jvm.RoadKit.getS (host := "") X B.1 B.2.2.2.1 B.2.2.2.2.1 w Via.refl eT F (g := mkF m pc Ls st) rfl (hb B.2.1 hd)
  obtain ⟨t, o, q, r⟩ := k T' locs X' N e'
  exact ⟨t, o, stp _ q, r⟩
theorem Base.putF (B : Base p l e R s m args below meth c Z y bytes maxL ret h0 ws C) (pc' : Nat) (hp : pc' = pc + 3) {i kk : Nat} {O n d CC : String} {a : Addr} {v old : Value} {ty : FieldType} (hd : decode bytes pc = .ok (.putfield i, 3)) (w : (Cond.fieldLink y.cls i O n d).before a0 Z = true) (F : Fld Z h a O n d old) (E : Exa Z h a CC)
    (L : (Cond.lays CC O n d).before a0 Z = true ∨ ((Cond.laysFinal CC O n d).before a0 Z = true ∧ y.cls = O ∧ y.name = "<init>")) (wi : (Cond.instantiable CC kk).before a0 Z = true) (hty : parseFieldDescriptor d = some ty) (hn : narrow ty v = v) (hf : fits ty v = true) (hw : a ∈ ws ∨ h0.size ≤ a)
    (k : ∀ h', Wr h h' a (Jvm.RoadKit.slotOf Z O n d) v → B.G h' cl sl (mkF m pc' Ls st)) : B.G h cl sl (mkF m pc Ls (v :: .ref a :: st)) := fun T locs X N eT => by
  subst hp
  obtain ⟨T', h', X', e', W, stp⟩ := Jvm.RoadKit.putF X B.1 B.2.2.2.1 B.2.2.2.2.1 (host := "") (Or.inl w) Via.refl eT F E (L.imp id fun q => ⟨q.1, q.2.1, B.2.2.2.2.2.2.2.1.trans q.2.2⟩) wi hty hn hf (g := mkF m pc Ls (v :: .ref a :: st)) rfl rfl (hb B.2.1 hd)
  obtain ⟨t, o, q, r⟩ := k h' W T' _ X' (N.one hw) e'
  exact ⟨t, o, stp _ q, r⟩
theorem Base.newO (B : Base p l e R s m args below meth c Z y bytes maxL ret h0 ws C) (pc' : Nat) (hp : pc' = pc + 3) {i n : Nat} {CC : String} (hd : decode bytes pc = .ok (.new i, 3)) (w : (Cond.classLink y.cls i CC).before a0 Z = true) (wi : (Cond.instantiable CC n).before a0 Z = true) (wz : (Cond.initialized CC).before a0 Z = true) (hc : cl + 1 ≤ R.cells) (hs : sl + n ≤ R.slots)
    (k : ∀ h' a, a = h.size → h0.size ≤ a → Ext h h' → Exa Z h' a CC → (∀ {O nm d : String} {ty : FieldType}, Laid Z a0 CC O nm d → parseFieldDescriptor d = some ty → Fld Z h' a O nm d (defaultValue ty)) → B.G h' (cl + 1) (sl + n) (mkF m pc' Ls (.ref a :: st))) : B.G h cl sl (mkF m pc Ls st) := fun T locs X N eT => by
  subst hp
  obtain ⟨T', h', X', e', E, A, D, -, stp⟩ := Jvm.RoadKit.newO X B.1 B.2.2.2.1 B.2.2.2.2.1 w wi wz eT (g := mkF m pc Ls st) rfl (hb B.2.1 hd) hc hs
  obtain ⟨t, o, q, r⟩ := k h' _ rfl (by rw [← eT]; exact B.size X) E A D T' locs X' N e'
  exact ⟨t, o, stp _ q, r⟩
theorem Base.initO (B : Base p l e R s m args below meth c Z y bytes maxL ret h0 ws C) (pc' : Nat) (hp : pc' = pc + 3) {i : Nat} {a : Addr} (hd : decode bytes pc = .ok (.invokespecial i, 3)) (w1 : (Cond.methodLink y.cls i Lib.objectInit).before a0 Z = true) (w2 : (Cond.instanceMethod Lib.objectInit).before a0 Z = true) (w3 : (Cond.code Lib.objectInit ⟨#[0xb1]⟩ 1 none).before a0 Z = true)
    (hLs : Ls.size = maxL) (W : Nat) (hW : (st.map fun v => v.category).sum = W) (hf : 1 ≤ R.frames) (hl : W + 12 ≤ R.locals) (k : B.G h cl sl (mkF m pc' Ls st)) : B.G h cl sl (mkF m pc Ls (.ref a :: st)) := fun T locs X N eT => by
  subst hp
  obtain ⟨T', X', e', stp⟩ := Jvm.RoadKit.initO X B.1 B.2.2.2.1 B.2.2.2.2.1 w1 w2 w3 eT (g := mkF m pc Ls (.ref a :: st)) rfl (hLs.trans B.2.2.1.symm) rfl (hb B.2.1 hd) hf (W := W) (by show 2 * 0 + _ ≤ _; omega) hl
  obtain ⟨t, o, q, r⟩ := k T' locs X' N e'
  exact ⟨t, o, stp _ q, r⟩
/-! 4. calls -/
section Calls
variable {z : MethodName} {i : Nat} {cb : ByteArray} {cm : Nat} {cr : Option FieldType} {rm : Room} {as : Array Value} {ws' : List Addr} {C' : Option Value → Heap → Prop} {argsL rest : List Value} {ps : List FieldType} {rt : Option FieldType} {W : Nat}
theorem Base.callS (B : Base p l e R s m args below meth c Z y bytes maxL ret h0 ws C) (pc' : Nat) (hp : pc' = pc + 3) (hd : decode bytes pc = .ok (.invokestatic i, 3))
    (w1 : (Cond.methodLink y.cls i z).before a0 Z = true) (w2 : (Cond.static z).before a0 Z = true) (w3 : (Cond.initialized z.cls).before a0 Z = true) (w4 : (Cond.code z cb cm cr).before a0 Z = true)
    (hz : z.cls ≠ "java/lang/invoke/MethodHandle" ∧ z.cls ≠ "java/lang/invoke/VarHandle") (argsL rest : List Value) (M : Met l Z z cb cm cr [] rm as h ws' C') (has : argsL.toArray = as) (hst : st = argsL.reverse ++ rest) (hpd : parseMethodDescriptor z.desc = some ⟨ps, rt⟩) (hlen : argsL.length = ps.length) (hLs : Ls.size = maxL)
    (W : Nat) (hW : (rest.map fun v => v.category).sum = W) (hf : rm.frames + 1 ≤ R.frames) (hl : W + (cm + 11) + rm.locals ≤ R.locals) (hc : cl + rm.cells ≤ R.cells) (hs : sl + rm.slots ≤ R.slots) (hws : ∀ x ∈ ws', x ∈ ws ∨ h0.size ≤ x)
    (k : ∀ v h', Keep h h' ws' → C' v h' → B.G h' (cl + rm.cells) (sl + rm.slots) (mkF m pc' Ls (v.toList ++ rest))) : B.G h cl sl (mkF m pc Ls st) := fun T locs X N eT => by
  subst hp
  have hZ := B.2.2.2.1
  obtain ⟨v, _, ⟨T', L', k', n'⟩, -, X', ⟨Lc, hQ, l', y', z'⟩, stp⟩ := Jvm.LawKit.callS X B.1 (y := z) B.2.2.2.2.1 (mvT hZ w1) (mvT hZ w2) (mvT hZ w3) (mvT hZ w4) hz (backOf (W := W) M hZ w4 w3 hf hl) (g := mkF m pc Ls st) rfl (hLs.trans B.2.2.1.symm) (argsL := argsL) (rest := rest) (lenOf hpd hlen) hst (by show 2 * 0 + _ ≤ _; omega) (hb B.2.1 hd) (fun _ _ => ⟨has, eT, hc, hs⟩)
  dsimp only [Pt.U, Pt.locs, Pt.cells, Pt.slots] at X' l' y' z' stp hQ
  subst l' y' z'
  obtain ⟨hC, hN, hK⟩ := hQ
  obtain ⟨t, o, q, r⟩ := k v T'.heap hK hC T' _ X' (N.app fun u hu => (hN u hu).elim (fun q => hws _ q) fun q => Or.inr (Nat.le_trans (by rw [← eT]; exact B.size X) q)) rfl
  exact ⟨t, o, stp _ q, r⟩
theorem Base.callI (B : Base p l e R s m args below meth c Z y bytes maxL ret h0 ws C) (pc' : Nat) (hp : pc' = pc + 3) (hd : decode bytes pc = .ok (.invokespecial i, 3)) (hin : z.name = "<init>")
    (w1 : (Cond.methodLink y.cls i z).before a0 Z = true) (w2 : (Cond.instanceMethod z).before a0 Z = true) (w3 : (Cond.initialized z.cls).before a0 Z = true) (w4 : (Cond.code z cb cm none).before a0 Z = true)
    (hz : z.cls ≠ "java/lang/invoke/MethodHandle" ∧ z.cls ≠ "java/lang/invoke/VarHandle") {a : Addr} (argsL rest : List Value) (M : Met l Z z cb cm none [] rm as h ws' C') (has : (.ref a :: argsL).toArray = as) (hst : st = argsL.reverse ++ .ref a :: rest) (hpd : parseMethodDescriptor z.desc = some ⟨ps, rt⟩) (hlen : argsL.length = ps.length) (hLs : Ls.size = maxL)
    (W : Nat) (hW : (rest.map fun v => v.category).sum = W) (hf : rm.frames + 1 ≤ R.frames) (hl : W + (cm + 11) + rm.locals ≤ R.locals) (hc : cl + rm.cells ≤ R.cells) (hs : sl + rm.slots ≤ R.slots) (hws : ∀ x ∈ ws', x ∈ ws ∨ h0.size ≤ x)
    (k : ∀ v h', Keep h h' ws' → C' v h' → B.G h' (cl + rm.cells) (sl + rm.slots) (mkF m pc' Ls (v.toList ++ rest))) : B.G h cl sl (mkF m pc Ls st) := fun T locs X N eT => by
  subst hp
  have hZ := B.2.2.2.1
  obtain ⟨v, _, ⟨T', L', k', n'⟩, -, X', ⟨Lc, hQ, l', y', z'⟩, stp⟩ := X.specialBack B.1 (y := z) hin B.2.2.2.2.1 (mvT hZ w1) (mvT hZ w2) (mvT hZ w4) hz (backOf (W := W) M hZ w4 w3 hf hl) (g := mkF m pc Ls st) rfl (hLs.trans B.2.2.1.symm) (Steps.refl _) (a := a) (argsL := argsL) (rest := rest) (lenOf hpd hlen) hst (by show 2 * 0 + _ ≤ _; omega) (hb B.2.1 hd) (fun _ _ => ⟨has, eT, hc, hs⟩)
  dsimp only [Pt.U, Pt.locs, Pt.cells, Pt.slots] at X' l' y' z' stp hQ
  subst l' y' z'
  obtain ⟨hC, hN, hK⟩ := hQ
  obtain ⟨t, o, q, r⟩ := k v T'.heap hK hC T' _ X' (N.app fun u hu => (hN u hu).elim (fun q => hws _ q) fun q => Or.inr (Nat.le_trans (by rw [← eT]; exact B.size X) q)) rfl
  exact ⟨t, o, stp.trans q, r⟩
theorem Base.callV (B : Base p l e R s m args below meth c Z y bytes maxL ret h0 ws C) (pc' : Nat) (hp : pc' = pc + 3) (hd : decode bytes pc = .ok (.invokevirtual i, 3)) {CC : String}
    (w1 : (Cond.methodLink y.cls i z).before a0 Z = true) (w2 : (Cond.declares z).before a0 Z = true) (w5 : (Cond.selects CC z z).before a0 Z = true) (w6 : (Cond.instanceMethod z).before a0 Z = true) (w3 : (Cond.initialized z.cls).before a0 Z = true) (w4 : (Cond.code z cb cm cr).before a0 Z = true)
    (hz : z.cls ≠ "java/lang/invoke/MethodHandle" ∧ z.cls ≠ "java/lang/invoke/VarHandle") {a : Addr} (E : Exa Z h a CC) (argsL rest : List Value) (M : Met l Z z cb cm cr [] rm as h ws' C') (has : (.ref a :: argsL).toArray = as) (hst : st = argsL.reverse ++ .ref a :: rest) (hpd : parseMethodDescriptor z.desc = some ⟨ps, rt⟩) (hlen : argsL.length = ps.length) (hLs : Ls.size = maxL)
    (W : Nat) (hW : (rest.map fun v => v.category).sum = W) (hf : rm.frames + 1 ≤ R.frames) (hl : W + (cm + 11) + rm.locals ≤ R.locals) (hc : cl + rm.cells ≤ R.cells) (hs : sl + rm.slots ≤ R.slots) (hws : ∀ x ∈ ws', x ∈ ws ∨ h0.size ≤ x)
    (k : ∀ v h', Keep h h' ws' → C' v h' → B.G h' (cl + rm.cells) (sl + rm.slots) (mkF m pc' Ls (v.toList ++ rest))) : B.G h cl sl (mkF m pc Ls st) := fun T locs X N eT => by
  subst hp
  have hZ := B.2.2.2.1
  obtain ⟨cq, kq, qa, qb, qc⟩ := isOf hZ eT E
  obtain ⟨v, _, ⟨T', L', k', n'⟩, -, X', ⟨Lc, hQ, l', y', z'⟩, stp⟩ := X.virtualBack B.1 (y := z) (z := z) B.2.2.2.2.1 (mvT hZ w1) (mvT hZ w2) (notFace_of_selects (args := args) (mvT hZ w5)) (mvT hZ w5) (mvT hZ w6) hz (backOf (W := W) M hZ w4 w3 hf hl) qa qc (g := mkF m pc Ls st) rfl (hLs.trans B.2.2.1.symm) (Steps.refl _) (argsL := argsL) (rest := rest) (lenOf hpd hlen) hst (by show 2 * 0 + _ ≤ _; omega) (hb B.2.1 hd) (fun _ _ => ⟨has, eT, hc, hs⟩)
  dsimp only [Pt.U, Pt.locs, Pt.cells, Pt.slots] at X' l' y' z' stp hQ
  subst l' y' z'
  obtain ⟨hC, hN, hK⟩ := hQ
  obtain ⟨t, o, q, r⟩ := k v T'.heap hK hC T' _ X' (N.app fun u hu => (hN u hu).elim (fun q => hws _ q) fun q => Or.inr (Nat.le_trans (by rw [← eT]; exact B.size X) q)) rfl
  exact ⟨t, o, stp.trans q, r⟩
theorem Base.callVU (B : Base p l e R s m args below meth c Z y bytes maxL ret h0 ws C) (pc' : Nat) (hp : pc' = pc + 3) (hd : decode bytes pc = .ok (.invokevirtual i, 3)) {x : MethodName} {CC ow : String}
    (w1 : (Cond.methodLink y.cls i x).before a0 Z = true) (w0 : (Cond.sameMethod x.cls ow x.name x.desc).before a0 Z = true) (w2 : (Cond.declares ⟨ow, x.name, x.desc⟩).before a0 Z = true) (w5 : (Cond.selects CC x z).before a0 Z = true) (w6 : (Cond.instanceMethod z).before a0 Z = true) (w3 : (Cond.initialized z.cls).before a0 Z = true) (w4 : (Cond.code z cb cm cr).before a0 Z = true)
    (hz : ow ≠ "java/lang/invoke/MethodHandle" ∧ ow ≠ "java/lang/invoke/VarHandle") {a : Addr} (E : Exa Z h a CC) (argsL rest : List Value) (M : Met l Z z cb cm cr [] rm as h ws' C') (has : (.ref a :: argsL).toArray = as) (hst : st = argsL.reverse ++ .ref a :: rest) (hpd : parseMethodDescriptor x.desc = some ⟨ps, rt⟩) (hlen : argsL.length = ps.length) (hLs : Ls.size = maxL)
    (W : Nat) (hW : (rest.map fun v => v.category).sum = W) (hf : rm.frames + 1 ≤ R.frames) (hl : W + (cm + 11) + rm.locals ≤ R.locals) (hc : cl + rm.cells ≤ R.cells) (hs : sl + rm.slots ≤ R.slots) (hws : ∀ x ∈ ws', x ∈ ws ∨ h0.size ≤ x)
    (k : ∀ v h', Keep h h' ws' → C' v h' → B.G h' (cl + rm.cells) (sl + rm.slots) (mkF m pc' Ls (v.toList ++ rest))) : B.G h cl sl (mkF m pc Ls st) := fun T locs X N eT => by
  subst hp
  have hZ := B.2.2.2.1
  obtain ⟨cq, kq, qa, qb, qc⟩ := isOf hZ eT E
  obtain ⟨v, _, ⟨T', L', k', n'⟩, -, X', ⟨Lc, hQ, l', y', z'⟩, stp⟩ := X.virtualBackUp B.1 (x := x) (y := z) B.2.2.2.2.1 (mvT hZ w1) (mvT hZ w0) (mvT hZ w2) hz (mvT hZ w5) (mvT hZ w6) (backOf (W := W) M hZ w4 w3 hf hl) qa qc (g := mkF m pc Ls st) rfl (hLs.trans B.2.2.1.symm) (Steps.refl _) (argsL := argsL) (rest := rest) (lenOf hpd hlen) hst (by show 2 * 0 + _ ≤ _; omega) (hb B.2.1 hd) (fun _ _ => ⟨has, eT, hc, hs⟩)
  dsimp only [Pt.U, Pt.locs, Pt.cells, Pt.slots] at X' l' y' z' stp hQ
  subst l' y' z'
  obtain ⟨hC, hN, hK⟩ := hQ
  obtain ⟨t, o, q, r⟩ := k v T'.heap hK hC T' _ X' (N.app fun u hu => (hN u hu).elim (fun q => hws _ q) fun q => Or.inr (Nat.le_trans (by rw [← eT]; exact B.size X) q)) rfl
  exact ⟨t, o, stp.trans q, r⟩
theorem Base.callP (B : Base p l e R s m args below meth c Z y bytes maxL ret h0 ws C) (pc' : Nat) (hp : pc' = pc + 3) (hd : decode bytes pc = .ok (.invokevirtual i, 3)) {x : MethodName} {CC : String}
    (w1 : (Cond.methodLink y.cls i z).before a0 Z = true) (w7 : (Cond.privateMethod z).before a0 Z = true) (w6 : (Cond.instanceMethod z).before a0 Z = true) (w5 : (Cond.selects CC x x).before a0 Z = true) (hxc : x.cls = z.cls) (w3 : (Cond.initialized z.cls).before a0 Z = true) (w4 : (Cond.code z cb cm cr).before a0 Z = true)
    (hz : z.cls ≠ "java/lang/invoke/MethodHandle" ∧ z.cls ≠ "java/lang/invoke/VarHandle") {a : Addr} {CE : String} (E : Exa Z h a CE) (argsL rest : List Value) (M : Met l Z z cb cm cr [] rm as h ws' C') (has : (.ref a :: argsL).toArray = as) (hst : st = argsL.reverse ++ .ref a :: rest) (hpd : parseMethodDescriptor z.desc = some ⟨ps, rt⟩) (hlen : argsL.length = ps.length) (hLs : Ls.size = maxL)
    (W : Nat) (hW : (rest.map fun v => v.category).sum = W) (hf : rm.frames + 1 ≤ R.frames) (hl : W + (cm + 11) + rm.locals ≤ R.locals) (hc : cl + rm.cells ≤ R.cells) (hs : sl + rm.slots ≤ R.slots) (hws : ∀ x ∈ ws', x ∈ ws ∨ h0.size ≤ x)
    (k : ∀ v h', Keep h h' ws' → C' v h' → B.G h' (cl + rm.cells) (sl + rm.slots) (mkF m pc' Ls (v.toList ++ rest))) : B.G h cl sl (mkF m pc Ls st) := fun T locs X N eT => by
  subst hp
  have hZ := B.2.2.2.1
  obtain ⟨cq, q1, q2⟩ := E.cell
  have hpr : s.PrivateAt z := Cond.privateMethod_at (mvP hZ w7 (args := args))
  have hi : (Cond.instanceMethod z).before args s = true := mvT hZ w6
  have hsel : (Cond.selects z.cls z z).before args s = true := by
    obtain ⟨c2, r2, m2, -, -, q3, -, kP, hkP, hkPi⟩ := Cond.selects_spec (mvT hZ w5 (args := args))
    have hc2 := findClass_of_methodNamed q3
    rw [hxc] at hc2
    exact selects_self_of_private hc2 hkP hkPi hpr hi hz
  obtain ⟨v, _, ⟨T', L', k', n'⟩, -, X', ⟨Lc, hQ, l', y', z'⟩, stp⟩ := X.privateBack B.1 (y := z) B.2.2.2.2.1 (mvT hZ w1) hi hsel hpr (mvT hZ w4) hz (backOf (W := W) M hZ w4 w3 hf hl) (g := mkF m pc Ls st) rfl (hLs.trans B.2.2.1.symm) (Steps.refl _) (a := a) (by rw [eT]; exact q1) q2 (argsL := argsL) (rest := rest) (lenOf hpd hlen) hst (by show 2 * 0 + _ ≤ _; omega) (hb B.2.1 hd) (fun _ _ => ⟨has, eT, hc, hs⟩)
  dsimp only [Pt.U, Pt.locs, Pt.cells, Pt.slots] at X' l' y' z' stp hQ
  subst l' y' z'
  obtain ⟨hC, hN, hK⟩ := hQ
  obtain ⟨t, o, q, r⟩ := k v T'.heap hK hC T' _ X' (N.app fun u hu => (hN u hu).elim (fun q => hws _ q) fun q => Or.inr (Nat.le_trans (by rw [← eT]; exact B.size X) q)) rfl
  exact ⟨t, o, stp.trans q, r⟩
end Calls
/-- where nothing old is written, all that stood at the start stands -/
theorem Base.olds (B : Base p l e R s m args below meth c Z y bytes maxL ret h0 [] C) (k : Ext h0 h → B.G h cl sl g) : B.G h cl sl g := fun T locs X N eT => by
  refine k ?_ T locs X N eT
  have e0 := B.2.2.2.2.2.2.2.2
  have N' := N
  rw [← e0] at N'
  have q := keep_of X N'
  rw [e0, eT] at q
  exact ⟨q.1, fun a c hc => q.2.1 a c hc (by simp)⟩
end Walk
/-! 3b. arrays: 'Ary': the array at a holds just the list vs -/
def Ary (Z : State) (h : Heap) (a : Addr) (ty : FieldType) (vs : List Value) : Prop := ∃ c : Cell, Arr Z h a c ty ∧ c.slots.toList = vs
section Arrays
variable {p : Program} {l : Launch} {e : Env} {R : Room} {s : State} {m : MethodId} {args : Array Value} {below : List Frame} {meth : Method} {c : Code} {Z : State} {a0 : Array Value} {y : MethodName} {bytes : ByteArray} {maxL : Nat} {ret : Option FieldType} {h0 : Heap} {ws : List Addr} {C : Option Value → Heap → Prop}
variable {h h' : Heap} {cl sl : Nat} {g g' : JFrame} {pc : Nat} {Ls : Array Slot} {st : List Value} {a b : Addr} {ty : FieldType} {vs : List Value} {j : Int32} {i : Nat} {v w : Value} {wl : List Addr}
theorem Ary.lt (A : Ary Z h a ty vs) : a < h.size := by obtain ⟨c, A, -⟩ := A; exact A.lt
theorem Ary.ext (A : Ary Z h a ty vs) (E : Ext h h') : Ary Z h' a ty vs := by obtain ⟨c, A, r⟩ := A; exact ⟨c, A.ext E, r⟩
theorem Ary.other (A : Ary Z h b ty vs) (W : Wr h h' a i v) (q : b ≠ a) : Ary Z h' b ty vs := by obtain ⟨c, A, r⟩ := A; exact ⟨c, A.other W q, r⟩
theorem Ary.keep (A : Ary Z h a ty vs) (K : Keep h h' wl) (q : a ∉ wl) : Ary Z h' a ty vs := by obtain ⟨c, A, r⟩ := A; exact ⟨c, ⟨K.2.1 a c A.1 q, A.2⟩, r⟩
theorem Ary.set (A : Ary Z h a ty vs) (W : Wr h h' a i v) : Ary Z h' a ty (vs.set i v) := by
  obtain ⟨c, A, rfl⟩ := A
  exact ⟨_, A.same W, by simp [Cell.setSlot]⟩
theorem Ary.new {cA : ClassId} {n : Int32} (A : Arr Z h a (newA cA ty n) ty) : Ary Z h a ty (List.replicate n.toNatClampNeg (defaultValue ty)) := ⟨_, A, by simp [newA]⟩
theorem ary_in {c : Cell} (r : c.slots.toList = vs) (hj : ¬ j < 0) (hi : j.toNatClampNeg = i) (hv : vs[i]? = some v) : ¬ (j < 0 ∨ c.slots.size ≤ j.toNatClampNeg) ∧ c.slots[j.toNatClampNeg]? = some v := by
  subst r hi
  rw [Array.getElem?_toList] at hv
  exact ⟨fun q => q.elim hj fun q => absurd (Array.getElem?_eq_some_iff.mp hv).1 (Nat.not_lt.mpr q), hv⟩
theorem ary_lt {c : Cell} (r : c.slots.toList = vs) (hj : ¬ j < 0) (hi : j.toNatClampNeg = i) (hv : i < vs.length) : ¬ (j < 0 ∨ c.slots.size ≤ j.toNatClampNeg) := by
  subst r hi
  rw [Array.length_toList] at hv
  exact fun q => q.elim hj fun q => absurd hv (Nat.not_lt.mpr q)
theorem Base.arrlen (B : Base p l e R s m args below meth c Z y bytes maxL ret h0 ws C) (pc' : Nat) (hp : pc' = pc + 1) (hd : decode bytes pc = .ok (.arraylength, 1)) (A : Ary Z h a ty vs) (n : Int32) (hn : vs.length.toInt32 = n) (k : B.G h cl sl (mkF m pc' Ls (.int n :: st))) : B.G h cl sl (mkF m pc Ls (.ref a :: st)) := by
  subst hp hn
  obtain ⟨c1, A, rfl⟩ := A
  rw [Array.length_toList] at k
  exact B.viaX (fun T t L X eT r => X.arraylength (g := mkF m pc Ls (.ref a :: st)) B.1 (by rw [eT]; exact A.1) (State.isArrayOf_alike (T := s) B.2.2.2.1.alike A.2.1) rfl rfl (hb B.2.1 hd) t r) k
theorem Base.baload (B : Base p l e R s m args below meth c Z y bytes maxL ret h0 ws C) (pc' : Nat) (hp : pc' = pc + 1) (hd : decode bytes pc = .ok (.baload, 1)) (A : Ary Z h a .byte vs) (hj : ¬ j < 0) (i : Nat) (hi : j.toNatClampNeg = i) (v : Value) (hv : vs[i]? = some v) (k : B.G h cl sl (mkF m pc' Ls (v :: st))) : B.G h cl sl (mkF m pc Ls (.int j :: .ref a :: st)) := by
  subst hp
  obtain ⟨c1, A, r⟩ := A
  obtain ⟨q1, q2⟩ := ary_in r hj hi hv
  exact B.viaX (fun T t L X eT r => X.baloadBytes (g := mkF m pc Ls (.int j :: .ref a :: st)) B.1 (by rw [eT]; exact A.1) (State.isArrayOf_alike (T := s) B.2.2.2.1.alike A.2.1) A.2.2 q1 q2 rfl rfl (hb B.2.1 hd) t r) k
theorem Base.iaload (B : Base p l e R s m args below meth c Z y bytes maxL ret h0 ws C) (pc' : Nat) (hp : pc' = pc + 1) (hd : decode bytes pc = .ok (.iaload, 1)) (A : Ary Z h a .int vs) (hj : ¬ j < 0) (i : Nat) (hi : j.toNatClampNeg = i) (v : Value) (hv : vs[i]? = some v) (k : B.G h cl sl (mkF m pc' Ls (v :: st))) : B.G h cl sl (mkF m pc Ls (.int j :: .ref a :: st)) := by
  subst hp
  obtain ⟨c1, A, r⟩ := A
  obtain ⟨q1, q2⟩ := ary_in r hj hi hv
  exact B.viaX (fun T t L X eT r => X.iaload (g := mkF m pc Ls (.int j :: .ref a :: st)) B.1 (by rw [eT]; exact A.1) (State.isArrayOf_alike (T := s) B.2.2.2.1.alike A.2.1) A.2.2 q1 q2 rfl rfl (hb B.2.1 hd) t r) k
theorem Base.laload (B : Base p l e R s m args below meth c Z y bytes maxL ret h0 ws C) (pc' : Nat) (hp : pc' = pc + 1) (hd : decode bytes pc = .ok (.laload, 1)) (A : Ary Z h a .long vs) (hj : ¬ j < 0) (i : Nat) (hi : j.toNatClampNeg = i) (v : Value) (hv : vs[i]? = some v) (k : B.G h cl sl (mkF m pc' Ls (v :: st))) : B.G h cl sl (mkF m pc Ls (.int j :: .ref a :: st)) := by
  subst hp
  obtain ⟨c1, A, r⟩ := A
  obtain ⟨q1, q2⟩ := ary_in r hj hi hv
  exact B.viaX (fun T t L X eT r => X.laload (g := mkF m pc Ls (.int j :: .ref a :: st)) B.1 (by rw [eT]; exact A.1) (State.isArrayOf_alike (T := s) B.2.2.2.1.alike A.2.1) A.2.2 q1 q2 rfl rfl (hb B.2.1 hd) t r) k
theorem Base.newP (B : Base p l e R s m args below meth c Z y bytes maxL ret h0 ws C) (pc' : Nat) (hp : pc' = pc + 2) {aty : ArrayType} (hd : decode bytes pc = .ok (.newarray aty, 2)) (w : (Cond.arrayClass (newarray.typeOf aty)).before a0 Z = true) {n : Int32} (hn : ¬ n < 0) (cap : Nat) (hcap : n.toNatClampNeg ≤ cap) (hb' : cap * 8 ≤ 536870912) (hc : cl + 1 ≤ R.cells) (hs : sl + cap ≤ R.slots)
    (k : ∀ h' a, a = h.size → h0.size ≤ a → Ext h h' → Ary Z h' a (newarray.typeOf aty) (List.replicate n.toNatClampNeg (defaultValue (newarray.typeOf aty))) → B.G h' (cl + 1) (sl + cap) (mkF m pc' Ls (.ref a :: st))) : B.G h cl sl (mkF m pc Ls (.int n :: st)) := fun T locs X N eT => by
  subst hp
  obtain ⟨T', h', cA, X', e', E, A, stp⟩ := Jvm.RoadKit.newP X B.1 B.2.2.2.1 w eT (g := mkF m pc Ls (.int n :: st)) rfl (hb B.2.1 hd) rfl hn hcap hb' hc hs
  obtain ⟨t, o, q, r⟩ := k h' _ rfl (by rw [← eT]; exact B.size X) E (Ary.new A) T' locs X' N e'
  exact ⟨t, o, stp _ q, r⟩
theorem Base.bastore (B : Base p l e R s m args below meth c Z y bytes maxL ret h0 ws C) (pc' : Nat) (hp : pc' = pc + 1) (hd : decode bytes pc = .ok (.bastore, 1)) (A : Ary Z h a .byte vs) (hj : ¬ j < 0) (i : Nat) (hi : j.toNatClampNeg = i) (hlt : i < vs.length) (hw : a ∈ ws ∨ h0.size ≤ a) {x : Int32} (k : ∀ h', Wr h h' a i (.int x.toInt8.toInt32) → Ary Z h' a .byte (vs.set i (.int x.toInt8.toInt32)) → B.G h' cl sl (mkF m pc' Ls st)) : B.G h cl sl (mkF m pc Ls (.int x :: .int j :: .ref a :: st)) := fun T locs X N eT => by
  subst hp
  obtain ⟨c1, A1, r1⟩ := A
  obtain ⟨T', h', X', e', W, stp⟩ := stB X B.1 B.2.2.2.1 eT A1 (ary_lt r1 hj hi hlt) (g := mkF m pc Ls (.int x :: .int j :: .ref a :: st)) rfl rfl (hb B.2.1 hd)
  rw [hi] at W
  obtain ⟨t, o, q, r⟩ := k h' W (Ary.set ⟨c1, A1, r1⟩ W) T' _ X' (N.one hw) e'
  exact ⟨t, o, stp _ q, r⟩
theorem Base.iastore (B : Base p l e R s m args below meth c Z y bytes maxL ret h0 ws C) (pc' : Nat) (hp : pc' = pc + 1) (hd : decode bytes pc = .ok (.iastore, 1)) (A : Ary Z h a .int vs) (hj : ¬ j < 0) (i : Nat) (hi : j.toNatClampNeg = i) (hlt : i < vs.length) (hw : a ∈ ws ∨ h0.size ≤ a) {x : Int32} (k : ∀ h', Wr h h' a i (.int x) → Ary Z h' a .int (vs.set i (.int x)) → B.G h' cl sl (mkF m pc' Ls st)) : B.G h cl sl (mkF m pc Ls (.int x :: .int j :: .ref a :: st)) := fun T locs X N eT => by
  subst hp
  obtain ⟨c1, A1, r1⟩ := A
  obtain ⟨T', h', X', e', W, stp⟩ := stI X B.1 B.2.2.2.1 eT A1 (ary_lt r1 hj hi hlt) (g := mkF m pc Ls (.int x :: .int j :: .ref a :: st)) rfl rfl (hb B.2.1 hd)
  rw [hi] at W
  obtain ⟨t, o, q, r⟩ := k h' W (Ary.set ⟨c1, A1, r1⟩ W) T' _ X' (N.one hw) e'
  exact ⟨t, o, stp _ q, r⟩
theorem Base.lastore (B : Base p l e R s m args below meth c Z y bytes maxL ret h0 ws C) (pc' : Nat) (hp : pc' = pc + 1) (hd : decode bytes pc = .ok (.lastore, 1)) (A : Ary Z h a .long vs) (hj : ¬ j < 0) (i : Nat) (hi : j.toNatClampNeg = i) (hlt : i < vs.length) (hw : a ∈ ws ∨ h0.size ≤ a) {x : Int64} (k : ∀ h', Wr h h' a i (.long x) → Ary Z h' a .long (vs.set i (.long x)) → B.G h' cl sl (mkF m pc' Ls st)) : B.G h cl sl (mkF m pc Ls (.long x :: .int j :: .ref a :: st)) := fun T locs X N eT => by
  subst hp
  obtain ⟨c1, A1, r1⟩ := A
  obtain ⟨T', h', X', e', W, stp⟩ := stJ X B.1 B.2.2.2.1 eT A1 (ary_lt r1 hj hi hlt) (g := mkF m pc Ls (.long x :: .int j :: .ref a :: st)) rfl rfl (hb B.2.1 hd)
  rw [hi] at W
  obtain ⟨t, o, q, r⟩ := k h' W (Ary.set ⟨c1, A1, r1⟩ W) T' _ X' (N.one hw) e'
  exact ⟨t, o, stp _ q, r⟩
theorem Base.caload (B : Base p l e R s m args below meth c Z y bytes maxL ret h0 ws C) (pc' : Nat) (hp : pc' = pc + 1) (hd : decode bytes pc = .ok (.caload, 1)) (A : Ary Z h a .char vs) (hj : ¬ j < 0) (i : Nat) (hi : j.toNatClampNeg = i) (v : Value) (hv : vs[i]? = some v) (k : B.G h cl sl (mkF m pc' Ls (v :: st))) : B.G h cl sl (mkF m pc Ls (.int j :: .ref a :: st)) := by
  subst hp
  obtain ⟨c1, A, r⟩ := A
  obtain ⟨q1, q2⟩ := ary_in r hj hi hv
  exact B.viaX (fun T t L X eT r => X.caload (g := mkF m pc Ls (.int j :: .ref a :: st)) B.1 (by rw [eT]; exact A.1) (State.isArrayOf_alike (T := s) B.2.2.2.1.alike A.2.1) A.2.2 q1 q2 rfl rfl (hb B.2.1 hd) t r) k
theorem Base.castore (B : Base p l e R s m args below meth c Z y bytes maxL ret h0 ws C) (pc' : Nat) (hp : pc' = pc + 1) (hd : decode bytes pc = .ok (.castore, 1)) (A : Ary Z h a .char vs) (hj : ¬ j < 0) (i : Nat) (hi : j.toNatClampNeg = i) (hlt : i < vs.length) (hw : a ∈ ws ∨ h0.size ≤ a) {x : Int32} (k : ∀ h', Wr h h' a i (.int x.toUInt32.toUInt16.toUInt32.toInt32) → Ary Z h' a .char (vs.set i (.int x.toUInt32.toUInt16.toUInt32.toInt32)) → B.G h' cl sl (mkF m pc' Ls st)) : B.G h cl sl (mkF m pc Ls (.int x :: .int j :: .ref a :: st)) := fun T locs X N eT => by
  subst hp
  obtain ⟨c1, A1, r1⟩ := A
  obtain ⟨T', h', X', e', W, stp⟩ := stC X B.1 B.2.2.2.1 eT A1 (ary_lt r1 hj hi hlt) (g := mkF m pc Ls (.int x :: .int j :: .ref a :: st)) rfl rfl (hb B.2.1 hd)
  rw [hi] at W
  obtain ⟨t, o, q, r⟩ := k h' W (Ary.set ⟨c1, A1, r1⟩ W) T' _ X' (N.one hw) e'
  exact ⟨t, o, stp _ q, r⟩
theorem Base.newPE (B : Base p l e R s m args below meth c Z y bytes maxL ret h0 ws C) (pc' : Nat) (hp : pc' = pc + 2) {aty : ArrayType} (hd : decode bytes pc = .ok (.newarray aty, 2)) (w : (Cond.arrayClass (newarray.typeOf aty)).before a0 Z = true) {n : Int32} (hn : ¬ n < 0) (cap : Nat) (hcap : n.toNatClampNeg ≤ cap) (hb' : cap * 8 ≤ 536870912) (hc : cl + 1 ≤ R.cells) (hs : sl + cap ≤ R.slots) (ad : String) (had : "[" ++ (newarray.typeOf aty).toString = ad)
    (k : ∀ h' a, a = h.size → h0.size ≤ a → Ext h h' → Ary Z h' a (newarray.typeOf aty) (List.replicate n.toNatClampNeg (defaultValue (newarray.typeOf aty))) → Exa Z h' a ad → B.G h' (cl + 1) (sl + cap) (mkF m pc' Ls (.ref a :: st))) : B.G h cl sl (mkF m pc Ls (.int n :: st)) := fun T locs X N eT => by
  subst hp
  obtain ⟨T', h', cA, X', e', E, A, A2, stp⟩ := Jvm.RoadKit.newPE X B.1 B.2.2.2.1 w eT (g := mkF m pc Ls (.int n :: st)) rfl (hb B.2.1 hd) rfl hn hcap hb' hc hs had
  obtain ⟨t, o, q, r⟩ := k h' _ rfl (by rw [← eT]; exact B.size X) E (Ary.new A) A2 T' locs X' N e'
  exact ⟨t, o, stp _ q, r⟩
theorem Base.clone (B : Base p l e R s m args below meth c Z y bytes maxL ret h0 ws C) (pc' : Nat) (hp : pc' = pc + 3) {ix : Nat} {ad : String} (hd : decode bytes pc = .ok (.invokevirtual ix, 3))
    (w1 : (Cond.methodLink y.cls ix ⟨ad, "clone", "()Ljava/lang/Object;"⟩).before a0 Z = true) (w2 : (Cond.sameMethod ad "java/lang/Object" "clone" "()Ljava/lang/Object;").before a0 Z = true) (w3 : (Cond.native ⟨"java/lang/Object", "clone", "()Ljava/lang/Object;"⟩).before a0 Z = true)
    (w4 : (Cond.instanceMethod ⟨"java/lang/Object", "clone", "()Ljava/lang/Object;"⟩).before a0 Z = true) (w5 : (Cond.selects ad ⟨ad, "clone", "()Ljava/lang/Object;"⟩ ⟨"java/lang/Object", "clone", "()Ljava/lang/Object;"⟩).before a0 Z = true) (w6 : (Cond.castable ad "java/lang/Cloneable").before a0 Z = true)
    (A : Ary Z h a ty vs) (E : Exa Z h a ad) (hfit : ∀ v ∈ vs, fits ty v = true) (hLs : Ls.size = maxL) (W : Nat) (hW : (st.map fun v => v.category).sum = W) (hf : 1 ≤ R.frames) (hl : W + 14 ≤ R.locals) (cap : Nat) (hcap : vs.length ≤ cap) (hc : cl + 1 ≤ R.cells) (hs : sl + cap ≤ R.slots)
    (k : ∀ h' b, b = h.size → h0.size ≤ b → Ext h h' → Ary Z h' b ty vs → Exa Z h' b ad → B.G h' (cl + 1) (sl + cap) (mkF m pc' Ls (.ref b :: st))) : B.G h cl sl (mkF m pc Ls (.ref a :: st)) := fun T locs X N eT => by
  subst hp
  obtain ⟨c1, A1, r1⟩ := A
  have FC : FitC Z c1 := fitC_of A1 fun i hi v hv => hfit v (by rw [← r1]; exact Array.mem_toList_iff.mpr (Array.mem_of_getElem? hv))
  obtain ⟨T', h', X', e', ex, A', E', stp⟩ := cloneA X B.1 B.2.2.2.1 B.2.2.2.2.1 w1 w2 w3 w4 w5 w6 eT A1 E FC (g := mkF m pc Ls (.ref a :: st)) rfl (hLs.trans B.2.2.1.symm) rfl (hb B.2.1 hd) hf (W := W) (cap := cap) (by show 2 * 0 + _ ≤ _; omega) hl (by rw [← r1, Array.length_toList] at hcap; exact hcap) hc hs
  obtain ⟨t, o, q, r⟩ := k h' _ rfl (by rw [← eT]; exact B.size X) ex ⟨_, A', r1⟩ E' T' locs X' N e'
  exact ⟨t, o, stp _ q, r⟩
theorem Base.castY (B : Base p l e R s m args below meth c Z y bytes maxL ret h0 ws C) (pc' : Nat) (hp : pc' = pc + 3) {ix : Nat} {K : String} (hd : decode bytes pc = .ok (.checkcast ix, 3)) (w : (Cond.classLink y.cls ix K).before a0 Z = true) (F : Ins Z h a K true) (k : B.G h cl sl (mkF m pc' Ls (.ref a :: st))) : B.G h cl sl (mkF m pc Ls (.ref a :: st)) := fun T locs X N eT => by
  subst hp
  obtain ⟨T', X', e', stp⟩ := Jvm.RoadKit.castY X B.1 B.2.2.2.1 B.2.2.2.2.1 w eT F (g := mkF m pc Ls (.ref a :: st)) rfl rfl (hb B.2.1 hd)
  obtain ⟨t, o, q, r⟩ := k T' locs X' N e'
  exact ⟨t, o, stp _ q, r⟩
theorem Base.instY (B : Base p l e R s m args below meth c Z y bytes maxL ret h0 ws C) (pc' : Nat) (hp : pc' = pc + 3) {ix : Nat} {K : String} (hd : decode bytes pc = .ok (.instanceof ix, 3)) (w : (Cond.classLink y.cls ix K).before a0 Z = true) (F : Ins Z h a K true) (k : B.G h cl sl (mkF m pc' Ls (.int 1 :: st))) : B.G h cl sl (mkF m pc Ls (.ref a :: st)) := fun T locs X N eT => by
  subst hp
  obtain ⟨T', X', e', stp⟩ := Jvm.RoadKit.instY X B.1 B.2.2.2.1 B.2.2.2.2.1 w eT F (g := mkF m pc Ls (.ref a :: st)) rfl rfl (hb B.2.1 hd)
  obtain ⟨t, o, q, r⟩ := k T' locs X' N e'
  exact ⟨t, o, stp _ q, r⟩
theorem Base.instN (B : Base p l e R s m args below meth c Z y bytes maxL ret h0 ws C) (pc' : Nat) (hp : pc' = pc + 3) {ix : Nat} {K CC : String} (hd : decode bytes pc = .ok (.instanceof ix, 3)) (w : (Cond.classLink y.cls ix K).before a0 Z = true) (E : Exa Z h a CC) (F : ∃ c t, Z.vm.findClass CC = some c ∧ Z.vm.findClass K = some t ∧ Z.vm.assignable c t = false) (k : B.G h cl sl (mkF m pc' Ls (.int 0 :: st))) : B.G h cl sl (mkF m pc Ls (.ref a :: st)) := fun T locs X N eT => by
  subst hp
  obtain ⟨T', X', e', stp⟩ := instNo X B.1 B.2.2.2.1 B.2.2.2.2.1 w eT E F (g := mkF m pc Ls (.ref a :: st)) rfl rfl (hb B.2.1 hd)
  obtain ⟨t, o, q, r⟩ := k T' locs X' N e'
  exact ⟨t, o, stp _ q, r⟩
theorem Base.inst0 (B : Base p l e R s m args below meth c Z y bytes maxL ret h0 ws C) (pc' : Nat) (hp : pc' = pc + 3) {ix : Nat} (hd : decode bytes pc = .ok (.instanceof ix, 3)) (k : B.G h cl sl (mkF m pc' Ls (.int 0 :: st))) : B.G h cl sl (mkF m pc Ls (.null :: st)) := by
  subst hp
  exact B.viaX (fun T t L X eT r => X.instanceofNull B.1 (g := mkF m pc Ls (.null :: st)) rfl rfl (hb B.2.1 hd) t r) k
theorem Base.aaload (B : Base p l e R s m args below meth c Z y bytes maxL ret h0 ws C) (pc' : Nat) (hp : pc' = pc + 1) (hd : decode bytes pc = .ok (.aaload, 1)) (A : Ary Z h a ty vs) (hty : ty.isReference = true) (hj : ¬ j < 0) (i : Nat) (hi : j.toNatClampNeg = i) (v : Value) (hv : vs[i]? = some v) (k : B.G h cl sl (mkF m pc' Ls (v :: st))) : B.G h cl sl (mkF m pc Ls (.int j :: .ref a :: st)) := by
  subst hp
  obtain ⟨c1, A, r⟩ := A
  obtain ⟨q1, q2⟩ := ary_in r hj hi hv
  exact B.viaX (fun T t L X eT r => X.aaload (g := mkF m pc Ls (.int j :: .ref a :: st)) B.1 (by rw [eT]; exact A.1) (State.isArrayOf_alike (T := s) B.2.2.2.1.alike A.2.1) hty A.2.2 q1 q2 rfl rfl (hb B.2.1 hd) t r) k
theorem ns_root {O K : String} {n : Nat} (w : (Cond.noSuperclass O).before a0 Z = true) (wk : (Cond.instantiable K n).before a0 Z = true) (hn : O ≠ K) : NS Z O K := by
  obtain ⟨c, k, h1, h2, h3, -, -⟩ := Cond.noSuperclass_spec w
  obtain ⟨t, -, g1, -⟩ := Cond.instantiable_spec wk
  have ne := ids_ne h1 g1 hn
  refine ⟨c, t, h1, g1, fun fuel => ?_⟩
  cases fuel with
  | zero => rfl
  | succ f => simp [Vm.isSubclassAux, ne, h2, h3]
theorem ns_no {CC K : String} {n n' : Nat} (w : (Cond.instantiable CC n').before a0 Z = true) (wk : (Cond.instantiable K n).before a0 Z = true) (q : NS Z CC K) (hn : CC ≠ K) : ∃ c t, Z.vm.findClass CC = some c ∧ Z.vm.findClass K = some t ∧ Z.vm.assignable c t = false := by
  obtain ⟨c, t, h0, g0, n3⟩ := q
  obtain ⟨c1, k, h1, h2, h5, -⟩ := Cond.instantiable_spec w
  obtain ⟨t1, k', g1, g2, g5, g7, -⟩ := Cond.instantiable_spec wk
  cases h0.symm.trans h1
  cases g0.symm.trans g1
  have ne := ids_ne h0 g0 hn
  have g8 : k'.isInterface = false := by simp only [Bool.or_eq_false_iff] at g7; exact g7.1
  refine ⟨c, t, h0, g0, ?_⟩
  show Z.vm.assignableAux (255 + 1) c t = false
  simp [Vm.assignableAux, ne, h2, g2, h5, g5, g8, Vm.isSubclass, n3]
end Arrays
/-! 5. the words -/
theorem wd {L : List Jvm.Cond} {a0 : Array Value} {Z : State} (hw : ∀ d ∈ L, d.before a0 Z = true) (i : Nat) {d : Jvm.Cond} (q : L[i]? = some d) : d.before a0 Z = true := hw d (List.mem_of_getElem? q)
/-! 6. from the words of a case -/
theorem fld_start {args : Array Value} {s : State} {t : Term} {a : Addr} {O n d : String} {z : Int32} (ht : t.eval args s none [] s = some (.ref a)) (q : (Cond.eq (.field t O n d) (.int z)).value args s none s [] = some true) : Fld s s.heap a O n d (.int z) :=
  Fld.start ((fld_at ht).symm.trans (eqv_i rfl q))
theorem eval_int {args : Array Value} {s : State} {u w : Term} {z : Int32} (q : (Cond.eq u w).value args s none s [] = some true) (hw : w.eval args s none [] s = some (.int z)) : u.eval args s none [] s = some (.int z) := by
  cases hv : u.eval args s none [] s with
  | none => simp [Cond.value, hv] at q
  | some v =>
    cases v <;> simp [Cond.value, hv, hw] at q
    subst q; rfl
theorem eval_ref {args : Array Value} {s : State} {u w : Term} {z : Addr} (q : (Cond.eq u w).value args s none s [] = some true) (hw : w.eval args s none [] s = some (.ref z)) : u.eval args s none [] s = some (.ref z) := by
  cases hv : u.eval args s none [] s with
  | none => simp [Cond.value, hv] at q
  | some v =>
    cases v <;> simp [Cond.value, hv, hw] at q
    subst q; rfl
/-- an array of the start, of known length and places -/
theorem ary_start {args : Array Value} {s : State} {t : Term} {a : Addr} {ty : FieldType} {vs : List Value} {n : Int32} (ht : t.eval args s none [] s = some (.ref a)) (hA : (Cond.arrayOf t ty).value args s none s [] = some true)
    (hl : (Cond.eq (.length t) (.int n)).value args s none s [] = some true) (hn : n.toNatClampNeg = vs.length) (hn0 : ¬ n < 0) (he : ∀ i, i < vs.length → ∃ v, vs[i]? = some v ∧ (Term.elem t (.int (Int32.ofNat i))).eval args s none [] s = some v) : Ary s s.heap a ty vs := by
  obtain ⟨c, A⟩ := Arr.start ht hA
  have e1 := eval_int hl rfl
  simp only [Term.eval, ht, Option.bind_eq_bind, Option.bind_some] at e1
  have hat : s.arrayAt? a = some c := A.fin (Vm.Alike.refl _)
  rw [hat] at e1
  simp only [Option.bind_some] at e1
  split at e1
  · rename_i hs
    simp only [Option.pure_def, Option.some.injEq, Value.int.injEq] at e1
    have hsz : c.slots.size = vs.length := by
      rw [← hn, ← e1]
      have := len_toInt hs
      simp only [Int32.toNatClampNeg, this]; omega
    refine ⟨c, A, ?_⟩
    apply List.ext_getElem?
    intro i
    by_cases hi : i < vs.length
    · obtain ⟨v, q1, q2⟩ := he i hi
      obtain ⟨cell, r1, -, r3⟩ := elem_at q2 ht rfl
      cases A.1.symm.trans r1
      have : (Int32.ofNat i).toNatClampNeg = i := by
        have := Int32.toInt_ofNat_small (show i < 2 ^ 31 by omega)
        simp only [Int32.toNatClampNeg, this]; omega
      rw [this] at r3
      rw [q1, Array.getElem?_toList]; exact r3
    · rw [List.getElem?_eq_none (by rw [Array.length_toList, hsz]; omega), List.getElem?_eq_none (by omega)]
  · simp at e1
end Jvm.Own
namespace Jvm.Pilot.@@N@@
open Jvm Jvm.ClassFile Sem Op Lib Jvm.Free Jvm.Stand Jvm.LawKit Jvm.RoadKit Jvm.Own Bundle Jvm.Pilot.@@N@@.Jvm.D
theorem pd__C_Ljava_lang_String_ : parseMethodDescriptor "(C)Ljava/lang/String;" = some ⟨[.char], some (.object "java/lang/String")⟩ := by decide +kernel
theorem pd__C_Z : parseMethodDescriptor "(C)Z" = some ⟨[.char], some .boolean⟩ := by decide +kernel
theorem pd__C__B : parseMethodDescriptor "(C)[B" = some ⟨[.char], some (.array .byte)⟩ := by decide +kernel
theorem pd__Ljava_lang_Object__Z : parseMethodDescriptor "(Ljava/lang/Object;)Z" = some ⟨[(.object "java/lang/Object")], some .boolean⟩ := by decide +kernel
theorem pd__Ljava_util_List__BLjava_lang_String_Ljava_lang_String__V : parseMethodDescriptor "(Ljava/util/List;[BLjava/lang/String;Ljava/lang/String;)V" = some ⟨[(.object "java/util/List"), (.array .byte), (.object "java/lang/String"), (.object "java/lang/String")], none⟩ := by decide +kernel
theorem pd___BB_V : parseMethodDescriptor "([BB)V" = some ⟨[(.array .byte), .byte], none⟩ := by decide +kernel
theorem pd___BI_B : parseMethodDescriptor "([BI)B" = some ⟨[(.array .byte), .int], some .byte⟩ := by decide +kernel
theorem pd___BLjava_lang_String_Ljava_lang_String__Lcom_example_siegelwerk_siegelwerk_DataObject_ : parseMethodDescriptor "([BLjava/lang/String;Ljava/lang/String;)Lcom/example/siegelwerk/siegelwerk/DataObject;" = some ⟨[(.array .byte), (.object "java/lang/String"), (.object "java/lang/String")], some (.object "com/example/siegelwerk/siegelwerk/DataObject")⟩ := by decide +kernel
theorem pd___CIILjava_lang_Void__V : parseMethodDescriptor "([CIILjava/lang/Void;)V" = some ⟨[(.array .char), .int, .int, (.object "java/lang/Void")], none⟩ := by decide +kernel
theorem pd___CII__B : parseMethodDescriptor "([CII)[B" = some ⟨[(.array .char), .int, .int], some (.array .byte)⟩ := by decide +kernel
theorem pd___CI_BII_I : parseMethodDescriptor "([CI[BII)I" = some ⟨[(.array .char), .int, (.array .byte), .int, .int], some .int⟩ := by decide +kernel
theorem pd___C_V : parseMethodDescriptor "([C)V" = some ⟨[(.array .char)], none⟩ := by decide +kernel
theorem pd___Ljava_lang_String_ : parseMethodDescriptor "()Ljava/lang/String;" = some ⟨[], some (.object "java/lang/String")⟩ := by decide +kernel
theorem pd___Ljava_util_List_ : parseMethodDescriptor "()Ljava/util/List;" = some ⟨[], some (.object "java/util/List")⟩ := by decide +kernel
theorem pd___V : parseMethodDescriptor "()V" = some ⟨[], none⟩ := by decide +kernel
theorem pd___Z : parseMethodDescriptor "()Z" = some ⟨[], some .boolean⟩ := by decide +kernel
theorem pd____B : parseMethodDescriptor "()[B" = some ⟨[], some (.array .byte)⟩ := by decide +kernel
theorem own_c (x : Int32) : ¬ (255 : Int32) < x &&& 255 := by
  have h : (x &&& 255).toInt = x.toInt % 2 ^ 8 := Jvm.Kit.i32_mask x 255 (k := 8) (by decide) (by decide)
  rw [Int32.lt_iff_toInt_lt, h]; simp only [Int32.reduceToInt]; omega
theorem own_b (x : Int32) : x.toInt8.toInt32.toInt8.toInt32 = x.toInt8.toInt32 := by simp
theorem own_fb (x : Int32) : fits .byte (.int x.toInt8.toInt32) = true := fits_nar_byte x
theorem d5_0 : decode jdk_52_method_21_code 0 = .ok (.iconst 0, 1) := by decide +kernel
theorem d5_1 : decode jdk_52_method_21_code 1 = .ok (.istore 5, 2) := by decide +kernel
theorem d5_3 : decode jdk_52_method_21_code 3 = .ok (.iload 5, 2) := by decide +kernel
theorem d5_5 : decode jdk_52_method_21_code 5 = .ok (.iload 4, 2) := by decide +kernel
theorem d5_7 : decode jdk_52_method_21_code 7 = .ok (.if_icmp .ge 37, 3) := by decide +kernel
theorem d5_10 : decode jdk_52_method_21_code 10 = .ok (.aload_n 0, 1) := by decide +kernel
theorem d5_11 : decode jdk_52_method_21_code 11 = .ok (.iload_n 1, 1) := by decide +kernel
theorem d5_12 : decode jdk_52_method_21_code 12 = .ok (.caload, 1) := by decide +kernel
theorem d5_13 : decode jdk_52_method_21_code 13 = .ok (.istore 6, 2) := by decide +kernel
theorem d5_15 : decode jdk_52_method_21_code 15 = .ok (.iload 6, 2) := by decide +kernel
theorem d5_17 : decode jdk_52_method_21_code 17 = .ok (.sipush 255, 3) := by decide +kernel
theorem d5_20 : decode jdk_52_method_21_code 20 = .ok (.if_icmp .le 6, 3) := by decide +kernel
theorem d5_26 : decode jdk_52_method_21_code 26 = .ok (.aload_n 2, 1) := by decide +kernel
theorem d5_27 : decode jdk_52_method_21_code 27 = .ok (.iload_n 3, 1) := by decide +kernel
theorem d5_28 : decode jdk_52_method_21_code 28 = .ok (.iload 6, 2) := by decide +kernel
theorem d5_30 : decode jdk_52_method_21_code 30 = .ok (.i2b, 1) := by decide +kernel
theorem d5_31 : decode jdk_52_method_21_code 31 = .ok (.bastore, 1) := by decide +kernel
theorem d5_32 : decode jdk_52_method_21_code 32 = .ok (.iinc 1 1, 3) := by decide +kernel
theorem d5_35 : decode jdk_52_method_21_code 35 = .ok (.iinc 3 1, 3) := by decide +kernel
theorem d5_38 : decode jdk_52_method_21_code 38 = .ok (.iinc 5 1, 3) := by decide +kernel
theorem d5_41 : decode jdk_52_method_21_code 41 = .ok (.goto (-38), 3) := by decide +kernel
theorem d5_44 : decode jdk_52_method_21_code 44 = .ok (.iload 4, 2) := by decide +kernel
theorem d5_46 : decode jdk_52_method_21_code 46 = .ok (.ireturn, 1) := by decide +kernel
theorem pn_5 : plainFor (⟨"java/lang/StringUTF16", "compress", "([CI[BII)I"⟩ : MethodName) = true := by first | exact plainFor_of_name (by first | (simp [plainName, overriddenIn]; done) | decide +kernel) | decide +kernel
set_option maxRecDepth 65536 in
set_option maxHeartbeats 4000000 in
theorem rm_cp2 (l : Launch) (Z : State) (a0 : Array Value) (hw : ∀ d ∈ tables_1, d.before a0 Z = true) (ca vb : Addr) (x0 x1 : Int32) (h0 : Heap) (hx0 : ¬ (255 : Int32) < x0) (hx1 : ¬ (255 : Int32) < x1) (ne : ca ≠ vb) (A_ca : Ary Z h0 ca .char [(.int x0), (.int x1)]) (A_vb : Ary Z h0 vb .byte [(.int (0 : Int32)), (.int (0 : Int32))]) :
    Met l Z (⟨"java/lang/StringUTF16", "compress", "([CI[BII)I"⟩ : MethodName) jdk_52_method_21_code 7 (some .int) [] ({ frames := 0, cells := 0, slots := 0, locals := 0 } : Room) #[(.ref ca), (.int (0 : Int32)), (.ref vb), (.int (0 : Int32)), (.int (2 : Int32))] h0 [vb] (fun v h => v = some (.int (2 : Int32)) ∧ Ary Z h vb .byte [(.int ((x0.toInt8.toInt32).toInt8.toInt32)), (.int ((x1.toInt8.toInt32).toInt8.toInt32))]) := by
  refine Met.walk pn_5 (Ls := #[.val (.ref ca), .val (.int (0 : Int32)), .val (.ref vb), .val (.int (0 : Int32)), .val (.int (2 : Int32)), .unset, .unset]) (fun m => by first | (simp [entryFrame, mkF, argsToLocals, Value.category, maxLocals]; done) | rfl) ?_
  intro p e s m below meth c B
  refine B.iconst 1 rfl (0 : Int32) d5_0 rfl ?_
  refine B.istore 3 rfl d5_1 #[.val (.ref ca), .val (.int (0 : Int32)), .val (.ref vb), .val (.int (0 : Int32)), .val (.int (2 : Int32)), .val (.int (0 : Int32)), .unset] rfl ?_
  refine B.iload 5 rfl d5_3 rfl ?_
  refine B.iload 7 rfl d5_5 rfl ?_
  refine B.icmp_ge 44 10 rfl (by decide) rfl d5_7 (fun c7 => ?_) (fun c7 => ?_)
  · exact absurd c7 (by decide)
  · refine B.aloadN 11 rfl d5_10 rfl rfl ?_
    refine B.iloadN 12 rfl d5_11 rfl ?_
    refine B.caload 13 rfl d5_12 A_ca (by decide) 0 rfl (.int x0) rfl ?_
    refine B.istore 15 rfl d5_13 #[.val (.ref ca), .val (.int (0 : Int32)), .val (.ref vb), .val (.int (0 : Int32)), .val (.int (2 : Int32)), .val (.int (0 : Int32)), .val (.int x0)] rfl ?_
    refine B.iload 17 rfl d5_15 rfl ?_
    refine B.sipush 20 rfl (255 : Int32) d5_17 rfl ?_
    refine B.icmp_le 26 23 rfl (by decide) rfl d5_20 (fun c20 => ?_) (fun c20 => ?_)
    · refine B.aloadN 27 rfl d5_26 rfl rfl ?_
      refine B.iloadN 28 rfl d5_27 rfl ?_
      refine B.iload 30 rfl d5_28 rfl ?_
      refine B.i2b 31 rfl d5_30 ?_
      refine B.bastore 32 rfl d5_31 A_vb (by decide) 0 rfl (by simp) (Or.inl (by simp)) ?_
      intro hs1 Ws1 As1
      replace As1 : Ary Z hs1 vb .byte [(.int ((x0.toInt8.toInt32).toInt8.toInt32)), (.int (0 : Int32))] := As1
      have A_ca_1 := A_ca.other Ws1 ne
      refine B.iinc 35 rfl (1 : Int32) d5_32 rfl rfl #[.val (.ref ca), .val (.int (1 : Int32)), .val (.ref vb), .val (.int (0 : Int32)), .val (.int (2 : Int32)), .val (.int (0 : Int32)), .val (.int x0)] rfl ?_
      refine B.iinc 38 rfl (1 : Int32) d5_35 rfl rfl #[.val (.ref ca), .val (.int (1 : Int32)), .val (.ref vb), .val (.int (1 : Int32)), .val (.int (2 : Int32)), .val (.int (0 : Int32)), .val (.int x0)] rfl ?_
      refine B.iinc 41 rfl (1 : Int32) d5_38 rfl rfl #[.val (.ref ca), .val (.int (1 : Int32)), .val (.ref vb), .val (.int (1 : Int32)), .val (.int (2 : Int32)), .val (.int (1 : Int32)), .val (.int x0)] rfl ?_
      refine B.goto 3 rfl (by decide) d5_41 ?_
      refine B.iload 5 rfl d5_3 rfl ?_
      refine B.iload 7 rfl d5_5 rfl ?_
      refine B.icmp_ge 44 10 rfl (by decide) rfl d5_7 (fun c7_1 => ?_) (fun c7_1 => ?_)
      · exact absurd c7_1 (by decide)
      · refine B.aloadN 11 rfl d5_10 rfl rfl ?_
        refine B.iloadN 12 rfl d5_11 rfl ?_
        refine B.caload 13 rfl d5_12 A_ca_1 (by decide) 1 rfl (.int x1) rfl ?_
        refine B.istore 15 rfl d5_13 #[.val (.ref ca), .val (.int (1 : Int32)), .val (.ref vb), .val (.int (1 : Int32)), .val (.int (2 : Int32)), .val (.int (1 : Int32)), .val (.int x1)] rfl ?_
        refine B.iload 17 rfl d5_15 rfl ?_
        refine B.sipush 20 rfl (255 : Int32) d5_17 rfl ?_
        refine B.icmp_le 26 23 rfl (by decide) rfl d5_20 (fun c20_1 => ?_) (fun c20_1 => ?_)
        · refine B.aloadN 27 rfl d5_26 rfl rfl ?_
          refine B.iloadN 28 rfl d5_27 rfl ?_
          refine B.iload 30 rfl d5_28 rfl ?_
          refine B.i2b 31 rfl d5_30 ?_
          refine B.bastore 32 rfl d5_31 As1 (by decide) 1 rfl (by simp) (Or.inl (by simp)) ?_
          intro hs2 Ws2 As2
          replace As2 : Ary Z hs2 vb .byte [(.int ((x0.toInt8.toInt32).toInt8.toInt32)), (.int ((x1.toInt8.toInt32).toInt8.toInt32))] := As2
          have A_ca_2 := A_ca_1.other Ws2 ne
          refine B.iinc 35 rfl (1 : Int32) d5_32 rfl rfl #[.val (.ref ca), .val (.int (2 : Int32)), .val (.ref vb), .val (.int (1 : Int32)), .val (.int (2 : Int32)), .val (.int (1 : Int32)), .val (.int x1)] rfl ?_
          refine B.iinc 38 rfl (1 : Int32) d5_35 rfl rfl #[.val (.ref ca), .val (.int (2 : Int32)), .val (.ref vb), .val (.int (2 : Int32)), .val (.int (2 : Int32)), .val (.int (1 : Int32)), .val (.int x1)] rfl ?_
          refine B.iinc 41 rfl (1 : Int32) d5_38 rfl rfl #[.val (.ref ca), .val (.int (2 : Int32)), .val (.ref vb), .val (.int (2 : Int32)), .val (.int (2 : Int32)), .val (.int (2 : Int32)), .val (.int x1)] rfl ?_
          refine B.goto 3 rfl (by decide) d5_41 ?_
          refine B.iload 5 rfl d5_3 rfl ?_
          refine B.iload 7 rfl d5_5 rfl ?_
          refine B.icmp_ge 44 10 rfl (by decide) rfl d5_7 (fun c7_2 => ?_) (fun c7_2 => ?_)
          · refine B.iload 46 rfl d5_44 rfl ?_
            refine B.retI d5_46 (by decide) (by decide) ?_
            exact ⟨rfl, As2⟩
          · exact absurd c7_2 (by decide)
        · exact absurd c20_1 (by assumption)
    · exact absurd c20 (by assumption)
theorem d4_0 : decode jdk_52_method_16_code 0 = .ok (.iload_n 2, 1) := by decide +kernel
theorem d4_1 : decode jdk_52_method_16_code 1 = .ok (.newarray .byte, 2) := by decide +kernel
theorem d4_3 : decode jdk_52_method_16_code 3 = .ok (.astore_n 3, 1) := by decide +kernel
theorem d4_4 : decode jdk_52_method_16_code 4 = .ok (.aload_n 0, 1) := by decide +kernel
theorem d4_5 : decode jdk_52_method_16_code 5 = .ok (.iload_n 1, 1) := by decide +kernel
theorem d4_6 : decode jdk_52_method_16_code 6 = .ok (.aload_n 3, 1) := by decide +kernel
theorem d4_7 : decode jdk_52_method_16_code 7 = .ok (.iconst 0, 1) := by decide +kernel
theorem d4_8 : decode jdk_52_method_16_code 8 = .ok (.iload_n 2, 1) := by decide +kernel
theorem d4_9 : decode jdk_52_method_16_code 9 = .ok (.invokestatic 115, 3) := by decide +kernel
theorem d4_12 : decode jdk_52_method_16_code 12 = .ok (.istore 4, 2) := by decide +kernel
theorem d4_14 : decode jdk_52_method_16_code 14 = .ok (.iload 4, 2) := by decide +kernel
theorem d4_16 : decode jdk_52_method_16_code 16 = .ok (.iload_n 2, 1) := by decide +kernel
theorem d4_17 : decode jdk_52_method_16_code 17 = .ok (.if_icmp .eq 40, 3) := by decide +kernel
theorem d4_57 : decode jdk_52_method_16_code 57 = .ok (.aload_n 3, 1) := by decide +kernel
theorem d4_58 : decode jdk_52_method_16_code 58 = .ok (.areturn, 1) := by decide +kernel
theorem pn_4 : plainFor (⟨"java/lang/StringUTF16", "compress", "([CII)[B"⟩ : MethodName) = true := by first | exact plainFor_of_name (by first | (simp [plainName, overriddenIn]; done) | decide +kernel) | decide +kernel
set_option maxRecDepth 65536 in
set_option maxHeartbeats 4000000 in
theorem rm_cb2 (l : Launch) (Z : State) (a0 : Array Value) (hw : ∀ d ∈ tables_1, d.before a0 Z = true) (ca : Addr) (x0 x1 : Int32) (h0 : Heap) (hx0 : ¬ (255 : Int32) < x0) (hx1 : ¬ (255 : Int32) < x1) (A_ca : Ary Z h0 ca .char [(.int x0), (.int x1)]) :
    Met l Z (⟨"java/lang/StringUTF16", "compress", "([CII)[B"⟩ : MethodName) jdk_52_method_16_code 6 (some (.array .byte)) [] ({ frames := 1, cells := 1, slots := 2, locals := 18 } : Room) #[(.ref ca), (.int (0 : Int32)), (.int (2 : Int32))] h0 [] (fun v h => ∃ vb, v = some (.ref vb) ∧ h0.size ≤ vb ∧ Ary Z h vb .byte [(.int ((x0.toInt8.toInt32).toInt8.toInt32)), (.int ((x1.toInt8.toInt32).toInt8.toInt32))]) := by
  refine Met.walk pn_4 (Ls := #[.val (.ref ca), .val (.int (0 : Int32)), .val (.int (2 : Int32)), .unset, .unset, .unset]) (fun m => by first | (simp [entryFrame, mkF, argsToLocals, Value.category, maxLocals]; done) | rfl) ?_
  intro p e s m below meth c B
  refine B.iloadN 1 rfl d4_0 rfl ?_
  refine B.newP 3 rfl d4_1 (wd hw 0 rfl) (by decide) 2 (by decide) (by decide) (by decide) (by decide) ?_
  intro h_vb vb e_vb g_vb X_vb A_vb
  replace A_vb : Ary Z h_vb vb .byte [(.int (0 : Int32)), (.int (0 : Int32))] := A_vb
  show B.G h_vb 1 2 (mkF m 3 #[.val (.ref ca), .val (.int (0 : Int32)), .val (.int (2 : Int32)), .unset, .unset, .unset] [(.ref vb)])
  have n_ca_vb : ca ≠ vb := fun q => absurd A_ca.lt (by rw [q, e_vb]; exact Nat.lt_irrefl _)
  have A_ca_1 := A_ca.ext X_vb
  refine B.astoreN 4 rfl d4_3 rfl #[.val (.ref ca), .val (.int (0 : Int32)), .val (.int (2 : Int32)), .val (.ref vb), .unset, .unset] rfl ?_
  refine B.aloadN 5 rfl d4_4 rfl rfl ?_
  refine B.iloadN 6 rfl d4_5 rfl ?_
  refine B.aloadN 7 rfl d4_6 rfl rfl ?_
  refine B.iconst 8 rfl (0 : Int32) d4_7 rfl ?_
  refine B.iloadN 9 rfl d4_8 rfl ?_
  refine B.callS 12 rfl d4_9 (wd hw 20 rfl) (wd hw 21 rfl) (wd hw 18 rfl) (wd hw 22 rfl) (by decide) [(.ref ca), (.int (0 : Int32)), (.ref vb), (.int (0 : Int32)), (.int (2 : Int32))] [] (rm_cp2 l Z a0 hw ca vb x0 x1 h_vb hx0 hx1 n_ca_vb A_ca_1 A_vb) rfl rfl pd___CI_BII_I rfl rfl 0 rfl (by decide) (by decide) (by decide) (by decide) (fun x z => Or.inr (by cases List.mem_singleton.mp z; exact g_vb)) ?_
  rintro _ h2 K2 ⟨rfl, A2⟩
  show B.G h2 1 2 (mkF m 12 #[.val (.ref ca), .val (.int (0 : Int32)), .val (.int (2 : Int32)), .val (.ref vb), .unset, .unset] [(.int (2 : Int32))])
  refine B.istore 14 rfl d4_12 #[.val (.ref ca), .val (.int (0 : Int32)), .val (.int (2 : Int32)), .val (.ref vb), .val (.int (2 : Int32)), .unset] rfl ?_
  refine B.iload 16 rfl d4_14 rfl ?_
  refine B.iloadN 17 rfl d4_16 rfl ?_
  refine B.icmp_eq 57 20 rfl (by decide) rfl d4_17 (fun c17 => ?_) (fun c17 => ?_)
  · refine B.aloadN 58 rfl d4_57 rfl rfl ?_
    refine B.retA rfl rfl d4_58 (by decide) (by decide) ?_
    exact ⟨vb, rfl, g_vb, A2⟩
  · exact absurd c17 (by decide)
theorem d6_0 : decode jdk_52_method_15_code 0 = .ok (.iload_n 1, 1) := by decide +kernel
theorem d6_1 : decode jdk_52_method_15_code 1 = .ok (.aload_n 0, 1) := by decide +kernel
theorem d6_2 : decode jdk_52_method_15_code 2 = .ok (.arraylength, 1) := by decide +kernel
theorem d6_3 : decode jdk_52_method_15_code 3 = .ok (.isub, 1) := by decide +kernel
theorem d6_4 : decode jdk_52_method_15_code 4 = .ok (.bipush 31, 2) := by decide +kernel
theorem d6_6 : decode jdk_52_method_15_code 6 = .ok (.iushr, 1) := by decide +kernel
theorem d6_7 : decode jdk_52_method_15_code 7 = .ok (.i2b, 1) := by decide +kernel
theorem d6_8 : decode jdk_52_method_15_code 8 = .ok (.ireturn, 1) := by decide +kernel
theorem pn_6 : plainFor (⟨"java/lang/StringUTF16", "coderFromArrayLen", "([BI)B"⟩ : MethodName) = true := by first | exact plainFor_of_name (by first | (simp [plainName, overriddenIn]; done) | decide +kernel) | decide +kernel
set_option maxRecDepth 65536 in
set_option maxHeartbeats 4000000 in
theorem rm_co2 (l : Launch) (Z : State) (a0 : Array Value) (hw : ∀ d ∈ tables_1, d.before a0 Z = true) (vb : Addr) (vs : List Value) (h0 : Heap) (hn : vs.length.toInt32 = (2 : Int32)) (A : Ary Z h0 vb .byte vs) :
    Met l Z (⟨"java/lang/StringUTF16", "coderFromArrayLen", "([BI)B"⟩ : MethodName) jdk_52_method_15_code 2 (some .byte) [] ({ frames := 0, cells := 0, slots := 0, locals := 0 } : Room) #[(.ref vb), (.int (2 : Int32))] h0 [] (fun v h => v = some (.int (0 : Int32)) ∧ h0 = h) := by
  refine Met.walk pn_6 (Ls := #[.val (.ref vb), .val (.int (2 : Int32))]) (fun m => by first | (simp [entryFrame, mkF, argsToLocals, Value.category, maxLocals]; done) | rfl) ?_
  intro p e s m below meth c B
  refine B.iloadN 1 rfl d6_0 rfl ?_
  refine B.aloadN 2 rfl d6_1 rfl rfl ?_
  refine B.arrlen 3 rfl d6_2 A (2 : Int32) hn ?_
  refine B.isub 4 rfl d6_3 ?_
  refine B.topI (0 : Int32) (by decide) ?_
  refine B.bipush 6 rfl (31 : Int32) d6_4 rfl ?_
  refine B.iushr 7 rfl d6_6 ?_
  refine B.topI (0 : Int32) (by decide) ?_
  refine B.i2b 8 rfl d6_7 ?_
  refine B.topI (0 : Int32) (by decide) ?_
  refine B.retN (by simp) d6_8 (by decide) (by decide) ?_
  exact ⟨rfl, rfl⟩
theorem d2_0 : decode jdk_42_method_149_code 0 = .ok (.aload_n 0, 1) := by decide +kernel
theorem d2_1 : decode jdk_42_method_149_code 1 = .ok (.invokespecial 1, 3) := by decide +kernel
theorem d2_4 : decode jdk_42_method_149_code 4 = .ok (.iload_n 3, 1) := by decide +kernel
theorem d2_5 : decode jdk_42_method_149_code 5 = .ok (.ifCond .ne 22, 3) := by decide +kernel
theorem d2_27 : decode jdk_42_method_149_code 27 = .ok (.getstatic 38, 3) := by decide +kernel
theorem d2_30 : decode jdk_42_method_149_code 30 = .ok (.ifCond .eq 28, 3) := by decide +kernel
theorem d2_33 : decode jdk_42_method_149_code 33 = .ok (.aload_n 1, 1) := by decide +kernel
theorem d2_34 : decode jdk_42_method_149_code 34 = .ok (.iload_n 2, 1) := by decide +kernel
theorem d2_35 : decode jdk_42_method_149_code 35 = .ok (.iload_n 3, 1) := by decide +kernel
theorem d2_36 : decode jdk_42_method_149_code 36 = .ok (.invokestatic 177, 3) := by decide +kernel
theorem d2_39 : decode jdk_42_method_149_code 39 = .ok (.astore 5, 2) := by decide +kernel
theorem d2_41 : decode jdk_42_method_149_code 41 = .ok (.aload_n 0, 1) := by decide +kernel
theorem d2_42 : decode jdk_42_method_149_code 42 = .ok (.aload 5, 2) := by decide +kernel
theorem d2_44 : decode jdk_42_method_149_code 44 = .ok (.iload_n 3, 1) := by decide +kernel
theorem d2_45 : decode jdk_42_method_149_code 45 = .ok (.invokestatic 47, 3) := by decide +kernel
theorem d2_48 : decode jdk_42_method_149_code 48 = .ok (.putfield 15, 3) := by decide +kernel
theorem d2_51 : decode jdk_42_method_149_code 51 = .ok (.aload_n 0, 1) := by decide +kernel
theorem d2_52 : decode jdk_42_method_149_code 52 = .ok (.aload 5, 2) := by decide +kernel
theorem d2_54 : decode jdk_42_method_149_code 54 = .ok (.putfield 9, 3) := by decide +kernel
theorem d2_57 : decode jdk_42_method_149_code 57 = .ok (.return_, 1) := by decide +kernel
theorem pn_2 : plainFor (⟨"java/lang/String", "<init>", "([CIILjava/lang/Void;)V"⟩ : MethodName) = true := by first | exact plainFor_of_name (by first | (simp [plainName, overriddenIn]; done) | decide +kernel) | decide +kernel
set_option maxRecDepth 65536 in
set_option maxHeartbeats 4000000 in
theorem rm_si2 (l : Launch) (Z : State) (a0 : Array Value) (hw : ∀ d ∈ tables_1, d.before a0 Z = true) (a ca : Addr) (cs x0 x1 : Int32) (h0 : Heap) (hcs : ¬ cs = 0) (S : Sta Z h0 "java/lang/String" "COMPACT_STRINGS" "Z" (.int cs)) (E : Exa Z h0 a "java/lang/String") (Fc : Fld Z h0 a "java/lang/String" "coder" "B" (.int 0)) (Fv : Fld Z h0 a "java/lang/String" "value" "[B" .null) (A : Ary Z h0 ca .char [(.int x0), (.int x1)]) (hx0 : ¬ (255 : Int32) < x0) (hx1 : ¬ (255 : Int32) < x1) :
    Met l Z (⟨"java/lang/String", "<init>", "([CIILjava/lang/Void;)V"⟩ : MethodName) jdk_42_method_149_code 6 none [] ({ frames := 2, cells := 1, slots := 2, locals := 35 } : Room) #[(.ref a), (.ref ca), (.int (0 : Int32)), (.int (2 : Int32)), .null] h0 [a] (fun v h => v = none ∧ Exa Z h a "java/lang/String" ∧ ∃ vb, h0.size ≤ vb ∧ Fld Z h a "java/lang/String" "coder" "B" (.int 0) ∧ Fld Z h a "java/lang/String" "value" "[B" (.ref vb) ∧ Ary Z h vb .byte [(.int ((x0.toInt8.toInt32).toInt8.toInt32)), (.int ((x1.toInt8.toInt32).toInt8.toInt32))]) := by
  refine Met.walk pn_2 (Ls := #[.val (.ref a), .val (.ref ca), .val (.int (0 : Int32)), .val (.int (2 : Int32)), .val .null, .unset]) (fun m => by first | (simp [entryFrame, mkF, argsToLocals, Value.category, maxLocals]; done) | rfl) ?_
  intro p e s m below meth c B
  refine B.aloadN 1 rfl d2_0 rfl rfl ?_
  refine B.initO 4 rfl d2_1 (wd hw 12 rfl) (wd hw 13 rfl) (wd hw 14 rfl) rfl 0 rfl (by decide) (by decide) ?_
  refine B.iloadN 5 rfl d2_4 rfl ?_
  refine B.if0_ne 27 8 rfl (by decide) rfl d2_5 (fun c5 => ?_) (fun c5 => ?_)
  · refine B.getS 30 rfl d2_27 (wd hw 15 rfl) S ?_
    refine B.if0_eq 58 33 rfl (by decide) rfl d2_30 (fun c30 => ?_) (fun c30 => ?_)
    · exact absurd c30 hcs
    · refine B.aloadN 34 rfl d2_33 rfl rfl ?_
      refine B.iloadN 35 rfl d2_34 rfl ?_
      refine B.iloadN 36 rfl d2_35 rfl ?_
      refine B.callS 39 rfl d2_36 (wd hw 16 rfl) (wd hw 17 rfl) (wd hw 18 rfl) (wd hw 19 rfl) (by decide) [(.ref ca), (.int (0 : Int32)), (.int (2 : Int32))] [] (rm_cb2 l Z a0 hw ca x0 x1 h0 hx0 hx1 A) rfl rfl pd___CII__B rfl rfl 0 rfl (by decide) (by decide) (by decide) (by decide) (fun _ q => nomatch q) ?_
      rintro _ h1 K1 ⟨vb, rfl, gv, A1⟩
      show B.G h1 1 2 (mkF m 39 #[.val (.ref a), .val (.ref ca), .val (.int (0 : Int32)), .val (.int (2 : Int32)), .val .null, .unset] [(.ref vb)])
      have E1 := E.keep K1
      have Fc1 := Fc.keep K1 nin0
      have Fv1 := Fv.keep K1 nin0
      have nv : vb ≠ a := fun q => absurd E.lt (by rw [← q]; exact Nat.not_lt.mpr gv)
      refine B.astore 41 rfl d2_39 rfl #[.val (.ref a), .val (.ref ca), .val (.int (0 : Int32)), .val (.int (2 : Int32)), .val .null, .val (.ref vb)] rfl ?_
      refine B.aloadN 42 rfl d2_41 rfl rfl ?_
      refine B.aload 44 rfl d2_42 rfl rfl ?_
      refine B.iloadN 45 rfl d2_44 rfl ?_
      refine B.callS 48 rfl d2_45 (wd hw 23 rfl) (wd hw 24 rfl) (wd hw 18 rfl) (wd hw 25 rfl) (by decide) [(.ref vb), (.int (2 : Int32))] [(.ref a)] (rm_co2 l Z a0 hw vb _ h1 rfl A1) rfl rfl pd___BI_B rfl rfl 1 rfl (by decide) (by decide) (by decide) (by decide) (fun _ q => nomatch q) ?_
      rintro _ _ - ⟨rfl, rfl⟩
      show B.G h1 1 2 (mkF m 48 #[.val (.ref a), .val (.ref ca), .val (.int (0 : Int32)), .val (.int (2 : Int32)), .val .null, .val (.ref vb)] [(.int (0 : Int32)), (.ref a)])
      refine B.putF 51 rfl d2_48 (wd hw 26 rfl) Fc1 E1 (Or.inr ⟨(wd hw 27 rfl), rfl, rfl⟩) (wd hw 3 rfl) (ty := .byte) (by decide) rfl rfl (Or.inl (by simp)) ?_
      intro h2 W2
      have E2 := E1.wr W2
      have Fc2 := Fc1.same W2
      have Fv2 := Fv1.other W2 (Or.inr (slot_ne (Or.inr (wd hw 29 rfl)) (Or.inr (wd hw 27 rfl)) (by decide) (t := (.array .byte)) (t' := .byte) (by decide) (by decide)))
      have A2 := A1.other W2 nv
      refine B.aloadN 52 rfl d2_51 rfl rfl ?_
      refine B.aload 54 rfl d2_52 rfl rfl ?_
      refine B.putF 57 rfl d2_54 (wd hw 28 rfl) Fv2 E2 (Or.inr ⟨(wd hw 29 rfl), rfl, rfl⟩) (wd hw 3 rfl) (ty := (.array .byte)) (by decide) rfl rfl (Or.inl (by simp)) ?_
      intro h3 W3
      refine B.ret0 d2_57 (by decide) (by decide) ?_
      exact ⟨rfl, E2.wr W3, vb, gv, Fc2.other W3 (Or.inr (slot_ne (Or.inr (wd hw 27 rfl)) (Or.inr (wd hw 29 rfl)) (by decide) (t := .byte) (t' := (.array .byte)) (by decide) (by decide))), Fv2.same W3, A2.other W3 nv⟩
  · exact absurd c5 (by decide)
theorem d1_0 : decode jdk_42_method_3_code 0 = .ok (.aload_n 0, 1) := by decide +kernel
theorem d1_1 : decode jdk_42_method_3_code 1 = .ok (.aload_n 1, 1) := by decide +kernel
theorem d1_2 : decode jdk_42_method_3_code 2 = .ok (.iconst 0, 1) := by decide +kernel
theorem d1_3 : decode jdk_42_method_3_code 3 = .ok (.aload_n 1, 1) := by decide +kernel
theorem d1_4 : decode jdk_42_method_3_code 4 = .ok (.arraylength, 1) := by decide +kernel
theorem d1_5 : decode jdk_42_method_3_code 5 = .ok (.aconst_null, 1) := by decide +kernel
theorem d1_6 : decode jdk_42_method_3_code 6 = .ok (.invokespecial 27, 3) := by decide +kernel
theorem d1_9 : decode jdk_42_method_3_code 9 = .ok (.return_, 1) := by decide +kernel
theorem pn_1 : plainFor (⟨"java/lang/String", "<init>", "([C)V"⟩ : MethodName) = true := by first | exact plainFor_of_name (by first | (simp [plainName, overriddenIn]; done) | decide +kernel) | decide +kernel
set_option maxRecDepth 65536 in
set_option maxHeartbeats 4000000 in
theorem rm_st2 (l : Launch) (Z : State) (a0 : Array Value) (hw : ∀ d ∈ tables_1, d.before a0 Z = true) (a ca : Addr) (cs x0 x1 : Int32) (h0 : Heap) (hcs : ¬ cs = 0) (S : Sta Z h0 "java/lang/String" "COMPACT_STRINGS" "Z" (.int cs)) (E : Exa Z h0 a "java/lang/String") (Fc : Fld Z h0 a "java/lang/String" "coder" "B" (.int 0)) (Fv : Fld Z h0 a "java/lang/String" "value" "[B" .null) (A : Ary Z h0 ca .char [(.int x0), (.int x1)]) (hx0 : ¬ (255 : Int32) < x0) (hx1 : ¬ (255 : Int32) < x1) :
    Met l Z (⟨"java/lang/String", "<init>", "([C)V"⟩ : MethodName) jdk_42_method_3_code 2 none [] ({ frames := 3, cells := 1, slots := 2, locals := 52 } : Room) #[(.ref a), (.ref ca)] h0 [a] (fun v h => v = none ∧ Exa Z h a "java/lang/String" ∧ ∃ vb, h0.size ≤ vb ∧ Fld Z h a "java/lang/String" "coder" "B" (.int 0) ∧ Fld Z h a "java/lang/String" "value" "[B" (.ref vb) ∧ Ary Z h vb .byte [(.int ((x0.toInt8.toInt32).toInt8.toInt32)), (.int ((x1.toInt8.toInt32).toInt8.toInt32))]) := by
  refine Met.walk pn_1 (Ls := #[.val (.ref a), .val (.ref ca)]) (fun m => by first | (simp [entryFrame, mkF, argsToLocals, Value.category, maxLocals]; done) | rfl) ?_
  intro p e s m below meth c B
  refine B.aloadN 1 rfl d1_0 rfl rfl ?_
  refine B.aloadN 2 rfl d1_1 rfl rfl ?_
  refine B.iconst 3 rfl (0 : Int32) d1_2 rfl ?_
  refine B.aloadN 4 rfl d1_3 rfl rfl ?_
  refine B.arrlen 5 rfl d1_4 A (2 : Int32) rfl ?_
  refine B.aconstNull 6 rfl d1_5 ?_
  refine B.callI 9 rfl d1_6 rfl (wd hw 8 rfl) (wd hw 9 rfl) (wd hw 4 rfl) (wd hw 11 rfl) (by decide) [(.ref ca), (.int (0 : Int32)), (.int (2 : Int32)), .null] [] (rm_si2 l Z a0 hw a ca cs x0 x1 h0 hcs S E Fc Fv A hx0 hx1) rfl rfl pd___CIILjava_lang_Void__V rfl rfl 0 rfl (by decide) (by decide) (by decide) (by decide) (fun x z => Or.inl z) ?_
  rintro _ h1 K1 ⟨rfl, q⟩
  show B.G h1 1 2 (mkF m 9 #[.val (.ref a), .val (.ref ca)] [])
  refine B.ret0 d1_9 (by decide) (by decide) ?_
  exact ⟨rfl, q⟩
theorem d8_0 : decode jdk_43_method_3_code 0 = .ok (.iload_n 0, 1) := by decide +kernel
theorem d8_1 : decode jdk_43_method_3_code 1 = .ok (.sipush 255, 3) := by decide +kernel
theorem d8_4 : decode jdk_43_method_3_code 4 = .ok (.if_icmp .gt 7, 3) := by decide +kernel
theorem d8_7 : decode jdk_43_method_3_code 7 = .ok (.iconst 1, 1) := by decide +kernel
theorem d8_8 : decode jdk_43_method_3_code 8 = .ok (.goto 4, 3) := by decide +kernel
theorem d8_12 : decode jdk_43_method_3_code 12 = .ok (.ireturn, 1) := by decide +kernel
theorem pn_8 : plainFor (⟨"java/lang/StringLatin1", "canEncode", "(C)Z"⟩ : MethodName) = true := by first | exact plainFor_of_name (by first | (simp [plainName, overriddenIn]; done) | decide +kernel) | decide +kernel
set_option maxRecDepth 65536 in
set_option maxHeartbeats 4000000 in
theorem rm_can (l : Launch) (Z : State) (a0 : Array Value) (hw : ∀ d ∈ tables_1, d.before a0 Z = true) (x0 : Int32) (h0 : Heap) (hx : ¬ (255 : Int32) < x0) :
    Met l Z (⟨"java/lang/StringLatin1", "canEncode", "(C)Z"⟩ : MethodName) jdk_43_method_3_code 1 (some .boolean) [] ({ frames := 0, cells := 0, slots := 0, locals := 0 } : Room) #[(.int x0)] h0 [] (fun v h => v = some (.int (1 : Int32)) ∧ h0 = h) := by
  refine Met.walk pn_8 (Ls := #[.val (.int x0)]) (fun m => by first | (simp [entryFrame, mkF, argsToLocals, Value.category, maxLocals]; done) | rfl) ?_
  intro p e s m below meth c B
  refine B.iloadN 1 rfl d8_0 rfl ?_
  refine B.sipush 4 rfl (255 : Int32) d8_1 rfl ?_
  refine B.icmp_gt 11 7 rfl (by decide) rfl d8_4 (fun c4 => ?_) (fun c4 => ?_)
  · exact absurd c4 hx
  · refine B.iconst 8 rfl (1 : Int32) d8_7 rfl ?_
    refine B.goto 12 rfl (by decide) d8_8 ?_
    refine B.retN (by simp) d8_12 (by decide) (by decide) ?_
    exact ⟨rfl, rfl⟩
theorem d9_0 : decode jdk_43_method_46_code 0 = .ok (.iconst 1, 1) := by decide +kernel
theorem d9_1 : decode jdk_43_method_46_code 1 = .ok (.newarray .byte, 2) := by decide +kernel
theorem d9_3 : decode jdk_43_method_46_code 3 = .ok (.dup, 1) := by decide +kernel
theorem d9_4 : decode jdk_43_method_46_code 4 = .ok (.iconst 0, 1) := by decide +kernel
theorem d9_5 : decode jdk_43_method_46_code 5 = .ok (.iload_n 0, 1) := by decide +kernel
theorem d9_6 : decode jdk_43_method_46_code 6 = .ok (.i2b, 1) := by decide +kernel
theorem d9_7 : decode jdk_43_method_46_code 7 = .ok (.bastore, 1) := by decide +kernel
theorem d9_8 : decode jdk_43_method_46_code 8 = .ok (.areturn, 1) := by decide +kernel
theorem pn_9 : plainFor (⟨"java/lang/StringLatin1", "toBytes", "(C)[B"⟩ : MethodName) = true := by first | exact plainFor_of_name (by first | (simp [plainName, overriddenIn]; done) | decide +kernel) | decide +kernel
set_option maxRecDepth 65536 in
set_option maxHeartbeats 4000000 in
theorem rm_tb (l : Launch) (Z : State) (a0 : Array Value) (hw : ∀ d ∈ tables_1, d.before a0 Z = true) (x0 : Int32) (h0 : Heap)  :
    Met l Z (⟨"java/lang/StringLatin1", "toBytes", "(C)[B"⟩ : MethodName) jdk_43_method_46_code 1 (some (.array .byte)) [] ({ frames := 0, cells := 1, slots := 1, locals := 0 } : Room) #[(.int x0)] h0 [] (fun v h => ∃ vb, v = some (.ref vb) ∧ h0.size ≤ vb) := by
  refine Met.walk pn_9 (Ls := #[.val (.int x0)]) (fun m => by first | (simp [entryFrame, mkF, argsToLocals, Value.category, maxLocals]; done) | rfl) ?_
  intro p e s m below meth c B
  refine B.iconst 1 rfl (1 : Int32) d9_0 rfl ?_
  refine B.newP 3 rfl d9_1 (wd hw 0 rfl) (by decide) 1 (by decide) (by decide) (by decide) (by decide) ?_
  intro h_vb vb e_vb g_vb X_vb A_vb
  replace A_vb : Ary Z h_vb vb .byte [(.int (0 : Int32))] := A_vb
  show B.G h_vb 1 1 (mkF m 3 #[.val (.int x0)] [(.ref vb)])
  refine B.dup 4 rfl d9_3 rfl ?_
  refine B.iconst 5 rfl (0 : Int32) d9_4 rfl ?_
  refine B.iloadN 6 rfl d9_5 rfl ?_
  refine B.i2b 7 rfl d9_6 ?_
  refine B.bastore 8 rfl d9_7 A_vb (by decide) 0 rfl (by simp) (Or.inr g_vb) ?_
  intro hs1 Ws1 As1
  replace As1 : Ary Z hs1 vb .byte [(.int (((x0).toInt8.toInt32).toInt8.toInt32))] := As1
  refine B.retA rfl rfl d9_8 (by decide) (by decide) ?_
  exact ⟨vb, rfl, g_vb⟩
theorem d10_0 : decode jdk_42_method_151_code 0 = .ok (.aload_n 0, 1) := by decide +kernel
theorem d10_1 : decode jdk_42_method_151_code 1 = .ok (.invokespecial 1, 3) := by decide +kernel
theorem d10_4 : decode jdk_42_method_151_code 4 = .ok (.aload_n 0, 1) := by decide +kernel
theorem d10_5 : decode jdk_42_method_151_code 5 = .ok (.aload_n 1, 1) := by decide +kernel
theorem d10_6 : decode jdk_42_method_151_code 6 = .ok (.putfield 9, 3) := by decide +kernel
theorem d10_9 : decode jdk_42_method_151_code 9 = .ok (.aload_n 0, 1) := by decide +kernel
theorem d10_10 : decode jdk_42_method_151_code 10 = .ok (.iload_n 2, 1) := by decide +kernel
theorem d10_11 : decode jdk_42_method_151_code 11 = .ok (.putfield 15, 3) := by decide +kernel
theorem d10_14 : decode jdk_42_method_151_code 14 = .ok (.return_, 1) := by decide +kernel
theorem pn_10 : plainFor (⟨"java/lang/String", "<init>", "([BB)V"⟩ : MethodName) = true := by first | exact plainFor_of_name (by first | (simp [plainName, overriddenIn]; done) | decide +kernel) | decide +kernel
set_option maxRecDepth 65536 in
set_option maxHeartbeats 4000000 in
theorem rm_sb (l : Launch) (Z : State) (a0 : Array Value) (hw : ∀ d ∈ tables_1, d.before a0 Z = true) (a vb : Addr) (h0 : Heap) (E : Exa Z h0 a "java/lang/String") (Fc : Fld Z h0 a "java/lang/String" "coder" "B" (.int 0)) (Fv : Fld Z h0 a "java/lang/String" "value" "[B" .null) :
    Met l Z (⟨"java/lang/String", "<init>", "([BB)V"⟩ : MethodName) jdk_42_method_151_code 3 none [] ({ frames := 1, cells := 0, slots := 0, locals := 12 } : Room) #[(.ref a), (.ref vb), (.int (0 : Int32))] h0 [a] (fun v h => v = none ∧ Exa Z h a "java/lang/String") := by
  refine Met.walk pn_10 (Ls := #[.val (.ref a), .val (.ref vb), .val (.int (0 : Int32))]) (fun m => by first | (simp [entryFrame, mkF, argsToLocals, Value.category, maxLocals]; done) | rfl) ?_
  intro p e s m below meth c B
  refine B.aloadN 1 rfl d10_0 rfl rfl ?_
  refine B.initO 4 rfl d10_1 (wd hw 12 rfl) (wd hw 13 rfl) (wd hw 14 rfl) rfl 0 rfl (by decide) (by decide) ?_
  refine B.aloadN 5 rfl d10_4 rfl rfl ?_
  refine B.aloadN 6 rfl d10_5 rfl rfl ?_
  refine B.putF 9 rfl d10_6 (wd hw 28 rfl) Fv E (Or.inr ⟨(wd hw 29 rfl), rfl, rfl⟩) (wd hw 3 rfl) (ty := (.array .byte)) (by decide) rfl rfl (Or.inl (by simp)) ?_
  intro h1 W1
  have E1 := E.wr W1
  have Fc1 := Fc.other W1 (Or.inr (slot_ne (Or.inr (wd hw 27 rfl)) (Or.inr (wd hw 29 rfl)) (by decide) (t := .byte) (t' := (.array .byte)) (by decide) (by decide)))
  refine B.aloadN 10 rfl d10_9 rfl rfl ?_
  refine B.iloadN 11 rfl d10_10 rfl ?_
  refine B.putF 14 rfl d10_11 (wd hw 26 rfl) Fc1 E1 (Or.inr ⟨(wd hw 27 rfl), rfl, rfl⟩) (wd hw 3 rfl) (ty := .byte) (by decide) rfl rfl (Or.inl (by simp)) ?_
  intro h2 W2
  refine B.ret0 d10_14 (by decide) (by decide) ?_
  exact ⟨rfl, E1.wr W2⟩
theorem d7_0 : decode jdk_42_method_139_code 0 = .ok (.getstatic 38, 3) := by decide +kernel
theorem d7_3 : decode jdk_42_method_139_code 3 = .ok (.ifCond .eq 23, 3) := by decide +kernel
theorem d7_6 : decode jdk_42_method_139_code 6 = .ok (.iload_n 0, 1) := by decide +kernel
theorem d7_7 : decode jdk_42_method_139_code 7 = .ok (.invokestatic 1015, 3) := by decide +kernel
theorem d7_10 : decode jdk_42_method_139_code 10 = .ok (.ifCond .eq 16, 3) := by decide +kernel
theorem d7_13 : decode jdk_42_method_139_code 13 = .ok (.new 10, 3) := by decide +kernel
theorem d7_16 : decode jdk_42_method_139_code 16 = .ok (.dup, 1) := by decide +kernel
theorem d7_17 : decode jdk_42_method_139_code 17 = .ok (.iload_n 0, 1) := by decide +kernel
theorem d7_18 : decode jdk_42_method_139_code 18 = .ok (.invokestatic 1018, 3) := by decide +kernel
theorem d7_21 : decode jdk_42_method_139_code 21 = .ok (.iconst 0, 1) := by decide +kernel
theorem d7_22 : decode jdk_42_method_139_code 22 = .ok (.invokespecial 209, 3) := by decide +kernel
theorem d7_25 : decode jdk_42_method_139_code 25 = .ok (.areturn, 1) := by decide +kernel
theorem pn_7 : plainFor (⟨"java/lang/String", "valueOf", "(C)Ljava/lang/String;"⟩ : MethodName) = true := by first | exact plainFor_of_name (by first | (simp [plainName, overriddenIn]; done) | decide +kernel) | decide +kernel
set_option maxRecDepth 65536 in
set_option maxHeartbeats 4000000 in
theorem rm_vo (l : Launch) (Z : State) (a0 : Array Value) (hw : ∀ d ∈ tables_1, d.before a0 Z = true) (cs x0 : Int32) (h0 : Heap) (hcs : ¬ cs = 0) (S : Sta Z h0 "java/lang/String" "COMPACT_STRINGS" "Z" (.int cs)) (hx : ¬ (255 : Int32) < x0) :
    Met l Z (⟨"java/lang/String", "valueOf", "(C)Ljava/lang/String;"⟩ : MethodName) jdk_42_method_139_code 1 (some (.object "java/lang/String")) [] ({ frames := 2, cells := 2, slots := 5, locals := 27 } : Room) #[(.int x0)] h0 [] (fun v h => ∃ r, v = some (.ref r) ∧ h0.size ≤ r ∧ Exa Z h r "java/lang/String") := by
  refine Met.walk pn_7 (Ls := #[.val (.int x0)]) (fun m => by first | (simp [entryFrame, mkF, argsToLocals, Value.category, maxLocals]; done) | rfl) ?_
  intro p e s m below meth c B
  refine B.getS 3 rfl d7_0 (wd hw 15 rfl) S ?_
  refine B.if0_eq 26 6 rfl (by decide) rfl d7_3 (fun c3 => ?_) (fun c3 => ?_)
  · exact absurd c3 hcs
  · refine B.iloadN 7 rfl d7_6 rfl ?_
    refine B.callS 10 rfl d7_7 (wd hw 33 rfl) (wd hw 34 rfl) (wd hw 35 rfl) (wd hw 36 rfl) (by decide) [(.int x0)] [] (rm_can l Z a0 hw x0 h0 hx) rfl rfl pd__C_Z rfl rfl 0 rfl (by decide) (by decide) (by decide) (by decide) (fun _ q => nomatch q) ?_
    rintro _ _ - ⟨rfl, rfl⟩
    show B.G h0 0 0 (mkF m 10 #[.val (.int x0)] [(.int (1 : Int32))])
    refine B.if0_eq 26 13 rfl (by decide) rfl d7_10 (fun c10 => ?_) (fun c10 => ?_)
    · exact absurd c10 (by decide)
    · refine B.newO 16 rfl d7_13 (wd hw 37 rfl) (wd hw 3 rfl) (wd hw 4 rfl) (by decide) (by decide) ?_
      intro h_r r e_r g_r X_r E_r D_r
      show B.G h_r 1 4 (mkF m 16 #[.val (.int x0)] [(.ref r)])
      have F0_r : Fld Z h_r r "java/lang/String" "coder" "B" (.int 0) := D_r (Or.inr (wd hw 27 rfl)) (ty := .byte) (by decide)
      have F1_r : Fld Z h_r r "java/lang/String" "value" "[B" .null := D_r (Or.inr (wd hw 29 rfl)) (ty := (.array .byte)) (by decide)
      refine B.dup 17 rfl d7_16 rfl ?_
      refine B.iloadN 18 rfl d7_17 rfl ?_
      refine B.callS 21 rfl d7_18 (wd hw 38 rfl) (wd hw 39 rfl) (wd hw 35 rfl) (wd hw 40 rfl) (by decide) [(.int x0)] [(.ref r), (.ref r)] (rm_tb l Z a0 hw x0 h_r) rfl rfl pd__C__B rfl rfl 2 rfl (by decide) (by decide) (by decide) (by decide) (fun _ q => nomatch q) ?_
      rintro _ h2 K2 ⟨vb, rfl, gv⟩
      show B.G h2 2 5 (mkF m 21 #[.val (.int x0)] [(.ref vb), (.ref r), (.ref r)])
      have E_r_2 := E_r.keep K2
      have F0_r_2 := F0_r.keep K2 nin0
      have F1_r_2 := F1_r.keep K2 nin0
      refine B.iconst 22 rfl (0 : Int32) d7_21 rfl ?_
      refine B.callI 25 rfl d7_22 rfl (wd hw 41 rfl) (wd hw 42 rfl) (wd hw 4 rfl) (wd hw 43 rfl) (by decide) [(.ref vb), (.int (0 : Int32))] [(.ref r)] (rm_sb l Z a0 hw r vb h2 E_r_2 F0_r_2 F1_r_2) rfl rfl pd___BB_V rfl rfl 1 rfl (by decide) (by decide) (by decide) (by decide) (fun x z => Or.inr (by cases List.mem_singleton.mp z; exact g_r)) ?_
      rintro _ h3 K3 ⟨rfl, E3⟩
      show B.G h3 2 5 (mkF m 25 #[.val (.int x0)] [(.ref r)])
      refine B.retA rfl rfl d7_25 (by decide) (by decide) ?_
      exact ⟨r, rfl, g_r, E3⟩
theorem d13_0 : decode jdk_30_method_1_code 0 = .ok (.aload_n 0, 1) := by decide +kernel
theorem d13_1 : decode jdk_30_method_1_code 1 = .ok (.invokespecial 1, 3) := by decide +kernel
theorem d13_4 : decode jdk_30_method_1_code 4 = .ok (.return_, 1) := by decide +kernel
theorem pn_13 : plainFor (⟨"java/lang/Record", "<init>", "()V"⟩ : MethodName) = true := by first | exact plainFor_of_name (by first | (simp [plainName, overriddenIn]; done) | decide +kernel) | decide +kernel
set_option maxRecDepth 65536 in
set_option maxHeartbeats 4000000 in
theorem rm_rec (l : Launch) (Z : State) (a0 : Array Value) (hw : ∀ d ∈ tables_1, d.before a0 Z = true) (a : Addr) (h0 : Heap)  :
    Met l Z (⟨"java/lang/Record", "<init>", "()V"⟩ : MethodName) jdk_30_method_1_code 1 none [] ({ frames := 1, cells := 0, slots := 0, locals := 12 } : Room) #[(.ref a)] h0 [] (fun v h => v = none ∧ h0 = h) := by
  refine Met.walk pn_13 (Ls := #[.val (.ref a)]) (fun m => by first | (simp [entryFrame, mkF, argsToLocals, Value.category, maxLocals]; done) | rfl) ?_
  intro p e s m below meth c B
  refine B.aloadN 1 rfl d13_0 rfl rfl ?_
  refine B.initO 4 rfl d13_1 (wd hw 67 rfl) (wd hw 13 rfl) (wd hw 14 rfl) rfl 0 rfl (by decide) (by decide) ?_
  refine B.ret0 d13_4 (by decide) (by decide) ?_
  exact ⟨rfl, rfl⟩
theorem d12_0 : decode prog_13_method_1_code 0 = .ok (.aload_n 0, 1) := by decide +kernel
theorem d12_1 : decode prog_13_method_1_code 1 = .ok (.invokespecial 1, 3) := by decide +kernel
theorem d12_4 : decode prog_13_method_1_code 4 = .ok (.aload_n 0, 1) := by decide +kernel
theorem d12_5 : decode prog_13_method_1_code 5 = .ok (.aload_n 1, 1) := by decide +kernel
theorem d12_6 : decode prog_13_method_1_code 6 = .ok (.putfield 7, 3) := by decide +kernel
theorem d12_9 : decode prog_13_method_1_code 9 = .ok (.aload_n 0, 1) := by decide +kernel
theorem d12_10 : decode prog_13_method_1_code 10 = .ok (.aload_n 2, 1) := by decide +kernel
theorem d12_11 : decode prog_13_method_1_code 11 = .ok (.putfield 13, 3) := by decide +kernel
theorem d12_14 : decode prog_13_method_1_code 14 = .ok (.aload_n 0, 1) := by decide +kernel
theorem d12_15 : decode prog_13_method_1_code 15 = .ok (.aload_n 3, 1) := by decide +kernel
theorem d12_16 : decode prog_13_method_1_code 16 = .ok (.putfield 17, 3) := by decide +kernel
theorem d12_19 : decode prog_13_method_1_code 19 = .ok (.aload_n 0, 1) := by decide +kernel
theorem d12_20 : decode prog_13_method_1_code 20 = .ok (.aload 4, 2) := by decide +kernel
theorem d12_22 : decode prog_13_method_1_code 22 = .ok (.putfield 21, 3) := by decide +kernel
theorem d12_25 : decode prog_13_method_1_code 25 = .ok (.return_, 1) := by decide +kernel
theorem pn_12 : plainFor (⟨"com/example/siegelwerk/siegelwerk/DataObject", "<init>", "(Ljava/util/List;[BLjava/lang/String;Ljava/lang/String;)V"⟩ : MethodName) = true := by first | exact plainFor_of_name (by first | (simp [plainName, overriddenIn]; done) | decide +kernel) | decide +kernel
set_option maxRecDepth 65536 in
set_option maxHeartbeats 4000000 in
theorem rm_do (l : Launch) (Z : State) (a0 : Array Value) (hw : ∀ d ∈ tables_1, d.before a0 Z = true) (a : Addr) (y0 y1 y2 y3 : Value) (h0 : Heap) (r0 : y0.isRef = true) (f0 : fits (.object "java/util/List") y0 = true) (r1 : y1.isRef = true) (f1 : fits (.array .byte) y1 = true) (r2 : y2.isRef = true) (f2 : fits (.object "java/lang/String") y2 = true) (r3 : y3.isRef = true) (f3 : fits (.object "java/lang/String") y3 = true) (E : Exa Z h0 a "com/example/siegelwerk/siegelwerk/DataObject") (F0 : Fld Z h0 a "com/example/siegelwerk/siegelwerk/DataObject" "xml" "Ljava/util/List;" .null) (F1 : Fld Z h0 a "com/example/siegelwerk/siegelwerk/DataObject" "bytes" "[B" .null) (F2 : Fld Z h0 a "com/example/siegelwerk/siegelwerk/DataObject" "mimeType" "Ljava/lang/String;" .null) (F3 : Fld Z h0 a "com/example/siegelwerk/siegelwerk/DataObject" "description" "Ljava/lang/String;" .null) :
    Met l Z (⟨"com/example/siegelwerk/siegelwerk/DataObject", "<init>", "(Ljava/util/List;[BLjava/lang/String;Ljava/lang/String;)V"⟩ : MethodName) prog_13_method_1_code 5 none [] ({ frames := 2, cells := 0, slots := 0, locals := 24 } : Room) #[(.ref a), y0, y1, y2, y3] h0 [a] (fun v h => v = none ∧ Exa Z h a "com/example/siegelwerk/siegelwerk/DataObject" ∧ Fld Z h a "com/example/siegelwerk/siegelwerk/DataObject" "xml" "Ljava/util/List;" y0 ∧ Fld Z h a "com/example/siegelwerk/siegelwerk/DataObject" "bytes" "[B" y1 ∧ Fld Z h a "com/example/siegelwerk/siegelwerk/DataObject" "mimeType" "Ljava/lang/String;" y2 ∧ Fld Z h a "com/example/siegelwerk/siegelwerk/DataObject" "description" "Ljava/lang/String;" y3) := by
  refine Met.walk pn_12 (Ls := #[.val (.ref a), .val y0, .val y1, .val y2, .val y3]) (fun m => by simp [entryFrame, mkF, argsToLocals, XT.cat1 r0, XT.cat1 r1, XT.cat1 r2, XT.cat1 r3, show ∀ z, (Value.ref z).category = 1 from fun _ => rfl, show ∀ z, (Value.int z).category = 1 from fun _ => rfl, show Value.null.category = 1 from rfl]) ?_
  intro p e s m below meth c B
  refine B.aloadN 1 rfl d12_0 rfl rfl ?_
  refine B.callI 4 rfl d12_1 rfl (wd hw 62 rfl) (wd hw 63 rfl) (wd hw 65 rfl) (wd hw 66 rfl) (by decide) [] [] (rm_rec l Z a0 hw a h0) rfl rfl pd___V rfl rfl 0 rfl (by decide) (by decide) (by decide) (by decide) (fun _ q => nomatch q) ?_
  rintro _ _ - ⟨rfl, rfl⟩
  show B.G h0 0 0 (mkF m 4 #[.val (.ref a), .val y0, .val y1, .val y2, .val y3] [])
  refine B.aloadN 5 rfl d12_4 rfl rfl ?_
  refine B.aloadN 6 rfl d12_5 rfl r0 ?_
  refine B.putF 9 rfl d12_6 (wd hw 68 rfl) F0 E (Or.inr ⟨(wd hw 69 rfl), rfl, rfl⟩) (wd hw 49 rfl) (ty := (.object "java/util/List")) (by decide) rfl f0 (Or.inl (by simp)) ?_
  intro h1 W1
  have E1 := E.wr W1
  have G1_0 := F0.same W1
  have G1_1 := F1.other W1 (Or.inr (slot_ne (Or.inr (wd hw 71 rfl)) (Or.inr (wd hw 69 rfl)) (by decide) (t := (.array .byte)) (t' := (.object "java/util/List")) (by decide) (by decide)))
  have G1_2 := F2.other W1 (Or.inr (slot_ne (Or.inr (wd hw 73 rfl)) (Or.inr (wd hw 69 rfl)) (by decide) (t := (.object "java/lang/String")) (t' := (.object "java/util/List")) (by decide) (by decide)))
  have G1_3 := F3.other W1 (Or.inr (slot_ne (Or.inr (wd hw 75 rfl)) (Or.inr (wd hw 69 rfl)) (by decide) (t := (.object "java/lang/String")) (t' := (.object "java/util/List")) (by decide) (by decide)))
  refine B.aloadN 10 rfl d12_9 rfl rfl ?_
  refine B.aloadN 11 rfl d12_10 rfl r1 ?_
  refine B.putF 14 rfl d12_11 (wd hw 70 rfl) G1_1 E1 (Or.inr ⟨(wd hw 71 rfl), rfl, rfl⟩) (wd hw 49 rfl) (ty := (.array .byte)) (by decide) rfl f1 (Or.inl (by simp)) ?_
  intro h2 W2
  have E2 := E1.wr W2
  have G2_0 := G1_0.other W2 (Or.inr (slot_ne (Or.inr (wd hw 69 rfl)) (Or.inr (wd hw 71 rfl)) (by decide) (t := (.object "java/util/List")) (t' := (.array .byte)) (by decide) (by decide)))
  have G2_1 := G1_1.same W2
  have G2_2 := G1_2.other W2 (Or.inr (slot_ne (Or.inr (wd hw 73 rfl)) (Or.inr (wd hw 71 rfl)) (by decide) (t := (.object "java/lang/String")) (t' := (.array .byte)) (by decide) (by decide)))
  have G2_3 := G1_3.other W2 (Or.inr (slot_ne (Or.inr (wd hw 75 rfl)) (Or.inr (wd hw 71 rfl)) (by decide) (t := (.object "java/lang/String")) (t' := (.array .byte)) (by decide) (by decide)))
  refine B.aloadN 15 rfl d12_14 rfl rfl ?_
  refine B.aloadN 16 rfl d12_15 rfl r2 ?_
  refine B.putF 19 rfl d12_16 (wd hw 72 rfl) G2_2 E2 (Or.inr ⟨(wd hw 73 rfl), rfl, rfl⟩) (wd hw 49 rfl) (ty := (.object "java/lang/String")) (by decide) rfl f2 (Or.inl (by simp)) ?_
  intro h3 W3
  have E3 := E2.wr W3
  have G3_0 := G2_0.other W3 (Or.inr (slot_ne (Or.inr (wd hw 69 rfl)) (Or.inr (wd hw 73 rfl)) (by decide) (t := (.object "java/util/List")) (t' := (.object "java/lang/String")) (by decide) (by decide)))
  have G3_1 := G2_1.other W3 (Or.inr (slot_ne (Or.inr (wd hw 71 rfl)) (Or.inr (wd hw 73 rfl)) (by decide) (t := (.array .byte)) (t' := (.object "java/lang/String")) (by decide) (by decide)))
  have G3_2 := G2_2.same W3
  have G3_3 := G2_3.other W3 (Or.inr (slot_ne (Or.inr (wd hw 75 rfl)) (Or.inr (wd hw 73 rfl)) (by decide) (t := (.object "java/lang/String")) (t' := (.object "java/lang/String")) (by decide) (by decide)))
  refine B.aloadN 20 rfl d12_19 rfl rfl ?_
  refine B.aload 22 rfl d12_20 rfl r3 ?_
  refine B.putF 25 rfl d12_22 (wd hw 74 rfl) G3_3 E3 (Or.inr ⟨(wd hw 75 rfl), rfl, rfl⟩) (wd hw 49 rfl) (ty := (.object "java/lang/String")) (by decide) rfl f3 (Or.inl (by simp)) ?_
  intro h4 W4
  have E4 := E3.wr W4
  have G4_0 := G3_0.other W4 (Or.inr (slot_ne (Or.inr (wd hw 69 rfl)) (Or.inr (wd hw 75 rfl)) (by decide) (t := (.object "java/util/List")) (t' := (.object "java/lang/String")) (by decide) (by decide)))
  have G4_1 := G3_1.other W4 (Or.inr (slot_ne (Or.inr (wd hw 71 rfl)) (Or.inr (wd hw 75 rfl)) (by decide) (t := (.array .byte)) (t' := (.object "java/lang/String")) (by decide) (by decide)))
  have G4_2 := G3_2.other W4 (Or.inr (slot_ne (Or.inr (wd hw 73 rfl)) (Or.inr (wd hw 75 rfl)) (by decide) (t := (.object "java/lang/String")) (t' := (.object "java/lang/String")) (by decide) (by decide)))
  have G4_3 := G3_3.same W4
  refine B.ret0 d12_25 (by decide) (by decide) ?_
  exact ⟨rfl, E4, G4_0, G4_1, G4_2, G4_3⟩
theorem d11_0 : decode prog_13_method_3_code 0 = .ok (.new 8, 3) := by decide +kernel
theorem d11_3 : decode prog_13_method_3_code 3 = .ok (.dup, 1) := by decide +kernel
theorem d11_4 : decode prog_13_method_3_code 4 = .ok (.aconst_null, 1) := by decide +kernel
theorem d11_5 : decode prog_13_method_3_code 5 = .ok (.aload_n 0, 1) := by decide +kernel
theorem d11_6 : decode prog_13_method_3_code 6 = .ok (.invokevirtual 33, 3) := by decide +kernel
theorem d11_9 : decode prog_13_method_3_code 9 = .ok (.checkcast 34, 3) := by decide +kernel
theorem d11_12 : decode prog_13_method_3_code 12 = .ok (.aload_n 1, 1) := by decide +kernel
theorem d11_13 : decode prog_13_method_3_code 13 = .ok (.aload_n 2, 1) := by decide +kernel
theorem d11_14 : decode prog_13_method_3_code 14 = .ok (.invokespecial 30, 3) := by decide +kernel
theorem d11_17 : decode prog_13_method_3_code 17 = .ok (.areturn, 1) := by decide +kernel
theorem pn_11 : plainFor (⟨"com/example/siegelwerk/siegelwerk/DataObject", "ofBytes", "([BLjava/lang/String;Ljava/lang/String;)Lcom/example/siegelwerk/siegelwerk/DataObject;"⟩ : MethodName) = true := by first | exact plainFor_of_name (by first | (simp [plainName, overriddenIn]; done) | decide +kernel) | decide +kernel
set_option maxRecDepth 65536 in
set_option maxHeartbeats 4000000 in
theorem rm_of (l : Launch) (Z : State) (a0 : Array Value) (hw : ∀ d ∈ tables_1, d.before a0 Z = true) (ba mi : Addr) (y3 : Value) (vs : List Value) (h0 : Heap) (r3 : y3.isRef = true) (f3 : fits (.object "java/lang/String") y3 = true) (A : Ary Z h0 ba .byte vs) (E : Exa Z h0 ba "[B") (hfit : ∀ v ∈ vs, fits .byte v = true) (hl : vs.length ≤ 3) :
    Met l Z (⟨"com/example/siegelwerk/siegelwerk/DataObject", "ofBytes", "([BLjava/lang/String;Ljava/lang/String;)Lcom/example/siegelwerk/siegelwerk/DataObject;"⟩ : MethodName) prog_13_method_3_code 3 (some (.object "com/example/siegelwerk/siegelwerk/DataObject")) [] ({ frames := 3, cells := 2, slots := 7, locals := 41 } : Room) #[(.ref ba), (.ref mi), y3] h0 [] (fun v h => ∃ o cp, v = some (.ref o) ∧ h0.size ≤ cp ∧ Exa Z h o "com/example/siegelwerk/siegelwerk/DataObject" ∧ Fld Z h o "com/example/siegelwerk/siegelwerk/DataObject" "xml" "Ljava/util/List;" .null ∧ Fld Z h o "com/example/siegelwerk/siegelwerk/DataObject" "bytes" "[B" (.ref cp) ∧ Fld Z h o "com/example/siegelwerk/siegelwerk/DataObject" "mimeType" "Ljava/lang/String;" (.ref mi) ∧ Fld Z h o "com/example/siegelwerk/siegelwerk/DataObject" "description" "Ljava/lang/String;" y3 ∧ Ary Z h cp .byte vs) := by
  refine Met.walk pn_11 (Ls := #[.val (.ref ba), .val (.ref mi), .val y3]) (fun m => by simp [entryFrame, mkF, argsToLocals, XT.cat1 r3, show ∀ z, (Value.ref z).category = 1 from fun _ => rfl, show ∀ z, (Value.int z).category = 1 from fun _ => rfl, show Value.null.category = 1 from rfl]) ?_
  intro p e s m below meth c B
  refine B.newO 3 rfl d11_0 (wd hw 48 rfl) (wd hw 49 rfl) (wd hw 46 rfl) (by decide) (by decide) ?_
  intro h_o o e_o g_o X_o E_o D_o
  show B.G h_o 1 4 (mkF m 3 #[.val (.ref ba), .val (.ref mi), .val y3] [(.ref o)])
  have n_ba_o : ba ≠ o := fun q => absurd A.lt (by rw [q, e_o]; exact Nat.lt_irrefl _)
  have A_by_1 := A.ext X_o
  have E_by_1 := E.ext X_o
  have F0_o : Fld Z h_o o "com/example/siegelwerk/siegelwerk/DataObject" "xml" "Ljava/util/List;" .null := D_o (Or.inr (wd hw 69 rfl)) (ty := (.object "java/util/List")) (by decide)
  have F1_o : Fld Z h_o o "com/example/siegelwerk/siegelwerk/DataObject" "bytes" "[B" .null := D_o (Or.inr (wd hw 71 rfl)) (ty := (.array .byte)) (by decide)
  have F2_o : Fld Z h_o o "com/example/siegelwerk/siegelwerk/DataObject" "mimeType" "Ljava/lang/String;" .null := D_o (Or.inr (wd hw 73 rfl)) (ty := (.object "java/lang/String")) (by decide)
  have F3_o : Fld Z h_o o "com/example/siegelwerk/siegelwerk/DataObject" "description" "Ljava/lang/String;" .null := D_o (Or.inr (wd hw 75 rfl)) (ty := (.object "java/lang/String")) (by decide)
  refine B.dup 4 rfl d11_3 rfl ?_
  refine B.aconstNull 5 rfl d11_4 ?_
  refine B.aloadN 6 rfl d11_5 rfl rfl ?_
  refine B.clone 9 rfl d11_6 (wd hw 50 rfl) (wd hw 51 rfl) (wd hw 55 rfl) (wd hw 53 rfl) (wd hw 54 rfl) (wd hw 56 rfl) A_by_1 E_by_1 hfit rfl 3 rfl (by decide) (by decide) 3 hl (by decide) (by decide) ?_
  intro h2 cp ecp gcp X2 A2 E2
  show B.G h2 2 7 (mkF m 9 #[.val (.ref ba), .val (.ref mi), .val y3] [(.ref cp), .null, (.ref o), (.ref o)])
  have n_ba_cp : ba ≠ cp := fun q => absurd A_by_1.lt (by rw [q, ecp]; exact Nat.lt_irrefl _)
  have n_o_cp : o ≠ cp := fun q => absurd E_o.lt (by rw [q, ecp]; exact Nat.lt_irrefl _)
  have A_by_2 := A_by_1.ext X2
  have E_by_2 := E_by_1.ext X2
  have E_o_2 := E_o.ext X2
  have F0_o_2 := F0_o.ext X2
  have F1_o_2 := F1_o.ext X2
  have F2_o_2 := F2_o.ext X2
  have F3_o_2 := F3_o.ext X2
  refine B.castY 12 rfl d11_9 (wd hw 57 rfl) (Ins.self E2) ?_
  refine B.aloadN 13 rfl d11_12 rfl rfl ?_
  refine B.aloadN 14 rfl d11_13 rfl r3 ?_
  refine B.callI 17 rfl d11_14 rfl (wd hw 59 rfl) (wd hw 60 rfl) (wd hw 46 rfl) (wd hw 61 rfl) (by decide) [.null, (.ref cp), (.ref mi), y3] [(.ref o)] (rm_do l Z a0 hw o .null (.ref cp) (.ref mi) y3 h2 rfl rfl rfl rfl rfl rfl r3 f3 E_o_2 F0_o_2 F1_o_2 F2_o_2 F3_o_2) rfl rfl pd__Ljava_util_List__BLjava_lang_String_Ljava_lang_String__V rfl rfl 1 rfl (by decide) (by decide) (by decide) (by decide) (fun x z => Or.inr (by cases List.mem_singleton.mp z; exact g_o)) ?_
  rintro _ h3 K3 ⟨rfl, E3, G0, G1, G2, G3⟩
  show B.G h3 2 7 (mkF m 17 #[.val (.ref ba), .val (.ref mi), .val y3] [(.ref o)])
  have A_by_3 := A_by_2.keep K3 (ninS n_ba_o nin0)
  have E_by_3 := E_by_2.keep K3
  have E_o_3 := E_o_2.keep K3
  have A_cp_3 := A2.keep K3 (ninS (Ne.symm n_o_cp) nin0)
  have E_cp_3 := E2.keep K3
  refine B.retA rfl rfl d11_17 (by decide) (by decide) ?_
  exact ⟨o, cp, rfl, gcp, E3, G0, G1, G2, G3, A_cp_3⟩
theorem d14_0 : decode prog_13_method_10_code 0 = .ok (.aload_n 0, 1) := by decide +kernel
theorem d14_1 : decode prog_13_method_10_code 1 = .ok (.getfield 13, 3) := by decide +kernel
theorem d14_4 : decode prog_13_method_10_code 4 = .ok (.areturn, 1) := by decide +kernel
theorem pn_14 : plainFor (⟨"com/example/siegelwerk/siegelwerk/DataObject", "bytes", "()[B"⟩ : MethodName) = true := by first | exact plainFor_of_name (by first | (simp [plainName, overriddenIn]; done) | decide +kernel) | decide +kernel
set_option maxRecDepth 65536 in
set_option maxHeartbeats 4000000 in
theorem rm_by (l : Launch) (Z : State) (a0 : Array Value) (hw : ∀ d ∈ tables_1, d.before a0 Z = true) (a : Addr) (r : Addr) (h0 : Heap) (F : Fld Z h0 a "com/example/siegelwerk/siegelwerk/DataObject" "bytes" "[B" (.ref r)) :
    Met l Z (⟨"com/example/siegelwerk/siegelwerk/DataObject", "bytes", "()[B"⟩ : MethodName) prog_13_method_10_code 1 (some (.array .byte)) [] ({ frames := 0, cells := 0, slots := 0, locals := 0 } : Room) #[(.ref a)] h0 [] (fun v h => v = some (.ref r) ∧ h0 = h) := by
  refine Met.walk pn_14 (Ls := #[.val (.ref a)]) (fun m => by first | (simp [entryFrame, mkF, argsToLocals, Value.category, maxLocals]; done) | rfl) ?_
  intro p e s m below meth c B
  refine B.aloadN 1 rfl d14_0 rfl rfl ?_
  refine B.getF 4 rfl d14_1 (wd hw 70 rfl) F ?_
  refine B.retA rfl rfl d14_4 (by decide) (by decide) ?_
  exact ⟨rfl, rfl⟩
theorem d15_0 : decode prog_13_method_9_code 0 = .ok (.aload_n 0, 1) := by decide +kernel
theorem d15_1 : decode prog_13_method_9_code 1 = .ok (.getfield 7, 3) := by decide +kernel
theorem d15_4 : decode prog_13_method_9_code 4 = .ok (.areturn, 1) := by decide +kernel
theorem pn_15 : plainFor (⟨"com/example/siegelwerk/siegelwerk/DataObject", "xml", "()Ljava/util/List;"⟩ : MethodName) = true := by first | exact plainFor_of_name (by first | (simp [plainName, overriddenIn]; done) | decide +kernel) | decide +kernel
set_option maxRecDepth 65536 in
set_option maxHeartbeats 4000000 in
theorem rm_xm (l : Launch) (Z : State) (a0 : Array Value) (hw : ∀ d ∈ tables_1, d.before a0 Z = true) (a : Addr)  (h0 : Heap) (F : Fld Z h0 a "com/example/siegelwerk/siegelwerk/DataObject" "xml" "Ljava/util/List;" .null) :
    Met l Z (⟨"com/example/siegelwerk/siegelwerk/DataObject", "xml", "()Ljava/util/List;"⟩ : MethodName) prog_13_method_9_code 1 (some (.object "java/util/List")) [] ({ frames := 0, cells := 0, slots := 0, locals := 0 } : Room) #[(.ref a)] h0 [] (fun v h => v = some .null ∧ h0 = h) := by
  refine Met.walk pn_15 (Ls := #[.val (.ref a)]) (fun m => by first | (simp [entryFrame, mkF, argsToLocals, Value.category, maxLocals]; done) | rfl) ?_
  intro p e s m below meth c B
  refine B.aloadN 1 rfl d15_0 rfl rfl ?_
  refine B.getF 4 rfl d15_1 (wd hw 68 rfl) F ?_
  refine B.retA rfl rfl d15_4 (by decide) (by decide) ?_
  exact ⟨rfl, rfl⟩
theorem d17_0 : decode prog_13_method_11_code 0 = .ok (.aload_n 0, 1) := by decide +kernel
theorem d17_1 : decode prog_13_method_11_code 1 = .ok (.getfield 17, 3) := by decide +kernel
theorem d17_4 : decode prog_13_method_11_code 4 = .ok (.areturn, 1) := by decide +kernel
theorem pn_17 : plainFor (⟨"com/example/siegelwerk/siegelwerk/DataObject", "mimeType", "()Ljava/lang/String;"⟩ : MethodName) = true := by first | exact plainFor_of_name (by first | (simp [plainName, overriddenIn]; done) | decide +kernel) | decide +kernel
set_option maxRecDepth 65536 in
set_option maxHeartbeats 4000000 in
theorem rm_mi (l : Launch) (Z : State) (a0 : Array Value) (hw : ∀ d ∈ tables_1, d.before a0 Z = true) (a : Addr) (r : Addr) (h0 : Heap) (F : Fld Z h0 a "com/example/siegelwerk/siegelwerk/DataObject" "mimeType" "Ljava/lang/String;" (.ref r)) :
    Met l Z (⟨"com/example/siegelwerk/siegelwerk/DataObject", "mimeType", "()Ljava/lang/String;"⟩ : MethodName) prog_13_method_11_code 1 (some (.object "java/lang/String")) [] ({ frames := 0, cells := 0, slots := 0, locals := 0 } : Room) #[(.ref a)] h0 [] (fun v h => v = some (.ref r) ∧ h0 = h) := by
  refine Met.walk pn_17 (Ls := #[.val (.ref a)]) (fun m => by first | (simp [entryFrame, mkF, argsToLocals, Value.category, maxLocals]; done) | rfl) ?_
  intro p e s m below meth c B
  refine B.aloadN 1 rfl d17_0 rfl rfl ?_
  refine B.getF 4 rfl d17_1 (wd hw 72 rfl) F ?_
  refine B.retA rfl rfl d17_4 (by decide) (by decide) ?_
  exact ⟨rfl, rfl⟩
theorem d19_0 : decode prog_13_method_12_code 0 = .ok (.aload_n 0, 1) := by decide +kernel
theorem d19_1 : decode prog_13_method_12_code 1 = .ok (.getfield 21, 3) := by decide +kernel
theorem d19_4 : decode prog_13_method_12_code 4 = .ok (.areturn, 1) := by decide +kernel
theorem pn_19 : plainFor (⟨"com/example/siegelwerk/siegelwerk/DataObject", "description", "()Ljava/lang/String;"⟩ : MethodName) = true := by first | exact plainFor_of_name (by first | (simp [plainName, overriddenIn]; done) | decide +kernel) | decide +kernel
set_option maxRecDepth 65536 in
set_option maxHeartbeats 4000000 in
theorem rm_deN (l : Launch) (Z : State) (a0 : Array Value) (hw : ∀ d ∈ tables_1, d.before a0 Z = true) (a : Addr)  (h0 : Heap) (F : Fld Z h0 a "com/example/siegelwerk/siegelwerk/DataObject" "description" "Ljava/lang/String;" .null) :
    Met l Z (⟨"com/example/siegelwerk/siegelwerk/DataObject", "description", "()Ljava/lang/String;"⟩ : MethodName) prog_13_method_12_code 1 (some (.object "java/lang/String")) [] ({ frames := 0, cells := 0, slots := 0, locals := 0 } : Room) #[(.ref a)] h0 [] (fun v h => v = some .null ∧ h0 = h) := by
  refine Met.walk pn_19 (Ls := #[.val (.ref a)]) (fun m => by first | (simp [entryFrame, mkF, argsToLocals, Value.category, maxLocals]; done) | rfl) ?_
  intro p e s m below meth c B
  refine B.aloadN 1 rfl d19_0 rfl rfl ?_
  refine B.getF 4 rfl d19_1 (wd hw 74 rfl) F ?_
  refine B.retA rfl rfl d19_4 (by decide) (by decide) ?_
  exact ⟨rfl, rfl⟩
set_option maxRecDepth 65536 in
set_option maxHeartbeats 4000000 in
theorem rm_deR (l : Launch) (Z : State) (a0 : Array Value) (hw : ∀ d ∈ tables_1, d.before a0 Z = true) (a : Addr) (r : Addr) (h0 : Heap) (F : Fld Z h0 a "com/example/siegelwerk/siegelwerk/DataObject" "description" "Ljava/lang/String;" (.ref r)) :
    Met l Z (⟨"com/example/siegelwerk/siegelwerk/DataObject", "description", "()Ljava/lang/String;"⟩ : MethodName) prog_13_method_12_code 1 (some (.object "java/lang/String")) [] ({ frames := 0, cells := 0, slots := 0, locals := 0 } : Room) #[(.ref a)] h0 [] (fun v h => v = some (.ref r) ∧ h0 = h) := by
  refine Met.walk pn_19 (Ls := #[.val (.ref a)]) (fun m => by first | (simp [entryFrame, mkF, argsToLocals, Value.category, maxLocals]; done) | rfl) ?_
  intro p e s m below meth c B
  refine B.aloadN 1 rfl d19_0 rfl rfl ?_
  refine B.getF 4 rfl d19_1 (wd hw 74 rfl) F ?_
  refine B.retA rfl rfl d19_4 (by decide) (by decide) ?_
  exact ⟨rfl, rfl⟩
theorem d16_0 : decode prog_13_method_5_code 0 = .ok (.aload_n 0, 1) := by decide +kernel
theorem d16_1 : decode prog_13_method_5_code 1 = .ok (.getfield 7, 3) := by decide +kernel
theorem d16_4 : decode prog_13_method_5_code 4 = .ok (.ifnull 7, 3) := by decide +kernel
theorem d16_11 : decode prog_13_method_5_code 11 = .ok (.iconst 0, 1) := by decide +kernel
theorem d16_12 : decode prog_13_method_5_code 12 = .ok (.ireturn, 1) := by decide +kernel
theorem pn_16 : plainFor (⟨"com/example/siegelwerk/siegelwerk/DataObject", "isXml", "()Z"⟩ : MethodName) = true := by first | exact plainFor_of_name (by first | (simp [plainName, overriddenIn]; done) | decide +kernel) | decide +kernel
set_option maxRecDepth 65536 in
set_option maxHeartbeats 4000000 in
theorem rm_is (l : Launch) (Z : State) (a0 : Array Value) (hw : ∀ d ∈ tables_1, d.before a0 Z = true) (a : Addr) (h0 : Heap) (F : Fld Z h0 a "com/example/siegelwerk/siegelwerk/DataObject" "xml" "Ljava/util/List;" .null) :
    Met l Z (⟨"com/example/siegelwerk/siegelwerk/DataObject", "isXml", "()Z"⟩ : MethodName) prog_13_method_5_code 1 (some .boolean) [] ({ frames := 0, cells := 0, slots := 0, locals := 0 } : Room) #[(.ref a)] h0 [] (fun v h => v = some (.int (0 : Int32)) ∧ h0 = h) := by
  refine Met.walk pn_16 (Ls := #[.val (.ref a)]) (fun m => by first | (simp [entryFrame, mkF, argsToLocals, Value.category, maxLocals]; done) | rfl) ?_
  intro p e s m below meth c B
  refine B.aloadN 1 rfl d16_0 rfl rfl ?_
  refine B.getF 4 rfl d16_1 (wd hw 68 rfl) F ?_
  refine B.ifnull 11 7 rfl (by decide) rfl d16_4 rfl (fun c4 => ?_) (fun c4 => ?_)
  · refine B.iconst 12 rfl (0 : Int32) d16_11 rfl ?_
    refine B.retN (by simp) d16_12 (by decide) (by decide) ?_
    exact ⟨rfl, rfl⟩
  · exact absurd rfl c4
theorem d18_0 : decode jdk_42_method_66_code 0 = .ok (.aload_n 0, 1) := by decide +kernel
theorem d18_1 : decode jdk_42_method_66_code 1 = .ok (.aload_n 1, 1) := by decide +kernel
theorem d18_2 : decode jdk_42_method_66_code 2 = .ok (.if_acmp .ne 5, 3) := by decide +kernel
theorem d18_5 : decode jdk_42_method_66_code 5 = .ok (.iconst 1, 1) := by decide +kernel
theorem d18_6 : decode jdk_42_method_66_code 6 = .ok (.ireturn, 1) := by decide +kernel
theorem pn_18 : plainFor (⟨"java/lang/String", "equals", "(Ljava/lang/Object;)Z"⟩ : MethodName) = true := by first | exact plainFor_of_name (by first | (simp [plainName, overriddenIn]; done) | decide +kernel) | decide +kernel
set_option maxRecDepth 65536 in
set_option maxHeartbeats 4000000 in
theorem rm_eq (l : Launch) (Z : State) (a0 : Array Value) (hw : ∀ d ∈ tables_1, d.before a0 Z = true) (a : Addr) (h0 : Heap)  :
    Met l Z (⟨"java/lang/String", "equals", "(Ljava/lang/Object;)Z"⟩ : MethodName) jdk_42_method_66_code 3 (some .boolean) [] ({ frames := 0, cells := 0, slots := 0, locals := 0 } : Room) #[(.ref a), (.ref a)] h0 [] (fun v h => v = some (.int (1 : Int32)) ∧ h0 = h) := by
  refine Met.walk pn_18 (Ls := #[.val (.ref a), .val (.ref a), .unset]) (fun m => by first | (simp [entryFrame, mkF, argsToLocals, Value.category, maxLocals]; done) | rfl) ?_
  intro p e s m below meth c B
  refine B.aloadN 1 rfl d18_0 rfl rfl ?_
  refine B.aloadN 2 rfl d18_1 rfl rfl ?_
  refine B.acmp_ne 7 5 rfl (by decide) rfl d18_2 rfl rfl (fun c2 => ?_) (fun c2 => ?_)
  · exact absurd rfl c2
  · refine B.iconst 6 rfl (1 : Int32) d18_5 rfl ?_
    refine B.retN (by simp) d18_6 (by decide) (by decide) ?_
    exact ⟨rfl, rfl⟩
theorem pn_0 : plainFor x = true := by first | exact plainFor_of_name (by first | (simp [plainName, overriddenIn]; done) | decide +kernel) | decide +kernel
set_option maxRecDepth 65536 in
set_option maxHeartbeats 4000000 in
theorem rm0 (l : Launch) (Z : State) (a0 : Array Value) (hw : ∀ d ∈ tables_1, d.before a0 Z = true) (wds : List Jvm.Cond) (p1 p2 p3 : Int32) (h0 : Heap) (cs : Int32) (hcs : ¬ cs = 0) (Ss : Sta Z h0 "java/lang/String" "COMPACT_STRINGS" "Z" (.int cs)) :
    Met l Z x code maxLocals ret wds room_1 #[(.int p1), (.int p2), (.int p3)] h0 [] (fun v _ => v = some (.int 1)) := by
  refine Met.walk pn_0 (Ls := #[.val (.int p1), .val (.int p2), .val (.int p3), .unset, .unset, .unset, .unset, .unset, .unset, .unset, .unset, .unset, .unset, .unset, .unset, .unset, .unset]) (fun m => by first | (simp [entryFrame, mkF, argsToLocals, Value.category, maxLocals]; done) | rfl) ?_
  intro p e s m below meth c B
  refine B.iloadN 1 rfl at_0 rfl ?_
  refine B.i2b 2 rfl at_1 ?_
  refine B.istoreN 3 rfl at_2 #[.val (.int p1), .val (.int p2), .val (.int p3), .val (.int ((p1).toInt8.toInt32)), .unset, .unset, .unset, .unset, .unset, .unset, .unset, .unset, .unset, .unset, .unset, .unset, .unset] rfl ?_
  refine B.iloadN 4 rfl at_3 rfl ?_
  refine B.bipush 6 rfl (8 : Int32) at_4 rfl ?_
  refine B.ishr 7 rfl at_6 ?_
  refine B.i2b 8 rfl at_7 ?_
  refine B.istore 10 rfl at_8 #[.val (.int p1), .val (.int p2), .val (.int p3), .val (.int ((p1).toInt8.toInt32)), .val (.int (((p1 >>> ((8 : Int32) &&& 31))).toInt8.toInt32)), .unset, .unset, .unset, .unset, .unset, .unset, .unset, .unset, .unset, .unset, .unset, .unset] rfl ?_
  refine B.iloadN 11 rfl at_10 rfl ?_
  refine B.bipush 13 rfl (16 : Int32) at_11 rfl ?_
  refine B.ishr 14 rfl at_13 ?_
  refine B.i2b 15 rfl at_14 ?_
  refine B.istore 17 rfl at_15 #[.val (.int p1), .val (.int p2), .val (.int p3), .val (.int ((p1).toInt8.toInt32)), .val (.int (((p1 >>> ((8 : Int32) &&& 31))).toInt8.toInt32)), .val (.int (((p1 >>> ((16 : Int32) &&& 31))).toInt8.toInt32)), .unset, .unset, .unset, .unset, .unset, .unset, .unset, .unset, .unset, .unset, .unset] rfl ?_
  refine B.iconst 18 rfl (3 : Int32) at_17 rfl ?_
  refine B.newPE 20 rfl at_18 (wd hw 0 rfl) (by decide) 3 (by decide) (by decide) (by decide) (by decide) "[B" rfl ?_
  intro h_fu fu e_fu g_fu X_fu A_fu E_fu
  replace A_fu : Ary Z h_fu fu .byte [(.int (0 : Int32)), (.int (0 : Int32)), (.int (0 : Int32))] := A_fu
  show B.G h_fu 1 3 (mkF m 20 #[.val (.int p1), .val (.int p2), .val (.int p3), .val (.int ((p1).toInt8.toInt32)), .val (.int (((p1 >>> ((8 : Int32) &&& 31))).toInt8.toInt32)), .val (.int (((p1 >>> ((16 : Int32) &&& 31))).toInt8.toInt32)), .unset, .unset, .unset, .unset, .unset, .unset, .unset, .unset, .unset, .unset, .unset] [(.ref fu)])
  refine B.dup 21 rfl at_20 rfl ?_
  refine B.iconst 22 rfl (0 : Int32) at_21 rfl ?_
  refine B.iloadN 23 rfl at_22 rfl ?_
  refine B.bastore 24 rfl at_23 A_fu (by decide) 0 rfl (by simp) (Or.inr g_fu) ?_
  intro hs1 Ws1 As1
  rw [own_b] at As1
  replace As1 : Ary Z hs1 fu .byte [(.int ((p1).toInt8.toInt32)), (.int (0 : Int32)), (.int (0 : Int32))] := As1
  have E_fu_2 := E_fu.wr Ws1
  refine B.dup 25 rfl at_24 rfl ?_
  refine B.iconst 26 rfl (1 : Int32) at_25 rfl ?_
  refine B.iload 28 rfl at_26 rfl ?_
  refine B.bastore 29 rfl at_28 As1 (by decide) 1 rfl (by simp) (Or.inr g_fu) ?_
  intro hs2 Ws2 As2
  rw [own_b] at As2
  replace As2 : Ary Z hs2 fu .byte [(.int ((p1).toInt8.toInt32)), (.int (((p1 >>> ((8 : Int32) &&& 31))).toInt8.toInt32)), (.int (0 : Int32))] := As2
  have E_fu_3 := E_fu_2.wr Ws2
  refine B.dup 30 rfl at_29 rfl ?_
  refine B.iconst 31 rfl (2 : Int32) at_30 rfl ?_
  refine B.iload 33 rfl at_31 rfl ?_
  refine B.bastore 34 rfl at_33 As2 (by decide) 2 rfl (by simp) (Or.inr g_fu) ?_
  intro hs3 Ws3 As3
  rw [own_b] at As3
  replace As3 : Ary Z hs3 fu .byte [(.int ((p1).toInt8.toInt32)), (.int (((p1 >>> ((8 : Int32) &&& 31))).toInt8.toInt32)), (.int (((p1 >>> ((16 : Int32) &&& 31))).toInt8.toInt32))] := As3
  have E_fu_4 := E_fu_3.wr Ws3
  refine B.astore 36 rfl at_34 rfl #[.val (.int p1), .val (.int p2), .val (.int p3), .val (.int ((p1).toInt8.toInt32)), .val (.int (((p1 >>> ((8 : Int32) &&& 31))).toInt8.toInt32)), .val (.int (((p1 >>> ((16 : Int32) &&& 31))).toInt8.toInt32)), .val (.ref fu), .unset, .unset, .unset, .unset, .unset, .unset, .unset, .unset, .unset, .unset] rfl ?_
  refine B.iconst 37 rfl (0 : Int32) at_36 rfl ?_
  refine B.newPE 39 rfl at_37 (wd hw 0 rfl) (by decide) 0 (by decide) (by decide) (by decide) (by decide) "[B" rfl ?_
  intro h_em em e_em g_em X_em A_em E_em
  replace A_em : Ary Z h_em em .byte [] := A_em
  show B.G h_em 2 3 (mkF m 39 #[.val (.int p1), .val (.int p2), .val (.int p3), .val (.int ((p1).toInt8.toInt32)), .val (.int (((p1 >>> ((8 : Int32) &&& 31))).toInt8.toInt32)), .val (.int (((p1 >>> ((16 : Int32) &&& 31))).toInt8.toInt32)), .val (.ref fu), .unset, .unset, .unset, .unset, .unset, .unset, .unset, .unset, .unset, .unset] [(.ref em)])
  have n_fu_em : fu ≠ em := fun q => absurd E_fu_4.lt (by rw [q, e_em]; exact Nat.lt_irrefl _)
  have E_fu_5 := E_fu_4.ext X_em
  have A_fu_5 := As3.ext X_em
  refine B.astore 41 rfl at_39 rfl #[.val (.int p1), .val (.int p2), .val (.int p3), .val (.int ((p1).toInt8.toInt32)), .val (.int (((p1 >>> ((8 : Int32) &&& 31))).toInt8.toInt32)), .val (.int (((p1 >>> ((16 : Int32) &&& 31))).toInt8.toInt32)), .val (.ref fu), .val (.ref em), .unset, .unset, .unset, .unset, .unset, .unset, .unset, .unset, .unset] rfl ?_
  refine B.iloadN 42 rfl at_41 rfl ?_
  refine B.iconst 43 rfl (2 : Int32) at_42 rfl ?_
  refine B.iand 44 rfl at_43 ?_
  refine B.if0_eq 51 47 rfl (by decide) rfl at_44 (fun c44 => ?_) (fun c44 => ?_)
  · refine B.iconst 52 rfl (0 : Int32) at_51 rfl ?_
    refine B.istore 54 rfl at_52 #[.val (.int p1), .val (.int p2), .val (.int p3), .val (.int ((p1).toInt8.toInt32)), .val (.int (((p1 >>> ((8 : Int32) &&& 31))).toInt8.toInt32)), .val (.int (((p1 >>> ((16 : Int32) &&& 31))).toInt8.toInt32)), .val (.ref fu), .val (.ref em), .val (.int (0 : Int32)), .unset, .unset, .unset, .unset, .unset, .unset, .unset, .unset] rfl ?_
    refine B.iload 56 rfl at_54 rfl ?_
    refine B.if0_eq 64 59 rfl (by decide) rfl at_56 (fun c56 => ?_) (fun c56 => ?_)
    · refine B.aload 66 rfl at_64 rfl rfl ?_
      refine B.astore 68 rfl at_66 rfl #[.val (.int p1), .val (.int p2), .val (.int p3), .val (.int ((p1).toInt8.toInt32)), .val (.int (((p1 >>> ((8 : Int32) &&& 31))).toInt8.toInt32)), .val (.int (((p1 >>> ((16 : Int32) &&& 31))).toInt8.toInt32)), .val (.ref fu), .val (.ref em), .val (.int (0 : Int32)), .val (.ref fu), .unset, .unset, .unset, .unset, .unset, .unset, .unset] rfl ?_
      refine B.iconst 69 rfl (2 : Int32) at_68 rfl ?_
      refine B.newP 71 rfl at_69 (wd hw 1 rfl) (by decide) 2 (by decide) (by decide) (by decide) (by decide) ?_
      intro h_mc mc e_mc g_mc X_mc A_mc
      replace A_mc : Ary Z h_mc mc .char [(.int (0 : Int32)), (.int (0 : Int32))] := A_mc
      show B.G h_mc 3 5 (mkF m 71 #[.val (.int p1), .val (.int p2), .val (.int p3), .val (.int ((p1).toInt8.toInt32)), .val (.int (((p1 >>> ((8 : Int32) &&& 31))).toInt8.toInt32)), .val (.int (((p1 >>> ((16 : Int32) &&& 31))).toInt8.toInt32)), .val (.ref fu), .val (.ref em), .val (.int (0 : Int32)), .val (.ref fu), .unset, .unset, .unset, .unset, .unset, .unset, .unset] [(.ref mc)])
      have n_em_mc : em ≠ mc := fun q => absurd A_em.lt (by rw [q, e_mc]; exact Nat.lt_irrefl _)
      have n_fu_mc : fu ≠ mc := fun q => absurd E_fu_5.lt (by rw [q, e_mc]; exact Nat.lt_irrefl _)
      have E_fu_6 := E_fu_5.ext X_mc
      have A_fu_6 := A_fu_5.ext X_mc
      have A_em_6 := A_em.ext X_mc
      have E_em_6 := E_em.ext X_mc
      refine B.dup 72 rfl at_71 rfl ?_
      refine B.iconst 73 rfl (0 : Int32) at_72 rfl ?_
      refine B.iloadN 74 rfl at_73 rfl ?_
      refine B.sipush 77 rfl (255 : Int32) at_74 rfl ?_
      refine B.iand 78 rfl at_77 ?_
      refine B.i2c 79 rfl at_78 ?_
      refine B.topI (p2 &&& (255 : Int32)) (i2c_mask p2) ?_
      refine B.castore 80 rfl at_79 A_mc (by decide) 0 rfl (by simp) (Or.inr g_mc) ?_
      intro hs4 Ws4 As4
      rw [i2c_mask] at As4
      replace As4 : Ary Z hs4 mc .char [(.int (p2 &&& (255 : Int32))), (.int (0 : Int32))] := As4
      have E_fu_7 := E_fu_6.wr Ws4
      have A_fu_7 := A_fu_6.other Ws4 n_fu_mc
      have A_em_7 := A_em_6.other Ws4 n_em_mc
      have E_em_7 := E_em_6.wr Ws4
      refine B.dup 81 rfl at_80 rfl ?_
      refine B.iconst 82 rfl (1 : Int32) at_81 rfl ?_
      refine B.iloadN 83 rfl at_82 rfl ?_
      refine B.bipush 85 rfl (8 : Int32) at_83 rfl ?_
      refine B.iushr 86 rfl at_85 ?_
      refine B.sipush 89 rfl (255 : Int32) at_86 rfl ?_
      refine B.iand 90 rfl at_89 ?_
      refine B.i2c 91 rfl at_90 ?_
      refine B.topI ((XT.ushr p2 (8 : Int32)) &&& (255 : Int32)) (i2c_mask (XT.ushr p2 (8 : Int32))) ?_
      refine B.castore 92 rfl at_91 As4 (by decide) 1 rfl (by simp) (Or.inr g_mc) ?_
      intro hs5 Ws5 As5
      rw [i2c_mask] at As5
      replace As5 : Ary Z hs5 mc .char [(.int (p2 &&& (255 : Int32))), (.int ((XT.ushr p2 (8 : Int32)) &&& (255 : Int32)))] := As5
      have E_fu_8 := E_fu_7.wr Ws5
      have A_fu_8 := A_fu_7.other Ws5 n_fu_mc
      have A_em_8 := A_em_7.other Ws5 n_em_mc
      have E_em_8 := E_em_7.wr Ws5
      refine B.astore 94 rfl at_92 rfl #[.val (.int p1), .val (.int p2), .val (.int p3), .val (.int ((p1).toInt8.toInt32)), .val (.int (((p1 >>> ((8 : Int32) &&& 31))).toInt8.toInt32)), .val (.int (((p1 >>> ((16 : Int32) &&& 31))).toInt8.toInt32)), .val (.ref fu), .val (.ref em), .val (.int (0 : Int32)), .val (.ref fu), .val (.ref mc), .unset, .unset, .unset, .unset, .unset, .unset] rfl ?_
      refine B.newO 97 rfl at_94 (wd hw 2 rfl) (wd hw 3 rfl) (wd hw 4 rfl) (by decide) (by decide) ?_
      intro h_s1 s1 e_s1 g_s1 X_s1 E_s1 D_s1
      show B.G h_s1 4 9 (mkF m 97 #[.val (.int p1), .val (.int p2), .val (.int p3), .val (.int ((p1).toInt8.toInt32)), .val (.int (((p1 >>> ((8 : Int32) &&& 31))).toInt8.toInt32)), .val (.int (((p1 >>> ((16 : Int32) &&& 31))).toInt8.toInt32)), .val (.ref fu), .val (.ref em), .val (.int (0 : Int32)), .val (.ref fu), .val (.ref mc), .unset, .unset, .unset, .unset, .unset, .unset] [(.ref s1)])
      have n_em_s1 : em ≠ s1 := fun q => absurd A_em_8.lt (by rw [q, e_s1]; exact Nat.lt_irrefl _)
      have n_fu_s1 : fu ≠ s1 := fun q => absurd E_fu_8.lt (by rw [q, e_s1]; exact Nat.lt_irrefl _)
      have n_mc_s1 : mc ≠ s1 := fun q => absurd As5.lt (by rw [q, e_s1]; exact Nat.lt_irrefl _)
      have E_fu_9 := E_fu_8.ext X_s1
      have A_fu_9 := A_fu_8.ext X_s1
      have A_em_9 := A_em_8.ext X_s1
      have E_em_9 := E_em_8.ext X_s1
      have A_mc_9 := As5.ext X_s1
      have F0_s1 : Fld Z h_s1 s1 "java/lang/String" "coder" "B" (.int 0) := D_s1 (Or.inr (wd hw 27 rfl)) (ty := .byte) (by decide)
      have F1_s1 : Fld Z h_s1 s1 "java/lang/String" "value" "[B" .null := D_s1 (Or.inr (wd hw 29 rfl)) (ty := (.array .byte)) (by decide)
      refine B.dup 98 rfl at_97 rfl ?_
      refine B.aload 100 rfl at_98 rfl rfl ?_
      refine B.olds fun Y6 => ?_
      refine B.callI 103 rfl at_100 rfl (wd hw 5 rfl) (wd hw 6 rfl) (wd hw 4 rfl) (wd hw 7 rfl) (by decide) [(.ref mc)] [(.ref s1)] (rm_st2 l Z a0 hw s1 mc cs (p2 &&& 255) ((XT.ushr p2 (8 : Int32)) &&& 255) h_s1 hcs (Ss.ext Y6) E_s1 F0_s1 F1_s1 A_mc_9 (own_c p2) (own_c (XT.ushr p2 (8 : Int32)))) rfl rfl pd___C_V rfl rfl 1 rfl (by decide) (by decide) (by decide) (by decide) (fun x z => Or.inr (by cases List.mem_singleton.mp z; exact g_s1)) ?_
      rintro _ h_s1b K_s1 ⟨rfl, E_s1b, -⟩
      show B.G h_s1b 5 11 (mkF m 103 #[.val (.int p1), .val (.int p2), .val (.int p3), .val (.int ((p1).toInt8.toInt32)), .val (.int (((p1 >>> ((8 : Int32) &&& 31))).toInt8.toInt32)), .val (.int (((p1 >>> ((16 : Int32) &&& 31))).toInt8.toInt32)), .val (.ref fu), .val (.ref em), .val (.int (0 : Int32)), .val (.ref fu), .val (.ref mc), .unset, .unset, .unset, .unset, .unset, .unset] [(.ref s1)])
      have E_fu_10 := E_fu_9.keep K_s1
      have A_fu_10 := A_fu_9.keep K_s1 (ninS n_fu_s1 nin0)
      have A_em_10 := A_em_9.keep K_s1 (ninS n_em_s1 nin0)
      have E_em_10 := E_em_9.keep K_s1
      have A_mc_10 := A_mc_9.keep K_s1 (ninS n_mc_s1 nin0)
      have E_s1_10 := E_s1.keep K_s1
      refine B.astore 105 rfl at_103 rfl #[.val (.int p1), .val (.int p2), .val (.int p3), .val (.int ((p1).toInt8.toInt32)), .val (.int (((p1 >>> ((8 : Int32) &&& 31))).toInt8.toInt32)), .val (.int (((p1 >>> ((16 : Int32) &&& 31))).toInt8.toInt32)), .val (.ref fu), .val (.ref em), .val (.int (0 : Int32)), .val (.ref fu), .val (.ref mc), .val (.ref s1), .unset, .unset, .unset, .unset, .unset] rfl ?_
      refine B.iloadN 106 rfl at_105 rfl ?_
      refine B.iconst 107 rfl (1 : Int32) at_106 rfl ?_
      refine B.iand 108 rfl at_107 ?_
      refine B.if0_eq 115 111 rfl (by decide) rfl at_108 (fun c108 => ?_) (fun c108 => ?_)
      · refine B.iloadN 116 rfl at_115 rfl ?_
        refine B.bipush 118 rfl (16 : Int32) at_116 rfl ?_
        refine B.iushr 119 rfl at_118 ?_
        refine B.sipush 122 rfl (255 : Int32) at_119 rfl ?_
        refine B.iand 123 rfl at_122 ?_
        refine B.i2c 124 rfl at_123 ?_
        refine B.topI ((XT.ushr p2 (16 : Int32)) &&& (255 : Int32)) (i2c_mask (XT.ushr p2 (16 : Int32))) ?_
        refine B.olds fun Y7 => ?_
        refine B.callS 127 rfl at_124 (wd hw 30 rfl) (wd hw 31 rfl) (wd hw 4 rfl) (wd hw 32 rfl) (by decide) [(.int ((XT.ushr p2 (16 : Int32)) &&& (255 : Int32)))] [] (rm_vo l Z a0 hw cs ((XT.ushr p2 (16 : Int32)) &&& 255) h_s1b hcs (Ss.ext Y7) (own_c (XT.ushr p2 (16 : Int32)))) rfl rfl pd__C_Ljava_lang_String_ rfl rfl 0 rfl (by decide) (by decide) (by decide) (by decide) (fun _ q => nomatch q) ?_
        rintro _ h_ds K_ds ⟨ds, rfl, g_ds, E_ds⟩
        show B.G h_ds 7 16 (mkF m 127 #[.val (.int p1), .val (.int p2), .val (.int p3), .val (.int ((p1).toInt8.toInt32)), .val (.int (((p1 >>> ((8 : Int32) &&& 31))).toInt8.toInt32)), .val (.int (((p1 >>> ((16 : Int32) &&& 31))).toInt8.toInt32)), .val (.ref fu), .val (.ref em), .val (.int (0 : Int32)), .val (.ref fu), .val (.ref mc), .val (.ref s1), .unset, .unset, .unset, .unset, .unset] [(.ref ds)])
        have E_fu_11 := E_fu_10.keep K_ds
        have A_fu_11 := A_fu_10.keep K_ds nin0
        have A_em_11 := A_em_10.keep K_ds nin0
        have E_em_11 := E_em_10.keep K_ds
        have A_mc_11 := A_mc_10.keep K_ds nin0
        have E_s1_11 := E_s1_10.keep K_ds
        refine B.astore 129 rfl at_127 rfl #[.val (.int p1), .val (.int p2), .val (.int p3), .val (.int ((p1).toInt8.toInt32)), .val (.int (((p1 >>> ((8 : Int32) &&& 31))).toInt8.toInt32)), .val (.int (((p1 >>> ((16 : Int32) &&& 31))).toInt8.toInt32)), .val (.ref fu), .val (.ref em), .val (.int (0 : Int32)), .val (.ref fu), .val (.ref mc), .val (.ref s1), .val (.ref ds), .unset, .unset, .unset, .unset] rfl ?_
        refine B.aload 131 rfl at_129 rfl rfl ?_
        refine B.aload 133 rfl at_131 rfl rfl ?_
        refine B.aload 135 rfl at_133 rfl rfl ?_
        refine B.callS 138 rfl at_135 (wd hw 44 rfl) (wd hw 45 rfl) (wd hw 46 rfl) (wd hw 47 rfl) (by decide) [(.ref fu), (.ref s1), (.ref ds)] [] (rm_of l Z a0 hw fu s1 (.ref ds) [(.int ((p1).toInt8.toInt32)), (.int (((p1 >>> ((8 : Int32) &&& 31))).toInt8.toInt32)), (.int (((p1 >>> ((16 : Int32) &&& 31))).toInt8.toInt32))] h_ds rfl rfl A_fu_11 E_fu_11 (fun v hv => by simp only [List.mem_cons, List.not_mem_nil, or_false] at hv; rcases hv with rfl | rfl | rfl <;> exact own_fb _) (by simp)) rfl rfl pd___BLjava_lang_String_Ljava_lang_String__Lcom_example_siegelwerk_siegelwerk_DataObject_ rfl rfl 0 rfl (by decide) (by decide) (by decide) (by decide) (fun _ q => nomatch q) ?_
        rintro _ h_o K_o ⟨o, cp, rfl, g_cp, E_o, G0, G1, G2, G3, A_cp⟩
        show B.G h_o 9 23 (mkF m 138 #[.val (.int p1), .val (.int p2), .val (.int p3), .val (.int ((p1).toInt8.toInt32)), .val (.int (((p1 >>> ((8 : Int32) &&& 31))).toInt8.toInt32)), .val (.int (((p1 >>> ((16 : Int32) &&& 31))).toInt8.toInt32)), .val (.ref fu), .val (.ref em), .val (.int (0 : Int32)), .val (.ref fu), .val (.ref mc), .val (.ref s1), .val (.ref ds), .unset, .unset, .unset, .unset] [(.ref o)])
        have n_fu_cp : fu ≠ cp := fun q => absurd A_fu_11.lt (by rw [q]; exact Nat.not_lt.mpr g_cp)
        have n_em_cp : em ≠ cp := fun q => absurd A_em_11.lt (by rw [q]; exact Nat.not_lt.mpr g_cp)
        have E_fu_12 := E_fu_11.keep K_o
        have A_fu_12 := A_fu_11.keep K_o nin0
        have A_em_12 := A_em_11.keep K_o nin0
        have E_em_12 := E_em_11.keep K_o
        have A_mc_12 := A_mc_11.keep K_o nin0
        have E_s1_12 := E_s1_11.keep K_o
        have E_ds_12 := E_ds.keep K_o
        refine B.astore 140 rfl at_138 rfl #[.val (.int p1), .val (.int p2), .val (.int p3), .val (.int ((p1).toInt8.toInt32)), .val (.int (((p1 >>> ((8 : Int32) &&& 31))).toInt8.toInt32)), .val (.int (((p1 >>> ((16 : Int32) &&& 31))).toInt8.toInt32)), .val (.ref fu), .val (.ref em), .val (.int (0 : Int32)), .val (.ref fu), .val (.ref mc), .val (.ref s1), .val (.ref ds), .val (.ref o), .unset, .unset, .unset] rfl ?_
        refine B.aload 142 rfl at_140 rfl rfl ?_
        refine B.callV 145 rfl at_142 (wd hw 76 rfl) (wd hw 77 rfl) (wd hw 79 rfl) (wd hw 78 rfl) (wd hw 46 rfl) (wd hw 80 rfl) (by decide) E_o [] [] (rm_by l Z a0 hw o cp h_o G1) rfl rfl pd____B rfl rfl 0 rfl (by decide) (by decide) (by decide) (by decide) (fun _ q => nomatch q) ?_
        rintro _ _ - ⟨rfl, rfl⟩
        show B.G h_o 9 23 (mkF m 145 #[.val (.int p1), .val (.int p2), .val (.int p3), .val (.int ((p1).toInt8.toInt32)), .val (.int (((p1 >>> ((8 : Int32) &&& 31))).toInt8.toInt32)), .val (.int (((p1 >>> ((16 : Int32) &&& 31))).toInt8.toInt32)), .val (.ref fu), .val (.ref em), .val (.int (0 : Int32)), .val (.ref fu), .val (.ref mc), .val (.ref s1), .val (.ref ds), .val (.ref o), .unset, .unset, .unset] [(.ref cp)])
        refine B.astore 147 rfl at_145 rfl #[.val (.int p1), .val (.int p2), .val (.int p3), .val (.int ((p1).toInt8.toInt32)), .val (.int (((p1 >>> ((8 : Int32) &&& 31))).toInt8.toInt32)), .val (.int (((p1 >>> ((16 : Int32) &&& 31))).toInt8.toInt32)), .val (.ref fu), .val (.ref em), .val (.int (0 : Int32)), .val (.ref fu), .val (.ref mc), .val (.ref s1), .val (.ref ds), .val (.ref o), .val (.ref cp), .unset, .unset] rfl ?_
        refine B.aload 149 rfl at_147 rfl rfl ?_
        refine B.callV 152 rfl at_149 (wd hw 81 rfl) (wd hw 82 rfl) (wd hw 84 rfl) (wd hw 83 rfl) (wd hw 46 rfl) (wd hw 85 rfl) (by decide) E_o [] [] (rm_xm l Z a0 hw o h_o G0) rfl rfl pd___Ljava_util_List_ rfl rfl 0 rfl (by decide) (by decide) (by decide) (by decide) (fun _ q => nomatch q) ?_
        rintro _ _ - ⟨rfl, rfl⟩
        show B.G h_o 9 23 (mkF m 152 #[.val (.int p1), .val (.int p2), .val (.int p3), .val (.int ((p1).toInt8.toInt32)), .val (.int (((p1 >>> ((8 : Int32) &&& 31))).toInt8.toInt32)), .val (.int (((p1 >>> ((16 : Int32) &&& 31))).toInt8.toInt32)), .val (.ref fu), .val (.ref em), .val (.int (0 : Int32)), .val (.ref fu), .val (.ref mc), .val (.ref s1), .val (.ref ds), .val (.ref o), .val (.ref cp), .unset, .unset] [.null])
        refine B.ifnull 157 155 rfl (by decide) rfl at_152 rfl (fun c152 => ?_) (fun c152 => ?_)
        · refine B.aload 159 rfl at_157 rfl rfl ?_
          refine B.callV 162 rfl at_159 (wd hw 86 rfl) (wd hw 87 rfl) (wd hw 89 rfl) (wd hw 88 rfl) (wd hw 46 rfl) (wd hw 90 rfl) (by decide) E_o [] [] (rm_is l Z a0 hw o h_o G0) rfl rfl pd___Z rfl rfl 0 rfl (by decide) (by decide) (by decide) (by decide) (fun _ q => nomatch q) ?_
          rintro _ _ - ⟨rfl, rfl⟩
          show B.G h_o 9 23 (mkF m 162 #[.val (.int p1), .val (.int p2), .val (.int p3), .val (.int ((p1).toInt8.toInt32)), .val (.int (((p1 >>> ((8 : Int32) &&& 31))).toInt8.toInt32)), .val (.int (((p1 >>> ((16 : Int32) &&& 31))).toInt8.toInt32)), .val (.ref fu), .val (.ref em), .val (.int (0 : Int32)), .val (.ref fu), .val (.ref mc), .val (.ref s1), .val (.ref ds), .val (.ref o), .val (.ref cp), .unset, .unset] [(.int (0 : Int32))])
          refine B.if0_eq 167 165 rfl (by decide) rfl at_162 (fun c162 => ?_) (fun c162 => ?_)
          · refine B.aload 169 rfl at_167 rfl rfl ?_
            refine B.callV 172 rfl at_169 (wd hw 91 rfl) (wd hw 92 rfl) (wd hw 94 rfl) (wd hw 93 rfl) (wd hw 46 rfl) (wd hw 95 rfl) (by decide) E_o [] [] (rm_mi l Z a0 hw o s1 h_o G2) rfl rfl pd___Ljava_lang_String_ rfl rfl 0 rfl (by decide) (by decide) (by decide) (by decide) (fun _ q => nomatch q) ?_
            rintro _ _ - ⟨rfl, rfl⟩
            show B.G h_o 9 23 (mkF m 172 #[.val (.int p1), .val (.int p2), .val (.int p3), .val (.int ((p1).toInt8.toInt32)), .val (.int (((p1 >>> ((8 : Int32) &&& 31))).toInt8.toInt32)), .val (.int (((p1 >>> ((16 : Int32) &&& 31))).toInt8.toInt32)), .val (.ref fu), .val (.ref em), .val (.int (0 : Int32)), .val (.ref fu), .val (.ref mc), .val (.ref s1), .val (.ref ds), .val (.ref o), .val (.ref cp), .unset, .unset] [(.ref s1)])
            refine B.astore 174 rfl at_172 rfl #[.val (.int p1), .val (.int p2), .val (.int p3), .val (.int ((p1).toInt8.toInt32)), .val (.int (((p1 >>> ((8 : Int32) &&& 31))).toInt8.toInt32)), .val (.int (((p1 >>> ((16 : Int32) &&& 31))).toInt8.toInt32)), .val (.ref fu), .val (.ref em), .val (.int (0 : Int32)), .val (.ref fu), .val (.ref mc), .val (.ref s1), .val (.ref ds), .val (.ref o), .val (.ref cp), .val (.ref s1), .unset] rfl ?_
            refine B.aload 176 rfl at_174 rfl rfl ?_
            refine B.ifnull 189 179 rfl (by decide) rfl at_176 rfl (fun c176 => ?_) (fun c176 => ?_)
            · exact absurd c176 (by simp)
            · refine B.aload 181 rfl at_179 rfl rfl ?_
              refine B.aload 183 rfl at_181 rfl rfl ?_
              refine B.callV 186 rfl at_183 (wd hw 96 rfl) (wd hw 97 rfl) (wd hw 99 rfl) (wd hw 98 rfl) (wd hw 4 rfl) (wd hw 100 rfl) (by decide) E_s1_12 [(.ref s1)] [] (rm_eq l Z a0 hw s1 h_o) rfl rfl pd__Ljava_lang_Object__Z rfl rfl 0 rfl (by decide) (by decide) (by decide) (by decide) (fun _ q => nomatch q) ?_
              rintro _ _ - ⟨rfl, rfl⟩
              show B.G h_o 9 23 (mkF m 186 #[.val (.int p1), .val (.int p2), .val (.int p3), .val (.int ((p1).toInt8.toInt32)), .val (.int (((p1 >>> ((8 : Int32) &&& 31))).toInt8.toInt32)), .val (.int (((p1 >>> ((16 : Int32) &&& 31))).toInt8.toInt32)), .val (.ref fu), .val (.ref em), .val (.int (0 : Int32)), .val (.ref fu), .val (.ref mc), .val (.ref s1), .val (.ref ds), .val (.ref o), .val (.ref cp), .val (.ref s1), .unset] [(.int (1 : Int32))])
              refine B.if0_ne 191 189 rfl (by decide) rfl at_186 (fun c186 => ?_) (fun c186 => ?_)
              · refine B.aload 193 rfl at_191 rfl rfl ?_
                refine B.callV 196 rfl at_193 (wd hw 101 rfl) (wd hw 102 rfl) (wd hw 104 rfl) (wd hw 103 rfl) (wd hw 46 rfl) (wd hw 105 rfl) (by decide) E_o [] [] (rm_deR l Z a0 hw o ds h_o G3) rfl rfl pd___Ljava_lang_String_ rfl rfl 0 rfl (by decide) (by decide) (by decide) (by decide) (fun _ q => nomatch q) ?_
                rintro _ _ - ⟨rfl, rfl⟩
                show B.G h_o 9 23 (mkF m 196 #[.val (.int p1), .val (.int p2), .val (.int p3), .val (.int ((p1).toInt8.toInt32)), .val (.int (((p1 >>> ((8 : Int32) &&& 31))).toInt8.toInt32)), .val (.int (((p1 >>> ((16 : Int32) &&& 31))).toInt8.toInt32)), .val (.ref fu), .val (.ref em), .val (.int (0 : Int32)), .val (.ref fu), .val (.ref mc), .val (.ref s1), .val (.ref ds), .val (.ref o), .val (.ref cp), .val (.ref s1), .unset] [(.ref ds)])
                refine B.astore 198 rfl at_196 rfl #[.val (.int p1), .val (.int p2), .val (.int p3), .val (.int ((p1).toInt8.toInt32)), .val (.int (((p1 >>> ((8 : Int32) &&& 31))).toInt8.toInt32)), .val (.int (((p1 >>> ((16 : Int32) &&& 31))).toInt8.toInt32)), .val (.ref fu), .val (.ref em), .val (.int (0 : Int32)), .val (.ref fu), .val (.ref mc), .val (.ref s1), .val (.ref ds), .val (.ref o), .val (.ref cp), .val (.ref s1), .val (.ref ds)] rfl ?_
                refine B.aload 200 rfl at_198 rfl rfl ?_
                refine B.ifnonnull 210 203 rfl (by decide) rfl at_200 rfl (fun c200 => ?_) (fun c200 => ?_)
                · refine B.aload 212 rfl at_210 rfl rfl ?_
                  refine B.ifnull 225 215 rfl (by decide) rfl at_212 rfl (fun c212 => ?_) (fun c212 => ?_)
                  · exact absurd c212 (by simp)
                  · refine B.aload 217 rfl at_215 rfl rfl ?_
                    refine B.aload 219 rfl at_217 rfl rfl ?_
                    refine B.callV 222 rfl at_219 (wd hw 96 rfl) (wd hw 97 rfl) (wd hw 99 rfl) (wd hw 98 rfl) (wd hw 4 rfl) (wd hw 100 rfl) (by decide) E_ds_12 [(.ref ds)] [] (rm_eq l Z a0 hw ds h_o) rfl rfl pd__Ljava_lang_Object__Z rfl rfl 0 rfl (by decide) (by decide) (by decide) (by decide) (fun _ q => nomatch q) ?_
                    rintro _ _ - ⟨rfl, rfl⟩
                    show B.G h_o 9 23 (mkF m 222 #[.val (.int p1), .val (.int p2), .val (.int p3), .val (.int ((p1).toInt8.toInt32)), .val (.int (((p1 >>> ((8 : Int32) &&& 31))).toInt8.toInt32)), .val (.int (((p1 >>> ((16 : Int32) &&& 31))).toInt8.toInt32)), .val (.ref fu), .val (.ref em), .val (.int (0 : Int32)), .val (.ref fu), .val (.ref mc), .val (.ref s1), .val (.ref ds), .val (.ref o), .val (.ref cp), .val (.ref s1), .val (.ref ds)] [(.int (1 : Int32))])
                    refine B.if0_ne 227 225 rfl (by decide) rfl at_222 (fun c222 => ?_) (fun c222 => ?_)
                    · refine B.aload 229 rfl at_227 rfl rfl ?_
                      refine B.ifnull 239 232 rfl (by decide) rfl at_229 rfl (fun c229 => ?_) (fun c229 => ?_)
                      · exact absurd c229 (by simp)
                      · refine B.aload 234 rfl at_232 rfl rfl ?_
                        refine B.aload 236 rfl at_234 rfl rfl ?_
                        refine B.acmp_ne 241 239 rfl (by decide) rfl at_236 rfl rfl (fun c236 => ?_) (fun c236 => ?_)
                        · refine B.iload 243 rfl at_241 rfl ?_
                          refine B.if0_eq 258 246 rfl (by decide) rfl at_243 (fun c243 => ?_) (fun c243 => ?_)
                          · refine B.aload 260 rfl at_258 rfl rfl ?_
                            refine B.arrlen 261 rfl at_260 A_cp (3 : Int32) rfl ?_
                            refine B.iconst 262 rfl (3 : Int32) at_261 rfl ?_
                            refine B.icmp_eq 267 265 rfl (by decide) rfl at_262 (fun c262 => ?_) (fun c262 => ?_)
                            · refine B.aload 269 rfl at_267 rfl rfl ?_
                              refine B.iconst 270 rfl (0 : Int32) at_269 rfl ?_
                              refine B.baload 271 rfl at_270 A_fu_12 (by decide) 0 rfl (.int ((p1).toInt8.toInt32)) rfl ?_
                              refine B.iloadN 272 rfl at_271 rfl ?_
                              refine B.icmp_ne 293 275 rfl (by decide) rfl at_272 (fun c272 => ?_) (fun c272 => ?_)
                              · exact absurd rfl c272
                              · refine B.aload 277 rfl at_275 rfl rfl ?_
                                refine B.iconst 278 rfl (1 : Int32) at_277 rfl ?_
                                refine B.baload 279 rfl at_278 A_fu_12 (by decide) 1 rfl (.int (((p1 >>> ((8 : Int32) &&& 31))).toInt8.toInt32)) rfl ?_
                                refine B.iload 281 rfl at_279 rfl ?_
                                refine B.icmp_ne 293 284 rfl (by decide) rfl at_281 (fun c281 => ?_) (fun c281 => ?_)
                                · exact absurd rfl c281
                                · refine B.aload 286 rfl at_284 rfl rfl ?_
                                  refine B.iconst 287 rfl (2 : Int32) at_286 rfl ?_
                                  refine B.baload 288 rfl at_287 A_fu_12 (by decide) 2 rfl (.int (((p1 >>> ((16 : Int32) &&& 31))).toInt8.toInt32)) rfl ?_
                                  refine B.iload 290 rfl at_288 rfl ?_
                                  refine B.icmp_eq 295 293 rfl (by decide) rfl at_290 (fun c290 => ?_) (fun c290 => ?_)
                                  · refine B.aload 297 rfl at_295 rfl rfl ?_
                                    refine B.iconst 298 rfl (0 : Int32) at_297 rfl ?_
                                    refine B.baload 299 rfl at_298 A_cp (by decide) 0 rfl (.int ((p1).toInt8.toInt32)) rfl ?_
                                    refine B.iloadN 300 rfl at_299 rfl ?_
                                    refine B.icmp_ne 321 303 rfl (by decide) rfl at_300 (fun c300 => ?_) (fun c300 => ?_)
                                    · exact absurd rfl c300
                                    · refine B.aload 305 rfl at_303 rfl rfl ?_
                                      refine B.iconst 306 rfl (1 : Int32) at_305 rfl ?_
                                      refine B.baload 307 rfl at_306 A_cp (by decide) 1 rfl (.int (((p1 >>> ((8 : Int32) &&& 31))).toInt8.toInt32)) rfl ?_
                                      refine B.iload 309 rfl at_307 rfl ?_
                                      refine B.icmp_ne 321 312 rfl (by decide) rfl at_309 (fun c309 => ?_) (fun c309 => ?_)
                                      · exact absurd rfl c309
                                      · refine B.aload 314 rfl at_312 rfl rfl ?_
                                        refine B.iconst 315 rfl (2 : Int32) at_314 rfl ?_
                                        refine B.baload 316 rfl at_315 A_cp (by decide) 2 rfl (.int (((p1 >>> ((16 : Int32) &&& 31))).toInt8.toInt32)) rfl ?_
                                        refine B.iload 318 rfl at_316 rfl ?_
                                        refine B.icmp_eq 323 321 rfl (by decide) rfl at_318 (fun c318 => ?_) (fun c318 => ?_)
                                        · refine B.aload 325 rfl at_323 rfl rfl ?_
                                          refine B.iconst 326 rfl (0 : Int32) at_325 rfl ?_
                                          refine B.iloadN 327 rfl at_326 rfl ?_
                                          refine B.iconst 328 rfl (-1 : Int32) at_327 rfl ?_
                                          refine B.ixor 329 rfl at_328 ?_
                                          refine B.i2b 330 rfl at_329 ?_
                                          refine B.bastore 331 rfl at_330 A_fu_12 (by decide) 0 rfl (by simp) (Or.inr g_fu) ?_
                                          intro hs8 Ws8 As8
                                          replace As8 : Ary Z hs8 fu .byte [(.int (((((((p1).toInt8.toInt32) ^^^ (-1 : Int32))).toInt8.toInt32)).toInt8.toInt32)), (.int (((p1 >>> ((8 : Int32) &&& 31))).toInt8.toInt32)), (.int (((p1 >>> ((16 : Int32) &&& 31))).toInt8.toInt32))] := As8
                                          have A_cp_13 := A_cp.other Ws8 (Ne.symm n_fu_cp)
                                          refine B.aload 333 rfl at_331 rfl rfl ?_
                                          refine B.iconst 334 rfl (1 : Int32) at_333 rfl ?_
                                          refine B.iload 336 rfl at_334 rfl ?_
                                          refine B.iconst 337 rfl (-1 : Int32) at_336 rfl ?_
                                          refine B.ixor 338 rfl at_337 ?_
                                          refine B.i2b 339 rfl at_338 ?_
                                          refine B.bastore 340 rfl at_339 As8 (by decide) 1 rfl (by simp) (Or.inr g_fu) ?_
                                          intro hs9 Ws9 As9
                                          replace As9 : Ary Z hs9 fu .byte [(.int (((((((p1).toInt8.toInt32) ^^^ (-1 : Int32))).toInt8.toInt32)).toInt8.toInt32)), (.int ((((((((p1 >>> ((8 : Int32) &&& 31))).toInt8.toInt32) ^^^ (-1 : Int32))).toInt8.toInt32)).toInt8.toInt32)), (.int (((p1 >>> ((16 : Int32) &&& 31))).toInt8.toInt32))] := As9
                                          have A_cp_14 := A_cp_13.other Ws9 (Ne.symm n_fu_cp)
                                          refine B.aload 342 rfl at_340 rfl rfl ?_
                                          refine B.iconst 343 rfl (2 : Int32) at_342 rfl ?_
                                          refine B.iload 345 rfl at_343 rfl ?_
                                          refine B.iconst 346 rfl (-1 : Int32) at_345 rfl ?_
                                          refine B.ixor 347 rfl at_346 ?_
                                          refine B.i2b 348 rfl at_347 ?_
                                          refine B.bastore 349 rfl at_348 As9 (by decide) 2 rfl (by simp) (Or.inr g_fu) ?_
                                          intro hs10 Ws10 As10
                                          replace As10 : Ary Z hs10 fu .byte [(.int (((((((p1).toInt8.toInt32) ^^^ (-1 : Int32))).toInt8.toInt32)).toInt8.toInt32)), (.int ((((((((p1 >>> ((8 : Int32) &&& 31))).toInt8.toInt32) ^^^ (-1 : Int32))).toInt8.toInt32)).toInt8.toInt32)), (.int ((((((((p1 >>> ((16 : Int32) &&& 31))).toInt8.toInt32) ^^^ (-1 : Int32))).toInt8.toInt32)).toInt8.toInt32))] := As10
                                          have A_cp_15 := A_cp_14.other Ws10 (Ne.symm n_fu_cp)
                                          refine B.aload 351 rfl at_349 rfl rfl ?_
                                          refine B.iconst 352 rfl (0 : Int32) at_351 rfl ?_
                                          refine B.baload 353 rfl at_352 A_cp_15 (by decide) 0 rfl (.int ((p1).toInt8.toInt32)) rfl ?_
                                          refine B.iloadN 354 rfl at_353 rfl ?_
                                          refine B.icmp_ne 379 357 rfl (by decide) rfl at_354 (fun c354 => ?_) (fun c354 => ?_)
                                          · exact absurd rfl c354
                                          · refine B.aload 359 rfl at_357 rfl rfl ?_
                                            refine B.iconst 360 rfl (1 : Int32) at_359 rfl ?_
                                            refine B.baload 361 rfl at_360 A_cp_15 (by decide) 1 rfl (.int (((p1 >>> ((8 : Int32) &&& 31))).toInt8.toInt32)) rfl ?_
                                            refine B.iload 363 rfl at_361 rfl ?_
                                            refine B.icmp_ne 379 366 rfl (by decide) rfl at_363 (fun c363 => ?_) (fun c363 => ?_)
                                            · exact absurd rfl c363
                                            · refine B.aload 368 rfl at_366 rfl rfl ?_
                                              refine B.iconst 369 rfl (2 : Int32) at_368 rfl ?_
                                              refine B.baload 370 rfl at_369 A_cp_15 (by decide) 2 rfl (.int (((p1 >>> ((16 : Int32) &&& 31))).toInt8.toInt32)) rfl ?_
                                              refine B.iload 372 rfl at_370 rfl ?_
                                              refine B.icmp_ne 379 375 rfl (by decide) rfl at_372 (fun c372 => ?_) (fun c372 => ?_)
                                              · exact absurd rfl c372
                                              · refine B.iconst 376 rfl (1 : Int32) at_375 rfl ?_
                                                refine B.goto 380 rfl (by decide) at_376 ?_
                                                refine B.retN (by simp) at_380 (by decide) (by decide) ?_
                                                exact rfl
                                        · exact absurd rfl c318
                                  · exact absurd rfl c290
                            · exact absurd c262 (by decide)
                          · exact absurd c243 (by decide)
                        · exact absurd (Value.ref.inj c236) (Ne.symm n_fu_cp)
                    · exact absurd c222 (by decide)
                · exact absurd c200 (by simp)
              · exact absurd c186 (by decide)
          · exact absurd c162 (by decide)
        · exact absurd rfl c152
      · refine B.aconstNull 112 rfl at_111 ?_
        refine B.goto 127 rfl (by decide) at_112 ?_
        refine B.astore 129 rfl at_127 rfl #[.val (.int p1), .val (.int p2), .val (.int p3), .val (.int ((p1).toInt8.toInt32)), .val (.int (((p1 >>> ((8 : Int32) &&& 31))).toInt8.toInt32)), .val (.int (((p1 >>> ((16 : Int32) &&& 31))).toInt8.toInt32)), .val (.ref fu), .val (.ref em), .val (.int (0 : Int32)), .val (.ref fu), .val (.ref mc), .val (.ref s1), .val .null, .unset, .unset, .unset, .unset] rfl ?_
        refine B.aload 131 rfl at_129 rfl rfl ?_
        refine B.aload 133 rfl at_131 rfl rfl ?_
        refine B.aload 135 rfl at_133 rfl rfl ?_
        refine B.callS 138 rfl at_135 (wd hw 44 rfl) (wd hw 45 rfl) (wd hw 46 rfl) (wd hw 47 rfl) (by decide) [(.ref fu), (.ref s1), .null] [] (rm_of l Z a0 hw fu s1 .null [(.int ((p1).toInt8.toInt32)), (.int (((p1 >>> ((8 : Int32) &&& 31))).toInt8.toInt32)), (.int (((p1 >>> ((16 : Int32) &&& 31))).toInt8.toInt32))] h_s1b rfl rfl A_fu_10 E_fu_10 (fun v hv => by simp only [List.mem_cons, List.not_mem_nil, or_false] at hv; rcases hv with rfl | rfl | rfl <;> exact own_fb _) (by simp)) rfl rfl pd___BLjava_lang_String_Ljava_lang_String__Lcom_example_siegelwerk_siegelwerk_DataObject_ rfl rfl 0 rfl (by decide) (by decide) (by decide) (by decide) (fun _ q => nomatch q) ?_
        rintro _ h_o K_o ⟨o, cp, rfl, g_cp, E_o, G0, G1, G2, G3, A_cp⟩
        show B.G h_o 7 18 (mkF m 138 #[.val (.int p1), .val (.int p2), .val (.int p3), .val (.int ((p1).toInt8.toInt32)), .val (.int (((p1 >>> ((8 : Int32) &&& 31))).toInt8.toInt32)), .val (.int (((p1 >>> ((16 : Int32) &&& 31))).toInt8.toInt32)), .val (.ref fu), .val (.ref em), .val (.int (0 : Int32)), .val (.ref fu), .val (.ref mc), .val (.ref s1), .val .null, .unset, .unset, .unset, .unset] [(.ref o)])
        have n_fu_cp : fu ≠ cp := fun q => absurd A_fu_10.lt (by rw [q]; exact Nat.not_lt.mpr g_cp)
        have n_em_cp : em ≠ cp := fun q => absurd A_em_10.lt (by rw [q]; exact Nat.not_lt.mpr g_cp)
        have E_fu_11 := E_fu_10.keep K_o
        have A_fu_11 := A_fu_10.keep K_o nin0
        have A_em_11 := A_em_10.keep K_o nin0
        have E_em_11 := E_em_10.keep K_o
        have A_mc_11 := A_mc_10.keep K_o nin0
        have E_s1_11 := E_s1_10.keep K_o
        refine B.astore 140 rfl at_138 rfl #[.val (.int p1), .val (.int p2), .val (.int p3), .val (.int ((p1).toInt8.toInt32)), .val (.int (((p1 >>> ((8 : Int32) &&& 31))).toInt8.toInt32)), .val (.int (((p1 >>> ((16 : Int32) &&& 31))).toInt8.toInt32)), .val (.ref fu), .val (.ref em), .val (.int (0 : Int32)), .val (.ref fu), .val (.ref mc), .val (.ref s1), .val .null, .val (.ref o), .unset, .unset, .unset] rfl ?_
        refine B.aload 142 rfl at_140 rfl rfl ?_
        refine B.callV 145 rfl at_142 (wd hw 76 rfl) (wd hw 77 rfl) (wd hw 79 rfl) (wd hw 78 rfl) (wd hw 46 rfl) (wd hw 80 rfl) (by decide) E_o [] [] (rm_by l Z a0 hw o cp h_o G1) rfl rfl pd____B rfl rfl 0 rfl (by decide) (by decide) (by decide) (by decide) (fun _ q => nomatch q) ?_
        rintro _ _ - ⟨rfl, rfl⟩
        show B.G h_o 7 18 (mkF m 145 #[.val (.int p1), .val (.int p2), .val (.int p3), .val (.int ((p1).toInt8.toInt32)), .val (.int (((p1 >>> ((8 : Int32) &&& 31))).toInt8.toInt32)), .val (.int (((p1 >>> ((16 : Int32) &&& 31))).toInt8.toInt32)), .val (.ref fu), .val (.ref em), .val (.int (0 : Int32)), .val (.ref fu), .val (.ref mc), .val (.ref s1), .val .null, .val (.ref o), .unset, .unset, .unset] [(.ref cp)])
        refine B.astore 147 rfl at_145 rfl #[.val (.int p1), .val (.int p2), .val (.int p3), .val (.int ((p1).toInt8.toInt32)), .val (.int (((p1 >>> ((8 : Int32) &&& 31))).toInt8.toInt32)), .val (.int (((p1 >>> ((16 : Int32) &&& 31))).toInt8.toInt32)), .val (.ref fu), .val (.ref em), .val (.int (0 : Int32)), .val (.ref fu), .val (.ref mc), .val (.ref s1), .val .null, .val (.ref o), .val (.ref cp), .unset, .unset] rfl ?_
        refine B.aload 149 rfl at_147 rfl rfl ?_
        refine B.callV 152 rfl at_149 (wd hw 81 rfl) (wd hw 82 rfl) (wd hw 84 rfl) (wd hw 83 rfl) (wd hw 46 rfl) (wd hw 85 rfl) (by decide) E_o [] [] (rm_xm l Z a0 hw o h_o G0) rfl rfl pd___Ljava_util_List_ rfl rfl 0 rfl (by decide) (by decide) (by decide) (by decide) (fun _ q => nomatch q) ?_
        rintro _ _ - ⟨rfl, rfl⟩
        show B.G h_o 7 18 (mkF m 152 #[.val (.int p1), .val (.int p2), .val (.int p3), .val (.int ((p1).toInt8.toInt32)), .val (.int (((p1 >>> ((8 : Int32) &&& 31))).toInt8.toInt32)), .val (.int (((p1 >>> ((16 : Int32) &&& 31))).toInt8.toInt32)), .val (.ref fu), .val (.ref em), .val (.int (0 : Int32)), .val (.ref fu), .val (.ref mc), .val (.ref s1), .val .null, .val (.ref o), .val (.ref cp), .unset, .unset] [.null])
        refine B.ifnull 157 155 rfl (by decide) rfl at_152 rfl (fun c152 => ?_) (fun c152 => ?_)
        · refine B.aload 159 rfl at_157 rfl rfl ?_
          refine B.callV 162 rfl at_159 (wd hw 86 rfl) (wd hw 87 rfl) (wd hw 89 rfl) (wd hw 88 rfl) (wd hw 46 rfl) (wd hw 90 rfl) (by decide) E_o [] [] (rm_is l Z a0 hw o h_o G0) rfl rfl pd___Z rfl rfl 0 rfl (by decide) (by decide) (by decide) (by decide) (fun _ q => nomatch q) ?_
          rintro _ _ - ⟨rfl, rfl⟩
          show B.G h_o 7 18 (mkF m 162 #[.val (.int p1), .val (.int p2), .val (.int p3), .val (.int ((p1).toInt8.toInt32)), .val (.int (((p1 >>> ((8 : Int32) &&& 31))).toInt8.toInt32)), .val (.int (((p1 >>> ((16 : Int32) &&& 31))).toInt8.toInt32)), .val (.ref fu), .val (.ref em), .val (.int (0 : Int32)), .val (.ref fu), .val (.ref mc), .val (.ref s1), .val .null, .val (.ref o), .val (.ref cp), .unset, .unset] [(.int (0 : Int32))])
          refine B.if0_eq 167 165 rfl (by decide) rfl at_162 (fun c162 => ?_) (fun c162 => ?_)
          · refine B.aload 169 rfl at_167 rfl rfl ?_
            refine B.callV 172 rfl at_169 (wd hw 91 rfl) (wd hw 92 rfl) (wd hw 94 rfl) (wd hw 93 rfl) (wd hw 46 rfl) (wd hw 95 rfl) (by decide) E_o [] [] (rm_mi l Z a0 hw o s1 h_o G2) rfl rfl pd___Ljava_lang_String_ rfl rfl 0 rfl (by decide) (by decide) (by decide) (by decide) (fun _ q => nomatch q) ?_
            rintro _ _ - ⟨rfl, rfl⟩
            show B.G h_o 7 18 (mkF m 172 #[.val (.int p1), .val (.int p2), .val (.int p3), .val (.int ((p1).toInt8.toInt32)), .val (.int (((p1 >>> ((8 : Int32) &&& 31))).toInt8.toInt32)), .val (.int (((p1 >>> ((16 : Int32) &&& 31))).toInt8.toInt32)), .val (.ref fu), .val (.ref em), .val (.int (0 : Int32)), .val (.ref fu), .val (.ref mc), .val (.ref s1), .val .null, .val (.ref o), .val (.ref cp), .unset, .unset] [(.ref s1)])
            refine B.astore 174 rfl at_172 rfl #[.val (.int p1), .val (.int p2), .val (.int p3), .val (.int ((p1).toInt8.toInt32)), .val (.int (((p1 >>> ((8 : Int32) &&& 31))).toInt8.toInt32)), .val (.int (((p1 >>> ((16 : Int32) &&& 31))).toInt8.toInt32)), .val (.ref fu), .val (.ref em), .val (.int (0 : Int32)), .val (.ref fu), .val (.ref mc), .val (.ref s1), .val .null, .val (.ref o), .val (.ref cp), .val (.ref s1), .unset] rfl ?_
            refine B.aload 176 rfl at_174 rfl rfl ?_
            refine B.ifnull 189 179 rfl (by decide) rfl at_176 rfl (fun c176 => ?_) (fun c176 => ?_)
            · exact absurd c176 (by simp)
            · refine B.aload 181 rfl at_179 rfl rfl ?_
              refine B.aload 183 rfl at_181 rfl rfl ?_
              refine B.callV 186 rfl at_183 (wd hw 96 rfl) (wd hw 97 rfl) (wd hw 99 rfl) (wd hw 98 rfl) (wd hw 4 rfl) (wd hw 100 rfl) (by decide) E_s1_11 [(.ref s1)] [] (rm_eq l Z a0 hw s1 h_o) rfl rfl pd__Ljava_lang_Object__Z rfl rfl 0 rfl (by decide) (by decide) (by decide) (by decide) (fun _ q => nomatch q) ?_
              rintro _ _ - ⟨rfl, rfl⟩
              show B.G h_o 7 18 (mkF m 186 #[.val (.int p1), .val (.int p2), .val (.int p3), .val (.int ((p1).toInt8.toInt32)), .val (.int (((p1 >>> ((8 : Int32) &&& 31))).toInt8.toInt32)), .val (.int (((p1 >>> ((16 : Int32) &&& 31))).toInt8.toInt32)), .val (.ref fu), .val (.ref em), .val (.int (0 : Int32)), .val (.ref fu), .val (.ref mc), .val (.ref s1), .val .null, .val (.ref o), .val (.ref cp), .val (.ref s1), .unset] [(.int (1 : Int32))])
              refine B.if0_ne 191 189 rfl (by decide) rfl at_186 (fun c186 => ?_) (fun c186 => ?_)
              · refine B.aload 193 rfl at_191 rfl rfl ?_
                refine B.callV 196 rfl at_193 (wd hw 101 rfl) (wd hw 102 rfl) (wd hw 104 rfl) (wd hw 103 rfl) (wd hw 46 rfl) (wd hw 105 rfl) (by decide) E_o [] [] (rm_deN l Z a0 hw o h_o G3) rfl rfl pd___Ljava_lang_String_ rfl rfl 0 rfl (by decide) (by decide) (by decide) (by decide) (fun _ q => nomatch q) ?_
                rintro _ _ - ⟨rfl, rfl⟩
                show B.G h_o 7 18 (mkF m 196 #[.val (.int p1), .val (.int p2), .val (.int p3), .val (.int ((p1).toInt8.toInt32)), .val (.int (((p1 >>> ((8 : Int32) &&& 31))).toInt8.toInt32)), .val (.int (((p1 >>> ((16 : Int32) &&& 31))).toInt8.toInt32)), .val (.ref fu), .val (.ref em), .val (.int (0 : Int32)), .val (.ref fu), .val (.ref mc), .val (.ref s1), .val .null, .val (.ref o), .val (.ref cp), .val (.ref s1), .unset] [.null])
                refine B.astore 198 rfl at_196 rfl #[.val (.int p1), .val (.int p2), .val (.int p3), .val (.int ((p1).toInt8.toInt32)), .val (.int (((p1 >>> ((8 : Int32) &&& 31))).toInt8.toInt32)), .val (.int (((p1 >>> ((16 : Int32) &&& 31))).toInt8.toInt32)), .val (.ref fu), .val (.ref em), .val (.int (0 : Int32)), .val (.ref fu), .val (.ref mc), .val (.ref s1), .val .null, .val (.ref o), .val (.ref cp), .val (.ref s1), .val .null] rfl ?_
                refine B.aload 200 rfl at_198 rfl rfl ?_
                refine B.ifnonnull 210 203 rfl (by decide) rfl at_200 rfl (fun c200 => ?_) (fun c200 => ?_)
                · exact absurd rfl c200
                · refine B.aload 205 rfl at_203 rfl rfl ?_
                  refine B.ifnull 227 208 rfl (by decide) rfl at_205 rfl (fun c205 => ?_) (fun c205 => ?_)
                  · refine B.aload 229 rfl at_227 rfl rfl ?_
                    refine B.ifnull 239 232 rfl (by decide) rfl at_229 rfl (fun c229 => ?_) (fun c229 => ?_)
                    · exact absurd c229 (by simp)
                    · refine B.aload 234 rfl at_232 rfl rfl ?_
                      refine B.aload 236 rfl at_234 rfl rfl ?_
                      refine B.acmp_ne 241 239 rfl (by decide) rfl at_236 rfl rfl (fun c236 => ?_) (fun c236 => ?_)
                      · refine B.iload 243 rfl at_241 rfl ?_
                        refine B.if0_eq 258 246 rfl (by decide) rfl at_243 (fun c243 => ?_) (fun c243 => ?_)
                        · refine B.aload 260 rfl at_258 rfl rfl ?_
                          refine B.arrlen 261 rfl at_260 A_cp (3 : Int32) rfl ?_
                          refine B.iconst 262 rfl (3 : Int32) at_261 rfl ?_
                          refine B.icmp_eq 267 265 rfl (by decide) rfl at_262 (fun c262 => ?_) (fun c262 => ?_)
                          · refine B.aload 269 rfl at_267 rfl rfl ?_
                            refine B.iconst 270 rfl (0 : Int32) at_269 rfl ?_
                            refine B.baload 271 rfl at_270 A_fu_11 (by decide) 0 rfl (.int ((p1).toInt8.toInt32)) rfl ?_
                            refine B.iloadN 272 rfl at_271 rfl ?_
                            refine B.icmp_ne 293 275 rfl (by decide) rfl at_272 (fun c272 => ?_) (fun c272 => ?_)
                            · exact absurd rfl c272
                            · refine B.aload 277 rfl at_275 rfl rfl ?_
                              refine B.iconst 278 rfl (1 : Int32) at_277 rfl ?_
                              refine B.baload 279 rfl at_278 A_fu_11 (by decide) 1 rfl (.int (((p1 >>> ((8 : Int32) &&& 31))).toInt8.toInt32)) rfl ?_
                              refine B.iload 281 rfl at_279 rfl ?_
                              refine B.icmp_ne 293 284 rfl (by decide) rfl at_281 (fun c281 => ?_) (fun c281 => ?_)
                              · exact absurd rfl c281
                              · refine B.aload 286 rfl at_284 rfl rfl ?_
                                refine B.iconst 287 rfl (2 : Int32) at_286 rfl ?_
                                refine B.baload 288 rfl at_287 A_fu_11 (by decide) 2 rfl (.int (((p1 >>> ((16 : Int32) &&& 31))).toInt8.toInt32)) rfl ?_
                                refine B.iload 290 rfl at_288 rfl ?_
                                refine B.icmp_eq 295 293 rfl (by decide) rfl at_290 (fun c290 => ?_) (fun c290 => ?_)
                                · refine B.aload 297 rfl at_295 rfl rfl ?_
                                  refine B.iconst 298 rfl (0 : Int32) at_297 rfl ?_
                                  refine B.baload 299 rfl at_298 A_cp (by decide) 0 rfl (.int ((p1).toInt8.toInt32)) rfl ?_
                                  refine B.iloadN 300 rfl at_299 rfl ?_
                                  refine B.icmp_ne 321 303 rfl (by decide) rfl at_300 (fun c300 => ?_) (fun c300 => ?_)
                                  · exact absurd rfl c300
                                  · refine B.aload 305 rfl at_303 rfl rfl ?_
                                    refine B.iconst 306 rfl (1 : Int32) at_305 rfl ?_
                                    refine B.baload 307 rfl at_306 A_cp (by decide) 1 rfl (.int (((p1 >>> ((8 : Int32) &&& 31))).toInt8.toInt32)) rfl ?_
                                    refine B.iload 309 rfl at_307 rfl ?_
                                    refine B.icmp_ne 321 312 rfl (by decide) rfl at_309 (fun c309 => ?_) (fun c309 => ?_)
                                    · exact absurd rfl c309
                                    · refine B.aload 314 rfl at_312 rfl rfl ?_
                                      refine B.iconst 315 rfl (2 : Int32) at_314 rfl ?_
                                      refine B.baload 316 rfl at_315 A_cp (by decide) 2 rfl (.int (((p1 >>> ((16 : Int32) &&& 31))).toInt8.toInt32)) rfl ?_
                                      refine B.iload 318 rfl at_316 rfl ?_
                                      refine B.icmp_eq 323 321 rfl (by decide) rfl at_318 (fun c318 => ?_) (fun c318 => ?_)
                                      · refine B.aload 325 rfl at_323 rfl rfl ?_
                                        refine B.iconst 326 rfl (0 : Int32) at_325 rfl ?_
                                        refine B.iloadN 327 rfl at_326 rfl ?_
                                        refine B.iconst 328 rfl (-1 : Int32) at_327 rfl ?_
                                        refine B.ixor 329 rfl at_328 ?_
                                        refine B.i2b 330 rfl at_329 ?_
                                        refine B.bastore 331 rfl at_330 A_fu_11 (by decide) 0 rfl (by simp) (Or.inr g_fu) ?_
                                        intro hs11 Ws11 As11
                                        replace As11 : Ary Z hs11 fu .byte [(.int (((((((p1).toInt8.toInt32) ^^^ (-1 : Int32))).toInt8.toInt32)).toInt8.toInt32)), (.int (((p1 >>> ((8 : Int32) &&& 31))).toInt8.toInt32)), (.int (((p1 >>> ((16 : Int32) &&& 31))).toInt8.toInt32))] := As11
                                        have A_cp_12 := A_cp.other Ws11 (Ne.symm n_fu_cp)
                                        refine B.aload 333 rfl at_331 rfl rfl ?_
                                        refine B.iconst 334 rfl (1 : Int32) at_333 rfl ?_
                                        refine B.iload 336 rfl at_334 rfl ?_
                                        refine B.iconst 337 rfl (-1 : Int32) at_336 rfl ?_
                                        refine B.ixor 338 rfl at_337 ?_
                                        refine B.i2b 339 rfl at_338 ?_
                                        refine B.bastore 340 rfl at_339 As11 (by decide) 1 rfl (by simp) (Or.inr g_fu) ?_
                                        intro hs12 Ws12 As12
                                        replace As12 : Ary Z hs12 fu .byte [(.int (((((((p1).toInt8.toInt32) ^^^ (-1 : Int32))).toInt8.toInt32)).toInt8.toInt32)), (.int ((((((((p1 >>> ((8 : Int32) &&& 31))).toInt8.toInt32) ^^^ (-1 : Int32))).toInt8.toInt32)).toInt8.toInt32)), (.int (((p1 >>> ((16 : Int32) &&& 31))).toInt8.toInt32))] := As12
                                        have A_cp_13 := A_cp_12.other Ws12 (Ne.symm n_fu_cp)
                                        refine B.aload 342 rfl at_340 rfl rfl ?_
                                        refine B.iconst 343 rfl (2 : Int32) at_342 rfl ?_
                                        refine B.iload 345 rfl at_343 rfl ?_
                                        refine B.iconst 346 rfl (-1 : Int32) at_345 rfl ?_
                                        refine B.ixor 347 rfl at_346 ?_
                                        refine B.i2b 348 rfl at_347 ?_
                                        refine B.bastore 349 rfl at_348 As12 (by decide) 2 rfl (by simp) (Or.inr g_fu) ?_
                                        intro hs13 Ws13 As13
                                        replace As13 : Ary Z hs13 fu .byte [(.int (((((((p1).toInt8.toInt32) ^^^ (-1 : Int32))).toInt8.toInt32)).toInt8.toInt32)), (.int ((((((((p1 >>> ((8 : Int32) &&& 31))).toInt8.toInt32) ^^^ (-1 : Int32))).toInt8.toInt32)).toInt8.toInt32)), (.int ((((((((p1 >>> ((16 : Int32) &&& 31))).toInt8.toInt32) ^^^ (-1 : Int32))).toInt8.toInt32)).toInt8.toInt32))] := As13
                                        have A_cp_14 := A_cp_13.other Ws13 (Ne.symm n_fu_cp)
                                        refine B.aload 351 rfl at_349 rfl rfl ?_
                                        refine B.iconst 352 rfl (0 : Int32) at_351 rfl ?_
                                        refine B.baload 353 rfl at_352 A_cp_14 (by decide) 0 rfl (.int ((p1).toInt8.toInt32)) rfl ?_
                                        refine B.iloadN 354 rfl at_353 rfl ?_
                                        refine B.icmp_ne 379 357 rfl (by decide) rfl at_354 (fun c354 => ?_) (fun c354 => ?_)
                                        · exact absurd rfl c354
                                        · refine B.aload 359 rfl at_357 rfl rfl ?_
                                          refine B.iconst 360 rfl (1 : Int32) at_359 rfl ?_
                                          refine B.baload 361 rfl at_360 A_cp_14 (by decide) 1 rfl (.int (((p1 >>> ((8 : Int32) &&& 31))).toInt8.toInt32)) rfl ?_
                                          refine B.iload 363 rfl at_361 rfl ?_
                                          refine B.icmp_ne 379 366 rfl (by decide) rfl at_363 (fun c363 => ?_) (fun c363 => ?_)
                                          · exact absurd rfl c363
                                          · refine B.aload 368 rfl at_366 rfl rfl ?_
                                            refine B.iconst 369 rfl (2 : Int32) at_368 rfl ?_
                                            refine B.baload 370 rfl at_369 A_cp_14 (by decide) 2 rfl (.int (((p1 >>> ((16 : Int32) &&& 31))).toInt8.toInt32)) rfl ?_
                                            refine B.iload 372 rfl at_370 rfl ?_
                                            refine B.icmp_ne 379 375 rfl (by decide) rfl at_372 (fun c372 => ?_) (fun c372 => ?_)
                                            · exact absurd rfl c372
                                            · refine B.iconst 376 rfl (1 : Int32) at_375 rfl ?_
                                              refine B.goto 380 rfl (by decide) at_376 ?_
                                              refine B.retN (by simp) at_380 (by decide) (by decide) ?_
                                              exact rfl
                                      · exact absurd rfl c318
                                · exact absurd rfl c290
                          · exact absurd c262 (by decide)
                        · exact absurd c243 (by decide)
                      · exact absurd (Value.ref.inj c236) (Ne.symm n_fu_cp)
                  · exact absurd rfl c205
              · exact absurd c186 (by decide)
          · exact absurd c162 (by decide)
        · exact absurd rfl c152
    · exact absurd c56 (by decide)
  · refine B.iconst 48 rfl (1 : Int32) at_47 rfl ?_
    refine B.goto 52 rfl (by decide) at_48 ?_
    refine B.istore 54 rfl at_52 #[.val (.int p1), .val (.int p2), .val (.int p3), .val (.int ((p1).toInt8.toInt32)), .val (.int (((p1 >>> ((8 : Int32) &&& 31))).toInt8.toInt32)), .val (.int (((p1 >>> ((16 : Int32) &&& 31))).toInt8.toInt32)), .val (.ref fu), .val (.ref em), .val (.int (1 : Int32)), .unset, .unset, .unset, .unset, .unset, .unset, .unset, .unset] rfl ?_
    refine B.iload 56 rfl at_54 rfl ?_
    refine B.if0_eq 64 59 rfl (by decide) rfl at_56 (fun c56 => ?_) (fun c56 => ?_)
    · exact absurd c56 (by decide)
    · refine B.aload 61 rfl at_59 rfl rfl ?_
      refine B.goto 66 rfl (by decide) at_61 ?_
      refine B.astore 68 rfl at_66 rfl #[.val (.int p1), .val (.int p2), .val (.int p3), .val (.int ((p1).toInt8.toInt32)), .val (.int (((p1 >>> ((8 : Int32) &&& 31))).toInt8.toInt32)), .val (.int (((p1 >>> ((16 : Int32) &&& 31))).toInt8.toInt32)), .val (.ref fu), .val (.ref em), .val (.int (1 : Int32)), .val (.ref em), .unset, .unset, .unset, .unset, .unset, .unset, .unset] rfl ?_
      refine B.iconst 69 rfl (2 : Int32) at_68 rfl ?_
      refine B.newP 71 rfl at_69 (wd hw 1 rfl) (by decide) 2 (by decide) (by decide) (by decide) (by decide) ?_
      intro h_mc mc e_mc g_mc X_mc A_mc
      replace A_mc : Ary Z h_mc mc .char [(.int (0 : Int32)), (.int (0 : Int32))] := A_mc
      show B.G h_mc 3 5 (mkF m 71 #[.val (.int p1), .val (.int p2), .val (.int p3), .val (.int ((p1).toInt8.toInt32)), .val (.int (((p1 >>> ((8 : Int32) &&& 31))).toInt8.toInt32)), .val (.int (((p1 >>> ((16 : Int32) &&& 31))).toInt8.toInt32)), .val (.ref fu), .val (.ref em), .val (.int (1 : Int32)), .val (.ref em), .unset, .unset, .unset, .unset, .unset, .unset, .unset] [(.ref mc)])
      have n_em_mc : em ≠ mc := fun q => absurd A_em.lt (by rw [q, e_mc]; exact Nat.lt_irrefl _)
      have n_fu_mc : fu ≠ mc := fun q => absurd E_fu_5.lt (by rw [q, e_mc]; exact Nat.lt_irrefl _)
      have E_fu_6 := E_fu_5.ext X_mc
      have A_fu_6 := A_fu_5.ext X_mc
      have A_em_6 := A_em.ext X_mc
      have E_em_6 := E_em.ext X_mc
      refine B.dup 72 rfl at_71 rfl ?_
      refine B.iconst 73 rfl (0 : Int32) at_72 rfl ?_
      refine B.iloadN 74 rfl at_73 rfl ?_
      refine B.sipush 77 rfl (255 : Int32) at_74 rfl ?_
      refine B.iand 78 rfl at_77 ?_
      refine B.i2c 79 rfl at_78 ?_
      refine B.topI (p2 &&& (255 : Int32)) (i2c_mask p2) ?_
      refine B.castore 80 rfl at_79 A_mc (by decide) 0 rfl (by simp) (Or.inr g_mc) ?_
      intro hs14 Ws14 As14
      rw [i2c_mask] at As14
      replace As14 : Ary Z hs14 mc .char [(.int (p2 &&& (255 : Int32))), (.int (0 : Int32))] := As14
      have E_fu_7 := E_fu_6.wr Ws14
      have A_fu_7 := A_fu_6.other Ws14 n_fu_mc
      have A_em_7 := A_em_6.other Ws14 n_em_mc
      have E_em_7 := E_em_6.wr Ws14
      refine B.dup 81 rfl at_80 rfl ?_
      refine B.iconst 82 rfl (1 : Int32) at_81 rfl ?_
      refine B.iloadN 83 rfl at_82 rfl ?_
      refine B.bipush 85 rfl (8 : Int32) at_83 rfl ?_
      refine B.iushr 86 rfl at_85 ?_
      refine B.sipush 89 rfl (255 : Int32) at_86 rfl ?_
      refine B.iand 90 rfl at_89 ?_
      refine B.i2c 91 rfl at_90 ?_
      refine B.topI ((XT.ushr p2 (8 : Int32)) &&& (255 : Int32)) (i2c_mask (XT.ushr p2 (8 : Int32))) ?_
      refine B.castore 92 rfl at_91 As14 (by decide) 1 rfl (by simp) (Or.inr g_mc) ?_
      intro hs15 Ws15 As15
      rw [i2c_mask] at As15
      replace As15 : Ary Z hs15 mc .char [(.int (p2 &&& (255 : Int32))), (.int ((XT.ushr p2 (8 : Int32)) &&& (255 : Int32)))] := As15
      have E_fu_8 := E_fu_7.wr Ws15
      have A_fu_8 := A_fu_7.other Ws15 n_fu_mc
      have A_em_8 := A_em_7.other Ws15 n_em_mc
      have E_em_8 := E_em_7.wr Ws15
      refine B.astore 94 rfl at_92 rfl #[.val (.int p1), .val (.int p2), .val (.int p3), .val (.int ((p1).toInt8.toInt32)), .val (.int (((p1 >>> ((8 : Int32) &&& 31))).toInt8.toInt32)), .val (.int (((p1 >>> ((16 : Int32) &&& 31))).toInt8.toInt32)), .val (.ref fu), .val (.ref em), .val (.int (1 : Int32)), .val (.ref em), .val (.ref mc), .unset, .unset, .unset, .unset, .unset, .unset] rfl ?_
      refine B.newO 97 rfl at_94 (wd hw 2 rfl) (wd hw 3 rfl) (wd hw 4 rfl) (by decide) (by decide) ?_
      intro h_s1 s1 e_s1 g_s1 X_s1 E_s1 D_s1
      show B.G h_s1 4 9 (mkF m 97 #[.val (.int p1), .val (.int p2), .val (.int p3), .val (.int ((p1).toInt8.toInt32)), .val (.int (((p1 >>> ((8 : Int32) &&& 31))).toInt8.toInt32)), .val (.int (((p1 >>> ((16 : Int32) &&& 31))).toInt8.toInt32)), .val (.ref fu), .val (.ref em), .val (.int (1 : Int32)), .val (.ref em), .val (.ref mc), .unset, .unset, .unset, .unset, .unset, .unset] [(.ref s1)])
      have n_em_s1 : em ≠ s1 := fun q => absurd A_em_8.lt (by rw [q, e_s1]; exact Nat.lt_irrefl _)
      have n_fu_s1 : fu ≠ s1 := fun q => absurd E_fu_8.lt (by rw [q, e_s1]; exact Nat.lt_irrefl _)
      have n_mc_s1 : mc ≠ s1 := fun q => absurd As15.lt (by rw [q, e_s1]; exact Nat.lt_irrefl _)
      have E_fu_9 := E_fu_8.ext X_s1
      have A_fu_9 := A_fu_8.ext X_s1
      have A_em_9 := A_em_8.ext X_s1
      have E_em_9 := E_em_8.ext X_s1
      have A_mc_9 := As15.ext X_s1
      have F0_s1 : Fld Z h_s1 s1 "java/lang/String" "coder" "B" (.int 0) := D_s1 (Or.inr (wd hw 27 rfl)) (ty := .byte) (by decide)
      have F1_s1 : Fld Z h_s1 s1 "java/lang/String" "value" "[B" .null := D_s1 (Or.inr (wd hw 29 rfl)) (ty := (.array .byte)) (by decide)
      refine B.dup 98 rfl at_97 rfl ?_
      refine B.aload 100 rfl at_98 rfl rfl ?_
      refine B.olds fun Y16 => ?_
      refine B.callI 103 rfl at_100 rfl (wd hw 5 rfl) (wd hw 6 rfl) (wd hw 4 rfl) (wd hw 7 rfl) (by decide) [(.ref mc)] [(.ref s1)] (rm_st2 l Z a0 hw s1 mc cs (p2 &&& 255) ((XT.ushr p2 (8 : Int32)) &&& 255) h_s1 hcs (Ss.ext Y16) E_s1 F0_s1 F1_s1 A_mc_9 (own_c p2) (own_c (XT.ushr p2 (8 : Int32)))) rfl rfl pd___C_V rfl rfl 1 rfl (by decide) (by decide) (by decide) (by decide) (fun x z => Or.inr (by cases List.mem_singleton.mp z; exact g_s1)) ?_
      rintro _ h_s1b K_s1 ⟨rfl, E_s1b, -⟩
      show B.G h_s1b 5 11 (mkF m 103 #[.val (.int p1), .val (.int p2), .val (.int p3), .val (.int ((p1).toInt8.toInt32)), .val (.int (((p1 >>> ((8 : Int32) &&& 31))).toInt8.toInt32)), .val (.int (((p1 >>> ((16 : Int32) &&& 31))).toInt8.toInt32)), .val (.ref fu), .val (.ref em), .val (.int (1 : Int32)), .val (.ref em), .val (.ref mc), .unset, .unset, .unset, .unset, .unset, .unset] [(.ref s1)])
      have E_fu_10 := E_fu_9.keep K_s1
      have A_fu_10 := A_fu_9.keep K_s1 (ninS n_fu_s1 nin0)
      have A_em_10 := A_em_9.keep K_s1 (ninS n_em_s1 nin0)
      have E_em_10 := E_em_9.keep K_s1
      have A_mc_10 := A_mc_9.keep K_s1 (ninS n_mc_s1 nin0)
      have E_s1_10 := E_s1.keep K_s1
      refine B.astore 105 rfl at_103 rfl #[.val (.int p1), .val (.int p2), .val (.int p3), .val (.int ((p1).toInt8.toInt32)), .val (.int (((p1 >>> ((8 : Int32) &&& 31))).toInt8.toInt32)), .val (.int (((p1 >>> ((16 : Int32) &&& 31))).toInt8.toInt32)), .val (.ref fu), .val (.ref em), .val (.int (1 : Int32)), .val (.ref em), .val (.ref mc), .val (.ref s1), .unset, .unset, .unset, .unset, .unset] rfl ?_
      refine B.iloadN 106 rfl at_105 rfl ?_
      refine B.iconst 107 rfl (1 : Int32) at_106 rfl ?_
      refine B.iand 108 rfl at_107 ?_
      refine B.if0_eq 115 111 rfl (by decide) rfl at_108 (fun c108 => ?_) (fun c108 => ?_)
      · refine B.iloadN 116 rfl at_115 rfl ?_
        refine B.bipush 118 rfl (16 : Int32) at_116 rfl ?_
        refine B.iushr 119 rfl at_118 ?_
        refine B.sipush 122 rfl (255 : Int32) at_119 rfl ?_
        refine B.iand 123 rfl at_122 ?_
        refine B.i2c 124 rfl at_123 ?_
        refine B.topI ((XT.ushr p2 (16 : Int32)) &&& (255 : Int32)) (i2c_mask (XT.ushr p2 (16 : Int32))) ?_
        refine B.olds fun Y17 => ?_
        refine B.callS 127 rfl at_124 (wd hw 30 rfl) (wd hw 31 rfl) (wd hw 4 rfl) (wd hw 32 rfl) (by decide) [(.int ((XT.ushr p2 (16 : Int32)) &&& (255 : Int32)))] [] (rm_vo l Z a0 hw cs ((XT.ushr p2 (16 : Int32)) &&& 255) h_s1b hcs (Ss.ext Y17) (own_c (XT.ushr p2 (16 : Int32)))) rfl rfl pd__C_Ljava_lang_String_ rfl rfl 0 rfl (by decide) (by decide) (by decide) (by decide) (fun _ q => nomatch q) ?_
        rintro _ h_ds K_ds ⟨ds, rfl, g_ds, E_ds⟩
        show B.G h_ds 7 16 (mkF m 127 #[.val (.int p1), .val (.int p2), .val (.int p3), .val (.int ((p1).toInt8.toInt32)), .val (.int (((p1 >>> ((8 : Int32) &&& 31))).toInt8.toInt32)), .val (.int (((p1 >>> ((16 : Int32) &&& 31))).toInt8.toInt32)), .val (.ref fu), .val (.ref em), .val (.int (1 : Int32)), .val (.ref em), .val (.ref mc), .val (.ref s1), .unset, .unset, .unset, .unset, .unset] [(.ref ds)])
        have E_fu_11 := E_fu_10.keep K_ds
        have A_fu_11 := A_fu_10.keep K_ds nin0
        have A_em_11 := A_em_10.keep K_ds nin0
        have E_em_11 := E_em_10.keep K_ds
        have A_mc_11 := A_mc_10.keep K_ds nin0
        have E_s1_11 := E_s1_10.keep K_ds
        refine B.astore 129 rfl at_127 rfl #[.val (.int p1), .val (.int p2), .val (.int p3), .val (.int ((p1).toInt8.toInt32)), .val (.int (((p1 >>> ((8 : Int32) &&& 31))).toInt8.toInt32)), .val (.int (((p1 >>> ((16 : Int32) &&& 31))).toInt8.toInt32)), .val (.ref fu), .val (.ref em), .val (.int (1 : Int32)), .val (.ref em), .val (.ref mc), .val (.ref s1), .val (.ref ds), .unset, .unset, .unset, .unset] rfl ?_
        refine B.aload 131 rfl at_129 rfl rfl ?_
        refine B.aload 133 rfl at_131 rfl rfl ?_
        refine B.aload 135 rfl at_133 rfl rfl ?_
        refine B.callS 138 rfl at_135 (wd hw 44 rfl) (wd hw 45 rfl) (wd hw 46 rfl) (wd hw 47 rfl) (by decide) [(.ref em), (.ref s1), (.ref ds)] [] (rm_of l Z a0 hw em s1 (.ref ds) [] h_ds rfl rfl A_em_11 E_em_11 (by simp) (by simp)) rfl rfl pd___BLjava_lang_String_Ljava_lang_String__Lcom_example_siegelwerk_siegelwerk_DataObject_ rfl rfl 0 rfl (by decide) (by decide) (by decide) (by decide) (fun _ q => nomatch q) ?_
        rintro _ h_o K_o ⟨o, cp, rfl, g_cp, E_o, G0, G1, G2, G3, A_cp⟩
        show B.G h_o 9 23 (mkF m 138 #[.val (.int p1), .val (.int p2), .val (.int p3), .val (.int ((p1).toInt8.toInt32)), .val (.int (((p1 >>> ((8 : Int32) &&& 31))).toInt8.toInt32)), .val (.int (((p1 >>> ((16 : Int32) &&& 31))).toInt8.toInt32)), .val (.ref fu), .val (.ref em), .val (.int (1 : Int32)), .val (.ref em), .val (.ref mc), .val (.ref s1), .val (.ref ds), .unset, .unset, .unset, .unset] [(.ref o)])
        have n_fu_cp : fu ≠ cp := fun q => absurd A_fu_11.lt (by rw [q]; exact Nat.not_lt.mpr g_cp)
        have n_em_cp : em ≠ cp := fun q => absurd A_em_11.lt (by rw [q]; exact Nat.not_lt.mpr g_cp)
        have E_fu_12 := E_fu_11.keep K_o
        have A_fu_12 := A_fu_11.keep K_o nin0
        have A_em_12 := A_em_11.keep K_o nin0
        have E_em_12 := E_em_11.keep K_o
        have A_mc_12 := A_mc_11.keep K_o nin0
        have E_s1_12 := E_s1_11.keep K_o
        have E_ds_12 := E_ds.keep K_o
        refine B.astore 140 rfl at_138 rfl #[.val (.int p1), .val (.int p2), .val (.int p3), .val (.int ((p1).toInt8.toInt32)), .val (.int (((p1 >>> ((8 : Int32) &&& 31))).toInt8.toInt32)), .val (.int (((p1 >>> ((16 : Int32) &&& 31))).toInt8.toInt32)), .val (.ref fu), .val (.ref em), .val (.int (1 : Int32)), .val (.ref em), .val (.ref mc), .val (.ref s1), .val (.ref ds), .val (.ref o), .unset, .unset, .unset] rfl ?_
        refine B.aload 142 rfl at_140 rfl rfl ?_
        refine B.callV 145 rfl at_142 (wd hw 76 rfl) (wd hw 77 rfl) (wd hw 79 rfl) (wd hw 78 rfl) (wd hw 46 rfl) (wd hw 80 rfl) (by decide) E_o [] [] (rm_by l Z a0 hw o cp h_o G1) rfl rfl pd____B rfl rfl 0 rfl (by decide) (by decide) (by decide) (by decide) (fun _ q => nomatch q) ?_
        rintro _ _ - ⟨rfl, rfl⟩
        show B.G h_o 9 23 (mkF m 145 #[.val (.int p1), .val (.int p2), .val (.int p3), .val (.int ((p1).toInt8.toInt32)), .val (.int (((p1 >>> ((8 : Int32) &&& 31))).toInt8.toInt32)), .val (.int (((p1 >>> ((16 : Int32) &&& 31))).toInt8.toInt32)), .val (.ref fu), .val (.ref em), .val (.int (1 : Int32)), .val (.ref em), .val (.ref mc), .val (.ref s1), .val (.ref ds), .val (.ref o), .unset, .unset, .unset] [(.ref cp)])
        refine B.astore 147 rfl at_145 rfl #[.val (.int p1), .val (.int p2), .val (.int p3), .val (.int ((p1).toInt8.toInt32)), .val (.int (((p1 >>> ((8 : Int32) &&& 31))).toInt8.toInt32)), .val (.int (((p1 >>> ((16 : Int32) &&& 31))).toInt8.toInt32)), .val (.ref fu), .val (.ref em), .val (.int (1 : Int32)), .val (.ref em), .val (.ref mc), .val (.ref s1), .val (.ref ds), .val (.ref o), .val (.ref cp), .unset, .unset] rfl ?_
        refine B.aload 149 rfl at_147 rfl rfl ?_
        refine B.callV 152 rfl at_149 (wd hw 81 rfl) (wd hw 82 rfl) (wd hw 84 rfl) (wd hw 83 rfl) (wd hw 46 rfl) (wd hw 85 rfl) (by decide) E_o [] [] (rm_xm l Z a0 hw o h_o G0) rfl rfl pd___Ljava_util_List_ rfl rfl 0 rfl (by decide) (by decide) (by decide) (by decide) (fun _ q => nomatch q) ?_
        rintro _ _ - ⟨rfl, rfl⟩
        show B.G h_o 9 23 (mkF m 152 #[.val (.int p1), .val (.int p2), .val (.int p3), .val (.int ((p1).toInt8.toInt32)), .val (.int (((p1 >>> ((8 : Int32) &&& 31))).toInt8.toInt32)), .val (.int (((p1 >>> ((16 : Int32) &&& 31))).toInt8.toInt32)), .val (.ref fu), .val (.ref em), .val (.int (1 : Int32)), .val (.ref em), .val (.ref mc), .val (.ref s1), .val (.ref ds), .val (.ref o), .val (.ref cp), .unset, .unset] [.null])
        refine B.ifnull 157 155 rfl (by decide) rfl at_152 rfl (fun c152 => ?_) (fun c152 => ?_)
        · refine B.aload 159 rfl at_157 rfl rfl ?_
          refine B.callV 162 rfl at_159 (wd hw 86 rfl) (wd hw 87 rfl) (wd hw 89 rfl) (wd hw 88 rfl) (wd hw 46 rfl) (wd hw 90 rfl) (by decide) E_o [] [] (rm_is l Z a0 hw o h_o G0) rfl rfl pd___Z rfl rfl 0 rfl (by decide) (by decide) (by decide) (by decide) (fun _ q => nomatch q) ?_
          rintro _ _ - ⟨rfl, rfl⟩
          show B.G h_o 9 23 (mkF m 162 #[.val (.int p1), .val (.int p2), .val (.int p3), .val (.int ((p1).toInt8.toInt32)), .val (.int (((p1 >>> ((8 : Int32) &&& 31))).toInt8.toInt32)), .val (.int (((p1 >>> ((16 : Int32) &&& 31))).toInt8.toInt32)), .val (.ref fu), .val (.ref em), .val (.int (1 : Int32)), .val (.ref em), .val (.ref mc), .val (.ref s1), .val (.ref ds), .val (.ref o), .val (.ref cp), .unset, .unset] [(.int (0 : Int32))])
          refine B.if0_eq 167 165 rfl (by decide) rfl at_162 (fun c162 => ?_) (fun c162 => ?_)
          · refine B.aload 169 rfl at_167 rfl rfl ?_
            refine B.callV 172 rfl at_169 (wd hw 91 rfl) (wd hw 92 rfl) (wd hw 94 rfl) (wd hw 93 rfl) (wd hw 46 rfl) (wd hw 95 rfl) (by decide) E_o [] [] (rm_mi l Z a0 hw o s1 h_o G2) rfl rfl pd___Ljava_lang_String_ rfl rfl 0 rfl (by decide) (by decide) (by decide) (by decide) (fun _ q => nomatch q) ?_
            rintro _ _ - ⟨rfl, rfl⟩
            show B.G h_o 9 23 (mkF m 172 #[.val (.int p1), .val (.int p2), .val (.int p3), .val (.int ((p1).toInt8.toInt32)), .val (.int (((p1 >>> ((8 : Int32) &&& 31))).toInt8.toInt32)), .val (.int (((p1 >>> ((16 : Int32) &&& 31))).toInt8.toInt32)), .val (.ref fu), .val (.ref em), .val (.int (1 : Int32)), .val (.ref em), .val (.ref mc), .val (.ref s1), .val (.ref ds), .val (.ref o), .val (.ref cp), .unset, .unset] [(.ref s1)])
            refine B.astore 174 rfl at_172 rfl #[.val (.int p1), .val (.int p2), .val (.int p3), .val (.int ((p1).toInt8.toInt32)), .val (.int (((p1 >>> ((8 : Int32) &&& 31))).toInt8.toInt32)), .val (.int (((p1 >>> ((16 : Int32) &&& 31))).toInt8.toInt32)), .val (.ref fu), .val (.ref em), .val (.int (1 : Int32)), .val (.ref em), .val (.ref mc), .val (.ref s1), .val (.ref ds), .val (.ref o), .val (.ref cp), .val (.ref s1), .unset] rfl ?_
            refine B.aload 176 rfl at_174 rfl rfl ?_
            refine B.ifnull 189 179 rfl (by decide) rfl at_176 rfl (fun c176 => ?_) (fun c176 => ?_)
            · exact absurd c176 (by simp)
            · refine B.aload 181 rfl at_179 rfl rfl ?_
              refine B.aload 183 rfl at_181 rfl rfl ?_
              refine B.callV 186 rfl at_183 (wd hw 96 rfl) (wd hw 97 rfl) (wd hw 99 rfl) (wd hw 98 rfl) (wd hw 4 rfl) (wd hw 100 rfl) (by decide) E_s1_12 [(.ref s1)] [] (rm_eq l Z a0 hw s1 h_o) rfl rfl pd__Ljava_lang_Object__Z rfl rfl 0 rfl (by decide) (by decide) (by decide) (by decide) (fun _ q => nomatch q) ?_
              rintro _ _ - ⟨rfl, rfl⟩
              show B.G h_o 9 23 (mkF m 186 #[.val (.int p1), .val (.int p2), .val (.int p3), .val (.int ((p1).toInt8.toInt32)), .val (.int (((p1 >>> ((8 : Int32) &&& 31))).toInt8.toInt32)), .val (.int (((p1 >>> ((16 : Int32) &&& 31))).toInt8.toInt32)), .val (.ref fu), .val (.ref em), .val (.int (1 : Int32)), .val (.ref em), .val (.ref mc), .val (.ref s1), .val (.ref ds), .val (.ref o), .val (.ref cp), .val (.ref s1), .unset] [(.int (1 : Int32))])
              refine B.if0_ne 191 189 rfl (by decide) rfl at_186 (fun c186 => ?_) (fun c186 => ?_)
              · refine B.aload 193 rfl at_191 rfl rfl ?_
                refine B.callV 196 rfl at_193 (wd hw 101 rfl) (wd hw 102 rfl) (wd hw 104 rfl) (wd hw 103 rfl) (wd hw 46 rfl) (wd hw 105 rfl) (by decide) E_o [] [] (rm_deR l Z a0 hw o ds h_o G3) rfl rfl pd___Ljava_lang_String_ rfl rfl 0 rfl (by decide) (by decide) (by decide) (by decide) (fun _ q => nomatch q) ?_
                rintro _ _ - ⟨rfl, rfl⟩
                show B.G h_o 9 23 (mkF m 196 #[.val (.int p1), .val (.int p2), .val (.int p3), .val (.int ((p1).toInt8.toInt32)), .val (.int (((p1 >>> ((8 : Int32) &&& 31))).toInt8.toInt32)), .val (.int (((p1 >>> ((16 : Int32) &&& 31))).toInt8.toInt32)), .val (.ref fu), .val (.ref em), .val (.int (1 : Int32)), .val (.ref em), .val (.ref mc), .val (.ref s1), .val (.ref ds), .val (.ref o), .val (.ref cp), .val (.ref s1), .unset] [(.ref ds)])
                refine B.astore 198 rfl at_196 rfl #[.val (.int p1), .val (.int p2), .val (.int p3), .val (.int ((p1).toInt8.toInt32)), .val (.int (((p1 >>> ((8 : Int32) &&& 31))).toInt8.toInt32)), .val (.int (((p1 >>> ((16 : Int32) &&& 31))).toInt8.toInt32)), .val (.ref fu), .val (.ref em), .val (.int (1 : Int32)), .val (.ref em), .val (.ref mc), .val (.ref s1), .val (.ref ds), .val (.ref o), .val (.ref cp), .val (.ref s1), .val (.ref ds)] rfl ?_
                refine B.aload 200 rfl at_198 rfl rfl ?_
                refine B.ifnonnull 210 203 rfl (by decide) rfl at_200 rfl (fun c200 => ?_) (fun c200 => ?_)
                · refine B.aload 212 rfl at_210 rfl rfl ?_
                  refine B.ifnull 225 215 rfl (by decide) rfl at_212 rfl (fun c212 => ?_) (fun c212 => ?_)
                  · exact absurd c212 (by simp)
                  · refine B.aload 217 rfl at_215 rfl rfl ?_
                    refine B.aload 219 rfl at_217 rfl rfl ?_
                    refine B.callV 222 rfl at_219 (wd hw 96 rfl) (wd hw 97 rfl) (wd hw 99 rfl) (wd hw 98 rfl) (wd hw 4 rfl) (wd hw 100 rfl) (by decide) E_ds_12 [(.ref ds)] [] (rm_eq l Z a0 hw ds h_o) rfl rfl pd__Ljava_lang_Object__Z rfl rfl 0 rfl (by decide) (by decide) (by decide) (by decide) (fun _ q => nomatch q) ?_
                    rintro _ _ - ⟨rfl, rfl⟩
                    show B.G h_o 9 23 (mkF m 222 #[.val (.int p1), .val (.int p2), .val (.int p3), .val (.int ((p1).toInt8.toInt32)), .val (.int (((p1 >>> ((8 : Int32) &&& 31))).toInt8.toInt32)), .val (.int (((p1 >>> ((16 : Int32) &&& 31))).toInt8.toInt32)), .val (.ref fu), .val (.ref em), .val (.int (1 : Int32)), .val (.ref em), .val (.ref mc), .val (.ref s1), .val (.ref ds), .val (.ref o), .val (.ref cp), .val (.ref s1), .val (.ref ds)] [(.int (1 : Int32))])
                    refine B.if0_ne 227 225 rfl (by decide) rfl at_222 (fun c222 => ?_) (fun c222 => ?_)
                    · refine B.aload 229 rfl at_227 rfl rfl ?_
                      refine B.ifnull 239 232 rfl (by decide) rfl at_229 rfl (fun c229 => ?_) (fun c229 => ?_)
                      · exact absurd c229 (by simp)
                      · refine B.aload 234 rfl at_232 rfl rfl ?_
                        refine B.aload 236 rfl at_234 rfl rfl ?_
                        refine B.acmp_ne 241 239 rfl (by decide) rfl at_236 rfl rfl (fun c236 => ?_) (fun c236 => ?_)
                        · refine B.iload 243 rfl at_241 rfl ?_
                          refine B.if0_eq 258 246 rfl (by decide) rfl at_243 (fun c243 => ?_) (fun c243 => ?_)
                          · exact absurd c243 (by decide)
                          · refine B.aload 248 rfl at_246 rfl rfl ?_
                            refine B.arrlen 249 rfl at_248 A_cp (0 : Int32) rfl ?_
                            refine B.if0_ne 256 252 rfl (by decide) rfl at_249 (fun c249 => ?_) (fun c249 => ?_)
                            · exact absurd c249 (by decide)
                            · refine B.iconst 253 rfl (1 : Int32) at_252 rfl ?_
                              refine B.goto 257 rfl (by decide) at_253 ?_
                              refine B.retN (by simp) at_257 (by decide) (by decide) ?_
                              exact rfl
                        · exact absurd (Value.ref.inj c236) (Ne.symm n_em_cp)
                    · exact absurd c222 (by decide)
                · exact absurd c200 (by simp)
              · exact absurd c186 (by decide)
          · exact absurd c162 (by decide)
        · exact absurd rfl c152
      · refine B.aconstNull 112 rfl at_111 ?_
        refine B.goto 127 rfl (by decide) at_112 ?_
        refine B.astore 129 rfl at_127 rfl #[.val (.int p1), .val (.int p2), .val (.int p3), .val (.int ((p1).toInt8.toInt32)), .val (.int (((p1 >>> ((8 : Int32) &&& 31))).toInt8.toInt32)), .val (.int (((p1 >>> ((16 : Int32) &&& 31))).toInt8.toInt32)), .val (.ref fu), .val (.ref em), .val (.int (1 : Int32)), .val (.ref em), .val (.ref mc), .val (.ref s1), .val .null, .unset, .unset, .unset, .unset] rfl ?_
        refine B.aload 131 rfl at_129 rfl rfl ?_
        refine B.aload 133 rfl at_131 rfl rfl ?_
        refine B.aload 135 rfl at_133 rfl rfl ?_
        refine B.callS 138 rfl at_135 (wd hw 44 rfl) (wd hw 45 rfl) (wd hw 46 rfl) (wd hw 47 rfl) (by decide) [(.ref em), (.ref s1), .null] [] (rm_of l Z a0 hw em s1 .null [] h_s1b rfl rfl A_em_10 E_em_10 (by simp) (by simp)) rfl rfl pd___BLjava_lang_String_Ljava_lang_String__Lcom_example_siegelwerk_siegelwerk_DataObject_ rfl rfl 0 rfl (by decide) (by decide) (by decide) (by decide) (fun _ q => nomatch q) ?_
        rintro _ h_o K_o ⟨o, cp, rfl, g_cp, E_o, G0, G1, G2, G3, A_cp⟩
        show B.G h_o 7 18 (mkF m 138 #[.val (.int p1), .val (.int p2), .val (.int p3), .val (.int ((p1).toInt8.toInt32)), .val (.int (((p1 >>> ((8 : Int32) &&& 31))).toInt8.toInt32)), .val (.int (((p1 >>> ((16 : Int32) &&& 31))).toInt8.toInt32)), .val (.ref fu), .val (.ref em), .val (.int (1 : Int32)), .val (.ref em), .val (.ref mc), .val (.ref s1), .val .null, .unset, .unset, .unset, .unset] [(.ref o)])
        have n_fu_cp : fu ≠ cp := fun q => absurd A_fu_10.lt (by rw [q]; exact Nat.not_lt.mpr g_cp)
        have n_em_cp : em ≠ cp := fun q => absurd A_em_10.lt (by rw [q]; exact Nat.not_lt.mpr g_cp)
        have E_fu_11 := E_fu_10.keep K_o
        have A_fu_11 := A_fu_10.keep K_o nin0
        have A_em_11 := A_em_10.keep K_o nin0
        have E_em_11 := E_em_10.keep K_o
        have A_mc_11 := A_mc_10.keep K_o nin0
        have E_s1_11 := E_s1_10.keep K_o
        refine B.astore 140 rfl at_138 rfl #[.val (.int p1), .val (.int p2), .val (.int p3), .val (.int ((p1).toInt8.toInt32)), .val (.int (((p1 >>> ((8 : Int32) &&& 31))).toInt8.toInt32)), .val (.int (((p1 >>> ((16 : Int32) &&& 31))).toInt8.toInt32)), .val (.ref fu), .val (.ref em), .val (.int (1 : Int32)), .val (.ref em), .val (.ref mc), .val (.ref s1), .val .null, .val (.ref o), .unset, .unset, .unset] rfl ?_
        refine B.aload 142 rfl at_140 rfl rfl ?_
        refine B.callV 145 rfl at_142 (wd hw 76 rfl) (wd hw 77 rfl) (wd hw 79 rfl) (wd hw 78 rfl) (wd hw 46 rfl) (wd hw 80 rfl) (by decide) E_o [] [] (rm_by l Z a0 hw o cp h_o G1) rfl rfl pd____B rfl rfl 0 rfl (by decide) (by decide) (by decide) (by decide) (fun _ q => nomatch q) ?_
        rintro _ _ - ⟨rfl, rfl⟩
        show B.G h_o 7 18 (mkF m 145 #[.val (.int p1), .val (.int p2), .val (.int p3), .val (.int ((p1).toInt8.toInt32)), .val (.int (((p1 >>> ((8 : Int32) &&& 31))).toInt8.toInt32)), .val (.int (((p1 >>> ((16 : Int32) &&& 31))).toInt8.toInt32)), .val (.ref fu), .val (.ref em), .val (.int (1 : Int32)), .val (.ref em), .val (.ref mc), .val (.ref s1), .val .null, .val (.ref o), .unset, .unset, .unset] [(.ref cp)])
        refine B.astore 147 rfl at_145 rfl #[.val (.int p1), .val (.int p2), .val (.int p3), .val (.int ((p1).toInt8.toInt32)), .val (.int (((p1 >>> ((8 : Int32) &&& 31))).toInt8.toInt32)), .val (.int (((p1 >>> ((16 : Int32) &&& 31))).toInt8.toInt32)), .val (.ref fu), .val (.ref em), .val (.int (1 : Int32)), .val (.ref em), .val (.ref mc), .val (.ref s1), .val .null, .val (.ref o), .val (.ref cp), .unset, .unset] rfl ?_
        refine B.aload 149 rfl at_147 rfl rfl ?_
        refine B.callV 152 rfl at_149 (wd hw 81 rfl) (wd hw 82 rfl) (wd hw 84 rfl) (wd hw 83 rfl) (wd hw 46 rfl) (wd hw 85 rfl) (by decide) E_o [] [] (rm_xm l Z a0 hw o h_o G0) rfl rfl pd___Ljava_util_List_ rfl rfl 0 rfl (by decide) (by decide) (by decide) (by decide) (fun _ q => nomatch q) ?_
        rintro _ _ - ⟨rfl, rfl⟩
        show B.G h_o 7 18 (mkF m 152 #[.val (.int p1), .val (.int p2), .val (.int p3), .val (.int ((p1).toInt8.toInt32)), .val (.int (((p1 >>> ((8 : Int32) &&& 31))).toInt8.toInt32)), .val (.int (((p1 >>> ((16 : Int32) &&& 31))).toInt8.toInt32)), .val (.ref fu), .val (.ref em), .val (.int (1 : Int32)), .val (.ref em), .val (.ref mc), .val (.ref s1), .val .null, .val (.ref o), .val (.ref cp), .unset, .unset] [.null])
        refine B.ifnull 157 155 rfl (by decide) rfl at_152 rfl (fun c152 => ?_) (fun c152 => ?_)
        · refine B.aload 159 rfl at_157 rfl rfl ?_
          refine B.callV 162 rfl at_159 (wd hw 86 rfl) (wd hw 87 rfl) (wd hw 89 rfl) (wd hw 88 rfl) (wd hw 46 rfl) (wd hw 90 rfl) (by decide) E_o [] [] (rm_is l Z a0 hw o h_o G0) rfl rfl pd___Z rfl rfl 0 rfl (by decide) (by decide) (by decide) (by decide) (fun _ q => nomatch q) ?_
          rintro _ _ - ⟨rfl, rfl⟩
          show B.G h_o 7 18 (mkF m 162 #[.val (.int p1), .val (.int p2), .val (.int p3), .val (.int ((p1).toInt8.toInt32)), .val (.int (((p1 >>> ((8 : Int32) &&& 31))).toInt8.toInt32)), .val (.int (((p1 >>> ((16 : Int32) &&& 31))).toInt8.toInt32)), .val (.ref fu), .val (.ref em), .val (.int (1 : Int32)), .val (.ref em), .val (.ref mc), .val (.ref s1), .val .null, .val (.ref o), .val (.ref cp), .unset, .unset] [(.int (0 : Int32))])
          refine B.if0_eq 167 165 rfl (by decide) rfl at_162 (fun c162 => ?_) (fun c162 => ?_)
          · refine B.aload 169 rfl at_167 rfl rfl ?_
            refine B.callV 172 rfl at_169 (wd hw 91 rfl) (wd hw 92 rfl) (wd hw 94 rfl) (wd hw 93 rfl) (wd hw 46 rfl) (wd hw 95 rfl) (by decide) E_o [] [] (rm_mi l Z a0 hw o s1 h_o G2) rfl rfl pd___Ljava_lang_String_ rfl rfl 0 rfl (by decide) (by decide) (by decide) (by decide) (fun _ q => nomatch q) ?_
            rintro _ _ - ⟨rfl, rfl⟩
            show B.G h_o 7 18 (mkF m 172 #[.val (.int p1), .val (.int p2), .val (.int p3), .val (.int ((p1).toInt8.toInt32)), .val (.int (((p1 >>> ((8 : Int32) &&& 31))).toInt8.toInt32)), .val (.int (((p1 >>> ((16 : Int32) &&& 31))).toInt8.toInt32)), .val (.ref fu), .val (.ref em), .val (.int (1 : Int32)), .val (.ref em), .val (.ref mc), .val (.ref s1), .val .null, .val (.ref o), .val (.ref cp), .unset, .unset] [(.ref s1)])
            refine B.astore 174 rfl at_172 rfl #[.val (.int p1), .val (.int p2), .val (.int p3), .val (.int ((p1).toInt8.toInt32)), .val (.int (((p1 >>> ((8 : Int32) &&& 31))).toInt8.toInt32)), .val (.int (((p1 >>> ((16 : Int32) &&& 31))).toInt8.toInt32)), .val (.ref fu), .val (.ref em), .val (.int (1 : Int32)), .val (.ref em), .val (.ref mc), .val (.ref s1), .val .null, .val (.ref o), .val (.ref cp), .val (.ref s1), .unset] rfl ?_
            refine B.aload 176 rfl at_174 rfl rfl ?_
            refine B.ifnull 189 179 rfl (by decide) rfl at_176 rfl (fun c176 => ?_) (fun c176 => ?_)
            · exact absurd c176 (by simp)
            · refine B.aload 181 rfl at_179 rfl rfl ?_
              refine B.aload 183 rfl at_181 rfl rfl ?_
              refine B.callV 186 rfl at_183 (wd hw 96 rfl) (wd hw 97 rfl) (wd hw 99 rfl) (wd hw 98 rfl) (wd hw 4 rfl) (wd hw 100 rfl) (by decide) E_s1_11 [(.ref s1)] [] (rm_eq l Z a0 hw s1 h_o) rfl rfl pd__Ljava_lang_Object__Z rfl rfl 0 rfl (by decide) (by decide) (by decide) (by decide) (fun _ q => nomatch q) ?_
              rintro _ _ - ⟨rfl, rfl⟩
              show B.G h_o 7 18 (mkF m 186 #[.val (.int p1), .val (.int p2), .val (.int p3), .val (.int ((p1).toInt8.toInt32)), .val (.int (((p1 >>> ((8 : Int32) &&& 31))).toInt8.toInt32)), .val (.int (((p1 >>> ((16 : Int32) &&& 31))).toInt8.toInt32)), .val (.ref fu), .val (.ref em), .val (.int (1 : Int32)), .val (.ref em), .val (.ref mc), .val (.ref s1), .val .null, .val (.ref o), .val (.ref cp), .val (.ref s1), .unset] [(.int (1 : Int32))])
              refine B.if0_ne 191 189 rfl (by decide) rfl at_186 (fun c186 => ?_) (fun c186 => ?_)
              · refine B.aload 193 rfl at_191 rfl rfl ?_
                refine B.callV 196 rfl at_193 (wd hw 101 rfl) (wd hw 102 rfl) (wd hw 104 rfl) (wd hw 103 rfl) (wd hw 46 rfl) (wd hw 105 rfl) (by decide) E_o [] [] (rm_deN l Z a0 hw o h_o G3) rfl rfl pd___Ljava_lang_String_ rfl rfl 0 rfl (by decide) (by decide) (by decide) (by decide) (fun _ q => nomatch q) ?_
                rintro _ _ - ⟨rfl, rfl⟩
                show B.G h_o 7 18 (mkF m 196 #[.val (.int p1), .val (.int p2), .val (.int p3), .val (.int ((p1).toInt8.toInt32)), .val (.int (((p1 >>> ((8 : Int32) &&& 31))).toInt8.toInt32)), .val (.int (((p1 >>> ((16 : Int32) &&& 31))).toInt8.toInt32)), .val (.ref fu), .val (.ref em), .val (.int (1 : Int32)), .val (.ref em), .val (.ref mc), .val (.ref s1), .val .null, .val (.ref o), .val (.ref cp), .val (.ref s1), .unset] [.null])
                refine B.astore 198 rfl at_196 rfl #[.val (.int p1), .val (.int p2), .val (.int p3), .val (.int ((p1).toInt8.toInt32)), .val (.int (((p1 >>> ((8 : Int32) &&& 31))).toInt8.toInt32)), .val (.int (((p1 >>> ((16 : Int32) &&& 31))).toInt8.toInt32)), .val (.ref fu), .val (.ref em), .val (.int (1 : Int32)), .val (.ref em), .val (.ref mc), .val (.ref s1), .val .null, .val (.ref o), .val (.ref cp), .val (.ref s1), .val .null] rfl ?_
                refine B.aload 200 rfl at_198 rfl rfl ?_
                refine B.ifnonnull 210 203 rfl (by decide) rfl at_200 rfl (fun c200 => ?_) (fun c200 => ?_)
                · exact absurd rfl c200
                · refine B.aload 205 rfl at_203 rfl rfl ?_
                  refine B.ifnull 227 208 rfl (by decide) rfl at_205 rfl (fun c205 => ?_) (fun c205 => ?_)
                  · refine B.aload 229 rfl at_227 rfl rfl ?_
                    refine B.ifnull 239 232 rfl (by decide) rfl at_229 rfl (fun c229 => ?_) (fun c229 => ?_)
                    · exact absurd c229 (by simp)
                    · refine B.aload 234 rfl at_232 rfl rfl ?_
                      refine B.aload 236 rfl at_234 rfl rfl ?_
                      refine B.acmp_ne 241 239 rfl (by decide) rfl at_236 rfl rfl (fun c236 => ?_) (fun c236 => ?_)
                      · refine B.iload 243 rfl at_241 rfl ?_
                        refine B.if0_eq 258 246 rfl (by decide) rfl at_243 (fun c243 => ?_) (fun c243 => ?_)
                        · exact absurd c243 (by decide)
                        · refine B.aload 248 rfl at_246 rfl rfl ?_
                          refine B.arrlen 249 rfl at_248 A_cp (0 : Int32) rfl ?_
                          refine B.if0_ne 256 252 rfl (by decide) rfl at_249 (fun c249 => ?_) (fun c249 => ?_)
                          · exact absurd c249 (by decide)
                          · refine B.iconst 253 rfl (1 : Int32) at_252 rfl ?_
                            refine B.goto 257 rfl (by decide) at_253 ?_
                            refine B.retN (by simp) at_257 (by decide) (by decide) ?_
                            exact rfl
                      · exact absurd (Value.ref.inj c236) (Ne.symm n_em_cp)
                  · exact absurd rfl c205
              · exact absurd c186 (by decide)
          · exact absurd c162 (by decide)
        · exact absurd rfl c152
set_option maxRecDepth 65536 in
set_option maxHeartbeats 4000000 in
theorem comes_1 {Post : Tables → Env → Array Value → State → Outcome → State → Prop} (hpost : ∀ tb e args s v u, (limb_1_1.after args s (.returned v) u = true ∧ limb_1_2.after args s (.returned v) u = true ∧ True) → FrameEnd s (.returned v) u (Jvm.fieldLocs frame_1_writes args s ++ Jvm.arrayLocs frame_1_arrays args s ++ Jvm.staticLocs frame_1_statics s) 32 128 → Post tb e args s (.returned v) u) :
    ArmFor flags0 classFile x code maxLocals ret World_1 tables_1 room_1 Calls_1 rest_1 Pre_1 Post := by
  intro l hfl _ _ p e ha hc hk s m args below hf hA hF happ hP
  obtain ⟨hcalls, hrest, hpre⟩ := hP
  obtain ⟨-, -, -, hnamed, -, -, -, hat⟩ := (Spec.applies_iff hf).mp happ
  obtain ⟨hg, hn⟩ := and_e (Cond.before_iff.mp (show (Jvm.Cond.and given_1 narrow_1).before args s = true from hpre))
  obtain ⟨g0, gg0⟩ := and_e hg
  obtain ⟨k0, gg1⟩ := and_e gg0
  obtain ⟨k1, gg2⟩ := and_e gg1
  obtain ⟨w0, w1, w2, rfl⟩ : ∃ w0 w1 w2 : Value, args = #[w0, w1, w2] := by
    have hs : args.size = 3 := by simpa [Cond.value, given_1] using g0
    obtain ⟨L⟩ := args
    match L, hs with
    | [w0, w1, w2], _ => exact ⟨w0, w1, w2, rfl⟩
  have hw := fun d (hd : d ∈ tables_1) => atoms_spec (ws := Jvm.Cond.code x code maxLocals ret :: tables_1) hat d (List.mem_cons_of_mem _ hd)
  obtain ⟨i0, ei0⟩ := is_v k0
  obtain rfl : w0 = (.int i0) := Option.some.inj ei0
  obtain ⟨i1, ei1⟩ := is_v k1
  obtain rfl : w1 = (.int i1) := Option.some.inj ei1
  obtain ⟨i2, ei2⟩ := is_v gg2
  obtain rfl : w2 = (.int i2) := Option.some.inj ei2
  obtain ⟨hsets, hown0⟩ := atoms_of _ (rest_1_c_eq ▸ (show rest_1_c.before _ s = true from hrest))
  obtain ⟨cs, vcs⟩ := is_v (Cond.before_iff.mp (hsets _ (List.mem_of_getElem? (i := 1) rfl)))
  have hcs : ¬ cs = 0 := fun q => by
    subst q
    have z : Option.map (fun x => !x) ((Jvm.Cond.eq (Jvm.Term.static "java/lang/String" "COMPACT_STRINGS" "Z") (.int 0)).value _ s none s []) = some true := Cond.before_iff.mp (hsets _ (List.mem_of_getElem? (i := 2) rfl))
    rw [eq_i vcs (Term.int_eval (0)) rfl] at z
    exact absurd z (by decide)
  have Ss := Sta.start vcs (Or.inl (hsets _ (List.mem_of_getElem? (i := 0) rfl)))
  obtain ⟨n, o, h1, h2, h3, _, L, rfl, ⟨rfl, N, -⟩, hq⟩ := rm0 l s _ hw tables_1 i0 i1 i2 s.heap cs hcs Ss p e ha hc hk s m _ below hf ((Spec.applies_iff_loose hf).mp happ).1 ⟨rfl, State.Warmed39.refl s, rfl⟩ trivial
  refine ⟨n, _, h1, h2, h3, hpost _ _ _ _ _ _ ⟨Cond.after_iff.mpr rfl, Cond.after_iff.mpr (eq_i res_at (Term.int_eval (1)) rfl), trivial⟩ ⟨hq.1, hq.2.1, (hq.2.2.sift fun y hy => Or.inr ((N y hy).resolve_left (by simp))).mono (by decide) (by decide)⟩⟩
theorem main_1_1 : Claimed_1_1 := comes_1 fun _ _ _ _ _ _ h hF => ⟨h.1, hF⟩
theorem main_1_2 : Claimed_1_2 := comes_1 fun _ _ _ _ _ _ h hF => ⟨h.2.1, hF⟩
end Jvm.Pilot.@@N@@
namespace Jvm.Pilot.@@N@@
open Jvm Jvm.ClassFile Sem Op Lib Jvm.Free Jvm.Stand Jvm.Pilot.@@N@@.Jvm.D
/-! MADE BY PROGRAM (witnessworld.py) out of the Statement's table words and the real class files: 21 classes; the members and pool entries that the words name. The judged class is class 1, her method 1. -/
namespace start1
open Jvm.ClassFile
def u (s : String) : CpInfo := .utf8 (stringToUtf16 s)
/-- a pool by its gaps: so many unusable entries, then the entry; so many at the end -/
def gap : Nat → List CpInfo → List CpInfo
  | 0, r => r
  | n + 1, r => .unusable :: gap n r
def poolList (es : List (Nat × CpInfo)) (last : Nat) : List CpInfo := es.foldr (fun e r => gap e.1 (e.2 :: r)) (gap last [])
def pool (es : List (Nat × CpInfo)) (last : Nat) : Array CpInfo := ⟨poolList es last⟩
def fileOf (pool : Array CpInfo) (this : Nat) (attrs : Array Attribute := #[]) (ms : Array MethodInfo := #[]) (fl : Nat := 33) (sup : Nat := 0) (ifs : Array Nat := #[]) (fds : Array FieldInfo := #[]) : ClassFile where
  minorVersion := 0
  majorVersion := 65
  constantPool := pool
  accessFlags := fl
  thisClass := this
  superClass := sup
  interfaces := ifs
  fields := fds
  methods := ms
  attributes := attrs
def plain (name : String) (sup : Option ClassId) : Class where
  name := name
  kind := .ordinary
  loader := none
  accessFlags := 33
  super := sup
  interfaces := #[]
  cf := none
  fields := #[]
  methods := #[]
  instanceTypes := #[]
  staticTypes := #[]
  resolved := #[]
  callSites := []
  init := .initialized
  statics := none
  mirror := none

def pool0 : Array CpInfo := pool [(5, u "<init>"), (0, u "()V"), (1, .class_ 10), (1, u "java/lang/Object"), (85, u "clone"), (0, u "()Ljava/lang/Object;")] 26

def k0c0 : Code := { maxStack := 0, maxLocals := 1, code := object_method_1_code, exceptionTable := #[], attributes := #[] }
def k0m0 : Method := { name := "<init>", desc := "()V", sig := { parameters := [], returnType := none }, accessFlags := 1, code := some k0c0 }
def k0m1 : Method := { name := "clone", desc := "()Ljava/lang/Object;", sig := { parameters := [], returnType := some (.object "java/lang/Object") }, accessFlags := 260, code := none }
/-- java/lang/Object -/
def k0 : Class := { plain "java/lang/Object" none with
  accessFlags := 33
  interfaces := #[]
  cf := some (fileOf pool0 8 #[] #[{ accessFlags := 1, nameIndex := 5, descriptorIndex := 6, attributes := #[] }, { accessFlags := 260, nameIndex := 96, descriptorIndex := 97, attributes := #[] }] 33 0 #[] #[])
  fields := #[]
  methods := #[k0m0, k0m1]
  instanceTypes := #[]
  staticTypes := #[]
  resolved := Array.replicate 124 none
  statics := none }

def pool1 : Array CpInfo := pool [(2, .class_ 4), (1, u "java/lang/Object"), (0, u "<init>"), (0, u "()V"), (0, .class_ 8), (0, u "java/lang/String"), (0, .methodref 7 10), (0, .nameAndType 5 11), (0, u "([C)V"), (0, .methodref 7 13), (0, .nameAndType 14 15), (0, u "valueOf"), (0, u "(C)Ljava/lang/String;"), (0, .methodref 17 18), (0, .class_ 19), (0, .nameAndType 20 21), (0, u "com/example/siegelwerk/siegelwerk/DataObject"), (0, u "ofBytes"), (0, u "([BLjava/lang/String;Ljava/lang/String;)Lcom/example/siegelwerk/siegelwerk/DataObject;"), (0, .methodref 17 23), (0, .nameAndType 24 25), (0, u "bytes"), (0, u "()[B"), (0, .methodref 17 27), (0, .nameAndType 28 29), (0, u "xml"), (0, u "()Ljava/util/List;"), (0, .methodref 17 31), (0, .nameAndType 32 33), (0, u "isXml"), (0, u "()Z"), (0, .methodref 17 35), (0, .nameAndType 36 37), (0, u "mimeType"), (0, u "()Ljava/lang/String;"), (0, .methodref 7 39), (0, .nameAndType 40 41), (0, u "equals"), (0, u "(Ljava/lang/Object;)Z"), (0, .methodref 17 43), (0, .nameAndType 44 37), (0, u "description"), (0, .class_ 46), (0, u "com/example/siegelwerk/siegelwerk/DataObjectOfBytesPinLaw"), (2, u "law"), (0, u "(III)Z")] 7

def k1m0 : Method := { name := "<init>", desc := "()V", sig := { parameters := [], returnType := none }, accessFlags := 1, code := none }
def k1c1 : Code := { maxStack := 5, maxLocals := 17, code := code, exceptionTable := #[], attributes := #[] }
def k1m1 : Method := { name := "law", desc := "(III)Z", sig := { parameters := [.int, .int, .int], returnType := some .boolean }, accessFlags := 9, code := some k1c1 }
/-- com/example/siegelwerk/siegelwerk/DataObjectOfBytesPinLaw -/
def k1 : Class := { plain "com/example/siegelwerk/siegelwerk/DataObjectOfBytesPinLaw" (some 0) with
  accessFlags := 49
  interfaces := #[]
  cf := some (fileOf pool1 45 #[] #[{ accessFlags := 1, nameIndex := 5, descriptorIndex := 6, attributes := #[] }, { accessFlags := 9, nameIndex := 49, descriptorIndex := 50, attributes := #[] }] 49 2 #[] #[])
  fields := #[]
  methods := #[k1m0, k1m1]
  instanceTypes := #[]
  staticTypes := #[]
  resolved := Array.replicate 58 none
  statics := none }

def pool2 : Array CpInfo := pool [(1, .class_ 2), (0, u "java/io/Serializable"), (0, .class_ 4), (0, u "java/lang/Object")] 2

/-- java/io/Serializable -/
def k2 : Class := { plain "java/io/Serializable" (some 0) with
  accessFlags := 1537
  interfaces := #[]
  cf := some (fileOf pool2 1 #[] #[] 1537 3 #[] #[])
  fields := #[]
  methods := #[]
  instanceTypes := #[]
  staticTypes := #[]
  resolved := Array.replicate 7 none
  statics := none }

def pool3 : Array CpInfo := pool [(1, .class_ 2), (0, u "java/lang/Comparable"), (0, .class_ 4), (0, u "java/lang/Object")] 7

/-- java/lang/Comparable -/
def k3 : Class := { plain "java/lang/Comparable" (some 0) with
  accessFlags := 1537
  interfaces := #[]
  cf := some (fileOf pool3 1 #[] #[] 1537 3 #[] #[])
  fields := #[]
  methods := #[]
  instanceTypes := #[]
  staticTypes := #[]
  resolved := Array.replicate 12 none
  statics := none }

def pool4 : Array CpInfo := pool [(2, .class_ 4), (1, u "java/lang/CharSequence"), (42, .class_ 48), (0, u "java/lang/CharSequence$1CodePointIterator"), (10, .class_ 60), (0, u "java/lang/CharSequence$1CharIterator"), (5, .class_ 67), (0, u "java/lang/Object")] 63

/-- java/lang/CharSequence -/
def k4 : Class := { plain "java/lang/CharSequence" (some 0) with
  accessFlags := 1537
  interfaces := #[]
  cf := some (fileOf pool4 2 #[.nestMembers #[47, 59]] #[] 1537 66 #[] #[])
  fields := #[]
  methods := #[]
  instanceTypes := #[]
  staticTypes := #[]
  resolved := Array.replicate 131 none
  statics := none }

def pool5 : Array CpInfo := pool [(1, .class_ 2), (0, u "java/lang/constant/Constable"), (0, .class_ 4), (0, u "java/lang/Object")] 6

/-- java/lang/constant/Constable -/
def k5 : Class := { plain "java/lang/constant/Constable" (some 0) with
  accessFlags := 1537
  interfaces := #[]
  cf := some (fileOf pool5 1 #[] #[] 1537 3 #[] #[])
  fields := #[]
  methods := #[]
  instanceTypes := #[]
  staticTypes := #[]
  resolved := Array.replicate 11 none
  statics := none }

def pool6 : Array CpInfo := pool [(1, .class_ 2), (0, u "java/lang/constant/ConstantDesc"), (0, .class_ 4), (0, u "java/lang/Object")] 32

/-- java/lang/constant/ConstantDesc -/
def k6 : Class := { plain "java/lang/constant/ConstantDesc" (some 0) with
  accessFlags := 1537
  interfaces := #[]
  cf := some (fileOf pool6 1 #[] #[] 1537 3 #[] #[])
  fields := #[]
  methods := #[]
  instanceTypes := #[]
  staticTypes := #[]
  resolved := Array.replicate 37 none
  statics := none }

def pool7 : Array CpInfo := pool [(1, .methodref 2 3), (0, .class_ 4), (0, .nameAndType 5 6), (0, u "java/lang/Object"), (0, u "<init>"), (0, u "()V"), (2, .fieldref 10 11), (0, .class_ 12), (0, .nameAndType 13 14), (0, u "java/lang/String"), (0, u "value"), (0, u "[B"), (0, .fieldref 10 16), (0, .nameAndType 17 18), (0, u "coder"), (0, u "B"), (2, u "hash"), (0, u "I"), (2, u "hashIsZero"), (0, u "Z"), (0, .methodref 10 28), (0, .nameAndType 5 29), (0, u "([CIILjava/lang/Void;)V"), (8, .fieldref 10 39), (0, .nameAndType 40 26), (0, u "COMPACT_STRINGS"), (1, .class_ 44), (1, u "java/lang/StringUTF16"), (0, u "compress"), (1, .methodref 42 48), (0, .nameAndType 49 50), (0, u "coderFromArrayLen"), (0, u "([BI)B"), (2, u "toBytes"), (53, .class_ 109), (1, u "java/lang/StringLatin1"), (67, .methodref 42 178), (0, .nameAndType 45 179), (0, u "([CII)[B"), (29, .methodref 10 210), (0, .nameAndType 5 211), (0, u "([BB)V"), (157, u "(C)Z"), (173, u "equals"), (29, u "(Ljava/lang/Object;)Z"), (1, .class_ 576), (0, u "java/lang/CharSequence"), (22, u "CASE_INSENSITIVE_ORDER"), (0, u "Ljava/util/Comparator;"), (181, u "valueOf"), (0, u "(C)Ljava/lang/String;"), (226, u "([C)V"), (4, .methodref 107 1016), (0, .nameAndType 1017 369), (0, u "canEncode"), (0, .methodref 107 1019), (0, .nameAndType 53 1020), (0, u "(C)[B"), (80, u "serialPersistentFields"), (0, u "[Ljava/io/ObjectStreamField;"), (0, .class_ 1104), (0, u "java/lang/String$CaseInsensitiveComparator"), (1, .class_ 1107), (0, u "java/io/Serializable"), (0, .class_ 1109), (0, u "java/lang/Comparable"), (0, .class_ 1111), (0, u "java/lang/constant/Constable"), (0, .class_ 1113), (0, u "java/lang/constant/ConstantDesc"), (2, u "serialVersionUID"), (0, u "J"), (3, u "REPL"), (0, u "C"), (2, u "LATIN1"), (1, u "UTF16")] 323

def k7m0 : Method := { name := "<init>", desc := "()V", sig := { parameters := [], returnType := none }, accessFlags := 1, code := none }
def k7c1 : Code := { maxStack := 5, maxLocals := 2, code := jdk_42_method_3_code, exceptionTable := #[], attributes := #[] }
def k7m1 : Method := { name := "<init>", desc := "([C)V", sig := { parameters := [(.array .char)], returnType := none }, accessFlags := 1, code := some k7c1 }
def k7c2 : Code := { maxStack := 2, maxLocals := 3, code := jdk_42_method_66_code, exceptionTable := #[], attributes := #[] }
def k7m2 : Method := { name := "equals", desc := "(Ljava/lang/Object;)Z", sig := { parameters := [(.object "java/lang/Object")], returnType := some .boolean }, accessFlags := 1, code := some k7c2 }
def k7c3 : Code := { maxStack := 4, maxLocals := 1, code := jdk_42_method_139_code, exceptionTable := #[], attributes := #[] }
def k7m3 : Method := { name := "valueOf", desc := "(C)Ljava/lang/String;", sig := { parameters := [.char], returnType := some (.object "java/lang/String") }, accessFlags := 9, code := some k7c3 }
def k7c4 : Code := { maxStack := 4, maxLocals := 6, code := jdk_42_method_149_code, exceptionTable := #[], attributes := #[] }
def k7m4 : Method := { name := "<init>", desc := "([CIILjava/lang/Void;)V", sig := { parameters := [(.array .char), .int, .int, (.object "java/lang/Void")], returnType := none }, accessFlags := 2, code := some k7c4 }
def k7c5 : Code := { maxStack := 2, maxLocals := 3, code := jdk_42_method_151_code, exceptionTable := #[], attributes := #[] }
def k7m5 : Method := { name := "<init>", desc := "([BB)V", sig := { parameters := [(.array .byte), .byte], returnType := none }, accessFlags := 0, code := some k7c5 }
/-- java/lang/String -/
def k7 : Class := { plain "java/lang/String" (some 0) with
  accessFlags := 49
  interfaces := #[2, 3, 4, 5, 6]
  cf := some (fileOf pool7 10 #[.nestMembers #[1103]] #[{ accessFlags := 1, nameIndex := 5, descriptorIndex := 6, attributes := #[] }, { accessFlags := 1, nameIndex := 5, descriptorIndex := 1010, attributes := #[] }, { accessFlags := 1, nameIndex := 543, descriptorIndex := 573, attributes := #[] }, { accessFlags := 9, nameIndex := 782, descriptorIndex := 783, attributes := #[] }, { accessFlags := 2, nameIndex := 5, descriptorIndex := 29, attributes := #[] }, { accessFlags := 0, nameIndex := 5, descriptorIndex := 211, attributes := #[] }] 49 2 #[1106, 1108, 575, 1110, 1112] #[{ accessFlags := 18, nameIndex := 13, descriptorIndex := 14, attributes := #[] }, { accessFlags := 18, nameIndex := 17, descriptorIndex := 18, attributes := #[] }, { accessFlags := 2, nameIndex := 21, descriptorIndex := 22, attributes := #[] }, { accessFlags := 2, nameIndex := 25, descriptorIndex := 26, attributes := #[] }, { accessFlags := 26, nameIndex := 1116, descriptorIndex := 1117, attributes := #[] }, { accessFlags := 24, nameIndex := 40, descriptorIndex := 26, attributes := #[] }, { accessFlags := 26, nameIndex := 1101, descriptorIndex := 1102, attributes := #[] }, { accessFlags := 26, nameIndex := 1121, descriptorIndex := 1122, attributes := #[] }, { accessFlags := 25, nameIndex := 599, descriptorIndex := 600, attributes := #[] }, { accessFlags := 24, nameIndex := 1125, descriptorIndex := 18, attributes := #[] }, { accessFlags := 24, nameIndex := 1127, descriptorIndex := 18, attributes := #[] }])
  fields := #[{ name := "value", type := (.array .byte), accessFlags := 18, slot := 0, constantValue := 0 }, { name := "coder", type := .byte, accessFlags := 18, slot := 1, constantValue := 0 }, { name := "hash", type := .int, accessFlags := 2, slot := 2, constantValue := 0 }, { name := "hashIsZero", type := .boolean, accessFlags := 2, slot := 3, constantValue := 0 }, { name := "serialVersionUID", type := .long, accessFlags := 26, slot := 0, constantValue := 0 }, { name := "COMPACT_STRINGS", type := .boolean, accessFlags := 24, slot := 1, constantValue := 0 }, { name := "serialPersistentFields", type := (.array (.object "java/io/ObjectStreamField")), accessFlags := 26, slot := 2, constantValue := 0 }, { name := "REPL", type := .char, accessFlags := 26, slot := 3, constantValue := 0 }, { name := "CASE_INSENSITIVE_ORDER", type := (.object "java/util/Comparator"), accessFlags := 25, slot := 4, constantValue := 0 }, { name := "LATIN1", type := .byte, accessFlags := 24, slot := 5, constantValue := 0 }, { name := "UTF16", type := .byte, accessFlags := 24, slot := 6, constantValue := 0 }]
  methods := #[k7m0, k7m1, k7m2, k7m3, k7m4, k7m5]
  instanceTypes := #[(.array .byte), .byte, .int, .boolean]
  staticTypes := #[.long, .boolean, (.array (.object "java/io/ObjectStreamField")), .char, (.object "java/util/Comparator"), .byte, .byte]
  resolved := Array.replicate 1451 none
  statics := some 0 }

def pool8 : Array CpInfo := pool [(6, .class_ 8), (1, u "java/lang/Object"), (0, u "<init>"), (0, u "()V"), (1, .class_ 14), (1, u "java/lang/StringUTF16"), (31, u "$assertionsDisabled"), (0, u "Z"), (13, u "HI_BYTE_SHIFT"), (0, u "I"), (2, u "LO_BYTE_SHIFT"), (49, .methodref 12 116), (0, .nameAndType 117 118), (0, u "compress"), (0, u "([CI[BII)I"), (3, u "([CII)[B"), (138, u "coderFromArrayLen"), (0, u "([BI)B"), (106, .class_ 371), (1, u "java/lang/StringUTF16$LinesSpliterator"), (58, u "MAX_LENGTH"), (196, .class_ 628), (0, u "java/lang/StringUTF16$CodePointsSpliterator"), (0, .class_ 630), (0, u "java/lang/StringUTF16$CharsSpliterator")] 4

def k8m0 : Method := { name := "<init>", desc := "()V", sig := { parameters := [], returnType := none }, accessFlags := 0, code := none }
def k8c1 : Code := { maxStack := 2, maxLocals := 2, code := jdk_52_method_15_code, exceptionTable := #[], attributes := #[] }
def k8m1 : Method := { name := "coderFromArrayLen", desc := "([BI)B", sig := { parameters := [(.array .byte), .int], returnType := some .byte }, accessFlags := 8, code := some k8c1 }
def k8c2 : Code := { maxStack := 5, maxLocals := 6, code := jdk_52_method_16_code, exceptionTable := #[], attributes := #[] }
def k8m2 : Method := { name := "compress", desc := "([CII)[B", sig := { parameters := [(.array .char), .int, .int], returnType := some (.array .byte) }, accessFlags := 9, code := some k8c2 }
def k8c3 : Code := { maxStack := 3, maxLocals := 7, code := jdk_52_method_21_code, exceptionTable := #[], attributes := #[] }
def k8m3 : Method := { name := "compress", desc := "([CI[BII)I", sig := { parameters := [(.array .char), .int, (.array .byte), .int, .int], returnType := some .int }, accessFlags := 9, code := some k8c3 }
/-- java/lang/StringUTF16 -/
def k8 : Class := { plain "java/lang/StringUTF16" (some 0) with
  accessFlags := 48
  interfaces := #[]
  cf := some (fileOf pool8 12 #[.nestMembers #[627, 629, 369]] #[{ accessFlags := 0, nameIndex := 9, descriptorIndex := 10, attributes := #[] }, { accessFlags := 8, nameIndex := 261, descriptorIndex := 262, attributes := #[] }, { accessFlags := 9, nameIndex := 117, descriptorIndex := 122, attributes := #[] }, { accessFlags := 9, nameIndex := 117, descriptorIndex := 118, attributes := #[] }] 48 6 #[] #[{ accessFlags := 26, nameIndex := 61, descriptorIndex := 62, attributes := #[] }, { accessFlags := 26, nameIndex := 65, descriptorIndex := 62, attributes := #[] }, { accessFlags := 24, nameIndex := 430, descriptorIndex := 62, attributes := #[] }, { accessFlags := 4120, nameIndex := 46, descriptorIndex := 47, attributes := #[] }])
  fields := #[{ name := "HI_BYTE_SHIFT", type := .int, accessFlags := 26, slot := 0, constantValue := 0 }, { name := "LO_BYTE_SHIFT", type := .int, accessFlags := 26, slot := 1, constantValue := 0 }, { name := "MAX_LENGTH", type := .int, accessFlags := 24, slot := 2, constantValue := 0 }, { name := "$assertionsDisabled", type := .boolean, accessFlags := 4120, slot := 3, constantValue := 0 }]
  methods := #[k8m0, k8m1, k8m2, k8m3]
  instanceTypes := #[]
  staticTypes := #[.int, .int, .int, .boolean]
  resolved := Array.replicate 635 none
  statics := none }

def pool9 : Array CpInfo := pool [(4, .class_ 6), (1, u "java/lang/Object"), (0, u "<init>"), (0, u "()V"), (5, .class_ 16), (1, u "java/lang/StringLatin1"), (73, u "canEncode"), (14, u "(C)Z"), (15, u "$assertionsDisabled"), (0, u "Z"), (98, .class_ 223), (1, u "java/lang/StringLatin1$LinesSpliterator"), (156, u "toBytes"), (1, u "(C)[B"), (7, .class_ 391), (0, u "java/lang/StringLatin1$CharsSpliterator")] 3

def k9m0 : Method := { name := "<init>", desc := "()V", sig := { parameters := [], returnType := none }, accessFlags := 0, code := none }
def k9c1 : Code := { maxStack := 2, maxLocals := 1, code := jdk_43_method_3_code, exceptionTable := #[], attributes := #[] }
def k9m1 : Method := { name := "canEncode", desc := "(C)Z", sig := { parameters := [.char], returnType := some .boolean }, accessFlags := 9, code := some k9c1 }
def k9c2 : Code := { maxStack := 4, maxLocals := 1, code := jdk_43_method_46_code, exceptionTable := #[], attributes := #[] }
def k9m2 : Method := { name := "toBytes", desc := "(C)[B", sig := { parameters := [.char], returnType := some (.array .byte) }, accessFlags := 9, code := some k9c2 }
/-- java/lang/StringLatin1 -/
def k9 : Class := { plain "java/lang/StringLatin1" (some 0) with
  accessFlags := 48
  interfaces := #[]
  cf := some (fileOf pool9 14 #[.nestMembers #[390, 221]] #[{ accessFlags := 0, nameIndex := 7, descriptorIndex := 8, attributes := #[] }, { accessFlags := 9, nameIndex := 90, descriptorIndex := 105, attributes := #[] }, { accessFlags := 9, nameIndex := 380, descriptorIndex := 382, attributes := #[] }] 48 4 #[] #[{ accessFlags := 4120, nameIndex := 121, descriptorIndex := 122, attributes := #[] }])
  fields := #[{ name := "$assertionsDisabled", type := .boolean, accessFlags := 4120, slot := 0, constantValue := 0 }]
  methods := #[k9m0, k9m1, k9m2]
  instanceTypes := #[]
  staticTypes := #[.boolean]
  resolved := Array.replicate 395 none
  statics := none }

def pool10 : Array CpInfo := pool [(1, .methodref 2 3), (0, .class_ 4), (0, .nameAndType 5 6), (0, u "java/lang/Object"), (0, u "<init>"), (0, u "()V"), (0, .class_ 8), (0, u "java/lang/Record")] 13

def k10c0 : Code := { maxStack := 1, maxLocals := 1, code := jdk_30_method_1_code, exceptionTable := #[], attributes := #[] }
def k10m0 : Method := { name := "<init>", desc := "()V", sig := { parameters := [], returnType := none }, accessFlags := 4, code := some k10c0 }
/-- java/lang/Record -/
def k10 : Class := { plain "java/lang/Record" (some 0) with
  accessFlags := 1057
  interfaces := #[]
  cf := some (fileOf pool10 7 #[] #[{ accessFlags := 4, nameIndex := 5, descriptorIndex := 6, attributes := #[] }] 1057 2 #[] #[])
  fields := #[]
  methods := #[k10m0]
  instanceTypes := #[]
  staticTypes := #[]
  resolved := Array.replicate 22 none
  statics := none }

def pool11 : Array CpInfo := pool [(1, .methodref 2 3), (0, .class_ 4), (0, .nameAndType 5 6), (0, u "java/lang/Record"), (0, u "<init>"), (0, u "()V"), (0, .fieldref 8 9), (0, .class_ 10), (0, .nameAndType 11 12), (0, u "com/example/siegelwerk/siegelwerk/DataObject"), (0, u "xml"), (0, u "Ljava/util/List;"), (0, .fieldref 8 14), (0, .nameAndType 15 16), (0, u "bytes"), (0, u "[B"), (0, .fieldref 8 18), (0, .nameAndType 19 20), (0, u "mimeType"), (0, u "Ljava/lang/String;"), (0, .fieldref 8 22), (0, .nameAndType 23 20), (0, u "description"), (6, .methodref 8 31), (0, .nameAndType 5 32), (0, u "(Ljava/util/List;[BLjava/lang/String;Ljava/lang/String;)V"), (0, .methodref 34 35), (0, .class_ 16), (0, .nameAndType 36 37), (0, u "clone"), (0, u "()Ljava/lang/Object;"), (42, u "ofBytes"), (0, u "([BLjava/lang/String;Ljava/lang/String;)Lcom/example/siegelwerk/siegelwerk/DataObject;"), (4, u "isXml"), (0, u "()Z"), (0, u "()Ljava/lang/String;"), (2, u "()Ljava/util/List;"), (1, u "()[B")] 23

def k11c0 : Code := { maxStack := 2, maxLocals := 5, code := prog_13_method_1_code, exceptionTable := #[], attributes := #[] }
def k11m0 : Method := { name := "<init>", desc := "(Ljava/util/List;[BLjava/lang/String;Ljava/lang/String;)V", sig := { parameters := [(.object "java/util/List"), (.array .byte), (.object "java/lang/String"), (.object "java/lang/String")], returnType := none }, accessFlags := 0, code := some k11c0 }
def k11c1 : Code := { maxStack := 6, maxLocals := 3, code := prog_13_method_3_code, exceptionTable := #[], attributes := #[] }
def k11m1 : Method := { name := "ofBytes", desc := "([BLjava/lang/String;Ljava/lang/String;)Lcom/example/siegelwerk/siegelwerk/DataObject;", sig := { parameters := [(.array .byte), (.object "java/lang/String"), (.object "java/lang/String")], returnType := some (.object "com/example/siegelwerk/siegelwerk/DataObject") }, accessFlags := 8, code := some k11c1 }
def k11c2 : Code := { maxStack := 1, maxLocals := 1, code := prog_13_method_5_code, exceptionTable := #[], attributes := #[] }
def k11m2 : Method := { name := "isXml", desc := "()Z", sig := { parameters := [], returnType := some .boolean }, accessFlags := 0, code := some k11c2 }
def k11c3 : Code := { maxStack := 1, maxLocals := 1, code := prog_13_method_9_code, exceptionTable := #[], attributes := #[] }
def k11m3 : Method := { name := "xml", desc := "()Ljava/util/List;", sig := { parameters := [], returnType := some (.object "java/util/List") }, accessFlags := 1, code := some k11c3 }
def k11c4 : Code := { maxStack := 1, maxLocals := 1, code := prog_13_method_10_code, exceptionTable := #[], attributes := #[] }
def k11m4 : Method := { name := "bytes", desc := "()[B", sig := { parameters := [], returnType := some (.array .byte) }, accessFlags := 1, code := some k11c4 }
def k11c5 : Code := { maxStack := 1, maxLocals := 1, code := prog_13_method_11_code, exceptionTable := #[], attributes := #[] }
def k11m5 : Method := { name := "mimeType", desc := "()Ljava/lang/String;", sig := { parameters := [], returnType := some (.object "java/lang/String") }, accessFlags := 1, code := some k11c5 }
def k11c6 : Code := { maxStack := 1, maxLocals := 1, code := prog_13_method_12_code, exceptionTable := #[], attributes := #[] }
def k11m6 : Method := { name := "description", desc := "()Ljava/lang/String;", sig := { parameters := [], returnType := some (.object "java/lang/String") }, accessFlags := 1, code := some k11c6 }
/-- com/example/siegelwerk/siegelwerk/DataObject -/
def k11 : Class := { plain "com/example/siegelwerk/siegelwerk/DataObject" (some 10) with
  accessFlags := 48
  interfaces := #[]
  cf := some (fileOf pool11 8 #[] #[{ accessFlags := 0, nameIndex := 5, descriptorIndex := 32, attributes := #[] }, { accessFlags := 8, nameIndex := 80, descriptorIndex := 81, attributes := #[] }, { accessFlags := 0, nameIndex := 86, descriptorIndex := 87, attributes := #[] }, { accessFlags := 1, nameIndex := 11, descriptorIndex := 91, attributes := #[] }, { accessFlags := 1, nameIndex := 15, descriptorIndex := 93, attributes := #[] }, { accessFlags := 1, nameIndex := 19, descriptorIndex := 88, attributes := #[] }, { accessFlags := 1, nameIndex := 23, descriptorIndex := 88, attributes := #[] }] 48 2 #[] #[{ accessFlags := 18, nameIndex := 11, descriptorIndex := 12, attributes := #[] }, { accessFlags := 18, nameIndex := 15, descriptorIndex := 16, attributes := #[] }, { accessFlags := 18, nameIndex := 19, descriptorIndex := 20, attributes := #[] }, { accessFlags := 18, nameIndex := 23, descriptorIndex := 20, attributes := #[] }])
  fields := #[{ name := "xml", type := (.object "java/util/List"), accessFlags := 18, slot := 0, constantValue := 0 }, { name := "bytes", type := (.array .byte), accessFlags := 18, slot := 1, constantValue := 0 }, { name := "mimeType", type := (.object "java/lang/String"), accessFlags := 18, slot := 2, constantValue := 0 }, { name := "description", type := (.object "java/lang/String"), accessFlags := 18, slot := 3, constantValue := 0 }]
  methods := #[k11m0, k11m1, k11m2, k11m3, k11m4, k11m5, k11m6]
  instanceTypes := #[(.object "java/util/List"), (.array .byte), (.object "java/lang/String"), (.object "java/lang/String")]
  staticTypes := #[]
  resolved := Array.replicate 117 none
  statics := none }

def pool12 : Array CpInfo := pool [(1, .class_ 2), (0, u "java/lang/Cloneable"), (0, .class_ 4), (0, u "java/lang/Object")] 2

/-- java/lang/Cloneable -/
def k12 : Class := { plain "java/lang/Cloneable" (some 0) with
  accessFlags := 1537
  interfaces := #[]
  cf := some (fileOf pool12 1 #[] #[] 1537 3 #[] #[])
  fields := #[]
  methods := #[]
  instanceTypes := #[]
  staticTypes := #[]
  resolved := Array.replicate 7 none
  statics := none }

def pool13 : Array CpInfo := pool [(2, .class_ 4), (1, u "java/lang/Object"), (0, u "<init>"), (0, u "()V"), (17, .class_ 26), (1, u "jdk/internal/util/Preconditions"), (28, .class_ 56), (0, u "jdk/internal/util/Preconditions$4"), (57, .class_ 115), (0, u "jdk/internal/util/Preconditions$1"), (7, u "SIOOBE_FORMATTER"), (0, u "Ljava/util/function/BiFunction;"), (0, .class_ 126), (0, u "jdk/internal/util/Preconditions$2"), (3, u "AIOOBE_FORMATTER"), (0, .class_ 132), (0, u "jdk/internal/util/Preconditions$3"), (3, u "IOOBE_FORMATTER")] 57

def k13m0 : Method := { name := "<init>", desc := "()V", sig := { parameters := [], returnType := none }, accessFlags := 1, code := none }
/-- jdk/internal/util/Preconditions -/
def k13 : Class := { plain "jdk/internal/util/Preconditions" (some 0) with
  accessFlags := 33
  interfaces := #[]
  cf := some (fileOf pool13 24 #[.nestMembers #[55, 131, 125, 114]] #[{ accessFlags := 1, nameIndex := 5, descriptorIndex := 6, attributes := #[] }] 33 2 #[] #[{ accessFlags := 25, nameIndex := 123, descriptorIndex := 124, attributes := #[] }, { accessFlags := 25, nameIndex := 130, descriptorIndex := 124, attributes := #[] }, { accessFlags := 25, nameIndex := 136, descriptorIndex := 124, attributes := #[] }])
  fields := #[{ name := "SIOOBE_FORMATTER", type := (.object "java/util/function/BiFunction"), accessFlags := 25, slot := 0, constantValue := 0 }, { name := "AIOOBE_FORMATTER", type := (.object "java/util/function/BiFunction"), accessFlags := 25, slot := 1, constantValue := 0 }, { name := "IOOBE_FORMATTER", type := (.object "java/util/function/BiFunction"), accessFlags := 25, slot := 2, constantValue := 0 }]
  methods := #[k13m0]
  instanceTypes := #[]
  staticTypes := #[(.object "java/util/function/BiFunction"), (.object "java/util/function/BiFunction"), (.object "java/util/function/BiFunction")]
  resolved := Array.replicate 194 none
  statics := some 1 }

def pool14 : Array CpInfo := pool [(9, u "<init>"), (6, .class_ 18), (1, u "java/lang/Object"), (0, u "()V"), (1, .class_ 23), (1, u "jdk/internal/util/ArraysSupport"), (0, u "LOG2_ARRAY_LONG_INDEX_SCALE"), (0, u "I"), (2, u "U"), (0, u "Ljdk/internal/misc/Unsafe;"), (8, u "BIG_ENDIAN"), (0, u "Z"), (8, u "LOG2_BYTE_BIT_SIZE"), (4, u "LOG2_ARRAY_INT_INDEX_SCALE"), (54, u "JLA"), (0, u "Ljdk/internal/access/JavaLangAccess;"), (11, u "LOG2_ARRAY_BOOLEAN_INDEX_SCALE"), (9, u "LOG2_ARRAY_BYTE_INDEX_SCALE"), (5, u "LOG2_ARRAY_CHAR_INDEX_SCALE"), (5, u "LOG2_ARRAY_SHORT_INDEX_SCALE"), (18, u "LOG2_ARRAY_FLOAT_INDEX_SCALE"), (24, u "LOG2_ARRAY_DOUBLE_INDEX_SCALE"), (89, u "T_BOOLEAN"), (2, u "T_CHAR"), (1, u "T_FLOAT"), (1, u "T_DOUBLE"), (1, u "T_BYTE"), (1, u "T_SHORT"), (1, u "T_INT"), (1, u "T_LONG"), (1, u "SOFT_MAX_ARRAY_LENGTH")] 83

def k14m0 : Method := { name := "<init>", desc := "()V", sig := { parameters := [], returnType := none }, accessFlags := 2, code := none }
/-- jdk/internal/util/ArraysSupport -/
def k14 : Class := { plain "jdk/internal/util/ArraysSupport" (some 0) with
  accessFlags := 33
  interfaces := #[]
  cf := some (fileOf pool14 21 #[] #[{ accessFlags := 2, nameIndex := 9, descriptorIndex := 19, attributes := #[] }] 33 16 #[] #[{ accessFlags := 24, nameIndex := 28, descriptorIndex := 29, attributes := #[] }, { accessFlags := 26, nameIndex := 38, descriptorIndex := 39, attributes := #[] }, { accessFlags := 25, nameIndex := 121, descriptorIndex := 25, attributes := #[] }, { accessFlags := 25, nameIndex := 131, descriptorIndex := 25, attributes := #[] }, { accessFlags := 25, nameIndex := 137, descriptorIndex := 25, attributes := #[] }, { accessFlags := 25, nameIndex := 143, descriptorIndex := 25, attributes := #[] }, { accessFlags := 25, nameIndex := 53, descriptorIndex := 25, attributes := #[] }, { accessFlags := 25, nameIndex := 24, descriptorIndex := 25, attributes := #[] }, { accessFlags := 25, nameIndex := 162, descriptorIndex := 25, attributes := #[] }, { accessFlags := 25, nameIndex := 187, descriptorIndex := 25, attributes := #[] }, { accessFlags := 26, nameIndex := 48, descriptorIndex := 25, attributes := #[] }, { accessFlags := 25, nameIndex := 277, descriptorIndex := 25, attributes := #[] }, { accessFlags := 25, nameIndex := 280, descriptorIndex := 25, attributes := #[] }, { accessFlags := 25, nameIndex := 282, descriptorIndex := 25, attributes := #[] }, { accessFlags := 25, nameIndex := 284, descriptorIndex := 25, attributes := #[] }, { accessFlags := 25, nameIndex := 286, descriptorIndex := 25, attributes := #[] }, { accessFlags := 25, nameIndex := 288, descriptorIndex := 25, attributes := #[] }, { accessFlags := 25, nameIndex := 290, descriptorIndex := 25, attributes := #[] }, { accessFlags := 25, nameIndex := 292, descriptorIndex := 25, attributes := #[] }, { accessFlags := 26, nameIndex := 108, descriptorIndex := 109, attributes := #[] }, { accessFlags := 25, nameIndex := 294, descriptorIndex := 25, attributes := #[] }])
  fields := #[{ name := "U", type := (.object "jdk/internal/misc/Unsafe"), accessFlags := 24, slot := 0, constantValue := 0 }, { name := "BIG_ENDIAN", type := .boolean, accessFlags := 26, slot := 1, constantValue := 0 }, { name := "LOG2_ARRAY_BOOLEAN_INDEX_SCALE", type := .int, accessFlags := 25, slot := 2, constantValue := 0 }, { name := "LOG2_ARRAY_BYTE_INDEX_SCALE", type := .int, accessFlags := 25, slot := 3, constantValue := 0 }, { name := "LOG2_ARRAY_CHAR_INDEX_SCALE", type := .int, accessFlags := 25, slot := 4, constantValue := 0 }, { name := "LOG2_ARRAY_SHORT_INDEX_SCALE", type := .int, accessFlags := 25, slot := 5, constantValue := 0 }, { name := "LOG2_ARRAY_INT_INDEX_SCALE", type := .int, accessFlags := 25, slot := 6, constantValue := 0 }, { name := "LOG2_ARRAY_LONG_INDEX_SCALE", type := .int, accessFlags := 25, slot := 7, constantValue := 0 }, { name := "LOG2_ARRAY_FLOAT_INDEX_SCALE", type := .int, accessFlags := 25, slot := 8, constantValue := 0 }, { name := "LOG2_ARRAY_DOUBLE_INDEX_SCALE", type := .int, accessFlags := 25, slot := 9, constantValue := 0 }, { name := "LOG2_BYTE_BIT_SIZE", type := .int, accessFlags := 26, slot := 10, constantValue := 0 }, { name := "T_BOOLEAN", type := .int, accessFlags := 25, slot := 11, constantValue := 0 }, { name := "T_CHAR", type := .int, accessFlags := 25, slot := 12, constantValue := 0 }, { name := "T_FLOAT", type := .int, accessFlags := 25, slot := 13, constantValue := 0 }, { name := "T_DOUBLE", type := .int, accessFlags := 25, slot := 14, constantValue := 0 }, { name := "T_BYTE", type := .int, accessFlags := 25, slot := 15, constantValue := 0 }, { name := "T_SHORT", type := .int, accessFlags := 25, slot := 16, constantValue := 0 }, { name := "T_INT", type := .int, accessFlags := 25, slot := 17, constantValue := 0 }, { name := "T_LONG", type := .int, accessFlags := 25, slot := 18, constantValue := 0 }, { name := "JLA", type := (.object "jdk/internal/access/JavaLangAccess"), accessFlags := 26, slot := 19, constantValue := 0 }, { name := "SOFT_MAX_ARRAY_LENGTH", type := .int, accessFlags := 25, slot := 20, constantValue := 0 }]
  methods := #[k14m0]
  instanceTypes := #[]
  staticTypes := #[(.object "jdk/internal/misc/Unsafe"), .boolean, .int, .int, .int, .int, .int, .int, .int, .int, .int, .int, .int, .int, .int, .int, .int, .int, .int, (.object "jdk/internal/access/JavaLangAccess"), .int]
  resolved := Array.replicate 378 none
  statics := none }

/-- the primitive byte -/
def k15 : Class := { plain "byte" none with kind := .primitive 'B', accessFlags := 0x411 }
/-- [B -/
def k16 : Class := { plain "[B" (some 0) with kind := .array 15 .byte, interfaces := #[12, 2], accessFlags := 1041 }

/-- the primitive char -/
def k17 : Class := { plain "char" none with kind := .primitive 'C', accessFlags := 0x411 }
/-- [C -/
def k18 : Class := { plain "[C" (some 0) with kind := .array 17 .char, interfaces := #[12, 2], accessFlags := 1041 }

/-- the primitive int -/
def k19 : Class := { plain "int" none with kind := .primitive 'I', accessFlags := 0x411 }
/-- [I -/
def k20 : Class := { plain "[I" (some 0) with kind := .array 19 .int, interfaces := #[12, 2], accessFlags := 1041 }

def heap : Heap := #[{ cls := 7, slots := #[.long 0, .int 1, .null, .int 0, .null, .int 0, .int 0], vm := .statics 7 },
  { cls := 13, slots := #[.null, .null, .null], vm := .statics 13 }]
def classes : Array Class := #[k0, k1, k2, k3, k4, k5, k6, k7, k8, k9, k10, k11, k12, k13, k14, k15, k16, k17, k18, k19, k20]
def interned : List (Array UInt16 × Addr) := []
def slotsUsed : Nat := 10
def theMethod : MethodId := ⟨1, 1⟩
def args0 : Array Value := #[.int 5, .int 6, .int 7]
def aboutOver (below : List Frame) : State where
  vm := { classes := classes, interned := interned.toArray }
  heap := heap
  slotsUsed := slotsUsed
  threads := #[{ frames := .invoking theMethod args0 :: below }]
def below0 : List Frame := [.native { method := ⟨0, 0⟩, args := #[] }]
def about1 : State := aboutOver below0
def p0 : Program := .bare "" "" ""
def e0 : Env := launch0.env 0 0 0
theorem w_frames : about1.frames = Frame.invoking theMethod args0 :: below0 := rfl
set_option maxRecDepth 65536 in
theorem w_args : argsFit about1.vm theMethod args0 = true := by decide +kernel
set_option maxRecDepth 65536 in
theorem w_heap : heapFits about1 = true := by decide +kernel
set_option maxRecDepth 65536 in
theorem w_runnable : about1.curStatus? = some .runnable := by decide +kernel
set_option maxRecDepth 65536 in
theorem w_alone : about1.alone = true := by decide +kernel
set_option maxRecDepth 65536 in
theorem w_named : about1.methodNamed? x = some theMethod := by decide +kernel
set_option maxRecDepth 65536 in
theorem w_hears : about1.hears theMethod below0 = true := by decide +kernel
set_option maxRecDepth 65536 in
theorem w_ripe : about1.ripe theMethod args0 below0 = true := by decide +kernel
theorem w_running : about1.status = .running := rfl
set_option maxRecDepth 65536 in
theorem w_room : about1.hasRoom e0.platform room_1 = true :=
  launch0.hasRoom_least _ room_1 (by decide +kernel) (by decide +kernel) (by decide +kernel) (by decide +kernel) (by decide +kernel) (by decide +kernel)
theorem allAtoms_all (ts : List Jvm.Cond) (a : Array Jvm.Value) (st : Jvm.State) : (allAtoms ts).before a st = ts.all (fun c => c.before a st) := by
  induction ts with
  | nil => rfl
  | cons c t ih =>
    show (Jvm.Cond.and c (allAtoms t)).before a st = _
    rw [Jvm.Cond.before_and, ih, List.all_cons]
def words1 : List Jvm.Cond := Jvm.Cond.code x code maxLocals ret :: tables_1
/-- a 'code' word, met by the world's own term for the bytes: nothing is compared byte by byte -/
theorem code_word {y : MethodName} {bytes : ByteArray} {mx : Nat} {rt : Option FieldType} {a : Array Value} {s : State} {m : MethodId} {meth : Method} {c : Code} (h1 : s.methodNamed? y = some m) (h2 : s.vm.method? m = some meth) (h3 : meth.code = some c) (h4 : c.code = bytes)
    (h5 : (c.maxLocals == mx && c.exceptionTable.isEmpty && decide (c.maxStack ≤ mostOperands) && decide (meth.sig.returnType = rt) && !meth.locks && decide (parseMethodDescriptor y.desc = some meth.sig)) = true) : (Jvm.Cond.code y bytes mx rt).before a s = true := by
  simp only [Bool.and_eq_true, beq_iff_eq, Bool.not_eq_true', decide_eq_true_eq] at h5
  obtain ⟨⟨⟨⟨⟨g1, g2⟩, g3⟩, g4⟩, g5⟩, g6⟩ := h5
  simp [Cond.before, Cond.holds, Cond.value, h1, h2, h3, h4, g1, g2, g3, g4, g5, g6]
def isCode : Jvm.Cond → Bool
  | .code _ _ _ _ => true
  | _ => false
theorem all_split {L : List Jvm.Cond} {P : Jvm.Cond → Bool} (h1 : L.all (fun c => isCode c || P c) = true) (h2 : ∀ c ∈ L.filter isCode, P c = true) : L.all P = true := by
  refine List.all_eq_true.mpr fun c hc => ?_
  have h := List.all_eq_true.mp h1 c hc
  rcases Bool.eq_false_or_eq_true (isCode c) with hi | hi
  · exact h2 c (List.mem_filter.mpr ⟨hc, hi⟩)
  · simpa [hi] using h
set_option maxRecDepth 65536 in
theorem w_c0 : (Jvm.Cond.code x code maxLocals ret).before args0 about1 = true := code_word (m := ⟨1, 1⟩) (meth := k1m1) (c := k1c1) (by decide +kernel) rfl rfl rfl (by decide +kernel)
set_option maxRecDepth 65536 in
theorem w_c1 : (Jvm.Cond.code ({ cls := "java/lang/String", name := "<init>", desc := "([C)V" } : Jvm.MethodName) jdk_42_method_3_code (2 : Nat) (Option.none : Option Jvm.ClassFile.FieldType)).before args0 about1 = true := code_word (m := ⟨7, 1⟩) (meth := k7m1) (c := k7c1) (by decide +kernel) rfl rfl rfl (by decide +kernel)
set_option maxRecDepth 65536 in
theorem w_c2 : (Jvm.Cond.code ({ cls := "java/lang/String", name := "<init>", desc := "([CIILjava/lang/Void;)V" } : Jvm.MethodName) jdk_42_method_149_code (6 : Nat) (Option.none : Option Jvm.ClassFile.FieldType)).before args0 about1 = true := code_word (m := ⟨7, 4⟩) (meth := k7m4) (c := k7c4) (by decide +kernel) rfl rfl rfl (by decide +kernel)
set_option maxRecDepth 65536 in
theorem w_c3 : (Jvm.Cond.code ({ cls := "java/lang/Object", name := "<init>", desc := "()V" } : Jvm.MethodName) object_method_1_code (1 : Nat) (Option.none : Option Jvm.ClassFile.FieldType)).before args0 about1 = true := code_word (m := ⟨0, 0⟩) (meth := k0m0) (c := k0c0) (by decide +kernel) rfl rfl rfl (by decide +kernel)
set_option maxRecDepth 65536 in
theorem w_c4 : (Jvm.Cond.code ({ cls := "java/lang/StringUTF16", name := "compress", desc := "([CII)[B" } : Jvm.MethodName) jdk_52_method_16_code (6 : Nat) (Option.some (Jvm.ClassFile.FieldType.array Jvm.ClassFile.FieldType.byte))).before args0 about1 = true := code_word (m := ⟨8, 2⟩) (meth := k8m2) (c := k8c2) (by decide +kernel) rfl rfl rfl (by decide +kernel)
set_option maxRecDepth 65536 in
theorem w_c5 : (Jvm.Cond.code ({ cls := "java/lang/StringUTF16", name := "compress", desc := "([CI[BII)I" } : Jvm.MethodName) jdk_52_method_21_code (7 : Nat) (Option.some Jvm.ClassFile.FieldType.int)).before args0 about1 = true := code_word (m := ⟨8, 3⟩) (meth := k8m3) (c := k8c3) (by decide +kernel) rfl rfl rfl (by decide +kernel)
set_option maxRecDepth 65536 in
theorem w_c6 : (Jvm.Cond.code ({ cls := "java/lang/StringUTF16", name := "coderFromArrayLen", desc := "([BI)B" } : Jvm.MethodName) jdk_52_method_15_code (2 : Nat) (Option.some Jvm.ClassFile.FieldType.byte)).before args0 about1 = true := code_word (m := ⟨8, 1⟩) (meth := k8m1) (c := k8c1) (by decide +kernel) rfl rfl rfl (by decide +kernel)
set_option maxRecDepth 65536 in
theorem w_c7 : (Jvm.Cond.code ({ cls := "java/lang/String", name := "valueOf", desc := "(C)Ljava/lang/String;" } : Jvm.MethodName) jdk_42_method_139_code (1 : Nat) (Option.some (Jvm.ClassFile.FieldType.object "java/lang/String"))).before args0 about1 = true := code_word (m := ⟨7, 3⟩) (meth := k7m3) (c := k7c3) (by decide +kernel) rfl rfl rfl (by decide +kernel)
set_option maxRecDepth 65536 in
theorem w_c8 : (Jvm.Cond.code ({ cls := "java/lang/StringLatin1", name := "canEncode", desc := "(C)Z" } : Jvm.MethodName) jdk_43_method_3_code (1 : Nat) (Option.some Jvm.ClassFile.FieldType.boolean)).before args0 about1 = true := code_word (m := ⟨9, 1⟩) (meth := k9m1) (c := k9c1) (by decide +kernel) rfl rfl rfl (by decide +kernel)
set_option maxRecDepth 65536 in
theorem w_c9 : (Jvm.Cond.code ({ cls := "java/lang/StringLatin1", name := "toBytes", desc := "(C)[B" } : Jvm.MethodName) jdk_43_method_46_code (1 : Nat) (Option.some (Jvm.ClassFile.FieldType.array Jvm.ClassFile.FieldType.byte))).before args0 about1 = true := code_word (m := ⟨9, 2⟩) (meth := k9m2) (c := k9c2) (by decide +kernel) rfl rfl rfl (by decide +kernel)
set_option maxRecDepth 65536 in
theorem w_c10 : (Jvm.Cond.code ({ cls := "java/lang/String", name := "<init>", desc := "([BB)V" } : Jvm.MethodName) jdk_42_method_151_code (3 : Nat) (Option.none : Option Jvm.ClassFile.FieldType)).before args0 about1 = true := code_word (m := ⟨7, 5⟩) (meth := k7m5) (c := k7c5) (by decide +kernel) rfl rfl rfl (by decide +kernel)
set_option maxRecDepth 65536 in
theorem w_c11 : (Jvm.Cond.code ({ cls := "com/example/siegelwerk/siegelwerk/DataObject", name := "ofBytes", desc := "([BLjava/lang/String;Ljava/lang/String;)Lcom/example/siegelwerk/siegelwerk/DataObject;" } : Jvm.MethodName) prog_13_method_3_code (3 : Nat) (Option.some (Jvm.ClassFile.FieldType.object "com/example/siegelwerk/siegelwerk/DataObject"))).before args0 about1 = true := code_word (m := ⟨11, 1⟩) (meth := k11m1) (c := k11c1) (by decide +kernel) rfl rfl rfl (by decide +kernel)
set_option maxRecDepth 65536 in
theorem w_c12 : (Jvm.Cond.code ({ cls := "com/example/siegelwerk/siegelwerk/DataObject", name := "<init>", desc := "(Ljava/util/List;[BLjava/lang/String;Ljava/lang/String;)V" } : Jvm.MethodName) prog_13_method_1_code (5 : Nat) (Option.none : Option Jvm.ClassFile.FieldType)).before args0 about1 = true := code_word (m := ⟨11, 0⟩) (meth := k11m0) (c := k11c0) (by decide +kernel) rfl rfl rfl (by decide +kernel)
set_option maxRecDepth 65536 in
theorem w_c13 : (Jvm.Cond.code ({ cls := "java/lang/Record", name := "<init>", desc := "()V" } : Jvm.MethodName) jdk_30_method_1_code (1 : Nat) (Option.none : Option Jvm.ClassFile.FieldType)).before args0 about1 = true := code_word (m := ⟨10, 0⟩) (meth := k10m0) (c := k10c0) (by decide +kernel) rfl rfl rfl (by decide +kernel)
set_option maxRecDepth 65536 in
theorem w_c14 : (Jvm.Cond.code ({ cls := "com/example/siegelwerk/siegelwerk/DataObject", name := "bytes", desc := "()[B" } : Jvm.MethodName) prog_13_method_10_code (1 : Nat) (Option.some (Jvm.ClassFile.FieldType.array Jvm.ClassFile.FieldType.byte))).before args0 about1 = true := code_word (m := ⟨11, 4⟩) (meth := k11m4) (c := k11c4) (by decide +kernel) rfl rfl rfl (by decide +kernel)
set_option maxRecDepth 65536 in
theorem w_c15 : (Jvm.Cond.code ({ cls := "com/example/siegelwerk/siegelwerk/DataObject", name := "xml", desc := "()Ljava/util/List;" } : Jvm.MethodName) prog_13_method_9_code (1 : Nat) (Option.some (Jvm.ClassFile.FieldType.object "java/util/List"))).before args0 about1 = true := code_word (m := ⟨11, 3⟩) (meth := k11m3) (c := k11c3) (by decide +kernel) rfl rfl rfl (by decide +kernel)
set_option maxRecDepth 65536 in
theorem w_c16 : (Jvm.Cond.code ({ cls := "com/example/siegelwerk/siegelwerk/DataObject", name := "isXml", desc := "()Z" } : Jvm.MethodName) prog_13_method_5_code (1 : Nat) (Option.some Jvm.ClassFile.FieldType.boolean)).before args0 about1 = true := code_word (m := ⟨11, 2⟩) (meth := k11m2) (c := k11c2) (by decide +kernel) rfl rfl rfl (by decide +kernel)
set_option maxRecDepth 65536 in
theorem w_c17 : (Jvm.Cond.code ({ cls := "com/example/siegelwerk/siegelwerk/DataObject", name := "mimeType", desc := "()Ljava/lang/String;" } : Jvm.MethodName) prog_13_method_11_code (1 : Nat) (Option.some (Jvm.ClassFile.FieldType.object "java/lang/String"))).before args0 about1 = true := code_word (m := ⟨11, 5⟩) (meth := k11m5) (c := k11c5) (by decide +kernel) rfl rfl rfl (by decide +kernel)
set_option maxRecDepth 65536 in
theorem w_c18 : (Jvm.Cond.code ({ cls := "java/lang/String", name := "equals", desc := "(Ljava/lang/Object;)Z" } : Jvm.MethodName) jdk_42_method_66_code (3 : Nat) (Option.some Jvm.ClassFile.FieldType.boolean)).before args0 about1 = true := code_word (m := ⟨7, 2⟩) (meth := k7m2) (c := k7c2) (by decide +kernel) rfl rfl rfl (by decide +kernel)
set_option maxRecDepth 65536 in
theorem w_c19 : (Jvm.Cond.code ({ cls := "com/example/siegelwerk/siegelwerk/DataObject", name := "description", desc := "()Ljava/lang/String;" } : Jvm.MethodName) prog_13_method_12_code (1 : Nat) (Option.some (Jvm.ClassFile.FieldType.object "java/lang/String"))).before args0 about1 = true := code_word (m := ⟨11, 6⟩) (meth := k11m6) (c := k11c6) (by decide +kernel) rfl rfl rfl (by decide +kernel)
def codes1 : List Jvm.Cond := [Jvm.Cond.code x code maxLocals ret, Jvm.Cond.code ({ cls := "java/lang/String", name := "<init>", desc := "([C)V" } : Jvm.MethodName) jdk_42_method_3_code (2 : Nat) (Option.none : Option Jvm.ClassFile.FieldType), Jvm.Cond.code ({ cls := "java/lang/String", name := "<init>", desc := "([CIILjava/lang/Void;)V" } : Jvm.MethodName) jdk_42_method_149_code (6 : Nat) (Option.none : Option Jvm.ClassFile.FieldType), Jvm.Cond.code ({ cls := "java/lang/Object", name := "<init>", desc := "()V" } : Jvm.MethodName) object_method_1_code (1 : Nat) (Option.none : Option Jvm.ClassFile.FieldType), Jvm.Cond.code ({ cls := "java/lang/StringUTF16", name := "compress", desc := "([CII)[B" } : Jvm.MethodName) jdk_52_method_16_code (6 : Nat) (Option.some (Jvm.ClassFile.FieldType.array Jvm.ClassFile.FieldType.byte)), Jvm.Cond.code ({ cls := "java/lang/StringUTF16", name := "compress", desc := "([CI[BII)I" } : Jvm.MethodName) jdk_52_method_21_code (7 : Nat) (Option.some Jvm.ClassFile.FieldType.int), Jvm.Cond.code ({ cls := "java/lang/StringUTF16", name := "coderFromArrayLen", desc := "([BI)B" } : Jvm.MethodName) jdk_52_method_15_code (2 : Nat) (Option.some Jvm.ClassFile.FieldType.byte), Jvm.Cond.code ({ cls := "java/lang/String", name := "valueOf", desc := "(C)Ljava/lang/String;" } : Jvm.MethodName) jdk_42_method_139_code (1 : Nat) (Option.some (Jvm.ClassFile.FieldType.object "java/lang/String")), Jvm.Cond.code ({ cls := "java/lang/StringLatin1", name := "canEncode", desc := "(C)Z" } : Jvm.MethodName) jdk_43_method_3_code (1 : Nat) (Option.some Jvm.ClassFile.FieldType.boolean), Jvm.Cond.code ({ cls := "java/lang/StringLatin1", name := "toBytes", desc := "(C)[B" } : Jvm.MethodName) jdk_43_method_46_code (1 : Nat) (Option.some (Jvm.ClassFile.FieldType.array Jvm.ClassFile.FieldType.byte)), Jvm.Cond.code ({ cls := "java/lang/String", name := "<init>", desc := "([BB)V" } : Jvm.MethodName) jdk_42_method_151_code (3 : Nat) (Option.none : Option Jvm.ClassFile.FieldType), Jvm.Cond.code ({ cls := "com/example/siegelwerk/siegelwerk/DataObject", name := "ofBytes", desc := "([BLjava/lang/String;Ljava/lang/String;)Lcom/example/siegelwerk/siegelwerk/DataObject;" } : Jvm.MethodName) prog_13_method_3_code (3 : Nat) (Option.some (Jvm.ClassFile.FieldType.object "com/example/siegelwerk/siegelwerk/DataObject")), Jvm.Cond.code ({ cls := "com/example/siegelwerk/siegelwerk/DataObject", name := "<init>", desc := "(Ljava/util/List;[BLjava/lang/String;Ljava/lang/String;)V" } : Jvm.MethodName) prog_13_method_1_code (5 : Nat) (Option.none : Option Jvm.ClassFile.FieldType), Jvm.Cond.code ({ cls := "java/lang/Record", name := "<init>", desc := "()V" } : Jvm.MethodName) jdk_30_method_1_code (1 : Nat) (Option.none : Option Jvm.ClassFile.FieldType), Jvm.Cond.code ({ cls := "com/example/siegelwerk/siegelwerk/DataObject", name := "bytes", desc := "()[B" } : Jvm.MethodName) prog_13_method_10_code (1 : Nat) (Option.some (Jvm.ClassFile.FieldType.array Jvm.ClassFile.FieldType.byte)), Jvm.Cond.code ({ cls := "com/example/siegelwerk/siegelwerk/DataObject", name := "xml", desc := "()Ljava/util/List;" } : Jvm.MethodName) prog_13_method_9_code (1 : Nat) (Option.some (Jvm.ClassFile.FieldType.object "java/util/List")), Jvm.Cond.code ({ cls := "com/example/siegelwerk/siegelwerk/DataObject", name := "isXml", desc := "()Z" } : Jvm.MethodName) prog_13_method_5_code (1 : Nat) (Option.some Jvm.ClassFile.FieldType.boolean), Jvm.Cond.code ({ cls := "com/example/siegelwerk/siegelwerk/DataObject", name := "mimeType", desc := "()Ljava/lang/String;" } : Jvm.MethodName) prog_13_method_11_code (1 : Nat) (Option.some (Jvm.ClassFile.FieldType.object "java/lang/String")), Jvm.Cond.code ({ cls := "java/lang/String", name := "equals", desc := "(Ljava/lang/Object;)Z" } : Jvm.MethodName) jdk_42_method_66_code (3 : Nat) (Option.some Jvm.ClassFile.FieldType.boolean), Jvm.Cond.code ({ cls := "com/example/siegelwerk/siegelwerk/DataObject", name := "description", desc := "()Ljava/lang/String;" } : Jvm.MethodName) prog_13_method_12_code (1 : Nat) (Option.some (Jvm.ClassFile.FieldType.object "java/lang/String"))]
set_option maxRecDepth 65536 in
theorem codes_eq : words1.filter isCode = codes1 := rfl
theorem w_codes : ∀ c ∈ words1.filter isCode, c.before args0 about1 = true := by
  rw [codes_eq]
  intro c hc
  simp only [codes1, List.mem_cons, List.not_mem_nil, or_false] at hc
  rcases hc with rfl | rfl | rfl | rfl | rfl | rfl | rfl | rfl | rfl | rfl | rfl | rfl | rfl | rfl | rfl | rfl | rfl | rfl | rfl | rfl
  · exact w_c0
  · exact w_c1
  · exact w_c2
  · exact w_c3
  · exact w_c4
  · exact w_c5
  · exact w_c6
  · exact w_c7
  · exact w_c8
  · exact w_c9
  · exact w_c10
  · exact w_c11
  · exact w_c12
  · exact w_c13
  · exact w_c14
  · exact w_c15
  · exact w_c16
  · exact w_c17
  · exact w_c18
  · exact w_c19
set_option maxRecDepth 65536 in
theorem w_t1 : (words1.take 24).all (fun c => isCode c || c.before args0 about1) = true := by decide +kernel
set_option maxRecDepth 65536 in
theorem w_t2 : ((words1.drop 24).take 24).all (fun c => isCode c || c.before args0 about1) = true := by decide +kernel
set_option maxRecDepth 65536 in
theorem w_t3 : (((words1.drop 24).drop 24).take 24).all (fun c => isCode c || c.before args0 about1) = true := by decide +kernel
set_option maxRecDepth 65536 in
theorem w_t4 : ((((words1.drop 24).drop 24).drop 24).take 24).all (fun c => isCode c || c.before args0 about1) = true := by decide +kernel
set_option maxRecDepth 65536 in
theorem w_t5 : ((((words1.drop 24).drop 24).drop 24).drop 24).all (fun c => isCode c || c.before args0 about1) = true := by decide +kernel
theorem w_tables : (allAtoms (Jvm.Cond.code x code maxLocals ret :: tables_1)).before args0 about1 = true := by
  rw [allAtoms_all]
  show words1.all (fun c => c.before args0 about1) = true
  refine all_split ?_ w_codes
  rw [← List.take_append_drop 24 words1, List.all_append, w_t1, ← List.take_append_drop 24 (words1.drop 24), List.all_append, w_t2, ← List.take_append_drop 24 ((words1.drop 24).drop 24), List.all_append, w_t3, ← List.take_append_drop 24 (((words1.drop 24).drop 24).drop 24), List.all_append, w_t4, w_t5]
  rfl
set_option maxRecDepth 65536 in
theorem w_rest : rest_1_c.before args0 about1 = true := by decide +kernel
set_option maxRecDepth 65536 in
theorem w_case : (Jvm.Cond.and given_1 narrow_1).before args0 about1 = true := by decide +kernel
theorem w_applies : (headSpec (Jvm.Cond.code x code maxLocals ret :: tables_1) room_1).applies x e0.platform about1 = true :=
  (Spec.applies_iff w_frames).mpr ⟨w_running, w_runnable, w_alone, w_named, w_hears, w_ripe, w_room, w_tables⟩
theorem atStart : AtStart classFile x code maxLocals ret World_1 tables_1 room_1 Calls_1 rest_1 Pre_1 launch0 p0 e0 about1 theMethod args0 below0 :=
  ⟨lists_1, trivial, launch0.admits_env _ _ _, launch0.least_env, fairChoices_fair.cas, fairChoices_fair.clock, w_frames, w_args, w_heap, w_applies, trivial, w_rest, w_case⟩
end start1
theorem witness_1 : WitnessClaimed_1 := ⟨start1.p0, start1.e0, start1.about1, start1.theMethod, start1.args0, start1.below0, start1.atStart⟩
end Jvm.Pilot.@@N@@
