import JvmDerived
import JvmDerived.Pilot.@@N@@Statement
import JvmDerived.Pilot.@@N@@Code
set_option linter.unusedVariables false
set_option linter.unusedSimpArgs false
@@BLOCK:NumsL.lean.txt@@
namespace Jvm.Own
open Jvm Jvm.ClassFile Sem Op Lib Jvm.Free Jvm.Stand Jvm.LawKit Jvm.RoadKit
/-! THE WALKER's LAYER: 'B.G h cl sl g': from every place where the walk stands over the heap h with the frame g (cl cells, sl slots made), the method returns as its contract says. One law a step, backwards. -/
/-- written places lie in cells of ws or in new cells -/
def Frw (ws : List Addr) (k : Nat) (L : List Loc) : Prop := ∀ y ∈ L, y.base ∈ ws ∨ k ≤ y.base
/-- what a contract says at the end -/
def Qw (C : Option Value → Heap → Prop) (ws : List Addr) (h0 : Heap) (v : Option Value) (h : Heap) (L : List Loc) : Prop := C v h ∧ Frw ws h0.size L ∧ Keep h0 h ws
/-- a contract: called with the arguments as over the heap h0, it returns, as C says, writing in ws or in new cells alone -/
def Met (l : Launch) (Z : State) (y : MethodName) (bytes : ByteArray) (maxL : Nat) (ret : Option FieldType) (wds : List Jvm.Cond) (rm : Room) (as : Array Value) (h0 : Heap) (ws : List Addr) (C : Option Value → Heap → Prop) : Prop :=
  MetFree l y (head1 (Jvm.Cond.code y bytes maxL ret :: wds) rm) (fun a U => a = as ∧ Z.Warmed39 U.vm ∧ U.heap = h0) (fun _ _ _ _ _ => True) (fun _ U o U' => ∃ v L, o = .returned v ∧ Qw C ws h0 v U'.heap L ∧ FrameEnd U o U' L rm.cells rm.slots)
/-- what stands still through a body's walk -/
def Base (p : Program) (l : Launch) (e : Env) (R : Room) (s : State) (m : MethodId) (args : Array Value) (below : List Frame) (meth : Method) (c : Code) (Z : State) (y : MethodName) (bytes : ByteArray) (maxL : Nat) (ret : Option FieldType) (h0 : Heap) (ws : List Addr) (C : Option Value → Heap → Prop) : Prop :=
  p.tables.exec = Jvm.exec ∧ c.code = bytes ∧ c.maxLocals = maxL ∧ Z.Warmed39 s.vm ∧ s.vm.findClass y.cls = some m.cls ∧ meth.sig.returnType = ret ∧ meth.locks = false ∧ meth.name = y.name ∧ s.heap = h0
section Walk
variable {p : Program} {l : Launch} {e : Env} {R : Room} {s : State} {m : MethodId} {args : Array Value} {below : List Frame} {meth : Method} {c : Code} {Z : State} {a0 : Array Value} {y : MethodName} {bytes : ByteArray} {maxL : Nat} {ret : Option FieldType} {h0 : Heap} {ws : List Addr} {C : Option Value → Heap → Prop}
/-- from here the method returns as its contract says -/
def Base.G (B : Base p l e R s m args below meth c Z y bytes maxL ret h0 ws C) (h : Heap) (cl sl : Nat) (g : JFrame) : Prop :=
  ∀ (T : State) (locs : List Loc), Stand p l e R s m args below meth c T locs cl sl → Frw ws h0.size locs → T.heap = h → ∃ (t : State) (o : Outcome), Steps p.tables e below (T.setTop g) t ∧ t.status = .running ∧ Ended t below o ∧ ∃ v L, o = .returned v ∧ Qw C ws h0 v t.heap L ∧ FrameEnd s o t L R.cells R.slots
variable {h : Heap} {cl sl : Nat} {g g' : JFrame} {pc : Nat} {Ls : Array Slot} {st : List Value}
theorem Base.via (B : Base p l e R s m args below meth c Z y bytes maxL ret h0 ws C) (st : ∀ (T t : State), At T m c below → Steps p.tables e below (T.setTop g') t → Steps p.tables e below (T.setTop g) t) (k : B.G h cl sl g') : B.G h cl sl g := fun T locs X N eT => by
  obtain ⟨t, o, q, r⟩ := k T locs X N eT
  exact ⟨t, o, st T t X.here q, r⟩
theorem Base.viaX (B : Base p l e R s m args below meth c Z y bytes maxL ret h0 ws C) (st : ∀ (T t : State) (locs : List Loc), Stand p l e R s m args below meth c T locs cl sl → T.heap = h → Steps p.tables e below (T.setTop g') t → Steps p.tables e below (T.setTop g) t) (k : B.G h cl sl g') : B.G h cl sl g := fun T locs X N eT => by
  obtain ⟨t, o, q, r⟩ := k T locs X N eT
  exact ⟨t, o, st T t locs X eT q, r⟩
theorem Frw.nil (ws : List Addr) (k : Nat) : Frw ws k [] := fun _ q => nomatch q
theorem Frw.app {k : Nat} {L L' : List Loc} (N : Frw ws k L) (N' : Frw ws k L') : Frw ws k (L ++ L') := fun y q => (List.mem_append.mp q).elim (N y) (N' y)
theorem Frw.one {k : Nat} {L : List Loc} {a : Addr} {i : Nat} (N : Frw ws k L) (q : a ∈ ws ∨ k ≤ a) : Frw ws k (L ++ [⟨a, i⟩]) := N.app fun y hy => by cases List.mem_singleton.mp hy; exact q
theorem keep_of {T : State} {locs : List Loc} (X : Stand p l e R s m args below meth c T locs cl sl) (N : Frw ws s.heap.size locs) : Keep s.heap T.heap ws := by
  obtain ⟨-, h1, -, -, -, h2⟩ := X.same
  refine ⟨h1, fun x cc hc hn => ?_, fun x cc hc => ?_⟩
  · obtain ⟨c', e1, e2, e3, e4⟩ := h2 x cc hc
    have hlt := (Array.getElem?_eq_some_iff.mp hc).1
    have q : c'.slots = cc.slots := Array.ext_getElem? fun i => e4 i fun hm => by
      rcases N _ hm with z | z
      · exact hn z
      · exact absurd hlt (Nat.not_lt.mpr z)
    have e1' : T.heap[x]? = some c' := e1
    rw [e1', e2, q]
  · obtain ⟨c', e1, e2, e3, -⟩ := h2 x cc hc
    exact ⟨c', e1, by rw [e2], by rw [e2], e3⟩
theorem Met.walk (hpn : plainFor y = true) {as : Array Value} {rm : Room} {wds : List Jvm.Cond} (hef : ∀ m, entryFrame m as maxL = mkF m 0 Ls [])
    (body : ∀ (p : Program) (e : Env) (s : State) (m : MethodId) (below : List Frame) (meth : Method) (c : Code) (B : Base p l e rm s m as below meth c Z y bytes maxL ret h0 ws C), B.G h0 0 0 (mkF m 0 Ls [])) : Met l Z y bytes maxL ret wds rm as h0 ws C := by
  refine MetFree.of_bodySF hpn hisR ?_
  intro p e s m args below meth c s₁ Bd hml0 hP hK
  obtain ⟨rfl, hZ, hh⟩ := hP
  have X0 : Stand p l e rm s m args below meth c s₁ [] 0 0 := Stand.of_body Bd
  have e0 : s₁.heap = h0 := by rw [← hh, Bd.state]; rfl
  obtain ⟨t, o, q, r⟩ := body p e s m below meth c ⟨Bd.exec, Bd.bytes, hml0, hZ, findClass_of_methodNamed Bd.named, Bd.returns, Bd.notSynchronized, (name_of_methodNamed Bd.named Bd.method).1, hh⟩ s₁ [] X0 (Frw.nil _ _) e0
  exact ⟨t, o, castTop (hef m) q, r⟩
theorem Met.mono {as : Array Value} {rm : Room} {wds : List Jvm.Cond} {C' : Option Value → Heap → Prop} (M : Met l Z y bytes maxL ret wds rm as h0 ws C) (q : ∀ v h, C v h → C' v h) : Met l Z y bytes maxL ret wds rm as h0 ws C' := by
  intro p e ha hc hk s m args below hf happ hP hK
  obtain ⟨n, o, q1, q2, q3, v, L, q4, ⟨r1, r2⟩, q5⟩ := M p e ha hc hk s m args below hf happ hP hK
  exact ⟨n, o, q1, q2, q3, v, L, q4, ⟨q _ _ r1, r2⟩, q5⟩
/-! 1. steps that touch no heap -/
theorem Base.aloadN (B : Base p l e R s m args below meth c Z y bytes maxL ret h0 ws C) (pc' : Nat) (hp : pc' = pc + 1) {i : Fin 4} (hd : decode bytes pc = .ok (.aload_n i, 1)) {v : Value} (hl : Ls[i.val]? = some (.val v)) (hv : v.isRef = true) (k : B.G h cl sl (mkF m pc' Ls (v :: st))) : B.G h cl sl (mkF m pc Ls st) := by
  subst hp; exact B.via (fun T t X r => XS.aloadN X B.1 rfl (hb B.2.1 hd) hl hv r) k
theorem Base.aload (B : Base p l e R s m args below meth c Z y bytes maxL ret h0 ws C) (pc' : Nat) (hp : pc' = pc + 2) {i : Nat} (hd : decode bytes pc = .ok (.aload i, 2)) {v : Value} (hl : Ls[i]? = some (.val v)) (hv : v.isRef = true) (k : B.G h cl sl (mkF m pc' Ls (v :: st))) : B.G h cl sl (mkF m pc Ls st) := by
  subst hp; exact B.via (fun T t X r => XS.aload X B.1 rfl (hb B.2.1 hd) hl hv r) k
theorem Base.iloadN (B : Base p l e R s m args below meth c Z y bytes maxL ret h0 ws C) (pc' : Nat) (hp : pc' = pc + 1) {i : Fin 4} (hd : decode bytes pc = .ok (.iload_n i, 1)) {v : Int32} (hl : Ls[i.val]? = some (.val (.int v))) (k : B.G h cl sl (mkF m pc' Ls (.int v :: st))) : B.G h cl sl (mkF m pc Ls st) := by
  subst hp; exact B.via (fun T t X r => XS.iloadN X B.1 rfl (hb B.2.1 hd) hl r) k
theorem Base.iload (B : Base p l e R s m args below meth c Z y bytes maxL ret h0 ws C) (pc' : Nat) (hp : pc' = pc + 2) {i : Nat} (hd : decode bytes pc = .ok (.iload i, 2)) {v : Int32} (hl : Ls[i]? = some (.val (.int v))) (k : B.G h cl sl (mkF m pc' Ls (.int v :: st))) : B.G h cl sl (mkF m pc Ls st) := by
  subst hp; exact B.via (fun T t X r => XS.iload X B.1 rfl (hb B.2.1 hd) hl r) k
theorem Base.lloadN (B : Base p l e R s m args below meth c Z y bytes maxL ret h0 ws C) (pc' : Nat) (hp : pc' = pc + 1) {i : Fin 4} (hd : decode bytes pc = .ok (.lload_n i, 1)) {v : Int64} (hl : Ls[i.val]? = some (.val (.long v))) (k : B.G h cl sl (mkF m pc' Ls (.long v :: st))) : B.G h cl sl (mkF m pc Ls st) := by
  subst hp; exact B.via (fun T t X r => XT.lloadN X B.1 rfl (hb B.2.1 hd) hl r) k
theorem Base.lload (B : Base p l e R s m args below meth c Z y bytes maxL ret h0 ws C) (pc' : Nat) (hp : pc' = pc + 2) {i : Nat} (hd : decode bytes pc = .ok (.lload i, 2)) {v : Int64} (hl : Ls[i]? = some (.val (.long v))) (k : B.G h cl sl (mkF m pc' Ls (.long v :: st))) : B.G h cl sl (mkF m pc Ls st) := by
  subst hp; exact B.via (fun T t X r => XT.lload X B.1 rfl (hb B.2.1 hd) hl r) k
theorem Base.istoreN (B : Base p l e R s m args below meth c Z y bytes maxL ret h0 ws C) (pc' : Nat) (hp : pc' = pc + 1) {i : Fin 4} {x : Int32} (hd : decode bytes pc = .ok (.istore_n i, 1)) (Ls' : Array Slot) (hl : storeLocals Ls i.val (.int x) = some Ls') (k : B.G h cl sl (mkF m pc' Ls' st)) : B.G h cl sl (mkF m pc Ls (.int x :: st)) := by
  subst hp; exact B.via (fun T t X r => XS.istoreN X B.1 rfl (hb B.2.1 hd) rfl hl r) k
theorem Base.istore (B : Base p l e R s m args below meth c Z y bytes maxL ret h0 ws C) (pc' : Nat) (hp : pc' = pc + 2) {i : Nat} {x : Int32} (hd : decode bytes pc = .ok (.istore i, 2)) (Ls' : Array Slot) (hl : storeLocals Ls i (.int x) = some Ls') (k : B.G h cl sl (mkF m pc' Ls' st)) : B.G h cl sl (mkF m pc Ls (.int x :: st)) := by
  subst hp; exact B.via (fun T t X r => XS.istore X B.1 rfl (hb B.2.1 hd) rfl hl r) k
theorem Base.lstoreN (B : Base p l e R s m args below meth c Z y bytes maxL ret h0 ws C) (pc' : Nat) (hp : pc' = pc + 1) {i : Fin 4} {x : Int64} (hd : decode bytes pc = .ok (.lstore_n i, 1)) (Ls' : Array Slot) (hl : storeLocals Ls i.val (.long x) = some Ls') (k : B.G h cl sl (mkF m pc' Ls' st)) : B.G h cl sl (mkF m pc Ls (.long x :: st)) := by
  subst hp; exact B.via (fun T t X r => XT.lstoreN X B.1 rfl (hb B.2.1 hd) rfl hl r) k
theorem Base.lstore (B : Base p l e R s m args below meth c Z y bytes maxL ret h0 ws C) (pc' : Nat) (hp : pc' = pc + 2) {i : Nat} {x : Int64} (hd : decode bytes pc = .ok (.lstore i, 2)) (Ls' : Array Slot) (hl : storeLocals Ls i (.long x) = some Ls') (k : B.G h cl sl (mkF m pc' Ls' st)) : B.G h cl sl (mkF m pc Ls (.long x :: st)) := by
  subst hp; exact B.via (fun T t X r => XT.lstore X B.1 rfl (hb B.2.1 hd) rfl hl r) k
theorem Base.astoreN (B : Base p l e R s m args below meth c Z y bytes maxL ret h0 ws C) (pc' : Nat) (hp : pc' = pc + 1) {i : Fin 4} {x : Value} (hd : decode bytes pc = .ok (.astore_n i, 1)) (hv : x.isRef = true) (Ls' : Array Slot) (hl : storeLocals Ls i.val x = some Ls') (k : B.G h cl sl (mkF m pc' Ls' st)) : B.G h cl sl (mkF m pc Ls (x :: st)) := by
  subst hp; exact B.via (fun T t X r => XS.astoreN X B.1 rfl (hb B.2.1 hd) rfl hv hl r) k
theorem Base.astore (B : Base p l e R s m args below meth c Z y bytes maxL ret h0 ws C) (pc' : Nat) (hp : pc' = pc + 2) {i : Nat} {x : Value} (hd : decode bytes pc = .ok (.astore i, 2)) (hv : x.isRef = true) (Ls' : Array Slot) (hl : storeLocals Ls i x = some Ls') (k : B.G h cl sl (mkF m pc' Ls' st)) : B.G h cl sl (mkF m pc Ls (x :: st)) := by
  subst hp; exact B.via (fun T t X r => XS.astore X B.1 rfl (hb B.2.1 hd) rfl hv hl r) k
theorem Base.iinc (B : Base p l e R s m args below meth c Z y bytes maxL ret h0 ws C) (pc' : Nat) (hp : pc' = pc + 3) {i : Nat} {cst : Int} (v : Int32) {x : Int32} (hd : decode bytes pc = .ok (.iinc i cst, 3)) (hv : Int32.ofInt cst = v) (hl : Ls[i]? = some (.val (.int x))) (Ls' : Array Slot) (hl' : storeLocals Ls i (.int (x + v)) = some Ls') (k : B.G h cl sl (mkF m pc' Ls' st)) : B.G h cl sl (mkF m pc Ls st) := by
  subst hp hv; exact B.via (fun T t X r => XS.iinc X B.1 rfl (hb B.2.1 hd) hl hl' r) k
theorem Base.iconst (B : Base p l e R s m args below meth c Z y bytes maxL ret h0 ws C) (pc' : Nat) (hp : pc' = pc + 1) {i : Int} (v : Int32) (hd : decode bytes pc = .ok (.iconst i, 1)) (hv : Int32.ofInt i = v) (k : B.G h cl sl (mkF m pc' Ls (.int v :: st))) : B.G h cl sl (mkF m pc Ls st) := by
  subst hp hv; exact B.via (fun T t X r => XS.iconst X B.1 rfl (hb B.2.1 hd) r) k
theorem Base.bipush (B : Base p l e R s m args below meth c Z y bytes maxL ret h0 ws C) (pc' : Nat) (hp : pc' = pc + 2) {i : Int} (v : Int32) (hd : decode bytes pc = .ok (.bipush i, 2)) (hv : (Int8.ofInt i).toInt32 = v) (k : B.G h cl sl (mkF m pc' Ls (.int v :: st))) : B.G h cl sl (mkF m pc Ls st) := by
  subst hp hv; exact B.via (fun T t X r => XS.bipush X B.1 rfl (hb B.2.1 hd) r) k
theorem Base.sipush (B : Base p l e R s m args below meth c Z y bytes maxL ret h0 ws C) (pc' : Nat) (hp : pc' = pc + 3) {i : Int} (v : Int32) (hd : decode bytes pc = .ok (.sipush i, 3)) (hv : (Int16.ofInt i).toInt32 = v) (k : B.G h cl sl (mkF m pc' Ls (.int v :: st))) : B.G h cl sl (mkF m pc Ls st) := by
  subst hp hv; exact B.via (fun T t X r => XS.sipush X B.1 rfl (hb B.2.1 hd) r) k
theorem Base.lconst (B : Base p l e R s m args below meth c Z y bytes maxL ret h0 ws C) (pc' : Nat) (hp : pc' = pc + 1) {i : Fin 2} (v : Int64) (hd : decode bytes pc = .ok (.lconst i, 1)) (hv : Int64.ofNat i = v) (k : B.G h cl sl (mkF m pc' Ls (.long v :: st))) : B.G h cl sl (mkF m pc Ls st) := by
  subst hp hv; exact B.via (fun T t X r => XT.lconst X B.1 rfl (hb B.2.1 hd) r) k
theorem Base.aconstNull (B : Base p l e R s m args below meth c Z y bytes maxL ret h0 ws C) (pc' : Nat) (hp : pc' = pc + 1) (hd : decode bytes pc = .ok (.aconst_null, 1)) (k : B.G h cl sl (mkF m pc' Ls (.null :: st))) : B.G h cl sl (mkF m pc Ls st) := by
  subst hp; exact B.via (fun T t X r => XS.aconstNull X B.1 rfl (hb B.2.1 hd) r) k
theorem Base.ldcI (B : Base p l e R s m args below meth c Z y bytes maxL ret h0 ws C) (pc' : Nat) (hp : pc' = pc + 2) {i : Nat} {v : Int32} (hd : decode bytes pc = .ok (.ldc i, 2)) (w : (Cond.constant y.cls i v).before a0 Z = true) (k : B.G h cl sl (mkF m pc' Ls (.int v :: st))) : B.G h cl sl (mkF m pc Ls st) := by
  subst hp; exact B.viaX (fun T t L X _ r => X.ldcI B.1 B.2.2.2.2.1 (mv B.2.2.2.1 w) rfl (hb B.2.1 hd) r) k
theorem Base.ldcWI (B : Base p l e R s m args below meth c Z y bytes maxL ret h0 ws C) (pc' : Nat) (hp : pc' = pc + 3) {i : Nat} {v : Int32} (hd : decode bytes pc = .ok (.ldc_w i, 3)) (w : (Cond.constant y.cls i v).before a0 Z = true) (k : B.G h cl sl (mkF m pc' Ls (.int v :: st))) : B.G h cl sl (mkF m pc Ls st) := by
  subst hp; exact B.viaX (fun T t L X _ r => X.ldcWI B.1 B.2.2.2.2.1 (mv B.2.2.2.1 w) rfl (hb B.2.1 hd) r) k
theorem Base.ldc2J (B : Base p l e R s m args below meth c Z y bytes maxL ret h0 ws C) (pc' : Nat) (hp : pc' = pc + 3) {i : Nat} {v : Int64} (hd : decode bytes pc = .ok (.ldc2_w i, 3)) (w : (Cond.constantLong y.cls i v).before a0 Z = true) (k : B.G h cl sl (mkF m pc' Ls (.long v :: st))) : B.G h cl sl (mkF m pc Ls st) := by
  subst hp; exact B.viaX (fun T t L X _ r => X.ldc2J B.1 B.2.2.2.2.1 (mv B.2.2.2.1 w) rfl (hb B.2.1 hd) r) k
theorem Base.goto (B : Base p l e R s m args below meth c Z y bytes maxL ret h0 ws C) (pc' : Nat) {o : Int} (hp : ((pc : Int) + o).toNat = pc') (ho : 0 ≤ (pc : Int) + o) (hd : decode bytes pc = .ok (.goto o, 3)) (k : B.G h cl sl (mkF m pc' Ls st)) : B.G h cl sl (mkF m pc Ls st) :=
  B.via (fun T t X r => XS.goto X B.1 rfl rfl (hb B.2.1 hd) ho hp r) k
theorem Base.dup (B : Base p l e R s m args below meth c Z y bytes maxL ret h0 ws C) (pc' : Nat) (hp : pc' = pc + 1) {x : Value} (hd : decode bytes pc = .ok (.dup, 1)) (hc : x.category = 1) (k : B.G h cl sl (mkF m pc' Ls (x :: x :: st))) : B.G h cl sl (mkF m pc Ls (x :: st)) := by
  subst hp; exact B.via (fun T t X r => XS.dup X B.1 rfl (hb B.2.1 hd) rfl hc r) k
theorem Base.pop (B : Base p l e R s m args below meth c Z y bytes maxL ret h0 ws C) (pc' : Nat) (hp : pc' = pc + 1) {x : Value} (hd : decode bytes pc = .ok (.pop, 1)) (hc : x.category = 1) (k : B.G h cl sl (mkF m pc' Ls st)) : B.G h cl sl (mkF m pc Ls (x :: st)) := by
  subst hp; exact B.via (fun T t X r => XT.pop X B.1 rfl (hb B.2.1 hd) rfl hc r) k
theorem Base.dupX1 (B : Base p l e R s m args below meth c Z y bytes maxL ret h0 ws C) (pc' : Nat) (hp : pc' = pc + 1) {x z : Value} (hd : decode bytes pc = .ok (.dup_x1, 1)) (hc : x.category = 1) (hc' : z.category = 1) (k : B.G h cl sl (mkF m pc' Ls (x :: z :: x :: st))) : B.G h cl sl (mkF m pc Ls (x :: z :: st)) := by
  subst hp; exact B.via (fun T t X r => XT.dupX1 X B.1 rfl (hb B.2.1 hd) rfl hc hc' r) k
theorem Base.dup2 (B : Base p l e R s m args below meth c Z y bytes maxL ret h0 ws C) (pc' : Nat) (hp : pc' = pc + 1) {x z : Value} (hd : decode bytes pc = .ok (.dup2, 1)) (hc : x.category = 1) (hc' : z.category = 1) (k : B.G h cl sl (mkF m pc' Ls (x :: z :: x :: z :: st))) : B.G h cl sl (mkF m pc Ls (x :: z :: st)) := by
  subst hp; exact B.via (fun T t X r => XT.dup2 X B.1 rfl (hb B.2.1 hd) rfl hc hc' r) k
theorem Base.iadd (B : Base p l e R s m args below meth c Z y bytes maxL ret h0 ws C) (pc' : Nat) (hp : pc' = pc + 1) {x : Int32} {z : Int32} (hd : decode bytes pc = .ok (.iadd, 1)) (k : B.G h cl sl (mkF m pc' Ls (.int (x + z) :: st))) : B.G h cl sl (mkF m pc Ls (.int z :: .int x :: st)) := by
  subst hp; exact B.via (fun T t X r => XS.iadd X B.1 rfl (hb B.2.1 hd) rfl r) k
theorem Base.isub (B : Base p l e R s m args below meth c Z y bytes maxL ret h0 ws C) (pc' : Nat) (hp : pc' = pc + 1) {x : Int32} {z : Int32} (hd : decode bytes pc = .ok (.isub, 1)) (k : B.G h cl sl (mkF m pc' Ls (.int (x - z) :: st))) : B.G h cl sl (mkF m pc Ls (.int z :: .int x :: st)) := by
  subst hp; exact B.via (fun T t X r => XS.isub X B.1 rfl (hb B.2.1 hd) rfl r) k
theorem Base.iand (B : Base p l e R s m args below meth c Z y bytes maxL ret h0 ws C) (pc' : Nat) (hp : pc' = pc + 1) {x : Int32} {z : Int32} (hd : decode bytes pc = .ok (.iand, 1)) (k : B.G h cl sl (mkF m pc' Ls (.int (x &&& z) :: st))) : B.G h cl sl (mkF m pc Ls (.int z :: .int x :: st)) := by
  subst hp; exact B.via (fun T t X r => XS.iand X B.1 rfl (hb B.2.1 hd) rfl r) k
theorem Base.imul (B : Base p l e R s m args below meth c Z y bytes maxL ret h0 ws C) (pc' : Nat) (hp : pc' = pc + 1) {x : Int32} {z : Int32} (hd : decode bytes pc = .ok (.imul, 1)) (k : B.G h cl sl (mkF m pc' Ls (.int (x * z) :: st))) : B.G h cl sl (mkF m pc Ls (.int z :: .int x :: st)) := by
  subst hp; exact B.via (fun T t X r => XS.imul X B.1 rfl (hb B.2.1 hd) rfl r) k
theorem Base.ixor (B : Base p l e R s m args below meth c Z y bytes maxL ret h0 ws C) (pc' : Nat) (hp : pc' = pc + 1) {x : Int32} {z : Int32} (hd : decode bytes pc = .ok (.ixor, 1)) (k : B.G h cl sl (mkF m pc' Ls (.int (x ^^^ z) :: st))) : B.G h cl sl (mkF m pc Ls (.int z :: .int x :: st)) := by
  subst hp; exact B.via (fun T t X r => XT.ixor X B.1 rfl (hb B.2.1 hd) rfl r) k
theorem Base.ior (B : Base p l e R s m args below meth c Z y bytes maxL ret h0 ws C) (pc' : Nat) (hp : pc' = pc + 1) {x : Int32} {z : Int32} (hd : decode bytes pc = .ok (.ior, 1)) (k : B.G h cl sl (mkF m pc' Ls (.int (x ||| z) :: st))) : B.G h cl sl (mkF m pc Ls (.int z :: .int x :: st)) := by
  subst hp; exact B.via (fun T t X r => XT.ior X B.1 rfl (hb B.2.1 hd) rfl r) k
theorem Base.ishl (B : Base p l e R s m args below meth c Z y bytes maxL ret h0 ws C) (pc' : Nat) (hp : pc' = pc + 1) {x : Int32} {z : Int32} (hd : decode bytes pc = .ok (.ishl, 1)) (k : B.G h cl sl (mkF m pc' Ls (.int (x <<< (z &&& 31)) :: st))) : B.G h cl sl (mkF m pc Ls (.int z :: .int x :: st)) := by
  subst hp; exact B.via (fun T t X r => XT.ishl X B.1 rfl (hb B.2.1 hd) rfl r) k
theorem Base.ishr (B : Base p l e R s m args below meth c Z y bytes maxL ret h0 ws C) (pc' : Nat) (hp : pc' = pc + 1) {x : Int32} {z : Int32} (hd : decode bytes pc = .ok (.ishr, 1)) (k : B.G h cl sl (mkF m pc' Ls (.int (x >>> (z &&& 31)) :: st))) : B.G h cl sl (mkF m pc Ls (.int z :: .int x :: st)) := by
  subst hp; exact B.via (fun T t X r => XT.ishr X B.1 rfl (hb B.2.1 hd) rfl r) k
theorem Base.iushr (B : Base p l e R s m args below meth c Z y bytes maxL ret h0 ws C) (pc' : Nat) (hp : pc' = pc + 1) {x : Int32} {z : Int32} (hd : decode bytes pc = .ok (.iushr, 1)) (k : B.G h cl sl (mkF m pc' Ls (.int (XT.ushr x z) :: st))) : B.G h cl sl (mkF m pc Ls (.int z :: .int x :: st)) := by
  subst hp; exact B.via (fun T t X r => XT.iushr X B.1 rfl (hb B.2.1 hd) rfl r) k
theorem Base.ladd (B : Base p l e R s m args below meth c Z y bytes maxL ret h0 ws C) (pc' : Nat) (hp : pc' = pc + 1) {x : Int64} {z : Int64} (hd : decode bytes pc = .ok (.ladd, 1)) (k : B.G h cl sl (mkF m pc' Ls (.long (x + z) :: st))) : B.G h cl sl (mkF m pc Ls (.long z :: .long x :: st)) := by
  subst hp; exact B.via (fun T t X r => XT.ladd X B.1 rfl (hb B.2.1 hd) rfl r) k
theorem Base.lsub (B : Base p l e R s m args below meth c Z y bytes maxL ret h0 ws C) (pc' : Nat) (hp : pc' = pc + 1) {x : Int64} {z : Int64} (hd : decode bytes pc = .ok (.lsub, 1)) (k : B.G h cl sl (mkF m pc' Ls (.long (x - z) :: st))) : B.G h cl sl (mkF m pc Ls (.long z :: .long x :: st)) := by
  subst hp; exact B.via (fun T t X r => XT.lsub X B.1 rfl (hb B.2.1 hd) rfl r) k
theorem Base.lmul (B : Base p l e R s m args below meth c Z y bytes maxL ret h0 ws C) (pc' : Nat) (hp : pc' = pc + 1) {x : Int64} {z : Int64} (hd : decode bytes pc = .ok (.lmul, 1)) (k : B.G h cl sl (mkF m pc' Ls (.long (x * z) :: st))) : B.G h cl sl (mkF m pc Ls (.long z :: .long x :: st)) := by
  subst hp; exact B.via (fun T t X r => XT.lmul X B.1 rfl (hb B.2.1 hd) rfl r) k
theorem Base.land (B : Base p l e R s m args below meth c Z y bytes maxL ret h0 ws C) (pc' : Nat) (hp : pc' = pc + 1) {x : Int64} {z : Int64} (hd : decode bytes pc = .ok (.land, 1)) (k : B.G h cl sl (mkF m pc' Ls (.long (x &&& z) :: st))) : B.G h cl sl (mkF m pc Ls (.long z :: .long x :: st)) := by
  subst hp; exact B.via (fun T t X r => XT.land X B.1 rfl (hb B.2.1 hd) rfl r) k
theorem Base.lor (B : Base p l e R s m args below meth c Z y bytes maxL ret h0 ws C) (pc' : Nat) (hp : pc' = pc + 1) {x : Int64} {z : Int64} (hd : decode bytes pc = .ok (.lor, 1)) (k : B.G h cl sl (mkF m pc' Ls (.long (x ||| z) :: st))) : B.G h cl sl (mkF m pc Ls (.long z :: .long x :: st)) := by
  subst hp; exact B.via (fun T t X r => XT.lor X B.1 rfl (hb B.2.1 hd) rfl r) k
theorem Base.lxor (B : Base p l e R s m args below meth c Z y bytes maxL ret h0 ws C) (pc' : Nat) (hp : pc' = pc + 1) {x : Int64} {z : Int64} (hd : decode bytes pc = .ok (.lxor, 1)) (k : B.G h cl sl (mkF m pc' Ls (.long (x ^^^ z) :: st))) : B.G h cl sl (mkF m pc Ls (.long z :: .long x :: st)) := by
  subst hp; exact B.via (fun T t X r => XT.lxor X B.1 rfl (hb B.2.1 hd) rfl r) k
theorem Base.lshl (B : Base p l e R s m args below meth c Z y bytes maxL ret h0 ws C) (pc' : Nat) (hp : pc' = pc + 1) {x : Int64} {z : Int32} (hd : decode bytes pc = .ok (.lshl, 1)) (k : B.G h cl sl (mkF m pc' Ls (.long (x <<< (z.toInt64 &&& 63)) :: st))) : B.G h cl sl (mkF m pc Ls (.int z :: .long x :: st)) := by
  subst hp; exact B.via (fun T t X r => XT.lshl X B.1 rfl (hb B.2.1 hd) rfl r) k
theorem Base.lshr (B : Base p l e R s m args below meth c Z y bytes maxL ret h0 ws C) (pc' : Nat) (hp : pc' = pc + 1) {x : Int64} {z : Int32} (hd : decode bytes pc = .ok (.lshr, 1)) (k : B.G h cl sl (mkF m pc' Ls (.long (x >>> (z.toInt64 &&& 63)) :: st))) : B.G h cl sl (mkF m pc Ls (.int z :: .long x :: st)) := by
  subst hp; exact B.via (fun T t X r => XT.lshr X B.1 rfl (hb B.2.1 hd) rfl r) k
theorem Base.lushr (B : Base p l e R s m args below meth c Z y bytes maxL ret h0 ws C) (pc' : Nat) (hp : pc' = pc + 1) {x : Int64} {z : Int32} (hd : decode bytes pc = .ok (.lushr, 1)) (k : B.G h cl sl (mkF m pc' Ls (.long (XT.ushrL x z) :: st))) : B.G h cl sl (mkF m pc Ls (.int z :: .long x :: st)) := by
  subst hp; exact B.via (fun T t X r => XT.lushr X B.1 rfl (hb B.2.1 hd) rfl r) k
theorem Base.lcmp (B : Base p l e R s m args below meth c Z y bytes maxL ret h0 ws C) (pc' : Nat) (hp : pc' = pc + 1) {x : Int64} {z : Int64} (hd : decode bytes pc = .ok (.lcmp, 1)) (k : B.G h cl sl (mkF m pc' Ls (.int (XT.cmpL x z) :: st))) : B.G h cl sl (mkF m pc Ls (.long z :: .long x :: st)) := by
  subst hp; exact B.via (fun T t X r => XT.lcmp X B.1 rfl (hb B.2.1 hd) rfl r) k
theorem Base.idiv (B : Base p l e R s m args below meth c Z y bytes maxL ret h0 ws C) (pc' : Nat) (hp : pc' = pc + 1) {x : Int32} {z : Int32} (hd : decode bytes pc = .ok (.idiv, 1)) (hz : z ≠ 0) (k : B.G h cl sl (mkF m pc' Ls (.int (x / z) :: st))) : B.G h cl sl (mkF m pc Ls (.int z :: .int x :: st)) := by
  subst hp; exact B.via (fun T t X r => XS.idiv X B.1 rfl (hb B.2.1 hd) rfl hz r) k
theorem Base.ldiv (B : Base p l e R s m args below meth c Z y bytes maxL ret h0 ws C) (pc' : Nat) (hp : pc' = pc + 1) {x : Int64} {z : Int64} (hd : decode bytes pc = .ok (.ldiv, 1)) (hz : z ≠ 0) (k : B.G h cl sl (mkF m pc' Ls (.long (x / z) :: st))) : B.G h cl sl (mkF m pc Ls (.long z :: .long x :: st)) := by
  subst hp; exact B.via (fun T t X r => XT.ldiv X B.1 rfl (hb B.2.1 hd) rfl hz r) k
theorem Base.irem (B : Base p l e R s m args below meth c Z y bytes maxL ret h0 ws C) (pc' : Nat) (hp : pc' = pc + 1) {x z : Int32} (hd : decode bytes pc = .ok (.irem, 1)) (hz : z ≠ 0) (k : B.G h cl sl (mkF m pc' Ls (.int (x % z) :: st))) : B.G h cl sl (mkF m pc Ls (.int z :: .int x :: st)) := by
  subst hp; exact B.viaX (fun T t L X _ r => iremM X B.1 rfl (hb B.2.1 hd) rfl hz r) k
theorem Base.ineg (B : Base p l e R s m args below meth c Z y bytes maxL ret h0 ws C) (pc' : Nat) (hp : pc' = pc + 1) {x : Int32} (hd : decode bytes pc = .ok (.ineg, 1)) (k : B.G h cl sl (mkF m pc' Ls (.int (-x) :: st))) : B.G h cl sl (mkF m pc Ls (.int x :: st)) := by
  subst hp; exact B.via (fun T t X r => XS.ineg X B.1 rfl (hb B.2.1 hd) rfl r) k
theorem Base.lneg (B : Base p l e R s m args below meth c Z y bytes maxL ret h0 ws C) (pc' : Nat) (hp : pc' = pc + 1) {x : Int64} (hd : decode bytes pc = .ok (.lneg, 1)) (k : B.G h cl sl (mkF m pc' Ls (.long (-x) :: st))) : B.G h cl sl (mkF m pc Ls (.long x :: st)) := by
  subst hp; exact B.via (fun T t X r => XT.lneg X B.1 rfl (hb B.2.1 hd) rfl r) k
theorem Base.i2l (B : Base p l e R s m args below meth c Z y bytes maxL ret h0 ws C) (pc' : Nat) (hp : pc' = pc + 1) {x : Int32} (hd : decode bytes pc = .ok (.i2l, 1)) (k : B.G h cl sl (mkF m pc' Ls (.long (x.toInt64) :: st))) : B.G h cl sl (mkF m pc Ls (.int x :: st)) := by
  subst hp; exact B.via (fun T t X r => XT.i2l X B.1 rfl (hb B.2.1 hd) rfl r) k
theorem Base.l2i (B : Base p l e R s m args below meth c Z y bytes maxL ret h0 ws C) (pc' : Nat) (hp : pc' = pc + 1) {x : Int64} (hd : decode bytes pc = .ok (.l2i, 1)) (k : B.G h cl sl (mkF m pc' Ls (.int (x.toInt32) :: st))) : B.G h cl sl (mkF m pc Ls (.long x :: st)) := by
  subst hp; exact B.via (fun T t X r => XT.l2i X B.1 rfl (hb B.2.1 hd) rfl r) k
theorem Base.i2b (B : Base p l e R s m args below meth c Z y bytes maxL ret h0 ws C) (pc' : Nat) (hp : pc' = pc + 1) {x : Int32} (hd : decode bytes pc = .ok (.i2b, 1)) (k : B.G h cl sl (mkF m pc' Ls (.int (x.toInt8.toInt32) :: st))) : B.G h cl sl (mkF m pc Ls (.int x :: st)) := by
  subst hp; exact B.via (fun T t X r => XT.i2b X B.1 rfl (hb B.2.1 hd) rfl r) k
theorem Base.i2c (B : Base p l e R s m args below meth c Z y bytes maxL ret h0 ws C) (pc' : Nat) (hp : pc' = pc + 1) {x : Int32} (hd : decode bytes pc = .ok (.i2c, 1)) (k : B.G h cl sl (mkF m pc' Ls (.int (x.toUInt32.toUInt16.toUInt32.toInt32) :: st))) : B.G h cl sl (mkF m pc Ls (.int x :: st)) := by
  subst hp; exact B.via (fun T t X r => XT.i2c X B.1 rfl (hb B.2.1 hd) rfl r) k
theorem Base.i2s (B : Base p l e R s m args below meth c Z y bytes maxL ret h0 ws C) (pc' : Nat) (hp : pc' = pc + 1) {x : Int32} (hd : decode bytes pc = .ok (.i2s, 1)) (k : B.G h cl sl (mkF m pc' Ls (.int (x.toInt16.toInt32) :: st))) : B.G h cl sl (mkF m pc Ls (.int x :: st)) := by
  subst hp; exact B.via (fun T t X r => XT.i2s X B.1 rfl (hb B.2.1 hd) rfl r) k
theorem Base.icmp_eq (B : Base p l e R s m args below meth c Z y bytes maxL ret h0 ws C) (pt pf : Nat) {o : Int} (hpt : ((pc : Int) + o).toNat = pt) (ho : 0 ≤ (pc : Int) + o) (hpf : pf = pc + 3) {x z : Int32} (hd : decode bytes pc = .ok (.if_icmp .eq o, 3)) (kt : x = z → B.G h cl sl (mkF m pt Ls st)) (kf : ¬ x = z → B.G h cl sl (mkF m pf Ls st)) : B.G h cl sl (mkF m pc Ls (.int z :: .int x :: st)) := by
  subst hpt hpf
  by_cases q : x = z
  · exact B.via (fun T t X r => XS.icmpYes X B.1 rfl rfl (hb B.2.1 hd) rfl (XT.ii_eq_t q) ho rfl r) (kt q)
  · exact B.via (fun T t X r => XS.icmpNo X B.1 rfl (hb B.2.1 hd) rfl (XT.ii_eq_f q) r) (kf q)
theorem Base.if0_eq (B : Base p l e R s m args below meth c Z y bytes maxL ret h0 ws C) (pt pf : Nat) {o : Int} (hpt : ((pc : Int) + o).toNat = pt) (ho : 0 ≤ (pc : Int) + o) (hpf : pf = pc + 3) {x : Int32} (hd : decode bytes pc = .ok (.ifCond .eq o, 3)) (kt : x = 0 → B.G h cl sl (mkF m pt Ls st)) (kf : ¬ x = 0 → B.G h cl sl (mkF m pf Ls st)) : B.G h cl sl (mkF m pc Ls (.int x :: st)) := by
  subst hpt hpf
  by_cases q : x = 0
  · exact B.via (fun T t X r => XS.ifYes X B.1 rfl rfl (hb B.2.1 hd) rfl (XT.i0_eq_t q) ho rfl r) (kt q)
  · exact B.via (fun T t X r => XS.ifNo X B.1 rfl (hb B.2.1 hd) rfl (XT.i0_eq_f q) r) (kf q)
theorem Base.lif_eq (B : Base p l e R s m args below meth c Z y bytes maxL ret h0 ws C) (pt pf : Nat) {o : Int} (hpt : ((pc : Int) + o).toNat = pt) (ho : 0 ≤ (pc : Int) + o) (hpf : pf = pc + 3) {x z : Int64} (hd : decode bytes pc = .ok (.ifCond .eq o, 3)) (kt : x = z → B.G h cl sl (mkF m pt Ls st)) (kf : ¬ x = z → B.G h cl sl (mkF m pf Ls st)) : B.G h cl sl (mkF m pc Ls (.int (XT.cmpL x z) :: st)) := by
  subst hpt hpf
  by_cases q : x = z
  · exact B.via (fun T t X r => XS.ifYes X B.1 rfl rfl (hb B.2.1 hd) rfl (XT.ll_eq_t q) ho rfl r) (kt q)
  · exact B.via (fun T t X r => XS.ifNo X B.1 rfl (hb B.2.1 hd) rfl (XT.ll_eq_f q) r) (kf q)
theorem Base.icmp_ne (B : Base p l e R s m args below meth c Z y bytes maxL ret h0 ws C) (pt pf : Nat) {o : Int} (hpt : ((pc : Int) + o).toNat = pt) (ho : 0 ≤ (pc : Int) + o) (hpf : pf = pc + 3) {x z : Int32} (hd : decode bytes pc = .ok (.if_icmp .ne o, 3)) (kt : ¬ x = z → B.G h cl sl (mkF m pt Ls st)) (kf : x = z → B.G h cl sl (mkF m pf Ls st)) : B.G h cl sl (mkF m pc Ls (.int z :: .int x :: st)) := by
  subst hpt hpf
  by_cases q : x = z
  · exact B.via (fun T t X r => XS.icmpNo X B.1 rfl (hb B.2.1 hd) rfl (XT.ii_ne_f q) r) (kf q)
  · exact B.via (fun T t X r => XS.icmpYes X B.1 rfl rfl (hb B.2.1 hd) rfl (XT.ii_ne_t q) ho rfl r) (kt q)
theorem Base.if0_ne (B : Base p l e R s m args below meth c Z y bytes maxL ret h0 ws C) (pt pf : Nat) {o : Int} (hpt : ((pc : Int) + o).toNat = pt) (ho : 0 ≤ (pc : Int) + o) (hpf : pf = pc + 3) {x : Int32} (hd : decode bytes pc = .ok (.ifCond .ne o, 3)) (kt : ¬ x = 0 → B.G h cl sl (mkF m pt Ls st)) (kf : x = 0 → B.G h cl sl (mkF m pf Ls st)) : B.G h cl sl (mkF m pc Ls (.int x :: st)) := by
  subst hpt hpf
  by_cases q : x = 0
  · exact B.via (fun T t X r => XS.ifNo X B.1 rfl (hb B.2.1 hd) rfl (XT.i0_ne_f q) r) (kf q)
  · exact B.via (fun T t X r => XS.ifYes X B.1 rfl rfl (hb B.2.1 hd) rfl (XT.i0_ne_t q) ho rfl r) (kt q)
theorem Base.lif_ne (B : Base p l e R s m args below meth c Z y bytes maxL ret h0 ws C) (pt pf : Nat) {o : Int} (hpt : ((pc : Int) + o).toNat = pt) (ho : 0 ≤ (pc : Int) + o) (hpf : pf = pc + 3) {x z : Int64} (hd : decode bytes pc = .ok (.ifCond .ne o, 3)) (kt : ¬ x = z → B.G h cl sl (mkF m pt Ls st)) (kf : x = z → B.G h cl sl (mkF m pf Ls st)) : B.G h cl sl (mkF m pc Ls (.int (XT.cmpL x z) :: st)) := by
  subst hpt hpf
  by_cases q : x = z
  · exact B.via (fun T t X r => XS.ifNo X B.1 rfl (hb B.2.1 hd) rfl (XT.ll_ne_f q) r) (kf q)
  · exact B.via (fun T t X r => XS.ifYes X B.1 rfl rfl (hb B.2.1 hd) rfl (XT.ll_ne_t q) ho rfl r) (kt q)
theorem Base.icmp_lt (B : Base p l e R s m args below meth c Z y bytes maxL ret h0 ws C) (pt pf : Nat) {o : Int} (hpt : ((pc : Int) + o).toNat = pt) (ho : 0 ≤ (pc : Int) + o) (hpf : pf = pc + 3) {x z : Int32} (hd : decode bytes pc = .ok (.if_icmp .lt o, 3)) (kt : x < z → B.G h cl sl (mkF m pt Ls st)) (kf : ¬ x < z → B.G h cl sl (mkF m pf Ls st)) : B.G h cl sl (mkF m pc Ls (.int z :: .int x :: st)) := by
  subst hpt hpf
  by_cases q : x < z
  · exact B.via (fun T t X r => XS.icmpYes X B.1 rfl rfl (hb B.2.1 hd) rfl (XT.ii_lt_t q) ho rfl r) (kt q)
  · exact B.via (fun T t X r => XS.icmpNo X B.1 rfl (hb B.2.1 hd) rfl (XT.ii_lt_f q) r) (kf q)
theorem Base.if0_lt (B : Base p l e R s m args below meth c Z y bytes maxL ret h0 ws C) (pt pf : Nat) {o : Int} (hpt : ((pc : Int) + o).toNat = pt) (ho : 0 ≤ (pc : Int) + o) (hpf : pf = pc + 3) {x : Int32} (hd : decode bytes pc = .ok (.ifCond .lt o, 3)) (kt : x < 0 → B.G h cl sl (mkF m pt Ls st)) (kf : ¬ x < 0 → B.G h cl sl (mkF m pf Ls st)) : B.G h cl sl (mkF m pc Ls (.int x :: st)) := by
  subst hpt hpf
  by_cases q : x < 0
  · exact B.via (fun T t X r => XS.ifYes X B.1 rfl rfl (hb B.2.1 hd) rfl (XT.i0_lt_t q) ho rfl r) (kt q)
  · exact B.via (fun T t X r => XS.ifNo X B.1 rfl (hb B.2.1 hd) rfl (XT.i0_lt_f q) r) (kf q)
theorem Base.lif_lt (B : Base p l e R s m args below meth c Z y bytes maxL ret h0 ws C) (pt pf : Nat) {o : Int} (hpt : ((pc : Int) + o).toNat = pt) (ho : 0 ≤ (pc : Int) + o) (hpf : pf = pc + 3) {x z : Int64} (hd : decode bytes pc = .ok (.ifCond .lt o, 3)) (kt : x < z → B.G h cl sl (mkF m pt Ls st)) (kf : ¬ x < z → B.G h cl sl (mkF m pf Ls st)) : B.G h cl sl (mkF m pc Ls (.int (XT.cmpL x z) :: st)) := by
  subst hpt hpf
  by_cases q : x < z
  · exact B.via (fun T t X r => XS.ifYes X B.1 rfl rfl (hb B.2.1 hd) rfl (XT.ll_lt_t q) ho rfl r) (kt q)
  · exact B.via (fun T t X r => XS.ifNo X B.1 rfl (hb B.2.1 hd) rfl (XT.ll_lt_f q) r) (kf q)
theorem Base.icmp_ge (B : Base p l e R s m args below meth c Z y bytes maxL ret h0 ws C) (pt pf : Nat) {o : Int} (hpt : ((pc : Int) + o).toNat = pt) (ho : 0 ≤ (pc : Int) + o) (hpf : pf = pc + 3) {x z : Int32} (hd : decode bytes pc = .ok (.if_icmp .ge o, 3)) (kt : ¬ x < z → B.G h cl sl (mkF m pt Ls st)) (kf : x < z → B.G h cl sl (mkF m pf Ls st)) : B.G h cl sl (mkF m pc Ls (.int z :: .int x :: st)) := by
  subst hpt hpf
  by_cases q : x < z
  · exact B.via (fun T t X r => XS.icmpNo X B.1 rfl (hb B.2.1 hd) rfl (XT.ii_ge_f q) r) (kf q)
  · exact B.via (fun T t X r => XS.icmpYes X B.1 rfl rfl (hb B.2.1 hd) rfl (XT.ii_ge_t q) ho rfl r) (kt q)
theorem Base.if0_ge (B : Base p l e R s m args below meth c Z y bytes maxL ret h0 ws C) (pt pf : Nat) {o : Int} (hpt : ((pc : Int) + o).toNat = pt) (ho : 0 ≤ (pc : Int) + o) (hpf : pf = pc + 3) {x : Int32} (hd : decode bytes pc = .ok (.ifCond .ge o, 3)) (kt : ¬ x < 0 → B.G h cl sl (mkF m pt Ls st)) (kf : x < 0 → B.G h cl sl (mkF m pf Ls st)) : B.G h cl sl (mkF m pc Ls (.int x :: st)) := by
  subst hpt hpf
  by_cases q : x < 0
  · exact B.via (fun T t X r => XS.ifNo X B.1 rfl (hb B.2.1 hd) rfl (XT.i0_ge_f q) r) (kf q)
  · exact B.via (fun T t X r => XS.ifYes X B.1 rfl rfl (hb B.2.1 hd) rfl (XT.i0_ge_t q) ho rfl r) (kt q)
theorem Base.lif_ge (B : Base p l e R s m args below meth c Z y bytes maxL ret h0 ws C) (pt pf : Nat) {o : Int} (hpt : ((pc : Int) + o).toNat = pt) (ho : 0 ≤ (pc : Int) + o) (hpf : pf = pc + 3) {x z : Int64} (hd : decode bytes pc = .ok (.ifCond .ge o, 3)) (kt : ¬ x < z → B.G h cl sl (mkF m pt Ls st)) (kf : x < z → B.G h cl sl (mkF m pf Ls st)) : B.G h cl sl (mkF m pc Ls (.int (XT.cmpL x z) :: st)) := by
  subst hpt hpf
  by_cases q : x < z
  · exact B.via (fun T t X r => XS.ifNo X B.1 rfl (hb B.2.1 hd) rfl (XT.ll_ge_f q) r) (kf q)
  · exact B.via (fun T t X r => XS.ifYes X B.1 rfl rfl (hb B.2.1 hd) rfl (XT.ll_ge_t q) ho rfl r) (kt q)
theorem Base.icmp_gt (B : Base p l e R s m args below meth c Z y bytes maxL ret h0 ws C) (pt pf : Nat) {o : Int} (hpt : ((pc : Int) + o).toNat = pt) (ho : 0 ≤ (pc : Int) + o) (hpf : pf = pc + 3) {x z : Int32} (hd : decode bytes pc = .ok (.if_icmp .gt o, 3)) (kt : z < x → B.G h cl sl (mkF m pt Ls st)) (kf : ¬ z < x → B.G h cl sl (mkF m pf Ls st)) : B.G h cl sl (mkF m pc Ls (.int z :: .int x :: st)) := by
  subst hpt hpf
  by_cases q : z < x
  · exact B.via (fun T t X r => XS.icmpYes X B.1 rfl rfl (hb B.2.1 hd) rfl (XT.ii_gt_t q) ho rfl r) (kt q)
  · exact B.via (fun T t X r => XS.icmpNo X B.1 rfl (hb B.2.1 hd) rfl (XT.ii_gt_f q) r) (kf q)
theorem Base.if0_gt (B : Base p l e R s m args below meth c Z y bytes maxL ret h0 ws C) (pt pf : Nat) {o : Int} (hpt : ((pc : Int) + o).toNat = pt) (ho : 0 ≤ (pc : Int) + o) (hpf : pf = pc + 3) {x : Int32} (hd : decode bytes pc = .ok (.ifCond .gt o, 3)) (kt : 0 < x → B.G h cl sl (mkF m pt Ls st)) (kf : ¬ 0 < x → B.G h cl sl (mkF m pf Ls st)) : B.G h cl sl (mkF m pc Ls (.int x :: st)) := by
  subst hpt hpf
  by_cases q : 0 < x
  · exact B.via (fun T t X r => XS.ifYes X B.1 rfl rfl (hb B.2.1 hd) rfl (XT.i0_gt_t q) ho rfl r) (kt q)
  · exact B.via (fun T t X r => XS.ifNo X B.1 rfl (hb B.2.1 hd) rfl (XT.i0_gt_f q) r) (kf q)
theorem Base.lif_gt (B : Base p l e R s m args below meth c Z y bytes maxL ret h0 ws C) (pt pf : Nat) {o : Int} (hpt : ((pc : Int) + o).toNat = pt) (ho : 0 ≤ (pc : Int) + o) (hpf : pf = pc + 3) {x z : Int64} (hd : decode bytes pc = .ok (.ifCond .gt o, 3)) (kt : z < x → B.G h cl sl (mkF m pt Ls st)) (kf : ¬ z < x → B.G h cl sl (mkF m pf Ls st)) : B.G h cl sl (mkF m pc Ls (.int (XT.cmpL x z) :: st)) := by
  subst hpt hpf
  by_cases q : z < x
  · exact B.via (fun T t X r => XS.ifYes X B.1 rfl rfl (hb B.2.1 hd) rfl (XT.ll_gt_t q) ho rfl r) (kt q)
  · exact B.via (fun T t X r => XS.ifNo X B.1 rfl (hb B.2.1 hd) rfl (XT.ll_gt_f q) r) (kf q)
theorem Base.icmp_le (B : Base p l e R s m args below meth c Z y bytes maxL ret h0 ws C) (pt pf : Nat) {o : Int} (hpt : ((pc : Int) + o).toNat = pt) (ho : 0 ≤ (pc : Int) + o) (hpf : pf = pc + 3) {x z : Int32} (hd : decode bytes pc = .ok (.if_icmp .le o, 3)) (kt : ¬ z < x → B.G h cl sl (mkF m pt Ls st)) (kf : z < x → B.G h cl sl (mkF m pf Ls st)) : B.G h cl sl (mkF m pc Ls (.int z :: .int x :: st)) := by
  subst hpt hpf
  by_cases q : z < x
  · exact B.via (fun T t X r => XS.icmpNo X B.1 rfl (hb B.2.1 hd) rfl (XT.ii_le_f q) r) (kf q)
  · exact B.via (fun T t X r => XS.icmpYes X B.1 rfl rfl (hb B.2.1 hd) rfl (XT.ii_le_t q) ho rfl r) (kt q)
theorem Base.if0_le (B : Base p l e R s m args below meth c Z y bytes maxL ret h0 ws C) (pt pf : Nat) {o : Int} (hpt : ((pc : Int) + o).toNat = pt) (ho : 0 ≤ (pc : Int) + o) (hpf : pf = pc + 3) {x : Int32} (hd : decode bytes pc = .ok (.ifCond .le o, 3)) (kt : ¬ 0 < x → B.G h cl sl (mkF m pt Ls st)) (kf : 0 < x → B.G h cl sl (mkF m pf Ls st)) : B.G h cl sl (mkF m pc Ls (.int x :: st)) := by
  subst hpt hpf
  by_cases q : 0 < x
  · exact B.via (fun T t X r => XS.ifNo X B.1 rfl (hb B.2.1 hd) rfl (XT.i0_le_f q) r) (kf q)
  · exact B.via (fun T t X r => XS.ifYes X B.1 rfl rfl (hb B.2.1 hd) rfl (XT.i0_le_t q) ho rfl r) (kt q)
theorem Base.lif_le (B : Base p l e R s m args below meth c Z y bytes maxL ret h0 ws C) (pt pf : Nat) {o : Int} (hpt : ((pc : Int) + o).toNat = pt) (ho : 0 ≤ (pc : Int) + o) (hpf : pf = pc + 3) {x z : Int64} (hd : decode bytes pc = .ok (.ifCond .le o, 3)) (kt : ¬ z < x → B.G h cl sl (mkF m pt Ls st)) (kf : z < x → B.G h cl sl (mkF m pf Ls st)) : B.G h cl sl (mkF m pc Ls (.int (XT.cmpL x z) :: st)) := by
  subst hpt hpf
  by_cases q : z < x
  · exact B.via (fun T t X r => XS.ifNo X B.1 rfl (hb B.2.1 hd) rfl (XT.ll_le_f q) r) (kf q)
  · exact B.via (fun T t X r => XS.ifYes X B.1 rfl rfl (hb B.2.1 hd) rfl (XT.ll_le_t q) ho rfl r) (kt q)
theorem Base.acmp_eq (B : Base p l e R s m args below meth c Z y bytes maxL ret h0 ws C) (pt pf : Nat) {o : Int} (hpt : ((pc : Int) + o).toNat = pt) (ho : 0 ≤ (pc : Int) + o) (hpf : pf = pc + 3) {x z : Value} (hd : decode bytes pc = .ok (.if_acmp .eq o, 3)) (hx' : x.isRef = true) (hz' : z.isRef = true) (kt : x = z → B.G h cl sl (mkF m pt Ls st)) (kf : ¬ x = z → B.G h cl sl (mkF m pf Ls st)) : B.G h cl sl (mkF m pc Ls (z :: x :: st)) := by
  subst hpt hpf
  by_cases q : x = z
  · exact B.via (fun T t X r => XT.acmpYes X B.1 rfl rfl (hb B.2.1 hd) rfl hx' hz' (XT.aa_eq_t q) ho rfl r) (kt q)
  · exact B.via (fun T t X r => XT.acmpNo X B.1 rfl (hb B.2.1 hd) rfl hx' hz' (XT.aa_eq_f q) r) (kf q)
theorem Base.acmp_ne (B : Base p l e R s m args below meth c Z y bytes maxL ret h0 ws C) (pt pf : Nat) {o : Int} (hpt : ((pc : Int) + o).toNat = pt) (ho : 0 ≤ (pc : Int) + o) (hpf : pf = pc + 3) {x z : Value} (hd : decode bytes pc = .ok (.if_acmp .ne o, 3)) (hx' : x.isRef = true) (hz' : z.isRef = true) (kt : ¬ x = z → B.G h cl sl (mkF m pt Ls st)) (kf : x = z → B.G h cl sl (mkF m pf Ls st)) : B.G h cl sl (mkF m pc Ls (z :: x :: st)) := by
  subst hpt hpf
  by_cases q : x = z
  · exact B.via (fun T t X r => XT.acmpNo X B.1 rfl (hb B.2.1 hd) rfl hx' hz' (XT.aa_ne_f q) r) (kf q)
  · exact B.via (fun T t X r => XT.acmpYes X B.1 rfl rfl (hb B.2.1 hd) rfl hx' hz' (XT.aa_ne_t q) ho rfl r) (kt q)
theorem Base.ifnull (B : Base p l e R s m args below meth c Z y bytes maxL ret h0 ws C) (pt pf : Nat) {o : Int} (hpt : ((pc : Int) + o).toNat = pt) (ho : 0 ≤ (pc : Int) + o) (hpf : pf = pc + 3) {x : Value} (hd : decode bytes pc = .ok (.ifnull o, 3)) (hx' : x.isRef = true) (kt : x = .null → B.G h cl sl (mkF m pt Ls st)) (kf : ¬ x = .null → B.G h cl sl (mkF m pf Ls st)) : B.G h cl sl (mkF m pc Ls (x :: st)) := by
  subst hpt hpf
  by_cases q : x = .null
  · exact B.via (fun T t X r => XT.nullYes X B.1 rfl rfl (hb B.2.1 hd) rfl q ho rfl r) (kt q)
  · exact B.via (fun T t X r => XT.nullNo X B.1 rfl (hb B.2.1 hd) rfl hx' q r) (kf q)
theorem Base.ifnonnull (B : Base p l e R s m args below meth c Z y bytes maxL ret h0 ws C) (pt pf : Nat) {o : Int} (hpt : ((pc : Int) + o).toNat = pt) (ho : 0 ≤ (pc : Int) + o) (hpf : pf = pc + 3) {x : Value} (hd : decode bytes pc = .ok (.ifnonnull o, 3)) (hx' : x.isRef = true) (kt : ¬ x = .null → B.G h cl sl (mkF m pt Ls st)) (kf : x = .null → B.G h cl sl (mkF m pf Ls st)) : B.G h cl sl (mkF m pc Ls (x :: st)) := by
  subst hpt hpf
  by_cases q : x = .null
  · exact B.via (fun T t X r => XT.nonnullNo X B.1 rfl (hb B.2.1 hd) rfl q r) (kf q)
  · exact B.via (fun T t X r => XT.nonnullYes X B.1 rfl rfl (hb B.2.1 hd) rfl hx' q ho rfl r) (kt q)
theorem Base.topI (B : Base p l e R s m args below meth c Z y bytes maxL ret h0 ws C) {x : Int32} (v : Int32) (q : x = v) (k : B.G h cl sl (mkF m pc Ls (.int v :: st))) : B.G h cl sl (mkF m pc Ls (.int x :: st)) := by subst q; exact k
theorem Base.topL (B : Base p l e R s m args below meth c Z y bytes maxL ret h0 ws C) {x : Int64} (v : Int64) (q : x = v) (k : B.G h cl sl (mkF m pc Ls (.long v :: st))) : B.G h cl sl (mkF m pc Ls (.long x :: st)) := by subst q; exact k
/-! 2. the ends -/
theorem Base.leave (B : Base p l e R s m args below meth c Z y bytes maxL ret h0 ws C) (hcl : cl ≤ R.cells) (hsl : sl ≤ R.slots) {v : Option Value} (hv : meth.sig.returnType = none → v = none) (hC : C v h)
    (st : ∀ (T : State) (locs : List Loc) (fs : List Frame), Stand p l e R s m args below meth c T locs cl sl → (∀ (f : JFrame) (acts : List Action), f.method = m → f.locked = none → f.entered = [] → (doReturn e (T.setTop f) acts v).1 = T.setFrames fs) → Steps p.tables e below (T.setTop g) (T.setFrames fs)) : B.G h cl sl g := fun T locs X N eT => by
  have hlk : meth.locks = false := B.2.2.2.2.2.2.1
  obtain ⟨fs, hr, hrun, hended, hW, hsame⟩ := X.leave (v := v) hv hlk
  have e0 := B.2.2.2.2.2.2.2.2
  refine ⟨_, _, st T locs fs X hr, hrun, hended, _, _, rfl, ⟨?_, N, ?_⟩, ⟨_, rfl⟩, hW, hsame.mono hcl hsl⟩
  · show C v T.heap
    rw [eT]; exact hC
  · show Keep h0 T.heap ws
    rw [← e0] at N ⊢
    exact keep_of X N
theorem Base.ret0 (B : Base p l e R s m args below meth c Z y bytes maxL none h0 ws C) (hd : decode bytes pc = .ok (.return_, 1)) (hcl : cl ≤ R.cells) (hsl : sl ≤ R.slots) (hC : C none h) : B.G h cl sl (mkF m pc Ls []) :=
  B.leave hcl hsl (fun _ => rfl) hC fun T locs fs X hr => X.returnOut B.1 B.2.2.2.2.2.1 (hb B.2.1 hd) hr
theorem Base.retI (B : Base p l e R s m args below meth c Z y bytes maxL (some .int) h0 ws C) {x : Int32} (hd : decode bytes pc = .ok (.ireturn, 1)) (hcl : cl ≤ R.cells) (hsl : sl ≤ R.slots) (hC : C (some (.int x)) h) : B.G h cl sl (mkF m pc Ls (.int x :: st)) :=
  B.leave hcl hsl (fun q => by rw [B.2.2.2.2.2.1] at q; cases q) hC fun T locs fs X hr => retOut X B.1 B.2.2.2.2.2.1 rfl (Or.inl ⟨rfl, Or.inl rfl, _, rfl⟩) (hb B.2.1 hd) hr
theorem Base.retL (B : Base p l e R s m args below meth c Z y bytes maxL (some .long) h0 ws C) {x : Int64} (hd : decode bytes pc = .ok (.lreturn, 1)) (hcl : cl ≤ R.cells) (hsl : sl ≤ R.slots) (hC : C (some (.long x)) h) : B.G h cl sl (mkF m pc Ls (.long x :: st)) :=
  B.leave hcl hsl (fun q => by rw [B.2.2.2.2.2.1] at q; cases q) hC fun T locs fs X hr => retOut X B.1 B.2.2.2.2.2.1 rfl (Or.inr (Or.inl ⟨rfl, rfl, _, rfl⟩)) (hb B.2.1 hd) hr
/-- a boolean, byte, char, short: what comes back is narrowed -/
theorem Base.retN {t : FieldType} (B : Base p l e R s m args below meth c Z y bytes maxL (some t) h0 ws C) {x : Int32} (ht : t = .boolean ∨ t = .byte ∨ t = .char ∨ t = .short) (hd : decode bytes pc = .ok (.ireturn, 1)) (hcl : cl ≤ R.cells) (hsl : sl ≤ R.slots) (hC : C (some (.int (nar t x))) h) : B.G h cl sl (mkF m pc Ls (.int x :: st)) :=
  B.leave hcl hsl (fun q => by rw [B.2.2.2.2.2.1] at q; cases q) hC fun T locs fs X hr => Jvm.RoadKit.retN X B.1 B.2.2.2.2.2.1 ht (hb B.2.1 hd) hr
theorem Base.retA {t : FieldType} (B : Base p l e R s m args below meth c Z y bytes maxL (some t) h0 ws C) {x : Value} (ht : t.isReference = true) (hx' : x.isRef = true) (hd : decode bytes pc = .ok (.areturn, 1)) (hcl : cl ≤ R.cells) (hsl : sl ≤ R.slots) (hC : C (some x) h) : B.G h cl sl (mkF m pc Ls (x :: st)) :=
  B.leave hcl hsl (fun q => by rw [B.2.2.2.2.2.1] at q; cases q) hC fun T locs fs X hr => retOut X B.1 B.2.2.2.2.2.1 (by rcases ref_cases hx' with rfl | ⟨a, rfl⟩ <;> cases t <;> simp_all [narrow, FieldType.isReference]) (Or.inr (Or.inr (Or.inr (Or.inr ⟨rfl, ht, hx'⟩)))) (hb B.2.1 hd) hr
/-! 3. the heap -/
theorem Base.size (B : Base p l e R s m args below meth c Z y bytes maxL ret h0 ws C) {T : State} {locs : List Loc} (X : Stand p l e R s m args below meth c T locs cl sl) : h0.size ≤ T.heap.size := by
  have q := X.same.2.1
  rw [B.2.2.2.2.2.2.2.2] at q; exact q
/-- the heap has only grown -/
theorem Base.grown (B : Base p l e R s m args below meth c Z y bytes maxL ret h0 ws C) (k : h0.size ≤ h.size → B.G h cl sl g) : B.G h cl sl g := fun T locs X N eT => k (by rw [← eT]; exact B.size X) T locs X N eT
theorem Base.getF (B : Base p l e R s m args below meth c Z y bytes maxL ret h0 ws C) (pc' : Nat) (hp : pc' = pc + 3) {i : Nat} {O n d : String} {a : Addr} {v : Value} (hd : decode bytes pc = .ok (.getfield i, 3)) (w : (Cond.fieldLink y.cls i O n d).before a0 Z = true) (F : Fld Z h a O n d v) (k : B.G h cl sl (mkF m pc' Ls (v :: st))) : B.G h cl sl (mkF m pc Ls (.ref a :: st)) := fun T locs X N eT => by
  subst hp
  obtain ⟨T', X', e', stp⟩ := Jvm.RoadKit.getF X B.1 B.2.2.2.1 B.2.2.2.2.1 (host := "") (Or.inl w) Via.refl eT F (g := mkF m pc Ls (.ref a :: st)) rfl rfl (hb B.2.1 hd)
  obtain ⟨t, o, q, r⟩ := k T' locs X' N e'
  exact ⟨t, o, stp _ q, r⟩
theorem Base.getS (B : Base p l e R s m args below meth c Z y bytes maxL ret h0 ws C) (pc' : Nat) (hp : pc' = pc + 3) {i : Nat} {O n d : String} {v : Value} (hd : decode bytes pc = .ok (.getstatic i, 3)) (w : (Cond.fieldLink y.cls i O n d).before a0 Z = true) (F : Sta Z h O n d v) (k : B.G h cl sl (mkF m pc' Ls (v :: st))) : B.G h cl sl (mkF m pc Ls st) := fun T locs X N eT => by
  subst hp
  obtain ⟨T', X', e', stp⟩ := Jvm.RoadKit.getS (host := "") X B.1 B.2.2.2.1 B.2.2.2.2.1 w Via.refl eT F (g := mkF m pc Ls st) rfl (hb B.2.1 hd)
  obtain ⟨t, o, q, r⟩ := k T' locs X' N e'
  exact ⟨t, o, stp _ q, r⟩
theorem Base.putF (B : Base p l e R s m args below meth c Z y bytes maxL ret h0 ws C) (pc' : Nat) (hp : pc' = pc + 3) {i kk : Nat} {O n d CC : String} {a : Addr} {v old : Value} {ty : FieldType} (hd : decode bytes pc = .ok (.putfield i, 3)) (w : (Cond.fieldLink y.cls i O n d).before a0 Z = true) (F : Fld Z h a O n d old) (E : Exa Z h a CC)
    (L : (Cond.lays CC O n d).before a0 Z = true ∨ ((Cond.laysFinal CC O n d).before a0 Z = true ∧ y.cls = O ∧ y.name = "<init>")) (wi : (Cond.instantiable CC kk).before a0 Z = true) (hty : parseFieldDescriptor d = some ty) (hn : narrow ty v = v) (hf : fits ty v = true) (hw : a ∈ ws ∨ h0.size ≤ a)
    (k : ∀ h', Wr h h' a (Jvm.RoadKit.slotOf Z O n d) v → B.G h' cl sl (mkF m pc' Ls st)) : B.G h cl sl (mkF m pc Ls (v :: .ref a :: st)) := fun T locs X N eT => by
  subst hp
  obtain ⟨T', h', X', e', W, stp⟩ := Jvm.RoadKit.putF X B.1 B.2.2.2.1 B.2.2.2.2.1 (host := "") (Or.inl w) Via.refl eT F E (L.imp id fun q => ⟨q.1, q.2.1, B.2.2.2.2.2.2.2.1.trans q.2.2⟩) wi hty hn hf (g := mkF m pc Ls (v :: .ref a :: st)) rfl rfl (hb B.2.1 hd)
  obtain ⟨t, o, q, r⟩ := k h' W T' _ X' (N.one hw) e'
  exact ⟨t, o, stp _ q, r⟩
theorem Base.newO (B : Base p l e R s m args below meth c Z y bytes maxL ret h0 ws C) (pc' : Nat) (hp : pc' = pc + 3) {i n : Nat} {CC : String} (hd : decode bytes pc = .ok (.new i, 3)) (w : (Cond.classLink y.cls i CC).before a0 Z = true) (wi : (Cond.instantiable CC n).before a0 Z = true) (wz : (Cond.initialized CC).before a0 Z = true) (hc : cl + 1 ≤ R.cells) (hs : sl + n ≤ R.slots)
    (k : ∀ h' a, a = h.size → h0.size ≤ a → Ext h h' → Exa Z h' a CC → (∀ {O nm d : String} {ty : FieldType}, Laid Z a0 CC O nm d → parseFieldDescriptor d = some ty → Fld Z h' a O nm d (defaultValue ty)) → B.G h' (cl + 1) (sl + n) (mkF m pc' Ls (.ref a :: st))) : B.G h cl sl (mkF m pc Ls st) := fun T locs X N eT => by
  subst hp
  obtain ⟨T', h', X', e', E, A, D, -, stp⟩ := Jvm.RoadKit.newO X B.1 B.2.2.2.1 B.2.2.2.2.1 w wi wz eT (g := mkF m pc Ls st) rfl (hb B.2.1 hd) hc hs
  obtain ⟨t, o, q, r⟩ := k h' _ rfl (by rw [← eT]; exact B.size X) E A D T' locs X' N e'
  exact ⟨t, o, stp _ q, r⟩
theorem Base.initO (B : Base p l e R s m args below meth c Z y bytes maxL ret h0 ws C) (pc' : Nat) (hp : pc' = pc + 3) {i : Nat} {a : Addr} (hd : decode bytes pc = .ok (.invokespecial i, 3)) (w1 : (Cond.methodLink y.cls i Lib.objectInit).before a0 Z = true) (w2 : (Cond.instanceMethod Lib.objectInit).before a0 Z = true) (w3 : (Cond.code Lib.objectInit ⟨#[0xb1]⟩ 1 none).before a0 Z = true)
    (hLs : Ls.size = maxL) (W : Nat) (hW : (st.map fun v => v.category).sum = W) (hf : 1 ≤ R.frames) (hl : W + 12 ≤ R.locals) (k : B.G h cl sl (mkF m pc' Ls st)) : B.G h cl sl (mkF m pc Ls (.ref a :: st)) := fun T locs X N eT => by
  subst hp
  obtain ⟨T', X', e', stp⟩ := Jvm.RoadKit.initO X B.1 B.2.2.2.1 B.2.2.2.2.1 w1 w2 w3 eT (g := mkF m pc Ls (.ref a :: st)) rfl (hLs.trans B.2.2.1.symm) rfl (hb B.2.1 hd) hf (W := W) (by show 2 * 0 + _ ≤ _; omega) hl
  obtain ⟨t, o, q, r⟩ := k T' locs X' N e'
  exact ⟨t, o, stp _ q, r⟩
/-! 4. calls -/
section Calls
variable {z : MethodName} {i : Nat} {cb : ByteArray} {cm : Nat} {cr : Option FieldType} {rm : Room} {as : Array Value} {ws' : List Addr} {C' : Option Value → Heap → Prop} {argsL rest : List Value} {ps : List FieldType} {rt : Option FieldType} {W : Nat}
theorem Base.callS (B : Base p l e R s m args below meth c Z y bytes maxL ret h0 ws C) (pc' : Nat) (hp : pc' = pc + 3) (hd : decode bytes pc = .ok (.invokestatic i, 3))
    (w1 : (Cond.methodLink y.cls i z).before a0 Z = true) (w2 : (Cond.static z).before a0 Z = true) (w3 : (Cond.initialized z.cls).before a0 Z = true) (w4 : (Cond.code z cb cm cr).before a0 Z = true)
    (hz : z.cls ≠ "java/lang/invoke/MethodHandle" ∧ z.cls ≠ "java/lang/invoke/VarHandle") (argsL rest : List Value) (M : Met l Z z cb cm cr [] rm as h ws' C') (has : argsL.toArray = as) (hst : st = argsL.reverse ++ rest) (hpd : parseMethodDescriptor z.desc = some ⟨ps, rt⟩) (hlen : argsL.length = ps.length) (hLs : Ls.size = maxL)
    (W : Nat) (hW : (rest.map fun v => v.category).sum = W) (hf : rm.frames + 1 ≤ R.frames) (hl : W + (cm + 11) + rm.locals ≤ R.locals) (hc : cl + rm.cells ≤ R.cells) (hs : sl + rm.slots ≤ R.slots) (hws : ∀ x ∈ ws', x ∈ ws ∨ h0.size ≤ x)
    (k : ∀ v h', Keep h h' ws' → C' v h' → B.G h' (cl + rm.cells) (sl + rm.slots) (mkF m pc' Ls (v.toList ++ rest))) : B.G h cl sl (mkF m pc Ls st) := fun T locs X N eT => by
  subst hp
  have hZ := B.2.2.2.1
  obtain ⟨v, _, ⟨T', L', k', n'⟩, -, X', ⟨Lc, hQ, l', y', z'⟩, stp⟩ := Jvm.LawKit.callS X B.1 (y := z) B.2.2.2.2.1 (mvT hZ w1) (mvT hZ w2) (mvT hZ w3) (mvT hZ w4) hz (backOf (W := W) M hZ w4 w3 hf hl) (g := mkF m pc Ls st) rfl (hLs.trans B.2.2.1.symm) (argsL := argsL) (rest := rest) (lenOf hpd hlen) hst (by show 2 * 0 + _ ≤ _; omega) (hb B.2.1 hd) (fun _ _ => ⟨has, eT, hc, hs⟩)
  dsimp only [Pt.U, Pt.locs, Pt.cells, Pt.slots] at X' l' y' z' stp hQ
  subst l' y' z'
  obtain ⟨hC, hN, hK⟩ := hQ
  obtain ⟨t, o, q, r⟩ := k v T'.heap hK hC T' _ X' (N.app fun u hu => (hN u hu).elim (fun q => hws _ q) fun q => Or.inr (Nat.le_trans (by rw [← eT]; exact B.size X) q)) rfl
  exact ⟨t, o, stp _ q, r⟩
theorem Base.callI (B : Base p l e R s m args below meth c Z y bytes maxL ret h0 ws C) (pc' : Nat) (hp : pc' = pc + 3) (hd : decode bytes pc = .ok (.invokespecial i, 3)) (hin : z.name = "<init>")
    (w1 : (Cond.methodLink y.cls i z).before a0 Z = true) (w2 : (Cond.instanceMethod z).before a0 Z = true) (w3 : (Cond.initialized z.cls).before a0 Z = true) (w4 : (Cond.code z cb cm none).before a0 Z = true)
    (hz : z.cls ≠ "java/lang/invoke/MethodHandle" ∧ z.cls ≠ "java/lang/invoke/VarHandle") {a : Addr} (argsL rest : List Value) (M : Met l Z z cb cm none [] rm as h ws' C') (has : (.ref a :: argsL).toArray = as) (hst : st = argsL.reverse ++ .ref a :: rest) (hpd : parseMethodDescriptor z.desc = some ⟨ps, rt⟩) (hlen : argsL.length = ps.length) (hLs : Ls.size = maxL)
    (W : Nat) (hW : (rest.map fun v => v.category).sum = W) (hf : rm.frames + 1 ≤ R.frames) (hl : W + (cm + 11) + rm.locals ≤ R.locals) (hc : cl + rm.cells ≤ R.cells) (hs : sl + rm.slots ≤ R.slots) (hws : ∀ x ∈ ws', x ∈ ws ∨ h0.size ≤ x)
    (k : ∀ v h', Keep h h' ws' → C' v h' → B.G h' (cl + rm.cells) (sl + rm.slots) (mkF m pc' Ls (v.toList ++ rest))) : B.G h cl sl (mkF m pc Ls st) := fun T locs X N eT => by
  subst hp
  have hZ := B.2.2.2.1
  obtain ⟨v, _, ⟨T', L', k', n'⟩, -, X', ⟨Lc, hQ, l', y', z'⟩, stp⟩ := X.specialBack B.1 (y := z) hin B.2.2.2.2.1 (mvT hZ w1) (mvT hZ w2) (mvT hZ w4) hz (backOf (W := W) M hZ w4 w3 hf hl) (g := mkF m pc Ls st) rfl (hLs.trans B.2.2.1.symm) (Steps.refl _) (a := a) (argsL := argsL) (rest := rest) (lenOf hpd hlen) hst (by show 2 * 0 + _ ≤ _; omega) (hb B.2.1 hd) (fun _ _ => ⟨has, eT, hc, hs⟩)
  dsimp only [Pt.U, Pt.locs, Pt.cells, Pt.slots] at X' l' y' z' stp hQ
  subst l' y' z'
  obtain ⟨hC, hN, hK⟩ := hQ
  obtain ⟨t, o, q, r⟩ := k v T'.heap hK hC T' _ X' (N.app fun u hu => (hN u hu).elim (fun q => hws _ q) fun q => Or.inr (Nat.le_trans (by rw [← eT]; exact B.size X) q)) rfl
  exact ⟨t, o, stp.trans q, r⟩
theorem Base.callV (B : Base p l e R s m args below meth c Z y bytes maxL ret h0 ws C) (pc' : Nat) (hp : pc' = pc + 3) (hd : decode bytes pc = .ok (.invokevirtual i, 3)) {CC : String}
    (w1 : (Cond.methodLink y.cls i z).before a0 Z = true) (w2 : (Cond.declares z).before a0 Z = true) (w5 : (Cond.selects CC z z).before a0 Z = true) (w6 : (Cond.instanceMethod z).before a0 Z = true) (w3 : (Cond.initialized z.cls).before a0 Z = true) (w4 : (Cond.code z cb cm cr).before a0 Z = true)
    (hz : z.cls ≠ "java/lang/invoke/MethodHandle" ∧ z.cls ≠ "java/lang/invoke/VarHandle") {a : Addr} (E : Exa Z h a CC) (argsL rest : List Value) (M : Met l Z z cb cm cr [] rm as h ws' C') (has : (.ref a :: argsL).toArray = as) (hst : st = argsL.reverse ++ .ref a :: rest) (hpd : parseMethodDescriptor z.desc = some ⟨ps, rt⟩) (hlen : argsL.length = ps.length) (hLs : Ls.size = maxL)
    (W : Nat) (hW : (rest.map fun v => v.category).sum = W) (hf : rm.frames + 1 ≤ R.frames) (hl : W + (cm + 11) + rm.locals ≤ R.locals) (hc : cl + rm.cells ≤ R.cells) (hs : sl + rm.slots ≤ R.slots) (hws : ∀ x ∈ ws', x ∈ ws ∨ h0.size ≤ x)
    (k : ∀ v h', Keep h h' ws' → C' v h' → B.G h' (cl + rm.cells) (sl + rm.slots) (mkF m pc' Ls (v.toList ++ rest))) : B.G h cl sl (mkF m pc Ls st) := fun T locs X N eT => by
  subst hp
  have hZ := B.2.2.2.1
  obtain ⟨cq, kq, qa, qb, qc⟩ := isOf hZ eT E
  obtain ⟨v, _, ⟨T', L', k', n'⟩, -, X', ⟨Lc, hQ, l', y', z'⟩, stp⟩ := X.virtualBack B.1 (y := z) (z := z) B.2.2.2.2.1 (mvT hZ w1) (mvT hZ w2) (notFace_of_selects (args := args) (mvT hZ w5)) (mvT hZ w5) (mvT hZ w6) hz (backOf (W := W) M hZ w4 w3 hf hl) qa qc (g := mkF m pc Ls st) rfl (hLs.trans B.2.2.1.symm) (Steps.refl _) (argsL := argsL) (rest := rest) (lenOf hpd hlen) hst (by show 2 * 0 + _ ≤ _; omega) (hb B.2.1 hd) (fun _ _ => ⟨has, eT, hc, hs⟩)
  dsimp only [Pt.U, Pt.locs, Pt.cells, Pt.slots] at X' l' y' z' stp hQ
  subst l' y' z'
  obtain ⟨hC, hN, hK⟩ := hQ
  obtain ⟨t, o, q, r⟩ := k v T'.heap hK hC T' _ X' (N.app fun u hu => (hN u hu).elim (fun q => hws _ q) fun q => Or.inr (Nat.le_trans (by rw [← eT]; exact B.size X) q)) rfl
  exact ⟨t, o, stp.trans q, r⟩
theorem Base.callVU (B : Base p l e R s m args below meth c Z y bytes maxL ret h0 ws C) (pc' : Nat) (hp : pc' = pc + 3) (hd : decode bytes pc = .ok (.invokevirtual i, 3)) {x : MethodName} {CC ow : String}
    (w1 : (Cond.methodLink y.cls i x).before a0 Z = true) (w0 : (Cond.sameMethod x.cls ow x.name x.desc).before a0 Z = true) (w2 : (Cond.declares ⟨ow, x.name, x.desc⟩).before a0 Z = true) (w5 : (Cond.selects CC x z).before a0 Z = true) (w6 : (Cond.instanceMethod z).before a0 Z = true) (w3 : (Cond.initialized z.cls).before a0 Z = true) (w4 : (Cond.code z cb cm cr).before a0 Z = true)
    (hz : ow ≠ "java/lang/invoke/MethodHandle" ∧ ow ≠ "java/lang/invoke/VarHandle") {a : Addr} (E : Exa Z h a CC) (argsL rest : List Value) (M : Met l Z z cb cm cr [] rm as h ws' C') (has : (.ref a :: argsL).toArray = as) (hst : st = argsL.reverse ++ .ref a :: rest) (hpd : parseMethodDescriptor x.desc = some ⟨ps, rt⟩) (hlen : argsL.length = ps.length) (hLs : Ls.size = maxL)
    (W : Nat) (hW : (rest.map fun v => v.category).sum = W) (hf : rm.frames + 1 ≤ R.frames) (hl : W + (cm + 11) + rm.locals ≤ R.locals) (hc : cl + rm.cells ≤ R.cells) (hs : sl + rm.slots ≤ R.slots) (hws : ∀ x ∈ ws', x ∈ ws ∨ h0.size ≤ x)
    (k : ∀ v h', Keep h h' ws' → C' v h' → B.G h' (cl + rm.cells) (sl + rm.slots) (mkF m pc' Ls (v.toList ++ rest))) : B.G h cl sl (mkF m pc Ls st) := fun T locs X N eT => by
  subst hp
  have hZ := B.2.2.2.1
  obtain ⟨cq, kq, qa, qb, qc⟩ := isOf hZ eT E
  obtain ⟨v, _, ⟨T', L', k', n'⟩, -, X', ⟨Lc, hQ, l', y', z'⟩, stp⟩ := X.virtualBackUp B.1 (x := x) (y := z) B.2.2.2.2.1 (mvT hZ w1) (mvT hZ w0) (mvT hZ w2) hz (mvT hZ w5) (mvT hZ w6) (backOf (W := W) M hZ w4 w3 hf hl) qa qc (g := mkF m pc Ls st) rfl (hLs.trans B.2.2.1.symm) (Steps.refl _) (argsL := argsL) (rest := rest) (lenOf hpd hlen) hst (by show 2 * 0 + _ ≤ _; omega) (hb B.2.1 hd) (fun _ _ => ⟨has, eT, hc, hs⟩)
  dsimp only [Pt.U, Pt.locs, Pt.cells, Pt.slots] at X' l' y' z' stp hQ
  subst l' y' z'
  obtain ⟨hC, hN, hK⟩ := hQ
  obtain ⟨t, o, q, r⟩ := k v T'.heap hK hC T' _ X' (N.app fun u hu => (hN u hu).elim (fun q => hws _ q) fun q => Or.inr (Nat.le_trans (by rw [← eT]; exact B.size X) q)) rfl
  exact ⟨t, o, stp.trans q, r⟩
theorem Base.callP (B : Base p l e R s m args below meth c Z y bytes maxL ret h0 ws C) (pc' : Nat) (hp : pc' = pc + 3) (hd : decode bytes pc = .ok (.invokevirtual i, 3)) {x : MethodName} {CC : String}
    (w1 : (Cond.methodLink y.cls i z).before a0 Z = true) (w7 : (Cond.privateMethod z).before a0 Z = true) (w6 : (Cond.instanceMethod z).before a0 Z = true) (w5 : (Cond.selects CC x x).before a0 Z = true) (hxc : x.cls = z.cls) (w3 : (Cond.initialized z.cls).before a0 Z = true) (w4 : (Cond.code z cb cm cr).before a0 Z = true)
    (hz : z.cls ≠ "java/lang/invoke/MethodHandle" ∧ z.cls ≠ "java/lang/invoke/VarHandle") {a : Addr} {CE : String} (E : Exa Z h a CE) (argsL rest : List Value) (M : Met l Z z cb cm cr [] rm as h ws' C') (has : (.ref a :: argsL).toArray = as) (hst : st = argsL.reverse ++ .ref a :: rest) (hpd : parseMethodDescriptor z.desc = some ⟨ps, rt⟩) (hlen : argsL.length = ps.length) (hLs : Ls.size = maxL)
    (W : Nat) (hW : (rest.map fun v => v.category).sum = W) (hf : rm.frames + 1 ≤ R.frames) (hl : W + (cm + 11) + rm.locals ≤ R.locals) (hc : cl + rm.cells ≤ R.cells) (hs : sl + rm.slots ≤ R.slots) (hws : ∀ x ∈ ws', x ∈ ws ∨ h0.size ≤ x)
    (k : ∀ v h', Keep h h' ws' → C' v h' → B.G h' (cl + rm.cells) (sl + rm.slots) (mkF m pc' Ls (v.toList ++ rest))) : B.G h cl sl (mkF m pc Ls st) := fun T locs X N eT => by
  subst hp
  have hZ := B.2.2.2.1
  obtain ⟨cq, q1, q2⟩ := E.cell
  have hpr : s.PrivateAt z := Cond.privateMethod_at (mvP hZ w7 (args := args))
  have hi : (Cond.instanceMethod z).before args s = true := mvT hZ w6
  have hsel : (Cond.selects z.cls z z).before args s = true := by
    obtain ⟨c2, r2, m2, -, -, q3, -, kP, hkP, hkPi⟩ := Cond.selects_spec (mvT hZ w5 (args := args))
    have hc2 := findClass_of_methodNamed q3
    rw [hxc] at hc2
    exact selects_self_of_private hc2 hkP hkPi hpr hi hz
  obtain ⟨v, _, ⟨T', L', k', n'⟩, -, X', ⟨Lc, hQ, l', y', z'⟩, stp⟩ := X.privateBack B.1 (y := z) B.2.2.2.2.1 (mvT hZ w1) hi hsel hpr (mvT hZ w4) hz (backOf (W := W) M hZ w4 w3 hf hl) (g := mkF m pc Ls st) rfl (hLs.trans B.2.2.1.symm) (Steps.refl _) (a := a) (by rw [eT]; exact q1) q2 (argsL := argsL) (rest := rest) (lenOf hpd hlen) hst (by show 2 * 0 + _ ≤ _; omega) (hb B.2.1 hd) (fun _ _ => ⟨has, eT, hc, hs⟩)
  dsimp only [Pt.U, Pt.locs, Pt.cells, Pt.slots] at X' l' y' z' stp hQ
  subst l' y' z'
  obtain ⟨hC, hN, hK⟩ := hQ
  obtain ⟨t, o, q, r⟩ := k v T'.heap hK hC T' _ X' (N.app fun u hu => (hN u hu).elim (fun q => hws _ q) fun q => Or.inr (Nat.le_trans (by rw [← eT]; exact B.size X) q)) rfl
  exact ⟨t, o, stp.trans q, r⟩
end Calls
/-- where nothing old is written, all that stood at the start stands -/
theorem Base.olds (B : Base p l e R s m args below meth c Z y bytes maxL ret h0 [] C) (k : Ext h0 h → B.G h cl sl g) : B.G h cl sl g := fun T locs X N eT => by
  refine k ?_ T locs X N eT
  have e0 := B.2.2.2.2.2.2.2.2
  have N' := N
  rw [← e0] at N'
  have q := keep_of X N'
  rw [e0, eT] at q
  exact ⟨q.1, fun a c hc => q.2.1 a c hc (by simp)⟩
end Walk
/-! 3b. arrays: 'Ary': the array at a holds just the list vs -/
def Ary (Z : State) (h : Heap) (a : Addr) (ty : FieldType) (vs : List Value) : Prop := ∃ c : Cell, Arr Z h a c ty ∧ c.slots.toList = vs
section Arrays
variable {p : Program} {l : Launch} {e : Env} {R : Room} {s : State} {m : MethodId} {args : Array Value} {below : List Frame} {meth : Method} {c : Code} {Z : State} {a0 : Array Value} {y : MethodName} {bytes : ByteArray} {maxL : Nat} {ret : Option FieldType} {h0 : Heap} {ws : List Addr} {C : Option Value → Heap → Prop}
variable {h h' : Heap} {cl sl : Nat} {g g' : JFrame} {pc : Nat} {Ls : Array Slot} {st : List Value} {a b : Addr} {ty : FieldType} {vs : List Value} {j : Int32} {i : Nat} {v w : Value} {wl : List Addr}
theorem Ary.lt (A : Ary Z h a ty vs) : a < h.size := by obtain ⟨c, A, -⟩ := A; exact A.lt
theorem Ary.ext (A : Ary Z h a ty vs) (E : Ext h h') : Ary Z h' a ty vs := by obtain ⟨c, A, r⟩ := A; exact ⟨c, A.ext E, r⟩
theorem Ary.other (A : Ary Z h b ty vs) (W : Wr h h' a i v) (q : b ≠ a) : Ary Z h' b ty vs := by obtain ⟨c, A, r⟩ := A; exact ⟨c, A.other W q, r⟩
theorem Ary.keep (A : Ary Z h a ty vs) (K : Keep h h' wl) (q : a ∉ wl) : Ary Z h' a ty vs := by obtain ⟨c, A, r⟩ := A; exact ⟨c, ⟨K.2.1 a c A.1 q, A.2⟩, r⟩
theorem Ary.set (A : Ary Z h a ty vs) (W : Wr h h' a i v) : Ary Z h' a ty (vs.set i v) := by
  obtain ⟨c, A, rfl⟩ := A
  exact ⟨_, A.same W, by simp [Cell.setSlot]⟩
theorem Ary.new {cA : ClassId} {n : Int32} (A : Arr Z h a (newA cA ty n) ty) : Ary Z h a ty (List.replicate n.toNatClampNeg (defaultValue ty)) := ⟨_, A, by simp [newA]⟩
theorem ary_in {c : Cell} (r : c.slots.toList = vs) (hj : ¬ j < 0) (hi : j.toNatClampNeg = i) (hv : vs[i]? = some v) : ¬ (j < 0 ∨ c.slots.size ≤ j.toNatClampNeg) ∧ c.slots[j.toNatClampNeg]? = some v := by
  subst r hi
  rw [Array.getElem?_toList] at hv
  exact ⟨fun q => q.elim hj fun q => absurd (Array.getElem?_eq_some_iff.mp hv).1 (Nat.not_lt.mpr q), hv⟩
theorem ary_lt {c : Cell} (r : c.slots.toList = vs) (hj : ¬ j < 0) (hi : j.toNatClampNeg = i) (hv : i < vs.length) : ¬ (j < 0 ∨ c.slots.size ≤ j.toNatClampNeg) := by
  subst r hi
  rw [Array.length_toList] at hv
  exact fun q => q.elim hj fun q => absurd hv (Nat.not_lt.mpr q)
theorem Base.arrlen (B : Base p l e R s m args below meth c Z y bytes maxL ret h0 ws C) (pc' : Nat) (hp : pc' = pc + 1) (hd : decode bytes pc = .ok (.arraylength, 1)) (A : Ary Z h a ty vs) (n : Int32) (hn : vs.length.toInt32 = n) (k : B.G h cl sl (mkF m pc' Ls (.int n :: st))) : B.G h cl sl (mkF m pc Ls (.ref a :: st)) := by
  subst hp hn
  obtain ⟨c1, A, rfl⟩ := A
  rw [Array.length_toList] at k
  exact B.viaX (fun T t L X eT r => X.arraylength (g := mkF m pc Ls (.ref a :: st)) B.1 (by rw [eT]; exact A.1) (State.isArrayOf_alike (T := s) B.2.2.2.1.alike A.2.1) rfl rfl (hb B.2.1 hd) t r) k
theorem Base.baload (B : Base p l e R s m args below meth c Z y bytes maxL ret h0 ws C) (pc' : Nat) (hp : pc' = pc + 1) (hd : decode bytes pc = .ok (.baload, 1)) (A : Ary Z h a .byte vs) (hj : ¬ j < 0) (i : Nat) (hi : j.toNatClampNeg = i) (v : Value) (hv : vs[i]? = some v) (k : B.G h cl sl (mkF m pc' Ls (v :: st))) : B.G h cl sl (mkF m pc Ls (.int j :: .ref a :: st)) := by
  subst hp
  obtain ⟨c1, A, r⟩ := A
  obtain ⟨q1, q2⟩ := ary_in r hj hi hv
  exact B.viaX (fun T t L X eT r => X.baloadBytes (g := mkF m pc Ls (.int j :: .ref a :: st)) B.1 (by rw [eT]; exact A.1) (State.isArrayOf_alike (T := s) B.2.2.2.1.alike A.2.1) A.2.2 q1 q2 rfl rfl (hb B.2.1 hd) t r) k
theorem Base.iaload (B : Base p l e R s m args below meth c Z y bytes maxL ret h0 ws C) (pc' : Nat) (hp : pc' = pc + 1) (hd : decode bytes pc = .ok (.iaload, 1)) (A : Ary Z h a .int vs) (hj : ¬ j < 0) (i : Nat) (hi : j.toNatClampNeg = i) (v : Value) (hv : vs[i]? = some v) (k : B.G h cl sl (mkF m pc' Ls (v :: st))) : B.G h cl sl (mkF m pc Ls (.int j :: .ref a :: st)) := by
  subst hp
  obtain ⟨c1, A, r⟩ := A
  obtain ⟨q1, q2⟩ := ary_in r hj hi hv
  exact B.viaX (fun T t L X eT r => X.iaload (g := mkF m pc Ls (.int j :: .ref a :: st)) B.1 (by rw [eT]; exact A.1) (State.isArrayOf_alike (T := s) B.2.2.2.1.alike A.2.1) A.2.2 q1 q2 rfl rfl (hb B.2.1 hd) t r) k
theorem Base.laload (B : Base p l e R s m args below meth c Z y bytes maxL ret h0 ws C) (pc' : Nat) (hp : pc' = pc + 1) (hd : decode bytes pc = .ok (.laload, 1)) (A : Ary Z h a .long vs) (hj : ¬ j < 0) (i : Nat) (hi : j.toNatClampNeg = i) (v : Value) (hv : vs[i]? = some v) (k : B.G h cl sl (mkF m pc' Ls (v :: st))) : B.G h cl sl (mkF m pc Ls (.int j :: .ref a :: st)) := by
  subst hp
  obtain ⟨c1, A, r⟩ := A
  obtain ⟨q1, q2⟩ := ary_in r hj hi hv
  exact B.viaX (fun T t L X eT r => X.laload (g := mkF m pc Ls (.int j :: .ref a :: st)) B.1 (by rw [eT]; exact A.1) (State.isArrayOf_alike (T := s) B.2.2.2.1.alike A.2.1) A.2.2 q1 q2 rfl rfl (hb B.2.1 hd) t r) k
theorem Base.newP (B : Base p l e R s m args below meth c Z y bytes maxL ret h0 ws C) (pc' : Nat) (hp : pc' = pc + 2) {aty : ArrayType} (hd : decode bytes pc = .ok (.newarray aty, 2)) (w : (Cond.arrayClass (newarray.typeOf aty)).before a0 Z = true) {n : Int32} (hn : ¬ n < 0) (cap : Nat) (hcap : n.toNatClampNeg ≤ cap) (hb' : cap * 8 ≤ 536870912) (hc : cl + 1 ≤ R.cells) (hs : sl + cap ≤ R.slots)
    (k : ∀ h' a, a = h.size → h0.size ≤ a → Ext h h' → Ary Z h' a (newarray.typeOf aty) (List.replicate n.toNatClampNeg (defaultValue (newarray.typeOf aty))) → B.G h' (cl + 1) (sl + cap) (mkF m pc' Ls (.ref a :: st))) : B.G h cl sl (mkF m pc Ls (.int n :: st)) := fun T locs X N eT => by
  subst hp
  obtain ⟨T', h', cA, X', e', E, A, stp⟩ := Jvm.RoadKit.newP X B.1 B.2.2.2.1 w eT (g := mkF m pc Ls (.int n :: st)) rfl (hb B.2.1 hd) rfl hn hcap hb' hc hs
  obtain ⟨t, o, q, r⟩ := k h' _ rfl (by rw [← eT]; exact B.size X) E (Ary.new A) T' locs X' N e'
  exact ⟨t, o, stp _ q, r⟩
theorem Base.bastore (B : Base p l e R s m args below meth c Z y bytes maxL ret h0 ws C) (pc' : Nat) (hp : pc' = pc + 1) (hd : decode bytes pc = .ok (.bastore, 1)) (A : Ary Z h a .byte vs) (hj : ¬ j < 0) (i : Nat) (hi : j.toNatClampNeg = i) (hlt : i < vs.length) (hw : a ∈ ws ∨ h0.size ≤ a) {x : Int32} (k : ∀ h', Wr h h' a i (.int x.toInt8.toInt32) → Ary Z h' a .byte (vs.set i (.int x.toInt8.toInt32)) → B.G h' cl sl (mkF m pc' Ls st)) : B.G h cl sl (mkF m pc Ls (.int x :: .int j :: .ref a :: st)) := fun T locs X N eT => by
  subst hp
  obtain ⟨c1, A1, r1⟩ := A
  obtain ⟨T', h', X', e', W, stp⟩ := stB X B.1 B.2.2.2.1 eT A1 (ary_lt r1 hj hi hlt) (g := mkF m pc Ls (.int x :: .int j :: .ref a :: st)) rfl rfl (hb B.2.1 hd)
  rw [hi] at W
  obtain ⟨t, o, q, r⟩ := k h' W (Ary.set ⟨c1, A1, r1⟩ W) T' _ X' (N.one hw) e'
  exact ⟨t, o, stp _ q, r⟩
theorem Base.iastore (B : Base p l e R s m args below meth c Z y bytes maxL ret h0 ws C) (pc' : Nat) (hp : pc' = pc + 1) (hd : decode bytes pc = .ok (.iastore, 1)) (A : Ary Z h a .int vs) (hj : ¬ j < 0) (i : Nat) (hi : j.toNatClampNeg = i) (hlt : i < vs.length) (hw : a ∈ ws ∨ h0.size ≤ a) {x : Int32} (k : ∀ h', Wr h h' a i (.int x) → Ary Z h' a .int (vs.set i (.int x)) → B.G h' cl sl (mkF m pc' Ls st)) : B.G h cl sl (mkF m pc Ls (.int x :: .int j :: .ref a :: st)) := fun T locs X N eT => by
  subst hp
  obtain ⟨c1, A1, r1⟩ := A
  obtain ⟨T', h', X', e', W, stp⟩ := stI X B.1 B.2.2.2.1 eT A1 (ary_lt r1 hj hi hlt) (g := mkF m pc Ls (.int x :: .int j :: .ref a :: st)) rfl rfl (hb B.2.1 hd)
  rw [hi] at W
  obtain ⟨t, o, q, r⟩ := k h' W (Ary.set ⟨c1, A1, r1⟩ W) T' _ X' (N.one hw) e'
  exact ⟨t, o, stp _ q, r⟩
theorem Base.lastore (B : Base p l e R s m args below meth c Z y bytes maxL ret h0 ws C) (pc' : Nat) (hp : pc' = pc + 1) (hd : decode bytes pc = .ok (.lastore, 1)) (A : Ary Z h a .long vs) (hj : ¬ j < 0) (i : Nat) (hi : j.toNatClampNeg = i) (hlt : i < vs.length) (hw : a ∈ ws ∨ h0.size ≤ a) {x : Int64} (k : ∀ h', Wr h h' a i (.long x) → Ary Z h' a .long (vs.set i (.long x)) → B.G h' cl sl (mkF m pc' Ls st)) : B.G h cl sl (mkF m pc Ls (.long x :: .int j :: .ref a :: st)) := fun T locs X N eT => by
  subst hp
  obtain ⟨c1, A1, r1⟩ := A
  obtain ⟨T', h', X', e', W, stp⟩ := stJ X B.1 B.2.2.2.1 eT A1 (ary_lt r1 hj hi hlt) (g := mkF m pc Ls (.long x :: .int j :: .ref a :: st)) rfl rfl (hb B.2.1 hd)
  rw [hi] at W
  obtain ⟨t, o, q, r⟩ := k h' W (Ary.set ⟨c1, A1, r1⟩ W) T' _ X' (N.one hw) e'
  exact ⟨t, o, stp _ q, r⟩
theorem Base.newPE (B : Base p l e R s m args below meth c Z y bytes maxL ret h0 ws C) (pc' : Nat) (hp : pc' = pc + 2) {aty : ArrayType} (hd : decode bytes pc = .ok (.newarray aty, 2)) (w : (Cond.arrayClass (newarray.typeOf aty)).before a0 Z = true) {n : Int32} (hn : ¬ n < 0) (cap : Nat) (hcap : n.toNatClampNeg ≤ cap) (hb' : cap * 8 ≤ 536870912) (hc : cl + 1 ≤ R.cells) (hs : sl + cap ≤ R.slots) (ad : String) (had : "[" ++ (newarray.typeOf aty).toString = ad)
    (k : ∀ h' a, a = h.size → h0.size ≤ a → Ext h h' → Ary Z h' a (newarray.typeOf aty) (List.replicate n.toNatClampNeg (defaultValue (newarray.typeOf aty))) → Exa Z h' a ad → B.G h' (cl + 1) (sl + cap) (mkF m pc' Ls (.ref a :: st))) : B.G h cl sl (mkF m pc Ls (.int n :: st)) := fun T locs X N eT => by
  subst hp
  obtain ⟨T', h', cA, X', e', E, A, A2, stp⟩ := Jvm.RoadKit.newPE X B.1 B.2.2.2.1 w eT (g := mkF m pc Ls (.int n :: st)) rfl (hb B.2.1 hd) rfl hn hcap hb' hc hs had
  obtain ⟨t, o, q, r⟩ := k h' _ rfl (by rw [← eT]; exact B.size X) E (Ary.new A) A2 T' locs X' N e'
  exact ⟨t, o, stp _ q, r⟩
theorem Base.clone (B : Base p l e R s m args below meth c Z y bytes maxL ret h0 ws C) (pc' : Nat) (hp : pc' = pc + 3) {ix : Nat} {ad : String} (hd : decode bytes pc = .ok (.invokevirtual ix, 3))
    (w1 : (Cond.methodLink y.cls ix ⟨ad, "clone", "()Ljava/lang/Object;"⟩).before a0 Z = true) (w2 : (Cond.sameMethod ad "java/lang/Object" "clone" "()Ljava/lang/Object;").before a0 Z = true) (w3 : (Cond.native ⟨"java/lang/Object", "clone", "()Ljava/lang/Object;"⟩).before a0 Z = true)
    (w4 : (Cond.instanceMethod ⟨"java/lang/Object", "clone", "()Ljava/lang/Object;"⟩).before a0 Z = true) (w5 : (Cond.selects ad ⟨ad, "clone", "()Ljava/lang/Object;"⟩ ⟨"java/lang/Object", "clone", "()Ljava/lang/Object;"⟩).before a0 Z = true) (w6 : (Cond.castable ad "java/lang/Cloneable").before a0 Z = true)
    (A : Ary Z h a ty vs) (E : Exa Z h a ad) (hfit : ∀ v ∈ vs, fits ty v = true) (hLs : Ls.size = maxL) (W : Nat) (hW : (st.map fun v => v.category).sum = W) (hf : 1 ≤ R.frames) (hl : W + 14 ≤ R.locals) (cap : Nat) (hcap : vs.length ≤ cap) (hc : cl + 1 ≤ R.cells) (hs : sl + cap ≤ R.slots)
    (k : ∀ h' b, b = h.size → h0.size ≤ b → Ext h h' → Ary Z h' b ty vs → Exa Z h' b ad → B.G h' (cl + 1) (sl + cap) (mkF m pc' Ls (.ref b :: st))) : B.G h cl sl (mkF m pc Ls (.ref a :: st)) := fun T locs X N eT => by
  subst hp
  obtain ⟨c1, A1, r1⟩ := A
  have FC : FitC Z c1 := fitC_of A1 fun i hi v hv => hfit v (by rw [← r1]; exact Array.mem_toList_iff.mpr (Array.mem_of_getElem? hv))
  obtain ⟨T', h', X', e', ex, A', E', stp⟩ := cloneA X B.1 B.2.2.2.1 B.2.2.2.2.1 w1 w2 w3 w4 w5 w6 eT A1 E FC (g := mkF m pc Ls (.ref a :: st)) rfl (hLs.trans B.2.2.1.symm) rfl (hb B.2.1 hd) hf (W := W) (cap := cap) (by show 2 * 0 + _ ≤ _; omega) hl (by rw [← r1, Array.length_toList] at hcap; exact hcap) hc hs
  obtain ⟨t, o, q, r⟩ := k h' _ rfl (by rw [← eT]; exact B.size X) ex ⟨_, A', r1⟩ E' T' locs X' N e'
  exact ⟨t, o, stp _ q, r⟩
theorem Base.castY (B : Base p l e R s m args below meth c Z y bytes maxL ret h0 ws C) (pc' : Nat) (hp : pc' = pc + 3) {ix : Nat} {K : String} (hd : decode bytes pc = .ok (.checkcast ix, 3)) (w : (Cond.classLink y.cls ix K).before a0 Z = true) (F : Ins Z h a K true) (k : B.G h cl sl (mkF m pc' Ls (.ref a :: st))) : B.G h cl sl (mkF m pc Ls (.ref a :: st)) := fun T locs X N eT => by
  subst hp
  obtain ⟨T', X', e', stp⟩ := Jvm.RoadKit.castY X B.1 B.2.2.2.1 B.2.2.2.2.1 w eT F (g := mkF m pc Ls (.ref a :: st)) rfl rfl (hb B.2.1 hd)
  obtain ⟨t, o, q, r⟩ := k T' locs X' N e'
  exact ⟨t, o, stp _ q, r⟩
theorem Base.instY (B : Base p l e R s m args below meth c Z y bytes maxL ret h0 ws C) (pc' : Nat) (hp : pc' = pc + 3) {ix : Nat} {K : String} (hd : decode bytes pc = .ok (.instanceof ix, 3)) (w : (Cond.classLink y.cls ix K).before a0 Z = true) (F : Ins Z h a K true) (k : B.G h cl sl (mkF m pc' Ls (.int 1 :: st))) : B.G h cl sl (mkF m pc Ls (.ref a :: st)) := fun T locs X N eT => by
  subst hp
  obtain ⟨T', X', e', stp⟩ := Jvm.RoadKit.instY X B.1 B.2.2.2.1 B.2.2.2.2.1 w eT F (g := mkF m pc Ls (.ref a :: st)) rfl rfl (hb B.2.1 hd)
  obtain ⟨t, o, q, r⟩ := k T' locs X' N e'
  exact ⟨t, o, stp _ q, r⟩
theorem Base.instN (B : Base p l e R s m args below meth c Z y bytes maxL ret h0 ws C) (pc' : Nat) (hp : pc' = pc + 3) {ix : Nat} {K CC : String} (hd : decode bytes pc = .ok (.instanceof ix, 3)) (w : (Cond.classLink y.cls ix K).before a0 Z = true) (E : Exa Z h a CC) (F : ∃ c t, Z.vm.findClass CC = some c ∧ Z.vm.findClass K = some t ∧ Z.vm.assignable c t = false) (k : B.G h cl sl (mkF m pc' Ls (.int 0 :: st))) : B.G h cl sl (mkF m pc Ls (.ref a :: st)) := fun T locs X N eT => by
  subst hp
  obtain ⟨T', X', e', stp⟩ := instNo X B.1 B.2.2.2.1 B.2.2.2.2.1 w eT E F (g := mkF m pc Ls (.ref a :: st)) rfl rfl (hb B.2.1 hd)
  obtain ⟨t, o, q, r⟩ := k T' locs X' N e'
  exact ⟨t, o, stp _ q, r⟩
theorem Base.inst0 (B : Base p l e R s m args below meth c Z y bytes maxL ret h0 ws C) (pc' : Nat) (hp : pc' = pc + 3) {ix : Nat} (hd : decode bytes pc = .ok (.instanceof ix, 3)) (k : B.G h cl sl (mkF m pc' Ls (.int 0 :: st))) : B.G h cl sl (mkF m pc Ls (.null :: st)) := by
  subst hp
  exact B.viaX (fun T t L X eT r => X.instanceofNull B.1 (g := mkF m pc Ls (.null :: st)) rfl rfl (hb B.2.1 hd) t r) k
theorem Base.aaload (B : Base p l e R s m args below meth c Z y bytes maxL ret h0 ws C) (pc' : Nat) (hp : pc' = pc + 1) (hd : decode bytes pc = .ok (.aaload, 1)) (A : Ary Z h a ty vs) (hty : ty.isReference = true) (hj : ¬ j < 0) (i : Nat) (hi : j.toNatClampNeg = i) (v : Value) (hv : vs[i]? = some v) (k : B.G h cl sl (mkF m pc' Ls (v :: st))) : B.G h cl sl (mkF m pc Ls (.int j :: .ref a :: st)) := by
  subst hp
  obtain ⟨c1, A, r⟩ := A
  obtain ⟨q1, q2⟩ := ary_in r hj hi hv
  exact B.viaX (fun T t L X eT r => X.aaload (g := mkF m pc Ls (.int j :: .ref a :: st)) B.1 (by rw [eT]; exact A.1) (State.isArrayOf_alike (T := s) B.2.2.2.1.alike A.2.1) hty A.2.2 q1 q2 rfl rfl (hb B.2.1 hd) t r) k
theorem ns_root {O K : String} {n : Nat} (w : (Cond.noSuperclass O).before a0 Z = true) (wk : (Cond.instantiable K n).before a0 Z = true) (hn : O ≠ K) : NS Z O K := by
  obtain ⟨c, k, h1, h2, h3, -, -⟩ := Cond.noSuperclass_spec w
  obtain ⟨t, -, g1, -⟩ := Cond.instantiable_spec wk
  have ne := ids_ne h1 g1 hn
  refine ⟨c, t, h1, g1, fun fuel => ?_⟩
  cases fuel with
  | zero => rfl
  | succ f => simp [Vm.isSubclassAux, ne, h2, h3]
theorem ns_no {CC K : String} {n n' : Nat} (w : (Cond.instantiable CC n').before a0 Z = true) (wk : (Cond.instantiable K n).before a0 Z = true) (q : NS Z CC K) (hn : CC ≠ K) : ∃ c t, Z.vm.findClass CC = some c ∧ Z.vm.findClass K = some t ∧ Z.vm.assignable c t = false := by
  obtain ⟨c, t, h0, g0, n3⟩ := q
  obtain ⟨c1, k, h1, h2, h5, -⟩ := Cond.instantiable_spec w
  obtain ⟨t1, k', g1, g2, g5, g7, -⟩ := Cond.instantiable_spec wk
  cases h0.symm.trans h1
  cases g0.symm.trans g1
  have ne := ids_ne h0 g0 hn
  have g8 : k'.isInterface = false := by simp only [Bool.or_eq_false_iff] at g7; exact g7.1
  refine ⟨c, t, h0, g0, ?_⟩
  show Z.vm.assignableAux (255 + 1) c t = false
  simp [Vm.assignableAux, ne, h2, g2, h5, g5, g8, Vm.isSubclass, n3]
end Arrays
/-! 5. the words -/
theorem wd {L : List Jvm.Cond} {a0 : Array Value} {Z : State} (hw : ∀ d ∈ L, d.before a0 Z = true) (i : Nat) {d : Jvm.Cond} (q : L[i]? = some d) : d.before a0 Z = true := hw d (List.mem_of_getElem? q)
/-! 6. from the words of a case -/
theorem fld_start {args : Array Value} {s : State} {t : Term} {a : Addr} {O n d : String} {z : Int32} (ht : t.eval args s none [] s = some (.ref a)) (q : (Cond.eq (.field t O n d) (.int z)).value args s none s [] = some true) : Fld s s.heap a O n d (.int z) :=
  Fld.start ((fld_at ht).symm.trans (eqv_i rfl q))
theorem eval_int {args : Array Value} {s : State} {u w : Term} {z : Int32} (q : (Cond.eq u w).value args s none s [] = some true) (hw : w.eval args s none [] s = some (.int z)) : u.eval args s none [] s = some (.int z) := by
  cases hv : u.eval args s none [] s with
  | none => simp [Cond.value, hv] at q
  | some v =>
    cases v <;> simp [Cond.value, hv, hw] at q
    subst q; rfl
theorem eval_ref {args : Array Value} {s : State} {u w : Term} {z : Addr} (q : (Cond.eq u w).value args s none s [] = some true) (hw : w.eval args s none [] s = some (.ref z)) : u.eval args s none [] s = some (.ref z) := by
  cases hv : u.eval args s none [] s with
  | none => simp [Cond.value, hv] at q
  | some v =>
    cases v <;> simp [Cond.value, hv, hw] at q
    subst q; rfl
/-- an array of the start, of known length and places -/
theorem ary_start {args : Array Value} {s : State} {t : Term} {a : Addr} {ty : FieldType} {vs : List Value} {n : Int32} (ht : t.eval args s none [] s = some (.ref a)) (hA : (Cond.arrayOf t ty).value args s none s [] = some true)
    (hl : (Cond.eq (.length t) (.int n)).value args s none s [] = some true) (hn : n.toNatClampNeg = vs.length) (hn0 : ¬ n < 0) (he : ∀ i, i < vs.length → ∃ v, vs[i]? = some v ∧ (Term.elem t (.int (Int32.ofNat i))).eval args s none [] s = some v) : Ary s s.heap a ty vs := by
  obtain ⟨c, A⟩ := Arr.start ht hA
  have e1 := eval_int hl rfl
  simp only [Term.eval, ht, Option.bind_eq_bind, Option.bind_some] at e1
  have hat : s.arrayAt? a = some c := A.fin (Vm.Alike.refl _)
  rw [hat] at e1
  simp only [Option.bind_some] at e1
  split at e1
  · rename_i hs
    simp only [Option.pure_def, Option.some.injEq, Value.int.injEq] at e1
    have hsz : c.slots.size = vs.length := by
      rw [← hn, ← e1]
      have := len_toInt hs
      simp only [Int32.toNatClampNeg, this]; omega
    refine ⟨c, A, ?_⟩
    apply List.ext_getElem?
    intro i
    by_cases hi : i < vs.length
    · obtain ⟨v, q1, q2⟩ := he i hi
      obtain ⟨cell, r1, -, r3⟩ := elem_at q2 ht rfl
      cases A.1.symm.trans r1
      have : (Int32.ofNat i).toNatClampNeg = i := by
        have := Int32.toInt_ofNat_small (show i < 2 ^ 31 by omega)
        simp only [Int32.toNatClampNeg, this]; omega
      rw [this] at r3
      rw [q1, Array.getElem?_toList]; exact r3
    · rw [List.getElem?_eq_none (by rw [Array.length_toList, hsz]; omega), List.getElem?_eq_none (by omega)]
  · simp at e1
end Jvm.Own
namespace Jvm.Pilot.@@N@@
open Jvm Jvm.ClassFile Sem Op Lib Jvm.Free Jvm.Stand Jvm.LawKit Jvm.RoadKit Jvm.Own Bundle Jvm.Pilot.@@N@@.Jvm.D
theorem pd__III_I : parseMethodDescriptor "(III)I" = some ⟨[.int, .int, .int], some .int⟩ := by decide +kernel
theorem pd__II_I : parseMethodDescriptor "(II)I" = some ⟨[.int, .int], some .int⟩ := by decide +kernel
theorem pd___II_Z : parseMethodDescriptor "([II)Z" = some ⟨[(.array .int), .int], some .boolean⟩ := by decide +kernel
theorem own_min (x y : Int32) : (if y < x then y else x).toInt = min x.toInt y.toInt := by
  split <;> (rename_i q; rw [Int32.lt_iff_toInt_lt] at q; omega)
theorem own_s (p k : Int32) : 0 ≤ (XT.ushr (p &&& 2147483647) (k &&& 31)).toInt := by
  have h1 := (c_andS p 2147483647).2.2 (by decide)
  have hk : ((k &&& 31) &&& 31).toUInt32.toNat < 32 := by
    show (((k &&& 31) &&& 31).toBitVec).toNat < 32
    simp only [Int32.toBitVec_and, BitVec.toNat_and]
    exact Nat.lt_of_le_of_lt Nat.and_le_right (by decide)
  have := Jvm.Kit.i32_iushr (x := p &&& 2147483647) (by rw [Int32.le_iff_toInt_le]; simpa using h1) (n := ((k &&& 31) &&& 31).toUInt32) rfl hk
  show 0 ≤ (((p &&& 2147483647).toUInt32 >>> ((k &&& 31) &&& 31).toUInt32).toInt32).toInt
  rw [this]
  exact Int.ediv_nonneg h1 (by exact_mod_cast Nat.zero_le _)
theorem own_r (k : Int32) : XT.ushr k 5 &&& 3 = 0 ∨ XT.ushr k 5 &&& 3 = 1 ∨ XT.ushr k 5 &&& 3 = 2 ∨ XT.ushr k 5 &&& 3 = 3 := by
  have h : (XT.ushr k 5 &&& 3).toInt = (XT.ushr k 5).toInt % 2 ^ 2 := Jvm.Kit.i32_mask _ 3 (k := 2) (by decide) (by decide)
  simp only [← Int32.toInt_inj, Int32.reduceToInt]
  omega
def own_pick (s d t : Int32) : Int32 := if t = 0 then (d &&& 2147483647) % (s + 1) else if 0 < s - (d &&& 3) then s - (d &&& 3) else 0
theorem own_pick_in (s d t : Int32) (h0 : 0 ≤ s.toInt) (h1 : s.toInt ≤ 2147483644) : 0 ≤ (own_pick s d t).toInt ∧ (own_pick s d t).toInt ≤ s.toInt := by
  unfold own_pick
  split
  · have e1 : (s + 1).toInt = s.toInt + 1 := Jvm.Kit.i32_add (by simp only [Int32.reduceToInt]; omega) (by simp only [Int32.reduceToInt]; omega)
    have h2 := (c_andS d 2147483647).2.2 (by decide)
    have e2 : ((d &&& 2147483647) % (s + 1)).toInt = (d &&& 2147483647).toInt % (s.toInt + 1) := by rw [Jvm.Kit.i32_rem_nonneg h2, e1]
    rw [e2]
    exact ⟨Int.emod_nonneg _ (by omega), by have := Int.emod_lt_of_pos (d &&& 2147483647).toInt (b := s.toInt + 1) (by omega); omega⟩
  · have e3 : (d &&& 3).toInt = d.toInt % 2 ^ 2 := Jvm.Kit.i32_mask d 3 (k := 2) (by decide) (by decide)
    have e4 : (s - (d &&& 3)).toInt = s.toInt - (d &&& 3).toInt := Jvm.Kit.i32_sub (by omega) (by omega)
    split
    · rename_i q; rw [Int32.lt_iff_toInt_lt] at q; simp only [Int32.reduceToInt] at q; omega
    · simp only [Int32.reduceToInt]; omega
theorem own_cancel (s k j : Int32) : s + k - k + j = s + j := by rw [Int32.add_sub_cancel]
theorem own_max (x s j : Int32) : x + j = s + j ↔ x = s := by exact Int32.add_left_inj j
theorem own_z (x : Int32) : x + 0 = x := Int32.add_zero x
theorem d1_0 : decode jdk_29_method_69_code 0 = .ok (.iload_n 0, 1) := by decide +kernel
theorem d1_1 : decode jdk_29_method_69_code 1 = .ok (.iload_n 1, 1) := by decide +kernel
theorem d1_2 : decode jdk_29_method_69_code 2 = .ok (.if_icmp .gt 7, 3) := by decide +kernel
theorem d1_5 : decode jdk_29_method_69_code 5 = .ok (.iload_n 0, 1) := by decide +kernel
theorem d1_6 : decode jdk_29_method_69_code 6 = .ok (.goto 4, 3) := by decide +kernel
theorem d1_9 : decode jdk_29_method_69_code 9 = .ok (.iload_n 1, 1) := by decide +kernel
theorem d1_10 : decode jdk_29_method_69_code 10 = .ok (.ireturn, 1) := by decide +kernel
theorem pn_1 : plainFor (⟨"java/lang/Math", "min", "(II)I"⟩ : MethodName) = true := by first | exact plainFor_of_name (by first | (simp [plainName, overriddenIn]; done) | decide +kernel) | decide +kernel
set_option maxRecDepth 65536 in
set_option maxHeartbeats 4000000 in
theorem rm_min (l : Launch) (Z : State) (a0 : Array Value) (hw : ∀ d ∈ tables_1, d.before a0 Z = true) (x y : Int32) (h0 : Heap)  :
    Met l Z (⟨"java/lang/Math", "min", "(II)I"⟩ : MethodName) jdk_29_method_69_code 2 (some .int) [] ({ frames := 0, cells := 0, slots := 0, locals := 0 } : Room) #[(.int x), (.int y)] h0 [] (fun v h => v = some (.int (if y < x then y else x)) ∧ h0 = h) := by
  refine Met.walk pn_1 (Ls := #[.val (.int x), .val (.int y)]) (fun m => by first | (simp [entryFrame, mkF, argsToLocals, Value.category, maxLocals]; done) | rfl) ?_
  intro p e s m below meth c B
  refine B.iloadN 1 rfl d1_0 rfl ?_
  refine B.iloadN 2 rfl d1_1 rfl ?_
  refine B.icmp_gt 9 5 rfl (by decide) rfl d1_2 (fun c2 => ?_) (fun c2 => ?_)
  · refine B.iloadN 10 rfl d1_9 rfl ?_
    refine B.retI d1_10 (by decide) (by decide) ?_
    exact ⟨by simp [c2], rfl⟩
  · refine B.iloadN 6 rfl d1_5 rfl ?_
    refine B.goto 10 rfl (by decide) d1_6 ?_
    refine B.retI d1_10 (by decide) (by decide) ?_
    exact ⟨by simp [c2], rfl⟩
theorem d4_0 : decode jdk_29_method_65_code 0 = .ok (.iload_n 0, 1) := by decide +kernel
theorem d4_1 : decode jdk_29_method_65_code 1 = .ok (.iload_n 1, 1) := by decide +kernel
theorem d4_2 : decode jdk_29_method_65_code 2 = .ok (.if_icmp .lt 7, 3) := by decide +kernel
theorem d4_5 : decode jdk_29_method_65_code 5 = .ok (.iload_n 0, 1) := by decide +kernel
theorem d4_6 : decode jdk_29_method_65_code 6 = .ok (.goto 4, 3) := by decide +kernel
theorem d4_9 : decode jdk_29_method_65_code 9 = .ok (.iload_n 1, 1) := by decide +kernel
theorem d4_10 : decode jdk_29_method_65_code 10 = .ok (.ireturn, 1) := by decide +kernel
theorem pn_4 : plainFor (⟨"java/lang/Math", "max", "(II)I"⟩ : MethodName) = true := by first | exact plainFor_of_name (by first | (simp [plainName, overriddenIn]; done) | decide +kernel) | decide +kernel
set_option maxRecDepth 65536 in
set_option maxHeartbeats 4000000 in
theorem rm_max (l : Launch) (Z : State) (a0 : Array Value) (hw : ∀ d ∈ tables_1, d.before a0 Z = true) (x y : Int32) (h0 : Heap)  :
    Met l Z (⟨"java/lang/Math", "max", "(II)I"⟩ : MethodName) jdk_29_method_65_code 2 (some .int) [] ({ frames := 0, cells := 0, slots := 0, locals := 0 } : Room) #[(.int x), (.int y)] h0 [] (fun v h => v = some (.int (if x < y then y else x)) ∧ h0 = h) := by
  refine Met.walk pn_4 (Ls := #[.val (.int x), .val (.int y)]) (fun m => by first | (simp [entryFrame, mkF, argsToLocals, Value.category, maxLocals]; done) | rfl) ?_
  intro p e s m below meth c B
  refine B.iloadN 1 rfl d4_0 rfl ?_
  refine B.iloadN 2 rfl d4_1 rfl ?_
  refine B.icmp_lt 9 5 rfl (by decide) rfl d4_2 (fun c2 => ?_) (fun c2 => ?_)
  · refine B.iloadN 10 rfl d4_9 rfl ?_
    refine B.retI d4_10 (by decide) (by decide) ?_
    exact ⟨by simp [c2], rfl⟩
  · refine B.iloadN 6 rfl d4_5 rfl ?_
    refine B.goto 10 rfl (by decide) d4_6 ?_
    refine B.retI d4_10 (by decide) (by decide) ?_
    exact ⟨by simp [c2], rfl⟩
theorem d2_0 : decode method_3_code 0 = .ok (.iload_n 2, 1) := by decide +kernel
theorem d2_1 : decode method_3_code 1 = .ok (.ifCond .eq 13, 3) := by decide +kernel
theorem d2_4 : decode method_3_code 4 = .ok (.iconst 0, 1) := by decide +kernel
theorem d2_5 : decode method_3_code 5 = .ok (.iload_n 0, 1) := by decide +kernel
theorem d2_6 : decode method_3_code 6 = .ok (.iload_n 1, 1) := by decide +kernel
theorem d2_7 : decode method_3_code 7 = .ok (.iconst 3, 1) := by decide +kernel
theorem d2_8 : decode method_3_code 8 = .ok (.iand, 1) := by decide +kernel
theorem d2_9 : decode method_3_code 9 = .ok (.isub, 1) := by decide +kernel
theorem d2_10 : decode method_3_code 10 = .ok (.invokestatic 27, 3) := by decide +kernel
theorem d2_13 : decode method_3_code 13 = .ok (.ireturn, 1) := by decide +kernel
theorem d2_14 : decode method_3_code 14 = .ok (.iload_n 1, 1) := by decide +kernel
theorem d2_15 : decode method_3_code 15 = .ok (.ldc 7, 2) := by decide +kernel
theorem d2_17 : decode method_3_code 17 = .ok (.iand, 1) := by decide +kernel
theorem d2_18 : decode method_3_code 18 = .ok (.iload_n 0, 1) := by decide +kernel
theorem d2_19 : decode method_3_code 19 = .ok (.iconst 1, 1) := by decide +kernel
theorem d2_20 : decode method_3_code 20 = .ok (.iadd, 1) := by decide +kernel
theorem d2_21 : decode method_3_code 21 = .ok (.irem, 1) := by decide +kernel
theorem d2_22 : decode method_3_code 22 = .ok (.ireturn, 1) := by decide +kernel
theorem pn_2 : plainFor (⟨"com/example/interlace/interlace/engine/CombinationsNextPinLaw", "pick", "(III)I"⟩ : MethodName) = true := by first | exact plainFor_of_name (by first | (simp [plainName, overriddenIn]; done) | decide +kernel) | decide +kernel
set_option maxRecDepth 65536 in
set_option maxHeartbeats 4000000 in
theorem rm_pick (l : Launch) (Z : State) (a0 : Array Value) (hw : ∀ d ∈ tables_1, d.before a0 Z = true) (s0 d t : Int32) (h0 : Heap) (hz : s0 + 1 ≠ 0) :
    Met l Z (⟨"com/example/interlace/interlace/engine/CombinationsNextPinLaw", "pick", "(III)I"⟩ : MethodName) method_3_code 3 (some .int) [] ({ frames := 1, cells := 0, slots := 0, locals := 13 } : Room) #[(.int s0), (.int d), (.int t)] h0 [] (fun v h => v = some (.int (own_pick s0 d t)) ∧ h0 = h) := by
  refine Met.walk pn_2 (Ls := #[.val (.int s0), .val (.int d), .val (.int t)]) (fun m => by first | (simp [entryFrame, mkF, argsToLocals, Value.category, maxLocals]; done) | rfl) ?_
  intro p e s m below meth c B
  refine B.iloadN 1 rfl d2_0 rfl ?_
  refine B.if0_eq 14 4 rfl (by decide) rfl d2_1 (fun c1 => ?_) (fun c1 => ?_)
  · refine B.iloadN 15 rfl d2_14 rfl ?_
    refine B.ldcI 17 rfl d2_15 (wd hw 0 rfl) ?_
    refine B.iand 18 rfl d2_17 ?_
    refine B.iloadN 19 rfl d2_18 rfl ?_
    refine B.iconst 20 rfl (1 : Int32) d2_19 rfl ?_
    refine B.iadd 21 rfl d2_20 ?_
    refine B.irem 22 rfl d2_21 hz ?_
    refine B.retI d2_22 (by decide) (by decide) ?_
    exact ⟨by simp [own_pick, c1], rfl⟩
  · refine B.iconst 5 rfl (0 : Int32) d2_4 rfl ?_
    refine B.iloadN 6 rfl d2_5 rfl ?_
    refine B.iloadN 7 rfl d2_6 rfl ?_
    refine B.iconst 8 rfl (3 : Int32) d2_7 rfl ?_
    refine B.iand 9 rfl d2_8 ?_
    refine B.isub 10 rfl d2_9 ?_
    refine B.callS 13 rfl d2_10 (wd hw 15 rfl) (wd hw 16 rfl) (wd hw 4 rfl) (wd hw 17 rfl) (by decide) [(.int (0 : Int32)), (.int (s0 - (d &&& (3 : Int32))))] [] (rm_max l Z a0 hw (0 : Int32) (s0 - (d &&& (3 : Int32))) h0) rfl rfl pd__II_I rfl rfl 0 rfl (by decide) (by decide) (by decide) (by decide) (fun _ q => nomatch q) ?_
    rintro _ _ - ⟨rfl, rfl⟩
    show B.G h0 0 0 (mkF m 13 #[.val (.int s0), .val (.int d), .val (.int t)] [(.int (if (0 : Int32) < (s0 - (d &&& (3 : Int32))) then (s0 - (d &&& (3 : Int32))) else (0 : Int32)))])
    refine B.retI d2_13 (by decide) (by decide) ?_
    exact ⟨by simp [own_pick, c1], rfl⟩
theorem d3_0 : decode prog_2_method_3_code 0 = .ok (.aload_n 0, 1) := by decide +kernel
theorem d3_1 : decode prog_2_method_3_code 1 = .ok (.arraylength, 1) := by decide +kernel
theorem d3_2 : decode prog_2_method_3_code 2 = .ok (.istore_n 2, 1) := by decide +kernel
theorem d3_3 : decode prog_2_method_3_code 3 = .ok (.iload_n 2, 1) := by decide +kernel
theorem d3_4 : decode prog_2_method_3_code 4 = .ok (.iconst 1, 1) := by decide +kernel
theorem d3_5 : decode prog_2_method_3_code 5 = .ok (.isub, 1) := by decide +kernel
theorem d3_6 : decode prog_2_method_3_code 6 = .ok (.istore_n 3, 1) := by decide +kernel
theorem d3_7 : decode prog_2_method_3_code 7 = .ok (.iload_n 3, 1) := by decide +kernel
theorem d3_8 : decode prog_2_method_3_code 8 = .ok (.ifCond .lt 20, 3) := by decide +kernel
theorem d3_28 : decode prog_2_method_3_code 28 = .ok (.iload_n 3, 1) := by decide +kernel
theorem d3_29 : decode prog_2_method_3_code 29 = .ok (.ifCond .ge 5, 3) := by decide +kernel
theorem d3_32 : decode prog_2_method_3_code 32 = .ok (.iconst 0, 1) := by decide +kernel
theorem d3_33 : decode prog_2_method_3_code 33 = .ok (.ireturn, 1) := by decide +kernel
theorem pn_3 : plainFor (⟨"com/example/interlace/interlace/engine/Combinations", "next", "([II)Z"⟩ : MethodName) = true := by first | exact plainFor_of_name (by first | (simp [plainName, overriddenIn]; done) | decide +kernel) | decide +kernel
set_option maxRecDepth 65536 in
set_option maxHeartbeats 4000000 in
theorem rm_next0 (l : Launch) (Z : State) (a0 : Array Value) (hw : ∀ d ∈ tables_1, d.before a0 Z = true) (a : Addr) (N  : Int32) (h0 : Heap) (A : Ary Z h0 a .int []) :
    Met l Z (⟨"com/example/interlace/interlace/engine/Combinations", "next", "([II)Z"⟩ : MethodName) prog_2_method_3_code 5 (some .boolean) [] ({ frames := 0, cells := 0, slots := 0, locals := 0 } : Room) #[(.ref a), (.int N)] h0 [a] (fun v h => (v = some (.int 0) ∧ Ary Z h a .int [])) := by
  refine Met.walk pn_3 (Ls := #[.val (.ref a), .val (.int N), .unset, .unset, .unset]) (fun m => by first | (simp [entryFrame, mkF, argsToLocals, Value.category, maxLocals]; done) | rfl) ?_
  intro p e s m below meth c B
  refine B.aloadN 1 rfl d3_0 rfl rfl ?_
  refine B.arrlen 2 rfl d3_1 A (0 : Int32) rfl ?_
  refine B.istoreN 3 rfl d3_2 #[.val (.ref a), .val (.int N), .val (.int (0 : Int32)), .unset, .unset] rfl ?_
  refine B.iloadN 4 rfl d3_3 rfl ?_
  refine B.iconst 5 rfl (1 : Int32) d3_4 rfl ?_
  refine B.isub 6 rfl d3_5 ?_
  refine B.topI (-1 : Int32) (by decide) ?_
  refine B.istoreN 7 rfl d3_6 #[.val (.ref a), .val (.int N), .val (.int (0 : Int32)), .val (.int (-1 : Int32)), .unset] rfl ?_
  refine B.iloadN 8 rfl d3_7 rfl ?_
  refine B.if0_lt 28 11 rfl (by decide) rfl d3_8 (fun c8 => ?_) (fun c8 => ?_)
  · refine B.iloadN 29 rfl d3_28 rfl ?_
    refine B.if0_ge 34 32 rfl (by decide) rfl d3_29 (fun c29 => ?_) (fun c29 => ?_)
    · exact absurd c29 (by decide)
    · refine B.iconst 33 rfl (0 : Int32) d3_32 rfl ?_
      refine B.retN (by simp) d3_33 (by decide) (by decide) ?_
      exact ⟨rfl, A⟩
  · exact absurd c8 (by decide)
theorem d3_11 : decode prog_2_method_3_code 11 = .ok (.aload_n 0, 1) := by decide +kernel
theorem d3_12 : decode prog_2_method_3_code 12 = .ok (.iload_n 3, 1) := by decide +kernel
theorem d3_13 : decode prog_2_method_3_code 13 = .ok (.iaload, 1) := by decide +kernel
theorem d3_14 : decode prog_2_method_3_code 14 = .ok (.iload_n 1, 1) := by decide +kernel
theorem d3_15 : decode prog_2_method_3_code 15 = .ok (.iload_n 2, 1) := by decide +kernel
theorem d3_16 : decode prog_2_method_3_code 16 = .ok (.isub, 1) := by decide +kernel
theorem d3_17 : decode prog_2_method_3_code 17 = .ok (.iload_n 3, 1) := by decide +kernel
theorem d3_18 : decode prog_2_method_3_code 18 = .ok (.iadd, 1) := by decide +kernel
theorem d3_19 : decode prog_2_method_3_code 19 = .ok (.if_icmp .ne 9, 3) := by decide +kernel
theorem d3_22 : decode prog_2_method_3_code 22 = .ok (.iinc 3 (-1), 3) := by decide +kernel
theorem d3_25 : decode prog_2_method_3_code 25 = .ok (.goto (-18), 3) := by decide +kernel
theorem d3_34 : decode prog_2_method_3_code 34 = .ok (.aload_n 0, 1) := by decide +kernel
theorem d3_35 : decode prog_2_method_3_code 35 = .ok (.iload_n 3, 1) := by decide +kernel
theorem d3_36 : decode prog_2_method_3_code 36 = .ok (.dup2, 1) := by decide +kernel
theorem d3_37 : decode prog_2_method_3_code 37 = .ok (.iaload, 1) := by decide +kernel
theorem d3_38 : decode prog_2_method_3_code 38 = .ok (.iconst 1, 1) := by decide +kernel
theorem d3_39 : decode prog_2_method_3_code 39 = .ok (.iadd, 1) := by decide +kernel
theorem d3_40 : decode prog_2_method_3_code 40 = .ok (.iastore, 1) := by decide +kernel
theorem d3_41 : decode prog_2_method_3_code 41 = .ok (.iload_n 3, 1) := by decide +kernel
theorem d3_42 : decode prog_2_method_3_code 42 = .ok (.iconst 1, 1) := by decide +kernel
theorem d3_43 : decode prog_2_method_3_code 43 = .ok (.iadd, 1) := by decide +kernel
theorem d3_44 : decode prog_2_method_3_code 44 = .ok (.istore 4, 2) := by decide +kernel
theorem d3_46 : decode prog_2_method_3_code 46 = .ok (.iload 4, 2) := by decide +kernel
theorem d3_48 : decode prog_2_method_3_code 48 = .ok (.iload_n 2, 1) := by decide +kernel
theorem d3_49 : decode prog_2_method_3_code 49 = .ok (.if_icmp .ge 21, 3) := by decide +kernel
theorem d3_70 : decode prog_2_method_3_code 70 = .ok (.iconst 1, 1) := by decide +kernel
theorem d3_71 : decode prog_2_method_3_code 71 = .ok (.ireturn, 1) := by decide +kernel
set_option maxRecDepth 65536 in
set_option maxHeartbeats 4000000 in
theorem rm_next1 (l : Launch) (Z : State) (a0 : Array Value) (hw : ∀ d ∈ tables_1, d.before a0 Z = true) (a : Addr) (N x0 : Int32) (h0 : Heap) (A : Ary Z h0 a .int [(.int x0)]) :
    Met l Z (⟨"com/example/interlace/interlace/engine/Combinations", "next", "([II)Z"⟩ : MethodName) prog_2_method_3_code 5 (some .boolean) [] ({ frames := 0, cells := 0, slots := 0, locals := 0 } : Room) #[(.ref a), (.int N)] h0 [a] (fun v h => (¬ x0 = N - (1 : Int32) + (0 : Int32) ∧ v = some (.int 1) ∧ Ary Z h a .int [(.int (x0 + (1 : Int32)))]) ∨ (x0 = N - (1 : Int32) + (0 : Int32) ∧ v = some (.int 0) ∧ Ary Z h a .int [(.int x0)])) := by
  refine Met.walk pn_3 (Ls := #[.val (.ref a), .val (.int N), .unset, .unset, .unset]) (fun m => by first | (simp [entryFrame, mkF, argsToLocals, Value.category, maxLocals]; done) | rfl) ?_
  intro p e s m below meth c B
  refine B.aloadN 1 rfl d3_0 rfl rfl ?_
  refine B.arrlen 2 rfl d3_1 A (1 : Int32) rfl ?_
  refine B.istoreN 3 rfl d3_2 #[.val (.ref a), .val (.int N), .val (.int (1 : Int32)), .unset, .unset] rfl ?_
  refine B.iloadN 4 rfl d3_3 rfl ?_
  refine B.iconst 5 rfl (1 : Int32) d3_4 rfl ?_
  refine B.isub 6 rfl d3_5 ?_
  refine B.topI (0 : Int32) (by decide) ?_
  refine B.istoreN 7 rfl d3_6 #[.val (.ref a), .val (.int N), .val (.int (1 : Int32)), .val (.int (0 : Int32)), .unset] rfl ?_
  refine B.iloadN 8 rfl d3_7 rfl ?_
  refine B.if0_lt 28 11 rfl (by decide) rfl d3_8 (fun c8 => ?_) (fun c8 => ?_)
  · exact absurd c8 (by decide)
  · refine B.aloadN 12 rfl d3_11 rfl rfl ?_
    refine B.iloadN 13 rfl d3_12 rfl ?_
    refine B.iaload 14 rfl d3_13 A (by decide) 0 rfl (.int x0) rfl ?_
    refine B.iloadN 15 rfl d3_14 rfl ?_
    refine B.iloadN 16 rfl d3_15 rfl ?_
    refine B.isub 17 rfl d3_16 ?_
    refine B.iloadN 18 rfl d3_17 rfl ?_
    refine B.iadd 19 rfl d3_18 ?_
    refine B.icmp_ne 28 22 rfl (by decide) rfl d3_19 (fun c19 => ?_) (fun c19 => ?_)
    · refine B.iloadN 29 rfl d3_28 rfl ?_
      refine B.if0_ge 34 32 rfl (by decide) rfl d3_29 (fun c29 => ?_) (fun c29 => ?_)
      · refine B.aloadN 35 rfl d3_34 rfl rfl ?_
        refine B.iloadN 36 rfl d3_35 rfl ?_
        refine B.dup2 37 rfl d3_36 rfl rfl ?_
        refine B.iaload 38 rfl d3_37 A (by decide) 0 rfl (.int x0) rfl ?_
        refine B.iconst 39 rfl (1 : Int32) d3_38 rfl ?_
        refine B.iadd 40 rfl d3_39 ?_
        refine B.iastore 41 rfl d3_40 A (by decide) 0 rfl (by simp) (Or.inl (by simp)) ?_
        intro h1 W1 A1
        replace A1 : Ary Z h1 a .int [(.int (x0 + (1 : Int32)))] := A1
        refine B.iloadN 42 rfl d3_41 rfl ?_
        refine B.iconst 43 rfl (1 : Int32) d3_42 rfl ?_
        refine B.iadd 44 rfl d3_43 ?_
        refine B.topI (1 : Int32) (by decide) ?_
        refine B.istore 46 rfl d3_44 #[.val (.ref a), .val (.int N), .val (.int (1 : Int32)), .val (.int (0 : Int32)), .val (.int (1 : Int32))] rfl ?_
        refine B.iload 48 rfl d3_46 rfl ?_
        refine B.iloadN 49 rfl d3_48 rfl ?_
        refine B.icmp_ge 70 52 rfl (by decide) rfl d3_49 (fun c49 => ?_) (fun c49 => ?_)
        · refine B.iconst 71 rfl (1 : Int32) d3_70 rfl ?_
          refine B.retN (by simp) d3_71 (by decide) (by decide) ?_
          exact Or.inl ⟨c19, rfl, A1⟩
        · exact absurd c49 (by decide)
      · exact absurd c29 (by decide)
    · refine B.iinc 25 rfl (-1 : Int32) d3_22 rfl rfl #[.val (.ref a), .val (.int N), .val (.int (1 : Int32)), .val (.int (-1 : Int32)), .unset] rfl ?_
      refine B.goto 7 rfl (by decide) d3_25 ?_
      refine B.iloadN 8 rfl d3_7 rfl ?_
      refine B.if0_lt 28 11 rfl (by decide) rfl d3_8 (fun c8_1 => ?_) (fun c8_1 => ?_)
      · refine B.iloadN 29 rfl d3_28 rfl ?_
        refine B.if0_ge 34 32 rfl (by decide) rfl d3_29 (fun c29 => ?_) (fun c29 => ?_)
        · exact absurd c29 (by decide)
        · refine B.iconst 33 rfl (0 : Int32) d3_32 rfl ?_
          refine B.retN (by simp) d3_33 (by decide) (by decide) ?_
          exact Or.inr (⟨c19, rfl, A⟩)
      · exact absurd c8_1 (by decide)
theorem d3_52 : decode prog_2_method_3_code 52 = .ok (.aload_n 0, 1) := by decide +kernel
theorem d3_53 : decode prog_2_method_3_code 53 = .ok (.iload 4, 2) := by decide +kernel
theorem d3_55 : decode prog_2_method_3_code 55 = .ok (.aload_n 0, 1) := by decide +kernel
theorem d3_56 : decode prog_2_method_3_code 56 = .ok (.iload 4, 2) := by decide +kernel
theorem d3_58 : decode prog_2_method_3_code 58 = .ok (.iconst 1, 1) := by decide +kernel
theorem d3_59 : decode prog_2_method_3_code 59 = .ok (.isub, 1) := by decide +kernel
theorem d3_60 : decode prog_2_method_3_code 60 = .ok (.iaload, 1) := by decide +kernel
theorem d3_61 : decode prog_2_method_3_code 61 = .ok (.iconst 1, 1) := by decide +kernel
theorem d3_62 : decode prog_2_method_3_code 62 = .ok (.iadd, 1) := by decide +kernel
theorem d3_63 : decode prog_2_method_3_code 63 = .ok (.iastore, 1) := by decide +kernel
theorem d3_64 : decode prog_2_method_3_code 64 = .ok (.iinc 4 1, 3) := by decide +kernel
theorem d3_67 : decode prog_2_method_3_code 67 = .ok (.goto (-21), 3) := by decide +kernel
set_option maxRecDepth 65536 in
set_option maxHeartbeats 4000000 in
theorem rm_next2 (l : Launch) (Z : State) (a0 : Array Value) (hw : ∀ d ∈ tables_1, d.before a0 Z = true) (a : Addr) (N x0 x1 : Int32) (h0 : Heap) (A : Ary Z h0 a .int [(.int x0), (.int x1)]) :
    Met l Z (⟨"com/example/interlace/interlace/engine/Combinations", "next", "([II)Z"⟩ : MethodName) prog_2_method_3_code 5 (some .boolean) [] ({ frames := 0, cells := 0, slots := 0, locals := 0 } : Room) #[(.ref a), (.int N)] h0 [a] (fun v h => (¬ x1 = N - (2 : Int32) + (1 : Int32) ∧ v = some (.int 1) ∧ Ary Z h a .int [(.int x0), (.int (x1 + (1 : Int32)))]) ∨ (x1 = N - (2 : Int32) + (1 : Int32) ∧ ¬ x0 = N - (2 : Int32) + (0 : Int32) ∧ v = some (.int 1) ∧ Ary Z h a .int [(.int (x0 + (1 : Int32))), (.int ((x0 + (1 : Int32)) + (1 : Int32)))]) ∨ (x1 = N - (2 : Int32) + (1 : Int32) ∧ x0 = N - (2 : Int32) + (0 : Int32) ∧ v = some (.int 0) ∧ Ary Z h a .int [(.int x0), (.int x1)])) := by
  refine Met.walk pn_3 (Ls := #[.val (.ref a), .val (.int N), .unset, .unset, .unset]) (fun m => by first | (simp [entryFrame, mkF, argsToLocals, Value.category, maxLocals]; done) | rfl) ?_
  intro p e s m below meth c B
  refine B.aloadN 1 rfl d3_0 rfl rfl ?_
  refine B.arrlen 2 rfl d3_1 A (2 : Int32) rfl ?_
  refine B.istoreN 3 rfl d3_2 #[.val (.ref a), .val (.int N), .val (.int (2 : Int32)), .unset, .unset] rfl ?_
  refine B.iloadN 4 rfl d3_3 rfl ?_
  refine B.iconst 5 rfl (1 : Int32) d3_4 rfl ?_
  refine B.isub 6 rfl d3_5 ?_
  refine B.topI (1 : Int32) (by decide) ?_
  refine B.istoreN 7 rfl d3_6 #[.val (.ref a), .val (.int N), .val (.int (2 : Int32)), .val (.int (1 : Int32)), .unset] rfl ?_
  refine B.iloadN 8 rfl d3_7 rfl ?_
  refine B.if0_lt 28 11 rfl (by decide) rfl d3_8 (fun c8 => ?_) (fun c8 => ?_)
  · exact absurd c8 (by decide)
  · refine B.aloadN 12 rfl d3_11 rfl rfl ?_
    refine B.iloadN 13 rfl d3_12 rfl ?_
    refine B.iaload 14 rfl d3_13 A (by decide) 1 rfl (.int x1) rfl ?_
    refine B.iloadN 15 rfl d3_14 rfl ?_
    refine B.iloadN 16 rfl d3_15 rfl ?_
    refine B.isub 17 rfl d3_16 ?_
    refine B.iloadN 18 rfl d3_17 rfl ?_
    refine B.iadd 19 rfl d3_18 ?_
    refine B.icmp_ne 28 22 rfl (by decide) rfl d3_19 (fun c19 => ?_) (fun c19 => ?_)
    · refine B.iloadN 29 rfl d3_28 rfl ?_
      refine B.if0_ge 34 32 rfl (by decide) rfl d3_29 (fun c29 => ?_) (fun c29 => ?_)
      · refine B.aloadN 35 rfl d3_34 rfl rfl ?_
        refine B.iloadN 36 rfl d3_35 rfl ?_
        refine B.dup2 37 rfl d3_36 rfl rfl ?_
        refine B.iaload 38 rfl d3_37 A (by decide) 1 rfl (.int x1) rfl ?_
        refine B.iconst 39 rfl (1 : Int32) d3_38 rfl ?_
        refine B.iadd 40 rfl d3_39 ?_
        refine B.iastore 41 rfl d3_40 A (by decide) 1 rfl (by simp) (Or.inl (by simp)) ?_
        intro h1 W1 A1
        replace A1 : Ary Z h1 a .int [(.int x0), (.int (x1 + (1 : Int32)))] := A1
        refine B.iloadN 42 rfl d3_41 rfl ?_
        refine B.iconst 43 rfl (1 : Int32) d3_42 rfl ?_
        refine B.iadd 44 rfl d3_43 ?_
        refine B.topI (2 : Int32) (by decide) ?_
        refine B.istore 46 rfl d3_44 #[.val (.ref a), .val (.int N), .val (.int (2 : Int32)), .val (.int (1 : Int32)), .val (.int (2 : Int32))] rfl ?_
        refine B.iload 48 rfl d3_46 rfl ?_
        refine B.iloadN 49 rfl d3_48 rfl ?_
        refine B.icmp_ge 70 52 rfl (by decide) rfl d3_49 (fun c49 => ?_) (fun c49 => ?_)
        · refine B.iconst 71 rfl (1 : Int32) d3_70 rfl ?_
          refine B.retN (by simp) d3_71 (by decide) (by decide) ?_
          exact Or.inl ⟨c19, rfl, A1⟩
        · exact absurd c49 (by decide)
      · exact absurd c29 (by decide)
    · refine B.iinc 25 rfl (-1 : Int32) d3_22 rfl rfl #[.val (.ref a), .val (.int N), .val (.int (2 : Int32)), .val (.int (0 : Int32)), .unset] rfl ?_
      refine B.goto 7 rfl (by decide) d3_25 ?_
      refine B.iloadN 8 rfl d3_7 rfl ?_
      refine B.if0_lt 28 11 rfl (by decide) rfl d3_8 (fun c8_1 => ?_) (fun c8_1 => ?_)
      · exact absurd c8_1 (by decide)
      · refine B.aloadN 12 rfl d3_11 rfl rfl ?_
        refine B.iloadN 13 rfl d3_12 rfl ?_
        refine B.iaload 14 rfl d3_13 A (by decide) 0 rfl (.int x0) rfl ?_
        refine B.iloadN 15 rfl d3_14 rfl ?_
        refine B.iloadN 16 rfl d3_15 rfl ?_
        refine B.isub 17 rfl d3_16 ?_
        refine B.iloadN 18 rfl d3_17 rfl ?_
        refine B.iadd 19 rfl d3_18 ?_
        refine B.icmp_ne 28 22 rfl (by decide) rfl d3_19 (fun c19_1 => ?_) (fun c19_1 => ?_)
        · refine B.iloadN 29 rfl d3_28 rfl ?_
          refine B.if0_ge 34 32 rfl (by decide) rfl d3_29 (fun c29 => ?_) (fun c29 => ?_)
          · refine B.aloadN 35 rfl d3_34 rfl rfl ?_
            refine B.iloadN 36 rfl d3_35 rfl ?_
            refine B.dup2 37 rfl d3_36 rfl rfl ?_
            refine B.iaload 38 rfl d3_37 A (by decide) 0 rfl (.int x0) rfl ?_
            refine B.iconst 39 rfl (1 : Int32) d3_38 rfl ?_
            refine B.iadd 40 rfl d3_39 ?_
            refine B.iastore 41 rfl d3_40 A (by decide) 0 rfl (by simp) (Or.inl (by simp)) ?_
            intro h2 W2 A2
            replace A2 : Ary Z h2 a .int [(.int (x0 + (1 : Int32))), (.int x1)] := A2
            refine B.iloadN 42 rfl d3_41 rfl ?_
            refine B.iconst 43 rfl (1 : Int32) d3_42 rfl ?_
            refine B.iadd 44 rfl d3_43 ?_
            refine B.topI (1 : Int32) (by decide) ?_
            refine B.istore 46 rfl d3_44 #[.val (.ref a), .val (.int N), .val (.int (2 : Int32)), .val (.int (0 : Int32)), .val (.int (1 : Int32))] rfl ?_
            refine B.iload 48 rfl d3_46 rfl ?_
            refine B.iloadN 49 rfl d3_48 rfl ?_
            refine B.icmp_ge 70 52 rfl (by decide) rfl d3_49 (fun c49 => ?_) (fun c49 => ?_)
            · exact absurd c49 (by decide)
            · refine B.aloadN 53 rfl d3_52 rfl rfl ?_
              refine B.iload 55 rfl d3_53 rfl ?_
              refine B.aloadN 56 rfl d3_55 rfl rfl ?_
              refine B.iload 58 rfl d3_56 rfl ?_
              refine B.iconst 59 rfl (1 : Int32) d3_58 rfl ?_
              refine B.isub 60 rfl d3_59 ?_
              refine B.topI (0 : Int32) (by decide) ?_
              refine B.iaload 61 rfl d3_60 A2 (by decide) 0 rfl (.int (x0 + (1 : Int32))) rfl ?_
              refine B.iconst 62 rfl (1 : Int32) d3_61 rfl ?_
              refine B.iadd 63 rfl d3_62 ?_
              refine B.iastore 64 rfl d3_63 A2 (by decide) 1 rfl (by simp) (Or.inl (by simp)) ?_
              intro h3 W3 A3
              replace A3 : Ary Z h3 a .int [(.int (x0 + (1 : Int32))), (.int ((x0 + (1 : Int32)) + (1 : Int32)))] := A3
              refine B.iinc 67 rfl (1 : Int32) d3_64 rfl rfl #[.val (.ref a), .val (.int N), .val (.int (2 : Int32)), .val (.int (0 : Int32)), .val (.int (2 : Int32))] rfl ?_
              refine B.goto 46 rfl (by decide) d3_67 ?_
              refine B.iload 48 rfl d3_46 rfl ?_
              refine B.iloadN 49 rfl d3_48 rfl ?_
              refine B.icmp_ge 70 52 rfl (by decide) rfl d3_49 (fun c49_1 => ?_) (fun c49_1 => ?_)
              · refine B.iconst 71 rfl (1 : Int32) d3_70 rfl ?_
                refine B.retN (by simp) d3_71 (by decide) (by decide) ?_
                exact Or.inr (Or.inl ⟨c19, c19_1, rfl, A3⟩)
              · exact absurd c49_1 (by decide)
          · exact absurd c29 (by decide)
        · refine B.iinc 25 rfl (-1 : Int32) d3_22 rfl rfl #[.val (.ref a), .val (.int N), .val (.int (2 : Int32)), .val (.int (-1 : Int32)), .unset] rfl ?_
          refine B.goto 7 rfl (by decide) d3_25 ?_
          refine B.iloadN 8 rfl d3_7 rfl ?_
          refine B.if0_lt 28 11 rfl (by decide) rfl d3_8 (fun c8_2 => ?_) (fun c8_2 => ?_)
          · refine B.iloadN 29 rfl d3_28 rfl ?_
            refine B.if0_ge 34 32 rfl (by decide) rfl d3_29 (fun c29 => ?_) (fun c29 => ?_)
            · exact absurd c29 (by decide)
            · refine B.iconst 33 rfl (0 : Int32) d3_32 rfl ?_
              refine B.retN (by simp) d3_33 (by decide) (by decide) ?_
              exact Or.inr (Or.inr (⟨c19, c19_1, rfl, A⟩))
          · exact absurd c8_2 (by decide)
set_option maxRecDepth 65536 in
set_option maxHeartbeats 4000000 in
theorem rm_next3 (l : Launch) (Z : State) (a0 : Array Value) (hw : ∀ d ∈ tables_1, d.before a0 Z = true) (a : Addr) (N x0 x1 x2 : Int32) (h0 : Heap) (A : Ary Z h0 a .int [(.int x0), (.int x1), (.int x2)]) :
    Met l Z (⟨"com/example/interlace/interlace/engine/Combinations", "next", "([II)Z"⟩ : MethodName) prog_2_method_3_code 5 (some .boolean) [] ({ frames := 0, cells := 0, slots := 0, locals := 0 } : Room) #[(.ref a), (.int N)] h0 [a] (fun v h => (¬ x2 = N - (3 : Int32) + (2 : Int32) ∧ v = some (.int 1) ∧ Ary Z h a .int [(.int x0), (.int x1), (.int (x2 + (1 : Int32)))]) ∨ (x2 = N - (3 : Int32) + (2 : Int32) ∧ ¬ x1 = N - (3 : Int32) + (1 : Int32) ∧ v = some (.int 1) ∧ Ary Z h a .int [(.int x0), (.int (x1 + (1 : Int32))), (.int ((x1 + (1 : Int32)) + (1 : Int32)))]) ∨ (x2 = N - (3 : Int32) + (2 : Int32) ∧ x1 = N - (3 : Int32) + (1 : Int32) ∧ ¬ x0 = N - (3 : Int32) + (0 : Int32) ∧ v = some (.int 1) ∧ Ary Z h a .int [(.int (x0 + (1 : Int32))), (.int ((x0 + (1 : Int32)) + (1 : Int32))), (.int (((x0 + (1 : Int32)) + (1 : Int32)) + (1 : Int32)))]) ∨ (x2 = N - (3 : Int32) + (2 : Int32) ∧ x1 = N - (3 : Int32) + (1 : Int32) ∧ x0 = N - (3 : Int32) + (0 : Int32) ∧ v = some (.int 0) ∧ Ary Z h a .int [(.int x0), (.int x1), (.int x2)])) := by
  refine Met.walk pn_3 (Ls := #[.val (.ref a), .val (.int N), .unset, .unset, .unset]) (fun m => by first | (simp [entryFrame, mkF, argsToLocals, Value.category, maxLocals]; done) | rfl) ?_
  intro p e s m below meth c B
  refine B.aloadN 1 rfl d3_0 rfl rfl ?_
  refine B.arrlen 2 rfl d3_1 A (3 : Int32) rfl ?_
  refine B.istoreN 3 rfl d3_2 #[.val (.ref a), .val (.int N), .val (.int (3 : Int32)), .unset, .unset] rfl ?_
  refine B.iloadN 4 rfl d3_3 rfl ?_
  refine B.iconst 5 rfl (1 : Int32) d3_4 rfl ?_
  refine B.isub 6 rfl d3_5 ?_
  refine B.topI (2 : Int32) (by decide) ?_
  refine B.istoreN 7 rfl d3_6 #[.val (.ref a), .val (.int N), .val (.int (3 : Int32)), .val (.int (2 : Int32)), .unset] rfl ?_
  refine B.iloadN 8 rfl d3_7 rfl ?_
  refine B.if0_lt 28 11 rfl (by decide) rfl d3_8 (fun c8 => ?_) (fun c8 => ?_)
  · exact absurd c8 (by decide)
  · refine B.aloadN 12 rfl d3_11 rfl rfl ?_
    refine B.iloadN 13 rfl d3_12 rfl ?_
    refine B.iaload 14 rfl d3_13 A (by decide) 2 rfl (.int x2) rfl ?_
    refine B.iloadN 15 rfl d3_14 rfl ?_
    refine B.iloadN 16 rfl d3_15 rfl ?_
    refine B.isub 17 rfl d3_16 ?_
    refine B.iloadN 18 rfl d3_17 rfl ?_
    refine B.iadd 19 rfl d3_18 ?_
    refine B.icmp_ne 28 22 rfl (by decide) rfl d3_19 (fun c19 => ?_) (fun c19 => ?_)
    · refine B.iloadN 29 rfl d3_28 rfl ?_
      refine B.if0_ge 34 32 rfl (by decide) rfl d3_29 (fun c29 => ?_) (fun c29 => ?_)
      · refine B.aloadN 35 rfl d3_34 rfl rfl ?_
        refine B.iloadN 36 rfl d3_35 rfl ?_
        refine B.dup2 37 rfl d3_36 rfl rfl ?_
        refine B.iaload 38 rfl d3_37 A (by decide) 2 rfl (.int x2) rfl ?_
        refine B.iconst 39 rfl (1 : Int32) d3_38 rfl ?_
        refine B.iadd 40 rfl d3_39 ?_
        refine B.iastore 41 rfl d3_40 A (by decide) 2 rfl (by simp) (Or.inl (by simp)) ?_
        intro h1 W1 A1
        replace A1 : Ary Z h1 a .int [(.int x0), (.int x1), (.int (x2 + (1 : Int32)))] := A1
        refine B.iloadN 42 rfl d3_41 rfl ?_
        refine B.iconst 43 rfl (1 : Int32) d3_42 rfl ?_
        refine B.iadd 44 rfl d3_43 ?_
        refine B.topI (3 : Int32) (by decide) ?_
        refine B.istore 46 rfl d3_44 #[.val (.ref a), .val (.int N), .val (.int (3 : Int32)), .val (.int (2 : Int32)), .val (.int (3 : Int32))] rfl ?_
        refine B.iload 48 rfl d3_46 rfl ?_
        refine B.iloadN 49 rfl d3_48 rfl ?_
        refine B.icmp_ge 70 52 rfl (by decide) rfl d3_49 (fun c49 => ?_) (fun c49 => ?_)
        · refine B.iconst 71 rfl (1 : Int32) d3_70 rfl ?_
          refine B.retN (by simp) d3_71 (by decide) (by decide) ?_
          exact Or.inl ⟨c19, rfl, A1⟩
        · exact absurd c49 (by decide)
      · exact absurd c29 (by decide)
    · refine B.iinc 25 rfl (-1 : Int32) d3_22 rfl rfl #[.val (.ref a), .val (.int N), .val (.int (3 : Int32)), .val (.int (1 : Int32)), .unset] rfl ?_
      refine B.goto 7 rfl (by decide) d3_25 ?_
      refine B.iloadN 8 rfl d3_7 rfl ?_
      refine B.if0_lt 28 11 rfl (by decide) rfl d3_8 (fun c8_1 => ?_) (fun c8_1 => ?_)
      · exact absurd c8_1 (by decide)
      · refine B.aloadN 12 rfl d3_11 rfl rfl ?_
        refine B.iloadN 13 rfl d3_12 rfl ?_
        refine B.iaload 14 rfl d3_13 A (by decide) 1 rfl (.int x1) rfl ?_
        refine B.iloadN 15 rfl d3_14 rfl ?_
        refine B.iloadN 16 rfl d3_15 rfl ?_
        refine B.isub 17 rfl d3_16 ?_
        refine B.iloadN 18 rfl d3_17 rfl ?_
        refine B.iadd 19 rfl d3_18 ?_
        refine B.icmp_ne 28 22 rfl (by decide) rfl d3_19 (fun c19_1 => ?_) (fun c19_1 => ?_)
        · refine B.iloadN 29 rfl d3_28 rfl ?_
          refine B.if0_ge 34 32 rfl (by decide) rfl d3_29 (fun c29 => ?_) (fun c29 => ?_)
          · refine B.aloadN 35 rfl d3_34 rfl rfl ?_
            refine B.iloadN 36 rfl d3_35 rfl ?_
            refine B.dup2 37 rfl d3_36 rfl rfl ?_
            refine B.iaload 38 rfl d3_37 A (by decide) 1 rfl (.int x1) rfl ?_
            refine B.iconst 39 rfl (1 : Int32) d3_38 rfl ?_
            refine B.iadd 40 rfl d3_39 ?_
            refine B.iastore 41 rfl d3_40 A (by decide) 1 rfl (by simp) (Or.inl (by simp)) ?_
            intro h2 W2 A2
            replace A2 : Ary Z h2 a .int [(.int x0), (.int (x1 + (1 : Int32))), (.int x2)] := A2
            refine B.iloadN 42 rfl d3_41 rfl ?_
            refine B.iconst 43 rfl (1 : Int32) d3_42 rfl ?_
            refine B.iadd 44 rfl d3_43 ?_
            refine B.topI (2 : Int32) (by decide) ?_
            refine B.istore 46 rfl d3_44 #[.val (.ref a), .val (.int N), .val (.int (3 : Int32)), .val (.int (1 : Int32)), .val (.int (2 : Int32))] rfl ?_
            refine B.iload 48 rfl d3_46 rfl ?_
            refine B.iloadN 49 rfl d3_48 rfl ?_
            refine B.icmp_ge 70 52 rfl (by decide) rfl d3_49 (fun c49 => ?_) (fun c49 => ?_)
            · exact absurd c49 (by decide)
            · refine B.aloadN 53 rfl d3_52 rfl rfl ?_
              refine B.iload 55 rfl d3_53 rfl ?_
              refine B.aloadN 56 rfl d3_55 rfl rfl ?_
              refine B.iload 58 rfl d3_56 rfl ?_
              refine B.iconst 59 rfl (1 : Int32) d3_58 rfl ?_
              refine B.isub 60 rfl d3_59 ?_
              refine B.topI (1 : Int32) (by decide) ?_
              refine B.iaload 61 rfl d3_60 A2 (by decide) 1 rfl (.int (x1 + (1 : Int32))) rfl ?_
              refine B.iconst 62 rfl (1 : Int32) d3_61 rfl ?_
              refine B.iadd 63 rfl d3_62 ?_
              refine B.iastore 64 rfl d3_63 A2 (by decide) 2 rfl (by simp) (Or.inl (by simp)) ?_
              intro h3 W3 A3
              replace A3 : Ary Z h3 a .int [(.int x0), (.int (x1 + (1 : Int32))), (.int ((x1 + (1 : Int32)) + (1 : Int32)))] := A3
              refine B.iinc 67 rfl (1 : Int32) d3_64 rfl rfl #[.val (.ref a), .val (.int N), .val (.int (3 : Int32)), .val (.int (1 : Int32)), .val (.int (3 : Int32))] rfl ?_
              refine B.goto 46 rfl (by decide) d3_67 ?_
              refine B.iload 48 rfl d3_46 rfl ?_
              refine B.iloadN 49 rfl d3_48 rfl ?_
              refine B.icmp_ge 70 52 rfl (by decide) rfl d3_49 (fun c49_1 => ?_) (fun c49_1 => ?_)
              · refine B.iconst 71 rfl (1 : Int32) d3_70 rfl ?_
                refine B.retN (by simp) d3_71 (by decide) (by decide) ?_
                exact Or.inr (Or.inl ⟨c19, c19_1, rfl, A3⟩)
              · exact absurd c49_1 (by decide)
          · exact absurd c29 (by decide)
        · refine B.iinc 25 rfl (-1 : Int32) d3_22 rfl rfl #[.val (.ref a), .val (.int N), .val (.int (3 : Int32)), .val (.int (0 : Int32)), .unset] rfl ?_
          refine B.goto 7 rfl (by decide) d3_25 ?_
          refine B.iloadN 8 rfl d3_7 rfl ?_
          refine B.if0_lt 28 11 rfl (by decide) rfl d3_8 (fun c8_2 => ?_) (fun c8_2 => ?_)
          · exact absurd c8_2 (by decide)
          · refine B.aloadN 12 rfl d3_11 rfl rfl ?_
            refine B.iloadN 13 rfl d3_12 rfl ?_
            refine B.iaload 14 rfl d3_13 A (by decide) 0 rfl (.int x0) rfl ?_
            refine B.iloadN 15 rfl d3_14 rfl ?_
            refine B.iloadN 16 rfl d3_15 rfl ?_
            refine B.isub 17 rfl d3_16 ?_
            refine B.iloadN 18 rfl d3_17 rfl ?_
            refine B.iadd 19 rfl d3_18 ?_
            refine B.icmp_ne 28 22 rfl (by decide) rfl d3_19 (fun c19_2 => ?_) (fun c19_2 => ?_)
            · refine B.iloadN 29 rfl d3_28 rfl ?_
              refine B.if0_ge 34 32 rfl (by decide) rfl d3_29 (fun c29 => ?_) (fun c29 => ?_)
              · refine B.aloadN 35 rfl d3_34 rfl rfl ?_
                refine B.iloadN 36 rfl d3_35 rfl ?_
                refine B.dup2 37 rfl d3_36 rfl rfl ?_
                refine B.iaload 38 rfl d3_37 A (by decide) 0 rfl (.int x0) rfl ?_
                refine B.iconst 39 rfl (1 : Int32) d3_38 rfl ?_
                refine B.iadd 40 rfl d3_39 ?_
                refine B.iastore 41 rfl d3_40 A (by decide) 0 rfl (by simp) (Or.inl (by simp)) ?_
                intro h4 W4 A4
                replace A4 : Ary Z h4 a .int [(.int (x0 + (1 : Int32))), (.int x1), (.int x2)] := A4
                refine B.iloadN 42 rfl d3_41 rfl ?_
                refine B.iconst 43 rfl (1 : Int32) d3_42 rfl ?_
                refine B.iadd 44 rfl d3_43 ?_
                refine B.topI (1 : Int32) (by decide) ?_
                refine B.istore 46 rfl d3_44 #[.val (.ref a), .val (.int N), .val (.int (3 : Int32)), .val (.int (0 : Int32)), .val (.int (1 : Int32))] rfl ?_
                refine B.iload 48 rfl d3_46 rfl ?_
                refine B.iloadN 49 rfl d3_48 rfl ?_
                refine B.icmp_ge 70 52 rfl (by decide) rfl d3_49 (fun c49 => ?_) (fun c49 => ?_)
                · exact absurd c49 (by decide)
                · refine B.aloadN 53 rfl d3_52 rfl rfl ?_
                  refine B.iload 55 rfl d3_53 rfl ?_
                  refine B.aloadN 56 rfl d3_55 rfl rfl ?_
                  refine B.iload 58 rfl d3_56 rfl ?_
                  refine B.iconst 59 rfl (1 : Int32) d3_58 rfl ?_
                  refine B.isub 60 rfl d3_59 ?_
                  refine B.topI (0 : Int32) (by decide) ?_
                  refine B.iaload 61 rfl d3_60 A4 (by decide) 0 rfl (.int (x0 + (1 : Int32))) rfl ?_
                  refine B.iconst 62 rfl (1 : Int32) d3_61 rfl ?_
                  refine B.iadd 63 rfl d3_62 ?_
                  refine B.iastore 64 rfl d3_63 A4 (by decide) 1 rfl (by simp) (Or.inl (by simp)) ?_
                  intro h5 W5 A5
                  replace A5 : Ary Z h5 a .int [(.int (x0 + (1 : Int32))), (.int ((x0 + (1 : Int32)) + (1 : Int32))), (.int x2)] := A5
                  refine B.iinc 67 rfl (1 : Int32) d3_64 rfl rfl #[.val (.ref a), .val (.int N), .val (.int (3 : Int32)), .val (.int (0 : Int32)), .val (.int (2 : Int32))] rfl ?_
                  refine B.goto 46 rfl (by decide) d3_67 ?_
                  refine B.iload 48 rfl d3_46 rfl ?_
                  refine B.iloadN 49 rfl d3_48 rfl ?_
                  refine B.icmp_ge 70 52 rfl (by decide) rfl d3_49 (fun c49_1 => ?_) (fun c49_1 => ?_)
                  · exact absurd c49_1 (by decide)
                  · refine B.aloadN 53 rfl d3_52 rfl rfl ?_
                    refine B.iload 55 rfl d3_53 rfl ?_
                    refine B.aloadN 56 rfl d3_55 rfl rfl ?_
                    refine B.iload 58 rfl d3_56 rfl ?_
                    refine B.iconst 59 rfl (1 : Int32) d3_58 rfl ?_
                    refine B.isub 60 rfl d3_59 ?_
                    refine B.topI (1 : Int32) (by decide) ?_
                    refine B.iaload 61 rfl d3_60 A5 (by decide) 1 rfl (.int ((x0 + (1 : Int32)) + (1 : Int32))) rfl ?_
                    refine B.iconst 62 rfl (1 : Int32) d3_61 rfl ?_
                    refine B.iadd 63 rfl d3_62 ?_
                    refine B.iastore 64 rfl d3_63 A5 (by decide) 2 rfl (by simp) (Or.inl (by simp)) ?_
                    intro h6 W6 A6
                    replace A6 : Ary Z h6 a .int [(.int (x0 + (1 : Int32))), (.int ((x0 + (1 : Int32)) + (1 : Int32))), (.int (((x0 + (1 : Int32)) + (1 : Int32)) + (1 : Int32)))] := A6
                    refine B.iinc 67 rfl (1 : Int32) d3_64 rfl rfl #[.val (.ref a), .val (.int N), .val (.int (3 : Int32)), .val (.int (0 : Int32)), .val (.int (3 : Int32))] rfl ?_
                    refine B.goto 46 rfl (by decide) d3_67 ?_
                    refine B.iload 48 rfl d3_46 rfl ?_
                    refine B.iloadN 49 rfl d3_48 rfl ?_
                    refine B.icmp_ge 70 52 rfl (by decide) rfl d3_49 (fun c49_2 => ?_) (fun c49_2 => ?_)
                    · refine B.iconst 71 rfl (1 : Int32) d3_70 rfl ?_
                      refine B.retN (by simp) d3_71 (by decide) (by decide) ?_
                      exact Or.inr (Or.inr (Or.inl ⟨c19, c19_1, c19_2, rfl, A6⟩))
                    · exact absurd c49_2 (by decide)
              · exact absurd c29 (by decide)
            · refine B.iinc 25 rfl (-1 : Int32) d3_22 rfl rfl #[.val (.ref a), .val (.int N), .val (.int (3 : Int32)), .val (.int (-1 : Int32)), .unset] rfl ?_
              refine B.goto 7 rfl (by decide) d3_25 ?_
              refine B.iloadN 8 rfl d3_7 rfl ?_
              refine B.if0_lt 28 11 rfl (by decide) rfl d3_8 (fun c8_3 => ?_) (fun c8_3 => ?_)
              · refine B.iloadN 29 rfl d3_28 rfl ?_
                refine B.if0_ge 34 32 rfl (by decide) rfl d3_29 (fun c29 => ?_) (fun c29 => ?_)
                · exact absurd c29 (by decide)
                · refine B.iconst 33 rfl (0 : Int32) d3_32 rfl ?_
                  refine B.retN (by simp) d3_33 (by decide) (by decide) ?_
                  exact Or.inr (Or.inr (Or.inr (⟨c19, c19_1, c19_2, rfl, A⟩)))
              · exact absurd c8_3 (by decide)
theorem pn_0 : plainFor x = true := by first | exact plainFor_of_name (by first | (simp [plainName, overriddenIn]; done) | decide +kernel) | decide +kernel
set_option maxRecDepth 65536 in
set_option maxHeartbeats 4000000 in
theorem rm0 (l : Launch) (Z : State) (a0 : Array Value) (hw : ∀ d ∈ tables_1, d.before a0 Z = true) (wds : List Jvm.Cond) (p1 p2 p3 p4 p5 : Int32) (h0 : Heap)  :
    Met l Z x code maxLocals ret wds room_1 #[(.int p1), (.int p2), (.int p3), (.int p4), (.int p5)] h0 [] (fun v _ => v = some (.int 1)) := by
  refine Met.walk pn_0 (Ls := #[.val (.int p1), .val (.int p2), .val (.int p3), .val (.int p4), .val (.int p5), .unset, .unset, .unset, .unset, .unset, .unset, .unset, .unset, .unset, .unset, .unset, .unset, .unset, .unset, .unset, .unset, .unset, .unset]) (fun m => by first | (simp [entryFrame, mkF, argsToLocals, Value.category, maxLocals]; done) | rfl) ?_
  intro p e s m below meth c B
  refine B.iloadN 1 rfl at_0 rfl ?_
  refine B.iconst 2 rfl (5 : Int32) at_1 rfl ?_
  refine B.iushr 3 rfl at_2 ?_
  refine B.iconst 4 rfl (3 : Int32) at_3 rfl ?_
  refine B.iand 5 rfl at_4 ?_
  have hr := own_r p2
  generalize XT.ushr p2 (5 : Int32) &&& (3 : Int32) = r at hr ⊢
  refine B.istore 7 rfl at_5 #[.val (.int p1), .val (.int p2), .val (.int p3), .val (.int p4), .val (.int p5), .val (.int r), .unset, .unset, .unset, .unset, .unset, .unset, .unset, .unset, .unset, .unset, .unset, .unset, .unset, .unset, .unset, .unset, .unset] rfl ?_
  refine B.iloadN 8 rfl at_7 rfl ?_
  refine B.ldcI 10 rfl at_8 (wd hw 0 rfl) ?_
  refine B.iand 11 rfl at_10 ?_
  refine B.iloadN 12 rfl at_11 rfl ?_
  refine B.bipush 14 rfl (31 : Int32) at_12 rfl ?_
  refine B.iand 15 rfl at_14 ?_
  refine B.iushr 16 rfl at_15 ?_
  refine B.ldcI 18 rfl at_16 (wd hw 1 rfl) ?_
  refine B.callS 21 rfl at_18 (wd hw 2 rfl) (wd hw 3 rfl) (wd hw 4 rfl) (wd hw 5 rfl) (by decide) [(.int (XT.ushr (p1 &&& (2147483647 : Int32)) (p2 &&& (31 : Int32)))), (.int (2147483644 : Int32))] [] (rm_min l Z a0 hw (XT.ushr (p1 &&& (2147483647 : Int32)) (p2 &&& (31 : Int32))) (2147483644 : Int32) h0) rfl rfl pd__II_I rfl rfl 0 rfl (by decide) (by decide) (by decide) (by decide) (fun _ q => nomatch q) ?_
  rintro _ _ - ⟨rfl, rfl⟩
  show B.G h0 0 0 (mkF m 21 #[.val (.int p1), .val (.int p2), .val (.int p3), .val (.int p4), .val (.int p5), .val (.int r), .unset, .unset, .unset, .unset, .unset, .unset, .unset, .unset, .unset, .unset, .unset, .unset, .unset, .unset, .unset, .unset, .unset] [(.int (if (2147483644 : Int32) < (XT.ushr (p1 &&& (2147483647 : Int32)) (p2 &&& (31 : Int32))) then (2147483644 : Int32) else (XT.ushr (p1 &&& (2147483647 : Int32)) (p2 &&& (31 : Int32)))))])
  have hs0 := own_s p1 p2
  have hs1 := own_min (XT.ushr (p1 &&& (2147483647 : Int32)) (p2 &&& (31 : Int32))) (2147483644 : Int32)
  generalize (if (2147483644 : Int32) < (XT.ushr (p1 &&& (2147483647 : Int32)) (p2 &&& (31 : Int32))) then (2147483644 : Int32) else (XT.ushr (p1 &&& (2147483647 : Int32)) (p2 &&& (31 : Int32)))) = s0 at hs1 ⊢
  simp only [Int32.reduceToInt] at hs1
  have h0s : 0 ≤ s0.toInt := by omega
  have h1s : s0.toInt ≤ 2147483644 := by omega
  have hz : s0 + 1 ≠ 0 := fun q => by
    have e1 : (s0 + 1).toInt = s0.toInt + 1 := Jvm.Kit.i32_add (by simp only [Int32.reduceToInt]; omega) (by simp only [Int32.reduceToInt]; omega)
    rw [q] at e1; simp only [Int32.reduceToInt] at e1; omega
  refine B.istore 23 rfl at_21 #[.val (.int p1), .val (.int p2), .val (.int p3), .val (.int p4), .val (.int p5), .val (.int r), .val (.int s0), .unset, .unset, .unset, .unset, .unset, .unset, .unset, .unset, .unset, .unset, .unset, .unset, .unset, .unset, .unset, .unset] rfl ?_
  refine B.iload 25 rfl at_23 rfl ?_
  refine B.iload 27 rfl at_25 rfl ?_
  refine B.iadd 28 rfl at_27 ?_
  refine B.istore 30 rfl at_28 #[.val (.int p1), .val (.int p2), .val (.int p3), .val (.int p4), .val (.int p5), .val (.int r), .val (.int s0), .val (.int (s0 + r)), .unset, .unset, .unset, .unset, .unset, .unset, .unset, .unset, .unset, .unset, .unset, .unset, .unset, .unset, .unset] rfl ?_
  refine B.iload 32 rfl at_30 rfl ?_
  refine B.iloadN 33 rfl at_32 rfl ?_
  refine B.iloadN 34 rfl at_33 rfl ?_
  refine B.bipush 36 rfl (7 : Int32) at_34 rfl ?_
  refine B.iushr 37 rfl at_36 ?_
  refine B.iconst 38 rfl (1 : Int32) at_37 rfl ?_
  refine B.iand 39 rfl at_38 ?_
  refine B.callS 42 rfl at_39 (wd hw 6 rfl) (wd hw 7 rfl) (wd hw 8 rfl) (wd hw 9 rfl) (by decide) [(.int s0), (.int p3), (.int ((XT.ushr p2 (7 : Int32)) &&& (1 : Int32)))] [] (rm_pick l Z a0 hw s0 p3 ((XT.ushr p2 (7 : Int32)) &&& (1 : Int32)) h0 hz) rfl rfl pd__III_I rfl rfl 0 rfl (by decide) (by decide) (by decide) (by decide) (fun _ q => nomatch q) ?_
  rintro _ _ - ⟨rfl, rfl⟩
  show B.G h0 0 0 (mkF m 42 #[.val (.int p1), .val (.int p2), .val (.int p3), .val (.int p4), .val (.int p5), .val (.int r), .val (.int s0), .val (.int (s0 + r)), .unset, .unset, .unset, .unset, .unset, .unset, .unset, .unset, .unset, .unset, .unset, .unset, .unset, .unset, .unset] [(.int (own_pick s0 p3 ((XT.ushr p2 (7 : Int32)) &&& (1 : Int32))))])
  obtain ⟨la0, lb0⟩ := own_pick_in s0 p3 ((XT.ushr p2 (7 : Int32)) &&& (1 : Int32)) h0s h1s
  generalize own_pick s0 p3 ((XT.ushr p2 (7 : Int32)) &&& (1 : Int32)) = y0 at la0 lb0 ⊢
  refine B.istore 44 rfl at_42 #[.val (.int p1), .val (.int p2), .val (.int p3), .val (.int p4), .val (.int p5), .val (.int r), .val (.int s0), .val (.int (s0 + r)), .val (.int y0), .unset, .unset, .unset, .unset, .unset, .unset, .unset, .unset, .unset, .unset, .unset, .unset, .unset, .unset] rfl ?_
  refine B.iload 46 rfl at_44 rfl ?_
  refine B.iloadN 47 rfl at_46 rfl ?_
  refine B.iloadN 48 rfl at_47 rfl ?_
  refine B.bipush 50 rfl (8 : Int32) at_48 rfl ?_
  refine B.iushr 51 rfl at_50 ?_
  refine B.iconst 52 rfl (1 : Int32) at_51 rfl ?_
  refine B.iand 53 rfl at_52 ?_
  refine B.callS 56 rfl at_53 (wd hw 6 rfl) (wd hw 7 rfl) (wd hw 8 rfl) (wd hw 9 rfl) (by decide) [(.int s0), (.int p4), (.int ((XT.ushr p2 (8 : Int32)) &&& (1 : Int32)))] [] (rm_pick l Z a0 hw s0 p4 ((XT.ushr p2 (8 : Int32)) &&& (1 : Int32)) h0 hz) rfl rfl pd__III_I rfl rfl 0 rfl (by decide) (by decide) (by decide) (by decide) (fun _ q => nomatch q) ?_
  rintro _ _ - ⟨rfl, rfl⟩
  show B.G h0 0 0 (mkF m 56 #[.val (.int p1), .val (.int p2), .val (.int p3), .val (.int p4), .val (.int p5), .val (.int r), .val (.int s0), .val (.int (s0 + r)), .val (.int y0), .unset, .unset, .unset, .unset, .unset, .unset, .unset, .unset, .unset, .unset, .unset, .unset, .unset, .unset] [(.int (own_pick s0 p4 ((XT.ushr p2 (8 : Int32)) &&& (1 : Int32))))])
  obtain ⟨la1, lb1⟩ := own_pick_in s0 p4 ((XT.ushr p2 (8 : Int32)) &&& (1 : Int32)) h0s h1s
  generalize own_pick s0 p4 ((XT.ushr p2 (8 : Int32)) &&& (1 : Int32)) = y1 at la1 lb1 ⊢
  refine B.istore 58 rfl at_56 #[.val (.int p1), .val (.int p2), .val (.int p3), .val (.int p4), .val (.int p5), .val (.int r), .val (.int s0), .val (.int (s0 + r)), .val (.int y0), .val (.int y1), .unset, .unset, .unset, .unset, .unset, .unset, .unset, .unset, .unset, .unset, .unset, .unset, .unset] rfl ?_
  refine B.iload 60 rfl at_58 rfl ?_
  refine B.iload 62 rfl at_60 rfl ?_
  refine B.iloadN 63 rfl at_62 rfl ?_
  refine B.bipush 65 rfl (9 : Int32) at_63 rfl ?_
  refine B.iushr 66 rfl at_65 ?_
  refine B.iconst 67 rfl (1 : Int32) at_66 rfl ?_
  refine B.iand 68 rfl at_67 ?_
  refine B.callS 71 rfl at_68 (wd hw 6 rfl) (wd hw 7 rfl) (wd hw 8 rfl) (wd hw 9 rfl) (by decide) [(.int s0), (.int p5), (.int ((XT.ushr p2 (9 : Int32)) &&& (1 : Int32)))] [] (rm_pick l Z a0 hw s0 p5 ((XT.ushr p2 (9 : Int32)) &&& (1 : Int32)) h0 hz) rfl rfl pd__III_I rfl rfl 0 rfl (by decide) (by decide) (by decide) (by decide) (fun _ q => nomatch q) ?_
  rintro _ _ - ⟨rfl, rfl⟩
  show B.G h0 0 0 (mkF m 71 #[.val (.int p1), .val (.int p2), .val (.int p3), .val (.int p4), .val (.int p5), .val (.int r), .val (.int s0), .val (.int (s0 + r)), .val (.int y0), .val (.int y1), .unset, .unset, .unset, .unset, .unset, .unset, .unset, .unset, .unset, .unset, .unset, .unset, .unset] [(.int (own_pick s0 p5 ((XT.ushr p2 (9 : Int32)) &&& (1 : Int32))))])
  obtain ⟨la2, lb2⟩ := own_pick_in s0 p5 ((XT.ushr p2 (9 : Int32)) &&& (1 : Int32)) h0s h1s
  generalize own_pick s0 p5 ((XT.ushr p2 (9 : Int32)) &&& (1 : Int32)) = y2 at la2 lb2 ⊢
  refine B.istore 73 rfl at_71 #[.val (.int p1), .val (.int p2), .val (.int p3), .val (.int p4), .val (.int p5), .val (.int r), .val (.int s0), .val (.int (s0 + r)), .val (.int y0), .val (.int y1), .val (.int y2), .unset, .unset, .unset, .unset, .unset, .unset, .unset, .unset, .unset, .unset, .unset, .unset] rfl ?_
  refine B.iload 75 rfl at_73 rfl ?_
  refine B.iload 77 rfl at_75 rfl ?_
  have J : ∀ (x0 x1 x2 : Int32) (u : Slot), 0 ≤ x0.toInt → x0.toInt ≤ x1.toInt → x1.toInt ≤ x2.toInt → x2.toInt ≤ s0.toInt → B.G h0 0 0 (mkF m 130 #[.val (.int p1), .val (.int p2), .val (.int p3), .val (.int p4), .val (.int p5), .val (.int r), .val (.int s0), .val (.int (s0 + r)), .val (.int x0), .val (.int x1), .val (.int x2), u, .unset, .unset, .unset, .unset, .unset, .unset, .unset, .unset, .unset, .unset, .unset] []) := by
    intro x0 x1 x2 u g0 g1 g2 g3
    rcases hr with rfl | rfl | rfl | rfl
    · refine B.iconst 131 rfl (0 : Int32) at_130 rfl ?_
      refine B.newP 133 rfl at_131 (wd hw 10 rfl) (by decide) 0 (by decide) (by decide) (by decide) (by decide) ?_
      intro hn0 d0 ed0 gd0 X0 A0
      replace A0 : Ary Z hn0 d0 .int [] := A0
      show B.G hn0 1 0 (mkF m 133 #[.val (.int p1), .val (.int p2), .val (.int p3), .val (.int p4), .val (.int p5), .val (.int (0 : Int32)), .val (.int s0), .val (.int (s0 + (0 : Int32))), .val (.int x0), .val (.int x1), .val (.int x2), u, .unset, .unset, .unset, .unset, .unset, .unset, .unset, .unset, .unset, .unset, .unset] [(.ref d0)])
      refine B.astore 135 rfl at_133 rfl #[.val (.int p1), .val (.int p2), .val (.int p3), .val (.int p4), .val (.int p5), .val (.int (0 : Int32)), .val (.int s0), .val (.int (s0 + (0 : Int32))), .val (.int x0), .val (.int x1), .val (.int x2), u, .val (.ref d0), .unset, .unset, .unset, .unset, .unset, .unset, .unset, .unset, .unset, .unset] rfl ?_
      refine B.iconst 136 rfl (1 : Int32) at_135 rfl ?_
      refine B.newP 138 rfl at_136 (wd hw 10 rfl) (by decide) 1 (by decide) (by decide) (by decide) (by decide) ?_
      intro hn1 d1 ed1 gd1 X1 A1
      replace A1 : Ary Z hn1 d1 .int [(.int (0 : Int32))] := A1
      show B.G hn1 2 1 (mkF m 138 #[.val (.int p1), .val (.int p2), .val (.int p3), .val (.int p4), .val (.int p5), .val (.int (0 : Int32)), .val (.int s0), .val (.int (s0 + (0 : Int32))), .val (.int x0), .val (.int x1), .val (.int x2), u, .val (.ref d0), .unset, .unset, .unset, .unset, .unset, .unset, .unset, .unset, .unset, .unset] [(.ref d1)])
      have n_d0_d1 : d0 ≠ d1 := fun q => absurd A0.lt (by rw [q, ed1]; exact Nat.lt_irrefl _)
      have A0_2 := A0.ext X1
      refine B.astore 140 rfl at_138 rfl #[.val (.int p1), .val (.int p2), .val (.int p3), .val (.int p4), .val (.int p5), .val (.int (0 : Int32)), .val (.int s0), .val (.int (s0 + (0 : Int32))), .val (.int x0), .val (.int x1), .val (.int x2), u, .val (.ref d0), .val (.ref d1), .unset, .unset, .unset, .unset, .unset, .unset, .unset, .unset, .unset] rfl ?_
      refine B.iconst 141 rfl (2 : Int32) at_140 rfl ?_
      refine B.newP 143 rfl at_141 (wd hw 10 rfl) (by decide) 2 (by decide) (by decide) (by decide) (by decide) ?_
      intro hn2 d2 ed2 gd2 X2 A2
      replace A2 : Ary Z hn2 d2 .int [(.int (0 : Int32)), (.int (0 : Int32))] := A2
      show B.G hn2 3 3 (mkF m 143 #[.val (.int p1), .val (.int p2), .val (.int p3), .val (.int p4), .val (.int p5), .val (.int (0 : Int32)), .val (.int s0), .val (.int (s0 + (0 : Int32))), .val (.int x0), .val (.int x1), .val (.int x2), u, .val (.ref d0), .val (.ref d1), .unset, .unset, .unset, .unset, .unset, .unset, .unset, .unset, .unset] [(.ref d2)])
      have n_d0_d2 : d0 ≠ d2 := fun q => absurd A0_2.lt (by rw [q, ed2]; exact Nat.lt_irrefl _)
      have n_d1_d2 : d1 ≠ d2 := fun q => absurd A1.lt (by rw [q, ed2]; exact Nat.lt_irrefl _)
      have A0_3 := A0_2.ext X2
      have A1_3 := A1.ext X2
      refine B.astore 145 rfl at_143 rfl #[.val (.int p1), .val (.int p2), .val (.int p3), .val (.int p4), .val (.int p5), .val (.int (0 : Int32)), .val (.int s0), .val (.int (s0 + (0 : Int32))), .val (.int x0), .val (.int x1), .val (.int x2), u, .val (.ref d0), .val (.ref d1), .val (.ref d2), .unset, .unset, .unset, .unset, .unset, .unset, .unset, .unset] rfl ?_
      refine B.iconst 146 rfl (3 : Int32) at_145 rfl ?_
      refine B.newP 148 rfl at_146 (wd hw 10 rfl) (by decide) 3 (by decide) (by decide) (by decide) (by decide) ?_
      intro hn3 d3 ed3 gd3 X3 A3
      replace A3 : Ary Z hn3 d3 .int [(.int (0 : Int32)), (.int (0 : Int32)), (.int (0 : Int32))] := A3
      show B.G hn3 4 6 (mkF m 148 #[.val (.int p1), .val (.int p2), .val (.int p3), .val (.int p4), .val (.int p5), .val (.int (0 : Int32)), .val (.int s0), .val (.int (s0 + (0 : Int32))), .val (.int x0), .val (.int x1), .val (.int x2), u, .val (.ref d0), .val (.ref d1), .val (.ref d2), .unset, .unset, .unset, .unset, .unset, .unset, .unset, .unset] [(.ref d3)])
      have n_d0_d3 : d0 ≠ d3 := fun q => absurd A0_3.lt (by rw [q, ed3]; exact Nat.lt_irrefl _)
      have n_d1_d3 : d1 ≠ d3 := fun q => absurd A1_3.lt (by rw [q, ed3]; exact Nat.lt_irrefl _)
      have n_d2_d3 : d2 ≠ d3 := fun q => absurd A2.lt (by rw [q, ed3]; exact Nat.lt_irrefl _)
      have A0_4 := A0_3.ext X3
      have A1_4 := A1_3.ext X3
      have A2_4 := A2.ext X3
      refine B.astore 150 rfl at_148 rfl #[.val (.int p1), .val (.int p2), .val (.int p3), .val (.int p4), .val (.int p5), .val (.int (0 : Int32)), .val (.int s0), .val (.int (s0 + (0 : Int32))), .val (.int x0), .val (.int x1), .val (.int x2), u, .val (.ref d0), .val (.ref d1), .val (.ref d2), .val (.ref d3), .unset, .unset, .unset, .unset, .unset, .unset, .unset] rfl ?_
      refine B.iload 152 rfl at_150 rfl ?_
      refine B.if0_ne 162 155 rfl (by decide) rfl at_152 (fun c152 => ?_) (fun c152 => ?_)
      · exact absurd c152 (by decide)
      · refine B.aload 157 rfl at_155 rfl rfl ?_
        refine B.astore 159 rfl at_157 rfl #[.val (.int p1), .val (.int p2), .val (.int p3), .val (.int p4), .val (.int p5), .val (.int (0 : Int32)), .val (.int s0), .val (.int (s0 + (0 : Int32))), .val (.int x0), .val (.int x1), .val (.int x2), u, .val (.ref d0), .val (.ref d1), .val (.ref d2), .val (.ref d3), .val (.ref d0), .unset, .unset, .unset, .unset, .unset, .unset] rfl ?_
        refine B.goto 192 rfl (by decide) at_159 ?_
        refine B.iload 194 rfl at_192 rfl ?_
        refine B.iconst 195 rfl (1 : Int32) at_194 rfl ?_
        refine B.icmp_lt 204 198 rfl (by decide) rfl at_195 (fun c195 => ?_) (fun c195 => ?_)
        · refine B.iload 206 rfl at_204 rfl ?_
          refine B.iconst 207 rfl (2 : Int32) at_206 rfl ?_
          refine B.icmp_lt 218 210 rfl (by decide) rfl at_207 (fun c207 => ?_) (fun c207 => ?_)
          · refine B.iload 220 rfl at_218 rfl ?_
            refine B.iconst 221 rfl (3 : Int32) at_220 rfl ?_
            refine B.icmp_lt 232 224 rfl (by decide) rfl at_221 (fun c221 => ?_) (fun c221 => ?_)
            · refine B.aload 234 rfl at_232 rfl rfl ?_
              refine B.iload 236 rfl at_234 rfl ?_
              refine B.callS 239 rfl at_236 (wd hw 11 rfl) (wd hw 12 rfl) (wd hw 13 rfl) (wd hw 14 rfl) (by decide) [(.ref d0), (.int (s0 + (0 : Int32)))] [] (rm_next0 l Z a0 hw d0 (s0 + (0 : Int32))  hn3 A0_4) rfl rfl pd___II_Z rfl rfl 0 rfl (by decide) (by decide) (by decide) (by decide) (fun x z => Or.inr (by cases List.mem_singleton.mp z; exact gd0)) ?_
              rintro _ h1 Kn (⟨rfl, An⟩)
              · show B.G h1 4 6 (mkF m 239 #[.val (.int p1), .val (.int p2), .val (.int p3), .val (.int p4), .val (.int p5), .val (.int (0 : Int32)), .val (.int s0), .val (.int (s0 + (0 : Int32))), .val (.int x0), .val (.int x1), .val (.int x2), u, .val (.ref d0), .val (.ref d1), .val (.ref d2), .val (.ref d3), .val (.ref d0), .unset, .unset, .unset, .unset, .unset, .unset] [(.int (0 : Int32))])
                have hx : True := by first | trivial | (simp only [← Int32.toInt_inj] at *; omega)
                refine B.istore 241 rfl at_239 #[.val (.int p1), .val (.int p2), .val (.int p3), .val (.int p4), .val (.int p5), .val (.int (0 : Int32)), .val (.int s0), .val (.int (s0 + (0 : Int32))), .val (.int x0), .val (.int x1), .val (.int x2), u, .val (.ref d0), .val (.ref d1), .val (.ref d2), .val (.ref d3), .val (.ref d0), .val (.int (0 : Int32)), .unset, .unset, .unset, .unset, .unset] rfl ?_
                refine B.iload 243 rfl at_241 rfl ?_
                refine B.istore 245 rfl at_243 #[.val (.int p1), .val (.int p2), .val (.int p3), .val (.int p4), .val (.int p5), .val (.int (0 : Int32)), .val (.int s0), .val (.int (s0 + (0 : Int32))), .val (.int x0), .val (.int x1), .val (.int x2), u, .val (.ref d0), .val (.ref d1), .val (.ref d2), .val (.ref d3), .val (.ref d0), .val (.int (0 : Int32)), .val (.int x0), .unset, .unset, .unset, .unset] rfl ?_
                refine B.iload 247 rfl at_245 rfl ?_
                refine B.istore 249 rfl at_247 #[.val (.int p1), .val (.int p2), .val (.int p3), .val (.int p4), .val (.int p5), .val (.int (0 : Int32)), .val (.int s0), .val (.int (s0 + (0 : Int32))), .val (.int x0), .val (.int x1), .val (.int x2), u, .val (.ref d0), .val (.ref d1), .val (.ref d2), .val (.ref d3), .val (.ref d0), .val (.int (0 : Int32)), .val (.int x0), .val (.int x1), .unset, .unset, .unset] rfl ?_
                refine B.iload 251 rfl at_249 rfl ?_
                refine B.istore 253 rfl at_251 #[.val (.int p1), .val (.int p2), .val (.int p3), .val (.int p4), .val (.int p5), .val (.int (0 : Int32)), .val (.int s0), .val (.int (s0 + (0 : Int32))), .val (.int x0), .val (.int x1), .val (.int x2), u, .val (.ref d0), .val (.ref d1), .val (.ref d2), .val (.ref d3), .val (.ref d0), .val (.int (0 : Int32)), .val (.int x0), .val (.int x1), .val (.int x2), .unset, .unset] rfl ?_
                refine B.iload 255 rfl at_253 rfl ?_
                refine B.if0_ne 264 258 rfl (by decide) rfl at_255 (fun c255 => ?_) (fun c255 => ?_)
                · exact absurd c255 (by decide)
                · refine B.iconst 259 rfl (0 : Int32) at_258 rfl ?_
                  refine B.istore 261 rfl at_259 #[.val (.int p1), .val (.int p2), .val (.int p3), .val (.int p4), .val (.int p5), .val (.int (0 : Int32)), .val (.int s0), .val (.int (s0 + (0 : Int32))), .val (.int x0), .val (.int x1), .val (.int x2), u, .val (.ref d0), .val (.ref d1), .val (.ref d2), .val (.ref d3), .val (.ref d0), .val (.int (0 : Int32)), .val (.int x0), .val (.int x1), .val (.int x2), .val (.int (0 : Int32)), .unset] rfl ?_
                  refine B.goto 421 rfl (by decide) at_261 ?_
                  refine B.iload 423 rfl at_421 rfl ?_
                  refine B.iload 425 rfl at_423 rfl ?_
                  refine B.icmp_ne 432 428 rfl (by decide) rfl at_425 (fun c425 => ?_) (fun c425 => ?_)
                  · exact absurd c425 (by decide)
                  · refine B.iconst 429 rfl (1 : Int32) at_428 rfl ?_
                    refine B.goto 433 rfl (by decide) at_429 ?_
                    refine B.istore 435 rfl at_433 #[.val (.int p1), .val (.int p2), .val (.int p3), .val (.int p4), .val (.int p5), .val (.int (0 : Int32)), .val (.int s0), .val (.int (s0 + (0 : Int32))), .val (.int x0), .val (.int x1), .val (.int x2), u, .val (.ref d0), .val (.ref d1), .val (.ref d2), .val (.ref d3), .val (.ref d0), .val (.int (0 : Int32)), .val (.int x0), .val (.int x1), .val (.int x2), .val (.int (0 : Int32)), .val (.int (1 : Int32))] rfl ?_
                    refine B.iload 437 rfl at_435 rfl ?_
                    refine B.iconst 438 rfl (1 : Int32) at_437 rfl ?_
                    refine B.icmp_lt 462 441 rfl (by decide) rfl at_438 (fun c438 => ?_) (fun c438 => ?_)
                    · refine B.iload 464 rfl at_462 rfl ?_
                      refine B.iconst 465 rfl (2 : Int32) at_464 rfl ?_
                      refine B.icmp_lt 491 468 rfl (by decide) rfl at_465 (fun c465 => ?_) (fun c465 => ?_)
                      · refine B.iload 493 rfl at_491 rfl ?_
                        refine B.iconst 494 rfl (3 : Int32) at_493 rfl ?_
                        refine B.icmp_lt 520 497 rfl (by decide) rfl at_494 (fun c494 => ?_) (fun c494 => ?_)
                        · refine B.iload 522 rfl at_520 rfl ?_
                          refine B.retN (by simp) at_522 (by decide) (by decide) ?_
                          exact rfl
                        · exact absurd c494 (by decide)
                      · exact absurd c465 (by decide)
                    · exact absurd c438 (by decide)
            · exact absurd c221 (by decide)
          · exact absurd c207 (by decide)
        · exact absurd c195 (by decide)
    · refine B.iconst 131 rfl (0 : Int32) at_130 rfl ?_
      refine B.newP 133 rfl at_131 (wd hw 10 rfl) (by decide) 0 (by decide) (by decide) (by decide) (by decide) ?_
      intro hn0 d0 ed0 gd0 X0 A0
      replace A0 : Ary Z hn0 d0 .int [] := A0
      show B.G hn0 1 0 (mkF m 133 #[.val (.int p1), .val (.int p2), .val (.int p3), .val (.int p4), .val (.int p5), .val (.int (1 : Int32)), .val (.int s0), .val (.int (s0 + (1 : Int32))), .val (.int x0), .val (.int x1), .val (.int x2), u, .unset, .unset, .unset, .unset, .unset, .unset, .unset, .unset, .unset, .unset, .unset] [(.ref d0)])
      refine B.astore 135 rfl at_133 rfl #[.val (.int p1), .val (.int p2), .val (.int p3), .val (.int p4), .val (.int p5), .val (.int (1 : Int32)), .val (.int s0), .val (.int (s0 + (1 : Int32))), .val (.int x0), .val (.int x1), .val (.int x2), u, .val (.ref d0), .unset, .unset, .unset, .unset, .unset, .unset, .unset, .unset, .unset, .unset] rfl ?_
      refine B.iconst 136 rfl (1 : Int32) at_135 rfl ?_
      refine B.newP 138 rfl at_136 (wd hw 10 rfl) (by decide) 1 (by decide) (by decide) (by decide) (by decide) ?_
      intro hn1 d1 ed1 gd1 X1 A1
      replace A1 : Ary Z hn1 d1 .int [(.int (0 : Int32))] := A1
      show B.G hn1 2 1 (mkF m 138 #[.val (.int p1), .val (.int p2), .val (.int p3), .val (.int p4), .val (.int p5), .val (.int (1 : Int32)), .val (.int s0), .val (.int (s0 + (1 : Int32))), .val (.int x0), .val (.int x1), .val (.int x2), u, .val (.ref d0), .unset, .unset, .unset, .unset, .unset, .unset, .unset, .unset, .unset, .unset] [(.ref d1)])
      have n_d0_d1 : d0 ≠ d1 := fun q => absurd A0.lt (by rw [q, ed1]; exact Nat.lt_irrefl _)
      have A0_2 := A0.ext X1
      refine B.astore 140 rfl at_138 rfl #[.val (.int p1), .val (.int p2), .val (.int p3), .val (.int p4), .val (.int p5), .val (.int (1 : Int32)), .val (.int s0), .val (.int (s0 + (1 : Int32))), .val (.int x0), .val (.int x1), .val (.int x2), u, .val (.ref d0), .val (.ref d1), .unset, .unset, .unset, .unset, .unset, .unset, .unset, .unset, .unset] rfl ?_
      refine B.iconst 141 rfl (2 : Int32) at_140 rfl ?_
      refine B.newP 143 rfl at_141 (wd hw 10 rfl) (by decide) 2 (by decide) (by decide) (by decide) (by decide) ?_
      intro hn2 d2 ed2 gd2 X2 A2
      replace A2 : Ary Z hn2 d2 .int [(.int (0 : Int32)), (.int (0 : Int32))] := A2
      show B.G hn2 3 3 (mkF m 143 #[.val (.int p1), .val (.int p2), .val (.int p3), .val (.int p4), .val (.int p5), .val (.int (1 : Int32)), .val (.int s0), .val (.int (s0 + (1 : Int32))), .val (.int x0), .val (.int x1), .val (.int x2), u, .val (.ref d0), .val (.ref d1), .unset, .unset, .unset, .unset, .unset, .unset, .unset, .unset, .unset] [(.ref d2)])
      have n_d0_d2 : d0 ≠ d2 := fun q => absurd A0_2.lt (by rw [q, ed2]; exact Nat.lt_irrefl _)
      have n_d1_d2 : d1 ≠ d2 := fun q => absurd A1.lt (by rw [q, ed2]; exact Nat.lt_irrefl _)
      have A0_3 := A0_2.ext X2
      have A1_3 := A1.ext X2
      refine B.astore 145 rfl at_143 rfl #[.val (.int p1), .val (.int p2), .val (.int p3), .val (.int p4), .val (.int p5), .val (.int (1 : Int32)), .val (.int s0), .val (.int (s0 + (1 : Int32))), .val (.int x0), .val (.int x1), .val (.int x2), u, .val (.ref d0), .val (.ref d1), .val (.ref d2), .unset, .unset, .unset, .unset, .unset, .unset, .unset, .unset] rfl ?_
      refine B.iconst 146 rfl (3 : Int32) at_145 rfl ?_
      refine B.newP 148 rfl at_146 (wd hw 10 rfl) (by decide) 3 (by decide) (by decide) (by decide) (by decide) ?_
      intro hn3 d3 ed3 gd3 X3 A3
      replace A3 : Ary Z hn3 d3 .int [(.int (0 : Int32)), (.int (0 : Int32)), (.int (0 : Int32))] := A3
      show B.G hn3 4 6 (mkF m 148 #[.val (.int p1), .val (.int p2), .val (.int p3), .val (.int p4), .val (.int p5), .val (.int (1 : Int32)), .val (.int s0), .val (.int (s0 + (1 : Int32))), .val (.int x0), .val (.int x1), .val (.int x2), u, .val (.ref d0), .val (.ref d1), .val (.ref d2), .unset, .unset, .unset, .unset, .unset, .unset, .unset, .unset] [(.ref d3)])
      have n_d0_d3 : d0 ≠ d3 := fun q => absurd A0_3.lt (by rw [q, ed3]; exact Nat.lt_irrefl _)
      have n_d1_d3 : d1 ≠ d3 := fun q => absurd A1_3.lt (by rw [q, ed3]; exact Nat.lt_irrefl _)
      have n_d2_d3 : d2 ≠ d3 := fun q => absurd A2.lt (by rw [q, ed3]; exact Nat.lt_irrefl _)
      have A0_4 := A0_3.ext X3
      have A1_4 := A1_3.ext X3
      have A2_4 := A2.ext X3
      refine B.astore 150 rfl at_148 rfl #[.val (.int p1), .val (.int p2), .val (.int p3), .val (.int p4), .val (.int p5), .val (.int (1 : Int32)), .val (.int s0), .val (.int (s0 + (1 : Int32))), .val (.int x0), .val (.int x1), .val (.int x2), u, .val (.ref d0), .val (.ref d1), .val (.ref d2), .val (.ref d3), .unset, .unset, .unset, .unset, .unset, .unset, .unset] rfl ?_
      refine B.iload 152 rfl at_150 rfl ?_
      refine B.if0_ne 162 155 rfl (by decide) rfl at_152 (fun c152 => ?_) (fun c152 => ?_)
      · refine B.iload 164 rfl at_162 rfl ?_
        refine B.iconst 165 rfl (1 : Int32) at_164 rfl ?_
        refine B.icmp_ne 175 168 rfl (by decide) rfl at_165 (fun c165 => ?_) (fun c165 => ?_)
        · exact absurd c165 (by decide)
        · refine B.aload 170 rfl at_168 rfl rfl ?_
          refine B.astore 172 rfl at_170 rfl #[.val (.int p1), .val (.int p2), .val (.int p3), .val (.int p4), .val (.int p5), .val (.int (1 : Int32)), .val (.int s0), .val (.int (s0 + (1 : Int32))), .val (.int x0), .val (.int x1), .val (.int x2), u, .val (.ref d0), .val (.ref d1), .val (.ref d2), .val (.ref d3), .val (.ref d1), .unset, .unset, .unset, .unset, .unset, .unset] rfl ?_
          refine B.goto 192 rfl (by decide) at_172 ?_
          refine B.iload 194 rfl at_192 rfl ?_
          refine B.iconst 195 rfl (1 : Int32) at_194 rfl ?_
          refine B.icmp_lt 204 198 rfl (by decide) rfl at_195 (fun c195 => ?_) (fun c195 => ?_)
          · exact absurd c195 (by decide)
          · refine B.aload 200 rfl at_198 rfl rfl ?_
            refine B.iconst 201 rfl (0 : Int32) at_200 rfl ?_
            refine B.iload 203 rfl at_201 rfl ?_
            refine B.iastore 204 rfl at_203 A1_4 (by decide) 0 rfl (by simp) (Or.inr gd1) ?_
            intro h2 W2 B2
            replace B2 : Ary Z h2 d1 .int [(.int x0)] := B2
            refine B.iload 206 rfl at_204 rfl ?_
            refine B.iconst 207 rfl (2 : Int32) at_206 rfl ?_
            refine B.icmp_lt 218 210 rfl (by decide) rfl at_207 (fun c207 => ?_) (fun c207 => ?_)
            · refine B.iload 220 rfl at_218 rfl ?_
              refine B.iconst 221 rfl (3 : Int32) at_220 rfl ?_
              refine B.icmp_lt 232 224 rfl (by decide) rfl at_221 (fun c221 => ?_) (fun c221 => ?_)
              · refine B.aload 234 rfl at_232 rfl rfl ?_
                refine B.iload 236 rfl at_234 rfl ?_
                refine B.callS 239 rfl at_236 (wd hw 11 rfl) (wd hw 12 rfl) (wd hw 13 rfl) (wd hw 14 rfl) (by decide) [(.ref d1), (.int (s0 + (1 : Int32)))] [] (rm_next1 l Z a0 hw d1 (s0 + (1 : Int32)) x0 h2 B2) rfl rfl pd___II_Z rfl rfl 0 rfl (by decide) (by decide) (by decide) (by decide) (fun x z => Or.inr (by cases List.mem_singleton.mp z; exact gd1)) ?_
                rintro _ h3 Kn (⟨q0, rfl, An⟩ | ⟨q0, rfl, An⟩)
                · show B.G h3 4 6 (mkF m 239 #[.val (.int p1), .val (.int p2), .val (.int p3), .val (.int p4), .val (.int p5), .val (.int (1 : Int32)), .val (.int s0), .val (.int (s0 + (1 : Int32))), .val (.int x0), .val (.int x1), .val (.int x2), u, .val (.ref d0), .val (.ref d1), .val (.ref d2), .val (.ref d3), .val (.ref d1), .unset, .unset, .unset, .unset, .unset, .unset] [(.int (1 : Int32))])
                  rw [own_cancel, own_z] at q0
                  have hx : x0.toInt < s0.toInt := by first | trivial | (simp only [← Int32.toInt_inj] at *; omega)
                  refine B.istore 241 rfl at_239 #[.val (.int p1), .val (.int p2), .val (.int p3), .val (.int p4), .val (.int p5), .val (.int (1 : Int32)), .val (.int s0), .val (.int (s0 + (1 : Int32))), .val (.int x0), .val (.int x1), .val (.int x2), u, .val (.ref d0), .val (.ref d1), .val (.ref d2), .val (.ref d3), .val (.ref d1), .val (.int (1 : Int32)), .unset, .unset, .unset, .unset, .unset] rfl ?_
                  refine B.iload 243 rfl at_241 rfl ?_
                  refine B.istore 245 rfl at_243 #[.val (.int p1), .val (.int p2), .val (.int p3), .val (.int p4), .val (.int p5), .val (.int (1 : Int32)), .val (.int s0), .val (.int (s0 + (1 : Int32))), .val (.int x0), .val (.int x1), .val (.int x2), u, .val (.ref d0), .val (.ref d1), .val (.ref d2), .val (.ref d3), .val (.ref d1), .val (.int (1 : Int32)), .val (.int x0), .unset, .unset, .unset, .unset] rfl ?_
                  refine B.iload 247 rfl at_245 rfl ?_
                  refine B.istore 249 rfl at_247 #[.val (.int p1), .val (.int p2), .val (.int p3), .val (.int p4), .val (.int p5), .val (.int (1 : Int32)), .val (.int s0), .val (.int (s0 + (1 : Int32))), .val (.int x0), .val (.int x1), .val (.int x2), u, .val (.ref d0), .val (.ref d1), .val (.ref d2), .val (.ref d3), .val (.ref d1), .val (.int (1 : Int32)), .val (.int x0), .val (.int x1), .unset, .unset, .unset] rfl ?_
                  refine B.iload 251 rfl at_249 rfl ?_
                  refine B.istore 253 rfl at_251 #[.val (.int p1), .val (.int p2), .val (.int p3), .val (.int p4), .val (.int p5), .val (.int (1 : Int32)), .val (.int s0), .val (.int (s0 + (1 : Int32))), .val (.int x0), .val (.int x1), .val (.int x2), u, .val (.ref d0), .val (.ref d1), .val (.ref d2), .val (.ref d3), .val (.ref d1), .val (.int (1 : Int32)), .val (.int x0), .val (.int x1), .val (.int x2), .unset, .unset] rfl ?_
                  refine B.iload 255 rfl at_253 rfl ?_
                  refine B.if0_ne 264 258 rfl (by decide) rfl at_255 (fun c255 => ?_) (fun c255 => ?_)
                  · refine B.iload 266 rfl at_264 rfl ?_
                    refine B.iconst 267 rfl (1 : Int32) at_266 rfl ?_
                    refine B.icmp_ne 295 270 rfl (by decide) rfl at_267 (fun c267 => ?_) (fun c267 => ?_)
                    · exact absurd c267 (by decide)
                    · refine B.iload 272 rfl at_270 rfl ?_
                      refine B.iload 274 rfl at_272 rfl ?_
                      refine B.icmp_ge 289 277 rfl (by decide) rfl at_274 (fun c274 => ?_) (fun c274 => ?_)
                      · exfalso; rw [Int32.lt_iff_toInt_lt] at c274; omega
                      · refine B.iload 279 rfl at_277 rfl ?_
                        refine B.iconst 280 rfl (1 : Int32) at_279 rfl ?_
                        refine B.iadd 281 rfl at_280 ?_
                        refine B.istore 283 rfl at_281 #[.val (.int p1), .val (.int p2), .val (.int p3), .val (.int p4), .val (.int p5), .val (.int (1 : Int32)), .val (.int s0), .val (.int (s0 + (1 : Int32))), .val (.int x0), .val (.int x1), .val (.int x2), u, .val (.ref d0), .val (.ref d1), .val (.ref d2), .val (.ref d3), .val (.ref d1), .val (.int (1 : Int32)), .val (.int (x0 + (1 : Int32))), .val (.int x1), .val (.int x2), .unset, .unset] rfl ?_
                        refine B.iconst 284 rfl (1 : Int32) at_283 rfl ?_
                        refine B.istore 286 rfl at_284 #[.val (.int p1), .val (.int p2), .val (.int p3), .val (.int p4), .val (.int p5), .val (.int (1 : Int32)), .val (.int s0), .val (.int (s0 + (1 : Int32))), .val (.int x0), .val (.int x1), .val (.int x2), u, .val (.ref d0), .val (.ref d1), .val (.ref d2), .val (.ref d3), .val (.ref d1), .val (.int (1 : Int32)), .val (.int (x0 + (1 : Int32))), .val (.int x1), .val (.int x2), .val (.int (1 : Int32)), .unset] rfl ?_
                        refine B.goto 421 rfl (by decide) at_286 ?_
                        refine B.iload 423 rfl at_421 rfl ?_
                        refine B.iload 425 rfl at_423 rfl ?_
                        refine B.icmp_ne 432 428 rfl (by decide) rfl at_425 (fun c425 => ?_) (fun c425 => ?_)
                        · exact absurd c425 (by decide)
                        · refine B.iconst 429 rfl (1 : Int32) at_428 rfl ?_
                          refine B.goto 433 rfl (by decide) at_429 ?_
                          refine B.istore 435 rfl at_433 #[.val (.int p1), .val (.int p2), .val (.int p3), .val (.int p4), .val (.int p5), .val (.int (1 : Int32)), .val (.int s0), .val (.int (s0 + (1 : Int32))), .val (.int x0), .val (.int x1), .val (.int x2), u, .val (.ref d0), .val (.ref d1), .val (.ref d2), .val (.ref d3), .val (.ref d1), .val (.int (1 : Int32)), .val (.int (x0 + (1 : Int32))), .val (.int x1), .val (.int x2), .val (.int (1 : Int32)), .val (.int (1 : Int32))] rfl ?_
                          refine B.iload 437 rfl at_435 rfl ?_
                          refine B.iconst 438 rfl (1 : Int32) at_437 rfl ?_
                          refine B.icmp_lt 462 441 rfl (by decide) rfl at_438 (fun c438 => ?_) (fun c438 => ?_)
                          · exact absurd c438 (by decide)
                          · refine B.iload 443 rfl at_441 rfl ?_
                            refine B.if0_eq 459 446 rfl (by decide) rfl at_443 (fun c443 => ?_) (fun c443 => ?_)
                            · exact absurd c443 (by decide)
                            · refine B.aload 448 rfl at_446 rfl rfl ?_
                              refine B.iconst 449 rfl (0 : Int32) at_448 rfl ?_
                              refine B.iaload 450 rfl at_449 An (by decide) 0 rfl (.int (x0 + (1 : Int32))) rfl ?_
                              refine B.iload 452 rfl at_450 rfl ?_
                              refine B.icmp_ne 459 455 rfl (by decide) rfl at_452 (fun c452 => ?_) (fun c452 => ?_)
                              · exact absurd (by first | rfl | (simp only [Int32.add_assoc]; done) | (simp only [Int32.add_assoc]; rfl)) c452
                              · refine B.iconst 456 rfl (1 : Int32) at_455 rfl ?_
                                refine B.goto 460 rfl (by decide) at_456 ?_
                                refine B.istore 462 rfl at_460 #[.val (.int p1), .val (.int p2), .val (.int p3), .val (.int p4), .val (.int p5), .val (.int (1 : Int32)), .val (.int s0), .val (.int (s0 + (1 : Int32))), .val (.int x0), .val (.int x1), .val (.int x2), u, .val (.ref d0), .val (.ref d1), .val (.ref d2), .val (.ref d3), .val (.ref d1), .val (.int (1 : Int32)), .val (.int (x0 + (1 : Int32))), .val (.int x1), .val (.int x2), .val (.int (1 : Int32)), .val (.int (1 : Int32))] rfl ?_
                                refine B.iload 464 rfl at_462 rfl ?_
                                refine B.iconst 465 rfl (2 : Int32) at_464 rfl ?_
                                refine B.icmp_lt 491 468 rfl (by decide) rfl at_465 (fun c465 => ?_) (fun c465 => ?_)
                                · refine B.iload 493 rfl at_491 rfl ?_
                                  refine B.iconst 494 rfl (3 : Int32) at_493 rfl ?_
                                  refine B.icmp_lt 520 497 rfl (by decide) rfl at_494 (fun c494 => ?_) (fun c494 => ?_)
                                  · refine B.iload 522 rfl at_520 rfl ?_
                                    refine B.retN (by simp) at_522 (by decide) (by decide) ?_
                                    exact rfl
                                  · exact absurd c494 (by decide)
                                · exact absurd c465 (by decide)
                  · exact absurd c255 (by decide)
                · show B.G h3 4 6 (mkF m 239 #[.val (.int p1), .val (.int p2), .val (.int p3), .val (.int p4), .val (.int p5), .val (.int (1 : Int32)), .val (.int s0), .val (.int (s0 + (1 : Int32))), .val (.int x0), .val (.int x1), .val (.int x2), u, .val (.ref d0), .val (.ref d1), .val (.ref d2), .val (.ref d3), .val (.ref d1), .unset, .unset, .unset, .unset, .unset, .unset] [(.int (0 : Int32))])
                  rw [own_cancel, own_z] at q0
                  have hx : x0.toInt = s0.toInt := by first | trivial | (simp only [← Int32.toInt_inj] at *; omega)
                  refine B.istore 241 rfl at_239 #[.val (.int p1), .val (.int p2), .val (.int p3), .val (.int p4), .val (.int p5), .val (.int (1 : Int32)), .val (.int s0), .val (.int (s0 + (1 : Int32))), .val (.int x0), .val (.int x1), .val (.int x2), u, .val (.ref d0), .val (.ref d1), .val (.ref d2), .val (.ref d3), .val (.ref d1), .val (.int (0 : Int32)), .unset, .unset, .unset, .unset, .unset] rfl ?_
                  refine B.iload 243 rfl at_241 rfl ?_
                  refine B.istore 245 rfl at_243 #[.val (.int p1), .val (.int p2), .val (.int p3), .val (.int p4), .val (.int p5), .val (.int (1 : Int32)), .val (.int s0), .val (.int (s0 + (1 : Int32))), .val (.int x0), .val (.int x1), .val (.int x2), u, .val (.ref d0), .val (.ref d1), .val (.ref d2), .val (.ref d3), .val (.ref d1), .val (.int (0 : Int32)), .val (.int x0), .unset, .unset, .unset, .unset] rfl ?_
                  refine B.iload 247 rfl at_245 rfl ?_
                  refine B.istore 249 rfl at_247 #[.val (.int p1), .val (.int p2), .val (.int p3), .val (.int p4), .val (.int p5), .val (.int (1 : Int32)), .val (.int s0), .val (.int (s0 + (1 : Int32))), .val (.int x0), .val (.int x1), .val (.int x2), u, .val (.ref d0), .val (.ref d1), .val (.ref d2), .val (.ref d3), .val (.ref d1), .val (.int (0 : Int32)), .val (.int x0), .val (.int x1), .unset, .unset, .unset] rfl ?_
                  refine B.iload 251 rfl at_249 rfl ?_
                  refine B.istore 253 rfl at_251 #[.val (.int p1), .val (.int p2), .val (.int p3), .val (.int p4), .val (.int p5), .val (.int (1 : Int32)), .val (.int s0), .val (.int (s0 + (1 : Int32))), .val (.int x0), .val (.int x1), .val (.int x2), u, .val (.ref d0), .val (.ref d1), .val (.ref d2), .val (.ref d3), .val (.ref d1), .val (.int (0 : Int32)), .val (.int x0), .val (.int x1), .val (.int x2), .unset, .unset] rfl ?_
                  refine B.iload 255 rfl at_253 rfl ?_
                  refine B.if0_ne 264 258 rfl (by decide) rfl at_255 (fun c255 => ?_) (fun c255 => ?_)
                  · refine B.iload 266 rfl at_264 rfl ?_
                    refine B.iconst 267 rfl (1 : Int32) at_266 rfl ?_
                    refine B.icmp_ne 295 270 rfl (by decide) rfl at_267 (fun c267 => ?_) (fun c267 => ?_)
                    · exact absurd c267 (by decide)
                    · refine B.iload 272 rfl at_270 rfl ?_
                      refine B.iload 274 rfl at_272 rfl ?_
                      refine B.icmp_ge 289 277 rfl (by decide) rfl at_274 (fun c274 => ?_) (fun c274 => ?_)
                      · refine B.iconst 290 rfl (0 : Int32) at_289 rfl ?_
                        refine B.istore 292 rfl at_290 #[.val (.int p1), .val (.int p2), .val (.int p3), .val (.int p4), .val (.int p5), .val (.int (1 : Int32)), .val (.int s0), .val (.int (s0 + (1 : Int32))), .val (.int x0), .val (.int x1), .val (.int x2), u, .val (.ref d0), .val (.ref d1), .val (.ref d2), .val (.ref d3), .val (.ref d1), .val (.int (0 : Int32)), .val (.int x0), .val (.int x1), .val (.int x2), .val (.int (0 : Int32)), .unset] rfl ?_
                        refine B.goto 421 rfl (by decide) at_292 ?_
                        refine B.iload 423 rfl at_421 rfl ?_
                        refine B.iload 425 rfl at_423 rfl ?_
                        refine B.icmp_ne 432 428 rfl (by decide) rfl at_425 (fun c425 => ?_) (fun c425 => ?_)
                        · exact absurd c425 (by decide)
                        · refine B.iconst 429 rfl (1 : Int32) at_428 rfl ?_
                          refine B.goto 433 rfl (by decide) at_429 ?_
                          refine B.istore 435 rfl at_433 #[.val (.int p1), .val (.int p2), .val (.int p3), .val (.int p4), .val (.int p5), .val (.int (1 : Int32)), .val (.int s0), .val (.int (s0 + (1 : Int32))), .val (.int x0), .val (.int x1), .val (.int x2), u, .val (.ref d0), .val (.ref d1), .val (.ref d2), .val (.ref d3), .val (.ref d1), .val (.int (0 : Int32)), .val (.int x0), .val (.int x1), .val (.int x2), .val (.int (0 : Int32)), .val (.int (1 : Int32))] rfl ?_
                          refine B.iload 437 rfl at_435 rfl ?_
                          refine B.iconst 438 rfl (1 : Int32) at_437 rfl ?_
                          refine B.icmp_lt 462 441 rfl (by decide) rfl at_438 (fun c438 => ?_) (fun c438 => ?_)
                          · exact absurd c438 (by decide)
                          · refine B.iload 443 rfl at_441 rfl ?_
                            refine B.if0_eq 459 446 rfl (by decide) rfl at_443 (fun c443 => ?_) (fun c443 => ?_)
                            · exact absurd c443 (by decide)
                            · refine B.aload 448 rfl at_446 rfl rfl ?_
                              refine B.iconst 449 rfl (0 : Int32) at_448 rfl ?_
                              refine B.iaload 450 rfl at_449 An (by decide) 0 rfl (.int x0) rfl ?_
                              refine B.iload 452 rfl at_450 rfl ?_
                              refine B.icmp_ne 459 455 rfl (by decide) rfl at_452 (fun c452 => ?_) (fun c452 => ?_)
                              · exact absurd (by first | rfl | (simp only [Int32.add_assoc]; done) | (simp only [Int32.add_assoc]; rfl)) c452
                              · refine B.iconst 456 rfl (1 : Int32) at_455 rfl ?_
                                refine B.goto 460 rfl (by decide) at_456 ?_
                                refine B.istore 462 rfl at_460 #[.val (.int p1), .val (.int p2), .val (.int p3), .val (.int p4), .val (.int p5), .val (.int (1 : Int32)), .val (.int s0), .val (.int (s0 + (1 : Int32))), .val (.int x0), .val (.int x1), .val (.int x2), u, .val (.ref d0), .val (.ref d1), .val (.ref d2), .val (.ref d3), .val (.ref d1), .val (.int (0 : Int32)), .val (.int x0), .val (.int x1), .val (.int x2), .val (.int (0 : Int32)), .val (.int (1 : Int32))] rfl ?_
                                refine B.iload 464 rfl at_462 rfl ?_
                                refine B.iconst 465 rfl (2 : Int32) at_464 rfl ?_
                                refine B.icmp_lt 491 468 rfl (by decide) rfl at_465 (fun c465 => ?_) (fun c465 => ?_)
                                · refine B.iload 493 rfl at_491 rfl ?_
                                  refine B.iconst 494 rfl (3 : Int32) at_493 rfl ?_
                                  refine B.icmp_lt 520 497 rfl (by decide) rfl at_494 (fun c494 => ?_) (fun c494 => ?_)
                                  · refine B.iload 522 rfl at_520 rfl ?_
                                    refine B.retN (by simp) at_522 (by decide) (by decide) ?_
                                    exact rfl
                                  · exact absurd c494 (by decide)
                                · exact absurd c465 (by decide)
                      · exfalso; rw [Int32.lt_iff_toInt_lt] at c274; omega
                  · exact absurd c255 (by decide)
              · exact absurd c221 (by decide)
            · exact absurd c207 (by decide)
      · exact absurd c152 (by decide)
    · refine B.iconst 131 rfl (0 : Int32) at_130 rfl ?_
      refine B.newP 133 rfl at_131 (wd hw 10 rfl) (by decide) 0 (by decide) (by decide) (by decide) (by decide) ?_
      intro hn0 d0 ed0 gd0 X0 A0
      replace A0 : Ary Z hn0 d0 .int [] := A0
      show B.G hn0 1 0 (mkF m 133 #[.val (.int p1), .val (.int p2), .val (.int p3), .val (.int p4), .val (.int p5), .val (.int (2 : Int32)), .val (.int s0), .val (.int (s0 + (2 : Int32))), .val (.int x0), .val (.int x1), .val (.int x2), u, .unset, .unset, .unset, .unset, .unset, .unset, .unset, .unset, .unset, .unset, .unset] [(.ref d0)])
      refine B.astore 135 rfl at_133 rfl #[.val (.int p1), .val (.int p2), .val (.int p3), .val (.int p4), .val (.int p5), .val (.int (2 : Int32)), .val (.int s0), .val (.int (s0 + (2 : Int32))), .val (.int x0), .val (.int x1), .val (.int x2), u, .val (.ref d0), .unset, .unset, .unset, .unset, .unset, .unset, .unset, .unset, .unset, .unset] rfl ?_
      refine B.iconst 136 rfl (1 : Int32) at_135 rfl ?_
      refine B.newP 138 rfl at_136 (wd hw 10 rfl) (by decide) 1 (by decide) (by decide) (by decide) (by decide) ?_
      intro hn1 d1 ed1 gd1 X1 A1
      replace A1 : Ary Z hn1 d1 .int [(.int (0 : Int32))] := A1
      show B.G hn1 2 1 (mkF m 138 #[.val (.int p1), .val (.int p2), .val (.int p3), .val (.int p4), .val (.int p5), .val (.int (2 : Int32)), .val (.int s0), .val (.int (s0 + (2 : Int32))), .val (.int x0), .val (.int x1), .val (.int x2), u, .val (.ref d0), .unset, .unset, .unset, .unset, .unset, .unset, .unset, .unset, .unset, .unset] [(.ref d1)])
      have n_d0_d1 : d0 ≠ d1 := fun q => absurd A0.lt (by rw [q, ed1]; exact Nat.lt_irrefl _)
      have A0_2 := A0.ext X1
      refine B.astore 140 rfl at_138 rfl #[.val (.int p1), .val (.int p2), .val (.int p3), .val (.int p4), .val (.int p5), .val (.int (2 : Int32)), .val (.int s0), .val (.int (s0 + (2 : Int32))), .val (.int x0), .val (.int x1), .val (.int x2), u, .val (.ref d0), .val (.ref d1), .unset, .unset, .unset, .unset, .unset, .unset, .unset, .unset, .unset] rfl ?_
      refine B.iconst 141 rfl (2 : Int32) at_140 rfl ?_
      refine B.newP 143 rfl at_141 (wd hw 10 rfl) (by decide) 2 (by decide) (by decide) (by decide) (by decide) ?_
      intro hn2 d2 ed2 gd2 X2 A2
      replace A2 : Ary Z hn2 d2 .int [(.int (0 : Int32)), (.int (0 : Int32))] := A2
      show B.G hn2 3 3 (mkF m 143 #[.val (.int p1), .val (.int p2), .val (.int p3), .val (.int p4), .val (.int p5), .val (.int (2 : Int32)), .val (.int s0), .val (.int (s0 + (2 : Int32))), .val (.int x0), .val (.int x1), .val (.int x2), u, .val (.ref d0), .val (.ref d1), .unset, .unset, .unset, .unset, .unset, .unset, .unset, .unset, .unset] [(.ref d2)])
      have n_d0_d2 : d0 ≠ d2 := fun q => absurd A0_2.lt (by rw [q, ed2]; exact Nat.lt_irrefl _)
      have n_d1_d2 : d1 ≠ d2 := fun q => absurd A1.lt (by rw [q, ed2]; exact Nat.lt_irrefl _)
      have A0_3 := A0_2.ext X2
      have A1_3 := A1.ext X2
      refine B.astore 145 rfl at_143 rfl #[.val (.int p1), .val (.int p2), .val (.int p3), .val (.int p4), .val (.int p5), .val (.int (2 : Int32)), .val (.int s0), .val (.int (s0 + (2 : Int32))), .val (.int x0), .val (.int x1), .val (.int x2), u, .val (.ref d0), .val (.ref d1), .val (.ref d2), .unset, .unset, .unset, .unset, .unset, .unset, .unset, .unset] rfl ?_
      refine B.iconst 146 rfl (3 : Int32) at_145 rfl ?_
      refine B.newP 148 rfl at_146 (wd hw 10 rfl) (by decide) 3 (by decide) (by decide) (by decide) (by decide) ?_
      intro hn3 d3 ed3 gd3 X3 A3
      replace A3 : Ary Z hn3 d3 .int [(.int (0 : Int32)), (.int (0 : Int32)), (.int (0 : Int32))] := A3
      show B.G hn3 4 6 (mkF m 148 #[.val (.int p1), .val (.int p2), .val (.int p3), .val (.int p4), .val (.int p5), .val (.int (2 : Int32)), .val (.int s0), .val (.int (s0 + (2 : Int32))), .val (.int x0), .val (.int x1), .val (.int x2), u, .val (.ref d0), .val (.ref d1), .val (.ref d2), .unset, .unset, .unset, .unset, .unset, .unset, .unset, .unset] [(.ref d3)])
      have n_d0_d3 : d0 ≠ d3 := fun q => absurd A0_3.lt (by rw [q, ed3]; exact Nat.lt_irrefl _)
      have n_d1_d3 : d1 ≠ d3 := fun q => absurd A1_3.lt (by rw [q, ed3]; exact Nat.lt_irrefl _)
      have n_d2_d3 : d2 ≠ d3 := fun q => absurd A2.lt (by rw [q, ed3]; exact Nat.lt_irrefl _)
      have A0_4 := A0_3.ext X3
      have A1_4 := A1_3.ext X3
      have A2_4 := A2.ext X3
      refine B.astore 150 rfl at_148 rfl #[.val (.int p1), .val (.int p2), .val (.int p3), .val (.int p4), .val (.int p5), .val (.int (2 : Int32)), .val (.int s0), .val (.int (s0 + (2 : Int32))), .val (.int x0), .val (.int x1), .val (.int x2), u, .val (.ref d0), .val (.ref d1), .val (.ref d2), .val (.ref d3), .unset, .unset, .unset, .unset, .unset, .unset, .unset] rfl ?_
      refine B.iload 152 rfl at_150 rfl ?_
      refine B.if0_ne 162 155 rfl (by decide) rfl at_152 (fun c152 => ?_) (fun c152 => ?_)
      · refine B.iload 164 rfl at_162 rfl ?_
        refine B.iconst 165 rfl (1 : Int32) at_164 rfl ?_
        refine B.icmp_ne 175 168 rfl (by decide) rfl at_165 (fun c165 => ?_) (fun c165 => ?_)
        · refine B.iload 177 rfl at_175 rfl ?_
          refine B.iconst 178 rfl (2 : Int32) at_177 rfl ?_
          refine B.icmp_ne 188 181 rfl (by decide) rfl at_178 (fun c178 => ?_) (fun c178 => ?_)
          · exact absurd c178 (by decide)
          · refine B.aload 183 rfl at_181 rfl rfl ?_
            refine B.astore 185 rfl at_183 rfl #[.val (.int p1), .val (.int p2), .val (.int p3), .val (.int p4), .val (.int p5), .val (.int (2 : Int32)), .val (.int s0), .val (.int (s0 + (2 : Int32))), .val (.int x0), .val (.int x1), .val (.int x2), u, .val (.ref d0), .val (.ref d1), .val (.ref d2), .val (.ref d3), .val (.ref d2), .unset, .unset, .unset, .unset, .unset, .unset] rfl ?_
            refine B.goto 192 rfl (by decide) at_185 ?_
            refine B.iload 194 rfl at_192 rfl ?_
            refine B.iconst 195 rfl (1 : Int32) at_194 rfl ?_
            refine B.icmp_lt 204 198 rfl (by decide) rfl at_195 (fun c195 => ?_) (fun c195 => ?_)
            · exact absurd c195 (by decide)
            · refine B.aload 200 rfl at_198 rfl rfl ?_
              refine B.iconst 201 rfl (0 : Int32) at_200 rfl ?_
              refine B.iload 203 rfl at_201 rfl ?_
              refine B.iastore 204 rfl at_203 A2_4 (by decide) 0 rfl (by simp) (Or.inr gd2) ?_
              intro h4 W4 B4
              replace B4 : Ary Z h4 d2 .int [(.int x0), (.int (0 : Int32))] := B4
              refine B.iload 206 rfl at_204 rfl ?_
              refine B.iconst 207 rfl (2 : Int32) at_206 rfl ?_
              refine B.icmp_lt 218 210 rfl (by decide) rfl at_207 (fun c207 => ?_) (fun c207 => ?_)
              · exact absurd c207 (by decide)
              · refine B.aload 212 rfl at_210 rfl rfl ?_
                refine B.iconst 213 rfl (1 : Int32) at_212 rfl ?_
                refine B.iload 215 rfl at_213 rfl ?_
                refine B.iconst 216 rfl (1 : Int32) at_215 rfl ?_
                refine B.iadd 217 rfl at_216 ?_
                refine B.iastore 218 rfl at_217 B4 (by decide) 1 rfl (by simp) (Or.inr gd2) ?_
                intro h5 W5 B5
                replace B5 : Ary Z h5 d2 .int [(.int x0), (.int (x1 + (1 : Int32)))] := B5
                refine B.iload 220 rfl at_218 rfl ?_
                refine B.iconst 221 rfl (3 : Int32) at_220 rfl ?_
                refine B.icmp_lt 232 224 rfl (by decide) rfl at_221 (fun c221 => ?_) (fun c221 => ?_)
                · refine B.aload 234 rfl at_232 rfl rfl ?_
                  refine B.iload 236 rfl at_234 rfl ?_
                  refine B.callS 239 rfl at_236 (wd hw 11 rfl) (wd hw 12 rfl) (wd hw 13 rfl) (wd hw 14 rfl) (by decide) [(.ref d2), (.int (s0 + (2 : Int32)))] [] (rm_next2 l Z a0 hw d2 (s0 + (2 : Int32)) x0 (x1 + (1 : Int32)) h5 B5) rfl rfl pd___II_Z rfl rfl 0 rfl (by decide) (by decide) (by decide) (by decide) (fun x z => Or.inr (by cases List.mem_singleton.mp z; exact gd2)) ?_
                  rintro _ h6 Kn (⟨q0, rfl, An⟩ | ⟨q0, q1, rfl, An⟩ | ⟨q0, q1, rfl, An⟩)
                  · show B.G h6 4 6 (mkF m 239 #[.val (.int p1), .val (.int p2), .val (.int p3), .val (.int p4), .val (.int p5), .val (.int (2 : Int32)), .val (.int s0), .val (.int (s0 + (2 : Int32))), .val (.int x0), .val (.int x1), .val (.int x2), u, .val (.ref d0), .val (.ref d1), .val (.ref d2), .val (.ref d3), .val (.ref d2), .unset, .unset, .unset, .unset, .unset, .unset] [(.int (1 : Int32))])
                    rw [own_cancel, own_max] at q0
                    have hx : x1.toInt < s0.toInt := by first | trivial | (simp only [← Int32.toInt_inj] at *; omega)
                    refine B.istore 241 rfl at_239 #[.val (.int p1), .val (.int p2), .val (.int p3), .val (.int p4), .val (.int p5), .val (.int (2 : Int32)), .val (.int s0), .val (.int (s0 + (2 : Int32))), .val (.int x0), .val (.int x1), .val (.int x2), u, .val (.ref d0), .val (.ref d1), .val (.ref d2), .val (.ref d3), .val (.ref d2), .val (.int (1 : Int32)), .unset, .unset, .unset, .unset, .unset] rfl ?_
                    refine B.iload 243 rfl at_241 rfl ?_
                    refine B.istore 245 rfl at_243 #[.val (.int p1), .val (.int p2), .val (.int p3), .val (.int p4), .val (.int p5), .val (.int (2 : Int32)), .val (.int s0), .val (.int (s0 + (2 : Int32))), .val (.int x0), .val (.int x1), .val (.int x2), u, .val (.ref d0), .val (.ref d1), .val (.ref d2), .val (.ref d3), .val (.ref d2), .val (.int (1 : Int32)), .val (.int x0), .unset, .unset, .unset, .unset] rfl ?_
                    refine B.iload 247 rfl at_245 rfl ?_
                    refine B.istore 249 rfl at_247 #[.val (.int p1), .val (.int p2), .val (.int p3), .val (.int p4), .val (.int p5), .val (.int (2 : Int32)), .val (.int s0), .val (.int (s0 + (2 : Int32))), .val (.int x0), .val (.int x1), .val (.int x2), u, .val (.ref d0), .val (.ref d1), .val (.ref d2), .val (.ref d3), .val (.ref d2), .val (.int (1 : Int32)), .val (.int x0), .val (.int x1), .unset, .unset, .unset] rfl ?_
                    refine B.iload 251 rfl at_249 rfl ?_
                    refine B.istore 253 rfl at_251 #[.val (.int p1), .val (.int p2), .val (.int p3), .val (.int p4), .val (.int p5), .val (.int (2 : Int32)), .val (.int s0), .val (.int (s0 + (2 : Int32))), .val (.int x0), .val (.int x1), .val (.int x2), u, .val (.ref d0), .val (.ref d1), .val (.ref d2), .val (.ref d3), .val (.ref d2), .val (.int (1 : Int32)), .val (.int x0), .val (.int x1), .val (.int x2), .unset, .unset] rfl ?_
                    refine B.iload 255 rfl at_253 rfl ?_
                    refine B.if0_ne 264 258 rfl (by decide) rfl at_255 (fun c255 => ?_) (fun c255 => ?_)
                    · refine B.iload 266 rfl at_264 rfl ?_
                      refine B.iconst 267 rfl (1 : Int32) at_266 rfl ?_
                      refine B.icmp_ne 295 270 rfl (by decide) rfl at_267 (fun c267 => ?_) (fun c267 => ?_)
                      · refine B.iload 297 rfl at_295 rfl ?_
                        refine B.iconst 298 rfl (2 : Int32) at_297 rfl ?_
                        refine B.icmp_ne 349 301 rfl (by decide) rfl at_298 (fun c298 => ?_) (fun c298 => ?_)
                        · exact absurd c298 (by decide)
                        · refine B.iload 303 rfl at_301 rfl ?_
                          refine B.iload 305 rfl at_303 rfl ?_
                          refine B.icmp_ge 320 308 rfl (by decide) rfl at_305 (fun c305 => ?_) (fun c305 => ?_)
                          · exfalso; rw [Int32.lt_iff_toInt_lt] at c305; omega
                          · refine B.iload 310 rfl at_308 rfl ?_
                            refine B.iconst 311 rfl (1 : Int32) at_310 rfl ?_
                            refine B.iadd 312 rfl at_311 ?_
                            refine B.istore 314 rfl at_312 #[.val (.int p1), .val (.int p2), .val (.int p3), .val (.int p4), .val (.int p5), .val (.int (2 : Int32)), .val (.int s0), .val (.int (s0 + (2 : Int32))), .val (.int x0), .val (.int x1), .val (.int x2), u, .val (.ref d0), .val (.ref d1), .val (.ref d2), .val (.ref d3), .val (.ref d2), .val (.int (1 : Int32)), .val (.int x0), .val (.int (x1 + (1 : Int32))), .val (.int x2), .unset, .unset] rfl ?_
                            refine B.iconst 315 rfl (1 : Int32) at_314 rfl ?_
                            refine B.istore 317 rfl at_315 #[.val (.int p1), .val (.int p2), .val (.int p3), .val (.int p4), .val (.int p5), .val (.int (2 : Int32)), .val (.int s0), .val (.int (s0 + (2 : Int32))), .val (.int x0), .val (.int x1), .val (.int x2), u, .val (.ref d0), .val (.ref d1), .val (.ref d2), .val (.ref d3), .val (.ref d2), .val (.int (1 : Int32)), .val (.int x0), .val (.int (x1 + (1 : Int32))), .val (.int x2), .val (.int (1 : Int32)), .unset] rfl ?_
                            refine B.goto 421 rfl (by decide) at_317 ?_
                            refine B.iload 423 rfl at_421 rfl ?_
                            refine B.iload 425 rfl at_423 rfl ?_
                            refine B.icmp_ne 432 428 rfl (by decide) rfl at_425 (fun c425 => ?_) (fun c425 => ?_)
                            · exact absurd c425 (by decide)
                            · refine B.iconst 429 rfl (1 : Int32) at_428 rfl ?_
                              refine B.goto 433 rfl (by decide) at_429 ?_
                              refine B.istore 435 rfl at_433 #[.val (.int p1), .val (.int p2), .val (.int p3), .val (.int p4), .val (.int p5), .val (.int (2 : Int32)), .val (.int s0), .val (.int (s0 + (2 : Int32))), .val (.int x0), .val (.int x1), .val (.int x2), u, .val (.ref d0), .val (.ref d1), .val (.ref d2), .val (.ref d3), .val (.ref d2), .val (.int (1 : Int32)), .val (.int x0), .val (.int (x1 + (1 : Int32))), .val (.int x2), .val (.int (1 : Int32)), .val (.int (1 : Int32))] rfl ?_
                              refine B.iload 437 rfl at_435 rfl ?_
                              refine B.iconst 438 rfl (1 : Int32) at_437 rfl ?_
                              refine B.icmp_lt 462 441 rfl (by decide) rfl at_438 (fun c438 => ?_) (fun c438 => ?_)
                              · exact absurd c438 (by decide)
                              · refine B.iload 443 rfl at_441 rfl ?_
                                refine B.if0_eq 459 446 rfl (by decide) rfl at_443 (fun c443 => ?_) (fun c443 => ?_)
                                · exact absurd c443 (by decide)
                                · refine B.aload 448 rfl at_446 rfl rfl ?_
                                  refine B.iconst 449 rfl (0 : Int32) at_448 rfl ?_
                                  refine B.iaload 450 rfl at_449 An (by decide) 0 rfl (.int x0) rfl ?_
                                  refine B.iload 452 rfl at_450 rfl ?_
                                  refine B.icmp_ne 459 455 rfl (by decide) rfl at_452 (fun c452 => ?_) (fun c452 => ?_)
                                  · exact absurd (by first | rfl | (simp only [Int32.add_assoc]; done) | (simp only [Int32.add_assoc]; rfl)) c452
                                  · refine B.iconst 456 rfl (1 : Int32) at_455 rfl ?_
                                    refine B.goto 460 rfl (by decide) at_456 ?_
                                    refine B.istore 462 rfl at_460 #[.val (.int p1), .val (.int p2), .val (.int p3), .val (.int p4), .val (.int p5), .val (.int (2 : Int32)), .val (.int s0), .val (.int (s0 + (2 : Int32))), .val (.int x0), .val (.int x1), .val (.int x2), u, .val (.ref d0), .val (.ref d1), .val (.ref d2), .val (.ref d3), .val (.ref d2), .val (.int (1 : Int32)), .val (.int x0), .val (.int (x1 + (1 : Int32))), .val (.int x2), .val (.int (1 : Int32)), .val (.int (1 : Int32))] rfl ?_
                                    refine B.iload 464 rfl at_462 rfl ?_
                                    refine B.iconst 465 rfl (2 : Int32) at_464 rfl ?_
                                    refine B.icmp_lt 491 468 rfl (by decide) rfl at_465 (fun c465 => ?_) (fun c465 => ?_)
                                    · exact absurd c465 (by decide)
                                    · refine B.iload 470 rfl at_468 rfl ?_
                                      refine B.if0_eq 488 473 rfl (by decide) rfl at_470 (fun c470 => ?_) (fun c470 => ?_)
                                      · exact absurd c470 (by decide)
                                      · refine B.aload 475 rfl at_473 rfl rfl ?_
                                        refine B.iconst 476 rfl (1 : Int32) at_475 rfl ?_
                                        refine B.iaload 477 rfl at_476 An (by decide) 1 rfl (.int ((x1 + (1 : Int32)) + (1 : Int32))) rfl ?_
                                        refine B.iload 479 rfl at_477 rfl ?_
                                        refine B.iconst 480 rfl (1 : Int32) at_479 rfl ?_
                                        refine B.iadd 481 rfl at_480 ?_
                                        refine B.icmp_ne 488 484 rfl (by decide) rfl at_481 (fun c481 => ?_) (fun c481 => ?_)
                                        · exact absurd (by first | rfl | (simp only [Int32.add_assoc]; done) | (simp only [Int32.add_assoc]; rfl)) c481
                                        · refine B.iconst 485 rfl (1 : Int32) at_484 rfl ?_
                                          refine B.goto 489 rfl (by decide) at_485 ?_
                                          refine B.istore 491 rfl at_489 #[.val (.int p1), .val (.int p2), .val (.int p3), .val (.int p4), .val (.int p5), .val (.int (2 : Int32)), .val (.int s0), .val (.int (s0 + (2 : Int32))), .val (.int x0), .val (.int x1), .val (.int x2), u, .val (.ref d0), .val (.ref d1), .val (.ref d2), .val (.ref d3), .val (.ref d2), .val (.int (1 : Int32)), .val (.int x0), .val (.int (x1 + (1 : Int32))), .val (.int x2), .val (.int (1 : Int32)), .val (.int (1 : Int32))] rfl ?_
                                          refine B.iload 493 rfl at_491 rfl ?_
                                          refine B.iconst 494 rfl (3 : Int32) at_493 rfl ?_
                                          refine B.icmp_lt 520 497 rfl (by decide) rfl at_494 (fun c494 => ?_) (fun c494 => ?_)
                                          · refine B.iload 522 rfl at_520 rfl ?_
                                            refine B.retN (by simp) at_522 (by decide) (by decide) ?_
                                            exact rfl
                                          · exact absurd c494 (by decide)
                      · exact absurd c267 (by decide)
                    · exact absurd c255 (by decide)
                  · show B.G h6 4 6 (mkF m 239 #[.val (.int p1), .val (.int p2), .val (.int p3), .val (.int p4), .val (.int p5), .val (.int (2 : Int32)), .val (.int s0), .val (.int (s0 + (2 : Int32))), .val (.int x0), .val (.int x1), .val (.int x2), u, .val (.ref d0), .val (.ref d1), .val (.ref d2), .val (.ref d3), .val (.ref d2), .unset, .unset, .unset, .unset, .unset, .unset] [(.int (1 : Int32))])
                    rw [own_cancel, own_max] at q0
                    rw [own_cancel, own_z] at q1
                    have hx : x1.toInt = s0.toInt ∧ x0.toInt < s0.toInt := by first | trivial | (simp only [← Int32.toInt_inj] at *; omega)
                    refine B.istore 241 rfl at_239 #[.val (.int p1), .val (.int p2), .val (.int p3), .val (.int p4), .val (.int p5), .val (.int (2 : Int32)), .val (.int s0), .val (.int (s0 + (2 : Int32))), .val (.int x0), .val (.int x1), .val (.int x2), u, .val (.ref d0), .val (.ref d1), .val (.ref d2), .val (.ref d3), .val (.ref d2), .val (.int (1 : Int32)), .unset, .unset, .unset, .unset, .unset] rfl ?_
                    refine B.iload 243 rfl at_241 rfl ?_
                    refine B.istore 245 rfl at_243 #[.val (.int p1), .val (.int p2), .val (.int p3), .val (.int p4), .val (.int p5), .val (.int (2 : Int32)), .val (.int s0), .val (.int (s0 + (2 : Int32))), .val (.int x0), .val (.int x1), .val (.int x2), u, .val (.ref d0), .val (.ref d1), .val (.ref d2), .val (.ref d3), .val (.ref d2), .val (.int (1 : Int32)), .val (.int x0), .unset, .unset, .unset, .unset] rfl ?_
                    refine B.iload 247 rfl at_245 rfl ?_
                    refine B.istore 249 rfl at_247 #[.val (.int p1), .val (.int p2), .val (.int p3), .val (.int p4), .val (.int p5), .val (.int (2 : Int32)), .val (.int s0), .val (.int (s0 + (2 : Int32))), .val (.int x0), .val (.int x1), .val (.int x2), u, .val (.ref d0), .val (.ref d1), .val (.ref d2), .val (.ref d3), .val (.ref d2), .val (.int (1 : Int32)), .val (.int x0), .val (.int x1), .unset, .unset, .unset] rfl ?_
                    refine B.iload 251 rfl at_249 rfl ?_
                    refine B.istore 253 rfl at_251 #[.val (.int p1), .val (.int p2), .val (.int p3), .val (.int p4), .val (.int p5), .val (.int (2 : Int32)), .val (.int s0), .val (.int (s0 + (2 : Int32))), .val (.int x0), .val (.int x1), .val (.int x2), u, .val (.ref d0), .val (.ref d1), .val (.ref d2), .val (.ref d3), .val (.ref d2), .val (.int (1 : Int32)), .val (.int x0), .val (.int x1), .val (.int x2), .unset, .unset] rfl ?_
                    refine B.iload 255 rfl at_253 rfl ?_
                    refine B.if0_ne 264 258 rfl (by decide) rfl at_255 (fun c255 => ?_) (fun c255 => ?_)
                    · refine B.iload 266 rfl at_264 rfl ?_
                      refine B.iconst 267 rfl (1 : Int32) at_266 rfl ?_
                      refine B.icmp_ne 295 270 rfl (by decide) rfl at_267 (fun c267 => ?_) (fun c267 => ?_)
                      · refine B.iload 297 rfl at_295 rfl ?_
                        refine B.iconst 298 rfl (2 : Int32) at_297 rfl ?_
                        refine B.icmp_ne 349 301 rfl (by decide) rfl at_298 (fun c298 => ?_) (fun c298 => ?_)
                        · exact absurd c298 (by decide)
                        · refine B.iload 303 rfl at_301 rfl ?_
                          refine B.iload 305 rfl at_303 rfl ?_
                          refine B.icmp_ge 320 308 rfl (by decide) rfl at_305 (fun c305 => ?_) (fun c305 => ?_)
                          · refine B.iload 322 rfl at_320 rfl ?_
                            refine B.iload 324 rfl at_322 rfl ?_
                            refine B.icmp_ge 343 327 rfl (by decide) rfl at_324 (fun c324 => ?_) (fun c324 => ?_)
                            · exfalso; rw [Int32.lt_iff_toInt_lt] at c324; omega
                            · refine B.iload 329 rfl at_327 rfl ?_
                              refine B.iconst 330 rfl (1 : Int32) at_329 rfl ?_
                              refine B.iadd 331 rfl at_330 ?_
                              refine B.istore 333 rfl at_331 #[.val (.int p1), .val (.int p2), .val (.int p3), .val (.int p4), .val (.int p5), .val (.int (2 : Int32)), .val (.int s0), .val (.int (s0 + (2 : Int32))), .val (.int x0), .val (.int x1), .val (.int x2), u, .val (.ref d0), .val (.ref d1), .val (.ref d2), .val (.ref d3), .val (.ref d2), .val (.int (1 : Int32)), .val (.int (x0 + (1 : Int32))), .val (.int x1), .val (.int x2), .unset, .unset] rfl ?_
                              refine B.iload 335 rfl at_333 rfl ?_
                              refine B.istore 337 rfl at_335 #[.val (.int p1), .val (.int p2), .val (.int p3), .val (.int p4), .val (.int p5), .val (.int (2 : Int32)), .val (.int s0), .val (.int (s0 + (2 : Int32))), .val (.int x0), .val (.int x1), .val (.int x2), u, .val (.ref d0), .val (.ref d1), .val (.ref d2), .val (.ref d3), .val (.ref d2), .val (.int (1 : Int32)), .val (.int (x0 + (1 : Int32))), .val (.int (x0 + (1 : Int32))), .val (.int x2), .unset, .unset] rfl ?_
                              refine B.iconst 338 rfl (1 : Int32) at_337 rfl ?_
                              refine B.istore 340 rfl at_338 #[.val (.int p1), .val (.int p2), .val (.int p3), .val (.int p4), .val (.int p5), .val (.int (2 : Int32)), .val (.int s0), .val (.int (s0 + (2 : Int32))), .val (.int x0), .val (.int x1), .val (.int x2), u, .val (.ref d0), .val (.ref d1), .val (.ref d2), .val (.ref d3), .val (.ref d2), .val (.int (1 : Int32)), .val (.int (x0 + (1 : Int32))), .val (.int (x0 + (1 : Int32))), .val (.int x2), .val (.int (1 : Int32)), .unset] rfl ?_
                              refine B.goto 421 rfl (by decide) at_340 ?_
                              refine B.iload 423 rfl at_421 rfl ?_
                              refine B.iload 425 rfl at_423 rfl ?_
                              refine B.icmp_ne 432 428 rfl (by decide) rfl at_425 (fun c425 => ?_) (fun c425 => ?_)
                              · exact absurd c425 (by decide)
                              · refine B.iconst 429 rfl (1 : Int32) at_428 rfl ?_
                                refine B.goto 433 rfl (by decide) at_429 ?_
                                refine B.istore 435 rfl at_433 #[.val (.int p1), .val (.int p2), .val (.int p3), .val (.int p4), .val (.int p5), .val (.int (2 : Int32)), .val (.int s0), .val (.int (s0 + (2 : Int32))), .val (.int x0), .val (.int x1), .val (.int x2), u, .val (.ref d0), .val (.ref d1), .val (.ref d2), .val (.ref d3), .val (.ref d2), .val (.int (1 : Int32)), .val (.int (x0 + (1 : Int32))), .val (.int (x0 + (1 : Int32))), .val (.int x2), .val (.int (1 : Int32)), .val (.int (1 : Int32))] rfl ?_
                                refine B.iload 437 rfl at_435 rfl ?_
                                refine B.iconst 438 rfl (1 : Int32) at_437 rfl ?_
                                refine B.icmp_lt 462 441 rfl (by decide) rfl at_438 (fun c438 => ?_) (fun c438 => ?_)
                                · exact absurd c438 (by decide)
                                · refine B.iload 443 rfl at_441 rfl ?_
                                  refine B.if0_eq 459 446 rfl (by decide) rfl at_443 (fun c443 => ?_) (fun c443 => ?_)
                                  · exact absurd c443 (by decide)
                                  · refine B.aload 448 rfl at_446 rfl rfl ?_
                                    refine B.iconst 449 rfl (0 : Int32) at_448 rfl ?_
                                    refine B.iaload 450 rfl at_449 An (by decide) 0 rfl (.int (x0 + (1 : Int32))) rfl ?_
                                    refine B.iload 452 rfl at_450 rfl ?_
                                    refine B.icmp_ne 459 455 rfl (by decide) rfl at_452 (fun c452 => ?_) (fun c452 => ?_)
                                    · exact absurd (by first | rfl | (simp only [Int32.add_assoc]; done) | (simp only [Int32.add_assoc]; rfl)) c452
                                    · refine B.iconst 456 rfl (1 : Int32) at_455 rfl ?_
                                      refine B.goto 460 rfl (by decide) at_456 ?_
                                      refine B.istore 462 rfl at_460 #[.val (.int p1), .val (.int p2), .val (.int p3), .val (.int p4), .val (.int p5), .val (.int (2 : Int32)), .val (.int s0), .val (.int (s0 + (2 : Int32))), .val (.int x0), .val (.int x1), .val (.int x2), u, .val (.ref d0), .val (.ref d1), .val (.ref d2), .val (.ref d3), .val (.ref d2), .val (.int (1 : Int32)), .val (.int (x0 + (1 : Int32))), .val (.int (x0 + (1 : Int32))), .val (.int x2), .val (.int (1 : Int32)), .val (.int (1 : Int32))] rfl ?_
                                      refine B.iload 464 rfl at_462 rfl ?_
                                      refine B.iconst 465 rfl (2 : Int32) at_464 rfl ?_
                                      refine B.icmp_lt 491 468 rfl (by decide) rfl at_465 (fun c465 => ?_) (fun c465 => ?_)
                                      · exact absurd c465 (by decide)
                                      · refine B.iload 470 rfl at_468 rfl ?_
                                        refine B.if0_eq 488 473 rfl (by decide) rfl at_470 (fun c470 => ?_) (fun c470 => ?_)
                                        · exact absurd c470 (by decide)
                                        · refine B.aload 475 rfl at_473 rfl rfl ?_
                                          refine B.iconst 476 rfl (1 : Int32) at_475 rfl ?_
                                          refine B.iaload 477 rfl at_476 An (by decide) 1 rfl (.int ((x0 + (1 : Int32)) + (1 : Int32))) rfl ?_
                                          refine B.iload 479 rfl at_477 rfl ?_
                                          refine B.iconst 480 rfl (1 : Int32) at_479 rfl ?_
                                          refine B.iadd 481 rfl at_480 ?_
                                          refine B.icmp_ne 488 484 rfl (by decide) rfl at_481 (fun c481 => ?_) (fun c481 => ?_)
                                          · exact absurd (by first | rfl | (simp only [Int32.add_assoc]; done) | (simp only [Int32.add_assoc]; rfl)) c481
                                          · refine B.iconst 485 rfl (1 : Int32) at_484 rfl ?_
                                            refine B.goto 489 rfl (by decide) at_485 ?_
                                            refine B.istore 491 rfl at_489 #[.val (.int p1), .val (.int p2), .val (.int p3), .val (.int p4), .val (.int p5), .val (.int (2 : Int32)), .val (.int s0), .val (.int (s0 + (2 : Int32))), .val (.int x0), .val (.int x1), .val (.int x2), u, .val (.ref d0), .val (.ref d1), .val (.ref d2), .val (.ref d3), .val (.ref d2), .val (.int (1 : Int32)), .val (.int (x0 + (1 : Int32))), .val (.int (x0 + (1 : Int32))), .val (.int x2), .val (.int (1 : Int32)), .val (.int (1 : Int32))] rfl ?_
                                            refine B.iload 493 rfl at_491 rfl ?_
                                            refine B.iconst 494 rfl (3 : Int32) at_493 rfl ?_
                                            refine B.icmp_lt 520 497 rfl (by decide) rfl at_494 (fun c494 => ?_) (fun c494 => ?_)
                                            · refine B.iload 522 rfl at_520 rfl ?_
                                              refine B.retN (by simp) at_522 (by decide) (by decide) ?_
                                              exact rfl
                                            · exact absurd c494 (by decide)
                          · exfalso; rw [Int32.lt_iff_toInt_lt] at c305; omega
                      · exact absurd c267 (by decide)
                    · exact absurd c255 (by decide)
                  · show B.G h6 4 6 (mkF m 239 #[.val (.int p1), .val (.int p2), .val (.int p3), .val (.int p4), .val (.int p5), .val (.int (2 : Int32)), .val (.int s0), .val (.int (s0 + (2 : Int32))), .val (.int x0), .val (.int x1), .val (.int x2), u, .val (.ref d0), .val (.ref d1), .val (.ref d2), .val (.ref d3), .val (.ref d2), .unset, .unset, .unset, .unset, .unset, .unset] [(.int (0 : Int32))])
                    rw [own_cancel, own_max] at q0
                    rw [own_cancel, own_z] at q1
                    have hx : x1.toInt = s0.toInt ∧ x0.toInt = s0.toInt := by first | trivial | (simp only [← Int32.toInt_inj] at *; omega)
                    refine B.istore 241 rfl at_239 #[.val (.int p1), .val (.int p2), .val (.int p3), .val (.int p4), .val (.int p5), .val (.int (2 : Int32)), .val (.int s0), .val (.int (s0 + (2 : Int32))), .val (.int x0), .val (.int x1), .val (.int x2), u, .val (.ref d0), .val (.ref d1), .val (.ref d2), .val (.ref d3), .val (.ref d2), .val (.int (0 : Int32)), .unset, .unset, .unset, .unset, .unset] rfl ?_
                    refine B.iload 243 rfl at_241 rfl ?_
                    refine B.istore 245 rfl at_243 #[.val (.int p1), .val (.int p2), .val (.int p3), .val (.int p4), .val (.int p5), .val (.int (2 : Int32)), .val (.int s0), .val (.int (s0 + (2 : Int32))), .val (.int x0), .val (.int x1), .val (.int x2), u, .val (.ref d0), .val (.ref d1), .val (.ref d2), .val (.ref d3), .val (.ref d2), .val (.int (0 : Int32)), .val (.int x0), .unset, .unset, .unset, .unset] rfl ?_
                    refine B.iload 247 rfl at_245 rfl ?_
                    refine B.istore 249 rfl at_247 #[.val (.int p1), .val (.int p2), .val (.int p3), .val (.int p4), .val (.int p5), .val (.int (2 : Int32)), .val (.int s0), .val (.int (s0 + (2 : Int32))), .val (.int x0), .val (.int x1), .val (.int x2), u, .val (.ref d0), .val (.ref d1), .val (.ref d2), .val (.ref d3), .val (.ref d2), .val (.int (0 : Int32)), .val (.int x0), .val (.int x1), .unset, .unset, .unset] rfl ?_
                    refine B.iload 251 rfl at_249 rfl ?_
                    refine B.istore 253 rfl at_251 #[.val (.int p1), .val (.int p2), .val (.int p3), .val (.int p4), .val (.int p5), .val (.int (2 : Int32)), .val (.int s0), .val (.int (s0 + (2 : Int32))), .val (.int x0), .val (.int x1), .val (.int x2), u, .val (.ref d0), .val (.ref d1), .val (.ref d2), .val (.ref d3), .val (.ref d2), .val (.int (0 : Int32)), .val (.int x0), .val (.int x1), .val (.int x2), .unset, .unset] rfl ?_
                    refine B.iload 255 rfl at_253 rfl ?_
                    refine B.if0_ne 264 258 rfl (by decide) rfl at_255 (fun c255 => ?_) (fun c255 => ?_)
                    · refine B.iload 266 rfl at_264 rfl ?_
                      refine B.iconst 267 rfl (1 : Int32) at_266 rfl ?_
                      refine B.icmp_ne 295 270 rfl (by decide) rfl at_267 (fun c267 => ?_) (fun c267 => ?_)
                      · refine B.iload 297 rfl at_295 rfl ?_
                        refine B.iconst 298 rfl (2 : Int32) at_297 rfl ?_
                        refine B.icmp_ne 349 301 rfl (by decide) rfl at_298 (fun c298 => ?_) (fun c298 => ?_)
                        · exact absurd c298 (by decide)
                        · refine B.iload 303 rfl at_301 rfl ?_
                          refine B.iload 305 rfl at_303 rfl ?_
                          refine B.icmp_ge 320 308 rfl (by decide) rfl at_305 (fun c305 => ?_) (fun c305 => ?_)
                          · refine B.iload 322 rfl at_320 rfl ?_
                            refine B.iload 324 rfl at_322 rfl ?_
                            refine B.icmp_ge 343 327 rfl (by decide) rfl at_324 (fun c324 => ?_) (fun c324 => ?_)
                            · refine B.iconst 344 rfl (0 : Int32) at_343 rfl ?_
                              refine B.istore 346 rfl at_344 #[.val (.int p1), .val (.int p2), .val (.int p3), .val (.int p4), .val (.int p5), .val (.int (2 : Int32)), .val (.int s0), .val (.int (s0 + (2 : Int32))), .val (.int x0), .val (.int x1), .val (.int x2), u, .val (.ref d0), .val (.ref d1), .val (.ref d2), .val (.ref d3), .val (.ref d2), .val (.int (0 : Int32)), .val (.int x0), .val (.int x1), .val (.int x2), .val (.int (0 : Int32)), .unset] rfl ?_
                              refine B.goto 421 rfl (by decide) at_346 ?_
                              refine B.iload 423 rfl at_421 rfl ?_
                              refine B.iload 425 rfl at_423 rfl ?_
                              refine B.icmp_ne 432 428 rfl (by decide) rfl at_425 (fun c425 => ?_) (fun c425 => ?_)
                              · exact absurd c425 (by decide)
                              · refine B.iconst 429 rfl (1 : Int32) at_428 rfl ?_
                                refine B.goto 433 rfl (by decide) at_429 ?_
                                refine B.istore 435 rfl at_433 #[.val (.int p1), .val (.int p2), .val (.int p3), .val (.int p4), .val (.int p5), .val (.int (2 : Int32)), .val (.int s0), .val (.int (s0 + (2 : Int32))), .val (.int x0), .val (.int x1), .val (.int x2), u, .val (.ref d0), .val (.ref d1), .val (.ref d2), .val (.ref d3), .val (.ref d2), .val (.int (0 : Int32)), .val (.int x0), .val (.int x1), .val (.int x2), .val (.int (0 : Int32)), .val (.int (1 : Int32))] rfl ?_
                                refine B.iload 437 rfl at_435 rfl ?_
                                refine B.iconst 438 rfl (1 : Int32) at_437 rfl ?_
                                refine B.icmp_lt 462 441 rfl (by decide) rfl at_438 (fun c438 => ?_) (fun c438 => ?_)
                                · exact absurd c438 (by decide)
                                · refine B.iload 443 rfl at_441 rfl ?_
                                  refine B.if0_eq 459 446 rfl (by decide) rfl at_443 (fun c443 => ?_) (fun c443 => ?_)
                                  · exact absurd c443 (by decide)
                                  · refine B.aload 448 rfl at_446 rfl rfl ?_
                                    refine B.iconst 449 rfl (0 : Int32) at_448 rfl ?_
                                    refine B.iaload 450 rfl at_449 An (by decide) 0 rfl (.int x0) rfl ?_
                                    refine B.iload 452 rfl at_450 rfl ?_
                                    refine B.icmp_ne 459 455 rfl (by decide) rfl at_452 (fun c452 => ?_) (fun c452 => ?_)
                                    · exact absurd (by first | rfl | (simp only [Int32.add_assoc]; done) | (simp only [Int32.add_assoc]; rfl)) c452
                                    · refine B.iconst 456 rfl (1 : Int32) at_455 rfl ?_
                                      refine B.goto 460 rfl (by decide) at_456 ?_
                                      refine B.istore 462 rfl at_460 #[.val (.int p1), .val (.int p2), .val (.int p3), .val (.int p4), .val (.int p5), .val (.int (2 : Int32)), .val (.int s0), .val (.int (s0 + (2 : Int32))), .val (.int x0), .val (.int x1), .val (.int x2), u, .val (.ref d0), .val (.ref d1), .val (.ref d2), .val (.ref d3), .val (.ref d2), .val (.int (0 : Int32)), .val (.int x0), .val (.int x1), .val (.int x2), .val (.int (0 : Int32)), .val (.int (1 : Int32))] rfl ?_
                                      refine B.iload 464 rfl at_462 rfl ?_
                                      refine B.iconst 465 rfl (2 : Int32) at_464 rfl ?_
                                      refine B.icmp_lt 491 468 rfl (by decide) rfl at_465 (fun c465 => ?_) (fun c465 => ?_)
                                      · exact absurd c465 (by decide)
                                      · refine B.iload 470 rfl at_468 rfl ?_
                                        refine B.if0_eq 488 473 rfl (by decide) rfl at_470 (fun c470 => ?_) (fun c470 => ?_)
                                        · exact absurd c470 (by decide)
                                        · refine B.aload 475 rfl at_473 rfl rfl ?_
                                          refine B.iconst 476 rfl (1 : Int32) at_475 rfl ?_
                                          refine B.iaload 477 rfl at_476 An (by decide) 1 rfl (.int (x1 + (1 : Int32))) rfl ?_
                                          refine B.iload 479 rfl at_477 rfl ?_
                                          refine B.iconst 480 rfl (1 : Int32) at_479 rfl ?_
                                          refine B.iadd 481 rfl at_480 ?_
                                          refine B.icmp_ne 488 484 rfl (by decide) rfl at_481 (fun c481 => ?_) (fun c481 => ?_)
                                          · exact absurd (by first | rfl | (simp only [Int32.add_assoc]; done) | (simp only [Int32.add_assoc]; rfl)) c481
                                          · refine B.iconst 485 rfl (1 : Int32) at_484 rfl ?_
                                            refine B.goto 489 rfl (by decide) at_485 ?_
                                            refine B.istore 491 rfl at_489 #[.val (.int p1), .val (.int p2), .val (.int p3), .val (.int p4), .val (.int p5), .val (.int (2 : Int32)), .val (.int s0), .val (.int (s0 + (2 : Int32))), .val (.int x0), .val (.int x1), .val (.int x2), u, .val (.ref d0), .val (.ref d1), .val (.ref d2), .val (.ref d3), .val (.ref d2), .val (.int (0 : Int32)), .val (.int x0), .val (.int x1), .val (.int x2), .val (.int (0 : Int32)), .val (.int (1 : Int32))] rfl ?_
                                            refine B.iload 493 rfl at_491 rfl ?_
                                            refine B.iconst 494 rfl (3 : Int32) at_493 rfl ?_
                                            refine B.icmp_lt 520 497 rfl (by decide) rfl at_494 (fun c494 => ?_) (fun c494 => ?_)
                                            · refine B.iload 522 rfl at_520 rfl ?_
                                              refine B.retN (by simp) at_522 (by decide) (by decide) ?_
                                              exact rfl
                                            · exact absurd c494 (by decide)
                            · exfalso; rw [Int32.lt_iff_toInt_lt] at c324; omega
                          · exfalso; rw [Int32.lt_iff_toInt_lt] at c305; omega
                      · exact absurd c267 (by decide)
                    · exact absurd c255 (by decide)
                · exact absurd c221 (by decide)
        · exact absurd c165 (by decide)
      · exact absurd c152 (by decide)
    · refine B.iconst 131 rfl (0 : Int32) at_130 rfl ?_
      refine B.newP 133 rfl at_131 (wd hw 10 rfl) (by decide) 0 (by decide) (by decide) (by decide) (by decide) ?_
      intro hn0 d0 ed0 gd0 X0 A0
      replace A0 : Ary Z hn0 d0 .int [] := A0
      show B.G hn0 1 0 (mkF m 133 #[.val (.int p1), .val (.int p2), .val (.int p3), .val (.int p4), .val (.int p5), .val (.int (3 : Int32)), .val (.int s0), .val (.int (s0 + (3 : Int32))), .val (.int x0), .val (.int x1), .val (.int x2), u, .unset, .unset, .unset, .unset, .unset, .unset, .unset, .unset, .unset, .unset, .unset] [(.ref d0)])
      refine B.astore 135 rfl at_133 rfl #[.val (.int p1), .val (.int p2), .val (.int p3), .val (.int p4), .val (.int p5), .val (.int (3 : Int32)), .val (.int s0), .val (.int (s0 + (3 : Int32))), .val (.int x0), .val (.int x1), .val (.int x2), u, .val (.ref d0), .unset, .unset, .unset, .unset, .unset, .unset, .unset, .unset, .unset, .unset] rfl ?_
      refine B.iconst 136 rfl (1 : Int32) at_135 rfl ?_
      refine B.newP 138 rfl at_136 (wd hw 10 rfl) (by decide) 1 (by decide) (by decide) (by decide) (by decide) ?_
      intro hn1 d1 ed1 gd1 X1 A1
      replace A1 : Ary Z hn1 d1 .int [(.int (0 : Int32))] := A1
      show B.G hn1 2 1 (mkF m 138 #[.val (.int p1), .val (.int p2), .val (.int p3), .val (.int p4), .val (.int p5), .val (.int (3 : Int32)), .val (.int s0), .val (.int (s0 + (3 : Int32))), .val (.int x0), .val (.int x1), .val (.int x2), u, .val (.ref d0), .unset, .unset, .unset, .unset, .unset, .unset, .unset, .unset, .unset, .unset] [(.ref d1)])
      have n_d0_d1 : d0 ≠ d1 := fun q => absurd A0.lt (by rw [q, ed1]; exact Nat.lt_irrefl _)
      have A0_2 := A0.ext X1
      refine B.astore 140 rfl at_138 rfl #[.val (.int p1), .val (.int p2), .val (.int p3), .val (.int p4), .val (.int p5), .val (.int (3 : Int32)), .val (.int s0), .val (.int (s0 + (3 : Int32))), .val (.int x0), .val (.int x1), .val (.int x2), u, .val (.ref d0), .val (.ref d1), .unset, .unset, .unset, .unset, .unset, .unset, .unset, .unset, .unset] rfl ?_
      refine B.iconst 141 rfl (2 : Int32) at_140 rfl ?_
      refine B.newP 143 rfl at_141 (wd hw 10 rfl) (by decide) 2 (by decide) (by decide) (by decide) (by decide) ?_
      intro hn2 d2 ed2 gd2 X2 A2
      replace A2 : Ary Z hn2 d2 .int [(.int (0 : Int32)), (.int (0 : Int32))] := A2
      show B.G hn2 3 3 (mkF m 143 #[.val (.int p1), .val (.int p2), .val (.int p3), .val (.int p4), .val (.int p5), .val (.int (3 : Int32)), .val (.int s0), .val (.int (s0 + (3 : Int32))), .val (.int x0), .val (.int x1), .val (.int x2), u, .val (.ref d0), .val (.ref d1), .unset, .unset, .unset, .unset, .unset, .unset, .unset, .unset, .unset] [(.ref d2)])
      have n_d0_d2 : d0 ≠ d2 := fun q => absurd A0_2.lt (by rw [q, ed2]; exact Nat.lt_irrefl _)
      have n_d1_d2 : d1 ≠ d2 := fun q => absurd A1.lt (by rw [q, ed2]; exact Nat.lt_irrefl _)
      have A0_3 := A0_2.ext X2
      have A1_3 := A1.ext X2
      refine B.astore 145 rfl at_143 rfl #[.val (.int p1), .val (.int p2), .val (.int p3), .val (.int p4), .val (.int p5), .val (.int (3 : Int32)), .val (.int s0), .val (.int (s0 + (3 : Int32))), .val (.int x0), .val (.int x1), .val (.int x2), u, .val (.ref d0), .val (.ref d1), .val (.ref d2), .unset, .unset, .unset, .unset, .unset, .unset, .unset, .unset] rfl ?_
      refine B.iconst 146 rfl (3 : Int32) at_145 rfl ?_
      refine B.newP 148 rfl at_146 (wd hw 10 rfl) (by decide) 3 (by decide) (by decide) (by decide) (by decide) ?_
      intro hn3 d3 ed3 gd3 X3 A3
      replace A3 : Ary Z hn3 d3 .int [(.int (0 : Int32)), (.int (0 : Int32)), (.int (0 : Int32))] := A3
      show B.G hn3 4 6 (mkF m 148 #[.val (.int p1), .val (.int p2), .val (.int p3), .val (.int p4), .val (.int p5), .val (.int (3 : Int32)), .val (.int s0), .val (.int (s0 + (3 : Int32))), .val (.int x0), .val (.int x1), .val (.int x2), u, .val (.ref d0), .val (.ref d1), .val (.ref d2), .unset, .unset, .unset, .unset, .unset, .unset, .unset, .unset] [(.ref d3)])
      have n_d0_d3 : d0 ≠ d3 := fun q => absurd A0_3.lt (by rw [q, ed3]; exact Nat.lt_irrefl _)
      have n_d1_d3 : d1 ≠ d3 := fun q => absurd A1_3.lt (by rw [q, ed3]; exact Nat.lt_irrefl _)
      have n_d2_d3 : d2 ≠ d3 := fun q => absurd A2.lt (by rw [q, ed3]; exact Nat.lt_irrefl _)
      have A0_4 := A0_3.ext X3
      have A1_4 := A1_3.ext X3
      have A2_4 := A2.ext X3
      refine B.astore 150 rfl at_148 rfl #[.val (.int p1), .val (.int p2), .val (.int p3), .val (.int p4), .val (.int p5), .val (.int (3 : Int32)), .val (.int s0), .val (.int (s0 + (3 : Int32))), .val (.int x0), .val (.int x1), .val (.int x2), u, .val (.ref d0), .val (.ref d1), .val (.ref d2), .val (.ref d3), .unset, .unset, .unset, .unset, .unset, .unset, .unset] rfl ?_
      refine B.iload 152 rfl at_150 rfl ?_
      refine B.if0_ne 162 155 rfl (by decide) rfl at_152 (fun c152 => ?_) (fun c152 => ?_)
      · refine B.iload 164 rfl at_162 rfl ?_
        refine B.iconst 165 rfl (1 : Int32) at_164 rfl ?_
        refine B.icmp_ne 175 168 rfl (by decide) rfl at_165 (fun c165 => ?_) (fun c165 => ?_)
        · refine B.iload 177 rfl at_175 rfl ?_
          refine B.iconst 178 rfl (2 : Int32) at_177 rfl ?_
          refine B.icmp_ne 188 181 rfl (by decide) rfl at_178 (fun c178 => ?_) (fun c178 => ?_)
          · refine B.aload 190 rfl at_188 rfl rfl ?_
            refine B.astore 192 rfl at_190 rfl #[.val (.int p1), .val (.int p2), .val (.int p3), .val (.int p4), .val (.int p5), .val (.int (3 : Int32)), .val (.int s0), .val (.int (s0 + (3 : Int32))), .val (.int x0), .val (.int x1), .val (.int x2), u, .val (.ref d0), .val (.ref d1), .val (.ref d2), .val (.ref d3), .val (.ref d3), .unset, .unset, .unset, .unset, .unset, .unset] rfl ?_
            refine B.iload 194 rfl at_192 rfl ?_
            refine B.iconst 195 rfl (1 : Int32) at_194 rfl ?_
            refine B.icmp_lt 204 198 rfl (by decide) rfl at_195 (fun c195 => ?_) (fun c195 => ?_)
            · exact absurd c195 (by decide)
            · refine B.aload 200 rfl at_198 rfl rfl ?_
              refine B.iconst 201 rfl (0 : Int32) at_200 rfl ?_
              refine B.iload 203 rfl at_201 rfl ?_
              refine B.iastore 204 rfl at_203 A3 (by decide) 0 rfl (by simp) (Or.inr gd3) ?_
              intro h7 W7 B7
              replace B7 : Ary Z h7 d3 .int [(.int x0), (.int (0 : Int32)), (.int (0 : Int32))] := B7
              refine B.iload 206 rfl at_204 rfl ?_
              refine B.iconst 207 rfl (2 : Int32) at_206 rfl ?_
              refine B.icmp_lt 218 210 rfl (by decide) rfl at_207 (fun c207 => ?_) (fun c207 => ?_)
              · exact absurd c207 (by decide)
              · refine B.aload 212 rfl at_210 rfl rfl ?_
                refine B.iconst 213 rfl (1 : Int32) at_212 rfl ?_
                refine B.iload 215 rfl at_213 rfl ?_
                refine B.iconst 216 rfl (1 : Int32) at_215 rfl ?_
                refine B.iadd 217 rfl at_216 ?_
                refine B.iastore 218 rfl at_217 B7 (by decide) 1 rfl (by simp) (Or.inr gd3) ?_
                intro h8 W8 B8
                replace B8 : Ary Z h8 d3 .int [(.int x0), (.int (x1 + (1 : Int32))), (.int (0 : Int32))] := B8
                refine B.iload 220 rfl at_218 rfl ?_
                refine B.iconst 221 rfl (3 : Int32) at_220 rfl ?_
                refine B.icmp_lt 232 224 rfl (by decide) rfl at_221 (fun c221 => ?_) (fun c221 => ?_)
                · exact absurd c221 (by decide)
                · refine B.aload 226 rfl at_224 rfl rfl ?_
                  refine B.iconst 227 rfl (2 : Int32) at_226 rfl ?_
                  refine B.iload 229 rfl at_227 rfl ?_
                  refine B.iconst 230 rfl (2 : Int32) at_229 rfl ?_
                  refine B.iadd 231 rfl at_230 ?_
                  refine B.iastore 232 rfl at_231 B8 (by decide) 2 rfl (by simp) (Or.inr gd3) ?_
                  intro h9 W9 B9
                  replace B9 : Ary Z h9 d3 .int [(.int x0), (.int (x1 + (1 : Int32))), (.int (x2 + (2 : Int32)))] := B9
                  refine B.aload 234 rfl at_232 rfl rfl ?_
                  refine B.iload 236 rfl at_234 rfl ?_
                  refine B.callS 239 rfl at_236 (wd hw 11 rfl) (wd hw 12 rfl) (wd hw 13 rfl) (wd hw 14 rfl) (by decide) [(.ref d3), (.int (s0 + (3 : Int32)))] [] (rm_next3 l Z a0 hw d3 (s0 + (3 : Int32)) x0 (x1 + (1 : Int32)) (x2 + (2 : Int32)) h9 B9) rfl rfl pd___II_Z rfl rfl 0 rfl (by decide) (by decide) (by decide) (by decide) (fun x z => Or.inr (by cases List.mem_singleton.mp z; exact gd3)) ?_
                  rintro _ h10 Kn (⟨q0, rfl, An⟩ | ⟨q0, q1, rfl, An⟩ | ⟨q0, q1, q2, rfl, An⟩ | ⟨q0, q1, q2, rfl, An⟩)
                  · show B.G h10 4 6 (mkF m 239 #[.val (.int p1), .val (.int p2), .val (.int p3), .val (.int p4), .val (.int p5), .val (.int (3 : Int32)), .val (.int s0), .val (.int (s0 + (3 : Int32))), .val (.int x0), .val (.int x1), .val (.int x2), u, .val (.ref d0), .val (.ref d1), .val (.ref d2), .val (.ref d3), .val (.ref d3), .unset, .unset, .unset, .unset, .unset, .unset] [(.int (1 : Int32))])
                    rw [own_cancel, own_max] at q0
                    have hx : x2.toInt < s0.toInt := by first | trivial | (simp only [← Int32.toInt_inj] at *; omega)
                    refine B.istore 241 rfl at_239 #[.val (.int p1), .val (.int p2), .val (.int p3), .val (.int p4), .val (.int p5), .val (.int (3 : Int32)), .val (.int s0), .val (.int (s0 + (3 : Int32))), .val (.int x0), .val (.int x1), .val (.int x2), u, .val (.ref d0), .val (.ref d1), .val (.ref d2), .val (.ref d3), .val (.ref d3), .val (.int (1 : Int32)), .unset, .unset, .unset, .unset, .unset] rfl ?_
                    refine B.iload 243 rfl at_241 rfl ?_
                    refine B.istore 245 rfl at_243 #[.val (.int p1), .val (.int p2), .val (.int p3), .val (.int p4), .val (.int p5), .val (.int (3 : Int32)), .val (.int s0), .val (.int (s0 + (3 : Int32))), .val (.int x0), .val (.int x1), .val (.int x2), u, .val (.ref d0), .val (.ref d1), .val (.ref d2), .val (.ref d3), .val (.ref d3), .val (.int (1 : Int32)), .val (.int x0), .unset, .unset, .unset, .unset] rfl ?_
                    refine B.iload 247 rfl at_245 rfl ?_
                    refine B.istore 249 rfl at_247 #[.val (.int p1), .val (.int p2), .val (.int p3), .val (.int p4), .val (.int p5), .val (.int (3 : Int32)), .val (.int s0), .val (.int (s0 + (3 : Int32))), .val (.int x0), .val (.int x1), .val (.int x2), u, .val (.ref d0), .val (.ref d1), .val (.ref d2), .val (.ref d3), .val (.ref d3), .val (.int (1 : Int32)), .val (.int x0), .val (.int x1), .unset, .unset, .unset] rfl ?_
                    refine B.iload 251 rfl at_249 rfl ?_
                    refine B.istore 253 rfl at_251 #[.val (.int p1), .val (.int p2), .val (.int p3), .val (.int p4), .val (.int p5), .val (.int (3 : Int32)), .val (.int s0), .val (.int (s0 + (3 : Int32))), .val (.int x0), .val (.int x1), .val (.int x2), u, .val (.ref d0), .val (.ref d1), .val (.ref d2), .val (.ref d3), .val (.ref d3), .val (.int (1 : Int32)), .val (.int x0), .val (.int x1), .val (.int x2), .unset, .unset] rfl ?_
                    refine B.iload 255 rfl at_253 rfl ?_
                    refine B.if0_ne 264 258 rfl (by decide) rfl at_255 (fun c255 => ?_) (fun c255 => ?_)
                    · refine B.iload 266 rfl at_264 rfl ?_
                      refine B.iconst 267 rfl (1 : Int32) at_266 rfl ?_
                      refine B.icmp_ne 295 270 rfl (by decide) rfl at_267 (fun c267 => ?_) (fun c267 => ?_)
                      · refine B.iload 297 rfl at_295 rfl ?_
                        refine B.iconst 298 rfl (2 : Int32) at_297 rfl ?_
                        refine B.icmp_ne 349 301 rfl (by decide) rfl at_298 (fun c298 => ?_) (fun c298 => ?_)
                        · refine B.iload 351 rfl at_349 rfl ?_
                          refine B.iload 353 rfl at_351 rfl ?_
                          refine B.icmp_ge 368 356 rfl (by decide) rfl at_353 (fun c353 => ?_) (fun c353 => ?_)
                          · exfalso; rw [Int32.lt_iff_toInt_lt] at c353; omega
                          · refine B.iload 358 rfl at_356 rfl ?_
                            refine B.iconst 359 rfl (1 : Int32) at_358 rfl ?_
                            refine B.iadd 360 rfl at_359 ?_
                            refine B.istore 362 rfl at_360 #[.val (.int p1), .val (.int p2), .val (.int p3), .val (.int p4), .val (.int p5), .val (.int (3 : Int32)), .val (.int s0), .val (.int (s0 + (3 : Int32))), .val (.int x0), .val (.int x1), .val (.int x2), u, .val (.ref d0), .val (.ref d1), .val (.ref d2), .val (.ref d3), .val (.ref d3), .val (.int (1 : Int32)), .val (.int x0), .val (.int x1), .val (.int (x2 + (1 : Int32))), .unset, .unset] rfl ?_
                            refine B.iconst 363 rfl (1 : Int32) at_362 rfl ?_
                            refine B.istore 365 rfl at_363 #[.val (.int p1), .val (.int p2), .val (.int p3), .val (.int p4), .val (.int p5), .val (.int (3 : Int32)), .val (.int s0), .val (.int (s0 + (3 : Int32))), .val (.int x0), .val (.int x1), .val (.int x2), u, .val (.ref d0), .val (.ref d1), .val (.ref d2), .val (.ref d3), .val (.ref d3), .val (.int (1 : Int32)), .val (.int x0), .val (.int x1), .val (.int (x2 + (1 : Int32))), .val (.int (1 : Int32)), .unset] rfl ?_
                            refine B.goto 421 rfl (by decide) at_365 ?_
                            refine B.iload 423 rfl at_421 rfl ?_
                            refine B.iload 425 rfl at_423 rfl ?_
                            refine B.icmp_ne 432 428 rfl (by decide) rfl at_425 (fun c425 => ?_) (fun c425 => ?_)
                            · exact absurd c425 (by decide)
                            · refine B.iconst 429 rfl (1 : Int32) at_428 rfl ?_
                              refine B.goto 433 rfl (by decide) at_429 ?_
                              refine B.istore 435 rfl at_433 #[.val (.int p1), .val (.int p2), .val (.int p3), .val (.int p4), .val (.int p5), .val (.int (3 : Int32)), .val (.int s0), .val (.int (s0 + (3 : Int32))), .val (.int x0), .val (.int x1), .val (.int x2), u, .val (.ref d0), .val (.ref d1), .val (.ref d2), .val (.ref d3), .val (.ref d3), .val (.int (1 : Int32)), .val (.int x0), .val (.int x1), .val (.int (x2 + (1 : Int32))), .val (.int (1 : Int32)), .val (.int (1 : Int32))] rfl ?_
                              refine B.iload 437 rfl at_435 rfl ?_
                              refine B.iconst 438 rfl (1 : Int32) at_437 rfl ?_
                              refine B.icmp_lt 462 441 rfl (by decide) rfl at_438 (fun c438 => ?_) (fun c438 => ?_)
                              · exact absurd c438 (by decide)
                              · refine B.iload 443 rfl at_441 rfl ?_
                                refine B.if0_eq 459 446 rfl (by decide) rfl at_443 (fun c443 => ?_) (fun c443 => ?_)
                                · exact absurd c443 (by decide)
                                · refine B.aload 448 rfl at_446 rfl rfl ?_
                                  refine B.iconst 449 rfl (0 : Int32) at_448 rfl ?_
                                  refine B.iaload 450 rfl at_449 An (by decide) 0 rfl (.int x0) rfl ?_
                                  refine B.iload 452 rfl at_450 rfl ?_
                                  refine B.icmp_ne 459 455 rfl (by decide) rfl at_452 (fun c452 => ?_) (fun c452 => ?_)
                                  · exact absurd (by first | rfl | (simp only [Int32.add_assoc]; done) | (simp only [Int32.add_assoc]; rfl)) c452
                                  · refine B.iconst 456 rfl (1 : Int32) at_455 rfl ?_
                                    refine B.goto 460 rfl (by decide) at_456 ?_
                                    refine B.istore 462 rfl at_460 #[.val (.int p1), .val (.int p2), .val (.int p3), .val (.int p4), .val (.int p5), .val (.int (3 : Int32)), .val (.int s0), .val (.int (s0 + (3 : Int32))), .val (.int x0), .val (.int x1), .val (.int x2), u, .val (.ref d0), .val (.ref d1), .val (.ref d2), .val (.ref d3), .val (.ref d3), .val (.int (1 : Int32)), .val (.int x0), .val (.int x1), .val (.int (x2 + (1 : Int32))), .val (.int (1 : Int32)), .val (.int (1 : Int32))] rfl ?_
                                    refine B.iload 464 rfl at_462 rfl ?_
                                    refine B.iconst 465 rfl (2 : Int32) at_464 rfl ?_
                                    refine B.icmp_lt 491 468 rfl (by decide) rfl at_465 (fun c465 => ?_) (fun c465 => ?_)
                                    · exact absurd c465 (by decide)
                                    · refine B.iload 470 rfl at_468 rfl ?_
                                      refine B.if0_eq 488 473 rfl (by decide) rfl at_470 (fun c470 => ?_) (fun c470 => ?_)
                                      · exact absurd c470 (by decide)
                                      · refine B.aload 475 rfl at_473 rfl rfl ?_
                                        refine B.iconst 476 rfl (1 : Int32) at_475 rfl ?_
                                        refine B.iaload 477 rfl at_476 An (by decide) 1 rfl (.int (x1 + (1 : Int32))) rfl ?_
                                        refine B.iload 479 rfl at_477 rfl ?_
                                        refine B.iconst 480 rfl (1 : Int32) at_479 rfl ?_
                                        refine B.iadd 481 rfl at_480 ?_
                                        refine B.icmp_ne 488 484 rfl (by decide) rfl at_481 (fun c481 => ?_) (fun c481 => ?_)
                                        · exact absurd (by first | rfl | (simp only [Int32.add_assoc]; done) | (simp only [Int32.add_assoc]; rfl)) c481
                                        · refine B.iconst 485 rfl (1 : Int32) at_484 rfl ?_
                                          refine B.goto 489 rfl (by decide) at_485 ?_
                                          refine B.istore 491 rfl at_489 #[.val (.int p1), .val (.int p2), .val (.int p3), .val (.int p4), .val (.int p5), .val (.int (3 : Int32)), .val (.int s0), .val (.int (s0 + (3 : Int32))), .val (.int x0), .val (.int x1), .val (.int x2), u, .val (.ref d0), .val (.ref d1), .val (.ref d2), .val (.ref d3), .val (.ref d3), .val (.int (1 : Int32)), .val (.int x0), .val (.int x1), .val (.int (x2 + (1 : Int32))), .val (.int (1 : Int32)), .val (.int (1 : Int32))] rfl ?_
                                          refine B.iload 493 rfl at_491 rfl ?_
                                          refine B.iconst 494 rfl (3 : Int32) at_493 rfl ?_
                                          refine B.icmp_lt 520 497 rfl (by decide) rfl at_494 (fun c494 => ?_) (fun c494 => ?_)
                                          · exact absurd c494 (by decide)
                                          · refine B.iload 499 rfl at_497 rfl ?_
                                            refine B.if0_eq 517 502 rfl (by decide) rfl at_499 (fun c499 => ?_) (fun c499 => ?_)
                                            · exact absurd c499 (by decide)
                                            · refine B.aload 504 rfl at_502 rfl rfl ?_
                                              refine B.iconst 505 rfl (2 : Int32) at_504 rfl ?_
                                              refine B.iaload 506 rfl at_505 An (by decide) 2 rfl (.int ((x2 + (2 : Int32)) + (1 : Int32))) rfl ?_
                                              refine B.iload 508 rfl at_506 rfl ?_
                                              refine B.iconst 509 rfl (2 : Int32) at_508 rfl ?_
                                              refine B.iadd 510 rfl at_509 ?_
                                              refine B.icmp_ne 517 513 rfl (by decide) rfl at_510 (fun c510 => ?_) (fun c510 => ?_)
                                              · exact absurd (by first | rfl | (simp only [Int32.add_assoc]; done) | (simp only [Int32.add_assoc]; rfl)) c510
                                              · refine B.iconst 514 rfl (1 : Int32) at_513 rfl ?_
                                                refine B.goto 518 rfl (by decide) at_514 ?_
                                                refine B.istore 520 rfl at_518 #[.val (.int p1), .val (.int p2), .val (.int p3), .val (.int p4), .val (.int p5), .val (.int (3 : Int32)), .val (.int s0), .val (.int (s0 + (3 : Int32))), .val (.int x0), .val (.int x1), .val (.int x2), u, .val (.ref d0), .val (.ref d1), .val (.ref d2), .val (.ref d3), .val (.ref d3), .val (.int (1 : Int32)), .val (.int x0), .val (.int x1), .val (.int (x2 + (1 : Int32))), .val (.int (1 : Int32)), .val (.int (1 : Int32))] rfl ?_
                                                refine B.iload 522 rfl at_520 rfl ?_
                                                refine B.retN (by simp) at_522 (by decide) (by decide) ?_
                                                exact rfl
                        · exact absurd c298 (by decide)
                      · exact absurd c267 (by decide)
                    · exact absurd c255 (by decide)
                  · show B.G h10 4 6 (mkF m 239 #[.val (.int p1), .val (.int p2), .val (.int p3), .val (.int p4), .val (.int p5), .val (.int (3 : Int32)), .val (.int s0), .val (.int (s0 + (3 : Int32))), .val (.int x0), .val (.int x1), .val (.int x2), u, .val (.ref d0), .val (.ref d1), .val (.ref d2), .val (.ref d3), .val (.ref d3), .unset, .unset, .unset, .unset, .unset, .unset] [(.int (1 : Int32))])
                    rw [own_cancel, own_max] at q0
                    rw [own_cancel, own_max] at q1
                    have hx : x2.toInt = s0.toInt ∧ x1.toInt < s0.toInt := by first | trivial | (simp only [← Int32.toInt_inj] at *; omega)
                    refine B.istore 241 rfl at_239 #[.val (.int p1), .val (.int p2), .val (.int p3), .val (.int p4), .val (.int p5), .val (.int (3 : Int32)), .val (.int s0), .val (.int (s0 + (3 : Int32))), .val (.int x0), .val (.int x1), .val (.int x2), u, .val (.ref d0), .val (.ref d1), .val (.ref d2), .val (.ref d3), .val (.ref d3), .val (.int (1 : Int32)), .unset, .unset, .unset, .unset, .unset] rfl ?_
                    refine B.iload 243 rfl at_241 rfl ?_
                    refine B.istore 245 rfl at_243 #[.val (.int p1), .val (.int p2), .val (.int p3), .val (.int p4), .val (.int p5), .val (.int (3 : Int32)), .val (.int s0), .val (.int (s0 + (3 : Int32))), .val (.int x0), .val (.int x1), .val (.int x2), u, .val (.ref d0), .val (.ref d1), .val (.ref d2), .val (.ref d3), .val (.ref d3), .val (.int (1 : Int32)), .val (.int x0), .unset, .unset, .unset, .unset] rfl ?_
                    refine B.iload 247 rfl at_245 rfl ?_
                    refine B.istore 249 rfl at_247 #[.val (.int p1), .val (.int p2), .val (.int p3), .val (.int p4), .val (.int p5), .val (.int (3 : Int32)), .val (.int s0), .val (.int (s0 + (3 : Int32))), .val (.int x0), .val (.int x1), .val (.int x2), u, .val (.ref d0), .val (.ref d1), .val (.ref d2), .val (.ref d3), .val (.ref d3), .val (.int (1 : Int32)), .val (.int x0), .val (.int x1), .unset, .unset, .unset] rfl ?_
                    refine B.iload 251 rfl at_249 rfl ?_
                    refine B.istore 253 rfl at_251 #[.val (.int p1), .val (.int p2), .val (.int p3), .val (.int p4), .val (.int p5), .val (.int (3 : Int32)), .val (.int s0), .val (.int (s0 + (3 : Int32))), .val (.int x0), .val (.int x1), .val (.int x2), u, .val (.ref d0), .val (.ref d1), .val (.ref d2), .val (.ref d3), .val (.ref d3), .val (.int (1 : Int32)), .val (.int x0), .val (.int x1), .val (.int x2), .unset, .unset] rfl ?_
                    refine B.iload 255 rfl at_253 rfl ?_
                    refine B.if0_ne 264 258 rfl (by decide) rfl at_255 (fun c255 => ?_) (fun c255 => ?_)
                    · refine B.iload 266 rfl at_264 rfl ?_
                      refine B.iconst 267 rfl (1 : Int32) at_266 rfl ?_
                      refine B.icmp_ne 295 270 rfl (by decide) rfl at_267 (fun c267 => ?_) (fun c267 => ?_)
                      · refine B.iload 297 rfl at_295 rfl ?_
                        refine B.iconst 298 rfl (2 : Int32) at_297 rfl ?_
                        refine B.icmp_ne 349 301 rfl (by decide) rfl at_298 (fun c298 => ?_) (fun c298 => ?_)
                        · refine B.iload 351 rfl at_349 rfl ?_
                          refine B.iload 353 rfl at_351 rfl ?_
                          refine B.icmp_ge 368 356 rfl (by decide) rfl at_353 (fun c353 => ?_) (fun c353 => ?_)
                          · refine B.iload 370 rfl at_368 rfl ?_
                            refine B.iload 372 rfl at_370 rfl ?_
                            refine B.icmp_ge 391 375 rfl (by decide) rfl at_372 (fun c372 => ?_) (fun c372 => ?_)
                            · exfalso; rw [Int32.lt_iff_toInt_lt] at c372; omega
                            · refine B.iload 377 rfl at_375 rfl ?_
                              refine B.iconst 378 rfl (1 : Int32) at_377 rfl ?_
                              refine B.iadd 379 rfl at_378 ?_
                              refine B.istore 381 rfl at_379 #[.val (.int p1), .val (.int p2), .val (.int p3), .val (.int p4), .val (.int p5), .val (.int (3 : Int32)), .val (.int s0), .val (.int (s0 + (3 : Int32))), .val (.int x0), .val (.int x1), .val (.int x2), u, .val (.ref d0), .val (.ref d1), .val (.ref d2), .val (.ref d3), .val (.ref d3), .val (.int (1 : Int32)), .val (.int x0), .val (.int (x1 + (1 : Int32))), .val (.int x2), .unset, .unset] rfl ?_
                              refine B.iload 383 rfl at_381 rfl ?_
                              refine B.istore 385 rfl at_383 #[.val (.int p1), .val (.int p2), .val (.int p3), .val (.int p4), .val (.int p5), .val (.int (3 : Int32)), .val (.int s0), .val (.int (s0 + (3 : Int32))), .val (.int x0), .val (.int x1), .val (.int x2), u, .val (.ref d0), .val (.ref d1), .val (.ref d2), .val (.ref d3), .val (.ref d3), .val (.int (1 : Int32)), .val (.int x0), .val (.int (x1 + (1 : Int32))), .val (.int (x1 + (1 : Int32))), .unset, .unset] rfl ?_
                              refine B.iconst 386 rfl (1 : Int32) at_385 rfl ?_
                              refine B.istore 388 rfl at_386 #[.val (.int p1), .val (.int p2), .val (.int p3), .val (.int p4), .val (.int p5), .val (.int (3 : Int32)), .val (.int s0), .val (.int (s0 + (3 : Int32))), .val (.int x0), .val (.int x1), .val (.int x2), u, .val (.ref d0), .val (.ref d1), .val (.ref d2), .val (.ref d3), .val (.ref d3), .val (.int (1 : Int32)), .val (.int x0), .val (.int (x1 + (1 : Int32))), .val (.int (x1 + (1 : Int32))), .val (.int (1 : Int32)), .unset] rfl ?_
                              refine B.goto 421 rfl (by decide) at_388 ?_
                              refine B.iload 423 rfl at_421 rfl ?_
                              refine B.iload 425 rfl at_423 rfl ?_
                              refine B.icmp_ne 432 428 rfl (by decide) rfl at_425 (fun c425 => ?_) (fun c425 => ?_)
                              · exact absurd c425 (by decide)
                              · refine B.iconst 429 rfl (1 : Int32) at_428 rfl ?_
                                refine B.goto 433 rfl (by decide) at_429 ?_
                                refine B.istore 435 rfl at_433 #[.val (.int p1), .val (.int p2), .val (.int p3), .val (.int p4), .val (.int p5), .val (.int (3 : Int32)), .val (.int s0), .val (.int (s0 + (3 : Int32))), .val (.int x0), .val (.int x1), .val (.int x2), u, .val (.ref d0), .val (.ref d1), .val (.ref d2), .val (.ref d3), .val (.ref d3), .val (.int (1 : Int32)), .val (.int x0), .val (.int (x1 + (1 : Int32))), .val (.int (x1 + (1 : Int32))), .val (.int (1 : Int32)), .val (.int (1 : Int32))] rfl ?_
                                refine B.iload 437 rfl at_435 rfl ?_
                                refine B.iconst 438 rfl (1 : Int32) at_437 rfl ?_
                                refine B.icmp_lt 462 441 rfl (by decide) rfl at_438 (fun c438 => ?_) (fun c438 => ?_)
                                · exact absurd c438 (by decide)
                                · refine B.iload 443 rfl at_441 rfl ?_
                                  refine B.if0_eq 459 446 rfl (by decide) rfl at_443 (fun c443 => ?_) (fun c443 => ?_)
                                  · exact absurd c443 (by decide)
                                  · refine B.aload 448 rfl at_446 rfl rfl ?_
                                    refine B.iconst 449 rfl (0 : Int32) at_448 rfl ?_
                                    refine B.iaload 450 rfl at_449 An (by decide) 0 rfl (.int x0) rfl ?_
                                    refine B.iload 452 rfl at_450 rfl ?_
                                    refine B.icmp_ne 459 455 rfl (by decide) rfl at_452 (fun c452 => ?_) (fun c452 => ?_)
                                    · exact absurd (by first | rfl | (simp only [Int32.add_assoc]; done) | (simp only [Int32.add_assoc]; rfl)) c452
                                    · refine B.iconst 456 rfl (1 : Int32) at_455 rfl ?_
                                      refine B.goto 460 rfl (by decide) at_456 ?_
                                      refine B.istore 462 rfl at_460 #[.val (.int p1), .val (.int p2), .val (.int p3), .val (.int p4), .val (.int p5), .val (.int (3 : Int32)), .val (.int s0), .val (.int (s0 + (3 : Int32))), .val (.int x0), .val (.int x1), .val (.int x2), u, .val (.ref d0), .val (.ref d1), .val (.ref d2), .val (.ref d3), .val (.ref d3), .val (.int (1 : Int32)), .val (.int x0), .val (.int (x1 + (1 : Int32))), .val (.int (x1 + (1 : Int32))), .val (.int (1 : Int32)), .val (.int (1 : Int32))] rfl ?_
                                      refine B.iload 464 rfl at_462 rfl ?_
                                      refine B.iconst 465 rfl (2 : Int32) at_464 rfl ?_
                                      refine B.icmp_lt 491 468 rfl (by decide) rfl at_465 (fun c465 => ?_) (fun c465 => ?_)
                                      · exact absurd c465 (by decide)
                                      · refine B.iload 470 rfl at_468 rfl ?_
                                        refine B.if0_eq 488 473 rfl (by decide) rfl at_470 (fun c470 => ?_) (fun c470 => ?_)
                                        · exact absurd c470 (by decide)
                                        · refine B.aload 475 rfl at_473 rfl rfl ?_
                                          refine B.iconst 476 rfl (1 : Int32) at_475 rfl ?_
                                          refine B.iaload 477 rfl at_476 An (by decide) 1 rfl (.int ((x1 + (1 : Int32)) + (1 : Int32))) rfl ?_
                                          refine B.iload 479 rfl at_477 rfl ?_
                                          refine B.iconst 480 rfl (1 : Int32) at_479 rfl ?_
                                          refine B.iadd 481 rfl at_480 ?_
                                          refine B.icmp_ne 488 484 rfl (by decide) rfl at_481 (fun c481 => ?_) (fun c481 => ?_)
                                          · exact absurd (by first | rfl | (simp only [Int32.add_assoc]; done) | (simp only [Int32.add_assoc]; rfl)) c481
                                          · refine B.iconst 485 rfl (1 : Int32) at_484 rfl ?_
                                            refine B.goto 489 rfl (by decide) at_485 ?_
                                            refine B.istore 491 rfl at_489 #[.val (.int p1), .val (.int p2), .val (.int p3), .val (.int p4), .val (.int p5), .val (.int (3 : Int32)), .val (.int s0), .val (.int (s0 + (3 : Int32))), .val (.int x0), .val (.int x1), .val (.int x2), u, .val (.ref d0), .val (.ref d1), .val (.ref d2), .val (.ref d3), .val (.ref d3), .val (.int (1 : Int32)), .val (.int x0), .val (.int (x1 + (1 : Int32))), .val (.int (x1 + (1 : Int32))), .val (.int (1 : Int32)), .val (.int (1 : Int32))] rfl ?_
                                            refine B.iload 493 rfl at_491 rfl ?_
                                            refine B.iconst 494 rfl (3 : Int32) at_493 rfl ?_
                                            refine B.icmp_lt 520 497 rfl (by decide) rfl at_494 (fun c494 => ?_) (fun c494 => ?_)
                                            · exact absurd c494 (by decide)
                                            · refine B.iload 499 rfl at_497 rfl ?_
                                              refine B.if0_eq 517 502 rfl (by decide) rfl at_499 (fun c499 => ?_) (fun c499 => ?_)
                                              · exact absurd c499 (by decide)
                                              · refine B.aload 504 rfl at_502 rfl rfl ?_
                                                refine B.iconst 505 rfl (2 : Int32) at_504 rfl ?_
                                                refine B.iaload 506 rfl at_505 An (by decide) 2 rfl (.int (((x1 + (1 : Int32)) + (1 : Int32)) + (1 : Int32))) rfl ?_
                                                refine B.iload 508 rfl at_506 rfl ?_
                                                refine B.iconst 509 rfl (2 : Int32) at_508 rfl ?_
                                                refine B.iadd 510 rfl at_509 ?_
                                                refine B.icmp_ne 517 513 rfl (by decide) rfl at_510 (fun c510 => ?_) (fun c510 => ?_)
                                                · exact absurd (by first | rfl | (simp only [Int32.add_assoc]; done) | (simp only [Int32.add_assoc]; rfl)) c510
                                                · refine B.iconst 514 rfl (1 : Int32) at_513 rfl ?_
                                                  refine B.goto 518 rfl (by decide) at_514 ?_
                                                  refine B.istore 520 rfl at_518 #[.val (.int p1), .val (.int p2), .val (.int p3), .val (.int p4), .val (.int p5), .val (.int (3 : Int32)), .val (.int s0), .val (.int (s0 + (3 : Int32))), .val (.int x0), .val (.int x1), .val (.int x2), u, .val (.ref d0), .val (.ref d1), .val (.ref d2), .val (.ref d3), .val (.ref d3), .val (.int (1 : Int32)), .val (.int x0), .val (.int (x1 + (1 : Int32))), .val (.int (x1 + (1 : Int32))), .val (.int (1 : Int32)), .val (.int (1 : Int32))] rfl ?_
                                                  refine B.iload 522 rfl at_520 rfl ?_
                                                  refine B.retN (by simp) at_522 (by decide) (by decide) ?_
                                                  exact rfl
                          · exfalso; rw [Int32.lt_iff_toInt_lt] at c353; omega
                        · exact absurd c298 (by decide)
                      · exact absurd c267 (by decide)
                    · exact absurd c255 (by decide)
                  · show B.G h10 4 6 (mkF m 239 #[.val (.int p1), .val (.int p2), .val (.int p3), .val (.int p4), .val (.int p5), .val (.int (3 : Int32)), .val (.int s0), .val (.int (s0 + (3 : Int32))), .val (.int x0), .val (.int x1), .val (.int x2), u, .val (.ref d0), .val (.ref d1), .val (.ref d2), .val (.ref d3), .val (.ref d3), .unset, .unset, .unset, .unset, .unset, .unset] [(.int (1 : Int32))])
                    rw [own_cancel, own_max] at q0
                    rw [own_cancel, own_max] at q1
                    rw [own_cancel, own_z] at q2
                    have hx : x2.toInt = s0.toInt ∧ x1.toInt = s0.toInt ∧ x0.toInt < s0.toInt := by first | trivial | (simp only [← Int32.toInt_inj] at *; omega)
                    refine B.istore 241 rfl at_239 #[.val (.int p1), .val (.int p2), .val (.int p3), .val (.int p4), .val (.int p5), .val (.int (3 : Int32)), .val (.int s0), .val (.int (s0 + (3 : Int32))), .val (.int x0), .val (.int x1), .val (.int x2), u, .val (.ref d0), .val (.ref d1), .val (.ref d2), .val (.ref d3), .val (.ref d3), .val (.int (1 : Int32)), .unset, .unset, .unset, .unset, .unset] rfl ?_
                    refine B.iload 243 rfl at_241 rfl ?_
                    refine B.istore 245 rfl at_243 #[.val (.int p1), .val (.int p2), .val (.int p3), .val (.int p4), .val (.int p5), .val (.int (3 : Int32)), .val (.int s0), .val (.int (s0 + (3 : Int32))), .val (.int x0), .val (.int x1), .val (.int x2), u, .val (.ref d0), .val (.ref d1), .val (.ref d2), .val (.ref d3), .val (.ref d3), .val (.int (1 : Int32)), .val (.int x0), .unset, .unset, .unset, .unset] rfl ?_
                    refine B.iload 247 rfl at_245 rfl ?_
                    refine B.istore 249 rfl at_247 #[.val (.int p1), .val (.int p2), .val (.int p3), .val (.int p4), .val (.int p5), .val (.int (3 : Int32)), .val (.int s0), .val (.int (s0 + (3 : Int32))), .val (.int x0), .val (.int x1), .val (.int x2), u, .val (.ref d0), .val (.ref d1), .val (.ref d2), .val (.ref d3), .val (.ref d3), .val (.int (1 : Int32)), .val (.int x0), .val (.int x1), .unset, .unset, .unset] rfl ?_
                    refine B.iload 251 rfl at_249 rfl ?_
                    refine B.istore 253 rfl at_251 #[.val (.int p1), .val (.int p2), .val (.int p3), .val (.int p4), .val (.int p5), .val (.int (3 : Int32)), .val (.int s0), .val (.int (s0 + (3 : Int32))), .val (.int x0), .val (.int x1), .val (.int x2), u, .val (.ref d0), .val (.ref d1), .val (.ref d2), .val (.ref d3), .val (.ref d3), .val (.int (1 : Int32)), .val (.int x0), .val (.int x1), .val (.int x2), .unset, .unset] rfl ?_
                    refine B.iload 255 rfl at_253 rfl ?_
                    refine B.if0_ne 264 258 rfl (by decide) rfl at_255 (fun c255 => ?_) (fun c255 => ?_)
                    · refine B.iload 266 rfl at_264 rfl ?_
                      refine B.iconst 267 rfl (1 : Int32) at_266 rfl ?_
                      refine B.icmp_ne 295 270 rfl (by decide) rfl at_267 (fun c267 => ?_) (fun c267 => ?_)
                      · refine B.iload 297 rfl at_295 rfl ?_
                        refine B.iconst 298 rfl (2 : Int32) at_297 rfl ?_
                        refine B.icmp_ne 349 301 rfl (by decide) rfl at_298 (fun c298 => ?_) (fun c298 => ?_)
                        · refine B.iload 351 rfl at_349 rfl ?_
                          refine B.iload 353 rfl at_351 rfl ?_
                          refine B.icmp_ge 368 356 rfl (by decide) rfl at_353 (fun c353 => ?_) (fun c353 => ?_)
                          · refine B.iload 370 rfl at_368 rfl ?_
                            refine B.iload 372 rfl at_370 rfl ?_
                            refine B.icmp_ge 391 375 rfl (by decide) rfl at_372 (fun c372 => ?_) (fun c372 => ?_)
                            · refine B.iload 393 rfl at_391 rfl ?_
                              refine B.iload 395 rfl at_393 rfl ?_
                              refine B.icmp_ge 418 398 rfl (by decide) rfl at_395 (fun c395 => ?_) (fun c395 => ?_)
                              · exfalso; rw [Int32.lt_iff_toInt_lt] at c395; omega
                              · refine B.iload 400 rfl at_398 rfl ?_
                                refine B.iconst 401 rfl (1 : Int32) at_400 rfl ?_
                                refine B.iadd 402 rfl at_401 ?_
                                refine B.istore 404 rfl at_402 #[.val (.int p1), .val (.int p2), .val (.int p3), .val (.int p4), .val (.int p5), .val (.int (3 : Int32)), .val (.int s0), .val (.int (s0 + (3 : Int32))), .val (.int x0), .val (.int x1), .val (.int x2), u, .val (.ref d0), .val (.ref d1), .val (.ref d2), .val (.ref d3), .val (.ref d3), .val (.int (1 : Int32)), .val (.int (x0 + (1 : Int32))), .val (.int x1), .val (.int x2), .unset, .unset] rfl ?_
                                refine B.iload 406 rfl at_404 rfl ?_
                                refine B.istore 408 rfl at_406 #[.val (.int p1), .val (.int p2), .val (.int p3), .val (.int p4), .val (.int p5), .val (.int (3 : Int32)), .val (.int s0), .val (.int (s0 + (3 : Int32))), .val (.int x0), .val (.int x1), .val (.int x2), u, .val (.ref d0), .val (.ref d1), .val (.ref d2), .val (.ref d3), .val (.ref d3), .val (.int (1 : Int32)), .val (.int (x0 + (1 : Int32))), .val (.int (x0 + (1 : Int32))), .val (.int x2), .unset, .unset] rfl ?_
                                refine B.iload 410 rfl at_408 rfl ?_
                                refine B.istore 412 rfl at_410 #[.val (.int p1), .val (.int p2), .val (.int p3), .val (.int p4), .val (.int p5), .val (.int (3 : Int32)), .val (.int s0), .val (.int (s0 + (3 : Int32))), .val (.int x0), .val (.int x1), .val (.int x2), u, .val (.ref d0), .val (.ref d1), .val (.ref d2), .val (.ref d3), .val (.ref d3), .val (.int (1 : Int32)), .val (.int (x0 + (1 : Int32))), .val (.int (x0 + (1 : Int32))), .val (.int (x0 + (1 : Int32))), .unset, .unset] rfl ?_
                                refine B.iconst 413 rfl (1 : Int32) at_412 rfl ?_
                                refine B.istore 415 rfl at_413 #[.val (.int p1), .val (.int p2), .val (.int p3), .val (.int p4), .val (.int p5), .val (.int (3 : Int32)), .val (.int s0), .val (.int (s0 + (3 : Int32))), .val (.int x0), .val (.int x1), .val (.int x2), u, .val (.ref d0), .val (.ref d1), .val (.ref d2), .val (.ref d3), .val (.ref d3), .val (.int (1 : Int32)), .val (.int (x0 + (1 : Int32))), .val (.int (x0 + (1 : Int32))), .val (.int (x0 + (1 : Int32))), .val (.int (1 : Int32)), .unset] rfl ?_
                                refine B.goto 421 rfl (by decide) at_415 ?_
                                refine B.iload 423 rfl at_421 rfl ?_
                                refine B.iload 425 rfl at_423 rfl ?_
                                refine B.icmp_ne 432 428 rfl (by decide) rfl at_425 (fun c425 => ?_) (fun c425 => ?_)
                                · exact absurd c425 (by decide)
                                · refine B.iconst 429 rfl (1 : Int32) at_428 rfl ?_
                                  refine B.goto 433 rfl (by decide) at_429 ?_
                                  refine B.istore 435 rfl at_433 #[.val (.int p1), .val (.int p2), .val (.int p3), .val (.int p4), .val (.int p5), .val (.int (3 : Int32)), .val (.int s0), .val (.int (s0 + (3 : Int32))), .val (.int x0), .val (.int x1), .val (.int x2), u, .val (.ref d0), .val (.ref d1), .val (.ref d2), .val (.ref d3), .val (.ref d3), .val (.int (1 : Int32)), .val (.int (x0 + (1 : Int32))), .val (.int (x0 + (1 : Int32))), .val (.int (x0 + (1 : Int32))), .val (.int (1 : Int32)), .val (.int (1 : Int32))] rfl ?_
                                  refine B.iload 437 rfl at_435 rfl ?_
                                  refine B.iconst 438 rfl (1 : Int32) at_437 rfl ?_
                                  refine B.icmp_lt 462 441 rfl (by decide) rfl at_438 (fun c438 => ?_) (fun c438 => ?_)
                                  · exact absurd c438 (by decide)
                                  · refine B.iload 443 rfl at_441 rfl ?_
                                    refine B.if0_eq 459 446 rfl (by decide) rfl at_443 (fun c443 => ?_) (fun c443 => ?_)
                                    · exact absurd c443 (by decide)
                                    · refine B.aload 448 rfl at_446 rfl rfl ?_
                                      refine B.iconst 449 rfl (0 : Int32) at_448 rfl ?_
                                      refine B.iaload 450 rfl at_449 An (by decide) 0 rfl (.int (x0 + (1 : Int32))) rfl ?_
                                      refine B.iload 452 rfl at_450 rfl ?_
                                      refine B.icmp_ne 459 455 rfl (by decide) rfl at_452 (fun c452 => ?_) (fun c452 => ?_)
                                      · exact absurd (by first | rfl | (simp only [Int32.add_assoc]; done) | (simp only [Int32.add_assoc]; rfl)) c452
                                      · refine B.iconst 456 rfl (1 : Int32) at_455 rfl ?_
                                        refine B.goto 460 rfl (by decide) at_456 ?_
                                        refine B.istore 462 rfl at_460 #[.val (.int p1), .val (.int p2), .val (.int p3), .val (.int p4), .val (.int p5), .val (.int (3 : Int32)), .val (.int s0), .val (.int (s0 + (3 : Int32))), .val (.int x0), .val (.int x1), .val (.int x2), u, .val (.ref d0), .val (.ref d1), .val (.ref d2), .val (.ref d3), .val (.ref d3), .val (.int (1 : Int32)), .val (.int (x0 + (1 : Int32))), .val (.int (x0 + (1 : Int32))), .val (.int (x0 + (1 : Int32))), .val (.int (1 : Int32)), .val (.int (1 : Int32))] rfl ?_
                                        refine B.iload 464 rfl at_462 rfl ?_
                                        refine B.iconst 465 rfl (2 : Int32) at_464 rfl ?_
                                        refine B.icmp_lt 491 468 rfl (by decide) rfl at_465 (fun c465 => ?_) (fun c465 => ?_)
                                        · exact absurd c465 (by decide)
                                        · refine B.iload 470 rfl at_468 rfl ?_
                                          refine B.if0_eq 488 473 rfl (by decide) rfl at_470 (fun c470 => ?_) (fun c470 => ?_)
                                          · exact absurd c470 (by decide)
                                          · refine B.aload 475 rfl at_473 rfl rfl ?_
                                            refine B.iconst 476 rfl (1 : Int32) at_475 rfl ?_
                                            refine B.iaload 477 rfl at_476 An (by decide) 1 rfl (.int ((x0 + (1 : Int32)) + (1 : Int32))) rfl ?_
                                            refine B.iload 479 rfl at_477 rfl ?_
                                            refine B.iconst 480 rfl (1 : Int32) at_479 rfl ?_
                                            refine B.iadd 481 rfl at_480 ?_
                                            refine B.icmp_ne 488 484 rfl (by decide) rfl at_481 (fun c481 => ?_) (fun c481 => ?_)
                                            · exact absurd (by first | rfl | (simp only [Int32.add_assoc]; done) | (simp only [Int32.add_assoc]; rfl)) c481
                                            · refine B.iconst 485 rfl (1 : Int32) at_484 rfl ?_
                                              refine B.goto 489 rfl (by decide) at_485 ?_
                                              refine B.istore 491 rfl at_489 #[.val (.int p1), .val (.int p2), .val (.int p3), .val (.int p4), .val (.int p5), .val (.int (3 : Int32)), .val (.int s0), .val (.int (s0 + (3 : Int32))), .val (.int x0), .val (.int x1), .val (.int x2), u, .val (.ref d0), .val (.ref d1), .val (.ref d2), .val (.ref d3), .val (.ref d3), .val (.int (1 : Int32)), .val (.int (x0 + (1 : Int32))), .val (.int (x0 + (1 : Int32))), .val (.int (x0 + (1 : Int32))), .val (.int (1 : Int32)), .val (.int (1 : Int32))] rfl ?_
                                              refine B.iload 493 rfl at_491 rfl ?_
                                              refine B.iconst 494 rfl (3 : Int32) at_493 rfl ?_
                                              refine B.icmp_lt 520 497 rfl (by decide) rfl at_494 (fun c494 => ?_) (fun c494 => ?_)
                                              · exact absurd c494 (by decide)
                                              · refine B.iload 499 rfl at_497 rfl ?_
                                                refine B.if0_eq 517 502 rfl (by decide) rfl at_499 (fun c499 => ?_) (fun c499 => ?_)
                                                · exact absurd c499 (by decide)
                                                · refine B.aload 504 rfl at_502 rfl rfl ?_
                                                  refine B.iconst 505 rfl (2 : Int32) at_504 rfl ?_
                                                  refine B.iaload 506 rfl at_505 An (by decide) 2 rfl (.int (((x0 + (1 : Int32)) + (1 : Int32)) + (1 : Int32))) rfl ?_
                                                  refine B.iload 508 rfl at_506 rfl ?_
                                                  refine B.iconst 509 rfl (2 : Int32) at_508 rfl ?_
                                                  refine B.iadd 510 rfl at_509 ?_
                                                  refine B.icmp_ne 517 513 rfl (by decide) rfl at_510 (fun c510 => ?_) (fun c510 => ?_)
                                                  · exact absurd (by first | rfl | (simp only [Int32.add_assoc]; done) | (simp only [Int32.add_assoc]; rfl)) c510
                                                  · refine B.iconst 514 rfl (1 : Int32) at_513 rfl ?_
                                                    refine B.goto 518 rfl (by decide) at_514 ?_
                                                    refine B.istore 520 rfl at_518 #[.val (.int p1), .val (.int p2), .val (.int p3), .val (.int p4), .val (.int p5), .val (.int (3 : Int32)), .val (.int s0), .val (.int (s0 + (3 : Int32))), .val (.int x0), .val (.int x1), .val (.int x2), u, .val (.ref d0), .val (.ref d1), .val (.ref d2), .val (.ref d3), .val (.ref d3), .val (.int (1 : Int32)), .val (.int (x0 + (1 : Int32))), .val (.int (x0 + (1 : Int32))), .val (.int (x0 + (1 : Int32))), .val (.int (1 : Int32)), .val (.int (1 : Int32))] rfl ?_
                                                    refine B.iload 522 rfl at_520 rfl ?_
                                                    refine B.retN (by simp) at_522 (by decide) (by decide) ?_
                                                    exact rfl
                            · exfalso; rw [Int32.lt_iff_toInt_lt] at c372; omega
                          · exfalso; rw [Int32.lt_iff_toInt_lt] at c353; omega
                        · exact absurd c298 (by decide)
                      · exact absurd c267 (by decide)
                    · exact absurd c255 (by decide)
                  · show B.G h10 4 6 (mkF m 239 #[.val (.int p1), .val (.int p2), .val (.int p3), .val (.int p4), .val (.int p5), .val (.int (3 : Int32)), .val (.int s0), .val (.int (s0 + (3 : Int32))), .val (.int x0), .val (.int x1), .val (.int x2), u, .val (.ref d0), .val (.ref d1), .val (.ref d2), .val (.ref d3), .val (.ref d3), .unset, .unset, .unset, .unset, .unset, .unset] [(.int (0 : Int32))])
                    rw [own_cancel, own_max] at q0
                    rw [own_cancel, own_max] at q1
                    rw [own_cancel, own_z] at q2
                    have hx : x2.toInt = s0.toInt ∧ x1.toInt = s0.toInt ∧ x0.toInt = s0.toInt := by first | trivial | (simp only [← Int32.toInt_inj] at *; omega)
                    refine B.istore 241 rfl at_239 #[.val (.int p1), .val (.int p2), .val (.int p3), .val (.int p4), .val (.int p5), .val (.int (3 : Int32)), .val (.int s0), .val (.int (s0 + (3 : Int32))), .val (.int x0), .val (.int x1), .val (.int x2), u, .val (.ref d0), .val (.ref d1), .val (.ref d2), .val (.ref d3), .val (.ref d3), .val (.int (0 : Int32)), .unset, .unset, .unset, .unset, .unset] rfl ?_
                    refine B.iload 243 rfl at_241 rfl ?_
                    refine B.istore 245 rfl at_243 #[.val (.int p1), .val (.int p2), .val (.int p3), .val (.int p4), .val (.int p5), .val (.int (3 : Int32)), .val (.int s0), .val (.int (s0 + (3 : Int32))), .val (.int x0), .val (.int x1), .val (.int x2), u, .val (.ref d0), .val (.ref d1), .val (.ref d2), .val (.ref d3), .val (.ref d3), .val (.int (0 : Int32)), .val (.int x0), .unset, .unset, .unset, .unset] rfl ?_
                    refine B.iload 247 rfl at_245 rfl ?_
                    refine B.istore 249 rfl at_247 #[.val (.int p1), .val (.int p2), .val (.int p3), .val (.int p4), .val (.int p5), .val (.int (3 : Int32)), .val (.int s0), .val (.int (s0 + (3 : Int32))), .val (.int x0), .val (.int x1), .val (.int x2), u, .val (.ref d0), .val (.ref d1), .val (.ref d2), .val (.ref d3), .val (.ref d3), .val (.int (0 : Int32)), .val (.int x0), .val (.int x1), .unset, .unset, .unset] rfl ?_
                    refine B.iload 251 rfl at_249 rfl ?_
                    refine B.istore 253 rfl at_251 #[.val (.int p1), .val (.int p2), .val (.int p3), .val (.int p4), .val (.int p5), .val (.int (3 : Int32)), .val (.int s0), .val (.int (s0 + (3 : Int32))), .val (.int x0), .val (.int x1), .val (.int x2), u, .val (.ref d0), .val (.ref d1), .val (.ref d2), .val (.ref d3), .val (.ref d3), .val (.int (0 : Int32)), .val (.int x0), .val (.int x1), .val (.int x2), .unset, .unset] rfl ?_
                    refine B.iload 255 rfl at_253 rfl ?_
                    refine B.if0_ne 264 258 rfl (by decide) rfl at_255 (fun c255 => ?_) (fun c255 => ?_)
                    · refine B.iload 266 rfl at_264 rfl ?_
                      refine B.iconst 267 rfl (1 : Int32) at_266 rfl ?_
                      refine B.icmp_ne 295 270 rfl (by decide) rfl at_267 (fun c267 => ?_) (fun c267 => ?_)
                      · refine B.iload 297 rfl at_295 rfl ?_
                        refine B.iconst 298 rfl (2 : Int32) at_297 rfl ?_
                        refine B.icmp_ne 349 301 rfl (by decide) rfl at_298 (fun c298 => ?_) (fun c298 => ?_)
                        · refine B.iload 351 rfl at_349 rfl ?_
                          refine B.iload 353 rfl at_351 rfl ?_
                          refine B.icmp_ge 368 356 rfl (by decide) rfl at_353 (fun c353 => ?_) (fun c353 => ?_)
                          · refine B.iload 370 rfl at_368 rfl ?_
                            refine B.iload 372 rfl at_370 rfl ?_
                            refine B.icmp_ge 391 375 rfl (by decide) rfl at_372 (fun c372 => ?_) (fun c372 => ?_)
                            · refine B.iload 393 rfl at_391 rfl ?_
                              refine B.iload 395 rfl at_393 rfl ?_
                              refine B.icmp_ge 418 398 rfl (by decide) rfl at_395 (fun c395 => ?_) (fun c395 => ?_)
                              · refine B.iconst 419 rfl (0 : Int32) at_418 rfl ?_
                                refine B.istore 421 rfl at_419 #[.val (.int p1), .val (.int p2), .val (.int p3), .val (.int p4), .val (.int p5), .val (.int (3 : Int32)), .val (.int s0), .val (.int (s0 + (3 : Int32))), .val (.int x0), .val (.int x1), .val (.int x2), u, .val (.ref d0), .val (.ref d1), .val (.ref d2), .val (.ref d3), .val (.ref d3), .val (.int (0 : Int32)), .val (.int x0), .val (.int x1), .val (.int x2), .val (.int (0 : Int32)), .unset] rfl ?_
                                refine B.iload 423 rfl at_421 rfl ?_
                                refine B.iload 425 rfl at_423 rfl ?_
                                refine B.icmp_ne 432 428 rfl (by decide) rfl at_425 (fun c425 => ?_) (fun c425 => ?_)
                                · exact absurd c425 (by decide)
                                · refine B.iconst 429 rfl (1 : Int32) at_428 rfl ?_
                                  refine B.goto 433 rfl (by decide) at_429 ?_
                                  refine B.istore 435 rfl at_433 #[.val (.int p1), .val (.int p2), .val (.int p3), .val (.int p4), .val (.int p5), .val (.int (3 : Int32)), .val (.int s0), .val (.int (s0 + (3 : Int32))), .val (.int x0), .val (.int x1), .val (.int x2), u, .val (.ref d0), .val (.ref d1), .val (.ref d2), .val (.ref d3), .val (.ref d3), .val (.int (0 : Int32)), .val (.int x0), .val (.int x1), .val (.int x2), .val (.int (0 : Int32)), .val (.int (1 : Int32))] rfl ?_
                                  refine B.iload 437 rfl at_435 rfl ?_
                                  refine B.iconst 438 rfl (1 : Int32) at_437 rfl ?_
                                  refine B.icmp_lt 462 441 rfl (by decide) rfl at_438 (fun c438 => ?_) (fun c438 => ?_)
                                  · exact absurd c438 (by decide)
                                  · refine B.iload 443 rfl at_441 rfl ?_
                                    refine B.if0_eq 459 446 rfl (by decide) rfl at_443 (fun c443 => ?_) (fun c443 => ?_)
                                    · exact absurd c443 (by decide)
                                    · refine B.aload 448 rfl at_446 rfl rfl ?_
                                      refine B.iconst 449 rfl (0 : Int32) at_448 rfl ?_
                                      refine B.iaload 450 rfl at_449 An (by decide) 0 rfl (.int x0) rfl ?_
                                      refine B.iload 452 rfl at_450 rfl ?_
                                      refine B.icmp_ne 459 455 rfl (by decide) rfl at_452 (fun c452 => ?_) (fun c452 => ?_)
                                      · exact absurd (by first | rfl | (simp only [Int32.add_assoc]; done) | (simp only [Int32.add_assoc]; rfl)) c452
                                      · refine B.iconst 456 rfl (1 : Int32) at_455 rfl ?_
                                        refine B.goto 460 rfl (by decide) at_456 ?_
                                        refine B.istore 462 rfl at_460 #[.val (.int p1), .val (.int p2), .val (.int p3), .val (.int p4), .val (.int p5), .val (.int (3 : Int32)), .val (.int s0), .val (.int (s0 + (3 : Int32))), .val (.int x0), .val (.int x1), .val (.int x2), u, .val (.ref d0), .val (.ref d1), .val (.ref d2), .val (.ref d3), .val (.ref d3), .val (.int (0 : Int32)), .val (.int x0), .val (.int x1), .val (.int x2), .val (.int (0 : Int32)), .val (.int (1 : Int32))] rfl ?_
                                        refine B.iload 464 rfl at_462 rfl ?_
                                        refine B.iconst 465 rfl (2 : Int32) at_464 rfl ?_
                                        refine B.icmp_lt 491 468 rfl (by decide) rfl at_465 (fun c465 => ?_) (fun c465 => ?_)
                                        · exact absurd c465 (by decide)
                                        · refine B.iload 470 rfl at_468 rfl ?_
                                          refine B.if0_eq 488 473 rfl (by decide) rfl at_470 (fun c470 => ?_) (fun c470 => ?_)
                                          · exact absurd c470 (by decide)
                                          · refine B.aload 475 rfl at_473 rfl rfl ?_
                                            refine B.iconst 476 rfl (1 : Int32) at_475 rfl ?_
                                            refine B.iaload 477 rfl at_476 An (by decide) 1 rfl (.int (x1 + (1 : Int32))) rfl ?_
                                            refine B.iload 479 rfl at_477 rfl ?_
                                            refine B.iconst 480 rfl (1 : Int32) at_479 rfl ?_
                                            refine B.iadd 481 rfl at_480 ?_
                                            refine B.icmp_ne 488 484 rfl (by decide) rfl at_481 (fun c481 => ?_) (fun c481 => ?_)
                                            · exact absurd (by first | rfl | (simp only [Int32.add_assoc]; done) | (simp only [Int32.add_assoc]; rfl)) c481
                                            · refine B.iconst 485 rfl (1 : Int32) at_484 rfl ?_
                                              refine B.goto 489 rfl (by decide) at_485 ?_
                                              refine B.istore 491 rfl at_489 #[.val (.int p1), .val (.int p2), .val (.int p3), .val (.int p4), .val (.int p5), .val (.int (3 : Int32)), .val (.int s0), .val (.int (s0 + (3 : Int32))), .val (.int x0), .val (.int x1), .val (.int x2), u, .val (.ref d0), .val (.ref d1), .val (.ref d2), .val (.ref d3), .val (.ref d3), .val (.int (0 : Int32)), .val (.int x0), .val (.int x1), .val (.int x2), .val (.int (0 : Int32)), .val (.int (1 : Int32))] rfl ?_
                                              refine B.iload 493 rfl at_491 rfl ?_
                                              refine B.iconst 494 rfl (3 : Int32) at_493 rfl ?_
                                              refine B.icmp_lt 520 497 rfl (by decide) rfl at_494 (fun c494 => ?_) (fun c494 => ?_)
                                              · exact absurd c494 (by decide)
                                              · refine B.iload 499 rfl at_497 rfl ?_
                                                refine B.if0_eq 517 502 rfl (by decide) rfl at_499 (fun c499 => ?_) (fun c499 => ?_)
                                                · exact absurd c499 (by decide)
                                                · refine B.aload 504 rfl at_502 rfl rfl ?_
                                                  refine B.iconst 505 rfl (2 : Int32) at_504 rfl ?_
                                                  refine B.iaload 506 rfl at_505 An (by decide) 2 rfl (.int (x2 + (2 : Int32))) rfl ?_
                                                  refine B.iload 508 rfl at_506 rfl ?_
                                                  refine B.iconst 509 rfl (2 : Int32) at_508 rfl ?_
                                                  refine B.iadd 510 rfl at_509 ?_
                                                  refine B.icmp_ne 517 513 rfl (by decide) rfl at_510 (fun c510 => ?_) (fun c510 => ?_)
                                                  · exact absurd (by first | rfl | (simp only [Int32.add_assoc]; done) | (simp only [Int32.add_assoc]; rfl)) c510
                                                  · refine B.iconst 514 rfl (1 : Int32) at_513 rfl ?_
                                                    refine B.goto 518 rfl (by decide) at_514 ?_
                                                    refine B.istore 520 rfl at_518 #[.val (.int p1), .val (.int p2), .val (.int p3), .val (.int p4), .val (.int p5), .val (.int (3 : Int32)), .val (.int s0), .val (.int (s0 + (3 : Int32))), .val (.int x0), .val (.int x1), .val (.int x2), u, .val (.ref d0), .val (.ref d1), .val (.ref d2), .val (.ref d3), .val (.ref d3), .val (.int (0 : Int32)), .val (.int x0), .val (.int x1), .val (.int x2), .val (.int (0 : Int32)), .val (.int (1 : Int32))] rfl ?_
                                                    refine B.iload 522 rfl at_520 rfl ?_
                                                    refine B.retN (by simp) at_522 (by decide) (by decide) ?_
                                                    exact rfl
                              · exfalso; rw [Int32.lt_iff_toInt_lt] at c395; omega
                            · exfalso; rw [Int32.lt_iff_toInt_lt] at c372; omega
                          · exfalso; rw [Int32.lt_iff_toInt_lt] at c353; omega
                        · exact absurd c298 (by decide)
                      · exact absurd c267 (by decide)
                    · exact absurd c255 (by decide)
          · exact absurd c178 (by decide)
        · exact absurd c165 (by decide)
      · exact absurd c152 (by decide)
  refine B.icmp_le 92 80 rfl (by decide) rfl at_77 (fun c77 => ?_) (fun c77 => ?_)
  · refine B.iload 94 rfl at_92 rfl ?_
    refine B.iload 96 rfl at_94 rfl ?_
    refine B.icmp_le 111 99 rfl (by decide) rfl at_96 (fun c96 => ?_) (fun c96 => ?_)
    · refine B.iload 113 rfl at_111 rfl ?_
      refine B.iload 115 rfl at_113 rfl ?_
      refine B.icmp_le 130 118 rfl (by decide) rfl at_115 (fun c115 => ?_) (fun c115 => ?_)
      · exact J _ _ _ _ (by simp only [Int32.le_iff_toInt_le, Int32.lt_iff_toInt_lt, Int32.reduceToInt] at *; omega) (by simp only [Int32.le_iff_toInt_le, Int32.lt_iff_toInt_lt, Int32.reduceToInt] at *; omega) (by simp only [Int32.le_iff_toInt_le, Int32.lt_iff_toInt_lt, Int32.reduceToInt] at *; omega) (by simp only [Int32.le_iff_toInt_le, Int32.lt_iff_toInt_lt, Int32.reduceToInt] at *; omega)
      · refine B.iload 120 rfl at_118 rfl ?_
        refine B.istore 122 rfl at_120 #[.val (.int p1), .val (.int p2), .val (.int p3), .val (.int p4), .val (.int p5), .val (.int r), .val (.int s0), .val (.int (s0 + r)), .val (.int y0), .val (.int y1), .val (.int y2), .val (.int y0), .unset, .unset, .unset, .unset, .unset, .unset, .unset, .unset, .unset, .unset, .unset] rfl ?_
        refine B.iload 124 rfl at_122 rfl ?_
        refine B.istore 126 rfl at_124 #[.val (.int p1), .val (.int p2), .val (.int p3), .val (.int p4), .val (.int p5), .val (.int r), .val (.int s0), .val (.int (s0 + r)), .val (.int y1), .val (.int y1), .val (.int y2), .val (.int y0), .unset, .unset, .unset, .unset, .unset, .unset, .unset, .unset, .unset, .unset, .unset] rfl ?_
        refine B.iload 128 rfl at_126 rfl ?_
        refine B.istore 130 rfl at_128 #[.val (.int p1), .val (.int p2), .val (.int p3), .val (.int p4), .val (.int p5), .val (.int r), .val (.int s0), .val (.int (s0 + r)), .val (.int y1), .val (.int y0), .val (.int y2), .val (.int y0), .unset, .unset, .unset, .unset, .unset, .unset, .unset, .unset, .unset, .unset, .unset] rfl ?_
        exact J _ _ _ _ (by simp only [Int32.le_iff_toInt_le, Int32.lt_iff_toInt_lt, Int32.reduceToInt] at *; omega) (by simp only [Int32.le_iff_toInt_le, Int32.lt_iff_toInt_lt, Int32.reduceToInt] at *; omega) (by simp only [Int32.le_iff_toInt_le, Int32.lt_iff_toInt_lt, Int32.reduceToInt] at *; omega) (by simp only [Int32.le_iff_toInt_le, Int32.lt_iff_toInt_lt, Int32.reduceToInt] at *; omega)
    · refine B.iload 101 rfl at_99 rfl ?_
      refine B.istore 103 rfl at_101 #[.val (.int p1), .val (.int p2), .val (.int p3), .val (.int p4), .val (.int p5), .val (.int r), .val (.int s0), .val (.int (s0 + r)), .val (.int y0), .val (.int y1), .val (.int y2), .val (.int y1), .unset, .unset, .unset, .unset, .unset, .unset, .unset, .unset, .unset, .unset, .unset] rfl ?_
      refine B.iload 105 rfl at_103 rfl ?_
      refine B.istore 107 rfl at_105 #[.val (.int p1), .val (.int p2), .val (.int p3), .val (.int p4), .val (.int p5), .val (.int r), .val (.int s0), .val (.int (s0 + r)), .val (.int y0), .val (.int y2), .val (.int y2), .val (.int y1), .unset, .unset, .unset, .unset, .unset, .unset, .unset, .unset, .unset, .unset, .unset] rfl ?_
      refine B.iload 109 rfl at_107 rfl ?_
      refine B.istore 111 rfl at_109 #[.val (.int p1), .val (.int p2), .val (.int p3), .val (.int p4), .val (.int p5), .val (.int r), .val (.int s0), .val (.int (s0 + r)), .val (.int y0), .val (.int y2), .val (.int y1), .val (.int y1), .unset, .unset, .unset, .unset, .unset, .unset, .unset, .unset, .unset, .unset, .unset] rfl ?_
      refine B.iload 113 rfl at_111 rfl ?_
      refine B.iload 115 rfl at_113 rfl ?_
      refine B.icmp_le 130 118 rfl (by decide) rfl at_115 (fun c115 => ?_) (fun c115 => ?_)
      · exact J _ _ _ _ (by simp only [Int32.le_iff_toInt_le, Int32.lt_iff_toInt_lt, Int32.reduceToInt] at *; omega) (by simp only [Int32.le_iff_toInt_le, Int32.lt_iff_toInt_lt, Int32.reduceToInt] at *; omega) (by simp only [Int32.le_iff_toInt_le, Int32.lt_iff_toInt_lt, Int32.reduceToInt] at *; omega) (by simp only [Int32.le_iff_toInt_le, Int32.lt_iff_toInt_lt, Int32.reduceToInt] at *; omega)
      · refine B.iload 120 rfl at_118 rfl ?_
        refine B.istore 122 rfl at_120 #[.val (.int p1), .val (.int p2), .val (.int p3), .val (.int p4), .val (.int p5), .val (.int r), .val (.int s0), .val (.int (s0 + r)), .val (.int y0), .val (.int y2), .val (.int y1), .val (.int y0), .unset, .unset, .unset, .unset, .unset, .unset, .unset, .unset, .unset, .unset, .unset] rfl ?_
        refine B.iload 124 rfl at_122 rfl ?_
        refine B.istore 126 rfl at_124 #[.val (.int p1), .val (.int p2), .val (.int p3), .val (.int p4), .val (.int p5), .val (.int r), .val (.int s0), .val (.int (s0 + r)), .val (.int y2), .val (.int y2), .val (.int y1), .val (.int y0), .unset, .unset, .unset, .unset, .unset, .unset, .unset, .unset, .unset, .unset, .unset] rfl ?_
        refine B.iload 128 rfl at_126 rfl ?_
        refine B.istore 130 rfl at_128 #[.val (.int p1), .val (.int p2), .val (.int p3), .val (.int p4), .val (.int p5), .val (.int r), .val (.int s0), .val (.int (s0 + r)), .val (.int y2), .val (.int y0), .val (.int y1), .val (.int y0), .unset, .unset, .unset, .unset, .unset, .unset, .unset, .unset, .unset, .unset, .unset] rfl ?_
        exact J _ _ _ _ (by simp only [Int32.le_iff_toInt_le, Int32.lt_iff_toInt_lt, Int32.reduceToInt] at *; omega) (by simp only [Int32.le_iff_toInt_le, Int32.lt_iff_toInt_lt, Int32.reduceToInt] at *; omega) (by simp only [Int32.le_iff_toInt_le, Int32.lt_iff_toInt_lt, Int32.reduceToInt] at *; omega) (by simp only [Int32.le_iff_toInt_le, Int32.lt_iff_toInt_lt, Int32.reduceToInt] at *; omega)
  · refine B.iload 82 rfl at_80 rfl ?_
    refine B.istore 84 rfl at_82 #[.val (.int p1), .val (.int p2), .val (.int p3), .val (.int p4), .val (.int p5), .val (.int r), .val (.int s0), .val (.int (s0 + r)), .val (.int y0), .val (.int y1), .val (.int y2), .val (.int y0), .unset, .unset, .unset, .unset, .unset, .unset, .unset, .unset, .unset, .unset, .unset] rfl ?_
    refine B.iload 86 rfl at_84 rfl ?_
    refine B.istore 88 rfl at_86 #[.val (.int p1), .val (.int p2), .val (.int p3), .val (.int p4), .val (.int p5), .val (.int r), .val (.int s0), .val (.int (s0 + r)), .val (.int y1), .val (.int y1), .val (.int y2), .val (.int y0), .unset, .unset, .unset, .unset, .unset, .unset, .unset, .unset, .unset, .unset, .unset] rfl ?_
    refine B.iload 90 rfl at_88 rfl ?_
    refine B.istore 92 rfl at_90 #[.val (.int p1), .val (.int p2), .val (.int p3), .val (.int p4), .val (.int p5), .val (.int r), .val (.int s0), .val (.int (s0 + r)), .val (.int y1), .val (.int y0), .val (.int y2), .val (.int y0), .unset, .unset, .unset, .unset, .unset, .unset, .unset, .unset, .unset, .unset, .unset] rfl ?_
    refine B.iload 94 rfl at_92 rfl ?_
    refine B.iload 96 rfl at_94 rfl ?_
    refine B.icmp_le 111 99 rfl (by decide) rfl at_96 (fun c96 => ?_) (fun c96 => ?_)
    · refine B.iload 113 rfl at_111 rfl ?_
      refine B.iload 115 rfl at_113 rfl ?_
      refine B.icmp_le 130 118 rfl (by decide) rfl at_115 (fun c115 => ?_) (fun c115 => ?_)
      · exact J _ _ _ _ (by simp only [Int32.le_iff_toInt_le, Int32.lt_iff_toInt_lt, Int32.reduceToInt] at *; omega) (by simp only [Int32.le_iff_toInt_le, Int32.lt_iff_toInt_lt, Int32.reduceToInt] at *; omega) (by simp only [Int32.le_iff_toInt_le, Int32.lt_iff_toInt_lt, Int32.reduceToInt] at *; omega) (by simp only [Int32.le_iff_toInt_le, Int32.lt_iff_toInt_lt, Int32.reduceToInt] at *; omega)
      · refine B.iload 120 rfl at_118 rfl ?_
        refine B.istore 122 rfl at_120 #[.val (.int p1), .val (.int p2), .val (.int p3), .val (.int p4), .val (.int p5), .val (.int r), .val (.int s0), .val (.int (s0 + r)), .val (.int y1), .val (.int y0), .val (.int y2), .val (.int y1), .unset, .unset, .unset, .unset, .unset, .unset, .unset, .unset, .unset, .unset, .unset] rfl ?_
        refine B.iload 124 rfl at_122 rfl ?_
        refine B.istore 126 rfl at_124 #[.val (.int p1), .val (.int p2), .val (.int p3), .val (.int p4), .val (.int p5), .val (.int r), .val (.int s0), .val (.int (s0 + r)), .val (.int y0), .val (.int y0), .val (.int y2), .val (.int y1), .unset, .unset, .unset, .unset, .unset, .unset, .unset, .unset, .unset, .unset, .unset] rfl ?_
        refine B.iload 128 rfl at_126 rfl ?_
        refine B.istore 130 rfl at_128 #[.val (.int p1), .val (.int p2), .val (.int p3), .val (.int p4), .val (.int p5), .val (.int r), .val (.int s0), .val (.int (s0 + r)), .val (.int y0), .val (.int y1), .val (.int y2), .val (.int y1), .unset, .unset, .unset, .unset, .unset, .unset, .unset, .unset, .unset, .unset, .unset] rfl ?_
        exact J _ _ _ _ (by simp only [Int32.le_iff_toInt_le, Int32.lt_iff_toInt_lt, Int32.reduceToInt] at *; omega) (by simp only [Int32.le_iff_toInt_le, Int32.lt_iff_toInt_lt, Int32.reduceToInt] at *; omega) (by simp only [Int32.le_iff_toInt_le, Int32.lt_iff_toInt_lt, Int32.reduceToInt] at *; omega) (by simp only [Int32.le_iff_toInt_le, Int32.lt_iff_toInt_lt, Int32.reduceToInt] at *; omega)
    · refine B.iload 101 rfl at_99 rfl ?_
      refine B.istore 103 rfl at_101 #[.val (.int p1), .val (.int p2), .val (.int p3), .val (.int p4), .val (.int p5), .val (.int r), .val (.int s0), .val (.int (s0 + r)), .val (.int y1), .val (.int y0), .val (.int y2), .val (.int y0), .unset, .unset, .unset, .unset, .unset, .unset, .unset, .unset, .unset, .unset, .unset] rfl ?_
      refine B.iload 105 rfl at_103 rfl ?_
      refine B.istore 107 rfl at_105 #[.val (.int p1), .val (.int p2), .val (.int p3), .val (.int p4), .val (.int p5), .val (.int r), .val (.int s0), .val (.int (s0 + r)), .val (.int y1), .val (.int y2), .val (.int y2), .val (.int y0), .unset, .unset, .unset, .unset, .unset, .unset, .unset, .unset, .unset, .unset, .unset] rfl ?_
      refine B.iload 109 rfl at_107 rfl ?_
      refine B.istore 111 rfl at_109 #[.val (.int p1), .val (.int p2), .val (.int p3), .val (.int p4), .val (.int p5), .val (.int r), .val (.int s0), .val (.int (s0 + r)), .val (.int y1), .val (.int y2), .val (.int y0), .val (.int y0), .unset, .unset, .unset, .unset, .unset, .unset, .unset, .unset, .unset, .unset, .unset] rfl ?_
      refine B.iload 113 rfl at_111 rfl ?_
      refine B.iload 115 rfl at_113 rfl ?_
      refine B.icmp_le 130 118 rfl (by decide) rfl at_115 (fun c115 => ?_) (fun c115 => ?_)
      · exact J _ _ _ _ (by simp only [Int32.le_iff_toInt_le, Int32.lt_iff_toInt_lt, Int32.reduceToInt] at *; omega) (by simp only [Int32.le_iff_toInt_le, Int32.lt_iff_toInt_lt, Int32.reduceToInt] at *; omega) (by simp only [Int32.le_iff_toInt_le, Int32.lt_iff_toInt_lt, Int32.reduceToInt] at *; omega) (by simp only [Int32.le_iff_toInt_le, Int32.lt_iff_toInt_lt, Int32.reduceToInt] at *; omega)
      · refine B.iload 120 rfl at_118 rfl ?_
        refine B.istore 122 rfl at_120 #[.val (.int p1), .val (.int p2), .val (.int p3), .val (.int p4), .val (.int p5), .val (.int r), .val (.int s0), .val (.int (s0 + r)), .val (.int y1), .val (.int y2), .val (.int y0), .val (.int y1), .unset, .unset, .unset, .unset, .unset, .unset, .unset, .unset, .unset, .unset, .unset] rfl ?_
        refine B.iload 124 rfl at_122 rfl ?_
        refine B.istore 126 rfl at_124 #[.val (.int p1), .val (.int p2), .val (.int p3), .val (.int p4), .val (.int p5), .val (.int r), .val (.int s0), .val (.int (s0 + r)), .val (.int y2), .val (.int y2), .val (.int y0), .val (.int y1), .unset, .unset, .unset, .unset, .unset, .unset, .unset, .unset, .unset, .unset, .unset] rfl ?_
        refine B.iload 128 rfl at_126 rfl ?_
        refine B.istore 130 rfl at_128 #[.val (.int p1), .val (.int p2), .val (.int p3), .val (.int p4), .val (.int p5), .val (.int r), .val (.int s0), .val (.int (s0 + r)), .val (.int y2), .val (.int y1), .val (.int y0), .val (.int y1), .unset, .unset, .unset, .unset, .unset, .unset, .unset, .unset, .unset, .unset, .unset] rfl ?_
        exact J _ _ _ _ (by simp only [Int32.le_iff_toInt_le, Int32.lt_iff_toInt_lt, Int32.reduceToInt] at *; omega) (by simp only [Int32.le_iff_toInt_le, Int32.lt_iff_toInt_lt, Int32.reduceToInt] at *; omega) (by simp only [Int32.le_iff_toInt_le, Int32.lt_iff_toInt_lt, Int32.reduceToInt] at *; omega) (by simp only [Int32.le_iff_toInt_le, Int32.lt_iff_toInt_lt, Int32.reduceToInt] at *; omega)
set_option maxRecDepth 65536 in
set_option maxHeartbeats 4000000 in
theorem comes_1 {Post : Tables → Env → Array Value → State → Outcome → State → Prop} (hpost : ∀ tb e args s v u, (limb_1_1.after args s (.returned v) u = true ∧ limb_1_2.after args s (.returned v) u = true ∧ True) → FrameEnd s (.returned v) u (Jvm.fieldLocs frame_1_writes args s ++ Jvm.arrayLocs frame_1_arrays args s ++ Jvm.staticLocs frame_1_statics s) 16 128 → Post tb e args s (.returned v) u) :
    ArmFor flags0 classFile x code maxLocals ret World_1 tables_1 room_1 Calls_1 rest_1 Pre_1 Post := by
  intro l hfl _ _ p e ha hc hk s m args below hf hA hF happ hP
  obtain ⟨hcalls, hrest, hpre⟩ := hP
  obtain ⟨-, -, -, hnamed, -, -, -, hat⟩ := (Spec.applies_iff hf).mp happ
  obtain ⟨hg, hn⟩ := and_e (Cond.before_iff.mp (show (Jvm.Cond.and given_1 narrow_1).before args s = true from hpre))
  obtain ⟨g0, gg0⟩ := and_e hg
  obtain ⟨k0, gg1⟩ := and_e gg0
  obtain ⟨k1, gg2⟩ := and_e gg1
  obtain ⟨k2, gg3⟩ := and_e gg2
  obtain ⟨k3, gg4⟩ := and_e gg3
  obtain ⟨w0, w1, w2, w3, w4, rfl⟩ : ∃ w0 w1 w2 w3 w4 : Value, args = #[w0, w1, w2, w3, w4] := by
    have hs : args.size = 5 := by simpa [Cond.value, given_1] using g0
    obtain ⟨L⟩ := args
    match L, hs with
    | [w0, w1, w2, w3, w4], _ => exact ⟨w0, w1, w2, w3, w4, rfl⟩
  have hw := fun d (hd : d ∈ tables_1) => atoms_spec (ws := Jvm.Cond.code x code maxLocals ret :: tables_1) hat d (List.mem_cons_of_mem _ hd)
  obtain ⟨i0, ei0⟩ := is_v k0
  obtain rfl : w0 = (.int i0) := Option.some.inj ei0
  obtain ⟨i1, ei1⟩ := is_v k1
  obtain rfl : w1 = (.int i1) := Option.some.inj ei1
  obtain ⟨i2, ei2⟩ := is_v k2
  obtain rfl : w2 = (.int i2) := Option.some.inj ei2
  obtain ⟨i3, ei3⟩ := is_v k3
  obtain rfl : w3 = (.int i3) := Option.some.inj ei3
  obtain ⟨i4, ei4⟩ := is_v gg4
  obtain rfl : w4 = (.int i4) := Option.some.inj ei4
  obtain ⟨n, o, h1, h2, h3, _, L, rfl, ⟨rfl, N, -⟩, hq⟩ := rm0 l s _ hw tables_1 i0 i1 i2 i3 i4 s.heap  p e ha hc hk s m _ below hf ((Spec.applies_iff_loose hf).mp happ).1 ⟨rfl, State.Warmed39.refl s, rfl⟩ trivial
  refine ⟨n, _, h1, h2, h3, hpost _ _ _ _ _ _ ⟨Cond.after_iff.mpr rfl, Cond.after_iff.mpr (eq_i res_at (Term.int_eval (1)) rfl), trivial⟩ ⟨hq.1, hq.2.1, (hq.2.2.sift fun y hy => Or.inr ((N y hy).resolve_left (by simp))).mono (by decide) (by decide)⟩⟩
theorem main_1_1 : Claimed_1_1 := comes_1 fun _ _ _ _ _ _ h hF => ⟨h.1, hF⟩
theorem main_1_2 : Claimed_1_2 := comes_1 fun _ _ _ _ _ _ h hF => ⟨h.2.1, hF⟩
end Jvm.Pilot.@@N@@
namespace Jvm.Pilot.@@N@@
open Jvm Jvm.ClassFile Sem Op Lib Jvm.Free Jvm.Stand Jvm.Pilot.@@N@@.Jvm.D
/-! MADE BY PROGRAM (witnessworld.py) out of the Statement's table words and the real class files: 10 classes; the members and pool entries that the words name. The judged class is class 1, her method 1. -/
namespace start1
open Jvm.ClassFile
def u (s : String) : CpInfo := .utf8 (stringToUtf16 s)
/-- a pool by its gaps: so many unusable entries, then the entry; so many at the end -/
def gap : Nat → List CpInfo → List CpInfo
  | 0, r => r
  | n + 1, r => .unusable :: gap n r
def poolList (es : List (Nat × CpInfo)) (last : Nat) : List CpInfo := es.foldr (fun e r => gap e.1 (e.2 :: r)) (gap last [])
def pool (es : List (Nat × CpInfo)) (last : Nat) : Array CpInfo := ⟨poolList es last⟩
def fileOf (pool : Array CpInfo) (this : Nat) (attrs : Array Attribute := #[]) (ms : Array MethodInfo := #[]) (fl : Nat := 33) (sup : Nat := 0) (ifs : Array Nat := #[]) (fds : Array FieldInfo := #[]) : ClassFile where
  minorVersion := 0
  majorVersion := 65
  constantPool := pool
  accessFlags := fl
  thisClass := this
  superClass := sup
  interfaces := ifs
  fields := fds
  methods := ms
  attributes := attrs
def plain (name : String) (sup : Option ClassId) : Class where
  name := name
  kind := .ordinary
  loader := none
  accessFlags := 33
  super := sup
  interfaces := #[]
  cf := none
  fields := #[]
  methods := #[]
  instanceTypes := #[]
  staticTypes := #[]
  resolved := #[]
  callSites := []
  init := .initialized
  statics := none
  mirror := none

def pool0 : Array CpInfo := pool [(5, u "<init>"), (0, u "()V"), (1, .class_ 10), (1, u "java/lang/Object")] 113

def k0m0 : Method := { name := "<init>", desc := "()V", sig := { parameters := [], returnType := none }, accessFlags := 1, code := none }
/-- java/lang/Object -/
def k0 : Class := { plain "java/lang/Object" none with
  accessFlags := 33
  interfaces := #[]
  cf := some (fileOf pool0 8 #[] #[{ accessFlags := 1, nameIndex := 5, descriptorIndex := 6, attributes := #[] }] 33 0 #[] #[])
  fields := #[]
  methods := #[k0m0]
  instanceTypes := #[]
  staticTypes := #[]
  resolved := Array.replicate 124 none
  statics := none }

def pool1 : Array CpInfo := pool [(2, .class_ 4), (1, u "java/lang/Object"), (0, u "<init>"), (0, u "()V"), (0, .integer 2147483647), (0, .integer 2147483644), (0, .methodref 10 11), (0, .class_ 12), (0, .nameAndType 13 14), (0, u "java/lang/Math"), (0, u "min"), (0, u "(II)I"), (0, .methodref 16 17), (0, .class_ 18), (0, .nameAndType 19 20), (0, u "com/example/interlace/interlace/engine/CombinationsNextPinLaw"), (0, u "pick"), (0, u "(III)I"), (0, .methodref 22 23), (0, .class_ 24), (0, .nameAndType 25 26), (0, u "com/example/interlace/interlace/engine/Combinations"), (0, u "next"), (0, u "([II)Z"), (0, .methodref 10 28), (0, .nameAndType 29 14), (0, u "max"), (2, u "law"), (0, u "(IIIII)Z")] 5

def k1m0 : Method := { name := "<init>", desc := "()V", sig := { parameters := [], returnType := none }, accessFlags := 1, code := none }
def k1c1 : Code := { maxStack := 4, maxLocals := 23, code := code, exceptionTable := #[], attributes := #[] }
def k1m1 : Method := { name := "law", desc := "(IIIII)Z", sig := { parameters := [.int, .int, .int, .int, .int], returnType := some .boolean }, accessFlags := 9, code := some k1c1 }
def k1c2 : Code := { maxStack := 4, maxLocals := 3, code := method_3_code, exceptionTable := #[], attributes := #[] }
def k1m2 : Method := { name := "pick", desc := "(III)I", sig := { parameters := [.int, .int, .int], returnType := some .int }, accessFlags := 10, code := some k1c2 }
/-- com/example/interlace/interlace/engine/CombinationsNextPinLaw -/
def k1 : Class := { plain "com/example/interlace/interlace/engine/CombinationsNextPinLaw" (some 0) with
  accessFlags := 49
  interfaces := #[]
  cf := some (fileOf pool1 16 #[] #[{ accessFlags := 1, nameIndex := 5, descriptorIndex := 6, attributes := #[] }, { accessFlags := 9, nameIndex := 32, descriptorIndex := 33, attributes := #[] }, { accessFlags := 10, nameIndex := 19, descriptorIndex := 20, attributes := #[] }] 49 2 #[] #[])
  fields := #[]
  methods := #[k1m0, k1m1, k1m2]
  instanceTypes := #[]
  staticTypes := #[]
  resolved := Array.replicate 39 none
  statics := none }

def pool2 : Array CpInfo := pool [(1, .class_ 2), (0, u "java/lang/Math"), (1, .class_ 6), (1, u "java/lang/Object"), (0, u "<init>"), (0, u "()V"), (89, .class_ 100), (1, u "java/lang/Math$RandomNumberGeneratorHolder"), (71, u "negativeZeroFloatBits"), (0, u "J"), (2, u "negativeZeroDoubleBits"), (21, u "max"), (2, u "min"), (43, u "$assertionsDisabled"), (0, u "Z"), (88, u "(II)I"), (2, u "twoToTheDoubleScaleDown"), (0, u "D"), (4, u "twoToTheDoubleScaleUp"), (9, u "E"), (3, u "PI"), (2, u "TAU"), (2, u "DEGREES_TO_RADIANS"), (0, u "RADIANS_TO_DEGREES")] 94

def k2m0 : Method := { name := "<init>", desc := "()V", sig := { parameters := [], returnType := none }, accessFlags := 2, code := none }
def k2c1 : Code := { maxStack := 2, maxLocals := 2, code := jdk_29_method_65_code, exceptionTable := #[], attributes := #[] }
def k2m1 : Method := { name := "max", desc := "(II)I", sig := { parameters := [.int, .int], returnType := some .int }, accessFlags := 9, code := some k2c1 }
def k2c2 : Code := { maxStack := 2, maxLocals := 2, code := jdk_29_method_69_code, exceptionTable := #[], attributes := #[] }
def k2m2 : Method := { name := "min", desc := "(II)I", sig := { parameters := [.int, .int], returnType := some .int }, accessFlags := 9, code := some k2c2 }
/-- java/lang/Math -/
def k2 : Class := { plain "java/lang/Math" (some 0) with
  accessFlags := 49
  interfaces := #[]
  cf := some (fileOf pool2 1 #[.nestMembers #[98]] #[{ accessFlags := 2, nameIndex := 7, descriptorIndex := 8, attributes := #[] }, { accessFlags := 9, nameIndex := 198, descriptorIndex := 335, attributes := #[] }, { accessFlags := 9, nameIndex := 201, descriptorIndex := 335, attributes := #[] }] 49 4 #[] #[{ accessFlags := 25, nameIndex := 354, descriptorIndex := 339, attributes := #[] }, { accessFlags := 25, nameIndex := 358, descriptorIndex := 339, attributes := #[] }, { accessFlags := 25, nameIndex := 361, descriptorIndex := 339, attributes := #[] }, { accessFlags := 26, nameIndex := 364, descriptorIndex := 339, attributes := #[] }, { accessFlags := 26, nameIndex := 365, descriptorIndex := 339, attributes := #[] }, { accessFlags := 26, nameIndex := 172, descriptorIndex := 173, attributes := #[] }, { accessFlags := 26, nameIndex := 176, descriptorIndex := 173, attributes := #[] }, { accessFlags := 8, nameIndex := 344, descriptorIndex := 339, attributes := #[] }, { accessFlags := 8, nameIndex := 338, descriptorIndex := 339, attributes := #[] }, { accessFlags := 4120, nameIndex := 245, descriptorIndex := 246, attributes := #[] }])
  fields := #[{ name := "E", type := .double, accessFlags := 25, slot := 0, constantValue := 0 }, { name := "PI", type := .double, accessFlags := 25, slot := 1, constantValue := 0 }, { name := "TAU", type := .double, accessFlags := 25, slot := 2, constantValue := 0 }, { name := "DEGREES_TO_RADIANS", type := .double, accessFlags := 26, slot := 3, constantValue := 0 }, { name := "RADIANS_TO_DEGREES", type := .double, accessFlags := 26, slot := 4, constantValue := 0 }, { name := "negativeZeroFloatBits", type := .long, accessFlags := 26, slot := 5, constantValue := 0 }, { name := "negativeZeroDoubleBits", type := .long, accessFlags := 26, slot := 6, constantValue := 0 }, { name := "twoToTheDoubleScaleUp", type := .double, accessFlags := 8, slot := 7, constantValue := 0 }, { name := "twoToTheDoubleScaleDown", type := .double, accessFlags := 8, slot := 8, constantValue := 0 }, { name := "$assertionsDisabled", type := .boolean, accessFlags := 4120, slot := 9, constantValue := 0 }]
  methods := #[k2m0, k2m1, k2m2]
  instanceTypes := #[]
  staticTypes := #[.double, .double, .double, .double, .double, .long, .long, .double, .double, .boolean]
  resolved := Array.replicate 460 none
  statics := none }

def pool3 : Array CpInfo := pool [(2, .class_ 4), (1, u "java/lang/Object"), (0, u "<init>"), (0, u "()V"), (0, .class_ 8), (0, u "com/example/interlace/interlace/engine/Combinations"), (5, u "next"), (0, u "([II)Z")] 2

def k3m0 : Method := { name := "<init>", desc := "()V", sig := { parameters := [], returnType := none }, accessFlags := 2, code := none }
def k3c1 : Code := { maxStack := 5, maxLocals := 5, code := prog_2_method_3_code, exceptionTable := #[], attributes := #[] }
def k3m1 : Method := { name := "next", desc := "([II)Z", sig := { parameters := [(.array .int), .int], returnType := some .boolean }, accessFlags := 8, code := some k3c1 }
/-- com/example/interlace/interlace/engine/Combinations -/
def k3 : Class := { plain "com/example/interlace/interlace/engine/Combinations" (some 0) with
  accessFlags := 48
  interfaces := #[]
  cf := some (fileOf pool3 7 #[] #[{ accessFlags := 2, nameIndex := 5, descriptorIndex := 6, attributes := #[] }, { accessFlags := 8, nameIndex := 14, descriptorIndex := 15, attributes := #[] }] 48 2 #[] #[])
  fields := #[]
  methods := #[k3m0, k3m1]
  instanceTypes := #[]
  staticTypes := #[]
  resolved := Array.replicate 18 none
  statics := none }

def pool4 : Array CpInfo := pool [(1, u "java/lang/Cloneable"), (0, .class_ 1), (0, u "java/lang/Object"), (0, .class_ 3)] 3

/-- java/lang/Cloneable -/
def k4 : Class := { plain "java/lang/Cloneable" (some 0) with
  accessFlags := 1537
  interfaces := #[]
  cf := some (fileOf pool4 2 #[] #[] 1537 4 #[] #[])
  fields := #[]
  methods := #[]
  instanceTypes := #[]
  staticTypes := #[]
  resolved := Array.replicate 8 none
  statics := none }

def pool5 : Array CpInfo := pool [(1, u "java/io/Serializable"), (0, .class_ 1), (0, u "java/lang/Object"), (0, .class_ 3)] 3

/-- java/io/Serializable -/
def k5 : Class := { plain "java/io/Serializable" (some 0) with
  accessFlags := 1537
  interfaces := #[]
  cf := some (fileOf pool5 2 #[] #[] 1537 4 #[] #[])
  fields := #[]
  methods := #[]
  instanceTypes := #[]
  staticTypes := #[]
  resolved := Array.replicate 8 none
  statics := none }

/-- the primitive byte -/
def k6 : Class := { plain "byte" none with kind := .primitive 'B', accessFlags := 0x411 }
/-- [B -/
def k7 : Class := { plain "[B" (some 0) with kind := .array 6 .byte, interfaces := #[4, 5], accessFlags := 1041 }

/-- the primitive int -/
def k8 : Class := { plain "int" none with kind := .primitive 'I', accessFlags := 0x411 }
/-- [I -/
def k9 : Class := { plain "[I" (some 0) with kind := .array 8 .int, interfaces := #[4, 5], accessFlags := 1041 }

def heap : Heap := #[]
def classes : Array Class := #[k0, k1, k2, k3, k4, k5, k6, k7, k8, k9]
def interned : List (Array UInt16 × Addr) := []
def slotsUsed : Nat := 0
def theMethod : MethodId := ⟨1, 1⟩
def args0 : Array Value := #[.int 9, .int 96, .int 1, .int 2, .int 3]
def aboutOver (below : List Frame) : State where
  vm := { classes := classes, interned := interned.toArray }
  heap := heap
  slotsUsed := slotsUsed
  threads := #[{ frames := .invoking theMethod args0 :: below }]
def below0 : List Frame := [.native { method := ⟨0, 0⟩, args := #[] }]
def about1 : State := aboutOver below0
def p0 : Program := .bare "" "" ""
def e0 : Env := launch0.env 0 0 0
theorem w_frames : about1.frames = Frame.invoking theMethod args0 :: below0 := rfl
set_option maxRecDepth 65536 in
theorem w_args : argsFit about1.vm theMethod args0 = true := by decide +kernel
set_option maxRecDepth 65536 in
theorem w_heap : heapFits about1 = true := by decide +kernel
set_option maxRecDepth 65536 in
theorem w_runnable : about1.curStatus? = some .runnable := by decide +kernel
set_option maxRecDepth 65536 in
theorem w_alone : about1.alone = true := by decide +kernel
set_option maxRecDepth 65536 in
theorem w_named : about1.methodNamed? x = some theMethod := by decide +kernel
set_option maxRecDepth 65536 in
theorem w_hears : about1.hears theMethod below0 = true := by decide +kernel
set_option maxRecDepth 65536 in
theorem w_ripe : about1.ripe theMethod args0 below0 = true := by decide +kernel
theorem w_running : about1.status = .running := rfl
set_option maxRecDepth 65536 in
theorem w_room : about1.hasRoom e0.platform room_1 = true :=
  launch0.hasRoom_least _ room_1 (by decide +kernel) (by decide +kernel) (by decide +kernel) (by decide +kernel) (by decide +kernel) (by decide +kernel)
theorem allAtoms_all (ts : List Jvm.Cond) (a : Array Jvm.Value) (st : Jvm.State) : (allAtoms ts).before a st = ts.all (fun c => c.before a st) := by
  induction ts with
  | nil => rfl
  | cons c t ih =>
    show (Jvm.Cond.and c (allAtoms t)).before a st = _
    rw [Jvm.Cond.before_and, ih, List.all_cons]
def words1 : List Jvm.Cond := Jvm.Cond.code x code maxLocals ret :: tables_1
/-- a 'code' word, met by the world's own term for the bytes: nothing is compared byte by byte -/
theorem code_word {y : MethodName} {bytes : ByteArray} {mx : Nat} {rt : Option FieldType} {a : Array Value} {s : State} {m : MethodId} {meth : Method} {c : Code} (h1 : s.methodNamed? y = some m) (h2 : s.vm.method? m = some meth) (h3 : meth.code = some c) (h4 : c.code = bytes)
    (h5 : (c.maxLocals == mx && c.exceptionTable.isEmpty && decide (c.maxStack ≤ mostOperands) && decide (meth.sig.returnType = rt) && !meth.locks && decide (parseMethodDescriptor y.desc = some meth.sig)) = true) : (Jvm.Cond.code y bytes mx rt).before a s = true := by
  simp only [Bool.and_eq_true, beq_iff_eq, Bool.not_eq_true', decide_eq_true_eq] at h5
  obtain ⟨⟨⟨⟨⟨g1, g2⟩, g3⟩, g4⟩, g5⟩, g6⟩ := h5
  simp [Cond.before, Cond.holds, Cond.value, h1, h2, h3, h4, g1, g2, g3, g4, g5, g6]
def isCode : Jvm.Cond → Bool
  | .code _ _ _ _ => true
  | _ => false
theorem all_split {L : List Jvm.Cond} {P : Jvm.Cond → Bool} (h1 : L.all (fun c => isCode c || P c) = true) (h2 : ∀ c ∈ L.filter isCode, P c = true) : L.all P = true := by
  refine List.all_eq_true.mpr fun c hc => ?_
  have h := List.all_eq_true.mp h1 c hc
  rcases Bool.eq_false_or_eq_true (isCode c) with hi | hi
  · exact h2 c (List.mem_filter.mpr ⟨hc, hi⟩)
  · simpa [hi] using h
set_option maxRecDepth 65536 in
theorem w_c0 : (Jvm.Cond.code x code maxLocals ret).before args0 about1 = true := code_word (m := ⟨1, 1⟩) (meth := k1m1) (c := k1c1) (by decide +kernel) rfl rfl rfl (by decide +kernel)
set_option maxRecDepth 65536 in
theorem w_c1 : (Jvm.Cond.code ({ cls := "java/lang/Math", name := "min", desc := "(II)I" } : Jvm.MethodName) jdk_29_method_69_code (2 : Nat) (Option.some Jvm.ClassFile.FieldType.int)).before args0 about1 = true := code_word (m := ⟨2, 2⟩) (meth := k2m2) (c := k2c2) (by decide +kernel) rfl rfl rfl (by decide +kernel)
set_option maxRecDepth 65536 in
theorem w_c2 : (Jvm.Cond.code ({ cls := "com/example/interlace/interlace/engine/CombinationsNextPinLaw", name := "pick", desc := "(III)I" } : Jvm.MethodName) method_3_code (3 : Nat) (Option.some Jvm.ClassFile.FieldType.int)).before args0 about1 = true := code_word (m := ⟨1, 2⟩) (meth := k1m2) (c := k1c2) (by decide +kernel) rfl rfl rfl (by decide +kernel)
set_option maxRecDepth 65536 in
theorem w_c3 : (Jvm.Cond.code ({ cls := "com/example/interlace/interlace/engine/Combinations", name := "next", desc := "([II)Z" } : Jvm.MethodName) prog_2_method_3_code (5 : Nat) (Option.some Jvm.ClassFile.FieldType.boolean)).before args0 about1 = true := code_word (m := ⟨3, 1⟩) (meth := k3m1) (c := k3c1) (by decide +kernel) rfl rfl rfl (by decide +kernel)
set_option maxRecDepth 65536 in
theorem w_c4 : (Jvm.Cond.code ({ cls := "java/lang/Math", name := "max", desc := "(II)I" } : Jvm.MethodName) jdk_29_method_65_code (2 : Nat) (Option.some Jvm.ClassFile.FieldType.int)).before args0 about1 = true := code_word (m := ⟨2, 1⟩) (meth := k2m1) (c := k2c1) (by decide +kernel) rfl rfl rfl (by decide +kernel)
def codes1 : List Jvm.Cond := [Jvm.Cond.code x code maxLocals ret, Jvm.Cond.code ({ cls := "java/lang/Math", name := "min", desc := "(II)I" } : Jvm.MethodName) jdk_29_method_69_code (2 : Nat) (Option.some Jvm.ClassFile.FieldType.int), Jvm.Cond.code ({ cls := "com/example/interlace/interlace/engine/CombinationsNextPinLaw", name := "pick", desc := "(III)I" } : Jvm.MethodName) method_3_code (3 : Nat) (Option.some Jvm.ClassFile.FieldType.int), Jvm.Cond.code ({ cls := "com/example/interlace/interlace/engine/Combinations", name := "next", desc := "([II)Z" } : Jvm.MethodName) prog_2_method_3_code (5 : Nat) (Option.some Jvm.ClassFile.FieldType.boolean), Jvm.Cond.code ({ cls := "java/lang/Math", name := "max", desc := "(II)I" } : Jvm.MethodName) jdk_29_method_65_code (2 : Nat) (Option.some Jvm.ClassFile.FieldType.int)]
set_option maxRecDepth 65536 in
theorem codes_eq : words1.filter isCode = codes1 := rfl
theorem w_codes : ∀ c ∈ words1.filter isCode, c.before args0 about1 = true := by
  rw [codes_eq]
  intro c hc
  simp only [codes1, List.mem_cons, List.not_mem_nil, or_false] at hc
  rcases hc with rfl | rfl | rfl | rfl | rfl
  · exact w_c0
  · exact w_c1
  · exact w_c2
  · exact w_c3
  · exact w_c4
set_option maxRecDepth 65536 in
theorem w_t1 : words1.all (fun c => isCode c || c.before args0 about1) = true := by decide +kernel
theorem w_tables : (allAtoms (Jvm.Cond.code x code maxLocals ret :: tables_1)).before args0 about1 = true := by
  rw [allAtoms_all]
  show words1.all (fun c => c.before args0 about1) = true
  refine all_split ?_ w_codes
  rw [w_t1]
set_option maxRecDepth 65536 in
theorem w_case : (Jvm.Cond.and given_1 narrow_1).before args0 about1 = true := by decide +kernel
theorem w_applies : (headSpec (Jvm.Cond.code x code maxLocals ret :: tables_1) room_1).applies x e0.platform about1 = true :=
  (Spec.applies_iff w_frames).mpr ⟨w_running, w_runnable, w_alone, w_named, w_hears, w_ripe, w_room, w_tables⟩
theorem atStart : AtStart classFile x code maxLocals ret World_1 tables_1 room_1 Calls_1 rest_1 Pre_1 launch0 p0 e0 about1 theMethod args0 below0 :=
  ⟨lists_1, trivial, launch0.admits_env _ _ _, launch0.least_env, fairChoices_fair.cas, fairChoices_fair.clock, w_frames, w_args, w_heap, w_applies, trivial, trivial, w_case⟩
end start1
theorem witness_1 : WitnessClaimed_1 := ⟨start1.p0, start1.e0, start1.about1, start1.theMethod, start1.args0, start1.below0, start1.atStart⟩
end Jvm.Pilot.@@N@@
