import JvmDerived
import JvmDerived.Pilot.@@N@@Statement
import JvmDerived.Pilot.@@N@@Code
set_option linter.unusedVariables false
set_option linter.unusedSimpArgs false
namespace Jvm.Own
open Jvm Jvm.ClassFile Sem Op Lib Jvm.Free Jvm.Stand Jvm.LawKit Jvm.RoadKit
/-! THE WALKER's LAYER: 'B.G h cl sl g': from every place where the walk stands over the heap h with the frame g (cl cells, sl slots made), the method returns as its contract says. One law a step, backwards. -/
/-- written places lie in cells of ws or in new cells -/
def Frw (ws : List Addr) (k : Nat) (L : List Loc) : Prop := ∀ y ∈ L, y.base ∈ ws ∨ k ≤ y.base
/-- what a contract says at the end -/
def Qw (C : Option Value → Heap → Prop) (ws : List Addr) (h0 : Heap) (v : Option Value) (h : Heap) (L : List Loc) : Prop := C v h ∧ Frw ws h0.size L ∧ Keep h0 h ws
/-- a contract: called with the arguments as over the heap h0, it returns, as C says, writing in ws or in new cells alone -/
def Met (l : Launch) (Z : State) (y : MethodName) (bytes : ByteArray) (maxL : Nat) (ret : Option FieldType) (wds : List Jvm.Cond) (rm : Room) (as : Array Value) (h0 : Heap) (ws : List Addr) (C : Option Value → Heap → Prop) : Prop :=
  MetFree l y (head1 (Jvm.Cond.code y bytes maxL ret :: wds) rm) (fun a U => a = as ∧ Z.Warmed39 U.vm ∧ U.heap = h0) (fun _ _ _ _ _ => True) (fun _ U o U' => ∃ v L, o = .returned v ∧ Qw C ws h0 v U'.heap L ∧ FrameEnd U o U' L rm.cells rm.slots)
/-- what stands still through a body's walk -/
def Base (p : Program) (l : Launch) (e : Env) (R : Room) (s : State) (m : MethodId) (args : Array Value) (below : List Frame) (meth : Method) (c : Code) (Z : State) (y : MethodName) (bytes : ByteArray) (maxL : Nat) (ret : Option FieldType) (h0 : Heap) (ws : List Addr) (C : Option Value → Heap → Prop) : Prop :=
  p.tables.exec = Jvm.exec ∧ c.code = bytes ∧ c.maxLocals = maxL ∧ Z.Warmed39 s.vm ∧ s.vm.findClass y.cls = some m.cls ∧ meth.sig.returnType = ret ∧ meth.locks = false ∧ meth.name = y.name ∧ s.heap = h0
section Walk
variable {p : Program} {l : Launch} {e : Env} {R : Room} {s : State} {m : MethodId} {args : Array Value} {below : List Frame} {meth : Method} {c : Code} {Z : State} {a0 : Array Value} {y : MethodName} {bytes : ByteArray} {maxL : Nat} {ret : Option FieldType} {h0 : Heap} {ws : List Addr} {C : Option Value → Heap → Prop}
/-- from here the method returns as its contract says -/
def Base.G (B : Base p l e R s m args below meth c Z y bytes maxL ret h0 ws C) (h : Heap) (cl sl : Nat) (g : JFrame) : Prop :=
  ∀ (T : State) (locs : List Loc), Stand p l e R s m args below meth c T locs cl sl → Frw ws h0.size locs → T.heap = h → ∃ (t : State) (o : Outcome), Steps p.tables e below (T.setTop g) t ∧ t.status = .running ∧ Ended t below o ∧ ∃ v L, o = .returned v ∧ Qw C ws h0 v t.heap L ∧ FrameEnd s o t L R.cells R.slots
variable {h : Heap} {cl sl : Nat} {g g' : JFrame} {pc : Nat} {Ls : Array Slot} {st : List Value}
theorem Base.via (B : Base p l e R s m args below meth c Z y bytes maxL ret h0 ws C) (st : ∀ (T t : State), At T m c below → Steps p.tables e below (T.setTop g') t → Steps p.tables e below (T.setTop g) t) (k : B.G h cl sl g') : B.G h cl sl g := fun T locs X N eT => by
  obtain ⟨t, o, q, r⟩ := k T locs X N eT
  exact ⟨t, o, st T t X.here q, r⟩
theorem Base.viaX (B : Base p l e R s m args below meth c Z y bytes maxL ret h0 ws C) (st : ∀ (T t : State) (locs : List Loc), Stand p l e R s m args below meth c T locs cl sl → T.heap = h → Steps p.tables e below (T.setTop g') t → Steps p.tables e below (T.setTop g) t) (k : B.G h cl sl g') : B.G h cl sl g := fun T locs X N eT => by
  obtain ⟨t, o, q, r⟩ := k T locs X N eT
  exact ⟨t, o, st T t locs X eT q, r⟩
theorem Frw.nil (ws : List Addr) (k : Nat) : Frw ws k [] := fun _ q => nomatch q
theorem Frw.app {k : Nat} {L L' : List Loc} (N : Frw ws k L) (N' : Frw ws k L') : Frw ws k (L ++ L') := fun y q => (List.mem_append.mp q).elim (N y) (N' y)
theorem Frw.one {k : Nat} {L : List Loc} {a : Addr} {i : Nat} (N : Frw ws k L) (q : a ∈ ws ∨ k ≤ a) : Frw ws k (L ++ [⟨a, i⟩]) := N.app fun y hy => by cases List.mem_singleton.mp hy; exact q
theorem keep_of {T : State} {locs : List Loc} (X : Stand p l e R s m args below meth c T locs cl sl) (N : Frw ws s.heap.size locs) : Keep s.heap T.heap ws := by
  obtain ⟨-, h1, -, -, -, h2⟩ := X.same
  refine ⟨h1, fun x cc hc hn => ?_, fun x cc hc => ?_⟩
  · obtain ⟨c', e1, e2, e3, e4⟩ := h2 x cc hc
    have hlt := (Array.getElem?_eq_some_iff.mp hc).1
    have q : c'.slots = cc.slots := Array.ext_getElem? fun i => e4 i fun hm => by
      rcases N _ hm with z | z
      · exact hn z
      · exact absurd hlt (Nat.not_lt.mpr z)
    have e1' : T.heap[x]? = some c' := e1
    rw [e1', e2, q]
  · obtain ⟨c', e1, e2, e3, -⟩ := h2 x cc hc
    exact ⟨c', e1, by rw [e2], by rw [e2], e3⟩
theorem Met.walk (hpn : plainName y.cls = true) {as : Array Value} {rm : Room} {wds : List Jvm.Cond} (hef : ∀ m, entryFrame m as maxL = mkF m 0 Ls [])
    (body : ∀ (p : Program) (e : Env) (s : State) (m : MethodId) (below : List Frame) (meth : Method) (c : Code) (B : Base p l e rm s m as below meth c Z y bytes maxL ret h0 ws C), B.G h0 0 0 (mkF m 0 Ls [])) : Met l Z y bytes maxL ret wds rm as h0 ws C := by
  refine MetFree.of_bodySF (plainFor_of_name hpn) hisR ?_
  intro p e s m args below meth c s₁ Bd hml0 hP hK
  obtain ⟨rfl, hZ, hh⟩ := hP
  have X0 : Stand p l e rm s m args below meth c s₁ [] 0 0 := Stand.of_body Bd
  have e0 : s₁.heap = h0 := by rw [← hh, Bd.state]; rfl
  obtain ⟨t, o, q, r⟩ := body p e s m below meth c ⟨Bd.exec, Bd.bytes, hml0, hZ, findClass_of_methodNamed Bd.named, Bd.returns, Bd.notSynchronized, (name_of_methodNamed Bd.named Bd.method).1, hh⟩ s₁ [] X0 (Frw.nil _ _) e0
  exact ⟨t, o, castTop (hef m) q, r⟩
theorem Met.mono {as : Array Value} {rm : Room} {wds : List Jvm.Cond} {C' : Option Value → Heap → Prop} (M : Met l Z y bytes maxL ret wds rm as h0 ws C) (q : ∀ v h, C v h → C' v h) : Met l Z y bytes maxL ret wds rm as h0 ws C' := by
  intro p e ha hc hk s m args below hf happ hP hK
  obtain ⟨n, o, q1, q2, q3, v, L, q4, ⟨r1, r2⟩, q5⟩ := M p e ha hc hk s m args below hf happ hP hK
  exact ⟨n, o, q1, q2, q3, v, L, q4, ⟨q _ _ r1, r2⟩, q5⟩
/-! 1. steps that touch no heap -/
theorem Base.aloadN (B : Base p l e R s m args below meth c Z y bytes maxL ret h0 ws C) (pc' : Nat) (hp : pc' = pc + 1) {i : Fin 4} (hd : decode bytes pc = .ok (.aload_n i, 1)) {v : Value} (hl : Ls[i.val]? = some (.val v)) (hv : v.isRef = true) (k : B.G h cl sl (mkF m pc' Ls (v :: st))) : B.G h cl sl (mkF m pc Ls st) := by
  subst hp; exact B.via (fun T t X r => XS.aloadN X B.1 rfl (hb B.2.1 hd) hl hv r) k
theorem Base.aload (B : Base p l e R s m args below meth c Z y bytes maxL ret h0 ws C) (pc' : Nat) (hp : pc' = pc + 2) {i : Nat} (hd : decode bytes pc = .ok (.aload i, 2)) {v : Value} (hl : Ls[i]? = some (.val v)) (hv : v.isRef = true) (k : B.G h cl sl (mkF m pc' Ls (v :: st))) : B.G h cl sl (mkF m pc Ls st) := by
  subst hp; exact B.via (fun T t X r => XS.aload X B.1 rfl (hb B.2.1 hd) hl hv r) k
theorem Base.iloadN (B : Base p l e R s m args below meth c Z y bytes maxL ret h0 ws C) (pc' : Nat) (hp : pc' = pc + 1) {i : Fin 4} (hd : decode bytes pc = .ok (.iload_n i, 1)) {v : Int32} (hl : Ls[i.val]? = some (.val (.int v))) (k : B.G h cl sl (mkF m pc' Ls (.int v :: st))) : B.G h cl sl (mkF m pc Ls st) := by
  subst hp; exact B.via (fun T t X r => XS.iloadN X B.1 rfl (hb B.2.1 hd) hl r) k
theorem Base.iload (B : Base p l e R s m args below meth c Z y bytes maxL ret h0 ws C) (pc' : Nat) (hp : pc' = pc + 2) {i : Nat} (hd : decode bytes pc = .ok (.iload i, 2)) {v : Int32} (hl : Ls[i]? = some (.val (.int v))) (k : B.G h cl sl (mkF m pc' Ls (.int v :: st))) : B.G h cl sl (mkF m pc Ls st) := by
  subst hp; exact B.via (fun T t X r => XS.iload X B.1 rfl (hb B.2.1 hd) hl r) k
theorem Base.lloadN (B : Base p l e R s m args below meth c Z y bytes maxL ret h0 ws C) (pc' : Nat) (hp : pc' = pc + 1) {i : Fin 4} (hd : decode bytes pc = .ok (.lload_n i, 1)) {v : Int64} (hl : Ls[i.val]? = some (.val (.long v))) (k : B.G h cl sl (mkF m pc' Ls (.long v :: st))) : B.G h cl sl (mkF m pc Ls st) := by
  subst hp; exact B.via (fun T t X r => XT.lloadN X B.1 rfl (hb B.2.1 hd) hl r) k
theorem Base.lload (B : Base p l e R s m args below meth c Z y bytes maxL ret h0 ws C) (pc' : Nat) (hp : pc' = pc + 2) {i : Nat} (hd : decode bytes pc = .ok (.lload i, 2)) {v : Int64} (hl : Ls[i]? = some (.val (.long v))) (k : B.G h cl sl (mkF m pc' Ls (.long v :: st))) : B.G h cl sl (mkF m pc Ls st) := by
  subst hp; exact B.via (fun T t X r => XT.lload X B.1 rfl (hb B.2.1 hd) hl r) k
theorem Base.istoreN (B : Base p l e R s m args below meth c Z y bytes maxL ret h0 ws C) (pc' : Nat) (hp : pc' = pc + 1) {i : Fin 4} {x : Int32} (hd : decode bytes pc = .ok (.istore_n i, 1)) (Ls' : Array Slot) (hl : storeLocals Ls i.val (.int x) = some Ls') (k : B.G h cl sl (mkF m pc' Ls' st)) : B.G h cl sl (mkF m pc Ls (.int x :: st)) := by
  subst hp; exact B.via (fun T t X r => XS.istoreN X B.1 rfl (hb B.2.1 hd) rfl hl r) k
theorem Base.istore (B : Base p l e R s m args below meth c Z y bytes maxL ret h0 ws C) (pc' : Nat) (hp : pc' = pc + 2) {i : Nat} {x : Int32} (hd : decode bytes pc = .ok (.istore i, 2)) (Ls' : Array Slot) (hl : storeLocals Ls i (.int x) = some Ls') (k : B.G h cl sl (mkF m pc' Ls' st)) : B.G h cl sl (mkF m pc Ls (.int x :: st)) := by
  subst hp; exact B.via (fun T t X r => XS.istore X B.1 rfl (hb B.2.1 hd) rfl hl r) k
theorem Base.lstoreN (B : Base p l e R s m args below meth c Z y bytes maxL ret h0 ws C) (pc' : Nat) (hp : pc' = pc + 1) {i : Fin 4} {x : Int64} (hd : decode bytes pc = .ok (.lstore_n i, 1)) (Ls' : Array Slot) (hl : storeLocals Ls i.val (.long x) = some Ls') (k : B.G h cl sl (mkF m pc' Ls' st)) : B.G h cl sl (mkF m pc Ls (.long x :: st)) := by
  subst hp; exact B.via (fun T t X r => XT.lstoreN X B.1 rfl (hb B.2.1 hd) rfl hl r) k
theorem Base.lstore (B : Base p l e R s m args below meth c Z y bytes maxL ret h0 ws C) (pc' : Nat) (hp : pc' = pc + 2) {i : Nat} {x : Int64} (hd : decode bytes pc = .ok (.lstore i, 2)) (Ls' : Array Slot) (hl : storeLocals Ls i (.long x) = some Ls') (k : B.G h cl sl (mkF m pc' Ls' st)) : B.G h cl sl (mkF m pc Ls (.long x :: st)) := by
  subst hp; exact B.via (fun T t X r => XT.lstore X B.1 rfl (hb B.2.1 hd) rfl hl r) k
theorem Base.astoreN (B : Base p l e R s m args below meth c Z y bytes maxL ret h0 ws C) (pc' : Nat) (hp : pc' = pc + 1) {i : Fin 4} {x : Value} (hd : decode bytes pc = .ok (.astore_n i, 1)) (hv : x.isRef = true) (Ls' : Array Slot) (hl : storeLocals Ls i.val x = some Ls') (k : B.G h cl sl (mkF m pc' Ls' st)) : B.G h cl sl (mkF m pc Ls (x :: st)) := by
  subst hp; exact B.via (fun T t X r => XS.astoreN X B.1 rfl (hb B.2.1 hd) rfl hv hl r) k
theorem Base.astore (B : Base p l e R s m args below meth c Z y bytes maxL ret h0 ws C) (pc' : Nat) (hp : pc' = pc + 2) {i : Nat} {x : Value} (hd : decode bytes pc = .ok (.astore i, 2)) (hv : x.isRef = true) (Ls' : Array Slot) (hl : storeLocals Ls i x = some Ls') (k : B.G h cl sl (mkF m pc' Ls' st)) : B.G h cl sl (mkF m pc Ls (x :: st)) := by
  subst hp; exact B.via (fun T t X r => XS.astore X B.1 rfl (hb B.2.1 hd) rfl hv hl r) k
theorem Base.iinc (B : Base p l e R s m args below meth c Z y bytes maxL ret h0 ws C) (pc' : Nat) (hp : pc' = pc + 3) {i : Nat} {cst : Int} (v : Int32) {x : Int32} (hd : decode bytes pc = .ok (.iinc i cst, 3)) (hv : Int32.ofInt cst = v) (hl : Ls[i]? = some (.val (.int x))) (Ls' : Array Slot) (hl' : storeLocals Ls i (.int (x + v)) = some Ls') (k : B.G h cl sl (mkF m pc' Ls' st)) : B.G h cl sl (mkF m pc Ls st) := by
  subst hp hv; exact B.via (fun T t X r => XS.iinc X B.1 rfl (hb B.2.1 hd) hl hl' r) k
theorem Base.iconst (B : Base p l e R s m args below meth c Z y bytes maxL ret h0 ws C) (pc' : Nat) (hp : pc' = pc + 1) {i : Int} (v : Int32) (hd : decode bytes pc = .ok (.iconst i, 1)) (hv : Int32.ofInt i = v) (k : B.G h cl sl (mkF m pc' Ls (.int v :: st))) : B.G h cl sl (mkF m pc Ls st) := by
  subst hp hv; exact B.via (fun T t X r => XS.iconst X B.1 rfl (hb B.2.1 hd) r) k
theorem Base.bipush (B : Base p l e R s m args below meth c Z y bytes maxL ret h0 ws C) (pc' : Nat) (hp : pc' = pc + 2) {i : Int} (v : Int32) (hd : decode bytes pc = .ok (.bipush i, 2)) (hv : (Int8.ofInt i).toInt32 = v) (k : B.G h cl sl (mkF m pc' Ls (.int v :: st))) : B.G h cl sl (mkF m pc Ls st) := by
  subst hp hv; exact B.via (fun T t X r => XS.bipush X B.1 rfl (hb B.2.1 hd) r) k
theorem Base.sipush (B : Base p l e R s m args below meth c Z y bytes maxL ret h0 ws C) (pc' : Nat) (hp : pc' = pc + 3) {i : Int} (v : Int32) (hd : decode bytes pc = .ok (.sipush i, 3)) (hv : (Int16.ofInt i).toInt32 = v) (k : B.G h cl sl (mkF m pc' Ls (.int v :: st))) : B.G h cl sl (mkF m pc Ls st) := by
  subst hp hv; exact B.via (fun T t X r => XS.sipush X B.1 rfl (hb B.2.1 hd) r) k
theorem Base.lconst (B : Base p l e R s m args below meth c Z y bytes maxL ret h0 ws C) (pc' : Nat) (hp : pc' = pc + 1) {i : Fin 2} (v : Int64) (hd : decode bytes pc = .ok (.lconst i, 1)) (hv : Int64.ofNat i = v) (k : B.G h cl sl (mkF m pc' Ls (.long v :: st))) : B.G h cl sl (mkF m pc Ls st) := by
  subst hp hv; exact B.via (fun T t X r => XT.lconst X B.1 rfl (hb B.2.1 hd) r) k
theorem Base.aconstNull (B : Base p l e R s m args below meth c Z y bytes maxL ret h0 ws C) (pc' : Nat) (hp : pc' = pc + 1) (hd : decode bytes pc = .ok (.aconst_null, 1)) (k : B.G h cl sl (mkF m pc' Ls (.null :: st))) : B.G h cl sl (mkF m pc Ls st) := by
  subst hp; exact B.via (fun T t X r => XS.aconstNull X B.1 rfl (hb B.2.1 hd) r) k
theorem Base.ldcI (B : Base p l e R s m args below meth c Z y bytes maxL ret h0 ws C) (pc' : Nat) (hp : pc' = pc + 2) {i : Nat} {v : Int32} (hd : decode bytes pc = .ok (.ldc i, 2)) (w : (Cond.constant y.cls i v).before a0 Z = true) (k : B.G h cl sl (mkF m pc' Ls (.int v :: st))) : B.G h cl sl (mkF m pc Ls st) := by
  subst hp; exact B.viaX (fun T t L X _ r => X.ldcI B.1 B.2.2.2.2.1 (mv B.2.2.2.1 w) rfl (hb B.2.1 hd) r) k
theorem Base.ldcWI (B : Base p l e R s m args below meth c Z y bytes maxL ret h0 ws C) (pc' : Nat) (hp : pc' = pc + 3) {i : Nat} {v : Int32} (hd : decode bytes pc = .ok (.ldc_w i, 3)) (w : (Cond.constant y.cls i v).before a0 Z = true) (k : B.G h cl sl (mkF m pc' Ls (.int v :: st))) : B.G h cl sl (mkF m pc Ls st) := by
  subst hp; exact B.viaX (fun T t L X _ r => X.ldcWI B.1 B.2.2.2.2.1 (mv B.2.2.2.1 w) rfl (hb B.2.1 hd) r) k
theorem Base.ldc2J (B : Base p l e R s m args below meth c Z y bytes maxL ret h0 ws C) (pc' : Nat) (hp : pc' = pc + 3) {i : Nat} {v : Int64} (hd : decode bytes pc = .ok (.ldc2_w i, 3)) (w : (Cond.constantLong y.cls i v).before a0 Z = true) (k : B.G h cl sl (mkF m pc' Ls (.long v :: st))) : B.G h cl sl (mkF m pc Ls st) := by
  subst hp; exact B.viaX (fun T t L X _ r => X.ldc2J B.1 B.2.2.2.2.1 (mv B.2.2.2.1 w) rfl (hb B.2.1 hd) r) k
theorem Base.goto (B : Base p l e R s m args below meth c Z y bytes maxL ret h0 ws C) (pc' : Nat) {o : Int} (hp : ((pc : Int) + o).toNat = pc') (ho : 0 ≤ (pc : Int) + o) (hd : decode bytes pc = .ok (.goto o, 3)) (k : B.G h cl sl (mkF m pc' Ls st)) : B.G h cl sl (mkF m pc Ls st) :=
  B.via (fun T t X r => XS.goto X B.1 rfl rfl (hb B.2.1 hd) ho hp r) k
theorem Base.dup (B : Base p l e R s m args below meth c Z y bytes maxL ret h0 ws C) (pc' : Nat) (hp : pc' = pc + 1) {x : Value} (hd : decode bytes pc = .ok (.dup, 1)) (hc : x.category = 1) (k : B.G h cl sl (mkF m pc' Ls (x :: x :: st))) : B.G h cl sl (mkF m pc Ls (x :: st)) := by
  subst hp; exact B.via (fun T t X r => XS.dup X B.1 rfl (hb B.2.1 hd) rfl hc r) k
theorem Base.pop (B : Base p l e R s m args below meth c Z y bytes maxL ret h0 ws C) (pc' : Nat) (hp : pc' = pc + 1) {x : Value} (hd : decode bytes pc = .ok (.pop, 1)) (hc : x.category = 1) (k : B.G h cl sl (mkF m pc' Ls st)) : B.G h cl sl (mkF m pc Ls (x :: st)) := by
  subst hp; exact B.via (fun T t X r => XT.pop X B.1 rfl (hb B.2.1 hd) rfl hc r) k
theorem Base.dupX1 (B : Base p l e R s m args below meth c Z y bytes maxL ret h0 ws C) (pc' : Nat) (hp : pc' = pc + 1) {x z : Value} (hd : decode bytes pc = .ok (.dup_x1, 1)) (hc : x.category = 1) (hc' : z.category = 1) (k : B.G h cl sl (mkF m pc' Ls (x :: z :: x :: st))) : B.G h cl sl (mkF m pc Ls (x :: z :: st)) := by
  subst hp; exact B.via (fun T t X r => XT.dupX1 X B.1 rfl (hb B.2.1 hd) rfl hc hc' r) k
theorem Base.dup2 (B : Base p l e R s m args below meth c Z y bytes maxL ret h0 ws C) (pc' : Nat) (hp : pc' = pc + 1) {x z : Value} (hd : decode bytes pc = .ok (.dup2, 1)) (hc : x.category = 1) (hc' : z.category = 1) (k : B.G h cl sl (mkF m pc' Ls (x :: z :: x :: z :: st))) : B.G h cl sl (mkF m pc Ls (x :: z :: st)) := by
  subst hp; exact B.via (fun T t X r => XT.dup2 X B.1 rfl (hb B.2.1 hd) rfl hc hc' r) k
theorem Base.iadd (B : Base p l e R s m args below meth c Z y bytes maxL ret h0 ws C) (pc' : Nat) (hp : pc' = pc + 1) {x : Int32} {z : Int32} (hd : decode bytes pc = .ok (.iadd, 1)) (k : B.G h cl sl (mkF m pc' Ls (.int (x + z) :: st))) : B.G h cl sl (mkF m pc Ls (.int z :: .int x :: st)) := by
  subst hp; exact B.via (fun T t X r => XS.iadd X B.1 rfl (hb B.2.1 hd) rfl r) k
theorem Base.isub (B : Base p l e R s m args below meth c Z y bytes maxL ret h0 ws C) (pc' : Nat) (hp : pc' = pc + 1) {x : Int32} {z : Int32} (hd : decode bytes pc = .ok (.isub, 1)) (k : B.G h cl sl (mkF m pc' Ls (.int (x - z) :: st))) : B.G h cl sl (mkF m pc Ls (.int z :: .int x :: st)) := by
  subst hp; exact B.via (fun T t X r => XS.isub X B.1 rfl (hb B.2.1 hd) rfl r) k
theorem Base.iand (B : Base p l e R s m args below meth c Z y bytes maxL ret h0 ws C) (pc' : Nat) (hp : pc' = pc + 1) {x : Int32} {z : Int32} (hd : decode bytes pc = .ok (.iand, 1)) (k : B.G h cl sl (mkF m pc' Ls (.int (x &&& z) :: st))) : B.G h cl sl (mkF m pc Ls (.int z :: .int x :: st)) := by
  subst hp; exact B.via (fun T t X r => XS.iand X B.1 rfl (hb B.2.1 hd) rfl r) k
theorem Base.imul (B : Base p l e R s m args below meth c Z y bytes maxL ret h0 ws C) (pc' : Nat) (hp : pc' = pc + 1) {x : Int32} {z : Int32} (hd : decode bytes pc = .ok (.imul, 1)) (k : B.G h cl sl (mkF m pc' Ls (.int (x * z) :: st))) : B.G h cl sl (mkF m pc Ls (.int z :: .int x :: st)) := by
  subst hp; exact B.via (fun T t X r => XS.imul X B.1 rfl (hb B.2.1 hd) rfl r) k
theorem Base.ixor (B : Base p l e R s m args below meth c Z y bytes maxL ret h0 ws C) (pc' : Nat) (hp : pc' = pc + 1) {x : Int32} {z : Int32} (hd : decode bytes pc = .ok (.ixor, 1)) (k : B.G h cl sl (mkF m pc' Ls (.int (x ^^^ z) :: st))) : B.G h cl sl (mkF m pc Ls (.int z :: .int x :: st)) := by
  subst hp; exact B.via (fun T t X r => XT.ixor X B.1 rfl (hb B.2.1 hd) rfl r) k
theorem Base.ior (B : Base p l e R s m args below meth c Z y bytes maxL ret h0 ws C) (pc' : Nat) (hp : pc' = pc + 1) {x : Int32} {z : Int32} (hd : decode bytes pc = .ok (.ior, 1)) (k : B.G h cl sl (mkF m pc' Ls (.int (x ||| z) :: st))) : B.G h cl sl (mkF m pc Ls (.int z :: .int x :: st)) := by
  subst hp; exact B.via (fun T t X r => XT.ior X B.1 rfl (hb B.2.1 hd) rfl r) k
theorem Base.ishl (B : Base p l e R s m args below meth c Z y bytes maxL ret h0 ws C) (pc' : Nat) (hp : pc' = pc + 1) {x : Int32} {z : Int32} (hd : decode bytes pc = .ok (.ishl, 1)) (k : B.G h cl sl (mkF m pc' Ls (.int (x <<< (z &&& 31)) :: st))) : B.G h cl sl (mkF m pc Ls (.int z :: .int x :: st)) := by
  subst hp; exact B.via (fun T t X r => XT.ishl X B.1 rfl (hb B.2.1 hd) rfl r) k
theorem Base.ishr (B : Base p l e R s m args below meth c Z y bytes maxL ret h0 ws C) (pc' : Nat) (hp : pc' = pc + 1) {x : Int32} {z : Int32} (hd : decode bytes pc = .ok (.ishr, 1)) (k : B.G h cl sl (mkF m pc' Ls (.int (x >>> (z &&& 31)) :: st))) : B.G h cl sl (mkF m pc Ls (.int z :: .int x :: st)) := by
  subst hp; exact B.via (fun T t X r => XT.ishr X B.1 rfl (hb B.2.1 hd) rfl r) k
theorem Base.iushr (B : Base p l e R s m args below meth c Z y bytes maxL ret h0 ws C) (pc' : Nat) (hp : pc' = pc + 1) {x : Int32} {z : Int32} (hd : decode bytes pc = .ok (.iushr, 1)) (k : B.G h cl sl (mkF m pc' Ls (.int (XT.ushr x z) :: st))) : B.G h cl sl (mkF m pc Ls (.int z :: .int x :: st)) := by
  subst hp; exact B.via (fun T t X r => XT.iushr X B.1 rfl (hb B.2.1 hd) rfl r) k
theorem Base.ladd (B : Base p l e R s m args below meth c Z y bytes maxL ret h0 ws C) (pc' : Nat) (hp : pc' = pc + 1) {x : Int64} {z : Int64} (hd : decode bytes pc = .ok (.ladd, 1)) (k : B.G h cl sl (mkF m pc' Ls (.long (x + z) :: st))) : B.G h cl sl (mkF m pc Ls (.long z :: .long x :: st)) := by
  subst hp; exact B.via (fun T t X r => XT.ladd X B.1 rfl (hb B.2.1 hd) rfl r) k
theorem Base.lsub (B : Base p l e R s m args below meth c Z y bytes maxL ret h0 ws C) (pc' : Nat) (hp : pc' = pc + 1) {x : Int64} {z : Int64} (hd : decode bytes pc = .ok (.lsub, 1)) (k : B.G h cl sl (mkF m pc' Ls (.long (x - z) :: st))) : B.G h cl sl (mkF m pc Ls (.long z :: .long x :: st)) := by
  subst hp; exact B.via (fun T t X r => XT.lsub X B.1 rfl (hb B.2.1 hd) rfl r) k
theorem Base.lmul (B : Base p l e R s m args below meth c Z y bytes maxL ret h0 ws C) (pc' : Nat) (hp : pc' = pc + 1) {x : Int64} {z : Int64} (hd : decode bytes pc = .ok (.lmul, 1)) (k : B.G h cl sl (mkF m pc' Ls (.long (x * z) :: st))) : B.G h cl sl (mkF m pc Ls (.long z :: .long x :: st)) := by
  subst hp; exact B.via (fun T t X r => XT.lmul X B.1 rfl (hb B.2.1 hd) rfl r) k
theorem Base.land (B : Base p l e R s m args below meth c Z y bytes maxL ret h0 ws C) (pc' : Nat) (hp : pc' = pc + 1) {x : Int64} {z : Int64} (hd : decode bytes pc = .ok (.land, 1)) (k : B.G h cl sl (mkF m pc' Ls (.long (x &&& z) :: st))) : B.G h cl sl (mkF m pc Ls (.long z :: .long x :: st)) := by
  subst hp; exact B.via (fun T t X r => XT.land X B.1 rfl (hb B.2.1 hd) rfl r) k
theorem Base.lor (B : Base p l e R s m args below meth c Z y bytes maxL ret h0 ws C) (pc' : Nat) (hp : pc' = pc + 1) {x : Int64} {z : Int64} (hd : decode bytes pc = .ok (.lor, 1)) (k : B.G h cl sl (mkF m pc' Ls (.long (x ||| z) :: st))) : B.G h cl sl (mkF m pc Ls (.long z :: .long x :: st)) := by
  subst hp; exact B.via (fun T t X r => XT.lor X B.1 rfl (hb B.2.1 hd) rfl r) k
theorem Base.lxor (B : Base p l e R s m args below meth c Z y bytes maxL ret h0 ws C) (pc' : Nat) (hp : pc' = pc + 1) {x : Int64} {z : Int64} (hd : decode bytes pc = .ok (.lxor, 1)) (k : B.G h cl sl (mkF m pc' Ls (.long (x ^^^ z) :: st))) : B.G h cl sl (mkF m pc Ls (.long z :: .long x :: st)) := by
  subst hp; exact B.via (fun T t X r => XT.lxor X B.1 rfl (hb B.2.1 hd) rfl r) k
theorem Base.lshl (B : Base p l e R s m args below meth c Z y bytes maxL ret h0 ws C) (pc' : Nat) (hp : pc' = pc + 1) {x : Int64} {z : Int32} (hd : decode bytes pc = .ok (.lshl, 1)) (k : B.G h cl sl (mkF m pc' Ls (.long (x <<< (z.toInt64 &&& 63)) :: st))) : B.G h cl sl (mkF m pc Ls (.int z :: .long x :: st)) := by
  subst hp; exact B.via (fun T t X r => XT.lshl X B.1 rfl (hb B.2.1 hd) rfl r) k
theorem Base.lshr (B : Base p l e R s m args below meth c Z y bytes maxL ret h0 ws C) (pc' : Nat) (hp : pc' = pc + 1) {x : Int64} {z : Int32} (hd : decode bytes pc = .ok (.lshr, 1)) (k : B.G h cl sl (mkF m pc' Ls (.long (x >>> (z.toInt64 &&& 63)) :: st))) : B.G h cl sl (mkF m pc Ls (.int z :: .long x :: st)) := by
  subst hp; exact B.via (fun T t X r => XT.lshr X B.1 rfl (hb B.2.1 hd) rfl r) k
theorem Base.lushr (B : Base p l e R s m args below meth c Z y bytes maxL ret h0 ws C) (pc' : Nat) (hp : pc' = pc + 1) {x : Int64} {z : Int32} (hd : decode bytes pc = .ok (.lushr, 1)) (k : B.G h cl sl (mkF m pc' Ls (.long (XT.ushrL x z) :: st))) : B.G h cl sl (mkF m pc Ls (.int z :: .long x :: st)) := by
  subst hp; exact B.via (fun T t X r => XT.lushr X B.1 rfl (hb B.2.1 hd) rfl r) k
theorem Base.lcmp (B : Base p l e R s m args below meth c Z y bytes maxL ret h0 ws C) (pc' : Nat) (hp : pc' = pc + 1) {x : Int64} {z : Int64} (hd : decode bytes pc = .ok (.lcmp, 1)) (k : B.G h cl sl (mkF m pc' Ls (.int (XT.cmpL x z) :: st))) : B.G h cl sl (mkF m pc Ls (.long z :: .long x :: st)) := by
  subst hp; exact B.via (fun T t X r => XT.lcmp X B.1 rfl (hb B.2.1 hd) rfl r) k
theorem Base.idiv (B : Base p l e R s m args below meth c Z y bytes maxL ret h0 ws C) (pc' : Nat) (hp : pc' = pc + 1) {x : Int32} {z : Int32} (hd : decode bytes pc = .ok (.idiv, 1)) (hz : z ≠ 0) (k : B.G h cl sl (mkF m pc' Ls (.int (x / z) :: st))) : B.G h cl sl (mkF m pc Ls (.int z :: .int x :: st)) := by
  subst hp; exact B.via (fun T t X r => XS.idiv X B.1 rfl (hb B.2.1 hd) rfl hz r) k
theorem Base.ldiv (B : Base p l e R s m args below meth c Z y bytes maxL ret h0 ws C) (pc' : Nat) (hp : pc' = pc + 1) {x : Int64} {z : Int64} (hd : decode bytes pc = .ok (.ldiv, 1)) (hz : z ≠ 0) (k : B.G h cl sl (mkF m pc' Ls (.long (x / z) :: st))) : B.G h cl sl (mkF m pc Ls (.long z :: .long x :: st)) := by
  subst hp; exact B.via (fun T t X r => XT.ldiv X B.1 rfl (hb B.2.1 hd) rfl hz r) k
theorem Base.irem (B : Base p l e R s m args below meth c Z y bytes maxL ret h0 ws C) (pc' : Nat) (hp : pc' = pc + 1) {x z : Int32} (hd : decode bytes pc = .ok (.irem, 1)) (hz : z ≠ 0) (k : B.G h cl sl (mkF m pc' Ls (.int (x % z) :: st))) : B.G h cl sl (mkF m pc Ls (.int z :: .int x :: st)) := by
  subst hp; exact B.viaX (fun T t L X _ r => iremM X B.1 rfl (hb B.2.1 hd) rfl hz r) k
theorem Base.ineg (B : Base p l e R s m args below meth c Z y bytes maxL ret h0 ws C) (pc' : Nat) (hp : pc' = pc + 1) {x : Int32} (hd : decode bytes pc = .ok (.ineg, 1)) (k : B.G h cl sl (mkF m pc' Ls (.int (-x) :: st))) : B.G h cl sl (mkF m pc Ls (.int x :: st)) := by
  subst hp; exact B.via (fun T t X r => XS.ineg X B.1 rfl (hb B.2.1 hd) rfl r) k
theorem Base.lneg (B : Base p l e R s m args below meth c Z y bytes maxL ret h0 ws C) (pc' : Nat) (hp : pc' = pc + 1) {x : Int64} (hd : decode bytes pc = .ok (.lneg, 1)) (k : B.G h cl sl (mkF m pc' Ls (.long (-x) :: st))) : B.G h cl sl (mkF m pc Ls (.long x :: st)) := by
  subst hp; exact B.via (fun T t X r => XT.lneg X B.1 rfl (hb B.2.1 hd) rfl r) k
theorem Base.i2l (B : Base p l e R s m args below meth c Z y bytes maxL ret h0 ws C) (pc' : Nat) (hp : pc' = pc + 1) {x : Int32} (hd : decode bytes pc = .ok (.i2l, 1)) (k : B.G h cl sl (mkF m pc' Ls (.long (x.toInt64) :: st))) : B.G h cl sl (mkF m pc Ls (.int x :: st)) := by
  subst hp; exact B.via (fun T t X r => XT.i2l X B.1 rfl (hb B.2.1 hd) rfl r) k
theorem Base.l2i (B : Base p l e R s m args below meth c Z y bytes maxL ret h0 ws C) (pc' : Nat) (hp : pc' = pc + 1) {x : Int64} (hd : decode bytes pc = .ok (.l2i, 1)) (k : B.G h cl sl (mkF m pc' Ls (.int (x.toInt32) :: st))) : B.G h cl sl (mkF m pc Ls (.long x :: st)) := by
  subst hp; exact B.via (fun T t X r => XT.l2i X B.1 rfl (hb B.2.1 hd) rfl r) k
theorem Base.i2b (B : Base p l e R s m args below meth c Z y bytes maxL ret h0 ws C) (pc' : Nat) (hp : pc' = pc + 1) {x : Int32} (hd : decode bytes pc = .ok (.i2b, 1)) (k : B.G h cl sl (mkF m pc' Ls (.int (x.toInt8.toInt32) :: st))) : B.G h cl sl (mkF m pc Ls (.int x :: st)) := by
  subst hp; exact B.via (fun T t X r => XT.i2b X B.1 rfl (hb B.2.1 hd) rfl r) k
theorem Base.i2c (B : Base p l e R s m args below meth c Z y bytes maxL ret h0 ws C) (pc' : Nat) (hp : pc' = pc + 1) {x : Int32} (hd : decode bytes pc = .ok (.i2c, 1)) (k : B.G h cl sl (mkF m pc' Ls (.int (x.toUInt32.toUInt16.toUInt32.toInt32) :: st))) : B.G h cl sl (mkF m pc Ls (.int x :: st)) := by
  subst hp; exact B.via (fun T t X r => XT.i2c X B.1 rfl (hb B.2.1 hd) rfl r) k
theorem Base.i2s (B : Base p l e R s m args below meth c Z y bytes maxL ret h0 ws C) (pc' : Nat) (hp : pc' = pc + 1) {x : Int32} (hd : decode bytes pc = .ok (.i2s, 1)) (k : B.G h cl sl (mkF m pc' Ls (.int (x.toInt16.toInt32) :: st))) : B.G h cl sl (mkF m pc Ls (.int x :: st)) := by
  subst hp; exact B.via (fun T t X r => XT.i2s X B.1 rfl (hb B.2.1 hd) rfl r) k
theorem Base.icmp_eq (B : Base p l e R s m args below meth c Z y bytes maxL ret h0 ws C) (pt pf : Nat) {o : Int} (hpt : ((pc : Int) + o).toNat = pt) (ho : 0 ≤ (pc : Int) + o) (hpf : pf = pc + 3) {x z : Int32} (hd : decode bytes pc = .ok (.if_icmp .eq o, 3)) (kt : x = z → B.G h cl sl (mkF m pt Ls st)) (kf : ¬ x = z → B.G h cl sl (mkF m pf Ls st)) : B.G h cl sl (mkF m pc Ls (.int z :: .int x :: st)) := by
  subst hpt hpf
  by_cases q : x = z
  · exact B.via (fun T t X r => XS.icmpYes X B.1 rfl rfl (hb B.2.1 hd) rfl (XT.ii_eq_t q) ho rfl r) (kt q)
  · exact B.via (fun T t X r => XS.icmpNo X B.1 rfl (hb B.2.1 hd) rfl (XT.ii_eq_f q) r) (kf q)
theorem Base.if0_eq (B : Base p l e R s m args below meth c Z y bytes maxL ret h0 ws C) (pt pf : Nat) {o : Int} (hpt : ((pc : Int) + o).toNat = pt) (ho : 0 ≤ (pc : Int) + o) (hpf : pf = pc + 3) {x : Int32} (hd : decode bytes pc = .ok (.ifCond .eq o, 3)) (kt : x = 0 → B.G h cl sl (mkF m pt Ls st)) (kf : ¬ x = 0 → B.G h cl sl (mkF m pf Ls st)) : B.G h cl sl (mkF m pc Ls (.int x :: st)) := by
  subst hpt hpf
  by_cases q : x = 0
  · exact B.via (fun T t X r => XS.ifYes X B.1 rfl rfl (hb B.2.1 hd) rfl (XT.i0_eq_t q) ho rfl r) (kt q)
  · exact B.via (fun T t X r => XS.ifNo X B.1 rfl (hb B.2.1 hd) rfl (XT.i0_eq_f q) r) (kf q)
theorem Base.lif_eq (B : Base p l e R s m args below meth c Z y bytes maxL ret h0 ws C) (pt pf : Nat) {o : Int} (hpt : ((pc : Int) + o).toNat = pt) (ho : 0 ≤ (pc : Int) + o) (hpf : pf = pc + 3) {x z : Int64} (hd : decode bytes pc = .ok (.ifCond .eq o, 3)) (kt : x = z → B.G h cl sl (mkF m pt Ls st)) (kf : ¬ x = z → B.G h cl sl (mkF m pf Ls st)) : B.G h cl sl (mkF m pc Ls (.int (XT.cmpL x z) :: st)) := by
  subst hpt hpf
  by_cases q : x = z
  · exact B.via (fun T t X r => XS.ifYes X B.1 rfl rfl (hb B.2.1 hd) rfl (XT.ll_eq_t q) ho rfl r) (kt q)
  · exact B.via (fun T t X r => XS.ifNo X B.1 rfl (hb B.2.1 hd) rfl (XT.ll_eq_f q) r) (kf q)
theorem Base.icmp_ne (B : Base p l e R s m args below meth c Z y bytes maxL ret h0 ws C) (pt pf : Nat) {o : Int} (hpt : ((pc : Int) + o).toNat = pt) (ho : 0 ≤ (pc : Int) + o) (hpf : pf = pc + 3) {x z : Int32} (hd : decode bytes pc = .ok (.if_icmp .ne o, 3)) (kt : ¬ x = z → B.G h cl sl (mkF m pt Ls st)) (kf : x = z → B.G h cl sl (mkF m pf Ls st)) : B.G h cl sl (mkF m pc Ls (.int z :: .int x :: st)) := by
  subst hpt hpf
  by_cases q : x = z
  · exact B.via (fun T t X r => XS.icmpNo X B.1 rfl (hb B.2.1 hd) rfl (XT.ii_ne_f q) r) (kf q)
  · exact B.via (fun T t X r => XS.icmpYes X B.1 rfl rfl (hb B.2.1 hd) rfl (XT.ii_ne_t q) ho rfl r) (kt q)
theorem Base.if0_ne (B : Base p l e R s m args below meth c Z y bytes maxL ret h0 ws C) (pt pf : Nat) {o : Int} (hpt : ((pc : Int) + o).toNat = pt) (ho : 0 ≤ (pc : Int) + o) (hpf : pf = pc + 3) {x : Int32} (hd : decode bytes pc = .ok (.ifCond .ne o, 3)) (kt : ¬ x = 0 → B.G h cl sl (mkF m pt Ls st)) (kf : x = 0 → B.G h cl sl (mkF m pf Ls st)) : B.G h cl sl (mkF m pc Ls (.int x :: st)) := by
  subst hpt hpf
  by_cases q : x = 0
  · exact B.via (fun T t X r => XS.ifNo X B.1 rfl (hb B.2.1 hd) rfl (XT.i0_ne_f q) r) (kf q)
  · exact B.via (fun T t X r => XS.ifYes X B.1 rfl rfl (hb B.2.1 hd) rfl (XT.i0_ne_t q) ho rfl r) (kt q)
theorem Base.lif_ne (B : Base p l e R s m args below meth c Z y bytes maxL ret h0 ws C) (pt pf : Nat) {o : Int} (hpt : ((pc : Int) + o).toNat = pt) (ho : 0 ≤ (pc : Int) + o) (hpf : pf = pc + 3) {x z : Int64} (hd : decode bytes pc = .ok (.ifCond .ne o, 3)) (kt : ¬ x = z → B.G h cl sl (mkF m pt Ls st)) (kf : x = z → B.G h cl sl (mkF m pf Ls st)) : B.G h cl sl (mkF m pc Ls (.int (XT.cmpL x z) :: st)) := by
  subst hpt hpf
  by_cases q : x = z
  · exact B.via (fun T t X r => XS.ifNo X B.1 rfl (hb B.2.1 hd) rfl (XT.ll_ne_f q) r) (kf q)
  · exact B.via (fun T t X r => XS.ifYes X B.1 rfl rfl (hb B.2.1 hd) rfl (XT.ll_ne_t q) ho rfl r) (kt q)
theorem Base.icmp_lt (B : Base p l e R s m args below meth c Z y bytes maxL ret h0 ws C) (pt pf : Nat) {o : Int} (hpt : ((pc : Int) + o).toNat = pt) (ho : 0 ≤ (pc : Int) + o) (hpf : pf = pc + 3) {x z : Int32} (hd : decode bytes pc = .ok (.if_icmp .lt o, 3)) (kt : x < z → B.G h cl sl (mkF m pt Ls st)) (kf : ¬ x < z → B.G h cl sl (mkF m pf Ls st)) : B.G h cl sl (mkF m pc Ls (.int z :: .int x :: st)) := by
  subst hpt hpf
  by_cases q : x < z
  · exact B.via (fun T t X r => XS.icmpYes X B.1 rfl rfl (hb B.2.1 hd) rfl (XT.ii_lt_t q) ho rfl r) (kt q)
  · exact B.via (fun T t X r => XS.icmpNo X B.1 rfl (hb B.2.1 hd) rfl (XT.ii_lt_f q) r) (kf q)
theorem Base.if0_lt (B : Base p l e R s m args below meth c Z y bytes maxL ret h0 ws C) (pt pf : Nat) {o : Int} (hpt : ((pc : Int) + o).toNat = pt) (ho : 0 ≤ (pc : Int) + o) (hpf : pf = pc + 3) {x : Int32} (hd : decode bytes pc = .ok (.ifCond .lt o, 3)) (kt : x < 0 → B.G h cl sl (mkF m pt Ls st)) (kf : ¬ x < 0 → B.G h cl sl (mkF m pf Ls st)) : B.G h cl sl (mkF m pc Ls (.int x :: st)) := by
  subst hpt hpf
  by_cases q : x < 0
  · exact B.via (fun T t X r => XS.ifYes X B.1 rfl rfl (hb B.2.1 hd) rfl (XT.i0_lt_t q) ho rfl r) (kt q)
  · exact B.via (fun T t X r => XS.ifNo X B.1 rfl (hb B.2.1 hd) rfl (XT.i0_lt_f q) r) (kf q)
theorem Base.lif_lt (B : Base p l e R s m args below meth c Z y bytes maxL ret h0 ws C) (pt pf : Nat) {o : Int} (hpt : ((pc : Int) + o).toNat = pt) (ho : 0 ≤ (pc : Int) + o) (hpf : pf = pc + 3) {x z : Int64} (hd : decode bytes pc = .ok (.ifCond .lt o, 3)) (kt : x < z → B.G h cl sl (mkF m pt Ls st)) (kf : ¬ x < z → B.G h cl sl (mkF m pf Ls st)) : B.G h cl sl (mkF m pc Ls (.int (XT.cmpL x z) :: st)) := by
  subst hpt hpf
  by_cases q : x < z
  · exact B.via (fun T t X r => XS.ifYes X B.1 rfl rfl (hb B.2.1 hd) rfl (XT.ll_lt_t q) ho rfl r) (kt q)
  · exact B.via (fun T t X r => XS.ifNo X B.1 rfl (hb B.2.1 hd) rfl (XT.ll_lt_f q) r) (kf q)
theorem Base.icmp_ge (B : Base p l e R s m args below meth c Z y bytes maxL ret h0 ws C) (pt pf : Nat) {o : Int} (hpt : ((pc : Int) + o).toNat = pt) (ho : 0 ≤ (pc : Int) + o) (hpf : pf = pc + 3) {x z : Int32} (hd : decode bytes pc = .ok (.if_icmp .ge o, 3)) (kt : ¬ x < z → B.G h cl sl (mkF m pt Ls st)) (kf : x < z → B.G h cl sl (mkF m pf Ls st)) : B.G h cl sl (mkF m pc Ls (.int z :: .int x :: st)) := by
  subst hpt hpf
  by_cases q : x < z
  · exact B.via (fun T t X r => XS.icmpNo X B.1 rfl (hb B.2.1 hd) rfl (XT.ii_ge_f q) r) (kf q)
  · exact B.via (fun T t X r => XS.icmpYes X B.1 rfl rfl (hb B.2.1 hd) rfl (XT.ii_ge_t q) ho rfl r) (kt q)
theorem Base.if0_ge (B : Base p l e R s m args below meth c Z y bytes maxL ret h0 ws C) (pt pf : Nat) {o : Int} (hpt : ((pc : Int) + o).toNat = pt) (ho : 0 ≤ (pc : Int) + o) (hpf : pf = pc + 3) {x : Int32} (hd : decode bytes pc = .ok (.ifCond .ge o, 3)) (kt : ¬ x < 0 → B.G h cl sl (mkF m pt Ls st)) (kf : x < 0 → B.G h cl sl (mkF m pf Ls st)) : B.G h cl sl (mkF m pc Ls (.int x :: st)) := by
  subst hpt hpf
  by_cases q : x < 0
  · exact B.via (fun T t X r => XS.ifNo X B.1 rfl (hb B.2.1 hd) rfl (XT.i0_ge_f q) r) (kf q)
  · exact B.via (fun T t X r => XS.ifYes X B.1 rfl rfl (hb B.2.1 hd) rfl (XT.i0_ge_t q) ho rfl r) (kt q)
theorem Base.lif_ge (B : Base p l e R s m args below meth c Z y bytes maxL ret h0 ws C) (pt pf : Nat) {o : Int} (hpt : ((pc : Int) + o).toNat = pt) (ho : 0 ≤ (pc : Int) + o) (hpf : pf = pc + 3) {x z : Int64} (hd : decode bytes pc = .ok (.ifCond .ge o, 3)) (kt : ¬ x < z → B.G h cl sl (mkF m pt Ls st)) (kf : x < z → B.G h cl sl (mkF m pf Ls st)) : B.G h cl sl (mkF m pc Ls (.int (XT.cmpL x z) :: st)) := by
  subst hpt hpf
  by_cases q : x < z
  · exact B.via (fun T t X r => XS.ifNo X B.1 rfl (hb B.2.1 hd) rfl (XT.ll_ge_f q) r) (kf q)
  · exact B.via (fun T t X r => XS.ifYes X B.1 rfl rfl (hb B.2.1 hd) rfl (XT.ll_ge_t q) ho rfl r) (kt q)
theorem Base.icmp_gt (B : Base p l e R s m args below meth c Z y bytes maxL ret h0 ws C) (pt pf : Nat) {o : Int} (hpt : ((pc : Int) + o).toNat = pt) (ho : 0 ≤ (pc : Int) + o) (hpf : pf = pc + 3) {x z : Int32} (hd : decode bytes pc = .ok (.if_icmp .gt o, 3)) (kt : z < x → B.G h cl sl (mkF m pt Ls st)) (kf : ¬ z < x → B.G h cl sl (mkF m pf Ls st)) : B.G h cl sl (mkF m pc Ls (.int z :: .int x :: st)) := by
  subst hpt hpf
  by_cases q : z < x
  · exact B.via (fun T t X r => XS.icmpYes X B.1 rfl rfl (hb B.2.1 hd) rfl (XT.ii_gt_t q) ho rfl r) (kt q)
  · exact B.via (fun T t X r => XS.icmpNo X B.1 rfl (hb B.2.1 hd) rfl (XT.ii_gt_f q) r) (kf q)
theorem Base.if0_gt (B : Base p l e R s m args below meth c Z y bytes maxL ret h0 ws C) (pt pf : Nat) {o : Int} (hpt : ((pc : Int) + o).toNat = pt) (ho : 0 ≤ (pc : Int) + o) (hpf : pf = pc + 3) {x : Int32} (hd : decode bytes pc = .ok (.ifCond .gt o, 3)) (kt : 0 < x → B.G h cl sl (mkF m pt Ls st)) (kf : ¬ 0 < x → B.G h cl sl (mkF m pf Ls st)) : B.G h cl sl (mkF m pc Ls (.int x :: st)) := by
  subst hpt hpf
  by_cases q : 0 < x
  · exact B.via (fun T t X r => XS.ifYes X B.1 rfl rfl (hb B.2.1 hd) rfl (XT.i0_gt_t q) ho rfl r) (kt q)
  · exact B.via (fun T t X r => XS.ifNo X B.1 rfl (hb B.2.1 hd) rfl (XT.i0_gt_f q) r) (kf q)
theorem Base.lif_gt (B : Base p l e R s m args below meth c Z y bytes maxL ret h0 ws C) (pt pf : Nat) {o : Int} (hpt : ((pc : Int) + o).toNat = pt) (ho : 0 ≤ (pc : Int) + o) (hpf : pf = pc + 3) {x z : Int64} (hd : decode bytes pc = .ok (.ifCond .gt o, 3)) (kt : z < x → B.G h cl sl (mkF m pt Ls st)) (kf : ¬ z < x → B.G h cl sl (mkF m pf Ls st)) : B.G h cl sl (mkF m pc Ls (.int (XT.cmpL x z) :: st)) := by
  subst hpt hpf
  by_cases q : z < x
  · exact B.via (fun T t X r => XS.ifYes X B.1 rfl rfl (hb B.2.1 hd) rfl (XT.ll_gt_t q) ho rfl r) (kt q)
  · exact B.via (fun T t X r => XS.ifNo X B.1 rfl (hb B.2.1 hd) rfl (XT.ll_gt_f q) r) (kf q)
theorem Base.icmp_le (B : Base p l e R s m args below meth c Z y bytes maxL ret h0 ws C) (pt pf : Nat) {o : Int} (hpt : ((pc : Int) + o).toNat = pt) (ho : 0 ≤ (pc : Int) + o) (hpf : pf = pc + 3) {x z : Int32} (hd : decode bytes pc = .ok (.if_icmp .le o, 3)) (kt : ¬ z < x → B.G h cl sl (mkF m pt Ls st)) (kf : z < x → B.G h cl sl (mkF m pf Ls st)) : B.G h cl sl (mkF m pc Ls (.int z :: .int x :: st)) := by
  subst hpt hpf
  by_cases q : z < x
  · exact B.via (fun T t X r => XS.icmpNo X B.1 rfl (hb B.2.1 hd) rfl (XT.ii_le_f q) r) (kf q)
  · exact B.via (fun T t X r => XS.icmpYes X B.1 rfl rfl (hb B.2.1 hd) rfl (XT.ii_le_t q) ho rfl r) (kt q)
theorem Base.if0_le (B : Base p l e R s m args below meth c Z y bytes maxL ret h0 ws C) (pt pf : Nat) {o : Int} (hpt : ((pc : Int) + o).toNat = pt) (ho : 0 ≤ (pc : Int) + o) (hpf : pf = pc + 3) {x : Int32} (hd : decode bytes pc = .ok (.ifCond .le o, 3)) (kt : ¬ 0 < x → B.G h cl sl (mkF m pt Ls st)) (kf : 0 < x → B.G h cl sl (mkF m pf Ls st)) : B.G h cl sl (mkF m pc Ls (.int x :: st)) := by
  subst hpt hpf
  by_cases q : 0 < x
  · exact B.via (fun T t X r => XS.ifNo X B.1 rfl (hb B.2.1 hd) rfl (XT.i0_le_f q) r) (kf q)
  · exact B.via (fun T t X r => XS.ifYes X B.1 rfl rfl (hb B.2.1 hd) rfl (XT.i0_le_t q) ho rfl r) (kt q)
theorem Base.lif_le (B : Base p l e R s m args below meth c Z y bytes maxL ret h0 ws C) (pt pf : Nat) {o : Int} (hpt : ((pc : Int) + o).toNat = pt) (ho : 0 ≤ (pc : Int) + o) (hpf : pf = pc + 3) {x z : Int64} (hd : decode bytes pc = .ok (.ifCond .le o, 3)) (kt : ¬ z < x → B.G h cl sl (mkF m pt Ls st)) (kf : z < x → B.G h cl sl (mkF m pf Ls st)) : B.G h cl sl (mkF m pc Ls (.int (XT.cmpL x z) :: st)) := by
  subst hpt hpf
  by_cases q : z < x
  · exact B.via (fun T t X r => XS.ifNo X B.1 rfl (hb B.2.1 hd) rfl (XT.ll_le_f q) r) (kf q)
  · exact B.via (fun T t X r => XS.ifYes X B.1 rfl rfl (hb B.2.1 hd) rfl (XT.ll_le_t q) ho rfl r) (kt q)
theorem Base.acmp_eq (B : Base p l e R s m args below meth c Z y bytes maxL ret h0 ws C) (pt pf : Nat) {o : Int} (hpt : ((pc : Int) + o).toNat = pt) (ho : 0 ≤ (pc : Int) + o) (hpf : pf = pc + 3) {x z : Value} (hd : decode bytes pc = .ok (.if_acmp .eq o, 3)) (hx' : x.isRef = true) (hz' : z.isRef = true) (kt : x = z → B.G h cl sl (mkF m pt Ls st)) (kf : ¬ x = z → B.G h cl sl (mkF m pf Ls st)) : B.G h cl sl (mkF m pc Ls (z :: x :: st)) := by
  subst hpt hpf
  by_cases q : x = z
  · exact B.via (fun T t X r => XT.acmpYes X B.1 rfl rfl (hb B.2.1 hd) rfl hx' hz' (XT.aa_eq_t q) ho rfl r) (kt q)
  · exact B.via (fun T t X r => XT.acmpNo X B.1 rfl (hb B.2.1 hd) rfl hx' hz' (XT.aa_eq_f q) r) (kf q)
theorem Base.acmp_ne (B : Base p l e R s m args below meth c Z y bytes maxL ret h0 ws C) (pt pf : Nat) {o : Int} (hpt : ((pc : Int) + o).toNat = pt) (ho : 0 ≤ (pc : Int) + o) (hpf : pf = pc + 3) {x z : Value} (hd : decode bytes pc = .ok (.if_acmp .ne o, 3)) (hx' : x.isRef = true) (hz' : z.isRef = true) (kt : ¬ x = z → B.G h cl sl (mkF m pt Ls st)) (kf : x = z → B.G h cl sl (mkF m pf Ls st)) : B.G h cl sl (mkF m pc Ls (z :: x :: st)) := by
  subst hpt hpf
  by_cases q : x = z
  · exact B.via (fun T t X r => XT.acmpNo X B.1 rfl (hb B.2.1 hd) rfl hx' hz' (XT.aa_ne_f q) r) (kf q)
  · exact B.via (fun T t X r => XT.acmpYes X B.1 rfl rfl (hb B.2.1 hd) rfl hx' hz' (XT.aa_ne_t q) ho rfl r) (kt q)
theorem Base.ifnull (B : Base p l e R s m args below meth c Z y bytes maxL ret h0 ws C) (pt pf : Nat) {o : Int} (hpt : ((pc : Int) + o).toNat = pt) (ho : 0 ≤ (pc : Int) + o) (hpf : pf = pc + 3) {x : Value} (hd : decode bytes pc = .ok (.ifnull o, 3)) (hx' : x.isRef = true) (kt : x = .null → B.G h cl sl (mkF m pt Ls st)) (kf : ¬ x = .null → B.G h cl sl (mkF m pf Ls st)) : B.G h cl sl (mkF m pc Ls (x :: st)) := by
  subst hpt hpf
  by_cases q : x = .null
  · exact B.via (fun T t X r => XT.nullYes X B.1 rfl rfl (hb B.2.1 hd) rfl q ho rfl r) (kt q)
  · exact B.via (fun T t X r => XT.nullNo X B.1 rfl (hb B.2.1 hd) rfl hx' q r) (kf q)
theorem Base.ifnonnull (B : Base p l e R s m args below meth c Z y bytes maxL ret h0 ws C) (pt pf : Nat) {o : Int} (hpt : ((pc : Int) + o).toNat = pt) (ho : 0 ≤ (pc : Int) + o) (hpf : pf = pc + 3) {x : Value} (hd : decode bytes pc = .ok (.ifnonnull o, 3)) (hx' : x.isRef = true) (kt : ¬ x = .null → B.G h cl sl (mkF m pt Ls st)) (kf : x = .null → B.G h cl sl (mkF m pf Ls st)) : B.G h cl sl (mkF m pc Ls (x :: st)) := by
  subst hpt hpf
  by_cases q : x = .null
  · exact B.via (fun T t X r => XT.nonnullNo X B.1 rfl (hb B.2.1 hd) rfl q r) (kf q)
  · exact B.via (fun T t X r => XT.nonnullYes X B.1 rfl rfl (hb B.2.1 hd) rfl hx' q ho rfl r) (kt q)
theorem Base.topI (B : Base p l e R s m args below meth c Z y bytes maxL ret h0 ws C) {x : Int32} (v : Int32) (q : x = v) (k : B.G h cl sl (mkF m pc Ls (.int v :: st))) : B.G h cl sl (mkF m pc Ls (.int x :: st)) := by subst q; exact k
theorem Base.topL (B : Base p l e R s m args below meth c Z y bytes maxL ret h0 ws C) {x : Int64} (v : Int64) (q : x = v) (k : B.G h cl sl (mkF m pc Ls (.long v :: st))) : B.G h cl sl (mkF m pc Ls (.long x :: st)) := by subst q; exact k
/-! 2. the ends -/
theorem Base.leave (B : Base p l e R s m args below meth c Z y bytes maxL ret h0 ws C) (hcl : cl ≤ R.cells) (hsl : sl ≤ R.slots) {v : Option Value} (hv : meth.sig.returnType = none → v = none) (hC : C v h)
    (st : ∀ (T : State) (locs : List Loc) (fs : List Frame), Stand p l e R s m args below meth c T locs cl sl → (∀ (f : JFrame) (acts : List Action), f.method = m → f.locked = none → f.entered = [] → (doReturn e (T.setTop f) acts v).1 = T.setFrames fs) → Steps p.tables e below (T.setTop g) (T.setFrames fs)) : B.G h cl sl g := fun T locs X N eT => by
  have hlk : meth.locks = false := B.2.2.2.2.2.2.1
  obtain ⟨fs, hr, hrun, hended, hW, hsame⟩ := X.leave (v := v) hv hlk
  have e0 := B.2.2.2.2.2.2.2.2
  refine ⟨_, _, st T locs fs X hr, hrun, hended, _, _, rfl, ⟨?_, N, ?_⟩, ⟨_, rfl⟩, hW, hsame.mono hcl hsl⟩
  · show C v T.heap
    rw [eT]; exact hC
  · show Keep h0 T.heap ws
    rw [← e0] at N ⊢
    exact keep_of X N
theorem Base.ret0 (B : Base p l e R s m args below meth c Z y bytes maxL none h0 ws C) (hd : decode bytes pc = .ok (.return_, 1)) (hcl : cl ≤ R.cells) (hsl : sl ≤ R.slots) (hC : C none h) : B.G h cl sl (mkF m pc Ls []) :=
  B.leave hcl hsl (fun _ => rfl) hC fun T locs fs X hr => X.returnOut B.1 B.2.2.2.2.2.1 (hb B.2.1 hd) hr
theorem Base.retI (B : Base p l e R s m args below meth c Z y bytes maxL (some .int) h0 ws C) {x : Int32} (hd : decode bytes pc = .ok (.ireturn, 1)) (hcl : cl ≤ R.cells) (hsl : sl ≤ R.slots) (hC : C (some (.int x)) h) : B.G h cl sl (mkF m pc Ls (.int x :: st)) :=
  B.leave hcl hsl (fun q => by rw [B.2.2.2.2.2.1] at q; cases q) hC fun T locs fs X hr => retOut X B.1 B.2.2.2.2.2.1 rfl (Or.inl ⟨rfl, Or.inl rfl, _, rfl⟩) (hb B.2.1 hd) hr
theorem Base.retL (B : Base p l e R s m args below meth c Z y bytes maxL (some .long) h0 ws C) {x : Int64} (hd : decode bytes pc = .ok (.lreturn, 1)) (hcl : cl ≤ R.cells) (hsl : sl ≤ R.slots) (hC : C (some (.long x)) h) : B.G h cl sl (mkF m pc Ls (.long x :: st)) :=
  B.leave hcl hsl (fun q => by rw [B.2.2.2.2.2.1] at q; cases q) hC fun T locs fs X hr => retOut X B.1 B.2.2.2.2.2.1 rfl (Or.inr (Or.inl ⟨rfl, rfl, _, rfl⟩)) (hb B.2.1 hd) hr
/-- a boolean, byte, char, short: what comes back is narrowed -/
theorem Base.retN {t : FieldType} (B : Base p l e R s m args below meth c Z y bytes maxL (some t) h0 ws C) {x : Int32} (ht : t = .boolean ∨ t = .byte ∨ t = .char ∨ t = .short) (hd : decode bytes pc = .ok (.ireturn, 1)) (hcl : cl ≤ R.cells) (hsl : sl ≤ R.slots) (hC : C (some (.int (nar t x))) h) : B.G h cl sl (mkF m pc Ls (.int x :: st)) :=
  B.leave hcl hsl (fun q => by rw [B.2.2.2.2.2.1] at q; cases q) hC fun T locs fs X hr => Jvm.RoadKit.retN X B.1 B.2.2.2.2.2.1 ht (hb B.2.1 hd) hr
theorem Base.retA {t : FieldType} (B : Base p l e R s m args below meth c Z y bytes maxL (some t) h0 ws C) {x : Value} (ht : t.isReference = true) (hx' : x.isRef = true) (hd : decode bytes pc = .ok (.areturn, 1)) (hcl : cl ≤ R.cells) (hsl : sl ≤ R.slots) (hC : C (some x) h) : B.G h cl sl (mkF m pc Ls (x :: st)) :=
  B.leave hcl hsl (fun q => by rw [B.2.2.2.2.2.1] at q; cases q) hC fun T locs fs X hr => retOut X B.1 B.2.2.2.2.2.1 (by rcases ref_cases hx' with rfl | ⟨a, rfl⟩ <;> cases t <;> simp_all [narrow, FieldType.isReference]) (Or.inr (Or.inr (Or.inr (Or.inr ⟨rfl, ht, hx'⟩)))) (hb B.2.1 hd) hr
/-! 3. the heap -/
theorem Base.size (B : Base p l e R s m args below meth c Z y bytes maxL ret h0 ws C) {T : State} {locs : List Loc} (X : Stand p l e R s m args below meth c T locs cl sl) : h0.size ≤ T.heap.size := by
  have q := X.same.2.1
  rw [B.2.2.2.2.2.2.2.2] at q; exact q
/-- the heap has only grown -/
theorem Base.grown (B : Base p l e R s m args below meth c Z y bytes maxL ret h0 ws C) (k : h0.size ≤ h.size → B.G h cl sl g) : B.G h cl sl g := fun T locs X N eT => k (by rw [← eT]; exact B.size X) T locs X N eT
theorem Base.getF (B : Base p l e R s m args below meth c Z y bytes maxL ret h0 ws C) (pc' : Nat) (hp : pc' = pc + 3) {i : Nat} {O n d : String} {a : Addr} {v : Value} (hd : decode bytes pc = .ok (.getfield i, 3)) (w : (Cond.fieldLink y.cls i O n d).before a0 Z = true) (F : Fld Z h a O n d v) (k : B.G h cl sl (mkF m pc' Ls (v :: st))) : B.G h cl sl (mkF m pc Ls (.ref a :: st)) := fun T locs X N eT => by
  subst hp
  obtain ⟨T', X', e', stp⟩ := Jvm.RoadKit.getF X B.1 B.2.2.2.1 B.2.2.2.2.1 (host := "") (Or.inl w) Via.refl eT F (g := mkF m pc Ls (.ref a :: st)) rfl rfl (hb B.2.1 hd)
  obtain ⟨t, o, q, r⟩ := k T' locs X' N e'
  exact ⟨t, o, stp _ q, r⟩
theorem Base.getS (B : Base p l e R s m args below meth c Z y bytes maxL ret h0 ws C) (pc' : Nat) (hp : pc' = pc + 3) {i : Nat} {O n d : String} {v : Value} (hd : decode bytes pc = .ok (.getstatic i, 3)) (w : (Cond.fieldLink y.cls i O n d).before a0 Z = true) (F : Sta Z h O n d v) (k : B.G h cl sl (mkF m pc' Ls (v :: st))) : B.G h cl sl (mkF m pc Ls st) := fun T locs X N eT => by
  subst hp
  obtain ⟨T', X', e', stp⟩ := Jvm.RoadKit.getS (host := "") X B.1 B.2.2.2.1 B.2.2.2.2.1 w Via.refl eT F (g := mkF m pc Ls st) rfl (hb B.2.1 hd)
  obtain ⟨t, o, q, r⟩ := k T' locs X' N e'
  exact ⟨t, o, stp _ q, r⟩
theorem Base.putF (B : Base p l e R s m args below meth c Z y bytes maxL ret h0 ws C) (pc' : Nat) (hp : pc' = pc + 3) {i kk : Nat} {O n d CC : String} {a : Addr} {v old : Value} {ty : FieldType} (hd : decode bytes pc = .ok (.putfield i, 3)) (w : (Cond.fieldLink y.cls i O n d).before a0 Z = true) (F : Fld Z h a O n d old) (E : Exa Z h a CC)
    (L : (Cond.lays CC O n d).before a0 Z = true ∨ ((Cond.laysFinal CC O n d).before a0 Z = true ∧ y.cls = O ∧ y.name = "<init>")) (wi : (Cond.instantiable CC kk).before a0 Z = true) (hty : parseFieldDescriptor d = some ty) (hn : narrow ty v = v) (hf : fits ty v = true) (hw : a ∈ ws ∨ h0.size ≤ a)
    (k : ∀ h', Wr h h' a (Jvm.RoadKit.slotOf Z O n d) v → B.G h' cl sl (mkF m pc' Ls st)) : B.G h cl sl (mkF m pc Ls (v :: .ref a :: st)) := fun T locs X N eT => by
  subst hp
  obtain ⟨T', h', X', e', W, stp⟩ := Jvm.RoadKit.putF X B.1 B.2.2.2.1 B.2.2.2.2.1 (host := "") (Or.inl w) Via.refl eT F E (L.imp id fun q => ⟨q.1, q.2.1, B.2.2.2.2.2.2.2.1.trans q.2.2⟩) wi hty hn hf (g := mkF m pc Ls (v :: .ref a :: st)) rfl rfl (hb B.2.1 hd)
  obtain ⟨t, o, q, r⟩ := k h' W T' _ X' (N.one hw) e'
  exact ⟨t, o, stp _ q, r⟩
theorem Base.newO (B : Base p l e R s m args below meth c Z y bytes maxL ret h0 ws C) (pc' : Nat) (hp : pc' = pc + 3) {i n : Nat} {CC : String} (hd : decode bytes pc = .ok (.new i, 3)) (w : (Cond.classLink y.cls i CC).before a0 Z = true) (wi : (Cond.instantiable CC n).before a0 Z = true) (wz : (Cond.initialized CC).before a0 Z = true) (hc : cl + 1 ≤ R.cells) (hs : sl + n ≤ R.slots)
    (k : ∀ h' a, a = h.size → h0.size ≤ a → Ext h h' → Exa Z h' a CC → (∀ {O nm d : String} {ty : FieldType}, Laid Z a0 CC O nm d → parseFieldDescriptor d = some ty → Fld Z h' a O nm d (defaultValue ty)) → B.G h' (cl + 1) (sl + n) (mkF m pc' Ls (.ref a :: st))) : B.G h cl sl (mkF m pc Ls st) := fun T locs X N eT => by
  subst hp
  obtain ⟨T', h', X', e', E, A, D, -, stp⟩ := Jvm.RoadKit.newO X B.1 B.2.2.2.1 B.2.2.2.2.1 w wi wz eT (g := mkF m pc Ls st) rfl (hb B.2.1 hd) hc hs
  obtain ⟨t, o, q, r⟩ := k h' _ rfl (by rw [← eT]; exact B.size X) E A D T' locs X' N e'
  exact ⟨t, o, stp _ q, r⟩
theorem Base.initO (B : Base p l e R s m args below meth c Z y bytes maxL ret h0 ws C) (pc' : Nat) (hp : pc' = pc + 3) {i : Nat} {a : Addr} (hd : decode bytes pc = .ok (.invokespecial i, 3)) (w1 : (Cond.methodLink y.cls i Lib.objectInit).before a0 Z = true) (w2 : (Cond.instanceMethod Lib.objectInit).before a0 Z = true) (w3 : (Cond.code Lib.objectInit ⟨#[0xb1]⟩ 1 none).before a0 Z = true)
    (hLs : Ls.size = maxL) (W : Nat) (hW : (st.map fun v => v.category).sum = W) (hf : 1 ≤ R.frames) (hl : W + 12 ≤ R.locals) (k : B.G h cl sl (mkF m pc' Ls st)) : B.G h cl sl (mkF m pc Ls (.ref a :: st)) := fun T locs X N eT => by
  subst hp
  obtain ⟨T', X', e', stp⟩ := Jvm.RoadKit.initO X B.1 B.2.2.2.1 B.2.2.2.2.1 w1 w2 w3 eT (g := mkF m pc Ls (.ref a :: st)) rfl (hLs.trans B.2.2.1.symm) rfl (hb B.2.1 hd) hf (W := W) (by show 2 * 0 + _ ≤ _; omega) hl
  obtain ⟨t, o, q, r⟩ := k T' locs X' N e'
  exact ⟨t, o, stp _ q, r⟩
/-! 4. calls -/
section Calls
variable {z : MethodName} {i : Nat} {cb : ByteArray} {cm : Nat} {cr : Option FieldType} {rm : Room} {as : Array Value} {ws' : List Addr} {C' : Option Value → Heap → Prop} {argsL rest : List Value} {ps : List FieldType} {rt : Option FieldType} {W : Nat}
theorem Base.callS (B : Base p l e R s m args below meth c Z y bytes maxL ret h0 ws C) (pc' : Nat) (hp : pc' = pc + 3) (hd : decode bytes pc = .ok (.invokestatic i, 3))
    (w1 : (Cond.methodLink y.cls i z).before a0 Z = true) (w2 : (Cond.static z).before a0 Z = true) (w3 : (Cond.initialized z.cls).before a0 Z = true) (w4 : (Cond.code z cb cm cr).before a0 Z = true)
    (hz : z.cls ≠ "java/lang/invoke/MethodHandle" ∧ z.cls ≠ "java/lang/invoke/VarHandle") (argsL rest : List Value) (M : Met l Z z cb cm cr [] rm as h ws' C') (has : argsL.toArray = as) (hst : st = argsL.reverse ++ rest) (hpd : parseMethodDescriptor z.desc = some ⟨ps, rt⟩) (hlen : argsL.length = ps.length) (hLs : Ls.size = maxL)
    (W : Nat) (hW : (rest.map fun v => v.category).sum = W) (hf : rm.frames + 1 ≤ R.frames) (hl : W + (cm + 11) + rm.locals ≤ R.locals) (hc : cl + rm.cells ≤ R.cells) (hs : sl + rm.slots ≤ R.slots) (hws : ∀ x ∈ ws', x ∈ ws ∨ h0.size ≤ x)
    (k : ∀ v h', Keep h h' ws' → C' v h' → B.G h' (cl + rm.cells) (sl + rm.slots) (mkF m pc' Ls (v.toList ++ rest))) : B.G h cl sl (mkF m pc Ls st) := fun T locs X N eT => by
  subst hp
  have hZ := B.2.2.2.1
  obtain ⟨v, _, ⟨T', L', k', n'⟩, -, X', ⟨Lc, hQ, l', y', z'⟩, stp⟩ := Jvm.LawKit.callS X B.1 (y := z) B.2.2.2.2.1 (mvT hZ w1) (mvT hZ w2) (mvT hZ w3) (mvT hZ w4) hz (backOf (W := W) M hZ w4 w3 hf hl) (g := mkF m pc Ls st) rfl (hLs.trans B.2.2.1.symm) (argsL := argsL) (rest := rest) (lenOf hpd hlen) hst (by show 2 * 0 + _ ≤ _; omega) (hb B.2.1 hd) (fun _ _ => ⟨has, eT, hc, hs⟩)
  dsimp only [Pt.U, Pt.locs, Pt.cells, Pt.slots] at X' l' y' z' stp hQ
  subst l' y' z'
  obtain ⟨hC, hN, hK⟩ := hQ
  obtain ⟨t, o, q, r⟩ := k v T'.heap hK hC T' _ X' (N.app fun u hu => (hN u hu).elim (fun q => hws _ q) fun q => Or.inr (Nat.le_trans (by rw [← eT]; exact B.size X) q)) rfl
  exact ⟨t, o, stp _ q, r⟩
theorem Base.callI (B : Base p l e R s m args below meth c Z y bytes maxL ret h0 ws C) (pc' : Nat) (hp : pc' = pc + 3) (hd : decode bytes pc = .ok (.invokespecial i, 3)) (hin : z.name = "<init>")
    (w1 : (Cond.methodLink y.cls i z).before a0 Z = true) (w2 : (Cond.instanceMethod z).before a0 Z = true) (w3 : (Cond.initialized z.cls).before a0 Z = true) (w4 : (Cond.code z cb cm none).before a0 Z = true)
    (hz : z.cls ≠ "java/lang/invoke/MethodHandle" ∧ z.cls ≠ "java/lang/invoke/VarHandle") {a : Addr} (argsL rest : List Value) (M : Met l Z z cb cm none [] rm as h ws' C') (has : (.ref a :: argsL).toArray = as) (hst : st = argsL.reverse ++ .ref a :: rest) (hpd : parseMethodDescriptor z.desc = some ⟨ps, rt⟩) (hlen : argsL.length = ps.length) (hLs : Ls.size = maxL)
    (W : Nat) (hW : (rest.map fun v => v.category).sum = W) (hf : rm.frames + 1 ≤ R.frames) (hl : W + (cm + 11) + rm.locals ≤ R.locals) (hc : cl + rm.cells ≤ R.cells) (hs : sl + rm.slots ≤ R.slots) (hws : ∀ x ∈ ws', x ∈ ws ∨ h0.size ≤ x)
    (k : ∀ v h', Keep h h' ws' → C' v h' → B.G h' (cl + rm.cells) (sl + rm.slots) (mkF m pc' Ls (v.toList ++ rest))) : B.G h cl sl (mkF m pc Ls st) := fun T locs X N eT => by
  subst hp
  have hZ := B.2.2.2.1
  obtain ⟨v, _, ⟨T', L', k', n'⟩, -, X', ⟨Lc, hQ, l', y', z'⟩, stp⟩ := X.specialBack B.1 (y := z) hin B.2.2.2.2.1 (mvT hZ w1) (mvT hZ w2) (mvT hZ w4) hz (backOf (W := W) M hZ w4 w3 hf hl) (g := mkF m pc Ls st) rfl (hLs.trans B.2.2.1.symm) (Steps.refl _) (a := a) (argsL := argsL) (rest := rest) (lenOf hpd hlen) hst (by show 2 * 0 + _ ≤ _; omega) (hb B.2.1 hd) (fun _ _ => ⟨has, eT, hc, hs⟩)
  dsimp only [Pt.U, Pt.locs, Pt.cells, Pt.slots] at X' l' y' z' stp hQ
  subst l' y' z'
  obtain ⟨hC, hN, hK⟩ := hQ
  obtain ⟨t, o, q, r⟩ := k v T'.heap hK hC T' _ X' (N.app fun u hu => (hN u hu).elim (fun q => hws _ q) fun q => Or.inr (Nat.le_trans (by rw [← eT]; exact B.size X) q)) rfl
  exact ⟨t, o, stp.trans q, r⟩
theorem Base.callV (B : Base p l e R s m args below meth c Z y bytes maxL ret h0 ws C) (pc' : Nat) (hp : pc' = pc + 3) (hd : decode bytes pc = .ok (.invokevirtual i, 3)) {CC : String}
    (w1 : (Cond.methodLink y.cls i z).before a0 Z = true) (w2 : (Cond.declares z).before a0 Z = true) (w5 : (Cond.selects CC z z).before a0 Z = true) (w6 : (Cond.instanceMethod z).before a0 Z = true) (w3 : (Cond.initialized z.cls).before a0 Z = true) (w4 : (Cond.code z cb cm cr).before a0 Z = true)
    (hz : z.cls ≠ "java/lang/invoke/MethodHandle" ∧ z.cls ≠ "java/lang/invoke/VarHandle") {a : Addr} (E : Exa Z h a CC) (argsL rest : List Value) (M : Met l Z z cb cm cr [] rm as h ws' C') (has : (.ref a :: argsL).toArray = as) (hst : st = argsL.reverse ++ .ref a :: rest) (hpd : parseMethodDescriptor z.desc = some ⟨ps, rt⟩) (hlen : argsL.length = ps.length) (hLs : Ls.size = maxL)
    (W : Nat) (hW : (rest.map fun v => v.category).sum = W) (hf : rm.frames + 1 ≤ R.frames) (hl : W + (cm + 11) + rm.locals ≤ R.locals) (hc : cl + rm.cells ≤ R.cells) (hs : sl + rm.slots ≤ R.slots) (hws : ∀ x ∈ ws', x ∈ ws ∨ h0.size ≤ x)
    (k : ∀ v h', Keep h h' ws' → C' v h' → B.G h' (cl + rm.cells) (sl + rm.slots) (mkF m pc' Ls (v.toList ++ rest))) : B.G h cl sl (mkF m pc Ls st) := fun T locs X N eT => by
  subst hp
  have hZ := B.2.2.2.1
  obtain ⟨cq, kq, qa, qb, qc⟩ := isOf hZ eT E
  obtain ⟨v, _, ⟨T', L', k', n'⟩, -, X', ⟨Lc, hQ, l', y', z'⟩, stp⟩ := X.virtualBack B.1 (y := z) (z := z) B.2.2.2.2.1 (mvT hZ w1) (mvT hZ w2) (notFace_of_selects (args := args) (mvT hZ w5)) (mvT hZ w5) (mvT hZ w6) hz (backOf (W := W) M hZ w4 w3 hf hl) qa qc (g := mkF m pc Ls st) rfl (hLs.trans B.2.2.1.symm) (Steps.refl _) (argsL := argsL) (rest := rest) (lenOf hpd hlen) hst (by show 2 * 0 + _ ≤ _; omega) (hb B.2.1 hd) (fun _ _ => ⟨has, eT, hc, hs⟩)
  dsimp only [Pt.U, Pt.locs, Pt.cells, Pt.slots] at X' l' y' z' stp hQ
  subst l' y' z'
  obtain ⟨hC, hN, hK⟩ := hQ
  obtain ⟨t, o, q, r⟩ := k v T'.heap hK hC T' _ X' (N.app fun u hu => (hN u hu).elim (fun q => hws _ q) fun q => Or.inr (Nat.le_trans (by rw [← eT]; exact B.size X) q)) rfl
  exact ⟨t, o, stp.trans q, r⟩
theorem Base.callVU (B : Base p l e R s m args below meth c Z y bytes maxL ret h0 ws C) (pc' : Nat) (hp : pc' = pc + 3) (hd : decode bytes pc = .ok (.invokevirtual i, 3)) {x : MethodName} {CC ow : String}
    (w1 : (Cond.methodLink y.cls i x).before a0 Z = true) (w0 : (Cond.sameMethod x.cls ow x.name x.desc).before a0 Z = true) (w2 : (Cond.declares ⟨ow, x.name, x.desc⟩).before a0 Z = true) (w5 : (Cond.selects CC x z).before a0 Z = true) (w6 : (Cond.instanceMethod z).before a0 Z = true) (w3 : (Cond.initialized z.cls).before a0 Z = true) (w4 : (Cond.code z cb cm cr).before a0 Z = true)
    (hz : ow ≠ "java/lang/invoke/MethodHandle" ∧ ow ≠ "java/lang/invoke/VarHandle") {a : Addr} (E : Exa Z h a CC) (argsL rest : List Value) (M : Met l Z z cb cm cr [] rm as h ws' C') (has : (.ref a :: argsL).toArray = as) (hst : st = argsL.reverse ++ .ref a :: rest) (hpd : parseMethodDescriptor x.desc = some ⟨ps, rt⟩) (hlen : argsL.length = ps.length) (hLs : Ls.size = maxL)
    (W : Nat) (hW : (rest.map fun v => v.category).sum = W) (hf : rm.frames + 1 ≤ R.frames) (hl : W + (cm + 11) + rm.locals ≤ R.locals) (hc : cl + rm.cells ≤ R.cells) (hs : sl + rm.slots ≤ R.slots) (hws : ∀ x ∈ ws', x ∈ ws ∨ h0.size ≤ x)
    (k : ∀ v h', Keep h h' ws' → C' v h' → B.G h' (cl + rm.cells) (sl + rm.slots) (mkF m pc' Ls (v.toList ++ rest))) : B.G h cl sl (mkF m pc Ls st) := fun T locs X N eT => by
  subst hp
  have hZ := B.2.2.2.1
  obtain ⟨cq, kq, qa, qb, qc⟩ := isOf hZ eT E
  obtain ⟨v, _, ⟨T', L', k', n'⟩, -, X', ⟨Lc, hQ, l', y', z'⟩, stp⟩ := X.virtualBackUp B.1 (x := x) (y := z) B.2.2.2.2.1 (mvT hZ w1) (mvT hZ w0) (mvT hZ w2) hz (mvT hZ w5) (mvT hZ w6) (backOf (W := W) M hZ w4 w3 hf hl) qa qc (g := mkF m pc Ls st) rfl (hLs.trans B.2.2.1.symm) (Steps.refl _) (argsL := argsL) (rest := rest) (lenOf hpd hlen) hst (by show 2 * 0 + _ ≤ _; omega) (hb B.2.1 hd) (fun _ _ => ⟨has, eT, hc, hs⟩)
  dsimp only [Pt.U, Pt.locs, Pt.cells, Pt.slots] at X' l' y' z' stp hQ
  subst l' y' z'
  obtain ⟨hC, hN, hK⟩ := hQ
  obtain ⟨t, o, q, r⟩ := k v T'.heap hK hC T' _ X' (N.app fun u hu => (hN u hu).elim (fun q => hws _ q) fun q => Or.inr (Nat.le_trans (by rw [← eT]; exact B.size X) q)) rfl
  exact ⟨t, o, stp.trans q, r⟩
theorem Base.callP (B : Base p l e R s m args below meth c Z y bytes maxL ret h0 ws C) (pc' : Nat) (hp : pc' = pc + 3) (hd : decode bytes pc = .ok (.invokevirtual i, 3)) {x : MethodName} {CC : String}
    (w1 : (Cond.methodLink y.cls i z).before a0 Z = true) (w7 : (Cond.privateMethod z).before a0 Z = true) (w6 : (Cond.instanceMethod z).before a0 Z = true) (w5 : (Cond.selects CC x x).before a0 Z = true) (hxc : x.cls = z.cls) (w3 : (Cond.initialized z.cls).before a0 Z = true) (w4 : (Cond.code z cb cm cr).before a0 Z = true)
    (hz : z.cls ≠ "java/lang/invoke/MethodHandle" ∧ z.cls ≠ "java/lang/invoke/VarHandle") {a : Addr} {CE : String} (E : Exa Z h a CE) (argsL rest : List Value) (M : Met l Z z cb cm cr [] rm as h ws' C') (has : (.ref a :: argsL).toArray = as) (hst : st = argsL.reverse ++ .ref a :: rest) (hpd : parseMethodDescriptor z.desc = some ⟨ps, rt⟩) (hlen : argsL.length = ps.length) (hLs : Ls.size = maxL)
    (W : Nat) (hW : (rest.map fun v => v.category).sum = W) (hf : rm.frames + 1 ≤ R.frames) (hl : W + (cm + 11) + rm.locals ≤ R.locals) (hc : cl + rm.cells ≤ R.cells) (hs : sl + rm.slots ≤ R.slots) (hws : ∀ x ∈ ws', x ∈ ws ∨ h0.size ≤ x)
    (k : ∀ v h', Keep h h' ws' → C' v h' → B.G h' (cl + rm.cells) (sl + rm.slots) (mkF m pc' Ls (v.toList ++ rest))) : B.G h cl sl (mkF m pc Ls st) := fun T locs X N eT => by
  subst hp
  have hZ := B.2.2.2.1
  obtain ⟨cq, q1, q2⟩ := E.cell
  have hpr : s.PrivateAt z := Cond.privateMethod_at (mvP hZ w7 (args := args))
  have hi : (Cond.instanceMethod z).before args s = true := mvT hZ w6
  have hsel : (Cond.selects z.cls z z).before args s = true := by
    obtain ⟨c2, r2, m2, -, -, q3, -, kP, hkP, hkPi⟩ := Cond.selects_spec (mvT hZ w5 (args := args))
    have hc2 := findClass_of_methodNamed q3
    rw [hxc] at hc2
    exact selects_self_of_private hc2 hkP hkPi hpr hi hz
  obtain ⟨v, _, ⟨T', L', k', n'⟩, -, X', ⟨Lc, hQ, l', y', z'⟩, stp⟩ := X.privateBack B.1 (y := z) B.2.2.2.2.1 (mvT hZ w1) hi hsel hpr (mvT hZ w4) hz (backOf (W := W) M hZ w4 w3 hf hl) (g := mkF m pc Ls st) rfl (hLs.trans B.2.2.1.symm) (Steps.refl _) (a := a) (by rw [eT]; exact q1) q2 (argsL := argsL) (rest := rest) (lenOf hpd hlen) hst (by show 2 * 0 + _ ≤ _; omega) (hb B.2.1 hd) (fun _ _ => ⟨has, eT, hc, hs⟩)
  dsimp only [Pt.U, Pt.locs, Pt.cells, Pt.slots] at X' l' y' z' stp hQ
  subst l' y' z'
  obtain ⟨hC, hN, hK⟩ := hQ
  obtain ⟨t, o, q, r⟩ := k v T'.heap hK hC T' _ X' (N.app fun u hu => (hN u hu).elim (fun q => hws _ q) fun q => Or.inr (Nat.le_trans (by rw [← eT]; exact B.size X) q)) rfl
  exact ⟨t, o, stp.trans q, r⟩
end Calls
/-- where nothing old is written, all that stood at the start stands -/
theorem Base.olds (B : Base p l e R s m args below meth c Z y bytes maxL ret h0 [] C) (k : Ext h0 h → B.G h cl sl g) : B.G h cl sl g := fun T locs X N eT => by
  refine k ?_ T locs X N eT
  have e0 := B.2.2.2.2.2.2.2.2
  have N' := N
  rw [← e0] at N'
  have q := keep_of X N'
  rw [e0, eT] at q
  exact ⟨q.1, fun a c hc => q.2.1 a c hc (by simp)⟩
end Walk
/-! 3b. arrays: 'Ary': the array at a holds just the list vs -/
def Ary (Z : State) (h : Heap) (a : Addr) (ty : FieldType) (vs : List Value) : Prop := ∃ c : Cell, Arr Z h a c ty ∧ c.slots.toList = vs
section Arrays
variable {p : Program} {l : Launch} {e : Env} {R : Room} {s : State} {m : MethodId} {args : Array Value} {below : List Frame} {meth : Method} {c : Code} {Z : State} {a0 : Array Value} {y : MethodName} {bytes : ByteArray} {maxL : Nat} {ret : Option FieldType} {h0 : Heap} {ws : List Addr} {C : Option Value → Heap → Prop}
variable {h h' : Heap} {cl sl : Nat} {g g' : JFrame} {pc : Nat} {Ls : Array Slot} {st : List Value} {a b : Addr} {ty : FieldType} {vs : List Value} {j : Int32} {i : Nat} {v w : Value} {wl : List Addr}
theorem Ary.lt (A : Ary Z h a ty vs) : a < h.size := by obtain ⟨c, A, -⟩ := A; exact A.lt
theorem Ary.ext (A : Ary Z h a ty vs) (E : Ext h h') : Ary Z h' a ty vs := by obtain ⟨c, A, r⟩ := A; exact ⟨c, A.ext E, r⟩
theorem Ary.other (A : Ary Z h b ty vs) (W : Wr h h' a i v) (q : b ≠ a) : Ary Z h' b ty vs := by obtain ⟨c, A, r⟩ := A; exact ⟨c, A.other W q, r⟩
theorem Ary.keep (A : Ary Z h a ty vs) (K : Keep h h' wl) (q : a ∉ wl) : Ary Z h' a ty vs := by obtain ⟨c, A, r⟩ := A; exact ⟨c, ⟨K.2.1 a c A.1 q, A.2⟩, r⟩
theorem Ary.set (A : Ary Z h a ty vs) (W : Wr h h' a i v) : Ary Z h' a ty (vs.set i v) := by
  obtain ⟨c, A, rfl⟩ := A
  exact ⟨_, A.same W, by simp [Cell.setSlot]⟩
theorem Ary.new {cA : ClassId} {n : Int32} (A : Arr Z h a (newA cA ty n) ty) : Ary Z h a ty (List.replicate n.toNatClampNeg (defaultValue ty)) := ⟨_, A, by simp [newA]⟩
theorem ary_in {c : Cell} (r : c.slots.toList = vs) (hj : ¬ j < 0) (hi : j.toNatClampNeg = i) (hv : vs[i]? = some v) : ¬ (j < 0 ∨ c.slots.size ≤ j.toNatClampNeg) ∧ c.slots[j.toNatClampNeg]? = some v := by
  subst r hi
  rw [Array.getElem?_toList] at hv
  exact ⟨fun q => q.elim hj fun q => absurd (Array.getElem?_eq_some_iff.mp hv).1 (Nat.not_lt.mpr q), hv⟩
theorem ary_lt {c : Cell} (r : c.slots.toList = vs) (hj : ¬ j < 0) (hi : j.toNatClampNeg = i) (hv : i < vs.length) : ¬ (j < 0 ∨ c.slots.size ≤ j.toNatClampNeg) := by
  subst r hi
  rw [Array.length_toList] at hv
  exact fun q => q.elim hj fun q => absurd hv (Nat.not_lt.mpr q)
theorem Base.arrlen (B : Base p l e R s m args below meth c Z y bytes maxL ret h0 ws C) (pc' : Nat) (hp : pc' = pc + 1) (hd : decode bytes pc = .ok (.arraylength, 1)) (A : Ary Z h a ty vs) (n : Int32) (hn : vs.length.toInt32 = n) (k : B.G h cl sl (mkF m pc' Ls (.int n :: st))) : B.G h cl sl (mkF m pc Ls (.ref a :: st)) := by
  subst hp hn
  obtain ⟨c1, A, rfl⟩ := A
  rw [Array.length_toList] at k
  exact B.viaX (fun T t L X eT r => X.arraylength (g := mkF m pc Ls (.ref a :: st)) B.1 (by rw [eT]; exact A.1) (State.isArrayOf_alike (T := s) B.2.2.2.1.alike A.2.1) rfl rfl (hb B.2.1 hd) t r) k
theorem Base.baload (B : Base p l e R s m args below meth c Z y bytes maxL ret h0 ws C) (pc' : Nat) (hp : pc' = pc + 1) (hd : decode bytes pc = .ok (.baload, 1)) (A : Ary Z h a .byte vs) (hj : ¬ j < 0) (i : Nat) (hi : j.toNatClampNeg = i) (v : Value) (hv : vs[i]? = some v) (k : B.G h cl sl (mkF m pc' Ls (v :: st))) : B.G h cl sl (mkF m pc Ls (.int j :: .ref a :: st)) := by
  subst hp
  obtain ⟨c1, A, r⟩ := A
  obtain ⟨q1, q2⟩ := ary_in r hj hi hv
  exact B.viaX (fun T t L X eT r => X.baloadBytes (g := mkF m pc Ls (.int j :: .ref a :: st)) B.1 (by rw [eT]; exact A.1) (State.isArrayOf_alike (T := s) B.2.2.2.1.alike A.2.1) A.2.2 q1 q2 rfl rfl (hb B.2.1 hd) t r) k
theorem Base.iaload (B : Base p l e R s m args below meth c Z y bytes maxL ret h0 ws C) (pc' : Nat) (hp : pc' = pc + 1) (hd : decode bytes pc = .ok (.iaload, 1)) (A : Ary Z h a .int vs) (hj : ¬ j < 0) (i : Nat) (hi : j.toNatClampNeg = i) (v : Value) (hv : vs[i]? = some v) (k : B.G h cl sl (mkF m pc' Ls (v :: st))) : B.G h cl sl (mkF m pc Ls (.int j :: .ref a :: st)) := by
  subst hp
  obtain ⟨c1, A, r⟩ := A
  obtain ⟨q1, q2⟩ := ary_in r hj hi hv
  exact B.viaX (fun T t L X eT r => X.iaload (g := mkF m pc Ls (.int j :: .ref a :: st)) B.1 (by rw [eT]; exact A.1) (State.isArrayOf_alike (T := s) B.2.2.2.1.alike A.2.1) A.2.2 q1 q2 rfl rfl (hb B.2.1 hd) t r) k
theorem Base.laload (B : Base p l e R s m args below meth c Z y bytes maxL ret h0 ws C) (pc' : Nat) (hp : pc' = pc + 1) (hd : decode bytes pc = .ok (.laload, 1)) (A : Ary Z h a .long vs) (hj : ¬ j < 0) (i : Nat) (hi : j.toNatClampNeg = i) (v : Value) (hv : vs[i]? = some v) (k : B.G h cl sl (mkF m pc' Ls (v :: st))) : B.G h cl sl (mkF m pc Ls (.int j :: .ref a :: st)) := by
  subst hp
  obtain ⟨c1, A, r⟩ := A
  obtain ⟨q1, q2⟩ := ary_in r hj hi hv
  exact B.viaX (fun T t L X eT r => X.laload (g := mkF m pc Ls (.int j :: .ref a :: st)) B.1 (by rw [eT]; exact A.1) (State.isArrayOf_alike (T := s) B.2.2.2.1.alike A.2.1) A.2.2 q1 q2 rfl rfl (hb B.2.1 hd) t r) k
theorem Base.newP (B : Base p l e R s m args below meth c Z y bytes maxL ret h0 ws C) (pc' : Nat) (hp : pc' = pc + 2) {aty : ArrayType} (hd : decode bytes pc = .ok (.newarray aty, 2)) (w : (Cond.arrayClass (newarray.typeOf aty)).before a0 Z = true) {n : Int32} (hn : ¬ n < 0) (cap : Nat) (hcap : n.toNatClampNeg ≤ cap) (hb' : cap * 8 ≤ 536870912) (hc : cl + 1 ≤ R.cells) (hs : sl + cap ≤ R.slots)
    (k : ∀ h' a, a = h.size → h0.size ≤ a → Ext h h' → Ary Z h' a (newarray.typeOf aty) (List.replicate n.toNatClampNeg (defaultValue (newarray.typeOf aty))) → B.G h' (cl + 1) (sl + cap) (mkF m pc' Ls (.ref a :: st))) : B.G h cl sl (mkF m pc Ls (.int n :: st)) := fun T locs X N eT => by
  subst hp
  obtain ⟨T', h', cA, X', e', E, A, stp⟩ := Jvm.RoadKit.newP X B.1 B.2.2.2.1 w eT (g := mkF m pc Ls (.int n :: st)) rfl (hb B.2.1 hd) rfl hn hcap hb' hc hs
  obtain ⟨t, o, q, r⟩ := k h' _ rfl (by rw [← eT]; exact B.size X) E (Ary.new A) T' locs X' N e'
  exact ⟨t, o, stp _ q, r⟩
theorem Base.bastore (B : Base p l e R s m args below meth c Z y bytes maxL ret h0 ws C) (pc' : Nat) (hp : pc' = pc + 1) (hd : decode bytes pc = .ok (.bastore, 1)) (A : Ary Z h a .byte vs) (hj : ¬ j < 0) (i : Nat) (hi : j.toNatClampNeg = i) (hlt : i < vs.length) (hw : a ∈ ws ∨ h0.size ≤ a) {x : Int32} (k : ∀ h', Wr h h' a i (.int x.toInt8.toInt32) → Ary Z h' a .byte (vs.set i (.int x.toInt8.toInt32)) → B.G h' cl sl (mkF m pc' Ls st)) : B.G h cl sl (mkF m pc Ls (.int x :: .int j :: .ref a :: st)) := fun T locs X N eT => by
  subst hp
  obtain ⟨c1, A1, r1⟩ := A
  obtain ⟨T', h', X', e', W, stp⟩ := stB X B.1 B.2.2.2.1 eT A1 (ary_lt r1 hj hi hlt) (g := mkF m pc Ls (.int x :: .int j :: .ref a :: st)) rfl rfl (hb B.2.1 hd)
  rw [hi] at W
  obtain ⟨t, o, q, r⟩ := k h' W (Ary.set ⟨c1, A1, r1⟩ W) T' _ X' (N.one hw) e'
  exact ⟨t, o, stp _ q, r⟩
theorem Base.iastore (B : Base p l e R s m args below meth c Z y bytes maxL ret h0 ws C) (pc' : Nat) (hp : pc' = pc + 1) (hd : decode bytes pc = .ok (.iastore, 1)) (A : Ary Z h a .int vs) (hj : ¬ j < 0) (i : Nat) (hi : j.toNatClampNeg = i) (hlt : i < vs.length) (hw : a ∈ ws ∨ h0.size ≤ a) {x : Int32} (k : ∀ h', Wr h h' a i (.int x) → Ary Z h' a .int (vs.set i (.int x)) → B.G h' cl sl (mkF m pc' Ls st)) : B.G h cl sl (mkF m pc Ls (.int x :: .int j :: .ref a :: st)) := fun T locs X N eT => by
  subst hp
  obtain ⟨c1, A1, r1⟩ := A
  obtain ⟨T', h', X', e', W, stp⟩ := stI X B.1 B.2.2.2.1 eT A1 (ary_lt r1 hj hi hlt) (g := mkF m pc Ls (.int x :: .int j :: .ref a :: st)) rfl rfl (hb B.2.1 hd)
  rw [hi] at W
  obtain ⟨t, o, q, r⟩ := k h' W (Ary.set ⟨c1, A1, r1⟩ W) T' _ X' (N.one hw) e'
  exact ⟨t, o, stp _ q, r⟩
theorem Base.lastore (B : Base p l e R s m args below meth c Z y bytes maxL ret h0 ws C) (pc' : Nat) (hp : pc' = pc + 1) (hd : decode bytes pc = .ok (.lastore, 1)) (A : Ary Z h a .long vs) (hj : ¬ j < 0) (i : Nat) (hi : j.toNatClampNeg = i) (hlt : i < vs.length) (hw : a ∈ ws ∨ h0.size ≤ a) {x : Int64} (k : ∀ h', Wr h h' a i (.long x) → Ary Z h' a .long (vs.set i (.long x)) → B.G h' cl sl (mkF m pc' Ls st)) : B.G h cl sl (mkF m pc Ls (.long x :: .int j :: .ref a :: st)) := fun T locs X N eT => by
  subst hp
  obtain ⟨c1, A1, r1⟩ := A
  obtain ⟨T', h', X', e', W, stp⟩ := stJ X B.1 B.2.2.2.1 eT A1 (ary_lt r1 hj hi hlt) (g := mkF m pc Ls (.long x :: .int j :: .ref a :: st)) rfl rfl (hb B.2.1 hd)
  rw [hi] at W
  obtain ⟨t, o, q, r⟩ := k h' W (Ary.set ⟨c1, A1, r1⟩ W) T' _ X' (N.one hw) e'
  exact ⟨t, o, stp _ q, r⟩
theorem Base.newPE (B : Base p l e R s m args below meth c Z y bytes maxL ret h0 ws C) (pc' : Nat) (hp : pc' = pc + 2) {aty : ArrayType} (hd : decode bytes pc = .ok (.newarray aty, 2)) (w : (Cond.arrayClass (newarray.typeOf aty)).before a0 Z = true) {n : Int32} (hn : ¬ n < 0) (cap : Nat) (hcap : n.toNatClampNeg ≤ cap) (hb' : cap * 8 ≤ 536870912) (hc : cl + 1 ≤ R.cells) (hs : sl + cap ≤ R.slots) (ad : String) (had : "[" ++ (newarray.typeOf aty).toString = ad)
    (k : ∀ h' a, a = h.size → h0.size ≤ a → Ext h h' → Ary Z h' a (newarray.typeOf aty) (List.replicate n.toNatClampNeg (defaultValue (newarray.typeOf aty))) → Exa Z h' a ad → B.G h' (cl + 1) (sl + cap) (mkF m pc' Ls (.ref a :: st))) : B.G h cl sl (mkF m pc Ls (.int n :: st)) := fun T locs X N eT => by
  subst hp
  obtain ⟨T', h', cA, X', e', E, A, A2, stp⟩ := Jvm.RoadKit.newPE X B.1 B.2.2.2.1 w eT (g := mkF m pc Ls (.int n :: st)) rfl (hb B.2.1 hd) rfl hn hcap hb' hc hs had
  obtain ⟨t, o, q, r⟩ := k h' _ rfl (by rw [← eT]; exact B.size X) E (Ary.new A) A2 T' locs X' N e'
  exact ⟨t, o, stp _ q, r⟩
theorem Base.clone (B : Base p l e R s m args below meth c Z y bytes maxL ret h0 ws C) (pc' : Nat) (hp : pc' = pc + 3) {ix : Nat} {ad : String} (hd : decode bytes pc = .ok (.invokevirtual ix, 3))
    (w1 : (Cond.methodLink y.cls ix ⟨ad, "clone", "()Ljava/lang/Object;"⟩).before a0 Z = true) (w2 : (Cond.sameMethod ad "java/lang/Object" "clone" "()Ljava/lang/Object;").before a0 Z = true) (w3 : (Cond.native ⟨"java/lang/Object", "clone", "()Ljava/lang/Object;"⟩).before a0 Z = true)
    (w4 : (Cond.instanceMethod ⟨"java/lang/Object", "clone", "()Ljava/lang/Object;"⟩).before a0 Z = true) (w5 : (Cond.selects ad ⟨ad, "clone", "()Ljava/lang/Object;"⟩ ⟨"java/lang/Object", "clone", "()Ljava/lang/Object;"⟩).before a0 Z = true) (w6 : (Cond.castable ad "java/lang/Cloneable").before a0 Z = true)
    (A : Ary Z h a ty vs) (E : Exa Z h a ad) (hfit : ∀ v ∈ vs, fits ty v = true) (hLs : Ls.size = maxL) (W : Nat) (hW : (st.map fun v => v.category).sum = W) (hf : 1 ≤ R.frames) (hl : W + 14 ≤ R.locals) (cap : Nat) (hcap : vs.length ≤ cap) (hc : cl + 1 ≤ R.cells) (hs : sl + cap ≤ R.slots)
    (k : ∀ h' b, b = h.size → h0.size ≤ b → Ext h h' → Ary Z h' b ty vs → Exa Z h' b ad → B.G h' (cl + 1) (sl + cap) (mkF m pc' Ls (.ref b :: st))) : B.G h cl sl (mkF m pc Ls (.ref a :: st)) := fun T locs X N eT => by
  subst hp
  obtain ⟨c1, A1, r1⟩ := A
  have FC : FitC Z c1 := fitC_of A1 fun i hi v hv => hfit v (by rw [← r1]; exact Array.mem_toList_iff.mpr (Array.mem_of_getElem? hv))
  obtain ⟨T', h', X', e', ex, A', E', stp⟩ := cloneA X B.1 B.2.2.2.1 B.2.2.2.2.1 w1 w2 w3 w4 w5 w6 eT A1 E FC (g := mkF m pc Ls (.ref a :: st)) rfl (hLs.trans B.2.2.1.symm) rfl (hb B.2.1 hd) hf (W := W) (cap := cap) (by show 2 * 0 + _ ≤ _; omega) hl (by rw [← r1, Array.length_toList] at hcap; exact hcap) hc hs
  obtain ⟨t, o, q, r⟩ := k h' _ rfl (by rw [← eT]; exact B.size X) ex ⟨_, A', r1⟩ E' T' locs X' N e'
  exact ⟨t, o, stp _ q, r⟩
theorem Base.castY (B : Base p l e R s m args below meth c Z y bytes maxL ret h0 ws C) (pc' : Nat) (hp : pc' = pc + 3) {ix : Nat} {K : String} (hd : decode bytes pc = .ok (.checkcast ix, 3)) (w : (Cond.classLink y.cls ix K).before a0 Z = true) (F : Ins Z h a K true) (k : B.G h cl sl (mkF m pc' Ls (.ref a :: st))) : B.G h cl sl (mkF m pc Ls (.ref a :: st)) := fun T locs X N eT => by
  subst hp
  obtain ⟨T', X', e', stp⟩ := Jvm.RoadKit.castY X B.1 B.2.2.2.1 B.2.2.2.2.1 w eT F (g := mkF m pc Ls (.ref a :: st)) rfl rfl (hb B.2.1 hd)
  obtain ⟨t, o, q, r⟩ := k T' locs X' N e'
  exact ⟨t, o, stp _ q, r⟩
theorem Base.instY (B : Base p l e R s m args below meth c Z y bytes maxL ret h0 ws C) (pc' : Nat) (hp : pc' = pc + 3) {ix : Nat} {K : String} (hd : decode bytes pc = .ok (.instanceof ix, 3)) (w : (Cond.classLink y.cls ix K).before a0 Z = true) (F : Ins Z h a K true) (k : B.G h cl sl (mkF m pc' Ls (.int 1 :: st))) : B.G h cl sl (mkF m pc Ls (.ref a :: st)) := fun T locs X N eT => by
  subst hp
  obtain ⟨T', X', e', stp⟩ := Jvm.RoadKit.instY X B.1 B.2.2.2.1 B.2.2.2.2.1 w eT F (g := mkF m pc Ls (.ref a :: st)) rfl rfl (hb B.2.1 hd)
  obtain ⟨t, o, q, r⟩ := k T' locs X' N e'
  exact ⟨t, o, stp _ q, r⟩
theorem Base.instN (B : Base p l e R s m args below meth c Z y bytes maxL ret h0 ws C) (pc' : Nat) (hp : pc' = pc + 3) {ix : Nat} {K CC : String} (hd : decode bytes pc = .ok (.instanceof ix, 3)) (w : (Cond.classLink y.cls ix K).before a0 Z = true) (E : Exa Z h a CC) (F : ∃ c t, Z.vm.findClass CC = some c ∧ Z.vm.findClass K = some t ∧ Z.vm.assignable c t = false) (k : B.G h cl sl (mkF m pc' Ls (.int 0 :: st))) : B.G h cl sl (mkF m pc Ls (.ref a :: st)) := fun T locs X N eT => by
  subst hp
  obtain ⟨T', X', e', stp⟩ := instNo X B.1 B.2.2.2.1 B.2.2.2.2.1 w eT E F (g := mkF m pc Ls (.ref a :: st)) rfl rfl (hb B.2.1 hd)
  obtain ⟨t, o, q, r⟩ := k T' locs X' N e'
  exact ⟨t, o, stp _ q, r⟩
theorem Base.inst0 (B : Base p l e R s m args below meth c Z y bytes maxL ret h0 ws C) (pc' : Nat) (hp : pc' = pc + 3) {ix : Nat} (hd : decode bytes pc = .ok (.instanceof ix, 3)) (k : B.G h cl sl (mkF m pc' Ls (.int 0 :: st))) : B.G h cl sl (mkF m pc Ls (.null :: st)) := by
  subst hp
  exact B.viaX (fun T t L X eT r => X.instanceofNull B.1 (g := mkF m pc Ls (.null :: st)) rfl rfl (hb B.2.1 hd) t r) k
theorem Base.aaload (B : Base p l e R s m args below meth c Z y bytes maxL ret h0 ws C) (pc' : Nat) (hp : pc' = pc + 1) (hd : decode bytes pc = .ok (.aaload, 1)) (A : Ary Z h a ty vs) (hty : ty.isReference = true) (hj : ¬ j < 0) (i : Nat) (hi : j.toNatClampNeg = i) (v : Value) (hv : vs[i]? = some v) (k : B.G h cl sl (mkF m pc' Ls (v :: st))) : B.G h cl sl (mkF m pc Ls (.int j :: .ref a :: st)) := by
  subst hp
  obtain ⟨c1, A, r⟩ := A
  obtain ⟨q1, q2⟩ := ary_in r hj hi hv
  exact B.viaX (fun T t L X eT r => X.aaload (g := mkF m pc Ls (.int j :: .ref a :: st)) B.1 (by rw [eT]; exact A.1) (State.isArrayOf_alike (T := s) B.2.2.2.1.alike A.2.1) hty A.2.2 q1 q2 rfl rfl (hb B.2.1 hd) t r) k
theorem ns_root {O K : String} {n : Nat} (w : (Cond.noSuperclass O).before a0 Z = true) (wk : (Cond.instantiable K n).before a0 Z = true) (hn : O ≠ K) : NS Z O K := by
  obtain ⟨c, k, h1, h2, h3, -, -⟩ := Cond.noSuperclass_spec w
  obtain ⟨t, -, g1, -⟩ := Cond.instantiable_spec wk
  have ne := ids_ne h1 g1 hn
  refine ⟨c, t, h1, g1, fun fuel => ?_⟩
  cases fuel with
  | zero => rfl
  | succ f => simp [Vm.isSubclassAux, ne, h2, h3]
theorem ns_no {CC K : String} {n n' : Nat} (w : (Cond.instantiable CC n').before a0 Z = true) (wk : (Cond.instantiable K n).before a0 Z = true) (q : NS Z CC K) (hn : CC ≠ K) : ∃ c t, Z.vm.findClass CC = some c ∧ Z.vm.findClass K = some t ∧ Z.vm.assignable c t = false := by
  obtain ⟨c, t, h0, g0, n3⟩ := q
  obtain ⟨c1, k, h1, h2, h5, -⟩ := Cond.instantiable_spec w
  obtain ⟨t1, k', g1, g2, g5, g7, -⟩ := Cond.instantiable_spec wk
  cases h0.symm.trans h1
  cases g0.symm.trans g1
  have ne := ids_ne h0 g0 hn
  have g8 : k'.isInterface = false := by simp only [Bool.or_eq_false_iff] at g7; exact g7.1
  refine ⟨c, t, h0, g0, ?_⟩
  show Z.vm.assignableAux (255 + 1) c t = false
  simp [Vm.assignableAux, ne, h2, g2, h5, g5, g8, Vm.isSubclass, n3]
end Arrays
/-! 5. the words -/
theorem wd {L : List Jvm.Cond} {a0 : Array Value} {Z : State} (hw : ∀ d ∈ L, d.before a0 Z = true) (i : Nat) {d : Jvm.Cond} (q : L[i]? = some d) : d.before a0 Z = true := hw d (List.mem_of_getElem? q)
/-! 6. from the words of a case -/
theorem fld_start {args : Array Value} {s : State} {t : Term} {a : Addr} {O n d : String} {z : Int32} (ht : t.eval args s none [] s = some (.ref a)) (q : (Cond.eq (.field t O n d) (.int z)).value args s none s [] = some true) : Fld s s.heap a O n d (.int z) :=
  Fld.start ((fld_at ht).symm.trans (eqv_i rfl q))
theorem eval_int {args : Array Value} {s : State} {u w : Term} {z : Int32} (q : (Cond.eq u w).value args s none s [] = some true) (hw : w.eval args s none [] s = some (.int z)) : u.eval args s none [] s = some (.int z) := by
  cases hv : u.eval args s none [] s with
  | none => simp [Cond.value, hv] at q
  | some v =>
    cases v <;> simp [Cond.value, hv, hw] at q
    subst q; rfl
theorem eval_ref {args : Array Value} {s : State} {u w : Term} {z : Addr} (q : (Cond.eq u w).value args s none s [] = some true) (hw : w.eval args s none [] s = some (.ref z)) : u.eval args s none [] s = some (.ref z) := by
  cases hv : u.eval args s none [] s with
  | none => simp [Cond.value, hv] at q
  | some v =>
    cases v <;> simp [Cond.value, hv, hw] at q
    subst q; rfl
/-- an array of the start, of known length and places -/
theorem ary_start {args : Array Value} {s : State} {t : Term} {a : Addr} {ty : FieldType} {vs : List Value} {n : Int32} (ht : t.eval args s none [] s = some (.ref a)) (hA : (Cond.arrayOf t ty).value args s none s [] = some true)
    (hl : (Cond.eq (.length t) (.int n)).value args s none s [] = some true) (hn : n.toNatClampNeg = vs.length) (hn0 : ¬ n < 0) (he : ∀ i, i < vs.length → ∃ v, vs[i]? = some v ∧ (Term.elem t (.int (Int32.ofNat i))).eval args s none [] s = some v) : Ary s s.heap a ty vs := by
  obtain ⟨c, A⟩ := Arr.start ht hA
  have e1 := eval_int hl rfl
  simp only [Term.eval, ht, Option.bind_eq_bind, Option.bind_some] at e1
  have hat : s.arrayAt? a = some c := A.fin (Vm.Alike.refl _)
  rw [hat] at e1
  simp only [Option.bind_some] at e1
  split at e1
  · rename_i hs
    simp only [Option.pure_def, Option.some.injEq, Value.int.injEq] at e1
    have hsz : c.slots.size = vs.length := by
      rw [← hn, ← e1]
      have := len_toInt hs
      simp only [Int32.toNatClampNeg, this]; omega
    refine ⟨c, A, ?_⟩
    apply List.ext_getElem?
    intro i
    by_cases hi : i < vs.length
    · obtain ⟨v, q1, q2⟩ := he i hi
      obtain ⟨cell, r1, -, r3⟩ := elem_at q2 ht rfl
      cases A.1.symm.trans r1
      have : (Int32.ofNat i).toNatClampNeg = i := by
        have := Int32.toInt_ofNat_small (show i < 2 ^ 31 by omega)
        simp only [Int32.toNatClampNeg, this]; omega
      rw [this] at r3
      rw [q1, Array.getElem?_toList]; exact r3
    · rw [List.getElem?_eq_none (by rw [Array.length_toList, hsz]; omega), List.getElem?_eq_none (by omega)]
  · simp at e1
end Jvm.Own
namespace Jvm.Pilot.@@N@@
open Jvm Jvm.ClassFile Sem Op Lib Jvm.Free Jvm.Stand Jvm.LawKit Jvm.RoadKit Jvm.Own Bundle Jvm.Pilot.@@N@@.Jvm.D
theorem pd__I_I : parseMethodDescriptor "(I)I" = some ⟨[.int], some .int⟩ := by decide +kernel
def own_w (p : Int32) : Int32 := p / 16 * 7 + (if p % 16 < 15 then p % 16 / 3 else 5) + 1
def own_d (p : Int32) : Int32 := p / 3 + 1
def own_f (k : Nat) : Int32 := if k < 15 then Int32.ofNat (k / 3) else 5
theorem own_fv (k : Nat) (h : k < 16) : own_f k = if Int32.ofNat k < 15 then Int32.ofNat k / 3 else 5 := (by decide : ∀ k : Fin 16, own_f k.val = if Int32.ofNat k.val < 15 then Int32.ofNat k.val / 3 else 5) ⟨k, h⟩
theorem own_wat (k : Nat) (h : k < 16) : ([(.int (0 : Int32)), (.int (0 : Int32)), (.int (0 : Int32)), (.int (1 : Int32)), (.int (1 : Int32)), (.int (1 : Int32)), (.int (2 : Int32)), (.int (2 : Int32)), (.int (2 : Int32)), (.int (3 : Int32)), (.int (3 : Int32)), (.int (3 : Int32)), (.int (4 : Int32)), (.int (4 : Int32)), (.int (4 : Int32)), (.int (5 : Int32))] : List Value)[k]? = some (.int (own_f k)) := (by decide : ∀ k : Fin 16, ([(.int (0 : Int32)), (.int (0 : Int32)), (.int (0 : Int32)), (.int (1 : Int32)), (.int (1 : Int32)), (.int (1 : Int32)), (.int (2 : Int32)), (.int (2 : Int32)), (.int (2 : Int32)), (.int (3 : Int32)), (.int (3 : Int32)), (.int (3 : Int32)), (.int (4 : Int32)), (.int (4 : Int32)), (.int (4 : Int32)), (.int (5 : Int32))] : List Value)[k.val]? = some (.int (own_f k.val))) ⟨k, h⟩
theorem own_dat (k : Nat) (h : k < 3) : ([(.int (0 : Int32)), (.int (0 : Int32)), (.int (0 : Int32))] : List Value)[k]? = some (.int 0) := (by decide : ∀ k : Fin 3, ([(.int (0 : Int32)), (.int (0 : Int32)), (.int (0 : Int32))] : List Value)[k.val]? = some (.int 0)) ⟨k, h⟩
theorem own_nn (k : Nat) (h : k < 16) : ¬ Int32.ofNat k < 0 ∧ (Int32.ofNat k).toNatClampNeg = k := (by decide : ∀ k : Fin 16, ¬ Int32.ofNat k.val < 0 ∧ (Int32.ofNat k.val).toNatClampNeg = k.val) ⟨k, h⟩
theorem own_mod (p n : Int32) (m : Nat) (hp : 0 ≤ p.toInt) (hn : n.toInt = m) (h0 : 0 < m) (h1 : m < 100) : ∃ k : Nat, k < m ∧ p % n = Int32.ofNat k := by
  have h2 : (p % n).toInt = p.toInt % m := by rw [Int32.toInt_mod, hn]; exact Int.tmod_eq_emod_of_nonneg hp
  have h3 : 0 ≤ p.toInt % m := Int.emod_nonneg _ (by omega)
  have h4 : p.toInt % m < m := Int.emod_lt_of_pos _ (by omega)
  refine ⟨(p.toInt % m).toNat, by omega, ?_⟩
  rw [← Int32.toInt_inj, h2, Int32.toInt_ofNat_of_lt (by omega)]
  omega
theorem own_p (x : Int32) : 0 ≤ (x &&& 2147483647).toInt := (c_andS x 2147483647).2.2 (by decide)
theorem d1_0 : decode prog_3_method_4_code 0 = .ok (.iload_n 1, 1) := by decide +kernel
theorem d1_1 : decode prog_3_method_4_code 1 = .ok (.aload_n 0, 1) := by decide +kernel
theorem d1_2 : decode prog_3_method_4_code 2 = .ok (.getfield 37, 3) := by decide +kernel
theorem d1_5 : decode prog_3_method_4_code 5 = .ok (.arraylength, 1) := by decide +kernel
theorem d1_6 : decode prog_3_method_4_code 6 = .ok (.idiv, 1) := by decide +kernel
theorem d1_7 : decode prog_3_method_4_code 7 = .ok (.aload_n 0, 1) := by decide +kernel
theorem d1_8 : decode prog_3_method_4_code 8 = .ok (.getfield 33, 3) := by decide +kernel
theorem d1_11 : decode prog_3_method_4_code 11 = .ok (.imul, 1) := by decide +kernel
theorem d1_12 : decode prog_3_method_4_code 12 = .ok (.aload_n 0, 1) := by decide +kernel
theorem d1_13 : decode prog_3_method_4_code 13 = .ok (.getfield 37, 3) := by decide +kernel
theorem d1_16 : decode prog_3_method_4_code 16 = .ok (.iload_n 1, 1) := by decide +kernel
theorem d1_17 : decode prog_3_method_4_code 17 = .ok (.aload_n 0, 1) := by decide +kernel
theorem d1_18 : decode prog_3_method_4_code 18 = .ok (.getfield 37, 3) := by decide +kernel
theorem d1_21 : decode prog_3_method_4_code 21 = .ok (.arraylength, 1) := by decide +kernel
theorem d1_22 : decode prog_3_method_4_code 22 = .ok (.irem, 1) := by decide +kernel
theorem d1_23 : decode prog_3_method_4_code 23 = .ok (.iaload, 1) := by decide +kernel
theorem d1_24 : decode prog_3_method_4_code 24 = .ok (.iadd, 1) := by decide +kernel
theorem d1_25 : decode prog_3_method_4_code 25 = .ok (.iconst 1, 1) := by decide +kernel
theorem d1_26 : decode prog_3_method_4_code 26 = .ok (.iadd, 1) := by decide +kernel
theorem d1_27 : decode prog_3_method_4_code 27 = .ok (.ireturn, 1) := by decide +kernel
theorem pn_1 : plainName "com/example/invigil/invigil/core/DayPattern" = true := by first | (simp [plainName, overriddenIn]; done) | decide +kernel
set_option maxRecDepth 65536 in
set_option maxHeartbeats 4000000 in
theorem rm_dayW (l : Launch) (Z : State) (a0 : Array Value) (hw : ∀ d ∈ tables_1, d.before a0 Z = true) (a ar : Addr) (p1 : Int32) (h0 : Heap) (hp : 0 ≤ p1.toInt) (Fc : Fld Z h0 a "com/example/invigil/invigil/core/DayPattern" "cycleDays" "[I" (.ref ar)) (Fp : Fld Z h0 a "com/example/invigil/invigil/core/DayPattern" "daysPerCycle" "I" (.int (7 : Int32))) (A : Ary Z h0 ar .int [(.int (0 : Int32)), (.int (0 : Int32)), (.int (0 : Int32)), (.int (1 : Int32)), (.int (1 : Int32)), (.int (1 : Int32)), (.int (2 : Int32)), (.int (2 : Int32)), (.int (2 : Int32)), (.int (3 : Int32)), (.int (3 : Int32)), (.int (3 : Int32)), (.int (4 : Int32)), (.int (4 : Int32)), (.int (4 : Int32)), (.int (5 : Int32))]) :
    Met l Z (⟨"com/example/invigil/invigil/core/DayPattern", "day", "(I)I"⟩ : MethodName) prog_3_method_4_code 2 (some .int) [] ({ frames := 0, cells := 0, slots := 0, locals := 0 } : Room) #[(.ref a), (.int p1)] h0 [] (fun v h => v = some (.int (own_w p1)) ∧ h0 = h) := by
  refine Met.walk pn_1 (Ls := #[.val (.ref a), .val (.int p1)]) (fun m => by first | (simp [entryFrame, mkF, argsToLocals, Value.category, maxLocals]; done) | rfl) ?_
  intro p e s m below meth c B
  refine B.iloadN 1 rfl d1_0 rfl ?_
  refine B.aloadN 2 rfl d1_1 rfl rfl ?_
  refine B.getF 5 rfl d1_2 (wd hw 9 rfl) Fc ?_
  refine B.arrlen 6 rfl d1_5 A (16 : Int32) rfl ?_
  refine B.idiv 7 rfl d1_6 (by decide) ?_
  refine B.aloadN 8 rfl d1_7 rfl rfl ?_
  refine B.getF 11 rfl d1_8 (wd hw 11 rfl) Fp ?_
  refine B.imul 12 rfl d1_11 ?_
  refine B.aloadN 13 rfl d1_12 rfl rfl ?_
  refine B.getF 16 rfl d1_13 (wd hw 9 rfl) Fc ?_
  refine B.iloadN 17 rfl d1_16 rfl ?_
  refine B.aloadN 18 rfl d1_17 rfl rfl ?_
  refine B.getF 21 rfl d1_18 (wd hw 9 rfl) Fc ?_
  refine B.arrlen 22 rfl d1_21 A (16 : Int32) rfl ?_
  refine B.irem 23 rfl d1_22 (by decide) ?_
  obtain ⟨k, hk, ek⟩ := own_mod p1 (16 : Int32) 16 hp (by decide) (by decide) (by decide)
  refine B.topI (Int32.ofNat k) ek ?_
  refine B.iaload 24 rfl d1_23 A (own_nn k (by omega)).1 k (own_nn k (by omega)).2 (.int (own_f k)) (own_wat k hk) ?_
  refine B.iadd 25 rfl d1_24 ?_
  refine B.iconst 26 rfl (1 : Int32) d1_25 rfl ?_
  refine B.iadd 27 rfl d1_26 ?_
  refine B.retI d1_27 (by decide) (by decide) ?_
  exact ⟨by rw [own_fv k hk, ← ek]; rfl, rfl⟩
set_option maxRecDepth 65536 in
set_option maxHeartbeats 4000000 in
theorem rm_dayD (l : Launch) (Z : State) (a0 : Array Value) (hw : ∀ d ∈ tables_1, d.before a0 Z = true) (a ar : Addr) (p1 : Int32) (h0 : Heap) (hp : 0 ≤ p1.toInt) (Fc : Fld Z h0 a "com/example/invigil/invigil/core/DayPattern" "cycleDays" "[I" (.ref ar)) (Fp : Fld Z h0 a "com/example/invigil/invigil/core/DayPattern" "daysPerCycle" "I" (.int (1 : Int32))) (A : Ary Z h0 ar .int [(.int (0 : Int32)), (.int (0 : Int32)), (.int (0 : Int32))]) :
    Met l Z (⟨"com/example/invigil/invigil/core/DayPattern", "day", "(I)I"⟩ : MethodName) prog_3_method_4_code 2 (some .int) [] ({ frames := 0, cells := 0, slots := 0, locals := 0 } : Room) #[(.ref a), (.int p1)] h0 [] (fun v h => v = some (.int (own_d p1)) ∧ h0 = h) := by
  refine Met.walk pn_1 (Ls := #[.val (.ref a), .val (.int p1)]) (fun m => by first | (simp [entryFrame, mkF, argsToLocals, Value.category, maxLocals]; done) | rfl) ?_
  intro p e s m below meth c B
  refine B.iloadN 1 rfl d1_0 rfl ?_
  refine B.aloadN 2 rfl d1_1 rfl rfl ?_
  refine B.getF 5 rfl d1_2 (wd hw 9 rfl) Fc ?_
  refine B.arrlen 6 rfl d1_5 A (3 : Int32) rfl ?_
  refine B.idiv 7 rfl d1_6 (by decide) ?_
  refine B.aloadN 8 rfl d1_7 rfl rfl ?_
  refine B.getF 11 rfl d1_8 (wd hw 11 rfl) Fp ?_
  refine B.imul 12 rfl d1_11 ?_
  refine B.aloadN 13 rfl d1_12 rfl rfl ?_
  refine B.getF 16 rfl d1_13 (wd hw 9 rfl) Fc ?_
  refine B.iloadN 17 rfl d1_16 rfl ?_
  refine B.aloadN 18 rfl d1_17 rfl rfl ?_
  refine B.getF 21 rfl d1_18 (wd hw 9 rfl) Fc ?_
  refine B.arrlen 22 rfl d1_21 A (3 : Int32) rfl ?_
  refine B.irem 23 rfl d1_22 (by decide) ?_
  obtain ⟨k, hk, ek⟩ := own_mod p1 (3 : Int32) 3 hp (by decide) (by decide) (by decide)
  refine B.topI (Int32.ofNat k) ek ?_
  refine B.iaload 24 rfl d1_23 A (own_nn k (by omega)).1 k (own_nn k (by omega)).2 (.int (0 : Int32)) (own_dat k hk) ?_
  refine B.iadd 25 rfl d1_24 ?_
  refine B.iconst 26 rfl (1 : Int32) d1_25 rfl ?_
  refine B.iadd 27 rfl d1_26 ?_
  refine B.retI d1_27 (by decide) (by decide) ?_
  exact ⟨by simp [own_d], rfl⟩
theorem d2_0 : decode method_2_code 0 = .ok (.iload_n 0, 1) := by decide +kernel
theorem d2_1 : decode method_2_code 1 = .ok (.bipush 16, 2) := by decide +kernel
theorem d2_3 : decode method_2_code 3 = .ok (.idiv, 1) := by decide +kernel
theorem d2_4 : decode method_2_code 4 = .ok (.istore_n 1, 1) := by decide +kernel
theorem d2_5 : decode method_2_code 5 = .ok (.iload_n 0, 1) := by decide +kernel
theorem d2_6 : decode method_2_code 6 = .ok (.bipush 16, 2) := by decide +kernel
theorem d2_8 : decode method_2_code 8 = .ok (.irem, 1) := by decide +kernel
theorem d2_9 : decode method_2_code 9 = .ok (.istore_n 2, 1) := by decide +kernel
theorem d2_10 : decode method_2_code 10 = .ok (.iload_n 2, 1) := by decide +kernel
theorem d2_11 : decode method_2_code 11 = .ok (.bipush 15, 2) := by decide +kernel
theorem d2_13 : decode method_2_code 13 = .ok (.if_icmp .ge 10, 3) := by decide +kernel
theorem d2_16 : decode method_2_code 16 = .ok (.iload_n 2, 1) := by decide +kernel
theorem d2_17 : decode method_2_code 17 = .ok (.iconst 3, 1) := by decide +kernel
theorem d2_18 : decode method_2_code 18 = .ok (.idiv, 1) := by decide +kernel
theorem d2_19 : decode method_2_code 19 = .ok (.istore_n 3, 1) := by decide +kernel
theorem d2_20 : decode method_2_code 20 = .ok (.goto 5, 3) := by decide +kernel
theorem d2_23 : decode method_2_code 23 = .ok (.iconst 5, 1) := by decide +kernel
theorem d2_24 : decode method_2_code 24 = .ok (.istore_n 3, 1) := by decide +kernel
theorem d2_25 : decode method_2_code 25 = .ok (.iload_n 1, 1) := by decide +kernel
theorem d2_26 : decode method_2_code 26 = .ok (.bipush 7, 2) := by decide +kernel
theorem d2_28 : decode method_2_code 28 = .ok (.imul, 1) := by decide +kernel
theorem d2_29 : decode method_2_code 29 = .ok (.iload_n 3, 1) := by decide +kernel
theorem d2_30 : decode method_2_code 30 = .ok (.iadd, 1) := by decide +kernel
theorem d2_31 : decode method_2_code 31 = .ok (.iconst 1, 1) := by decide +kernel
theorem d2_32 : decode method_2_code 32 = .ok (.iadd, 1) := by decide +kernel
theorem d2_33 : decode method_2_code 33 = .ok (.ireturn, 1) := by decide +kernel
theorem pn_2 : plainName "com/example/invigil/invigil/core/DayPatternDayPinLaw" = true := by first | (simp [plainName, overriddenIn]; done) | decide +kernel
set_option maxRecDepth 65536 in
set_option maxHeartbeats 4000000 in
theorem rm_ew (l : Launch) (Z : State) (a0 : Array Value) (hw : ∀ d ∈ tables_1, d.before a0 Z = true) (p1 : Int32) (h0 : Heap)  :
    Met l Z (⟨"com/example/invigil/invigil/core/DayPatternDayPinLaw", "expectedWeekly", "(I)I"⟩ : MethodName) method_2_code 4 (some .int) [] ({ frames := 0, cells := 0, slots := 0, locals := 0 } : Room) #[(.int p1)] h0 [] (fun v h => v = some (.int (own_w p1)) ∧ h0 = h) := by
  refine Met.walk pn_2 (Ls := #[.val (.int p1), .unset, .unset, .unset]) (fun m => by first | (simp [entryFrame, mkF, argsToLocals, Value.category, maxLocals]; done) | rfl) ?_
  intro p e s m below meth c B
  refine B.iloadN 1 rfl d2_0 rfl ?_
  refine B.bipush 3 rfl (16 : Int32) d2_1 rfl ?_
  refine B.idiv 4 rfl d2_3 (by decide) ?_
  refine B.istoreN 5 rfl d2_4 #[.val (.int p1), .val (.int (p1 / (16 : Int32))), .unset, .unset] rfl ?_
  refine B.iloadN 6 rfl d2_5 rfl ?_
  refine B.bipush 8 rfl (16 : Int32) d2_6 rfl ?_
  refine B.irem 9 rfl d2_8 (by decide) ?_
  refine B.istoreN 10 rfl d2_9 #[.val (.int p1), .val (.int (p1 / (16 : Int32))), .val (.int (p1 % (16 : Int32))), .unset] rfl ?_
  refine B.iloadN 11 rfl d2_10 rfl ?_
  refine B.bipush 13 rfl (15 : Int32) d2_11 rfl ?_
  refine B.icmp_ge 23 16 rfl (by decide) rfl d2_13 (fun c13 => ?_) (fun c13 => ?_)
  · refine B.iconst 24 rfl (5 : Int32) d2_23 rfl ?_
    refine B.istoreN 25 rfl d2_24 #[.val (.int p1), .val (.int (p1 / (16 : Int32))), .val (.int (p1 % (16 : Int32))), .val (.int (5 : Int32))] rfl ?_
    refine B.iloadN 26 rfl d2_25 rfl ?_
    refine B.bipush 28 rfl (7 : Int32) d2_26 rfl ?_
    refine B.imul 29 rfl d2_28 ?_
    refine B.iloadN 30 rfl d2_29 rfl ?_
    refine B.iadd 31 rfl d2_30 ?_
    refine B.iconst 32 rfl (1 : Int32) d2_31 rfl ?_
    refine B.iadd 33 rfl d2_32 ?_
    refine B.retI d2_33 (by decide) (by decide) ?_
    exact ⟨by simp [own_w, c13], rfl⟩
  · refine B.iloadN 17 rfl d2_16 rfl ?_
    refine B.iconst 18 rfl (3 : Int32) d2_17 rfl ?_
    refine B.idiv 19 rfl d2_18 (by decide) ?_
    refine B.istoreN 20 rfl d2_19 #[.val (.int p1), .val (.int (p1 / (16 : Int32))), .val (.int (p1 % (16 : Int32))), .val (.int ((p1 % (16 : Int32)) / (3 : Int32)))] rfl ?_
    refine B.goto 25 rfl (by decide) d2_20 ?_
    refine B.iloadN 26 rfl d2_25 rfl ?_
    refine B.bipush 28 rfl (7 : Int32) d2_26 rfl ?_
    refine B.imul 29 rfl d2_28 ?_
    refine B.iloadN 30 rfl d2_29 rfl ?_
    refine B.iadd 31 rfl d2_30 ?_
    refine B.iconst 32 rfl (1 : Int32) d2_31 rfl ?_
    refine B.iadd 33 rfl d2_32 ?_
    refine B.retI d2_33 (by decide) (by decide) ?_
    exact ⟨by simp [own_w, c13], rfl⟩
theorem d3_0 : decode method_3_code 0 = .ok (.iload_n 0, 1) := by decide +kernel
theorem d3_1 : decode method_3_code 1 = .ok (.iconst 3, 1) := by decide +kernel
theorem d3_2 : decode method_3_code 2 = .ok (.idiv, 1) := by decide +kernel
theorem d3_3 : decode method_3_code 3 = .ok (.iconst 1, 1) := by decide +kernel
theorem d3_4 : decode method_3_code 4 = .ok (.iadd, 1) := by decide +kernel
theorem d3_5 : decode method_3_code 5 = .ok (.ireturn, 1) := by decide +kernel
theorem pn_3 : plainName "com/example/invigil/invigil/core/DayPatternDayPinLaw" = true := by first | (simp [plainName, overriddenIn]; done) | decide +kernel
set_option maxRecDepth 65536 in
set_option maxHeartbeats 4000000 in
theorem rm_ed (l : Launch) (Z : State) (a0 : Array Value) (hw : ∀ d ∈ tables_1, d.before a0 Z = true) (p1 : Int32) (h0 : Heap)  :
    Met l Z (⟨"com/example/invigil/invigil/core/DayPatternDayPinLaw", "expectedDaily", "(I)I"⟩ : MethodName) method_3_code 1 (some .int) [] ({ frames := 0, cells := 0, slots := 0, locals := 0 } : Room) #[(.int p1)] h0 [] (fun v h => v = some (.int (own_d p1)) ∧ h0 = h) := by
  refine Met.walk pn_3 (Ls := #[.val (.int p1)]) (fun m => by first | (simp [entryFrame, mkF, argsToLocals, Value.category, maxLocals]; done) | rfl) ?_
  intro p e s m below meth c B
  refine B.iloadN 1 rfl d3_0 rfl ?_
  refine B.iconst 2 rfl (3 : Int32) d3_1 rfl ?_
  refine B.idiv 3 rfl d3_2 (by decide) ?_
  refine B.iconst 4 rfl (1 : Int32) d3_3 rfl ?_
  refine B.iadd 5 rfl d3_4 ?_
  refine B.retI d3_5 (by decide) (by decide) ?_
  exact ⟨rfl, rfl⟩
theorem pn_0 : plainName "com/example/invigil/invigil/core/DayPatternDayPinLaw" = true := by first | (simp [plainName, overriddenIn]; done) | decide +kernel
set_option maxRecDepth 65536 in
set_option maxHeartbeats 4000000 in
theorem rm0 (l : Launch) (Z : State) (a0 : Array Value) (hw : ∀ d ∈ tables_1, d.before a0 Z = true) (wds : List Jvm.Cond) (p1 p2 : Int32) (h0 : Heap) (a_WEEKDAYS3_SAT1 r_WEEKDAYS3_SAT1 : Addr) (S_WEEKDAYS3_SAT1 : Sta Z h0 "com/example/invigil/invigil/core/DayPattern" "WEEKDAYS3_SAT1" "Lcom/example/invigil/invigil/core/DayPattern;" (.ref a_WEEKDAYS3_SAT1)) (E_WEEKDAYS3_SAT1 : Exa Z h0 a_WEEKDAYS3_SAT1 "com/example/invigil/invigil/core/DayPattern") (C_WEEKDAYS3_SAT1 : Fld Z h0 a_WEEKDAYS3_SAT1 "com/example/invigil/invigil/core/DayPattern" "cycleDays" "[I" (.ref r_WEEKDAYS3_SAT1)) (F_WEEKDAYS3_SAT1_daysPerCycle : Fld Z h0 a_WEEKDAYS3_SAT1 "com/example/invigil/invigil/core/DayPattern" "daysPerCycle" "I" (.int (7 : Int32))) (A_WEEKDAYS3_SAT1 : Ary Z h0 r_WEEKDAYS3_SAT1 .int [(.int (0 : Int32)), (.int (0 : Int32)), (.int (0 : Int32)), (.int (1 : Int32)), (.int (1 : Int32)), (.int (1 : Int32)), (.int (2 : Int32)), (.int (2 : Int32)), (.int (2 : Int32)), (.int (3 : Int32)), (.int (3 : Int32)), (.int (3 : Int32)), (.int (4 : Int32)), (.int (4 : Int32)), (.int (4 : Int32)), (.int (5 : Int32))]) (a_DAYS3 r_DAYS3 : Addr) (S_DAYS3 : Sta Z h0 "com/example/invigil/invigil/core/DayPattern" "DAYS3" "Lcom/example/invigil/invigil/core/DayPattern;" (.ref a_DAYS3)) (E_DAYS3 : Exa Z h0 a_DAYS3 "com/example/invigil/invigil/core/DayPattern") (C_DAYS3 : Fld Z h0 a_DAYS3 "com/example/invigil/invigil/core/DayPattern" "cycleDays" "[I" (.ref r_DAYS3)) (F_DAYS3_daysPerCycle : Fld Z h0 a_DAYS3 "com/example/invigil/invigil/core/DayPattern" "daysPerCycle" "I" (.int (1 : Int32))) (A_DAYS3 : Ary Z h0 r_DAYS3 .int [(.int (0 : Int32)), (.int (0 : Int32)), (.int (0 : Int32))]) :
    Met l Z x code maxLocals ret wds room_1 #[(.int p1), (.int p2)] h0 [] (fun v _ => v = some (.int 1)) := by
  refine Met.walk pn_0 (Ls := #[.val (.int p1), .val (.int p2), .unset]) (fun m => by first | (simp [entryFrame, mkF, argsToLocals, Value.category, maxLocals]; done) | rfl) ?_
  intro p e s m below meth c B
  refine B.iloadN 1 rfl at_0 rfl ?_
  refine B.ldcI 3 rfl at_1 (wd hw 0 rfl) ?_
  refine B.iand 4 rfl at_3 ?_
  refine B.istoreN 5 rfl at_4 #[.val (.int p1), .val (.int p2), .val (.int (p2 &&& (2147483647 : Int32)))] rfl ?_
  refine B.iloadN 6 rfl at_5 rfl ?_
  refine B.iconst 7 rfl (1 : Int32) at_6 rfl ?_
  refine B.iand 8 rfl at_7 ?_
  refine B.if0_ne 31 11 rfl (by decide) rfl at_8 (fun c8 => ?_) (fun c8 => ?_)
  · refine B.getS 34 rfl at_31 (wd hw 17 rfl) S_DAYS3 ?_
    refine B.iloadN 35 rfl at_34 rfl ?_
    refine B.callV 38 rfl at_35 (wd hw 4 rfl) (wd hw 5 rfl) (wd hw 7 rfl) (wd hw 6 rfl) (wd hw 2 rfl) (wd hw 8 rfl) (by decide) E_DAYS3 [(.int (p2 &&& (2147483647 : Int32)))] [] (rm_dayD l Z a0 hw a_DAYS3 r_DAYS3 (p2 &&& (2147483647 : Int32)) h0 (own_p p2) C_DAYS3 F_DAYS3_daysPerCycle A_DAYS3) rfl rfl pd__I_I rfl rfl 0 rfl (by decide) (by decide) (by decide) (by decide) (fun _ q => nomatch q) ?_
    rintro _ _ - ⟨rfl, rfl⟩
    show B.G h0 0 0 (mkF m 38 #[.val (.int p1), .val (.int p2), .val (.int (p2 &&& (2147483647 : Int32)))] [(.int (own_d (p2 &&& (2147483647 : Int32))))])
    refine B.iloadN 39 rfl at_38 rfl ?_
    refine B.callS 42 rfl at_39 (wd hw 19 rfl) (wd hw 20 rfl) (wd hw 15 rfl) (wd hw 21 rfl) (by decide) [(.int (p2 &&& (2147483647 : Int32)))] [(.int (own_d (p2 &&& (2147483647 : Int32))))] (rm_ed l Z a0 hw (p2 &&& (2147483647 : Int32)) h0) rfl rfl pd__I_I rfl rfl 1 rfl (by decide) (by decide) (by decide) (by decide) (fun _ q => nomatch q) ?_
    rintro _ _ - ⟨rfl, rfl⟩
    show B.G h0 0 0 (mkF m 42 #[.val (.int p1), .val (.int p2), .val (.int (p2 &&& (2147483647 : Int32)))] [(.int (own_d (p2 &&& (2147483647 : Int32)))), (.int (own_d (p2 &&& (2147483647 : Int32))))])
    refine B.icmp_ne 49 45 rfl (by decide) rfl at_42 (fun c42 => ?_) (fun c42 => ?_)
    · exact absurd rfl c42
    · refine B.iconst 46 rfl (1 : Int32) at_45 rfl ?_
      refine B.goto 50 rfl (by decide) at_46 ?_
      refine B.retN (by simp) at_50 (by decide) (by decide) ?_
      exact rfl
  · refine B.getS 14 rfl at_11 (wd hw 1 rfl) S_WEEKDAYS3_SAT1 ?_
    refine B.iloadN 15 rfl at_14 rfl ?_
    refine B.callV 18 rfl at_15 (wd hw 4 rfl) (wd hw 5 rfl) (wd hw 7 rfl) (wd hw 6 rfl) (wd hw 2 rfl) (wd hw 8 rfl) (by decide) E_WEEKDAYS3_SAT1 [(.int (p2 &&& (2147483647 : Int32)))] [] (rm_dayW l Z a0 hw a_WEEKDAYS3_SAT1 r_WEEKDAYS3_SAT1 (p2 &&& (2147483647 : Int32)) h0 (own_p p2) C_WEEKDAYS3_SAT1 F_WEEKDAYS3_SAT1_daysPerCycle A_WEEKDAYS3_SAT1) rfl rfl pd__I_I rfl rfl 0 rfl (by decide) (by decide) (by decide) (by decide) (fun _ q => nomatch q) ?_
    rintro _ _ - ⟨rfl, rfl⟩
    show B.G h0 0 0 (mkF m 18 #[.val (.int p1), .val (.int p2), .val (.int (p2 &&& (2147483647 : Int32)))] [(.int (own_w (p2 &&& (2147483647 : Int32))))])
    refine B.iloadN 19 rfl at_18 rfl ?_
    refine B.callS 22 rfl at_19 (wd hw 13 rfl) (wd hw 14 rfl) (wd hw 15 rfl) (wd hw 16 rfl) (by decide) [(.int (p2 &&& (2147483647 : Int32)))] [(.int (own_w (p2 &&& (2147483647 : Int32))))] (rm_ew l Z a0 hw (p2 &&& (2147483647 : Int32)) h0) rfl rfl pd__I_I rfl rfl 1 rfl (by decide) (by decide) (by decide) (by decide) (fun _ q => nomatch q) ?_
    rintro _ _ - ⟨rfl, rfl⟩
    show B.G h0 0 0 (mkF m 22 #[.val (.int p1), .val (.int p2), .val (.int (p2 &&& (2147483647 : Int32)))] [(.int (own_w (p2 &&& (2147483647 : Int32)))), (.int (own_w (p2 &&& (2147483647 : Int32))))])
    refine B.icmp_ne 29 25 rfl (by decide) rfl at_22 (fun c22 => ?_) (fun c22 => ?_)
    · exact absurd rfl c22
    · refine B.iconst 26 rfl (1 : Int32) at_25 rfl ?_
      refine B.goto 30 rfl (by decide) at_26 ?_
      refine B.retN (by simp) at_30 (by decide) (by decide) ?_
      exact rfl
set_option maxRecDepth 65536 in
set_option maxHeartbeats 4000000 in
theorem comes_1 {Post : Tables → Env → Array Value → State → Outcome → State → Prop} (hpost : ∀ tb e args s v u, (limb_1_1.after args s (.returned v) u = true ∧ limb_1_2.after args s (.returned v) u = true ∧ True) → FrameEnd s (.returned v) u (Jvm.fieldLocs frame_1_writes args s ++ Jvm.arrayLocs frame_1_arrays args s ++ Jvm.staticLocs frame_1_statics s) 0 0 → Post tb e args s (.returned v) u) :
    ArmFor flags0 classFile x code maxLocals ret World_1 tables_1 room_1 Calls_1 rest_1 Pre_1 Post := by
  intro l hfl _ _ p e ha hc hk s m args below hf hA hF happ hP
  obtain ⟨hcalls, hrest, hpre⟩ := hP
  obtain ⟨-, -, -, hnamed, -, -, -, hat⟩ := (Spec.applies_iff hf).mp happ
  obtain ⟨hg, hn⟩ := and_e (Cond.before_iff.mp (show (Jvm.Cond.and given_1 narrow_1).before args s = true from hpre))
  obtain ⟨g0, gg0⟩ := and_e hg
  obtain ⟨k0, gg1⟩ := and_e gg0
  obtain ⟨w0, w1, rfl⟩ : ∃ w0 w1 : Value, args = #[w0, w1] := by
    have hs : args.size = 2 := by simpa [Cond.value, given_1] using g0
    obtain ⟨L⟩ := args
    match L, hs with
    | [w0, w1], _ => exact ⟨w0, w1, rfl⟩
  have hw := fun d (hd : d ∈ tables_1) => atoms_spec (ws := Jvm.Cond.code x code maxLocals ret :: tables_1) hat d (List.mem_cons_of_mem _ hd)
  obtain ⟨i0, ei0⟩ := is_v k0
  obtain rfl : w0 = (.int i0) := Option.some.inj ei0
  obtain ⟨i1, ei1⟩ := is_v gg1
  obtain rfl : w1 = (.int i1) := Option.some.inj ei1
  obtain ⟨n0, n0r⟩ := and_e hn
  obtain ⟨n1, n1r⟩ := and_e n0r
  obtain ⟨n2, n2r⟩ := and_e n1r
  obtain ⟨n3, n3r⟩ := and_e n2r
  obtain ⟨n4, n4r⟩ := and_e n3r
  obtain ⟨n5, n5r⟩ := and_e n4r
  obtain ⟨n6, n6r⟩ := and_e n5r
  obtain ⟨n7, n7r⟩ := and_e n6r
  obtain ⟨n8, n8r⟩ := and_e n7r
  obtain ⟨n9, n9r⟩ := and_e n8r
  obtain ⟨n10, n10r⟩ := and_e n9r
  obtain ⟨n11, n11r⟩ := and_e n10r
  obtain ⟨n12, n12r⟩ := and_e n11r
  obtain ⟨n13, n13r⟩ := and_e n12r
  obtain ⟨n14, n14r⟩ := and_e n13r
  obtain ⟨n15, n15r⟩ := and_e n14r
  obtain ⟨n16, n16r⟩ := and_e n15r
  obtain ⟨n17, n17r⟩ := and_e n16r
  obtain ⟨n18, n18r⟩ := and_e n17r
  obtain ⟨n19, n19r⟩ := and_e n18r
  obtain ⟨n20, n20r⟩ := and_e n19r
  obtain ⟨n21, n21r⟩ := and_e n20r
  obtain ⟨n22, n22r⟩ := and_e n21r
  obtain ⟨n23, n23r⟩ := and_e n22r
  obtain ⟨n24, n24r⟩ := and_e n23r
  obtain ⟨n25, n25r⟩ := and_e n24r
  have n26 := n25r
  obtain ⟨a_WEEKDAYS3_SAT1, v_WEEKDAYS3_SAT1⟩ := exa_v n0
  have E_WEEKDAYS3_SAT1 := Exa.start v_WEEKDAYS3_SAT1 n0
  have S_WEEKDAYS3_SAT1 := Sta.start v_WEEKDAYS3_SAT1 (Or.inr ⟨wd hw 2 rfl, wd hw 3 rfl⟩)
  have F_WEEKDAYS3_SAT1_daysPerCycle := fld_start v_WEEKDAYS3_SAT1 n3
  obtain ⟨a_DAYS3, v_DAYS3⟩ := exa_v n4
  have E_DAYS3 := Exa.start v_DAYS3 n4
  have S_DAYS3 := Sta.start v_DAYS3 (Or.inr ⟨wd hw 2 rfl, wd hw 18 rfl⟩)
  have F_DAYS3_daysPerCycle := fld_start v_DAYS3 n7
  obtain ⟨r_WEEKDAYS3_SAT1, vr_WEEKDAYS3_SAT1⟩ := arr_v n1
  have C_WEEKDAYS3_SAT1 := Fld.start ((fld_at v_WEEKDAYS3_SAT1).symm.trans vr_WEEKDAYS3_SAT1)
  have A_WEEKDAYS3_SAT1 : Ary s s.heap r_WEEKDAYS3_SAT1 .int [(.int (0 : Int32)), (.int (0 : Int32)), (.int (0 : Int32)), (.int (1 : Int32)), (.int (1 : Int32)), (.int (1 : Int32)), (.int (2 : Int32)), (.int (2 : Int32)), (.int (2 : Int32)), (.int (3 : Int32)), (.int (3 : Int32)), (.int (3 : Int32)), (.int (4 : Int32)), (.int (4 : Int32)), (.int (4 : Int32)), (.int (5 : Int32))] := ary_start vr_WEEKDAYS3_SAT1 n1 n2 rfl (by decide) fun i hi => by
    match i, hi with
    | 0, _ => exact ⟨_, rfl, eval_int n11 rfl⟩
    | 1, _ => exact ⟨_, rfl, eval_int n12 rfl⟩
    | 2, _ => exact ⟨_, rfl, eval_int n13 rfl⟩
    | 3, _ => exact ⟨_, rfl, eval_int n14 rfl⟩
    | 4, _ => exact ⟨_, rfl, eval_int n15 rfl⟩
    | 5, _ => exact ⟨_, rfl, eval_int n16 rfl⟩
    | 6, _ => exact ⟨_, rfl, eval_int n17 rfl⟩
    | 7, _ => exact ⟨_, rfl, eval_int n18 rfl⟩
    | 8, _ => exact ⟨_, rfl, eval_int n19 rfl⟩
    | 9, _ => exact ⟨_, rfl, eval_int n20 rfl⟩
    | 10, _ => exact ⟨_, rfl, eval_int n21 rfl⟩
    | 11, _ => exact ⟨_, rfl, eval_int n22 rfl⟩
    | 12, _ => exact ⟨_, rfl, eval_int n23 rfl⟩
    | 13, _ => exact ⟨_, rfl, eval_int n24 rfl⟩
    | 14, _ => exact ⟨_, rfl, eval_int n25 rfl⟩
    | 15, _ => exact ⟨_, rfl, eval_int n26 rfl⟩
    | (q + 16), h => exact absurd h (by simp)
  obtain ⟨r_DAYS3, vr_DAYS3⟩ := arr_v n5
  have C_DAYS3 := Fld.start ((fld_at v_DAYS3).symm.trans vr_DAYS3)
  have A_DAYS3 : Ary s s.heap r_DAYS3 .int [(.int (0 : Int32)), (.int (0 : Int32)), (.int (0 : Int32))] := ary_start vr_DAYS3 n5 n6 rfl (by decide) fun i hi => by
    match i, hi with
    | 0, _ => exact ⟨_, rfl, eval_int n9 rfl⟩
    | 1, _ => exact ⟨_, rfl, eval_int n8 rfl⟩
    | 2, _ => exact ⟨_, rfl, eval_int n10 rfl⟩
    | (q + 3), h => exact absurd h (by simp)
  obtain ⟨n, o, h1, h2, h3, _, L, rfl, ⟨rfl, N, -⟩, hq⟩ := rm0 l s _ hw tables_1 i0 i1 s.heap a_WEEKDAYS3_SAT1 r_WEEKDAYS3_SAT1 S_WEEKDAYS3_SAT1 E_WEEKDAYS3_SAT1 C_WEEKDAYS3_SAT1 F_WEEKDAYS3_SAT1_daysPerCycle A_WEEKDAYS3_SAT1 a_DAYS3 r_DAYS3 S_DAYS3 E_DAYS3 C_DAYS3 F_DAYS3_daysPerCycle A_DAYS3 p e ha hc hk s m _ below hf ((Spec.applies_iff_loose hf).mp happ).1 ⟨rfl, State.Warmed39.refl s, rfl⟩ trivial
  refine ⟨n, _, h1, h2, h3, hpost _ _ _ _ _ _ ⟨Cond.after_iff.mpr rfl, Cond.after_iff.mpr (eq_i res_at (Term.int_eval (1)) rfl), trivial⟩ ⟨hq.1, hq.2.1, (hq.2.2.sift fun y hy => Or.inr ((N y hy).resolve_left (by simp))).mono (by decide) (by decide)⟩⟩
theorem main_1_1 : Claimed_1_1 := comes_1 fun _ _ _ _ _ _ h hF => ⟨h.1, hF⟩
theorem main_1_2 : Claimed_1_2 := comes_1 fun _ _ _ _ _ _ h hF => ⟨h.2.1, hF⟩
end Jvm.Pilot.@@N@@
namespace Jvm.Pilot.@@N@@
open Jvm Jvm.ClassFile Sem Op Lib Jvm.Free Jvm.Stand Jvm.Pilot.@@N@@.Jvm.D
/-! MADE BY PROGRAM (witnessworld.py) out of the Statement's table words and the real class files: 12 classes; the members and pool entries that the words name. The judged class is class 1, her method 3. -/
namespace start1
open Jvm.ClassFile
def u (s : String) : CpInfo := .utf8 (stringToUtf16 s)
/-- a pool by its gaps: so many unusable entries, then the entry; so many at the end -/
def gap : Nat → List CpInfo → List CpInfo
  | 0, r => r
  | n + 1, r => .unusable :: gap n r
def poolList (es : List (Nat × CpInfo)) (last : Nat) : List CpInfo := es.foldr (fun e r => gap e.1 (e.2 :: r)) (gap last [])
def pool (es : List (Nat × CpInfo)) (last : Nat) : Array CpInfo := ⟨poolList es last⟩
def fileOf (pool : Array CpInfo) (this : Nat) (attrs : Array Attribute := #[]) (ms : Array MethodInfo := #[]) (fl : Nat := 33) (sup : Nat := 0) (ifs : Array Nat := #[]) (fds : Array FieldInfo := #[]) : ClassFile where
  minorVersion := 0
  majorVersion := 65
  constantPool := pool
  accessFlags := fl
  thisClass := this
  superClass := sup
  interfaces := ifs
  fields := fds
  methods := ms
  attributes := attrs
def plain (name : String) (sup : Option ClassId) : Class where
  name := name
  kind := .ordinary
  loader := none
  accessFlags := 33
  super := sup
  interfaces := #[]
  cf := none
  fields := #[]
  methods := #[]
  instanceTypes := #[]
  staticTypes := #[]
  resolved := #[]
  callSites := []
  init := .initialized
  statics := none
  mirror := none

def pool0 : Array CpInfo := pool [(5, u "<init>"), (0, u "()V"), (1, .class_ 10), (1, u "java/lang/Object")] 113

def k0m0 : Method := { name := "<init>", desc := "()V", sig := { parameters := [], returnType := none }, accessFlags := 1, code := none }
/-- java/lang/Object -/
def k0 : Class := { plain "java/lang/Object" none with
  accessFlags := 33
  interfaces := #[]
  cf := some (fileOf pool0 8 #[] #[{ accessFlags := 1, nameIndex := 5, descriptorIndex := 6, attributes := #[] }] 33 0 #[] #[])
  fields := #[]
  methods := #[k0m0]
  instanceTypes := #[]
  staticTypes := #[]
  resolved := Array.replicate 124 none
  statics := none }

def pool1 : Array CpInfo := pool [(2, .class_ 4), (1, u "java/lang/Object"), (0, u "<init>"), (0, u "()V"), (0, .integer 2147483647), (0, .fieldref 9 10), (0, .class_ 11), (0, .nameAndType 12 13), (0, u "com/example/invigil/invigil/core/DayPattern"), (0, u "WEEKDAYS3_SAT1"), (0, u "Lcom/example/invigil/invigil/core/DayPattern;"), (0, .methodref 9 15), (0, .nameAndType 16 17), (0, u "day"), (0, u "(I)I"), (0, .methodref 19 20), (0, .class_ 21), (0, .nameAndType 22 17), (0, u "com/example/invigil/invigil/core/DayPatternDayPinLaw"), (0, u "expectedWeekly"), (0, .fieldref 9 24), (0, .nameAndType 25 13), (0, u "DAYS3"), (0, .methodref 19 27), (0, .nameAndType 28 17), (0, u "expectedDaily"), (3, u "law"), (0, u "(II)Z")] 2

def k1m0 : Method := { name := "<init>", desc := "()V", sig := { parameters := [], returnType := none }, accessFlags := 1, code := none }
def k1c1 : Code := { maxStack := 2, maxLocals := 4, code := method_2_code, exceptionTable := #[], attributes := #[] }
def k1m1 : Method := { name := "expectedWeekly", desc := "(I)I", sig := { parameters := [.int], returnType := some .int }, accessFlags := 10, code := some k1c1 }
def k1c2 : Code := { maxStack := 2, maxLocals := 1, code := method_3_code, exceptionTable := #[], attributes := #[] }
def k1m2 : Method := { name := "expectedDaily", desc := "(I)I", sig := { parameters := [.int], returnType := some .int }, accessFlags := 10, code := some k1c2 }
def k1c3 : Code := { maxStack := 2, maxLocals := 3, code := code, exceptionTable := #[], attributes := #[] }
def k1m3 : Method := { name := "law", desc := "(II)Z", sig := { parameters := [.int, .int], returnType := some .boolean }, accessFlags := 9, code := some k1c3 }
/-- com/example/invigil/invigil/core/DayPatternDayPinLaw -/
def k1 : Class := { plain "com/example/invigil/invigil/core/DayPatternDayPinLaw" (some 0) with
  accessFlags := 49
  interfaces := #[]
  cf := some (fileOf pool1 19 #[] #[{ accessFlags := 1, nameIndex := 5, descriptorIndex := 6, attributes := #[] }, { accessFlags := 10, nameIndex := 22, descriptorIndex := 17, attributes := #[] }, { accessFlags := 10, nameIndex := 28, descriptorIndex := 17, attributes := #[] }, { accessFlags := 9, nameIndex := 32, descriptorIndex := 33, attributes := #[] }] 49 2 #[] #[])
  fields := #[]
  methods := #[k1m0, k1m1, k1m2, k1m3]
  instanceTypes := #[]
  staticTypes := #[]
  resolved := Array.replicate 36 none
  statics := none }

def pool2 : Array CpInfo := pool [(1, .class_ 2), (0, u "java/lang/constant/Constable"), (0, .class_ 4), (0, u "java/lang/Object")] 6

/-- java/lang/constant/Constable -/
def k2 : Class := { plain "java/lang/constant/Constable" (some 0) with
  accessFlags := 1537
  interfaces := #[]
  cf := some (fileOf pool2 1 #[] #[] 1537 3 #[] #[])
  fields := #[]
  methods := #[]
  instanceTypes := #[]
  staticTypes := #[]
  resolved := Array.replicate 11 none
  statics := none }

def pool3 : Array CpInfo := pool [(1, .class_ 2), (0, u "java/lang/Comparable"), (0, .class_ 4), (0, u "java/lang/Object")] 7

/-- java/lang/Comparable -/
def k3 : Class := { plain "java/lang/Comparable" (some 0) with
  accessFlags := 1537
  interfaces := #[]
  cf := some (fileOf pool3 1 #[] #[] 1537 3 #[] #[])
  fields := #[]
  methods := #[]
  instanceTypes := #[]
  staticTypes := #[]
  resolved := Array.replicate 12 none
  statics := none }

def pool4 : Array CpInfo := pool [(1, .class_ 2), (0, u "java/io/Serializable"), (0, .class_ 4), (0, u "java/lang/Object")] 2

/-- java/io/Serializable -/
def k4 : Class := { plain "java/io/Serializable" (some 0) with
  accessFlags := 1537
  interfaces := #[]
  cf := some (fileOf pool4 1 #[] #[] 1537 3 #[] #[])
  fields := #[]
  methods := #[]
  instanceTypes := #[]
  staticTypes := #[]
  resolved := Array.replicate 7 none
  statics := none }

def pool5 : Array CpInfo := pool [(2, .class_ 4), (1, u "java/lang/Enum"), (0, u "name"), (0, u "Ljava/lang/String;"), (2, u "ordinal"), (0, u "I"), (1, .class_ 14), (1, u "java/lang/Object"), (4, u "hash"), (86, .class_ 108), (1, u "java/lang/Enum$EnumDesc"), (2, .class_ 112), (0, u "java/lang/constant/Constable"), (0, .class_ 114), (0, u "java/lang/Comparable"), (0, .class_ 116), (0, u "java/io/Serializable")] 87

/-- java/lang/Enum -/
def k5 : Class := { plain "java/lang/Enum" (some 0) with
  accessFlags := 1057
  interfaces := #[2, 3, 4]
  cf := some (fileOf pool5 2 #[.nestMembers #[106]] #[] 1057 12 #[111, 113, 115] #[{ accessFlags := 18, nameIndex := 5, descriptorIndex := 6, attributes := #[] }, { accessFlags := 18, nameIndex := 9, descriptorIndex := 10, attributes := #[] }, { accessFlags := 2, nameIndex := 19, descriptorIndex := 10, attributes := #[] }])
  fields := #[{ name := "name", type := (.object "java/lang/String"), accessFlags := 18, slot := 0, constantValue := 0 }, { name := "ordinal", type := .int, accessFlags := 18, slot := 1, constantValue := 0 }, { name := "hash", type := .int, accessFlags := 2, slot := 2, constantValue := 0 }]
  methods := #[]
  instanceTypes := #[(.object "java/lang/String"), .int, .int]
  staticTypes := #[]
  resolved := Array.replicate 204 none
  statics := none }

def pool6 : Array CpInfo := pool [(1, .class_ 2), (0, u "com/example/invigil/invigil/core/DayPattern"), (2, u "WEEKDAYS3_SAT1"), (0, u "Lcom/example/invigil/invigil/core/DayPattern;"), (2, u "DAYS3"), (2, u "$VALUES"), (0, u "[Lcom/example/invigil/invigil/core/DayPattern;"), (6, .class_ 22), (1, u "java/lang/Enum"), (8, u "name"), (0, u "Ljava/lang/String;"), (0, .fieldref 1 34), (0, .nameAndType 35 36), (0, u "daysPerCycle"), (0, u "I"), (0, .fieldref 1 38), (0, .nameAndType 39 40), (0, u "cycleDays"), (0, u "[I"), (2, u "cycleSlots"), (5, u "(I)I"), (2, u "day")] 35

def k6c0 : Code := { maxStack := 4, maxLocals := 2, code := prog_3_method_4_code, exceptionTable := #[], attributes := #[] }
def k6m0 : Method := { name := "day", desc := "(I)I", sig := { parameters := [.int], returnType := some .int }, accessFlags := 1, code := some k6c0 }
/-- com/example/invigil/invigil/core/DayPattern -/
def k6 : Class := { plain "com/example/invigil/invigil/core/DayPattern" (some 5) with
  accessFlags := 16433
  interfaces := #[]
  cf := some (fileOf pool6 1 #[] #[{ accessFlags := 1, nameIndex := 52, descriptorIndex := 49, attributes := #[] }] 16433 20 #[] #[{ accessFlags := 16409, nameIndex := 5, descriptorIndex := 6, attributes := #[] }, { accessFlags := 16409, nameIndex := 9, descriptorIndex := 6, attributes := #[] }, { accessFlags := 18, nameIndex := 31, descriptorIndex := 32, attributes := #[] }, { accessFlags := 18, nameIndex := 35, descriptorIndex := 36, attributes := #[] }, { accessFlags := 18, nameIndex := 39, descriptorIndex := 40, attributes := #[] }, { accessFlags := 18, nameIndex := 43, descriptorIndex := 40, attributes := #[] }, { accessFlags := 4122, nameIndex := 12, descriptorIndex := 13, attributes := #[] }])
  fields := #[{ name := "WEEKDAYS3_SAT1", type := (.object "com/example/invigil/invigil/core/DayPattern"), accessFlags := 16409, slot := 0, constantValue := 0 }, { name := "DAYS3", type := (.object "com/example/invigil/invigil/core/DayPattern"), accessFlags := 16409, slot := 1, constantValue := 0 }, { name := "name", type := (.object "java/lang/String"), accessFlags := 18, slot := 3, constantValue := 0 }, { name := "daysPerCycle", type := .int, accessFlags := 18, slot := 4, constantValue := 0 }, { name := "cycleDays", type := (.array .int), accessFlags := 18, slot := 5, constantValue := 0 }, { name := "cycleSlots", type := (.array .int), accessFlags := 18, slot := 6, constantValue := 0 }, { name := "$VALUES", type := (.array (.object "com/example/invigil/invigil/core/DayPattern")), accessFlags := 4122, slot := 2, constantValue := 0 }]
  methods := #[k6m0]
  instanceTypes := #[(.object "java/lang/String"), .int, .int, (.object "java/lang/String"), .int, (.array .int), (.array .int)]
  staticTypes := #[(.object "com/example/invigil/invigil/core/DayPattern"), (.object "com/example/invigil/invigil/core/DayPattern"), (.array (.object "com/example/invigil/invigil/core/DayPattern"))]
  resolved := Array.replicate 88 none
  statics := some 0 }

def pool7 : Array CpInfo := pool [(1, u "java/lang/Cloneable"), (0, .class_ 1), (0, u "java/lang/Object"), (0, .class_ 3)] 3

/-- java/lang/Cloneable -/
def k7 : Class := { plain "java/lang/Cloneable" (some 0) with
  accessFlags := 1537
  interfaces := #[]
  cf := some (fileOf pool7 2 #[] #[] 1537 4 #[] #[])
  fields := #[]
  methods := #[]
  instanceTypes := #[]
  staticTypes := #[]
  resolved := Array.replicate 8 none
  statics := none }

/-- the primitive byte -/
def k8 : Class := { plain "byte" none with kind := .primitive 'B', accessFlags := 0x411 }
/-- [B -/
def k9 : Class := { plain "[B" (some 0) with kind := .array 8 .byte, interfaces := #[7, 4], accessFlags := 1041 }

/-- the primitive int -/
def k10 : Class := { plain "int" none with kind := .primitive 'I', accessFlags := 0x411 }
/-- [I -/
def k11 : Class := { plain "[I" (some 0) with kind := .array 10 .int, interfaces := #[7, 4], accessFlags := 1041 }

def heap : Heap := #[{ cls := 6, slots := #[.ref 3, .ref 4, .null], vm := .statics 6 },
  { cls := 11, slots := #[.int 0, .int 0, .int 0, .int 1, .int 1, .int 1, .int 2, .int 2, .int 2, .int 3, .int 3, .int 3, .int 4, .int 4, .int 4, .int 5], vm := .none },
  { cls := 11, slots := #[.int 0, .int 0, .int 0], vm := .none },
  { cls := 6, slots := #[.null, .int 0, .int 0, .null, .int 7, .ref 1, .null], vm := .none },
  { cls := 6, slots := #[.null, .int 1, .int 0, .null, .int 1, .ref 2, .null], vm := .none }]
def classes : Array Class := #[k0, k1, k2, k3, k4, k5, k6, k7, k8, k9, k10, k11]
def interned : List (Array UInt16 × Addr) := []
def slotsUsed : Nat := 36
def theMethod : MethodId := ⟨1, 3⟩
def args0 : Array Value := #[.int 0, .int 37]
def aboutOver (below : List Frame) : State where
  vm := { classes := classes, interned := interned.toArray }
  heap := heap
  slotsUsed := slotsUsed
  threads := #[{ frames := .invoking theMethod args0 :: below }]
def below0 : List Frame := [.native { method := ⟨0, 0⟩, args := #[] }]
def about1 : State := aboutOver below0
def p0 : Program := .bare "" "" ""
def e0 : Env := launch0.env 0 0 0
theorem w_frames : about1.frames = Frame.invoking theMethod args0 :: below0 := rfl
set_option maxRecDepth 65536 in
theorem w_args : argsFit about1.vm theMethod args0 = true := by decide +kernel
set_option maxRecDepth 65536 in
theorem w_heap : heapFits about1 = true := by decide +kernel
set_option maxRecDepth 65536 in
theorem w_runnable : about1.curStatus? = some .runnable := by decide +kernel
set_option maxRecDepth 65536 in
theorem w_alone : about1.alone = true := by decide +kernel
set_option maxRecDepth 65536 in
theorem w_named : about1.methodNamed? x = some theMethod := by decide +kernel
set_option maxRecDepth 65536 in
theorem w_hears : about1.hears theMethod below0 = true := by decide +kernel
set_option maxRecDepth 65536 in
theorem w_ripe : about1.ripe theMethod args0 below0 = true := by decide +kernel
theorem w_running : about1.status = .running := rfl
set_option maxRecDepth 65536 in
theorem w_room : about1.hasRoom e0.platform room_1 = true :=
  launch0.hasRoom_least _ room_1 (by decide +kernel) (by decide +kernel) (by decide +kernel) (by decide +kernel) (by decide +kernel) (by decide +kernel)
theorem allAtoms_all (ts : List Jvm.Cond) (a : Array Jvm.Value) (st : Jvm.State) : (allAtoms ts).before a st = ts.all (fun c => c.before a st) := by
  induction ts with
  | nil => rfl
  | cons c t ih =>
    show (Jvm.Cond.and c (allAtoms t)).before a st = _
    rw [Jvm.Cond.before_and, ih, List.all_cons]
def words1 : List Jvm.Cond := Jvm.Cond.code x code maxLocals ret :: tables_1
/-- a 'code' word, met by the world's own term for the bytes: nothing is compared byte by byte -/
theorem code_word {y : MethodName} {bytes : ByteArray} {mx : Nat} {rt : Option FieldType} {a : Array Value} {s : State} {m : MethodId} {meth : Method} {c : Code} (h1 : s.methodNamed? y = some m) (h2 : s.vm.method? m = some meth) (h3 : meth.code = some c) (h4 : c.code = bytes)
    (h5 : (c.maxLocals == mx && c.exceptionTable.isEmpty && decide (c.maxStack ≤ mostOperands) && decide (meth.sig.returnType = rt) && !meth.locks && decide (parseMethodDescriptor y.desc = some meth.sig)) = true) : (Jvm.Cond.code y bytes mx rt).before a s = true := by
  simp only [Bool.and_eq_true, beq_iff_eq, Bool.not_eq_true', decide_eq_true_eq] at h5
  obtain ⟨⟨⟨⟨⟨g1, g2⟩, g3⟩, g4⟩, g5⟩, g6⟩ := h5
  simp [Cond.before, Cond.holds, Cond.value, h1, h2, h3, h4, g1, g2, g3, g4, g5, g6]
def isCode : Jvm.Cond → Bool
  | .code _ _ _ _ => true
  | _ => false
theorem all_split {L : List Jvm.Cond} {P : Jvm.Cond → Bool} (h1 : L.all (fun c => isCode c || P c) = true) (h2 : ∀ c ∈ L.filter isCode, P c = true) : L.all P = true := by
  refine List.all_eq_true.mpr fun c hc => ?_
  have h := List.all_eq_true.mp h1 c hc
  rcases Bool.eq_false_or_eq_true (isCode c) with hi | hi
  · exact h2 c (List.mem_filter.mpr ⟨hc, hi⟩)
  · simpa [hi] using h
set_option maxRecDepth 65536 in
theorem w_c0 : (Jvm.Cond.code x code maxLocals ret).before args0 about1 = true := code_word (m := ⟨1, 3⟩) (meth := k1m3) (c := k1c3) (by decide +kernel) rfl rfl rfl (by decide +kernel)
set_option maxRecDepth 65536 in
theorem w_c1 : (Jvm.Cond.code ({ cls := "com/example/invigil/invigil/core/DayPattern", name := "day", desc := "(I)I" } : Jvm.MethodName) prog_3_method_4_code (2 : Nat) (Option.some Jvm.ClassFile.FieldType.int)).before args0 about1 = true := code_word (m := ⟨6, 0⟩) (meth := k6m0) (c := k6c0) (by decide +kernel) rfl rfl rfl (by decide +kernel)
set_option maxRecDepth 65536 in
theorem w_c2 : (Jvm.Cond.code ({ cls := "com/example/invigil/invigil/core/DayPatternDayPinLaw", name := "expectedWeekly", desc := "(I)I" } : Jvm.MethodName) method_2_code (4 : Nat) (Option.some Jvm.ClassFile.FieldType.int)).before args0 about1 = true := code_word (m := ⟨1, 1⟩) (meth := k1m1) (c := k1c1) (by decide +kernel) rfl rfl rfl (by decide +kernel)
set_option maxRecDepth 65536 in
theorem w_c3 : (Jvm.Cond.code ({ cls := "com/example/invigil/invigil/core/DayPatternDayPinLaw", name := "expectedDaily", desc := "(I)I" } : Jvm.MethodName) method_3_code (1 : Nat) (Option.some Jvm.ClassFile.FieldType.int)).before args0 about1 = true := code_word (m := ⟨1, 2⟩) (meth := k1m2) (c := k1c2) (by decide +kernel) rfl rfl rfl (by decide +kernel)
def codes1 : List Jvm.Cond := [Jvm.Cond.code x code maxLocals ret, Jvm.Cond.code ({ cls := "com/example/invigil/invigil/core/DayPattern", name := "day", desc := "(I)I" } : Jvm.MethodName) prog_3_method_4_code (2 : Nat) (Option.some Jvm.ClassFile.FieldType.int), Jvm.Cond.code ({ cls := "com/example/invigil/invigil/core/DayPatternDayPinLaw", name := "expectedWeekly", desc := "(I)I" } : Jvm.MethodName) method_2_code (4 : Nat) (Option.some Jvm.ClassFile.FieldType.int), Jvm.Cond.code ({ cls := "com/example/invigil/invigil/core/DayPatternDayPinLaw", name := "expectedDaily", desc := "(I)I" } : Jvm.MethodName) method_3_code (1 : Nat) (Option.some Jvm.ClassFile.FieldType.int)]
set_option maxRecDepth 65536 in
theorem codes_eq : words1.filter isCode = codes1 := rfl
theorem w_codes : ∀ c ∈ words1.filter isCode, c.before args0 about1 = true := by
  rw [codes_eq]
  intro c hc
  simp only [codes1, List.mem_cons, List.not_mem_nil, or_false] at hc
  rcases hc with rfl | rfl | rfl | rfl
  · exact w_c0
  · exact w_c1
  · exact w_c2
  · exact w_c3
set_option maxRecDepth 65536 in
theorem w_t1 : words1.all (fun c => isCode c || c.before args0 about1) = true := by decide +kernel
theorem w_tables : (allAtoms (Jvm.Cond.code x code maxLocals ret :: tables_1)).before args0 about1 = true := by
  rw [allAtoms_all]
  show words1.all (fun c => c.before args0 about1) = true
  refine all_split ?_ w_codes
  rw [w_t1]
set_option maxRecDepth 65536 in
theorem w_case : (Jvm.Cond.and given_1 narrow_1).before args0 about1 = true := by decide +kernel
theorem w_applies : (headSpec (Jvm.Cond.code x code maxLocals ret :: tables_1) room_1).applies x e0.platform about1 = true :=
  (Spec.applies_iff w_frames).mpr ⟨w_running, w_runnable, w_alone, w_named, w_hears, w_ripe, w_room, w_tables⟩
theorem atStart : AtStart classFile x code maxLocals ret World_1 tables_1 room_1 Calls_1 rest_1 Pre_1 launch0 p0 e0 about1 theMethod args0 below0 :=
  ⟨lists_1, trivial, launch0.admits_env _ _ _, launch0.least_env, fairChoices_fair.cas, fairChoices_fair.clock, w_frames, w_args, w_heap, w_applies, trivial, trivial, w_case⟩
end start1
theorem witness_1 : WitnessClaimed_1 := ⟨start1.p0, start1.e0, start1.about1, start1.theMethod, start1.args0, start1.below0, start1.atStart⟩
end Jvm.Pilot.@@N@@
