import JvmDerived
import JvmDerived.Pilot.@@N@@Statement
import JvmDerived.Pilot.@@N@@Code
set_option linter.unusedVariables false
set_option linter.unusedSimpArgs false
namespace Jvm.Own
open Jvm Jvm.ClassFile Sem Op Lib Jvm.Free Jvm.Stand Jvm.LawKit Jvm.RoadKit
/-! THE WALKER's LAYER: 'B.G h cl sl g': from every place where the walk stands over the heap h with the frame g (cl cells, sl slots made), the method returns as its contract says. One law a step, backwards. -/
/-- written places lie in cells of ws or in new cells -/
def Frw (ws : List Addr) (k : Nat) (L : List Loc) : Prop := ∀ y ∈ L, y.base ∈ ws ∨ k ≤ y.base
/-- what a contract says at the end -/
def Qw (C : Option Value → Heap → Prop) (ws : List Addr) (h0 : Heap) (v : Option Value) (h : Heap) (L : List Loc) : Prop := C v h ∧ Frw ws h0.size L ∧ Keep h0 h ws
/-- a contract: called with the arguments as over the heap h0, it returns, as C says, writing in ws or in new cells alone -/
def Met (l : Launch) (Z : State) (y : MethodName) (bytes : ByteArray) (maxL : Nat) (ret : Option FieldType) (wds : List Jvm.Cond) (rm : Room) (as : Array Value) (h0 : Heap) (ws : List Addr) (C : Option Value → Heap → Prop) : Prop :=
  MetFree l y (head1 (Jvm.Cond.code y bytes maxL ret :: wds) rm) (fun a U => a = as ∧ Z.Warmed39 U.vm ∧ U.heap = h0) (fun _ _ _ _ _ => True) (fun _ U o U' => ∃ v L, o = .returned v ∧ Qw C ws h0 v U'.heap L ∧ FrameEnd U o U' L rm.cells rm.slots)
/-- what stands still through a body's walk -/
def Base (p : Program) (l : Launch) (e : Env) (R : Room) (s : State) (m : MethodId) (args : Array Value) (below : List Frame) (meth : Method) (c : Code) (Z : State) (y : MethodName) (bytes : ByteArray) (maxL : Nat) (ret : Option FieldType) (h0 : Heap) (ws : List Addr) (C : Option Value → Heap → Prop) : Prop :=
  p.tables.exec = Jvm.exec ∧ c.code = bytes ∧ c.maxLocals = maxL ∧ Z.Warmed39 s.vm ∧ s.vm.findClass y.cls = some m.cls ∧ meth.sig.returnType = ret ∧ meth.locks = false ∧ meth.name = y.name ∧ s.heap = h0
section Walk
variable {p : Program} {l : Launch} {e : Env} {R : Room} {s : State} {m : MethodId} {args : Array Value} {below : List Frame} {meth : Method} {c : Code} {Z : State} {a0 : Array Value} {y : MethodName} {bytes : ByteArray} {maxL : Nat} {ret : Option FieldType} {h0 : Heap} {ws : List Addr} {C : Option Value → Heap → Prop}
/-- from here the method returns as its contract says -/
def Base.G (B : Base p l e R s m args below meth c Z y bytes maxL ret h0 ws C) (h : Heap) (cl sl : Nat) (g : JFrame) : Prop :=
  ∀ (T : State) (locs : List Loc), Stand p l e R s m args below meth c T locs cl sl → Frw ws h0.size locs → T.heap = h → ∃ (t : State) (o : Outcome), Steps p.tables e below (T.setTop g) t ∧ t.status = .running ∧ Ended t below o ∧ ∃ v L, o = .returned v ∧ Qw C ws h0 v t.heap L ∧ FrameEnd s o t L R.cells R.slots
variable {h : Heap} {cl sl : Nat} {g g' : JFrame} {pc : Nat} {Ls : Array Slot} {st : List Value}
theorem Base.via (B : Base p l e R s m args below meth c Z y bytes maxL ret h0 ws C) (st : ∀ (T t : State), At T m c below → Steps p.tables e below (T.setTop g') t → Steps p.tables e below (T.setTop g) t) (k : B.G h cl sl g') : B.G h cl sl g := fun T locs X N eT => by
  obtain ⟨t, o, q, r⟩ := k T locs X N eT
  exact ⟨t, o, st T t X.here q, r⟩
theorem Base.viaX (B : Base p l e R s m args below meth c Z y bytes maxL ret h0 ws C) (st : ∀ (T t : State) (locs : List Loc), Stand p l e R s m args below meth c T locs cl sl → T.heap = h → Steps p.tables e below (T.setTop g') t → Steps p.tables e below (T.setTop g) t) (k : B.G h cl sl g') : B.G h cl sl g := fun T locs X N eT => by
  obtain ⟨t, o, q, r⟩ := k T locs X N eT
  exact ⟨t, o, st T t locs X eT q, r⟩
theorem Frw.nil (ws : List Addr) (k : Nat) : Frw ws k [] := fun _ q => nomatch q
theorem Frw.app {k : Nat} {L L' : List Loc} (N : Frw ws k L) (N' : Frw ws k L') : Frw ws k (L ++ L') := fun y q => (List.mem_append.mp q).elim (N y) (N' y)
theorem Frw.one {k : Nat} {L : List Loc} {a : Addr} {i : Nat} (N : Frw ws k L) (q : a ∈ ws ∨ k ≤ a) : Frw ws k (L ++ [⟨a, i⟩]) := N.app fun y hy => by cases List.mem_singleton.mp hy; exact q
theorem keep_of {T : State} {locs : List Loc} (X : Stand p l e R s m args below meth c T locs cl sl) (N : Frw ws s.heap.size locs) : Keep s.heap T.heap ws := by
  obtain ⟨-, h1, -, -, -, h2⟩ := X.same
  refine ⟨h1, fun x cc hc hn => ?_, fun x cc hc => ?_⟩
  · obtain ⟨c', e1, e2, e3, e4⟩ := h2 x cc hc
    have hlt := (Array.getElem?_eq_some_iff.mp hc).1
    have q : c'.slots = cc.slots := Array.ext_getElem? fun i => e4 i fun hm => by
      rcases N _ hm with z | z
      · exact hn z
      · exact absurd hlt (Nat.not_lt.mpr z)
    have e1' : T.heap[x]? = some c' := e1
    rw [e1', e2, q]
  · obtain ⟨c', e1, e2, e3, -⟩ := h2 x cc hc
    exact ⟨c', e1, by rw [e2], by rw [e2], e3⟩
theorem Met.walk (hpn : plainName y.cls = true) {as : Array Value} {rm : Room} {wds : List Jvm.Cond} (hef : ∀ m, entryFrame m as maxL = mkF m 0 Ls [])
    (body : ∀ (p : Program) (e : Env) (s : State) (m : MethodId) (below : List Frame) (meth : Method) (c : Code) (B : Base p l e rm s m as below meth c Z y bytes maxL ret h0 ws C), B.G h0 0 0 (mkF m 0 Ls [])) : Met l Z y bytes maxL ret wds rm as h0 ws C := by
  refine MetFree.of_bodySF (plainFor_of_name hpn) hisR ?_
  intro p e s m args below meth c s₁ Bd hml0 hP hK
  obtain ⟨rfl, hZ, hh⟩ := hP
  have X0 : Stand p l e rm s m args below meth c s₁ [] 0 0 := Stand.of_body Bd
  have e0 : s₁.heap = h0 := by rw [← hh, Bd.state]; rfl
  obtain ⟨t, o, q, r⟩ := body p e s m below meth c ⟨Bd.exec, Bd.bytes, hml0, hZ, findClass_of_methodNamed Bd.named, Bd.returns, Bd.notSynchronized, (name_of_methodNamed Bd.named Bd.method).1, hh⟩ s₁ [] X0 (Frw.nil _ _) e0
  exact ⟨t, o, castTop (hef m) q, r⟩
theorem Met.mono {as : Array Value} {rm : Room} {wds : List Jvm.Cond} {C' : Option Value → Heap → Prop} (M : Met l Z y bytes maxL ret wds rm as h0 ws C) (q : ∀ v h, C v h → C' v h) : Met l Z y bytes maxL ret wds rm as h0 ws C' := by
  intro p e ha hc hk s m args below hf happ hP hK
  obtain ⟨n, o, q1, q2, q3, v, L, q4, ⟨r1, r2⟩, q5⟩ := M p e ha hc hk s m args below hf happ hP hK
  exact ⟨n, o, q1, q2, q3, v, L, q4, ⟨q _ _ r1, r2⟩, q5⟩
/-! 1. steps that touch no heap -/
theorem Base.aloadN (B : Base p l e R s m args below meth c Z y bytes maxL ret h0 ws C) (pc' : Nat) (hp : pc' = pc + 1) {i : Fin 4} (hd : decode bytes pc = .ok (.aload_n i, 1)) {v : Value} (hl : Ls[i.val]? = some (.val v)) (hv : v.isRef = true) (k : B.G h cl sl (mkF m pc' Ls (v :: st))) : B.G h cl sl (mkF m pc Ls st) := by
  subst hp; exact B.via (fun T t X r => XS.aloadN X B.1 rfl (hb B.2.1 hd) hl hv r) k
theorem Base.aload (B : Base p l e R s m args below meth c Z y bytes maxL ret h0 ws C) (pc' : Nat) (hp : pc' = pc + 2) {i : Nat} (hd : decode bytes pc = .ok (.aload i, 2)) {v : Value} (hl : Ls[i]? = some (.val v)) (hv : v.isRef = true) (k : B.G h cl sl (mkF m pc' Ls (v :: st))) : B.G h cl sl (mkF m pc Ls st) := by
  subst hp; exact B.via (fun T t X r => XS.aload X B.1 rfl (hb B.2.1 hd) hl hv r) k
theorem Base.iloadN (B : Base p l e R s m args below meth c Z y bytes maxL ret h0 ws C) (pc' : Nat) (hp : pc' = pc + 1) {i : Fin 4} (hd : decode bytes pc = .ok (.iload_n i, 1)) {v : Int32} (hl : Ls[i.val]? = some (.val (.int v))) (k : B.G h cl sl (mkF m pc' Ls (.int v :: st))) : B.G h cl sl (mkF m pc Ls st) := by
  subst hp; exact B.via (fun T t X r => XS.iloadN X B.1 rfl (hb B.2.1 hd) hl r) k
theorem Base.iload (B : Base p l e R s m args below meth c Z y bytes maxL ret h0 ws C) (pc' : Nat) (hp : pc' = pc + 2) {i : Nat} (hd : decode bytes pc = .ok (.iload i, 2)) {v : Int32} (hl : Ls[i]? = some (.val (.int v))) (k : B.G h cl sl (mkF m pc' Ls (.int v :: st))) : B.G h cl sl (mkF m pc Ls st) := by
  subst hp; exact B.via (fun T t X r => XS.iload X B.1 rfl (hb B.2.1 hd) hl r) k
theorem Base.lloadN (B : Base p l e R s m args below meth c Z y bytes maxL ret h0 ws C) (pc' : Nat) (hp : pc' = pc + 1) {i : Fin 4} (hd : decode bytes pc = .ok (.lload_n i, 1)) {v : Int64} (hl : Ls[i.val]? = some (.val (.long v))) (k : B.G h cl sl (mkF m pc' Ls (.long v :: st))) : B.G h cl sl (mkF m pc Ls st) := by
  subst hp; exact B.via (fun T t X r => XT.lloadN X B.1 rfl (hb B.2.1 hd) hl r) k
theorem Base.lload (B : Base p l e R s m args below meth c Z y bytes maxL ret h0 ws C) (pc' : Nat) (hp : pc' = pc + 2) {i : Nat} (hd : decode bytes pc = .ok (.lload i, 2)) {v : Int64} (hl : Ls[i]? = some (.val (.long v))) (k : B.G h cl sl (mkF m pc' Ls (.long v :: st))) : B.G h cl sl (mkF m pc Ls st) := by
  subst hp; exact B.via (fun T t X r => XT.lload X B.1 rfl (hb B.2.1 hd) hl r) k
theorem Base.istoreN (B : Base p l e R s m args below meth c Z y bytes maxL ret h0 ws C) (pc' : Nat) (hp : pc' = pc + 1) {i : Fin 4} {x : Int32} (hd : decode bytes pc = .ok (.istore_n i, 1)) (Ls' : Array Slot) (hl : storeLocals Ls i.val (.int x) = some Ls') (k : B.G h cl sl (mkF m pc' Ls' st)) : B.G h cl sl (mkF m pc Ls (.int x :: st)) := by
  subst hp; exact B.via (fun T t X r => XS.istoreN X B.1 rfl (hb B.2.1 hd) rfl hl r) k
theorem Base.istore (B : Base p l e R s m args below meth c Z y bytes maxL ret h0 ws C) (pc' : Nat) (hp : pc' = pc + 2) {i : Nat} {x : Int32} (hd : decode bytes pc = .ok (.istore i, 2)) (Ls' : Array Slot) (hl : storeLocals Ls i (.int x) = some Ls') (k : B.G h cl sl (mkF m pc' Ls' st)) : B.G h cl sl (mkF m pc Ls (.int x :: st)) := by
  subst hp; exact B.via (fun T t X r => XS.istore X B.1 rfl (hb B.2.1 hd) rfl hl r) k
theorem Base.lstoreN (B : Base p l e R s m args below meth c Z y bytes maxL ret h0 ws C) (pc' : Nat) (hp : pc' = pc + 1) {i : Fin 4} {x : Int64} (hd : decode bytes pc = .ok (.lstore_n i, 1)) (Ls' : Array Slot) (hl : storeLocals Ls i.val (.long x) = some Ls') (k : B.G h cl sl (mkF m pc' Ls' st)) : B.G h cl sl (mkF m pc Ls (.long x :: st)) := by
  subst hp; exact B.via (fun T t X r => XT.lstoreN X B.1 rfl (hb B.2.1 hd) rfl hl r) k
theorem Base.lstore (B : Base p l e R s m args below meth c Z y bytes maxL ret h0 ws C) (pc' : Nat) (hp : pc' = pc + 2) {i : Nat} {x : Int64} (hd : decode bytes pc = .ok (.lstore i, 2)) (Ls' : Array Slot) (hl : storeLocals Ls i (.long x) = some Ls') (k : B.G h cl sl (mkF m pc' Ls' st)) : B.G h cl sl (mkF m pc Ls (.long x :: st)) := by
  subst hp; exact B.via (fun T t X r => XT.lstore X B.1 rfl (hb B.2.1 hd) rfl hl r) k
theorem Base.astoreN (B : Base p l e R s m args below meth c Z y bytes maxL ret h0 ws C) (pc' : Nat) (hp : pc' = pc + 1) {i : Fin 4} {x : Value} (hd : decode bytes pc = .ok (.astore_n i, 1)) (hv : x.isRef = true) (Ls' : Array Slot) (hl : storeLocals Ls i.val x = some Ls') (k : B.G h cl sl (mkF m pc' Ls' st)) : B.G h cl sl (mkF m pc Ls (x :: st)) := by
  subst hp; exact B.via (fun T t X r => XS.astoreN X B.1 rfl (hb B.2.1 hd) rfl hv hl r) k
theorem Base.astore (B : Base p l e R s m args below meth c Z y bytes maxL ret h0 ws C) (pc' : Nat) (hp : pc' = pc + 2) {i : Nat} {x : Value} (hd : decode bytes pc = .ok (.astore i, 2)) (hv : x.isRef = true) (Ls' : Array Slot) (hl : storeLocals Ls i x = some Ls') (k : B.G h cl sl (mkF m pc' Ls' st)) : B.G h cl sl (mkF m pc Ls (x :: st)) := by
  subst hp; exact B.via (fun T t X r => XS.astore X B.1 rfl (hb B.2.1 hd) rfl hv hl r) k
theorem Base.iinc (B : Base p l e R s m args below meth c Z y bytes maxL ret h0 ws C) (pc' : Nat) (hp : pc' = pc + 3) {i : Nat} {cst : Int} (v : Int32) {x : Int32} (hd : decode bytes pc = .ok (.iinc i cst, 3)) (hv : Int32.ofInt cst = v) (hl : Ls[i]? = some (.val (.int x))) (Ls' : Array Slot) (hl' : storeLocals Ls i (.int (x + v)) = some Ls') (k : B.G h cl sl (mkF m pc' Ls' st)) : B.G h cl sl (mkF m pc Ls st) := by
  subst hp hv; exact B.via (fun T t X r => XS.iinc X B.1 rfl (hb B.2.1 hd) hl hl' r) k
theorem Base.iconst (B : Base p l e R s m args below meth c Z y bytes maxL ret h0 ws C) (pc' : Nat) (hp : pc' = pc + 1) {i : Int} (v : Int32) (hd : decode bytes pc = .ok (.iconst i, 1)) (hv : Int32.ofInt i = v) (k : B.G h cl sl (mkF m pc' Ls (.int v :: st))) : B.G h cl sl (mkF m pc Ls st) := by
  subst hp hv; exact B.via (fun T t X r => XS.iconst X B.1 rfl (hb B.2.1 hd) r) k
theorem Base.bipush (B : Base p l e R s m args below meth c Z y bytes maxL ret h0 ws C) (pc' : Nat) (hp : pc' = pc + 2) {i : Int} (v : Int32) (hd : decode bytes pc = .ok (.bipush i, 2)) (hv : (Int8.ofInt i).toInt32 = v) (k : B.G h cl sl (mkF m pc' Ls (.int v :: st))) : B.G h cl sl (mkF m pc Ls st) := by
  subst hp hv; exact B.via (fun T t X r => XS.bipush X B.1 rfl (hb B.2.1 hd) r) k
theorem Base.sipush (B : Base p l e R s m args below meth c Z y bytes maxL ret h0 ws C) (pc' : Nat) (hp : pc' = pc + 3) {i : Int} (v : Int32) (hd : decode bytes pc = .ok (.sipush i, 3)) (hv : (Int16.ofInt i).toInt32 = v) (k : B.G h cl sl (mkF m pc' Ls (.int v :: st))) : B.G h cl sl (mkF m pc Ls st) := by
  subst hp hv; exact B.via (fun T t X r => XS.sipush X B.1 rfl (hb B.2.1 hd) r) k
theorem Base.lconst (B : Base p l e R s m args below meth c Z y bytes maxL ret h0 ws C) (pc' : Nat) (hp : pc' = pc + 1) {i : Fin 2} (v : Int64) (hd : decode bytes pc = .ok (.lconst i, 1)) (hv : Int64.ofNat i = v) (k : B.G h cl sl (mkF m pc' Ls (.long v :: st))) : B.G h cl sl (mkF m pc Ls st) := by
  subst hp hv; exact B.via (fun T t X r => XT.lconst X B.1 rfl (hb B.2.1 hd) r) k
theorem Base.aconstNull (B : Base p l e R s m args below meth c Z y bytes maxL ret h0 ws C) (pc' : Nat) (hp : pc' = pc + 1) (hd : decode bytes pc = .ok (.aconst_null, 1)) (k : B.G h cl sl (mkF m pc' Ls (.null :: st))) : B.G h cl sl (mkF m pc Ls st) := by
  subst hp; exact B.via (fun T t X r => XS.aconstNull X B.1 rfl (hb B.2.1 hd) r) k
theorem Base.ldcI (B : Base p l e R s m args below meth c Z y bytes maxL ret h0 ws C) (pc' : Nat) (hp : pc' = pc + 2) {i : Nat} {v : Int32} (hd : decode bytes pc = .ok (.ldc i, 2)) (w : (Cond.constant y.cls i v).before a0 Z = true) (k : B.G h cl sl (mkF m pc' Ls (.int v :: st))) : B.G h cl sl (mkF m pc Ls st) := by
  subst hp; exact B.viaX (fun T t L X _ r => X.ldcI B.1 B.2.2.2.2.1 (mv B.2.2.2.1 w) rfl (hb B.2.1 hd) r) k
theorem Base.ldcWI (B : Base p l e R s m args below meth c Z y bytes maxL ret h0 ws C) (pc' : Nat) (hp : pc' = pc + 3) {i : Nat} {v : Int32} (hd : decode bytes pc = .ok (.ldc_w i, 3)) (w : (Cond.constant y.cls i v).before a0 Z = true) (k : B.G h cl sl (mkF m pc' Ls (.int v :: st))) : B.G h cl sl (mkF m pc Ls st) := by
  subst hp; exact B.viaX (fun T t L X _ r => X.ldcWI B.1 B.2.2.2.2.1 (mv B.2.2.2.1 w) rfl (hb B.2.1 hd) r) k
theorem Base.ldc2J (B : Base p l e R s m args below meth c Z y bytes maxL ret h0 ws C) (pc' : Nat) (hp : pc' = pc + 3) {i : Nat} {v : Int64} (hd : decode bytes pc = .ok (.ldc2_w i, 3)) (w : (Cond.constantLong y.cls i v).before a0 Z = true) (k : B.G h cl sl (mkF m pc' Ls (.long v :: st))) : B.G h cl sl (mkF m pc Ls st) := by
  subst hp; exact B.viaX (fun T t L X _ r => X.ldc2J B.1 B.2.2.2.2.1 (mv B.2.2.2.1 w) rfl (hb B.2.1 hd) r) k
theorem Base.goto (B : Base p l e R s m args below meth c Z y bytes maxL ret h0 ws C) (pc' : Nat) {o : Int} (hp : ((pc : Int) + o).toNat = pc') (ho : 0 ≤ (pc : Int) + o) (hd : decode bytes pc = .ok (.goto o, 3)) (k : B.G h cl sl (mkF m pc' Ls st)) : B.G h cl sl (mkF m pc Ls st) :=
  B.via (fun T t X r => XS.goto X B.1 rfl rfl (hb B.2.1 hd) ho hp r) k
theorem Base.dup (B : Base p l e R s m args below meth c Z y bytes maxL ret h0 ws C) (pc' : Nat) (hp : pc' = pc + 1) {x : Value} (hd : decode bytes pc = .ok (.dup, 1)) (hc : x.category = 1) (k : B.G h cl sl (mkF m pc' Ls (x :: x :: st))) : B.G h cl sl (mkF m pc Ls (x :: st)) := by
  subst hp; exact B.via (fun T t X r => XS.dup X B.1 rfl (hb B.2.1 hd) rfl hc r) k
theorem Base.pop (B : Base p l e R s m args below meth c Z y bytes maxL ret h0 ws C) (pc' : Nat) (hp : pc' = pc + 1) {x : Value} (hd : decode bytes pc = .ok (.pop, 1)) (hc : x.category = 1) (k : B.G h cl sl (mkF m pc' Ls st)) : B.G h cl sl (mkF m pc Ls (x :: st)) := by
  subst hp; exact B.via (fun T t X r => XT.pop X B.1 rfl (hb B.2.1 hd) rfl hc r) k
theorem Base.dupX1 (B : Base p l e R s m args below meth c Z y bytes maxL ret h0 ws C) (pc' : Nat) (hp : pc' = pc + 1) {x z : Value} (hd : decode bytes pc = .ok (.dup_x1, 1)) (hc : x.category = 1) (hc' : z.category = 1) (k : B.G h cl sl (mkF m pc' Ls (x :: z :: x :: st))) : B.G h cl sl (mkF m pc Ls (x :: z :: st)) := by
  subst hp; exact B.via (fun T t X r => XT.dupX1 X B.1 rfl (hb B.2.1 hd) rfl hc hc' r) k
theorem Base.dup2 (B : Base p l e R s m args below meth c Z y bytes maxL ret h0 ws C) (pc' : Nat) (hp : pc' = pc + 1) {x z : Value} (hd : decode bytes pc = .ok (.dup2, 1)) (hc : x.category = 1) (hc' : z.category = 1) (k : B.G h cl sl (mkF m pc' Ls (x :: z :: x :: z :: st))) : B.G h cl sl (mkF m pc Ls (x :: z :: st)) := by
  subst hp; exact B.via (fun T t X r => XT.dup2 X B.1 rfl (hb B.2.1 hd) rfl hc hc' r) k
theorem Base.iadd (B : Base p l e R s m args below meth c Z y bytes maxL ret h0 ws C) (pc' : Nat) (hp : pc' = pc + 1) {x : Int32} {z : Int32} (hd : decode bytes pc = .ok (.iadd, 1)) (k : B.G h cl sl (mkF m pc' Ls (.int (x + z) :: st))) : B.G h cl sl (mkF m pc Ls (.int z :: .int x :: st)) := by
  subst hp; exact B.via (fun T t X r => XS.iadd X B.1 rfl (hb B.2.1 hd) rfl r) k
theorem Base.isub (B : Base p l e R s m args below meth c Z y bytes maxL ret h0 ws C) (pc' : Nat) (hp : pc' = pc + 1) {x : Int32} {z : Int32} (hd : decode bytes pc = .ok (.isub, 1)) (k : B.G h cl sl (mkF m pc' Ls (.int (x - z) :: st))) : B.G h cl sl (mkF m pc Ls (.int z :: .int x :: st)) := by
  subst hp; exact B.via (fun T t X r => XS.isub X B.1 rfl (hb B.2.1 hd) rfl r) k
theorem Base.iand (B : Base p l e R s m args below meth c Z y bytes maxL ret h0 ws C) (pc' : Nat) (hp : pc' = pc + 1) {x : Int32} {z : Int32} (hd : decode bytes pc = .ok (.iand, 1)) (k : B.G h cl sl (mkF m pc' Ls (.int (x &&& z) :: st))) : B.G h cl sl (mkF m pc Ls (.int z :: .int x :: st)) := by
  subst hp; exact B.via (fun T t X r => XS.iand X B.1 rfl (hb B.2.1 hd) rfl r) k
theorem Base.imul (B : Base p l e R s m args below meth c Z y bytes maxL ret h0 ws C) (pc' : Nat) (hp : pc' = pc + 1) {x : Int32} {z : Int32} (hd : decode bytes pc = .ok (.imul, 1)) (k : B.G h cl sl (mkF m pc' Ls (.int (x * z) :: st))) : B.G h cl sl (mkF m pc Ls (.int z :: .int x :: st)) := by
  subst hp; exact B.via (fun T t X r => XS.imul X B.1 rfl (hb B.2.1 hd) rfl r) k
theorem Base.ixor (B : Base p l e R s m args below meth c Z y bytes maxL ret h0 ws C) (pc' : Nat) (hp : pc' = pc + 1) {x : Int32} {z : Int32} (hd : decode bytes pc = .ok (.ixor, 1)) (k : B.G h cl sl (mkF m pc' Ls (.int (x ^^^ z) :: st))) : B.G h cl sl (mkF m pc Ls (.int z :: .int x :: st)) := by
  subst hp; exact B.via (fun T t X r => XT.ixor X B.1 rfl (hb B.2.1 hd) rfl r) k
theorem Base.ior (B : Base p l e R s m args below meth c Z y bytes maxL ret h0 ws C) (pc' : Nat) (hp : pc' = pc + 1) {x : Int32} {z : Int32} (hd : decode bytes pc = .ok (.ior, 1)) (k : B.G h cl sl (mkF m pc' Ls (.int (x ||| z) :: st))) : B.G h cl sl (mkF m pc Ls (.int z :: .int x :: st)) := by
  subst hp; exact B.via (fun T t X r => XT.ior X B.1 rfl (hb B.2.1 hd) rfl r) k
theorem Base.ishl (B : Base p l e R s m args below meth c Z y bytes maxL ret h0 ws C) (pc' : Nat) (hp : pc' = pc + 1) {x : Int32} {z : Int32} (hd : decode bytes pc = .ok (.ishl, 1)) (k : B.G h cl sl (mkF m pc' Ls (.int (x <<< (z &&& 31)) :: st))) : B.G h cl sl (mkF m pc Ls (.int z :: .int x :: st)) := by
  subst hp; exact B.via (fun T t X r => XT.ishl X B.1 rfl (hb B.2.1 hd) rfl r) k
theorem Base.ishr (B : Base p l e R s m args below meth c Z y bytes maxL ret h0 ws C) (pc' : Nat) (hp : pc' = pc + 1) {x : Int32} {z : Int32} (hd : decode bytes pc = .ok (.ishr, 1)) (k : B.G h cl sl (mkF m pc' Ls (.int (x >>> (z &&& 31)) :: st))) : B.G h cl sl (mkF m pc Ls (.int z :: .int x :: st)) := by
  subst hp; exact B.via (fun T t X r => XT.ishr X B.1 rfl (hb B.2.1 hd) rfl r) k
theorem Base.iushr (B : Base p l e R s m args below meth c Z y bytes maxL ret h0 ws C) (pc' : Nat) (hp : pc' = pc + 1) {x : Int32} {z : Int32} (hd : decode bytes pc = .ok (.iushr, 1)) (k : B.G h cl sl (mkF m pc' Ls (.int (XT.ushr x z) :: st))) : B.G h cl sl (mkF m pc Ls (.int z :: .int x :: st)) := by
  subst hp; exact B.via (fun T t X r => XT.iushr X B.1 rfl (hb B.2.1 hd) rfl r) k
theorem Base.ladd (B : Base p l e R s m args below meth c Z y bytes maxL ret h0 ws C) (pc' : Nat) (hp : pc' = pc + 1) {x : Int64} {z : Int64} (hd : decode bytes pc = .ok (.ladd, 1)) (k : B.G h cl sl (mkF m pc' Ls (.long (x + z) :: st))) : B.G h cl sl (mkF m pc Ls (.long z :: .long x :: st)) := by
  subst hp; exact B.via (fun T t X r => XT.ladd X B.1 rfl (hb B.2.1 hd) rfl r) k
theorem Base.lsub (B : Base p l e R s m args below meth c Z y bytes maxL ret h0 ws C) (pc' : Nat) (hp : pc' = pc + 1) {x : Int64} {z : Int64} (hd : decode bytes pc = .ok (.lsub, 1)) (k : B.G h cl sl (mkF m pc' Ls (.long (x - z) :: st))) : B.G h cl sl (mkF m pc Ls (.long z :: .long x :: st)) := by
  subst hp; exact B.via (fun T t X r => XT.lsub X B.1 rfl (hb B.2.1 hd) rfl r) k
theorem Base.lmul (B : Base p l e R s m args below meth c Z y bytes maxL ret h0 ws C) (pc' : Nat) (hp : pc' = pc + 1) {x : Int64} {z : Int64} (hd : decode bytes pc = .ok (.lmul, 1)) (k : B.G h cl sl (mkF m pc' Ls (.long (x * z) :: st))) : B.G h cl sl (mkF m pc Ls (.long z :: .long x :: st)) := by
  subst hp; exact B.via (fun T t X r => XT.lmul X B.1 rfl (hb B.2.1 hd) rfl r) k
theorem Base.land (B : Base p l e R s m args below meth c Z y bytes maxL ret h0 ws C) (pc' : Nat) (hp : pc' = pc + 1) {x : Int64} {z : Int64} (hd : decode bytes pc = .ok (.land, 1)) (k : B.G h cl sl (mkF m pc' Ls (.long (x &&& z) :: st))) : B.G h cl sl (mkF m pc Ls (.long z :: .long x :: st)) := by
  subst hp; exact B.via (fun T t X r => XT.land X B.1 rfl (hb B.2.1 hd) rfl r) k
theorem Base.lor (B : Base p l e R s m args below meth c Z y bytes maxL ret h0 ws C) (pc' : Nat) (hp : pc' = pc + 1) {x : Int64} {z : Int64} (hd : decode bytes pc = .ok (.lor, 1)) (k : B.G h cl sl (mkF m pc' Ls (.long (x ||| z) :: st))) : B.G h cl sl (mkF m pc Ls (.long z :: .long x :: st)) := by
  subst hp; exact B.via (fun T t X r => XT.lor X B.1 rfl (hb B.2.1 hd) rfl r) k
theorem Base.lxor (B : Base p l e R s m args below meth c Z y bytes maxL ret h0 ws C) (pc' : Nat) (hp : pc' = pc + 1) {x : Int64} {z : Int64} (hd : decode bytes pc = .ok (.lxor, 1)) (k : B.G h cl sl (mkF m pc' Ls (.long (x ^^^ z) :: st))) : B.G h cl sl (mkF m pc Ls (.long z :: .long x :: st)) := by
  subst hp; exact B.via (fun T t X r => XT.lxor X B.1 rfl (hb B.2.1 hd) rfl r) k
theorem Base.lshl (B : Base p l e R s m args below meth c Z y bytes maxL ret h0 ws C) (pc' : Nat) (hp : pc' = pc + 1) {x : Int64} {z : Int32} (hd : decode bytes pc = .ok (.lshl, 1)) (k : B.G h cl sl (mkF m pc' Ls (.long (x <<< (z.toInt64 &&& 63)) :: st))) : B.G h cl sl (mkF m pc Ls (.int z :: .long x :: st)) := by
  subst hp; exact B.via (fun T t X r => XT.lshl X B.1 rfl (hb B.2.1 hd) rfl r) k
theorem Base.lshr (B : Base p l e R s m args below meth c Z y bytes maxL ret h0 ws C) (pc' : Nat) (hp : pc' = pc + 1) {x : Int64} {z : Int32} (hd : decode bytes pc = .ok (.lshr, 1)) (k : B.G h cl sl (mkF m pc' Ls (.long (x >>> (z.toInt64 &&& 63)) :: st))) : B.G h cl sl (mkF m pc Ls (.int z :: .long x :: st)) := by
  subst hp; exact B.via (fun T t X r => XT.lshr X B.1 rfl (hb B.2.1 hd) rfl r) k
theorem Base.lushr (B : Base p l e R s m args below meth c Z y bytes maxL ret h0 ws C) (pc' : Nat) (hp : pc' = pc + 1) {x : Int64} {z : Int32} (hd : decode bytes pc = .ok (.lushr, 1)) (k : B.G h cl sl (mkF m pc' Ls (.long (XT.ushrL x z) :: st))) : B.G h cl sl (mkF m pc Ls (.int z :: .long x :: st)) := by
  subst hp; exact B.via (fun T t X r => XT.lushr X B.1 rfl (hb B.2.1 hd) rfl r) k
theorem Base.lcmp (B : Base p l e R s m args below meth c Z y bytes maxL ret h0 ws C) (pc' : Nat) (hp : pc' = pc + 1) {x : Int64} {z : Int64} (hd : decode bytes pc = .ok (.lcmp, 1)) (k : B.G h cl sl (mkF m pc' Ls (.int (XT.cmpL x z) :: st))) : B.G h cl sl (mkF m pc Ls (.long z :: .long x :: st)) := by
  subst hp; exact B.via (fun T t X r => XT.lcmp X B.1 rfl (hb B.2.1 hd) rfl r) k
theorem Base.idiv (B : Base p l e R s m args below meth c Z y bytes maxL ret h0 ws C) (pc' : Nat) (hp : pc' = pc + 1) {x : Int32} {z : Int32} (hd : decode bytes pc = .ok (.idiv, 1)) (hz : z ≠ 0) (k : B.G h cl sl (mkF m pc' Ls (.int (x / z) :: st))) : B.G h cl sl (mkF m pc Ls (.int z :: .int x :: st)) := by
  subst hp; exact B.via (fun T t X r => XS.idiv X B.1 rfl (hb B.2.1 hd) rfl hz r) k
theorem Base.ldiv (B : Base p l e R s m args below meth c Z y bytes maxL ret h0 ws C) (pc' : Nat) (hp : pc' = pc + 1) {x : Int64} {z : Int64} (hd : decode bytes pc = .ok (.ldiv, 1)) (hz : z ≠ 0) (k : B.G h cl sl (mkF m pc' Ls (.long (x / z) :: st))) : B.G h cl sl (mkF m pc Ls (.long z :: .long x :: st)) := by
  subst hp; exact B.via (fun T t X r => XT.ldiv X B.1 rfl (hb B.2.1 hd) rfl hz r) k
theorem Base.irem (B : Base p l e R s m args below meth c Z y bytes maxL ret h0 ws C) (pc' : Nat) (hp : pc' = pc + 1) {x z : Int32} (hd : decode bytes pc = .ok (.irem, 1)) (hz : z ≠ 0) (k : B.G h cl sl (mkF m pc' Ls (.int (x % z) :: st))) : B.G h cl sl (mkF m pc Ls (.int z :: .int x :: st)) := by
  subst hp; exact B.viaX (fun T t L X _ r => iremM X B.1 rfl (hb B.2.1 hd) rfl hz r) k
theorem Base.ineg (B : Base p l e R s m args below meth c Z y bytes maxL ret h0 ws C) (pc' : Nat) (hp : pc' = pc + 1) {x : Int32} (hd : decode bytes pc = .ok (.ineg, 1)) (k : B.G h cl sl (mkF m pc' Ls (.int (-x) :: st))) : B.G h cl sl (mkF m pc Ls (.int x :: st)) := by
  subst hp; exact B.via (fun T t X r => XS.ineg X B.1 rfl (hb B.2.1 hd) rfl r) k
theorem Base.lneg (B : Base p l e R s m args below meth c Z y bytes maxL ret h0 ws C) (pc' : Nat) (hp : pc' = pc + 1) {x : Int64} (hd : decode bytes pc = .ok (.lneg, 1)) (k : B.G h cl sl (mkF m pc' Ls (.long (-x) :: st))) : B.G h cl sl (mkF m pc Ls (.long x :: st)) := by
  subst hp; exact B.via (fun T t X r => XT.lneg X B.1 rfl (hb B.2.1 hd) rfl r) k
theorem Base.i2l (B : Base p l e R s m args below meth c Z y bytes maxL ret h0 ws C) (pc' : Nat) (hp : pc' = pc + 1) {x : Int32} (hd : decode bytes pc = .ok (.i2l, 1)) (k : B.G h cl sl (mkF m pc' Ls (.long (x.toInt64) :: st))) : B.G h cl sl (mkF m pc Ls (.int x :: st)) := by
  subst hp; exact B.via (fun T t X r => XT.i2l X B.1 rfl (hb B.2.1 hd) rfl r) k
theorem Base.l2i (B : Base p l e R s m args below meth c Z y bytes maxL ret h0 ws C) (pc' : Nat) (hp : pc' = pc + 1) {x : Int64} (hd : decode bytes pc = .ok (.l2i, 1)) (k : B.G h cl sl (mkF m pc' Ls (.int (x.toInt32) :: st))) : B.G h cl sl (mkF m pc Ls (.long x :: st)) := by
  subst hp; exact B.via (fun T t X r => XT.l2i X B.1 rfl (hb B.2.1 hd) rfl r) k
theorem Base.i2b (B : Base p l e R s m args below meth c Z y bytes maxL ret h0 ws C) (pc' : Nat) (hp : pc' = pc + 1) {x : Int32} (hd : decode bytes pc = .ok (.i2b, 1)) (k : B.G h cl sl (mkF m pc' Ls (.int (x.toInt8.toInt32) :: st))) : B.G h cl sl (mkF m pc Ls (.int x :: st)) := by
  subst hp; exact B.via (fun T t X r => XT.i2b X B.1 rfl (hb B.2.1 hd) rfl r) k
theorem Base.i2c (B : Base p l e R s m args below meth c Z y bytes maxL ret h0 ws C) (pc' : Nat) (hp : pc' = pc + 1) {x : Int32} (hd : decode bytes pc = .ok (.i2c, 1)) (k : B.G h cl sl (mkF m pc' Ls (.int (x.toUInt32.toUInt16.toUInt32.toInt32) :: st))) : B.G h cl sl (mkF m pc Ls (.int x :: st)) := by
  subst hp; exact B.via (fun T t X r => XT.i2c X B.1 rfl (hb B.2.1 hd) rfl r) k
theorem Base.i2s (B : Base p l e R s m args below meth c Z y bytes maxL ret h0 ws C) (pc' : Nat) (hp : pc' = pc + 1) {x : Int32} (hd : decode bytes pc = .ok (.i2s, 1)) (k : B.G h cl sl (mkF m pc' Ls (.int (x.toInt16.toInt32) :: st))) : B.G h cl sl (mkF m pc Ls (.int x :: st)) := by
  subst hp; exact B.via (fun T t X r => XT.i2s X B.1 rfl (hb B.2.1 hd) rfl r) k
theorem Base.icmp_eq (B : Base p l e R s m args below meth c Z y bytes maxL ret h0 ws C) (pt pf : Nat) {o : Int} (hpt : ((pc : Int) + o).toNat = pt) (ho : 0 ≤ (pc : Int) + o) (hpf : pf = pc + 3) {x z : Int32} (hd : decode bytes pc = .ok (.if_icmp .eq o, 3)) (kt : x = z → B.G h cl sl (mkF m pt Ls st)) (kf : ¬ x = z → B.G h cl sl (mkF m pf Ls st)) : B.G h cl sl (mkF m pc Ls (.int z :: .int x :: st)) := by
  subst hpt hpf
  by_cases q : x = z
  · exact B.via (fun T t X r => XS.icmpYes X B.1 rfl rfl (hb B.2.1 hd) rfl (XT.ii_eq_t q) ho rfl r) (kt q)
  · exact B.via (fun T t X r => XS.icmpNo X B.1 rfl (hb B.2.1 hd) rfl (XT.ii_eq_f q) r) (kf q)
theorem Base.if0_eq (B : Base p l e R s m args below meth c Z y bytes maxL ret h0 ws C) (pt pf : Nat) {o : Int} (hpt : ((pc : Int) + o).toNat = pt) (ho : 0 ≤ (pc : Int) + o) (hpf : pf = pc + 3) {x : Int32} (hd : decode bytes pc = .ok (.ifCond .eq o, 3)) (kt : x = 0 → B.G h cl sl (mkF m pt Ls st)) (kf : ¬ x = 0 → B.G h cl sl (mkF m pf Ls st)) : B.G h cl sl (mkF m pc Ls (.int x :: st)) := by
  subst hpt hpf
  by_cases q : x = 0
  · exact B.via (fun T t X r => XS.ifYes X B.1 rfl rfl (hb B.2.1 hd) rfl (XT.i0_eq_t q) ho rfl r) (kt q)
  · exact B.via (fun T t X r => XS.ifNo X B.1 rfl (hb B.2.1 hd) rfl (XT.i0_eq_f q) r) (kf q)
theorem Base.lif_eq (B : Base p l e R s m args below meth c Z y bytes maxL ret h0 ws C) (pt pf : Nat) {o : Int} (hpt : ((pc : Int) + o).toNat = pt) (ho : 0 ≤ (pc : Int) + o) (hpf : pf = pc + 3) {x z : Int64} (hd : decode bytes pc = .ok (.ifCond .eq o, 3)) (kt : x = z → B.G h cl sl (mkF m pt Ls st)) (kf : ¬ x = z → B.G h cl sl (mkF m pf Ls st)) : B.G h cl sl (mkF m pc Ls (.int (XT.cmpL x z) :: st)) := by
  subst hpt hpf
  by_cases q : x = z
  · exact B.via (fun T t X r => XS.ifYes X B.1 rfl rfl (hb B.2.1 hd) rfl (XT.ll_eq_t q) ho rfl r) (kt q)
  · exact B.via (fun T t X r => XS.ifNo X B.1 rfl (hb B.2.1 hd) rfl (XT.ll_eq_f q) r) (kf q)
theorem Base.icmp_ne (B : Base p l e R s m args below meth c Z y bytes maxL ret h0 ws C) (pt pf : Nat) {o : Int} (hpt : ((pc : Int) + o).toNat = pt) (ho : 0 ≤ (pc : Int) + o) (hpf : pf = pc + 3) {x z : Int32} (hd : decode bytes pc = .ok (.if_icmp .ne o, 3)) (kt : ¬ x = z → B.G h cl sl (mkF m pt Ls st)) (kf : x = z → B.G h cl sl (mkF m pf Ls st)) : B.G h cl sl (mkF m pc Ls (.int z :: .int x :: st)) := by
  subst hpt hpf
  by_cases q : x = z
  · exact B.via (fun T t X r => XS.icmpNo X B.1 rfl (hb B.2.1 hd) rfl (XT.ii_ne_f q) r) (kf q)
  · exact B.via (fun T t X r => XS.icmpYes X B.1 rfl rfl (hb B.2.1 hd) rfl (XT.ii_ne_t q) ho rfl r) (kt q)
theorem Base.if0_ne (B : Base p l e R s m args below meth c Z y bytes maxL ret h0 ws C) (pt pf : Nat) {o : Int} (hpt : ((pc : Int) + o).toNat = pt) (ho : 0 ≤ (pc : Int) + o) (hpf : pf = pc + 3) {x : Int32} (hd : decode bytes pc = .ok (.ifCond .ne o, 3)) (kt : ¬ x = 0 → B.G h cl sl (mkF m pt Ls st)) (kf : x = 0 → B.G h cl sl (mkF m pf Ls st)) : B.G h cl sl (mkF m pc Ls (.int x :: st)) := by
  subst hpt hpf
  by_cases q : x = 0
  · exact B.via (fun T t X r => XS.ifNo X B.1 rfl (hb B.2.1 hd) rfl (XT.i0_ne_f q) r) (kf q)
  · exact B.via (fun T t X r => XS.ifYes X B.1 rfl rfl (hb B.2.1 hd) rfl (XT.i0_ne_t q) ho rfl r) (kt q)
theorem Base.lif_ne (B : Base p l e R s m args below meth c Z y bytes maxL ret h0 ws C) (pt pf : Nat) {o : Int} (hpt : ((pc : Int) + o).toNat = pt) (ho : 0 ≤ (pc : Int) + o) (hpf : pf = pc + 3) {x z : Int64} (hd : decode bytes pc = .ok (.ifCond .ne o, 3)) (kt : ¬ x = z → B.G h cl sl (mkF m pt Ls st)) (kf : x = z → B.G h cl sl (mkF m pf Ls st)) : B.G h cl sl (mkF m pc Ls (.int (XT.cmpL x z) :: st)) := by
  subst hpt hpf
  by_cases q : x = z
  · exact B.via (fun T t X r => XS.ifNo X B.1 rfl (hb B.2.1 hd) rfl (XT.ll_ne_f q) r) (kf q)
  · exact B.via (fun T t X r => XS.ifYes X B.1 rfl rfl (hb B.2.1 hd) rfl (XT.ll_ne_t q) ho rfl r) (kt q)
theorem Base.icmp_lt (B : Base p l e R s m args below meth c Z y bytes maxL ret h0 ws C) (pt pf : Nat) {o : Int} (hpt : ((pc : Int) + o).toNat = pt) (ho : 0 ≤ (pc : Int) + o) (hpf : pf = pc + 3) {x z : Int32} (hd : decode bytes pc = .ok (.if_icmp .lt o, 3)) (kt : x < z → B.G h cl sl (mkF m pt Ls st)) (kf : ¬ x < z → B.G h cl sl (mkF m pf Ls st)) : B.G h cl sl (mkF m pc Ls (.int z :: .int x :: st)) := by
  subst hpt hpf
  by_cases q : x < z
  · exact B.via (fun T t X r => XS.icmpYes X B.1 rfl rfl (hb B.2.1 hd) rfl (XT.ii_lt_t q) ho rfl r) (kt q)
  · exact B.via (fun T t X r => XS.icmpNo X B.1 rfl (hb B.2.1 hd) rfl (XT.ii_lt_f q) r) (kf q)
theorem Base.if0_lt (B : Base p l e R s m args below meth c Z y bytes maxL ret h0 ws C) (pt pf : Nat) {o : Int} (hpt : ((pc : Int) + o).toNat = pt) (ho : 0 ≤ (pc : Int) + o) (hpf : pf = pc + 3) {x : Int32} (hd : decode bytes pc = .ok (.ifCond .lt o, 3)) (kt : x < 0 → B.G h cl sl (mkF m pt Ls st)) (kf : ¬ x < 0 → B.G h cl sl (mkF m pf Ls st)) : B.G h cl sl (mkF m pc Ls (.int x :: st)) := by
  subst hpt hpf
  by_cases q : x < 0
  · exact B.via (fun T t X r => XS.ifYes X B.1 rfl rfl (hb B.2.1 hd) rfl (XT.i0_lt_t q) ho rfl r) (kt q)
  · exact B.via (fun T t X r => XS.ifNo X B.1 rfl (hb B.2.1 hd) rfl (XT.i0_lt_f q) r) (kf q)
theorem Base.lif_lt (B : Base p l e R s m args below meth c Z y bytes maxL ret h0 ws C) (pt pf : Nat) {o : Int} (hpt : ((pc : Int) + o).toNat = pt) (ho : 0 ≤ (pc : Int) + o) (hpf : pf = pc + 3) {x z : Int64} (hd : decode bytes pc = .ok (.ifCond .lt o, 3)) (kt : x < z → B.G h cl sl (mkF m pt Ls st)) (kf : ¬ x < z → B.G h cl sl (mkF m pf Ls st)) : B.G h cl sl (mkF m pc Ls (.int (XT.cmpL x z) :: st)) := by
  subst hpt hpf
  by_cases q : x < z
  · exact B.via (fun T t X r => XS.ifYes X B.1 rfl rfl (hb B.2.1 hd) rfl (XT.ll_lt_t q) ho rfl r) (kt q)
  · exact B.via (fun T t X r => XS.ifNo X B.1 rfl (hb B.2.1 hd) rfl (XT.ll_lt_f q) r) (kf q)
theorem Base.icmp_ge (B : Base p l e R s m args below meth c Z y bytes maxL ret h0 ws C) (pt pf : Nat) {o : Int} (hpt : ((pc : Int) + o).toNat = pt) (ho : 0 ≤ (pc : Int) + o) (hpf : pf = pc + 3) {x z : Int32} (hd : decode bytes pc = .ok (.if_icmp .ge o, 3)) (kt : ¬ x < z → B.G h cl sl (mkF m pt Ls st)) (kf : x < z → B.G h cl sl (mkF m pf Ls st)) : B.G h cl sl (mkF m pc Ls (.int z :: .int x :: st)) := by
  subst hpt hpf
  by_cases q : x < z
  · exact B.via (fun T t X r => XS.icmpNo X B.1 rfl (hb B.2.1 hd) rfl (XT.ii_ge_f q) r) (kf q)
  · exact B.via (fun T t X r => XS.icmpYes X B.1 rfl rfl (hb B.2.1 hd) rfl (XT.ii_ge_t q) ho rfl r) (kt q)
theorem Base.if0_ge (B : Base p l e R s m args below meth c Z y bytes maxL ret h0 ws C) (pt pf : Nat) {o : Int} (hpt : ((pc : Int) + o).toNat = pt) (ho : 0 ≤ (pc : Int) + o) (hpf : pf = pc + 3) {x : Int32} (hd : decode bytes pc = .ok (.ifCond .ge o, 3)) (kt : ¬ x < 0 → B.G h cl sl (mkF m pt Ls st)) (kf : x < 0 → B.G h cl sl (mkF m pf Ls st)) : B.G h cl sl (mkF m pc Ls (.int x :: st)) := by
  subst hpt hpf
  by_cases q : x < 0
  · exact B.via (fun T t X r => XS.ifNo X B.1 rfl (hb B.2.1 hd) rfl (XT.i0_ge_f q) r) (kf q)
  · exact B.via (fun T t X r => XS.ifYes X B.1 rfl rfl (hb B.2.1 hd) rfl (XT.i0_ge_t q) ho rfl r) (kt q)
theorem Base.lif_ge (B : Base p l e R s m args below meth c Z y bytes maxL ret h0 ws C) (pt pf : Nat) {o : Int} (hpt : ((pc : Int) + o).toNat = pt) (ho : 0 ≤ (pc : Int) + o) (hpf : pf = pc + 3) {x z : Int64} (hd : decode bytes pc = .ok (.ifCond .ge o, 3)) (kt : ¬ x < z → B.G h cl sl (mkF m pt Ls st)) (kf : x < z → B.G h cl sl (mkF m pf Ls st)) : B.G h cl sl (mkF m pc Ls (.int (XT.cmpL x z) :: st)) := by
  subst hpt hpf
  by_cases q : x < z
  · exact B.via (fun T t X r => XS.ifNo X B.1 rfl (hb B.2.1 hd) rfl (XT.ll_ge_f q) r) (kf q)
  · exact B.via (fun T t X r => XS.ifYes X B.1 rfl rfl (hb B.2.1 hd) rfl (XT.ll_ge_t q) ho rfl r) (kt q)
theorem Base.icmp_gt (B : Base p l e R s m args below meth c Z y bytes maxL ret h0 ws C) (pt pf : Nat) {o : Int} (hpt : ((pc : Int) + o).toNat = pt) (ho : 0 ≤ (pc : Int) + o) (hpf : pf = pc + 3) {x z : Int32} (hd : decode bytes pc = .ok (.if_icmp .gt o, 3)) (kt : z < x → B.G h cl sl (mkF m pt Ls st)) (kf : ¬ z < x → B.G h cl sl (mkF m pf Ls st)) : B.G h cl sl (mkF m pc Ls (.int z :: .int x :: st)) := by
  subst hpt hpf
  by_cases q : z < x
  · exact B.via (fun T t X r => XS.icmpYes X B.1 rfl rfl (hb B.2.1 hd) rfl (XT.ii_gt_t q) ho rfl r) (kt q)
  · exact B.via (fun T t X r => XS.icmpNo X B.1 rfl (hb B.2.1 hd) rfl (XT.ii_gt_f q) r) (kf q)
theorem Base.if0_gt (B : Base p l e R s m args below meth c Z y bytes maxL ret h0 ws C) (pt pf : Nat) {o : Int} (hpt : ((pc : Int) + o).toNat = pt) (ho : 0 ≤ (pc : Int) + o) (hpf : pf = pc + 3) {x : Int32} (hd : decode bytes pc = .ok (.ifCond .gt o, 3)) (kt : 0 < x → B.G h cl sl (mkF m pt Ls st)) (kf : ¬ 0 < x → B.G h cl sl (mkF m pf Ls st)) : B.G h cl sl (mkF m pc Ls (.int x :: st)) := by
  subst hpt hpf
  by_cases q : 0 < x
  · exact B.via (fun T t X r => XS.ifYes X B.1 rfl rfl (hb B.2.1 hd) rfl (XT.i0_gt_t q) ho rfl r) (kt q)
  · exact B.via (fun T t X r => XS.ifNo X B.1 rfl (hb B.2.1 hd) rfl (XT.i0_gt_f q) r) (kf q)
theorem Base.lif_gt (B : Base p l e R s m args below meth c Z y bytes maxL ret h0 ws C) (pt pf : Nat) {o : Int} (hpt : ((pc : Int) + o).toNat = pt) (ho : 0 ≤ (pc : Int) + o) (hpf : pf = pc + 3) {x z : Int64} (hd : decode bytes pc = .ok (.ifCond .gt o, 3)) (kt : z < x → B.G h cl sl (mkF m pt Ls st)) (kf : ¬ z < x → B.G h cl sl (mkF m pf Ls st)) : B.G h cl sl (mkF m pc Ls (.int (XT.cmpL x z) :: st)) := by
  subst hpt hpf
  by_cases q : z < x
  · exact B.via (fun T t X r => XS.ifYes X B.1 rfl rfl (hb B.2.1 hd) rfl (XT.ll_gt_t q) ho rfl r) (kt q)
  · exact B.via (fun T t X r => XS.ifNo X B.1 rfl (hb B.2.1 hd) rfl (XT.ll_gt_f q) r) (kf q)
theorem Base.icmp_le (B : Base p l e R s m args below meth c Z y bytes maxL ret h0 ws C) (pt pf : Nat) {o : Int} (hpt : ((pc : Int) + o).toNat = pt) (ho : 0 ≤ (pc : Int) + o) (hpf : pf = pc + 3) {x z : Int32} (hd : decode bytes pc = .ok (.if_icmp .le o, 3)) (kt : ¬ z < x → B.G h cl sl (mkF m pt Ls st)) (kf : z < x → B.G h cl sl (mkF m pf Ls st)) : B.G h cl sl (mkF m pc Ls (.int z :: .int x :: st)) := by
  subst hpt hpf
  by_cases q : z < x
  · exact B.via (fun T t X r => XS.icmpNo X B.1 rfl (hb B.2.1 hd) rfl (XT.ii_le_f q) r) (kf q)
  · exact B.via (fun T t X r => XS.icmpYes X B.1 rfl rfl (hb B.2.1 hd) rfl (XT.ii_le_t q) ho rfl r) (kt q)
theorem Base.if0_le (B : Base p l e R s m args below meth c Z y bytes maxL ret h0 ws C) (pt pf : Nat) {o : Int} (hpt : ((pc : Int) + o).toNat = pt) (ho : 0 ≤ (pc : Int) + o) (hpf : pf = pc + 3) {x : Int32} (hd : decode bytes pc = .ok (.ifCond .le o, 3)) (kt : ¬ 0 < x → B.G h cl sl (mkF m pt Ls st)) (kf : 0 < x → B.G h cl sl (mkF m pf Ls st)) : B.G h cl sl (mkF m pc Ls (.int x :: st)) := by
  subst hpt hpf
  by_cases q : 0 < x
  · exact B.via (fun T t X r => XS.ifNo X B.1 rfl (hb B.2.1 hd) rfl (XT.i0_le_f q) r) (kf q)
  · exact B.via (fun T t X r => XS.ifYes X B.1 rfl rfl (hb B.2.1 hd) rfl (XT.i0_le_t q) ho rfl r) (kt q)
theorem Base.lif_le (B : Base p l e R s m args below meth c Z y bytes maxL ret h0 ws C) (pt pf : Nat) {o : Int} (hpt : ((pc : Int) + o).toNat = pt) (ho : 0 ≤ (pc : Int) + o) (hpf : pf = pc + 3) {x z : Int64} (hd : decode bytes pc = .ok (.ifCond .le o, 3)) (kt : ¬ z < x → B.G h cl sl (mkF m pt Ls st)) (kf : z < x → B.G h cl sl (mkF m pf Ls st)) : B.G h cl sl (mkF m pc Ls (.int (XT.cmpL x z) :: st)) := by
  subst hpt hpf
  by_cases q : z < x
  · exact B.via (fun T t X r => XS.ifNo X B.1 rfl (hb B.2.1 hd) rfl (XT.ll_le_f q) r) (kf q)
  · exact B.via (fun T t X r => XS.ifYes X B.1 rfl rfl (hb B.2.1 hd) rfl (XT.ll_le_t q) ho rfl r) (kt q)
theorem Base.acmp_eq (B : Base p l e R s m args below meth c Z y bytes maxL ret h0 ws C) (pt pf : Nat) {o : Int} (hpt : ((pc : Int) + o).toNat = pt) (ho : 0 ≤ (pc : Int) + o) (hpf : pf = pc + 3) {x z : Value} (hd : decode bytes pc = .ok (.if_acmp .eq o, 3)) (hx' : x.isRef = true) (hz' : z.isRef = true) (kt : x = z → B.G h cl sl (mkF m pt Ls st)) (kf : ¬ x = z → B.G h cl sl (mkF m pf Ls st)) : B.G h cl sl (mkF m pc Ls (z :: x :: st)) := by
  subst hpt hpf
  by_cases q : x = z
  · exact B.via (fun T t X r => XT.acmpYes X B.1 rfl rfl (hb B.2.1 hd) rfl hx' hz' (XT.aa_eq_t q) ho rfl r) (kt q)
  · exact B.via (fun T t X r => XT.acmpNo X B.1 rfl (hb B.2.1 hd) rfl hx' hz' (XT.aa_eq_f q) r) (kf q)
theorem Base.acmp_ne (B : Base p l e R s m args below meth c Z y bytes maxL ret h0 ws C) (pt pf : Nat) {o : Int} (hpt : ((pc : Int) + o).toNat = pt) (ho : 0 ≤ (pc : Int) + o) (hpf : pf = pc + 3) {x z : Value} (hd : decode bytes pc = .ok (.if_acmp .ne o, 3)) (hx' : x.isRef = true) (hz' : z.isRef = true) (kt : ¬ x = z → B.G h cl sl (mkF m pt Ls st)) (kf : x = z → B.G h cl sl (mkF m pf Ls st)) : B.G h cl sl (mkF m pc Ls (z :: x :: st)) := by
  subst hpt hpf
  by_cases q : x = z
  · exact B.via (fun T t X r => XT.acmpNo X B.1 rfl (hb B.2.1 hd) rfl hx' hz' (XT.aa_ne_f q) r) (kf q)
  · exact B.via (fun T t X r => XT.acmpYes X B.1 rfl rfl (hb B.2.1 hd) rfl hx' hz' (XT.aa_ne_t q) ho rfl r) (kt q)
theorem Base.ifnull (B : Base p l e R s m args below meth c Z y bytes maxL ret h0 ws C) (pt pf : Nat) {o : Int} (hpt : ((pc : Int) + o).toNat = pt) (ho : 0 ≤ (pc : Int) + o) (hpf : pf = pc + 3) {x : Value} (hd : decode bytes pc = .ok (.ifnull o, 3)) (hx' : x.isRef = true) (kt : x = .null → B.G h cl sl (mkF m pt Ls st)) (kf : ¬ x = .null → B.G h cl sl (mkF m pf Ls st)) : B.G h cl sl (mkF m pc Ls (x :: st)) := by
  subst hpt hpf
  by_cases q : x = .null
  · exact B.via (fun T t X r => XT.nullYes X B.1 rfl rfl (hb B.2.1 hd) rfl q ho rfl r) (kt q)
  · exact B.via (fun T t X r => XT.nullNo X B.1 rfl (hb B.2.1 hd) rfl hx' q r) (kf q)
theorem Base.ifnonnull (B : Base p l e R s m args below meth c Z y bytes maxL ret h0 ws C) (pt pf : Nat) {o : Int} (hpt : ((pc : Int) + o).toNat = pt) (ho : 0 ≤ (pc : Int) + o) (hpf : pf = pc + 3) {x : Value} (hd : decode bytes pc = .ok (.ifnonnull o, 3)) (hx' : x.isRef = true) (kt : ¬ x = .null → B.G h cl sl (mkF m pt Ls st)) (kf : x = .null → B.G h cl sl (mkF m pf Ls st)) : B.G h cl sl (mkF m pc Ls (x :: st)) := by
  subst hpt hpf
  by_cases q : x = .null
  · exact B.via (fun T t X r => XT.nonnullNo X B.1 rfl (hb B.2.1 hd) rfl q r) (kf q)
  · exact B.via (fun T t X r => XT.nonnullYes X B.1 rfl rfl (hb B.2.1 hd) rfl hx' q ho rfl r) (kt q)
theorem Base.topI (B : Base p l e R s m args below meth c Z y bytes maxL ret h0 ws C) {x : Int32} (v : Int32) (q : x = v) (k : B.G h cl sl (mkF m pc Ls (.int v :: st))) : B.G h cl sl (mkF m pc Ls (.int x :: st)) := by subst q; exact k
theorem Base.topL (B : Base p l e R s m args below meth c Z y bytes maxL ret h0 ws C) {x : Int64} (v : Int64) (q : x = v) (k : B.G h cl sl (mkF m pc Ls (.long v :: st))) : B.G h cl sl (mkF m pc Ls (.long x :: st)) := by subst q; exact k
/-! 2. the ends -/
theorem Base.leave (B : Base p l e R s m args below meth c Z y bytes maxL ret h0 ws C) (hcl : cl ≤ R.cells) (hsl : sl ≤ R.slots) {v : Option Value} (hv : meth.sig.returnType = none → v = none) (hC : C v h)
    (st : ∀ (T : State) (locs : List Loc) (fs : List Frame), Stand p l e R s m args below meth c T locs cl sl → (∀ (f : JFrame) (acts : List Action), f.method = m → f.locked = none → f.entered = [] → (doReturn e (T.setTop f) acts v).1 = T.setFrames fs) → Steps p.tables e below (T.setTop g) (T.setFrames fs)) : B.G h cl sl g := fun T locs X N eT => by
  have hlk : meth.locks = false := B.2.2.2.2.2.2.1
  obtain ⟨fs, hr, hrun, hended, hW, hsame⟩ := X.leave (v := v) hv hlk
  have e0 := B.2.2.2.2.2.2.2.2
  refine ⟨_, _, st T locs fs X hr, hrun, hended, _, _, rfl, ⟨?_, N, ?_⟩, ⟨_, rfl⟩, hW, hsame.mono hcl hsl⟩
  · show C v T.heap
    rw [eT]; exact hC
  · show Keep h0 T.heap ws
    rw [← e0] at N ⊢
    exact keep_of X N
theorem Base.ret0 (B : Base p l e R s m args below meth c Z y bytes maxL none h0 ws C) (hd : decode bytes pc = .ok (.return_, 1)) (hcl : cl ≤ R.cells) (hsl : sl ≤ R.slots) (hC : C none h) : B.G h cl sl (mkF m pc Ls []) :=
  B.leave hcl hsl (fun _ => rfl) hC fun T locs fs X hr => X.returnOut B.1 B.2.2.2.2.2.1 (hb B.2.1 hd) hr
theorem Base.retI (B : Base p l e R s m args below meth c Z y bytes maxL (some .int) h0 ws C) {x : Int32} (hd : decode bytes pc = .ok (.ireturn, 1)) (hcl : cl ≤ R.cells) (hsl : sl ≤ R.slots) (hC : C (some (.int x)) h) : B.G h cl sl (mkF m pc Ls (.int x :: st)) :=
  B.leave hcl hsl (fun q => by rw [B.2.2.2.2.2.1] at q; cases q) hC fun T locs fs X hr => retOut X B.1 B.2.2.2.2.2.1 rfl (Or.inl ⟨rfl, Or.inl rfl, _, rfl⟩) (hb B.2.1 hd) hr
theorem Base.retL (B : Base p l e R s m args below meth c Z y bytes maxL (some .long) h0 ws C) {x : Int64} (hd : decode bytes pc = .ok (.lreturn, 1)) (hcl : cl ≤ R.cells) (hsl : sl ≤ R.slots) (hC : C (some (.long x)) h) : B.G h cl sl (mkF m pc Ls (.long x :: st)) :=
  B.leave hcl hsl (fun q => by rw [B.2.2.2.2.2.1] at q; cases q) hC fun T locs fs X hr => retOut X B.1 B.2.2.2.2.2.1 rfl (Or.inr (Or.inl ⟨rfl, rfl, _, rfl⟩)) (hb B.2.1 hd) hr
/-- a boolean, byte, char, short: what comes back is narrowed -/
theorem Base.retN {t : FieldType} (B : Base p l e R s m args below meth c Z y bytes maxL (some t) h0 ws C) {x : Int32} (ht : t = .boolean ∨ t = .byte ∨ t = .char ∨ t = .short) (hd : decode bytes pc = .ok (.ireturn, 1)) (hcl : cl ≤ R.cells) (hsl : sl ≤ R.slots) (hC : C (some (.int (nar t x))) h) : B.G h cl sl (mkF m pc Ls (.int x :: st)) :=
  B.leave hcl hsl (fun q => by rw [B.2.2.2.2.2.1] at q; cases q) hC fun T locs fs X hr => Jvm.RoadKit.retN X B.1 B.2.2.2.2.2.1 ht (hb B.2.1 hd) hr
theorem Base.retA {t : FieldType} (B : Base p l e R s m args below meth c Z y bytes maxL (some t) h0 ws C) {x : Value} (ht : t.isReference = true) (hx' : x.isRef = true) (hd : decode bytes pc = .ok (.areturn, 1)) (hcl : cl ≤ R.cells) (hsl : sl ≤ R.slots) (hC : C (some x) h) : B.G h cl sl (mkF m pc Ls (x :: st)) :=
  B.leave hcl hsl (fun q => by rw [B.2.2.2.2.2.1] at q; cases q) hC fun T locs fs X hr => retOut X B.1 B.2.2.2.2.2.1 (by rcases ref_cases hx' with rfl | ⟨a, rfl⟩ <;> cases t <;> simp_all [narrow, FieldType.isReference]) (Or.inr (Or.inr (Or.inr (Or.inr ⟨rfl, ht, hx'⟩)))) (hb B.2.1 hd) hr
/-! 3. the heap -/
theorem Base.size (B : Base p l e R s m args below meth c Z y bytes maxL ret h0 ws C) {T : State} {locs : List Loc} (X : Stand p l e R s m args below meth c T locs cl sl) : h0.size ≤ T.heap.size := by
  have q := X.same.2.1
  rw [B.2.2.2.2.2.2.2.2] at q; exact q
/-- the heap has only grown -/
theorem Base.grown (B : Base p l e R s m args below meth c Z y bytes maxL ret h0 ws C) (k : h0.size ≤ h.size → B.G h cl sl g) : B.G h cl sl g := fun T locs X N eT => k (by rw [← eT]; exact B.size X) T locs X N eT
theorem Base.getF (B : Base p l e R s m args below meth c Z y bytes maxL ret h0 ws C) (pc' : Nat) (hp : pc' = pc + 3) {i : Nat} {O n d : String} {a : Addr} {v : Value} (hd : decode bytes pc = .ok (.getfield i, 3)) (w : (Cond.fieldLink y.cls i O n d).before a0 Z = true) (F : Fld Z h a O n d v) (k : B.G h cl sl (mkF m pc' Ls (v :: st))) : B.G h cl sl (mkF m pc Ls (.ref a :: st)) := fun T locs X N eT => by
  subst hp
  obtain ⟨T', X', e', stp⟩ := Jvm.RoadKit.getF X B.1 B.2.2.2.1 B.2.2.2.2.1 (host := "") (Or.inl w) Via.refl eT F (g := mkF m pc Ls (.ref a :: st)) rfl rfl (hb B.2.1 hd)
  obtain ⟨t, o, q, r⟩ := k T' locs X' N e'
  exact ⟨t, o, stp _ q, r⟩
theorem Base.getS (B : Base p l e R s m args below meth c Z y bytes maxL ret h0 ws C) (pc' : Nat) (hp : pc' = pc + 3) {i : Nat} {O n d : String} {v : Value} (hd : decode bytes pc = .ok (.getstatic i, 3)) (w : (Cond.fieldLink y.cls i O n d).before a0 Z = true) (F : Sta Z h O n d v) (k : B.G h cl sl (mkF m pc' Ls (v :: st))) : B.G h cl sl (mkF m pc Ls st) := fun T locs X N eT => by
  subst hp
  obtain ⟨T', X', e', stp⟩ := Jvm.RoadKit.getS (host := "") X B.1 B.2.2.2.1 B.2.2.2.2.1 w Via.refl eT F (g := mkF m pc Ls st) rfl (hb B.2.1 hd)
  obtain ⟨t, o, q, r⟩ := k T' locs X' N e'
  exact ⟨t, o, stp _ q, r⟩
theorem Base.putF (B : Base p l e R s m args below meth c Z y bytes maxL ret h0 ws C) (pc' : Nat) (hp : pc' = pc + 3) {i kk : Nat} {O n d CC : String} {a : Addr} {v old : Value} {ty : FieldType} (hd : decode bytes pc = .ok (.putfield i, 3)) (w : (Cond.fieldLink y.cls i O n d).before a0 Z = true) (F : Fld Z h a O n d old) (E : Exa Z h a CC)
    (L : (Cond.lays CC O n d).before a0 Z = true ∨ ((Cond.laysFinal CC O n d).before a0 Z = true ∧ y.cls = O ∧ y.name = "<init>")) (wi : (Cond.instantiable CC kk).before a0 Z = true) (hty : parseFieldDescriptor d = some ty) (hn : narrow ty v = v) (hf : fits ty v = true) (hw : a ∈ ws ∨ h0.size ≤ a)
    (k : ∀ h', Wr h h' a (Jvm.RoadKit.slotOf Z O n d) v → B.G h' cl sl (mkF m pc' Ls st)) : B.G h cl sl (mkF m pc Ls (v :: .ref a :: st)) := fun T locs X N eT => by
  subst hp
  obtain ⟨T', h', X', e', W, stp⟩ := Jvm.RoadKit.putF X B.1 B.2.2.2.1 B.2.2.2.2.1 (host := "") (Or.inl w) Via.refl eT F E (L.imp id fun q => ⟨q.1, q.2.1, B.2.2.2.2.2.2.2.1.trans q.2.2⟩) wi hty hn hf (g := mkF m pc Ls (v :: .ref a :: st)) rfl rfl (hb B.2.1 hd)
  obtain ⟨t, o, q, r⟩ := k h' W T' _ X' (N.one hw) e'
  exact ⟨t, o, stp _ q, r⟩
theorem Base.newO (B : Base p l e R s m args below meth c Z y bytes maxL ret h0 ws C) (pc' : Nat) (hp : pc' = pc + 3) {i n : Nat} {CC : String} (hd : decode bytes pc = .ok (.new i, 3)) (w : (Cond.classLink y.cls i CC).before a0 Z = true) (wi : (Cond.instantiable CC n).before a0 Z = true) (wz : (Cond.initialized CC).before a0 Z = true) (hc : cl + 1 ≤ R.cells) (hs : sl + n ≤ R.slots)
    (k : ∀ h' a, a = h.size → h0.size ≤ a → Ext h h' → Exa Z h' a CC → (∀ {O nm d : String} {ty : FieldType}, Laid Z a0 CC O nm d → parseFieldDescriptor d = some ty → Fld Z h' a O nm d (defaultValue ty)) → B.G h' (cl + 1) (sl + n) (mkF m pc' Ls (.ref a :: st))) : B.G h cl sl (mkF m pc Ls st) := fun T locs X N eT => by
  subst hp
  obtain ⟨T', h', X', e', E, A, D, -, stp⟩ := Jvm.RoadKit.newO X B.1 B.2.2.2.1 B.2.2.2.2.1 w wi wz eT (g := mkF m pc Ls st) rfl (hb B.2.1 hd) hc hs
  obtain ⟨t, o, q, r⟩ := k h' _ rfl (by rw [← eT]; exact B.size X) E A D T' locs X' N e'
  exact ⟨t, o, stp _ q, r⟩
theorem Base.initO (B : Base p l e R s m args below meth c Z y bytes maxL ret h0 ws C) (pc' : Nat) (hp : pc' = pc + 3) {i : Nat} {a : Addr} (hd : decode bytes pc = .ok (.invokespecial i, 3)) (w1 : (Cond.methodLink y.cls i Lib.objectInit).before a0 Z = true) (w2 : (Cond.instanceMethod Lib.objectInit).before a0 Z = true) (w3 : (Cond.code Lib.objectInit ⟨#[0xb1]⟩ 1 none).before a0 Z = true)
    (hLs : Ls.size = maxL) (W : Nat) (hW : (st.map fun v => v.category).sum = W) (hf : 1 ≤ R.frames) (hl : W + 12 ≤ R.locals) (k : B.G h cl sl (mkF m pc' Ls st)) : B.G h cl sl (mkF m pc Ls (.ref a :: st)) := fun T locs X N eT => by
  subst hp
  obtain ⟨T', X', e', stp⟩ := Jvm.RoadKit.initO X B.1 B.2.2.2.1 B.2.2.2.2.1 w1 w2 w3 eT (g := mkF m pc Ls (.ref a :: st)) rfl (hLs.trans B.2.2.1.symm) rfl (hb B.2.1 hd) hf (W := W) (by show 2 * 0 + _ ≤ _; omega) hl
  obtain ⟨t, o, q, r⟩ := k T' locs X' N e'
  exact ⟨t, o, stp _ q, r⟩
/-! 4. calls -/
section Calls
variable {z : MethodName} {i : Nat} {cb : ByteArray} {cm : Nat} {cr : Option FieldType} {rm : Room} {as : Array Value} {ws' : List Addr} {C' : Option Value → Heap → Prop} {argsL rest : List Value} {ps : List FieldType} {rt : Option FieldType} {W : Nat}
theorem Base.callS (B : Base p l e R s m args below meth c Z y bytes maxL ret h0 ws C) (pc' : Nat) (hp : pc' = pc + 3) (hd : decode bytes pc = .ok (.invokestatic i, 3))
    (w1 : (Cond.methodLink y.cls i z).before a0 Z = true) (w2 : (Cond.static z).before a0 Z = true) (w3 : (Cond.initialized z.cls).before a0 Z = true) (w4 : (Cond.code z cb cm cr).before a0 Z = true)
    (hz : z.cls ≠ "java/lang/invoke/MethodHandle" ∧ z.cls ≠ "java/lang/invoke/VarHandle") (argsL rest : List Value) (M : Met l Z z cb cm cr [] rm as h ws' C') (has : argsL.toArray = as) (hst : st = argsL.reverse ++ rest) (hpd : parseMethodDescriptor z.desc = some ⟨ps, rt⟩) (hlen : argsL.length = ps.length) (hLs : Ls.size = maxL)
    (W : Nat) (hW : (rest.map fun v => v.category).sum = W) (hf : rm.frames + 1 ≤ R.frames) (hl : W + (cm + 11) + rm.locals ≤ R.locals) (hc : cl + rm.cells ≤ R.cells) (hs : sl + rm.slots ≤ R.slots) (hws : ∀ x ∈ ws', x ∈ ws ∨ h0.size ≤ x)
    (k : ∀ v h', Keep h h' ws' → C' v h' → B.G h' (cl + rm.cells) (sl + rm.slots) (mkF m pc' Ls (v.toList ++ rest))) : B.G h cl sl (mkF m pc Ls st) := fun T locs X N eT => by
  subst hp
  have hZ := B.2.2.2.1
  obtain ⟨v, _, ⟨T', L', k', n'⟩, -, X', ⟨Lc, hQ, l', y', z'⟩, stp⟩ := Jvm.LawKit.callS X B.1 (y := z) B.2.2.2.2.1 (mvT hZ w1) (mvT hZ w2) (mvT hZ w3) (mvT hZ w4) hz (backOf (W := W) M hZ w4 w3 hf hl) (g := mkF m pc Ls st) rfl (hLs.trans B.2.2.1.symm) (argsL := argsL) (rest := rest) (lenOf hpd hlen) hst (by show 2 * 0 + _ ≤ _; omega) (hb B.2.1 hd) (fun _ _ => ⟨has, eT, hc, hs⟩)
  dsimp only [Pt.U, Pt.locs, Pt.cells, Pt.slots] at X' l' y' z' stp hQ
  subst l' y' z'
  obtain ⟨hC, hN, hK⟩ := hQ
  obtain ⟨t, o, q, r⟩ := k v T'.heap hK hC T' _ X' (N.app fun u hu => (hN u hu).elim (fun q => hws _ q) fun q => Or.inr (Nat.le_trans (by rw [← eT]; exact B.size X) q)) rfl
  exact ⟨t, o, stp _ q, r⟩
theorem Base.callI (B : Base p l e R s m args below meth c Z y bytes maxL ret h0 ws C) (pc' : Nat) (hp : pc' = pc + 3) (hd : decode bytes pc = .ok (.invokespecial i, 3)) (hin : z.name = "<init>")
    (w1 : (Cond.methodLink y.cls i z).before a0 Z = true) (w2 : (Cond.instanceMethod z).before a0 Z = true) (w3 : (Cond.initialized z.cls).before a0 Z = true) (w4 : (Cond.code z cb cm none).before a0 Z = true)
    (hz : z.cls ≠ "java/lang/invoke/MethodHandle" ∧ z.cls ≠ "java/lang/invoke/VarHandle") {a : Addr} (argsL rest : List Value) (M : Met l Z z cb cm none [] rm as h ws' C') (has : (.ref a :: argsL).toArray = as) (hst : st = argsL.reverse ++ .ref a :: rest) (hpd : parseMethodDescriptor z.desc = some ⟨ps, rt⟩) (hlen : argsL.length = ps.length) (hLs : Ls.size = maxL)
    (W : Nat) (hW : (rest.map fun v => v.category).sum = W) (hf : rm.frames + 1 ≤ R.frames) (hl : W + (cm + 11) + rm.locals ≤ R.locals) (hc : cl + rm.cells ≤ R.cells) (hs : sl + rm.slots ≤ R.slots) (hws : ∀ x ∈ ws', x ∈ ws ∨ h0.size ≤ x)
    (k : ∀ v h', Keep h h' ws' → C' v h' → B.G h' (cl + rm.cells) (sl + rm.slots) (mkF m pc' Ls (v.toList ++ rest))) : B.G h cl sl (mkF m pc Ls st) := fun T locs X N eT => by
  subst hp
  have hZ := B.2.2.2.1
  obtain ⟨v, _, ⟨T', L', k', n'⟩, -, X', ⟨Lc, hQ, l', y', z'⟩, stp⟩ := X.specialBack B.1 (y := z) hin B.2.2.2.2.1 (mvT hZ w1) (mvT hZ w2) (mvT hZ w4) hz (backOf (W := W) M hZ w4 w3 hf hl) (g := mkF m pc Ls st) rfl (hLs.trans B.2.2.1.symm) (Steps.refl _) (a := a) (argsL := argsL) (rest := rest) (lenOf hpd hlen) hst (by show 2 * 0 + _ ≤ _; omega) (hb B.2.1 hd) (fun _ _ => ⟨has, eT, hc, hs⟩)
  dsimp only [Pt.U, Pt.locs, Pt.cells, Pt.slots] at X' l' y' z' stp hQ
  subst l' y' z'
  obtain ⟨hC, hN, hK⟩ := hQ
  obtain ⟨t, o, q, r⟩ := k v T'.heap hK hC T' _ X' (N.app fun u hu => (hN u hu).elim (fun q => hws _ q) fun q => Or.inr (Nat.le_trans (by rw [← eT]; exact B.size X) q)) rfl
  exact ⟨t, o, stp.trans q, r⟩
theorem Base.callV (B : Base p l e R s m args below meth c Z y bytes maxL ret h0 ws C) (pc' : Nat) (hp : pc' = pc + 3) (hd : decode bytes pc = .ok (.invokevirtual i, 3)) {CC : String}
    (w1 : (Cond.methodLink y.cls i z).before a0 Z = true) (w2 : (Cond.declares z).before a0 Z = true) (w5 : (Cond.selects CC z z).before a0 Z = true) (w6 : (Cond.instanceMethod z).before a0 Z = true) (w3 : (Cond.initialized z.cls).before a0 Z = true) (w4 : (Cond.code z cb cm cr).before a0 Z = true)
    (hz : z.cls ≠ "java/lang/invoke/MethodHandle" ∧ z.cls ≠ "java/lang/invoke/VarHandle") {a : Addr} (E : Exa Z h a CC) (argsL rest : List Value) (M : Met l Z z cb cm cr [] rm as h ws' C') (has : (.ref a :: argsL).toArray = as) (hst : st = argsL.reverse ++ .ref a :: rest) (hpd : parseMethodDescriptor z.desc = some ⟨ps, rt⟩) (hlen : argsL.length = ps.length) (hLs : Ls.size = maxL)
    (W : Nat) (hW : (rest.map fun v => v.category).sum = W) (hf : rm.frames + 1 ≤ R.frames) (hl : W + (cm + 11) + rm.locals ≤ R.locals) (hc : cl + rm.cells ≤ R.cells) (hs : sl + rm.slots ≤ R.slots) (hws : ∀ x ∈ ws', x ∈ ws ∨ h0.size ≤ x)
    (k : ∀ v h', Keep h h' ws' → C' v h' → B.G h' (cl + rm.cells) (sl + rm.slots) (mkF m pc' Ls (v.toList ++ rest))) : B.G h cl sl (mkF m pc Ls st) := fun T locs X N eT => by
  subst hp
  have hZ := B.2.2.2.1
  obtain ⟨cq, kq, qa, qb, qc⟩ := isOf hZ eT E
  obtain ⟨v, _, ⟨T', L', k', n'⟩, -, X', ⟨Lc, hQ, l', y', z'⟩, stp⟩ := X.virtualBack B.1 (y := z) (z := z) B.2.2.2.2.1 (mvT hZ w1) (mvT hZ w2) (notFace_of_selects (args := args) (mvT hZ w5)) (mvT hZ w5) (mvT hZ w6) hz (backOf (W := W) M hZ w4 w3 hf hl) qa qc (g := mkF m pc Ls st) rfl (hLs.trans B.2.2.1.symm) (Steps.refl _) (argsL := argsL) (rest := rest) (lenOf hpd hlen) hst (by show 2 * 0 + _ ≤ _; omega) (hb B.2.1 hd) (fun _ _ => ⟨has, eT, hc, hs⟩)
  dsimp only [Pt.U, Pt.locs, Pt.cells, Pt.slots] at X' l' y' z' stp hQ
  subst l' y' z'
  obtain ⟨hC, hN, hK⟩ := hQ
  obtain ⟨t, o, q, r⟩ := k v T'.heap hK hC T' _ X' (N.app fun u hu => (hN u hu).elim (fun q => hws _ q) fun q => Or.inr (Nat.le_trans (by rw [← eT]; exact B.size X) q)) rfl
  exact ⟨t, o, stp.trans q, r⟩
theorem Base.callVU (B : Base p l e R s m args below meth c Z y bytes maxL ret h0 ws C) (pc' : Nat) (hp : pc' = pc + 3) (hd : decode bytes pc = .ok (.invokevirtual i, 3)) {x : MethodName} {CC ow : String}
    (w1 : (Cond.methodLink y.cls i x).before a0 Z = true) (w0 : (Cond.sameMethod x.cls ow x.name x.desc).before a0 Z = true) (w2 : (Cond.declares ⟨ow, x.name, x.desc⟩).before a0 Z = true) (w5 : (Cond.selects CC x z).before a0 Z = true) (w6 : (Cond.instanceMethod z).before a0 Z = true) (w3 : (Cond.initialized z.cls).before a0 Z = true) (w4 : (Cond.code z cb cm cr).before a0 Z = true)
    (hz : ow ≠ "java/lang/invoke/MethodHandle" ∧ ow ≠ "java/lang/invoke/VarHandle") {a : Addr} (E : Exa Z h a CC) (argsL rest : List Value) (M : Met l Z z cb cm cr [] rm as h ws' C') (has : (.ref a :: argsL).toArray = as) (hst : st = argsL.reverse ++ .ref a :: rest) (hpd : parseMethodDescriptor x.desc = some ⟨ps, rt⟩) (hlen : argsL.length = ps.length) (hLs : Ls.size = maxL)
    (W : Nat) (hW : (rest.map fun v => v.category).sum = W) (hf : rm.frames + 1 ≤ R.frames) (hl : W + (cm + 11) + rm.locals ≤ R.locals) (hc : cl + rm.cells ≤ R.cells) (hs : sl + rm.slots ≤ R.slots) (hws : ∀ x ∈ ws', x ∈ ws ∨ h0.size ≤ x)
    (k : ∀ v h', Keep h h' ws' → C' v h' → B.G h' (cl + rm.cells) (sl + rm.slots) (mkF m pc' Ls (v.toList ++ rest))) : B.G h cl sl (mkF m pc Ls st) := fun T locs X N eT => by
  subst hp
  have hZ := B.2.2.2.1
  obtain ⟨cq, kq, qa, qb, qc⟩ := isOf hZ eT E
  obtain ⟨v, _, ⟨T', L', k', n'⟩, -, X', ⟨Lc, hQ, l', y', z'⟩, stp⟩ := X.virtualBackUp B.1 (x := x) (y := z) B.2.2.2.2.1 (mvT hZ w1) (mvT hZ w0) (mvT hZ w2) hz (mvT hZ w5) (mvT hZ w6) (backOf (W := W) M hZ w4 w3 hf hl) qa qc (g := mkF m pc Ls st) rfl (hLs.trans B.2.2.1.symm) (Steps.refl _) (argsL := argsL) (rest := rest) (lenOf hpd hlen) hst (by show 2 * 0 + _ ≤ _; omega) (hb B.2.1 hd) (fun _ _ => ⟨has, eT, hc, hs⟩)
  dsimp only [Pt.U, Pt.locs, Pt.cells, Pt.slots] at X' l' y' z' stp hQ
  subst l' y' z'
  obtain ⟨hC, hN, hK⟩ := hQ
  obtain ⟨t, o, q, r⟩ := k v T'.heap hK hC T' _ X' (N.app fun u hu => (hN u hu).elim (fun q => hws _ q) fun q => Or.inr (Nat.le_trans (by rw [← eT]; exact B.size X) q)) rfl
  exact ⟨t, o, stp.trans q, r⟩
theorem Base.callP (B : Base p l e R s m args below meth c Z y bytes maxL ret h0 ws C) (pc' : Nat) (hp : pc' = pc + 3) (hd : decode bytes pc = .ok (.invokevirtual i, 3)) {x : MethodName} {CC : String}
    (w1 : (Cond.methodLink y.cls i z).before a0 Z = true) (w7 : (Cond.privateMethod z).before a0 Z = true) (w6 : (Cond.instanceMethod z).before a0 Z = true) (w5 : (Cond.selects CC x x).before a0 Z = true) (hxc : x.cls = z.cls) (w3 : (Cond.initialized z.cls).before a0 Z = true) (w4 : (Cond.code z cb cm cr).before a0 Z = true)
    (hz : z.cls ≠ "java/lang/invoke/MethodHandle" ∧ z.cls ≠ "java/lang/invoke/VarHandle") {a : Addr} {CE : String} (E : Exa Z h a CE) (argsL rest : List Value) (M : Met l Z z cb cm cr [] rm as h ws' C') (has : (.ref a :: argsL).toArray = as) (hst : st = argsL.reverse ++ .ref a :: rest) (hpd : parseMethodDescriptor z.desc = some ⟨ps, rt⟩) (hlen : argsL.length = ps.length) (hLs : Ls.size = maxL)
    (W : Nat) (hW : (rest.map fun v => v.category).sum = W) (hf : rm.frames + 1 ≤ R.frames) (hl : W + (cm + 11) + rm.locals ≤ R.locals) (hc : cl + rm.cells ≤ R.cells) (hs : sl + rm.slots ≤ R.slots) (hws : ∀ x ∈ ws', x ∈ ws ∨ h0.size ≤ x)
    (k : ∀ v h', Keep h h' ws' → C' v h' → B.G h' (cl + rm.cells) (sl + rm.slots) (mkF m pc' Ls (v.toList ++ rest))) : B.G h cl sl (mkF m pc Ls st) := fun T locs X N eT => by
  subst hp
  have hZ := B.2.2.2.1
  obtain ⟨cq, q1, q2⟩ := E.cell
  have hpr : s.PrivateAt z := Cond.privateMethod_at (mvP hZ w7 (args := args))
  have hi : (Cond.instanceMethod z).before args s = true := mvT hZ w6
  have hsel : (Cond.selects z.cls z z).before args s = true := by
    obtain ⟨c2, r2, m2, -, -, q3, -, kP, hkP, hkPi⟩ := Cond.selects_spec (mvT hZ w5 (args := args))
    have hc2 := findClass_of_methodNamed q3
    rw [hxc] at hc2
    exact selects_self_of_private hc2 hkP hkPi hpr hi hz
  obtain ⟨v, _, ⟨T', L', k', n'⟩, -, X', ⟨Lc, hQ, l', y', z'⟩, stp⟩ := X.privateBack B.1 (y := z) B.2.2.2.2.1 (mvT hZ w1) hi hsel hpr (mvT hZ w4) hz (backOf (W := W) M hZ w4 w3 hf hl) (g := mkF m pc Ls st) rfl (hLs.trans B.2.2.1.symm) (Steps.refl _) (a := a) (by rw [eT]; exact q1) q2 (argsL := argsL) (rest := rest) (lenOf hpd hlen) hst (by show 2 * 0 + _ ≤ _; omega) (hb B.2.1 hd) (fun _ _ => ⟨has, eT, hc, hs⟩)
  dsimp only [Pt.U, Pt.locs, Pt.cells, Pt.slots] at X' l' y' z' stp hQ
  subst l' y' z'
  obtain ⟨hC, hN, hK⟩ := hQ
  obtain ⟨t, o, q, r⟩ := k v T'.heap hK hC T' _ X' (N.app fun u hu => (hN u hu).elim (fun q => hws _ q) fun q => Or.inr (Nat.le_trans (by rw [← eT]; exact B.size X) q)) rfl
  exact ⟨t, o, stp.trans q, r⟩
end Calls
/-- where nothing old is written, all that stood at the start stands -/
theorem Base.olds (B : Base p l e R s m args below meth c Z y bytes maxL ret h0 [] C) (k : Ext h0 h → B.G h cl sl g) : B.G h cl sl g := fun T locs X N eT => by
  refine k ?_ T locs X N eT
  have e0 := B.2.2.2.2.2.2.2.2
  have N' := N
  rw [← e0] at N'
  have q := keep_of X N'
  rw [e0, eT] at q
  exact ⟨q.1, fun a c hc => q.2.1 a c hc (by simp)⟩
end Walk
/-! 3b. arrays: 'Ary': the array at a holds just the list vs -/
def Ary (Z : State) (h : Heap) (a : Addr) (ty : FieldType) (vs : List Value) : Prop := ∃ c : Cell, Arr Z h a c ty ∧ c.slots.toList = vs
section Arrays
variable {p : Program} {l : Launch} {e : Env} {R : Room} {s : State} {m : MethodId} {args : Array Value} {below : List Frame} {meth : Method} {c : Code} {Z : State} {a0 : Array Value} {y : MethodName} {bytes : ByteArray} {maxL : Nat} {ret : Option FieldType} {h0 : Heap} {ws : List Addr} {C : Option Value → Heap → Prop}
variable {h h' : Heap} {cl sl : Nat} {g g' : JFrame} {pc : Nat} {Ls : Array Slot} {st : List Value} {a b : Addr} {ty : FieldType} {vs : List Value} {j : Int32} {i : Nat} {v w : Value} {wl : List Addr}
theorem Ary.lt (A : Ary Z h a ty vs) : a < h.size := by obtain ⟨c, A, -⟩ := A; exact A.lt
theorem Ary.ext (A : Ary Z h a ty vs) (E : Ext h h') : Ary Z h' a ty vs := by obtain ⟨c, A, r⟩ := A; exact ⟨c, A.ext E, r⟩
theorem Ary.other (A : Ary Z h b ty vs) (W : Wr h h' a i v) (q : b ≠ a) : Ary Z h' b ty vs := by obtain ⟨c, A, r⟩ := A; exact ⟨c, A.other W q, r⟩
theorem Ary.keep (A : Ary Z h a ty vs) (K : Keep h h' wl) (q : a ∉ wl) : Ary Z h' a ty vs := by obtain ⟨c, A, r⟩ := A; exact ⟨c, ⟨K.2.1 a c A.1 q, A.2⟩, r⟩
theorem Ary.set (A : Ary Z h a ty vs) (W : Wr h h' a i v) : Ary Z h' a ty (vs.set i v) := by
  obtain ⟨c, A, rfl⟩ := A
  exact ⟨_, A.same W, by simp [Cell.setSlot]⟩
theorem Ary.new {cA : ClassId} {n : Int32} (A : Arr Z h a (newA cA ty n) ty) : Ary Z h a ty (List.replicate n.toNatClampNeg (defaultValue ty)) := ⟨_, A, by simp [newA]⟩
theorem ary_in {c : Cell} (r : c.slots.toList = vs) (hj : ¬ j < 0) (hi : j.toNatClampNeg = i) (hv : vs[i]? = some v) : ¬ (j < 0 ∨ c.slots.size ≤ j.toNatClampNeg) ∧ c.slots[j.toNatClampNeg]? = some v := by
  subst r hi
  rw [Array.getElem?_toList] at hv
  exact ⟨fun q => q.elim hj fun q => absurd (Array.getElem?_eq_some_iff.mp hv).1 (Nat.not_lt.mpr q), hv⟩
theorem ary_lt {c : Cell} (r : c.slots.toList = vs) (hj : ¬ j < 0) (hi : j.toNatClampNeg = i) (hv : i < vs.length) : ¬ (j < 0 ∨ c.slots.size ≤ j.toNatClampNeg) := by
  subst r hi
  rw [Array.length_toList] at hv
  exact fun q => q.elim hj fun q => absurd hv (Nat.not_lt.mpr q)
theorem Base.arrlen (B : Base p l e R s m args below meth c Z y bytes maxL ret h0 ws C) (pc' : Nat) (hp : pc' = pc + 1) (hd : decode bytes pc = .ok (.arraylength, 1)) (A : Ary Z h a ty vs) (n : Int32) (hn : vs.length.toInt32 = n) (k : B.G h cl sl (mkF m pc' Ls (.int n :: st))) : B.G h cl sl (mkF m pc Ls (.ref a :: st)) := by
  subst hp hn
  obtain ⟨c1, A, rfl⟩ := A
  rw [Array.length_toList] at k
  exact B.viaX (fun T t L X eT r => X.arraylength (g := mkF m pc Ls (.ref a :: st)) B.1 (by rw [eT]; exact A.1) (State.isArrayOf_alike (T := s) B.2.2.2.1.alike A.2.1) rfl rfl (hb B.2.1 hd) t r) k
theorem Base.baload (B : Base p l e R s m args below meth c Z y bytes maxL ret h0 ws C) (pc' : Nat) (hp : pc' = pc + 1) (hd : decode bytes pc = .ok (.baload, 1)) (A : Ary Z h a .byte vs) (hj : ¬ j < 0) (i : Nat) (hi : j.toNatClampNeg = i) (v : Value) (hv : vs[i]? = some v) (k : B.G h cl sl (mkF m pc' Ls (v :: st))) : B.G h cl sl (mkF m pc Ls (.int j :: .ref a :: st)) := by
  subst hp
  obtain ⟨c1, A, r⟩ := A
  obtain ⟨q1, q2⟩ := ary_in r hj hi hv
  exact B.viaX (fun T t L X eT r => X.baloadBytes (g := mkF m pc Ls (.int j :: .ref a :: st)) B.1 (by rw [eT]; exact A.1) (State.isArrayOf_alike (T := s) B.2.2.2.1.alike A.2.1) A.2.2 q1 q2 rfl rfl (hb B.2.1 hd) t r) k
theorem Base.iaload (B : Base p l e R s m args below meth c Z y bytes maxL ret h0 ws C) (pc' : Nat) (hp : pc' = pc + 1) (hd : decode bytes pc = .ok (.iaload, 1)) (A : Ary Z h a .int vs) (hj : ¬ j < 0) (i : Nat) (hi : j.toNatClampNeg = i) (v : Value) (hv : vs[i]? = some v) (k : B.G h cl sl (mkF m pc' Ls (v :: st))) : B.G h cl sl (mkF m pc Ls (.int j :: .ref a :: st)) := by
  subst hp
  obtain ⟨c1, A, r⟩ := A
  obtain ⟨q1, q2⟩ := ary_in r hj hi hv
  exact B.viaX (fun T t L X eT r => X.iaload (g := mkF m pc Ls (.int j :: .ref a :: st)) B.1 (by rw [eT]; exact A.1) (State.isArrayOf_alike (T := s) B.2.2.2.1.alike A.2.1) A.2.2 q1 q2 rfl rfl (hb B.2.1 hd) t r) k
theorem Base.laload (B : Base p l e R s m args below meth c Z y bytes maxL ret h0 ws C) (pc' : Nat) (hp : pc' = pc + 1) (hd : decode bytes pc = .ok (.laload, 1)) (A : Ary Z h a .long vs) (hj : ¬ j < 0) (i : Nat) (hi : j.toNatClampNeg = i) (v : Value) (hv : vs[i]? = some v) (k : B.G h cl sl (mkF m pc' Ls (v :: st))) : B.G h cl sl (mkF m pc Ls (.int j :: .ref a :: st)) := by
  subst hp
  obtain ⟨c1, A, r⟩ := A
  obtain ⟨q1, q2⟩ := ary_in r hj hi hv
  exact B.viaX (fun T t L X eT r => X.laload (g := mkF m pc Ls (.int j :: .ref a :: st)) B.1 (by rw [eT]; exact A.1) (State.isArrayOf_alike (T := s) B.2.2.2.1.alike A.2.1) A.2.2 q1 q2 rfl rfl (hb B.2.1 hd) t r) k
theorem Base.newP (B : Base p l e R s m args below meth c Z y bytes maxL ret h0 ws C) (pc' : Nat) (hp : pc' = pc + 2) {aty : ArrayType} (hd : decode bytes pc = .ok (.newarray aty, 2)) (w : (Cond.arrayClass (newarray.typeOf aty)).before a0 Z = true) {n : Int32} (hn : ¬ n < 0) (cap : Nat) (hcap : n.toNatClampNeg ≤ cap) (hb' : cap * 8 ≤ 536870912) (hc : cl + 1 ≤ R.cells) (hs : sl + cap ≤ R.slots)
    (k : ∀ h' a, a = h.size → h0.size ≤ a → Ext h h' → Ary Z h' a (newarray.typeOf aty) (List.replicate n.toNatClampNeg (defaultValue (newarray.typeOf aty))) → B.G h' (cl + 1) (sl + cap) (mkF m pc' Ls (.ref a :: st))) : B.G h cl sl (mkF m pc Ls (.int n :: st)) := fun T locs X N eT => by
  subst hp
  obtain ⟨T', h', cA, X', e', E, A, stp⟩ := Jvm.RoadKit.newP X B.1 B.2.2.2.1 w eT (g := mkF m pc Ls (.int n :: st)) rfl (hb B.2.1 hd) rfl hn hcap hb' hc hs
  obtain ⟨t, o, q, r⟩ := k h' _ rfl (by rw [← eT]; exact B.size X) E (Ary.new A) T' locs X' N e'
  exact ⟨t, o, stp _ q, r⟩
theorem Base.bastore (B : Base p l e R s m args below meth c Z y bytes maxL ret h0 ws C) (pc' : Nat) (hp : pc' = pc + 1) (hd : decode bytes pc = .ok (.bastore, 1)) (A : Ary Z h a .byte vs) (hj : ¬ j < 0) (i : Nat) (hi : j.toNatClampNeg = i) (hlt : i < vs.length) (hw : a ∈ ws ∨ h0.size ≤ a) {x : Int32} (k : ∀ h', Wr h h' a i (.int x.toInt8.toInt32) → Ary Z h' a .byte (vs.set i (.int x.toInt8.toInt32)) → B.G h' cl sl (mkF m pc' Ls st)) : B.G h cl sl (mkF m pc Ls (.int x :: .int j :: .ref a :: st)) := fun T locs X N eT => by
  subst hp
  obtain ⟨c1, A1, r1⟩ := A
  obtain ⟨T', h', X', e', W, stp⟩ := stB X B.1 B.2.2.2.1 eT A1 (ary_lt r1 hj hi hlt) (g := mkF m pc Ls (.int x :: .int j :: .ref a :: st)) rfl rfl (hb B.2.1 hd)
  rw [hi] at W
  obtain ⟨t, o, q, r⟩ := k h' W (Ary.set ⟨c1, A1, r1⟩ W) T' _ X' (N.one hw) e'
  exact ⟨t, o, stp _ q, r⟩
theorem Base.iastore (B : Base p l e R s m args below meth c Z y bytes maxL ret h0 ws C) (pc' : Nat) (hp : pc' = pc + 1) (hd : decode bytes pc = .ok (.iastore, 1)) (A : Ary Z h a .int vs) (hj : ¬ j < 0) (i : Nat) (hi : j.toNatClampNeg = i) (hlt : i < vs.length) (hw : a ∈ ws ∨ h0.size ≤ a) {x : Int32} (k : ∀ h', Wr h h' a i (.int x) → Ary Z h' a .int (vs.set i (.int x)) → B.G h' cl sl (mkF m pc' Ls st)) : B.G h cl sl (mkF m pc Ls (.int x :: .int j :: .ref a :: st)) := fun T locs X N eT => by
  subst hp
  obtain ⟨c1, A1, r1⟩ := A
  obtain ⟨T', h', X', e', W, stp⟩ := stI X B.1 B.2.2.2.1 eT A1 (ary_lt r1 hj hi hlt) (g := mkF m pc Ls (.int x :: .int j :: .ref a :: st)) rfl rfl (hb B.2.1 hd)
  rw [hi] at W
  obtain ⟨t, o, q, r⟩ := k h' W (Ary.set ⟨c1, A1, r1⟩ W) T' _ X' (N.one hw) e'
  exact ⟨t, o, stp _ q, r⟩
theorem Base.lastore (B : Base p l e R s m args below meth c Z y bytes maxL ret h0 ws C) (pc' : Nat) (hp : pc' = pc + 1) (hd : decode bytes pc = .ok (.lastore, 1)) (A : Ary Z h a .long vs) (hj : ¬ j < 0) (i : Nat) (hi : j.toNatClampNeg = i) (hlt : i < vs.length) (hw : a ∈ ws ∨ h0.size ≤ a) {x : Int64} (k : ∀ h', Wr h h' a i (.long x) → Ary Z h' a .long (vs.set i (.long x)) → B.G h' cl sl (mkF m pc' Ls st)) : B.G h cl sl (mkF m pc Ls (.long x :: .int j :: .ref a :: st)) := fun T locs X N eT => by
  subst hp
  obtain ⟨c1, A1, r1⟩ := A
  obtain ⟨T', h', X', e', W, stp⟩ := stJ X B.1 B.2.2.2.1 eT A1 (ary_lt r1 hj hi hlt) (g := mkF m pc Ls (.long x :: .int j :: .ref a :: st)) rfl rfl (hb B.2.1 hd)
  rw [hi] at W
  obtain ⟨t, o, q, r⟩ := k h' W (Ary.set ⟨c1, A1, r1⟩ W) T' _ X' (N.one hw) e'
  exact ⟨t, o, stp _ q, r⟩
theorem Base.newPE (B : Base p l e R s m args below meth c Z y bytes maxL ret h0 ws C) (pc' : Nat) (hp : pc' = pc + 2) {aty : ArrayType} (hd : decode bytes pc = .ok (.newarray aty, 2)) (w : (Cond.arrayClass (newarray.typeOf aty)).before a0 Z = true) {n : Int32} (hn : ¬ n < 0) (cap : Nat) (hcap : n.toNatClampNeg ≤ cap) (hb' : cap * 8 ≤ 536870912) (hc : cl + 1 ≤ R.cells) (hs : sl + cap ≤ R.slots) (ad : String) (had : "[" ++ (newarray.typeOf aty).toString = ad)
    (k : ∀ h' a, a = h.size → h0.size ≤ a → Ext h h' → Ary Z h' a (newarray.typeOf aty) (List.replicate n.toNatClampNeg (defaultValue (newarray.typeOf aty))) → Exa Z h' a ad → B.G h' (cl + 1) (sl + cap) (mkF m pc' Ls (.ref a :: st))) : B.G h cl sl (mkF m pc Ls (.int n :: st)) := fun T locs X N eT => by
  subst hp
  obtain ⟨T', h', cA, X', e', E, A, A2, stp⟩ := Jvm.RoadKit.newPE X B.1 B.2.2.2.1 w eT (g := mkF m pc Ls (.int n :: st)) rfl (hb B.2.1 hd) rfl hn hcap hb' hc hs had
  obtain ⟨t, o, q, r⟩ := k h' _ rfl (by rw [← eT]; exact B.size X) E (Ary.new A) A2 T' locs X' N e'
  exact ⟨t, o, stp _ q, r⟩
theorem Base.clone (B : Base p l e R s m args below meth c Z y bytes maxL ret h0 ws C) (pc' : Nat) (hp : pc' = pc + 3) {ix : Nat} {ad : String} (hd : decode bytes pc = .ok (.invokevirtual ix, 3))
    (w1 : (Cond.methodLink y.cls ix ⟨ad, "clone", "()Ljava/lang/Object;"⟩).before a0 Z = true) (w2 : (Cond.sameMethod ad "java/lang/Object" "clone" "()Ljava/lang/Object;").before a0 Z = true) (w3 : (Cond.native ⟨"java/lang/Object", "clone", "()Ljava/lang/Object;"⟩).before a0 Z = true)
    (w4 : (Cond.instanceMethod ⟨"java/lang/Object", "clone", "()Ljava/lang/Object;"⟩).before a0 Z = true) (w5 : (Cond.selects ad ⟨ad, "clone", "()Ljava/lang/Object;"⟩ ⟨"java/lang/Object", "clone", "()Ljava/lang/Object;"⟩).before a0 Z = true) (w6 : (Cond.castable ad "java/lang/Cloneable").before a0 Z = true)
    (A : Ary Z h a ty vs) (E : Exa Z h a ad) (hfit : ∀ v ∈ vs, fits ty v = true) (hLs : Ls.size = maxL) (W : Nat) (hW : (st.map fun v => v.category).sum = W) (hf : 1 ≤ R.frames) (hl : W + 14 ≤ R.locals) (cap : Nat) (hcap : vs.length ≤ cap) (hc : cl + 1 ≤ R.cells) (hs : sl + cap ≤ R.slots)
    (k : ∀ h' b, b = h.size → h0.size ≤ b → Ext h h' → Ary Z h' b ty vs → Exa Z h' b ad → B.G h' (cl + 1) (sl + cap) (mkF m pc' Ls (.ref b :: st))) : B.G h cl sl (mkF m pc Ls (.ref a :: st)) := fun T locs X N eT => by
  subst hp
  obtain ⟨c1, A1, r1⟩ := A
  have FC : FitC Z c1 := fitC_of A1 fun i hi v hv => hfit v (by rw [← r1]; exact Array.mem_toList_iff.mpr (Array.mem_of_getElem? hv))
  obtain ⟨T', h', X', e', ex, A', E', stp⟩ := cloneA X B.1 B.2.2.2.1 B.2.2.2.2.1 w1 w2 w3 w4 w5 w6 eT A1 E FC (g := mkF m pc Ls (.ref a :: st)) rfl (hLs.trans B.2.2.1.symm) rfl (hb B.2.1 hd) hf (W := W) (cap := cap) (by show 2 * 0 + _ ≤ _; omega) hl (by rw [← r1, Array.length_toList] at hcap; exact hcap) hc hs
  obtain ⟨t, o, q, r⟩ := k h' _ rfl (by rw [← eT]; exact B.size X) ex ⟨_, A', r1⟩ E' T' locs X' N e'
  exact ⟨t, o, stp _ q, r⟩
theorem Base.castY (B : Base p l e R s m args below meth c Z y bytes maxL ret h0 ws C) (pc' : Nat) (hp : pc' = pc + 3) {ix : Nat} {K : String} (hd : decode bytes pc = .ok (.checkcast ix, 3)) (w : (Cond.classLink y.cls ix K).before a0 Z = true) (F : Ins Z h a K true) (k : B.G h cl sl (mkF m pc' Ls (.ref a :: st))) : B.G h cl sl (mkF m pc Ls (.ref a :: st)) := fun T locs X N eT => by
  subst hp
  obtain ⟨T', X', e', stp⟩ := Jvm.RoadKit.castY X B.1 B.2.2.2.1 B.2.2.2.2.1 w eT F (g := mkF m pc Ls (.ref a :: st)) rfl rfl (hb B.2.1 hd)
  obtain ⟨t, o, q, r⟩ := k T' locs X' N e'
  exact ⟨t, o, stp _ q, r⟩
theorem Base.instY (B : Base p l e R s m args below meth c Z y bytes maxL ret h0 ws C) (pc' : Nat) (hp : pc' = pc + 3) {ix : Nat} {K : String} (hd : decode bytes pc = .ok (.instanceof ix, 3)) (w : (Cond.classLink y.cls ix K).before a0 Z = true) (F : Ins Z h a K true) (k : B.G h cl sl (mkF m pc' Ls (.int 1 :: st))) : B.G h cl sl (mkF m pc Ls (.ref a :: st)) := fun T locs X N eT => by
  subst hp
  obtain ⟨T', X', e', stp⟩ := Jvm.RoadKit.instY X B.1 B.2.2.2.1 B.2.2.2.2.1 w eT F (g := mkF m pc Ls (.ref a :: st)) rfl rfl (hb B.2.1 hd)
  obtain ⟨t, o, q, r⟩ := k T' locs X' N e'
  exact ⟨t, o, stp _ q, r⟩
theorem Base.instN (B : Base p l e R s m args below meth c Z y bytes maxL ret h0 ws C) (pc' : Nat) (hp : pc' = pc + 3) {ix : Nat} {K CC : String} (hd : decode bytes pc = .ok (.instanceof ix, 3)) (w : (Cond.classLink y.cls ix K).before a0 Z = true) (E : Exa Z h a CC) (F : ∃ c t, Z.vm.findClass CC = some c ∧ Z.vm.findClass K = some t ∧ Z.vm.assignable c t = false) (k : B.G h cl sl (mkF m pc' Ls (.int 0 :: st))) : B.G h cl sl (mkF m pc Ls (.ref a :: st)) := fun T locs X N eT => by
  subst hp
  obtain ⟨T', X', e', stp⟩ := instNo X B.1 B.2.2.2.1 B.2.2.2.2.1 w eT E F (g := mkF m pc Ls (.ref a :: st)) rfl rfl (hb B.2.1 hd)
  obtain ⟨t, o, q, r⟩ := k T' locs X' N e'
  exact ⟨t, o, stp _ q, r⟩
theorem Base.inst0 (B : Base p l e R s m args below meth c Z y bytes maxL ret h0 ws C) (pc' : Nat) (hp : pc' = pc + 3) {ix : Nat} (hd : decode bytes pc = .ok (.instanceof ix, 3)) (k : B.G h cl sl (mkF m pc' Ls (.int 0 :: st))) : B.G h cl sl (mkF m pc Ls (.null :: st)) := by
  subst hp
  exact B.viaX (fun T t L X eT r => X.instanceofNull B.1 (g := mkF m pc Ls (.null :: st)) rfl rfl (hb B.2.1 hd) t r) k
theorem Base.aaload (B : Base p l e R s m args below meth c Z y bytes maxL ret h0 ws C) (pc' : Nat) (hp : pc' = pc + 1) (hd : decode bytes pc = .ok (.aaload, 1)) (A : Ary Z h a ty vs) (hty : ty.isReference = true) (hj : ¬ j < 0) (i : Nat) (hi : j.toNatClampNeg = i) (v : Value) (hv : vs[i]? = some v) (k : B.G h cl sl (mkF m pc' Ls (v :: st))) : B.G h cl sl (mkF m pc Ls (.int j :: .ref a :: st)) := by
  subst hp
  obtain ⟨c1, A, r⟩ := A
  obtain ⟨q1, q2⟩ := ary_in r hj hi hv
  exact B.viaX (fun T t L X eT r => X.aaload (g := mkF m pc Ls (.int j :: .ref a :: st)) B.1 (by rw [eT]; exact A.1) (State.isArrayOf_alike (T := s) B.2.2.2.1.alike A.2.1) hty A.2.2 q1 q2 rfl rfl (hb B.2.1 hd) t r) k
theorem ns_root {O K : String} {n : Nat} (w : (Cond.noSuperclass O).before a0 Z = true) (wk : (Cond.instantiable K n).before a0 Z = true) (hn : O ≠ K) : NS Z O K := by
  obtain ⟨c, k, h1, h2, h3, -, -⟩ := Cond.noSuperclass_spec w
  obtain ⟨t, -, g1, -⟩ := Cond.instantiable_spec wk
  have ne := ids_ne h1 g1 hn
  refine ⟨c, t, h1, g1, fun fuel => ?_⟩
  cases fuel with
  | zero => rfl
  | succ f => simp [Vm.isSubclassAux, ne, h2, h3]
theorem ns_no {CC K : String} {n n' : Nat} (w : (Cond.instantiable CC n').before a0 Z = true) (wk : (Cond.instantiable K n).before a0 Z = true) (q : NS Z CC K) (hn : CC ≠ K) : ∃ c t, Z.vm.findClass CC = some c ∧ Z.vm.findClass K = some t ∧ Z.vm.assignable c t = false := by
  obtain ⟨c, t, h0, g0, n3⟩ := q
  obtain ⟨c1, k, h1, h2, h5, -⟩ := Cond.instantiable_spec w
  obtain ⟨t1, k', g1, g2, g5, g7, -⟩ := Cond.instantiable_spec wk
  cases h0.symm.trans h1
  cases g0.symm.trans g1
  have ne := ids_ne h0 g0 hn
  have g8 : k'.isInterface = false := by simp only [Bool.or_eq_false_iff] at g7; exact g7.1
  refine ⟨c, t, h0, g0, ?_⟩
  show Z.vm.assignableAux (255 + 1) c t = false
  simp [Vm.assignableAux, ne, h2, g2, h5, g5, g8, Vm.isSubclass, n3]
end Arrays
/-! 5. the words -/
theorem wd {L : List Jvm.Cond} {a0 : Array Value} {Z : State} (hw : ∀ d ∈ L, d.before a0 Z = true) (i : Nat) {d : Jvm.Cond} (q : L[i]? = some d) : d.before a0 Z = true := hw d (List.mem_of_getElem? q)
/-! 6. from the words of a case -/
theorem fld_start {args : Array Value} {s : State} {t : Term} {a : Addr} {O n d : String} {z : Int32} (ht : t.eval args s none [] s = some (.ref a)) (q : (Cond.eq (.field t O n d) (.int z)).value args s none s [] = some true) : Fld s s.heap a O n d (.int z) :=
  Fld.start ((fld_at ht).symm.trans (eqv_i rfl q))
theorem eval_int {args : Array Value} {s : State} {u w : Term} {z : Int32} (q : (Cond.eq u w).value args s none s [] = some true) (hw : w.eval args s none [] s = some (.int z)) : u.eval args s none [] s = some (.int z) := by
  cases hv : u.eval args s none [] s with
  | none => simp [Cond.value, hv] at q
  | some v =>
    cases v <;> simp [Cond.value, hv, hw] at q
    subst q; rfl
theorem eval_ref {args : Array Value} {s : State} {u w : Term} {z : Addr} (q : (Cond.eq u w).value args s none s [] = some true) (hw : w.eval args s none [] s = some (.ref z)) : u.eval args s none [] s = some (.ref z) := by
  cases hv : u.eval args s none [] s with
  | none => simp [Cond.value, hv] at q
  | some v =>
    cases v <;> simp [Cond.value, hv, hw] at q
    subst q; rfl
/-- an array of the start, of known length and places -/
theorem ary_start {args : Array Value} {s : State} {t : Term} {a : Addr} {ty : FieldType} {vs : List Value} {n : Int32} (ht : t.eval args s none [] s = some (.ref a)) (hA : (Cond.arrayOf t ty).value args s none s [] = some true)
    (hl : (Cond.eq (.length t) (.int n)).value args s none s [] = some true) (hn : n.toNatClampNeg = vs.length) (hn0 : ¬ n < 0) (he : ∀ i, i < vs.length → ∃ v, vs[i]? = some v ∧ (Term.elem t (.int (Int32.ofNat i))).eval args s none [] s = some v) : Ary s s.heap a ty vs := by
  obtain ⟨c, A⟩ := Arr.start ht hA
  have e1 := eval_int hl rfl
  simp only [Term.eval, ht, Option.bind_eq_bind, Option.bind_some] at e1
  have hat : s.arrayAt? a = some c := A.fin (Vm.Alike.refl _)
  rw [hat] at e1
  simp only [Option.bind_some] at e1
  split at e1
  · rename_i hs
    simp only [Option.pure_def, Option.some.injEq, Value.int.injEq] at e1
    have hsz : c.slots.size = vs.length := by
      rw [← hn, ← e1]
      have := len_toInt hs
      simp only [Int32.toNatClampNeg, this]; omega
    refine ⟨c, A, ?_⟩
    apply List.ext_getElem?
    intro i
    by_cases hi : i < vs.length
    · obtain ⟨v, q1, q2⟩ := he i hi
      obtain ⟨cell, r1, -, r3⟩ := elem_at q2 ht rfl
      cases A.1.symm.trans r1
      have : (Int32.ofNat i).toNatClampNeg = i := by
        have := Int32.toInt_ofNat_small (show i < 2 ^ 31 by omega)
        simp only [Int32.toNatClampNeg, this]; omega
      rw [this] at r3
      rw [q1, Array.getElem?_toList]; exact r3
    · rw [List.getElem?_eq_none (by rw [Array.length_toList, hsz]; omega), List.getElem?_eq_none (by omega)]
  · simp at e1
end Jvm.Own
namespace Jvm.Pilot.@@N@@
open Jvm Jvm.ClassFile Sem Op Lib Jvm.Free Jvm.Stand Jvm.LawKit Jvm.RoadKit Jvm.Own Bundle Jvm.Pilot.@@N@@.Jvm.D
theorem pd__I_Lcom_example_invigil_invigil_core_Objective_ : parseMethodDescriptor "(I)Lcom/example/invigil/invigil/core/Objective;" = some ⟨[.int], some (.object "com/example/invigil/invigil/core/Objective")⟩ := by decide +kernel
theorem pd__JJJJJ_V : parseMethodDescriptor "(JJJJJ)V" = some ⟨[.long, .long, .long, .long, .long], none⟩ := by decide +kernel
theorem pd__JJJ_J : parseMethodDescriptor "(JJJ)J" = some ⟨[.long, .long, .long], some .long⟩ := by decide +kernel
theorem pd__Lcom_example_invigil_invigil_core_Evaluation__J : parseMethodDescriptor "(Lcom/example/invigil/invigil/core/Evaluation;)J" = some ⟨[(.object "com/example/invigil/invigil/core/Evaluation")], some .long⟩ := by decide +kernel
theorem pd___J : parseMethodDescriptor "()J" = some ⟨[], some .long⟩ := by decide +kernel
theorem pd___V : parseMethodDescriptor "()V" = some ⟨[], none⟩ := by decide +kernel
theorem pd___Z : parseMethodDescriptor "()Z" = some ⟨[], some .boolean⟩ := by decide +kernel
def own_cost (fp fs fo : Int32) (q3 q4 q5 : Int64) : Int64 := fp.toInt64 * q3 + fs.toInt64 * q4 + fo.toInt64 * q5
def own_counts (fs fo : Int32) : Int32 := if fs = 0 then (if fo = 0 then 0 else 1) else 1
theorem own_k (x : Int32) : (x &&& 2147483647) % 3 = 0 ∨ (x &&& 2147483647) % 3 = 1 ∨ (x &&& 2147483647) % 3 = 2 := by
  have h1 := (c_andS x 2147483647).2.2 (by decide)
  have h2 : ((x &&& 2147483647) % 3).toInt = (x &&& 2147483647).toInt % 3 := by rw [Int32.toInt_mod]; exact Int.tmod_eq_emod_of_nonneg h1
  simp only [← Int32.toInt_inj, Int32.reduceToInt, h2]
  omega
theorem d1_0 : decode method_2_code 0 = .ok (.iload_n 0, 1) := by decide +kernel
theorem d1_1 : decode method_2_code 1 = .ok (.ifCond .ne 7, 3) := by decide +kernel
theorem d1_4 : decode method_2_code 4 = .ok (.getstatic 7, 3) := by decide +kernel
theorem d1_7 : decode method_2_code 7 = .ok (.areturn, 1) := by decide +kernel
theorem pn_1 : plainName "com/example/invigil/invigil/core/ObjectiveCountsDaysPinLaw" = true := by first | (simp [plainName, overriddenIn]; done) | decide +kernel
set_option maxRecDepth 65536 in
set_option maxHeartbeats 4000000 in
theorem rm_pick0 (l : Launch) (Z : State) (a0 : Array Value) (hw : ∀ d ∈ tables_1, d.before a0 Z = true) (a : Addr) (h0 : Heap) (S : Sta Z h0 "com/example/invigil/invigil/core/Objective" "PROXIMITY" "Lcom/example/invigil/invigil/core/Objective;" (.ref a)) :
    Met l Z (⟨"com/example/invigil/invigil/core/ObjectiveCountsDaysPinLaw", "pick", "(I)Lcom/example/invigil/invigil/core/Objective;"⟩ : MethodName) method_2_code 1 (some (.object "com/example/invigil/invigil/core/Objective")) [] ({ frames := 0, cells := 0, slots := 0, locals := 0 } : Room) #[(.int (0 : Int32))] h0 [] (fun v h => v = some (.ref a) ∧ h0 = h) := by
  refine Met.walk pn_1 (Ls := #[.val (.int (0 : Int32))]) (fun m => by first | (simp [entryFrame, mkF, argsToLocals, Value.category, maxLocals]; done) | rfl) ?_
  intro p e s m below meth c B
  refine B.iloadN 1 rfl d1_0 rfl ?_
  refine B.if0_ne 8 4 rfl (by decide) rfl d1_1 (fun c1 => ?_) (fun c1 => ?_)
  · exact absurd c1 (by decide)
  · refine B.getS 7 rfl d1_4 (wd hw 5 rfl) S ?_
    refine B.retA rfl rfl d1_7 (by decide) (by decide) ?_
    exact ⟨rfl, rfl⟩
theorem d1_8 : decode method_2_code 8 = .ok (.iload_n 0, 1) := by decide +kernel
theorem d1_9 : decode method_2_code 9 = .ok (.iconst 1, 1) := by decide +kernel
theorem d1_10 : decode method_2_code 10 = .ok (.if_icmp .ne 7, 3) := by decide +kernel
theorem d1_13 : decode method_2_code 13 = .ok (.getstatic 13, 3) := by decide +kernel
theorem d1_16 : decode method_2_code 16 = .ok (.areturn, 1) := by decide +kernel
set_option maxRecDepth 65536 in
set_option maxHeartbeats 4000000 in
theorem rm_pick1 (l : Launch) (Z : State) (a0 : Array Value) (hw : ∀ d ∈ tables_1, d.before a0 Z = true) (a : Addr) (h0 : Heap) (S : Sta Z h0 "com/example/invigil/invigil/core/Objective" "ADJACENT" "Lcom/example/invigil/invigil/core/Objective;" (.ref a)) :
    Met l Z (⟨"com/example/invigil/invigil/core/ObjectiveCountsDaysPinLaw", "pick", "(I)Lcom/example/invigil/invigil/core/Objective;"⟩ : MethodName) method_2_code 1 (some (.object "com/example/invigil/invigil/core/Objective")) [] ({ frames := 0, cells := 0, slots := 0, locals := 0 } : Room) #[(.int (1 : Int32))] h0 [] (fun v h => v = some (.ref a) ∧ h0 = h) := by
  refine Met.walk pn_1 (Ls := #[.val (.int (1 : Int32))]) (fun m => by first | (simp [entryFrame, mkF, argsToLocals, Value.category, maxLocals]; done) | rfl) ?_
  intro p e s m below meth c B
  refine B.iloadN 1 rfl d1_0 rfl ?_
  refine B.if0_ne 8 4 rfl (by decide) rfl d1_1 (fun c1 => ?_) (fun c1 => ?_)
  · refine B.iloadN 9 rfl d1_8 rfl ?_
    refine B.iconst 10 rfl (1 : Int32) d1_9 rfl ?_
    refine B.icmp_ne 17 13 rfl (by decide) rfl d1_10 (fun c10 => ?_) (fun c10 => ?_)
    · exact absurd c10 (by decide)
    · refine B.getS 16 rfl d1_13 (wd hw 69 rfl) S ?_
      refine B.retA rfl rfl d1_16 (by decide) (by decide) ?_
      exact ⟨rfl, rfl⟩
  · exact absurd c1 (by decide)
theorem d1_17 : decode method_2_code 17 = .ok (.getstatic 16, 3) := by decide +kernel
theorem d1_20 : decode method_2_code 20 = .ok (.areturn, 1) := by decide +kernel
set_option maxRecDepth 65536 in
set_option maxHeartbeats 4000000 in
theorem rm_pick2 (l : Launch) (Z : State) (a0 : Array Value) (hw : ∀ d ∈ tables_1, d.before a0 Z = true) (a : Addr) (h0 : Heap) (S : Sta Z h0 "com/example/invigil/invigil/core/Objective" "ADJACENT_OVERNIGHT" "Lcom/example/invigil/invigil/core/Objective;" (.ref a)) :
    Met l Z (⟨"com/example/invigil/invigil/core/ObjectiveCountsDaysPinLaw", "pick", "(I)Lcom/example/invigil/invigil/core/Objective;"⟩ : MethodName) method_2_code 1 (some (.object "com/example/invigil/invigil/core/Objective")) [] ({ frames := 0, cells := 0, slots := 0, locals := 0 } : Room) #[(.int (2 : Int32))] h0 [] (fun v h => v = some (.ref a) ∧ h0 = h) := by
  refine Met.walk pn_1 (Ls := #[.val (.int (2 : Int32))]) (fun m => by first | (simp [entryFrame, mkF, argsToLocals, Value.category, maxLocals]; done) | rfl) ?_
  intro p e s m below meth c B
  refine B.iloadN 1 rfl d1_0 rfl ?_
  refine B.if0_ne 8 4 rfl (by decide) rfl d1_1 (fun c1 => ?_) (fun c1 => ?_)
  · refine B.iloadN 9 rfl d1_8 rfl ?_
    refine B.iconst 10 rfl (1 : Int32) d1_9 rfl ?_
    refine B.icmp_ne 17 13 rfl (by decide) rfl d1_10 (fun c10 => ?_) (fun c10 => ?_)
    · refine B.getS 20 rfl d1_17 (wd hw 67 rfl) S ?_
      refine B.retA rfl rfl d1_20 (by decide) (by decide) ?_
      exact ⟨rfl, rfl⟩
    · exact absurd c10 (by decide)
  · exact absurd c1 (by decide)
theorem d3_0 : decode jdk_30_method_1_code 0 = .ok (.aload_n 0, 1) := by decide +kernel
theorem d3_1 : decode jdk_30_method_1_code 1 = .ok (.invokespecial 1, 3) := by decide +kernel
theorem d3_4 : decode jdk_30_method_1_code 4 = .ok (.return_, 1) := by decide +kernel
theorem pn_3 : plainName "java/lang/Record" = true := by first | (simp [plainName, overriddenIn]; done) | decide +kernel
set_option maxRecDepth 65536 in
set_option maxHeartbeats 4000000 in
theorem rm_rec (l : Launch) (Z : State) (a0 : Array Value) (hw : ∀ d ∈ tables_1, d.before a0 Z = true) (a : Addr) (h0 : Heap)  :
    Met l Z (⟨"java/lang/Record", "<init>", "()V"⟩ : MethodName) jdk_30_method_1_code 1 none [] ({ frames := 1, cells := 0, slots := 0, locals := 12 } : Room) #[(.ref a)] h0 [] (fun v h => v = none ∧ h0 = h) := by
  refine Met.walk pn_3 (Ls := #[.val (.ref a)]) (fun m => by first | (simp [entryFrame, mkF, argsToLocals, Value.category, maxLocals]; done) | rfl) ?_
  intro p e s m below meth c B
  refine B.aloadN 1 rfl d3_0 rfl rfl ?_
  refine B.initO 4 rfl d3_1 (wd hw 19 rfl) (wd hw 20 rfl) (wd hw 21 rfl) rfl 0 rfl (by decide) (by decide) ?_
  refine B.ret0 d3_4 (by decide) (by decide) ?_
  exact ⟨rfl, rfl⟩
theorem d2_0 : decode prog_4_method_1_code 0 = .ok (.aload_n 0, 1) := by decide +kernel
theorem d2_1 : decode prog_4_method_1_code 1 = .ok (.invokespecial 1, 3) := by decide +kernel
theorem d2_4 : decode prog_4_method_1_code 4 = .ok (.aload_n 0, 1) := by decide +kernel
theorem d2_5 : decode prog_4_method_1_code 5 = .ok (.lload_n 1, 1) := by decide +kernel
theorem d2_6 : decode prog_4_method_1_code 6 = .ok (.putfield 7, 3) := by decide +kernel
theorem d2_9 : decode prog_4_method_1_code 9 = .ok (.aload_n 0, 1) := by decide +kernel
theorem d2_10 : decode prog_4_method_1_code 10 = .ok (.lload_n 3, 1) := by decide +kernel
theorem d2_11 : decode prog_4_method_1_code 11 = .ok (.putfield 13, 3) := by decide +kernel
theorem d2_14 : decode prog_4_method_1_code 14 = .ok (.aload_n 0, 1) := by decide +kernel
theorem d2_15 : decode prog_4_method_1_code 15 = .ok (.lload 5, 2) := by decide +kernel
theorem d2_17 : decode prog_4_method_1_code 17 = .ok (.putfield 16, 3) := by decide +kernel
theorem d2_20 : decode prog_4_method_1_code 20 = .ok (.aload_n 0, 1) := by decide +kernel
theorem d2_21 : decode prog_4_method_1_code 21 = .ok (.lload 7, 2) := by decide +kernel
theorem d2_23 : decode prog_4_method_1_code 23 = .ok (.putfield 19, 3) := by decide +kernel
theorem d2_26 : decode prog_4_method_1_code 26 = .ok (.aload_n 0, 1) := by decide +kernel
theorem d2_27 : decode prog_4_method_1_code 27 = .ok (.lload 9, 2) := by decide +kernel
theorem d2_29 : decode prog_4_method_1_code 29 = .ok (.putfield 22, 3) := by decide +kernel
theorem d2_32 : decode prog_4_method_1_code 32 = .ok (.return_, 1) := by decide +kernel
theorem pn_2 : plainName "com/example/invigil/invigil/core/Evaluation" = true := by first | (simp [plainName, overriddenIn]; done) | decide +kernel
set_option maxRecDepth 65536 in
set_option maxHeartbeats 4000000 in
theorem rm_init (l : Launch) (Z : State) (a0 : Array Value) (hw : ∀ d ∈ tables_1, d.before a0 Z = true) (a : Addr) (q1 q2 q3 q4 q5 : Int64) (h0 : Heap) (E : Exa Z h0 a "com/example/invigil/invigil/core/Evaluation") (Fclashes : Fld Z h0 a "com/example/invigil/invigil/core/Evaluation" "clashes" "J" (.long 0)) (FseatOverflow : Fld Z h0 a "com/example/invigil/invigil/core/Evaluation" "seatOverflow" "J" (.long 0)) (FproximityCost : Fld Z h0 a "com/example/invigil/invigil/core/Evaluation" "proximityCost" "J" (.long 0)) (FsameDayAdjacent : Fld Z h0 a "com/example/invigil/invigil/core/Evaluation" "sameDayAdjacent" "J" (.long 0)) (FovernightAdjacent : Fld Z h0 a "com/example/invigil/invigil/core/Evaluation" "overnightAdjacent" "J" (.long 0)) :
    Met l Z (⟨"com/example/invigil/invigil/core/Evaluation", "<init>", "(JJJJJ)V"⟩ : MethodName) prog_4_method_1_code 11 none [] ({ frames := 2, cells := 0, slots := 0, locals := 24 } : Room) #[(.ref a), (.long q1), (.long q2), (.long q3), (.long q4), (.long q5)] h0 [a] (fun v h => v = none ∧ Exa Z h a "com/example/invigil/invigil/core/Evaluation" ∧ Fld Z h a "com/example/invigil/invigil/core/Evaluation" "proximityCost" "J" (.long q3) ∧ Fld Z h a "com/example/invigil/invigil/core/Evaluation" "sameDayAdjacent" "J" (.long q4) ∧ Fld Z h a "com/example/invigil/invigil/core/Evaluation" "overnightAdjacent" "J" (.long q5)) := by
  refine Met.walk pn_2 (Ls := #[.val (.ref a), .val (.long q1), .second, .val (.long q2), .second, .val (.long q3), .second, .val (.long q4), .second, .val (.long q5), .second]) (fun m => by first | (simp [entryFrame, mkF, argsToLocals, Value.category, maxLocals]; done) | rfl) ?_
  intro p e s m below meth c B
  refine B.aloadN 1 rfl d2_0 rfl rfl ?_
  refine B.callI 4 rfl d2_1 rfl (wd hw 14 rfl) (wd hw 15 rfl) (wd hw 17 rfl) (wd hw 18 rfl) (by decide) [] [] (rm_rec l Z a0 hw a h0) rfl rfl pd___V rfl rfl 0 rfl (by decide) (by decide) (by decide) (by decide) (fun _ q => nomatch q) ?_
  rintro _ _ - ⟨rfl, rfl⟩
  show B.G h0 0 0 (mkF m 4 #[.val (.ref a), .val (.long q1), .second, .val (.long q2), .second, .val (.long q3), .second, .val (.long q4), .second, .val (.long q5), .second] [])
  refine B.aloadN 5 rfl d2_4 rfl rfl ?_
  refine B.lloadN 6 rfl d2_5 rfl ?_
  refine B.putF 9 rfl d2_6 (wd hw 22 rfl) Fclashes E (Or.inr ⟨(wd hw 23 rfl), rfl, rfl⟩) (wd hw 9 rfl) (ty := .long) (by decide) rfl rfl (Or.inl (by simp)) ?_
  intro h1 W1
  have Fclashes1 := Fclashes.same W1
  have FseatOverflow1 := FseatOverflow.other W1 (Or.inr (slot_ne (Or.inr (wd hw 25 rfl)) (Or.inr (wd hw 23 rfl)) (by decide) (t := .long) (t' := .long) (by decide) (by decide)))
  have FproximityCost1 := FproximityCost.other W1 (Or.inr (slot_ne (Or.inr (wd hw 27 rfl)) (Or.inr (wd hw 23 rfl)) (by decide) (t := .long) (t' := .long) (by decide) (by decide)))
  have FsameDayAdjacent1 := FsameDayAdjacent.other W1 (Or.inr (slot_ne (Or.inr (wd hw 29 rfl)) (Or.inr (wd hw 23 rfl)) (by decide) (t := .long) (t' := .long) (by decide) (by decide)))
  have FovernightAdjacent1 := FovernightAdjacent.other W1 (Or.inr (slot_ne (Or.inr (wd hw 31 rfl)) (Or.inr (wd hw 23 rfl)) (by decide) (t := .long) (t' := .long) (by decide) (by decide)))
  have E1 := E.wr W1
  refine B.aloadN 10 rfl d2_9 rfl rfl ?_
  refine B.lloadN 11 rfl d2_10 rfl ?_
  refine B.putF 14 rfl d2_11 (wd hw 24 rfl) FseatOverflow1 E1 (Or.inr ⟨(wd hw 25 rfl), rfl, rfl⟩) (wd hw 9 rfl) (ty := .long) (by decide) rfl rfl (Or.inl (by simp)) ?_
  intro h2 W2
  have Fclashes2 := Fclashes1.other W2 (Or.inr (slot_ne (Or.inr (wd hw 23 rfl)) (Or.inr (wd hw 25 rfl)) (by decide) (t := .long) (t' := .long) (by decide) (by decide)))
  have FseatOverflow2 := FseatOverflow1.same W2
  have FproximityCost2 := FproximityCost1.other W2 (Or.inr (slot_ne (Or.inr (wd hw 27 rfl)) (Or.inr (wd hw 25 rfl)) (by decide) (t := .long) (t' := .long) (by decide) (by decide)))
  have FsameDayAdjacent2 := FsameDayAdjacent1.other W2 (Or.inr (slot_ne (Or.inr (wd hw 29 rfl)) (Or.inr (wd hw 25 rfl)) (by decide) (t := .long) (t' := .long) (by decide) (by decide)))
  have FovernightAdjacent2 := FovernightAdjacent1.other W2 (Or.inr (slot_ne (Or.inr (wd hw 31 rfl)) (Or.inr (wd hw 25 rfl)) (by decide) (t := .long) (t' := .long) (by decide) (by decide)))
  have E2 := E1.wr W2
  refine B.aloadN 15 rfl d2_14 rfl rfl ?_
  refine B.lload 17 rfl d2_15 rfl ?_
  refine B.putF 20 rfl d2_17 (wd hw 26 rfl) FproximityCost2 E2 (Or.inr ⟨(wd hw 27 rfl), rfl, rfl⟩) (wd hw 9 rfl) (ty := .long) (by decide) rfl rfl (Or.inl (by simp)) ?_
  intro h3 W3
  have Fclashes3 := Fclashes2.other W3 (Or.inr (slot_ne (Or.inr (wd hw 23 rfl)) (Or.inr (wd hw 27 rfl)) (by decide) (t := .long) (t' := .long) (by decide) (by decide)))
  have FseatOverflow3 := FseatOverflow2.other W3 (Or.inr (slot_ne (Or.inr (wd hw 25 rfl)) (Or.inr (wd hw 27 rfl)) (by decide) (t := .long) (t' := .long) (by decide) (by decide)))
  have FproximityCost3 := FproximityCost2.same W3
  have FsameDayAdjacent3 := FsameDayAdjacent2.other W3 (Or.inr (slot_ne (Or.inr (wd hw 29 rfl)) (Or.inr (wd hw 27 rfl)) (by decide) (t := .long) (t' := .long) (by decide) (by decide)))
  have FovernightAdjacent3 := FovernightAdjacent2.other W3 (Or.inr (slot_ne (Or.inr (wd hw 31 rfl)) (Or.inr (wd hw 27 rfl)) (by decide) (t := .long) (t' := .long) (by decide) (by decide)))
  have E3 := E2.wr W3
  refine B.aloadN 21 rfl d2_20 rfl rfl ?_
  refine B.lload 23 rfl d2_21 rfl ?_
  refine B.putF 26 rfl d2_23 (wd hw 28 rfl) FsameDayAdjacent3 E3 (Or.inr ⟨(wd hw 29 rfl), rfl, rfl⟩) (wd hw 9 rfl) (ty := .long) (by decide) rfl rfl (Or.inl (by simp)) ?_
  intro h4 W4
  have Fclashes4 := Fclashes3.other W4 (Or.inr (slot_ne (Or.inr (wd hw 23 rfl)) (Or.inr (wd hw 29 rfl)) (by decide) (t := .long) (t' := .long) (by decide) (by decide)))
  have FseatOverflow4 := FseatOverflow3.other W4 (Or.inr (slot_ne (Or.inr (wd hw 25 rfl)) (Or.inr (wd hw 29 rfl)) (by decide) (t := .long) (t' := .long) (by decide) (by decide)))
  have FproximityCost4 := FproximityCost3.other W4 (Or.inr (slot_ne (Or.inr (wd hw 27 rfl)) (Or.inr (wd hw 29 rfl)) (by decide) (t := .long) (t' := .long) (by decide) (by decide)))
  have FsameDayAdjacent4 := FsameDayAdjacent3.same W4
  have FovernightAdjacent4 := FovernightAdjacent3.other W4 (Or.inr (slot_ne (Or.inr (wd hw 31 rfl)) (Or.inr (wd hw 29 rfl)) (by decide) (t := .long) (t' := .long) (by decide) (by decide)))
  have E4 := E3.wr W4
  refine B.aloadN 27 rfl d2_26 rfl rfl ?_
  refine B.lload 29 rfl d2_27 rfl ?_
  refine B.putF 32 rfl d2_29 (wd hw 30 rfl) FovernightAdjacent4 E4 (Or.inr ⟨(wd hw 31 rfl), rfl, rfl⟩) (wd hw 9 rfl) (ty := .long) (by decide) rfl rfl (Or.inl (by simp)) ?_
  intro h5 W5
  have Fclashes5 := Fclashes4.other W5 (Or.inr (slot_ne (Or.inr (wd hw 23 rfl)) (Or.inr (wd hw 31 rfl)) (by decide) (t := .long) (t' := .long) (by decide) (by decide)))
  have FseatOverflow5 := FseatOverflow4.other W5 (Or.inr (slot_ne (Or.inr (wd hw 25 rfl)) (Or.inr (wd hw 31 rfl)) (by decide) (t := .long) (t' := .long) (by decide) (by decide)))
  have FproximityCost5 := FproximityCost4.other W5 (Or.inr (slot_ne (Or.inr (wd hw 27 rfl)) (Or.inr (wd hw 31 rfl)) (by decide) (t := .long) (t' := .long) (by decide) (by decide)))
  have FsameDayAdjacent5 := FsameDayAdjacent4.other W5 (Or.inr (slot_ne (Or.inr (wd hw 29 rfl)) (Or.inr (wd hw 31 rfl)) (by decide) (t := .long) (t' := .long) (by decide) (by decide)))
  have FovernightAdjacent5 := FovernightAdjacent4.same W5
  have E5 := E4.wr W5
  refine B.ret0 d2_32 (by decide) (by decide) ?_
  exact ⟨rfl, E5, FproximityCost5, FsameDayAdjacent5, FovernightAdjacent5⟩
theorem d7_0 : decode prog_4_method_11_code 0 = .ok (.aload_n 0, 1) := by decide +kernel
theorem d7_1 : decode prog_4_method_11_code 1 = .ok (.getfield 16, 3) := by decide +kernel
theorem d7_4 : decode prog_4_method_11_code 4 = .ok (.lreturn, 1) := by decide +kernel
theorem pn_7 : plainName "com/example/invigil/invigil/core/Evaluation" = true := by first | (simp [plainName, overriddenIn]; done) | decide +kernel
set_option maxRecDepth 65536 in
set_option maxHeartbeats 4000000 in
theorem rm_proximityCost (l : Launch) (Z : State) (a0 : Array Value) (hw : ∀ d ∈ tables_1, d.before a0 Z = true) (a : Addr) (q : Int64) (h0 : Heap) (F : Fld Z h0 a "com/example/invigil/invigil/core/Evaluation" "proximityCost" "J" (.long q)) :
    Met l Z (⟨"com/example/invigil/invigil/core/Evaluation", "proximityCost", "()J"⟩ : MethodName) prog_4_method_11_code 1 (some .long) [] ({ frames := 0, cells := 0, slots := 0, locals := 0 } : Room) #[(.ref a)] h0 [] (fun v h => v = some (.long q) ∧ h0 = h) := by
  refine Met.walk pn_7 (Ls := #[.val (.ref a)]) (fun m => by first | (simp [entryFrame, mkF, argsToLocals, Value.category, maxLocals]; done) | rfl) ?_
  intro p e s m below meth c B
  refine B.aloadN 1 rfl d7_0 rfl rfl ?_
  refine B.getF 4 rfl d7_1 (wd hw 26 rfl) F ?_
  refine B.retL d7_4 (by decide) (by decide) ?_
  exact ⟨rfl, rfl⟩
theorem d8_0 : decode prog_4_method_12_code 0 = .ok (.aload_n 0, 1) := by decide +kernel
theorem d8_1 : decode prog_4_method_12_code 1 = .ok (.getfield 19, 3) := by decide +kernel
theorem d8_4 : decode prog_4_method_12_code 4 = .ok (.lreturn, 1) := by decide +kernel
theorem pn_8 : plainName "com/example/invigil/invigil/core/Evaluation" = true := by first | (simp [plainName, overriddenIn]; done) | decide +kernel
set_option maxRecDepth 65536 in
set_option maxHeartbeats 4000000 in
theorem rm_sameDayAdjacent (l : Launch) (Z : State) (a0 : Array Value) (hw : ∀ d ∈ tables_1, d.before a0 Z = true) (a : Addr) (q : Int64) (h0 : Heap) (F : Fld Z h0 a "com/example/invigil/invigil/core/Evaluation" "sameDayAdjacent" "J" (.long q)) :
    Met l Z (⟨"com/example/invigil/invigil/core/Evaluation", "sameDayAdjacent", "()J"⟩ : MethodName) prog_4_method_12_code 1 (some .long) [] ({ frames := 0, cells := 0, slots := 0, locals := 0 } : Room) #[(.ref a)] h0 [] (fun v h => v = some (.long q) ∧ h0 = h) := by
  refine Met.walk pn_8 (Ls := #[.val (.ref a)]) (fun m => by first | (simp [entryFrame, mkF, argsToLocals, Value.category, maxLocals]; done) | rfl) ?_
  intro p e s m below meth c B
  refine B.aloadN 1 rfl d8_0 rfl rfl ?_
  refine B.getF 4 rfl d8_1 (wd hw 28 rfl) F ?_
  refine B.retL d8_4 (by decide) (by decide) ?_
  exact ⟨rfl, rfl⟩
theorem d9_0 : decode prog_4_method_13_code 0 = .ok (.aload_n 0, 1) := by decide +kernel
theorem d9_1 : decode prog_4_method_13_code 1 = .ok (.getfield 22, 3) := by decide +kernel
theorem d9_4 : decode prog_4_method_13_code 4 = .ok (.lreturn, 1) := by decide +kernel
theorem pn_9 : plainName "com/example/invigil/invigil/core/Evaluation" = true := by first | (simp [plainName, overriddenIn]; done) | decide +kernel
set_option maxRecDepth 65536 in
set_option maxHeartbeats 4000000 in
theorem rm_overnightAdjacent (l : Launch) (Z : State) (a0 : Array Value) (hw : ∀ d ∈ tables_1, d.before a0 Z = true) (a : Addr) (q : Int64) (h0 : Heap) (F : Fld Z h0 a "com/example/invigil/invigil/core/Evaluation" "overnightAdjacent" "J" (.long q)) :
    Met l Z (⟨"com/example/invigil/invigil/core/Evaluation", "overnightAdjacent", "()J"⟩ : MethodName) prog_4_method_13_code 1 (some .long) [] ({ frames := 0, cells := 0, slots := 0, locals := 0 } : Room) #[(.ref a)] h0 [] (fun v h => v = some (.long q) ∧ h0 = h) := by
  refine Met.walk pn_9 (Ls := #[.val (.ref a)]) (fun m => by first | (simp [entryFrame, mkF, argsToLocals, Value.category, maxLocals]; done) | rfl) ?_
  intro p e s m below meth c B
  refine B.aloadN 1 rfl d9_0 rfl rfl ?_
  refine B.getF 4 rfl d9_1 (wd hw 30 rfl) F ?_
  refine B.retL d9_4 (by decide) (by decide) ?_
  exact ⟨rfl, rfl⟩
theorem d10_0 : decode prog_6_method_7_code 0 = .ok (.aload_n 0, 1) := by decide +kernel
theorem d10_1 : decode prog_6_method_7_code 1 = .ok (.getfield 36, 3) := by decide +kernel
theorem d10_4 : decode prog_6_method_7_code 4 = .ok (.i2l, 1) := by decide +kernel
theorem d10_5 : decode prog_6_method_7_code 5 = .ok (.lload_n 1, 1) := by decide +kernel
theorem d10_6 : decode prog_6_method_7_code 6 = .ok (.lmul, 1) := by decide +kernel
theorem d10_7 : decode prog_6_method_7_code 7 = .ok (.aload_n 0, 1) := by decide +kernel
theorem d10_8 : decode prog_6_method_7_code 8 = .ok (.getfield 40, 3) := by decide +kernel
theorem d10_11 : decode prog_6_method_7_code 11 = .ok (.i2l, 1) := by decide +kernel
theorem d10_12 : decode prog_6_method_7_code 12 = .ok (.lload_n 3, 1) := by decide +kernel
theorem d10_13 : decode prog_6_method_7_code 13 = .ok (.lmul, 1) := by decide +kernel
theorem d10_14 : decode prog_6_method_7_code 14 = .ok (.ladd, 1) := by decide +kernel
theorem d10_15 : decode prog_6_method_7_code 15 = .ok (.aload_n 0, 1) := by decide +kernel
theorem d10_16 : decode prog_6_method_7_code 16 = .ok (.getfield 43, 3) := by decide +kernel
theorem d10_19 : decode prog_6_method_7_code 19 = .ok (.i2l, 1) := by decide +kernel
theorem d10_20 : decode prog_6_method_7_code 20 = .ok (.lload 5, 2) := by decide +kernel
theorem d10_22 : decode prog_6_method_7_code 22 = .ok (.lmul, 1) := by decide +kernel
theorem d10_23 : decode prog_6_method_7_code 23 = .ok (.ladd, 1) := by decide +kernel
theorem d10_24 : decode prog_6_method_7_code 24 = .ok (.lreturn, 1) := by decide +kernel
theorem pn_10 : plainName "com/example/invigil/invigil/core/Objective" = true := by first | (simp [plainName, overriddenIn]; done) | decide +kernel
set_option maxRecDepth 65536 in
set_option maxHeartbeats 4000000 in
theorem rm_cj (l : Launch) (Z : State) (a0 : Array Value) (hw : ∀ d ∈ tables_1, d.before a0 Z = true) (a : Addr) (fp fs fo : Int32) (q3 q4 q5 : Int64) (h0 : Heap) (Fp : Fld Z h0 a "com/example/invigil/invigil/core/Objective" "proximityFactor" "I" (.int fp)) (Fs : Fld Z h0 a "com/example/invigil/invigil/core/Objective" "sameDayFactor" "I" (.int fs)) (Fo : Fld Z h0 a "com/example/invigil/invigil/core/Objective" "overnightFactor" "I" (.int fo)) :
    Met l Z (⟨"com/example/invigil/invigil/core/Objective", "cost", "(JJJ)J"⟩ : MethodName) prog_6_method_7_code 7 (some .long) [] ({ frames := 0, cells := 0, slots := 0, locals := 0 } : Room) #[(.ref a), (.long q3), (.long q4), (.long q5)] h0 [] (fun v h => v = some (.long (own_cost fp fs fo q3 q4 q5)) ∧ h0 = h) := by
  refine Met.walk pn_10 (Ls := #[.val (.ref a), .val (.long q3), .second, .val (.long q4), .second, .val (.long q5), .second]) (fun m => by first | (simp [entryFrame, mkF, argsToLocals, Value.category, maxLocals]; done) | rfl) ?_
  intro p e s m below meth c B
  refine B.aloadN 1 rfl d10_0 rfl rfl ?_
  refine B.getF 4 rfl d10_1 (wd hw 65 rfl) Fp ?_
  refine B.i2l 5 rfl d10_4 ?_
  refine B.lloadN 6 rfl d10_5 rfl ?_
  refine B.lmul 7 rfl d10_6 ?_
  refine B.aloadN 8 rfl d10_7 rfl rfl ?_
  refine B.getF 11 rfl d10_8 (wd hw 37 rfl) Fs ?_
  refine B.i2l 12 rfl d10_11 ?_
  refine B.lloadN 13 rfl d10_12 rfl ?_
  refine B.lmul 14 rfl d10_13 ?_
  refine B.ladd 15 rfl d10_14 ?_
  refine B.aloadN 16 rfl d10_15 rfl rfl ?_
  refine B.getF 19 rfl d10_16 (wd hw 39 rfl) Fo ?_
  refine B.i2l 20 rfl d10_19 ?_
  refine B.lload 22 rfl d10_20 rfl ?_
  refine B.lmul 23 rfl d10_22 ?_
  refine B.ladd 24 rfl d10_23 ?_
  refine B.retL d10_24 (by decide) (by decide) ?_
  exact ⟨rfl, rfl⟩
theorem d5_0 : decode prog_6_method_4_code 0 = .ok (.aload_n 0, 1) := by decide +kernel
theorem d5_1 : decode prog_6_method_4_code 1 = .ok (.getfield 40, 3) := by decide +kernel
theorem d5_4 : decode prog_6_method_4_code 4 = .ok (.ifCond .ne 10, 3) := by decide +kernel
theorem d5_7 : decode prog_6_method_4_code 7 = .ok (.aload_n 0, 1) := by decide +kernel
theorem d5_8 : decode prog_6_method_4_code 8 = .ok (.getfield 43, 3) := by decide +kernel
theorem d5_11 : decode prog_6_method_4_code 11 = .ok (.ifCond .eq 7, 3) := by decide +kernel
theorem d5_14 : decode prog_6_method_4_code 14 = .ok (.iconst 1, 1) := by decide +kernel
theorem d5_15 : decode prog_6_method_4_code 15 = .ok (.goto 4, 3) := by decide +kernel
theorem d5_18 : decode prog_6_method_4_code 18 = .ok (.iconst 0, 1) := by decide +kernel
theorem d5_19 : decode prog_6_method_4_code 19 = .ok (.ireturn, 1) := by decide +kernel
theorem pn_5 : plainName "com/example/invigil/invigil/core/Objective" = true := by first | (simp [plainName, overriddenIn]; done) | decide +kernel
set_option maxRecDepth 65536 in
set_option maxHeartbeats 4000000 in
theorem rm_counts (l : Launch) (Z : State) (a0 : Array Value) (hw : ∀ d ∈ tables_1, d.before a0 Z = true) (a : Addr) (fs fo : Int32) (h0 : Heap) (Fs : Fld Z h0 a "com/example/invigil/invigil/core/Objective" "sameDayFactor" "I" (.int fs)) (Fo : Fld Z h0 a "com/example/invigil/invigil/core/Objective" "overnightFactor" "I" (.int fo)) :
    Met l Z (⟨"com/example/invigil/invigil/core/Objective", "countsDays", "()Z"⟩ : MethodName) prog_6_method_4_code 1 (some .boolean) [] ({ frames := 0, cells := 0, slots := 0, locals := 0 } : Room) #[(.ref a)] h0 [] (fun v h => v = some (.int (own_counts fs fo)) ∧ h0 = h) := by
  refine Met.walk pn_5 (Ls := #[.val (.ref a)]) (fun m => by first | (simp [entryFrame, mkF, argsToLocals, Value.category, maxLocals]; done) | rfl) ?_
  intro p e s m below meth c B
  refine B.aloadN 1 rfl d5_0 rfl rfl ?_
  refine B.getF 4 rfl d5_1 (wd hw 37 rfl) Fs ?_
  refine B.if0_ne 14 7 rfl (by decide) rfl d5_4 (fun c4 => ?_) (fun c4 => ?_)
  · refine B.iconst 15 rfl (1 : Int32) d5_14 rfl ?_
    refine B.goto 19 rfl (by decide) d5_15 ?_
    refine B.retN (by simp) d5_19 (by decide) (by decide) ?_
    exact ⟨by simp [own_counts, nar, c4], rfl⟩
  · refine B.aloadN 8 rfl d5_7 rfl rfl ?_
    refine B.getF 11 rfl d5_8 (wd hw 39 rfl) Fo ?_
    refine B.if0_eq 18 14 rfl (by decide) rfl d5_11 (fun c11 => ?_) (fun c11 => ?_)
    · refine B.iconst 19 rfl (0 : Int32) d5_18 rfl ?_
      refine B.retN (by simp) d5_19 (by decide) (by decide) ?_
      exact ⟨by simp [own_counts, nar, c4, c11], rfl⟩
    · refine B.iconst 15 rfl (1 : Int32) d5_14 rfl ?_
      refine B.goto 19 rfl (by decide) d5_15 ?_
      refine B.retN (by simp) d5_19 (by decide) (by decide) ?_
      exact ⟨by simp [own_counts, nar, c4, c11], rfl⟩
theorem d6_0 : decode prog_6_method_5_code 0 = .ok (.aload_n 0, 1) := by decide +kernel
theorem d6_1 : decode prog_6_method_5_code 1 = .ok (.aload_n 1, 1) := by decide +kernel
theorem d6_2 : decode prog_6_method_5_code 2 = .ok (.invokevirtual 46, 3) := by decide +kernel
theorem d6_5 : decode prog_6_method_5_code 5 = .ok (.aload_n 1, 1) := by decide +kernel
theorem d6_6 : decode prog_6_method_5_code 6 = .ok (.invokevirtual 52, 3) := by decide +kernel
theorem d6_9 : decode prog_6_method_5_code 9 = .ok (.aload_n 1, 1) := by decide +kernel
theorem d6_10 : decode prog_6_method_5_code 10 = .ok (.invokevirtual 55, 3) := by decide +kernel
theorem d6_13 : decode prog_6_method_5_code 13 = .ok (.invokevirtual 58, 3) := by decide +kernel
theorem d6_16 : decode prog_6_method_5_code 16 = .ok (.lreturn, 1) := by decide +kernel
theorem pn_6 : plainName "com/example/invigil/invigil/core/Objective" = true := by first | (simp [plainName, overriddenIn]; done) | decide +kernel
set_option maxRecDepth 65536 in
set_option maxHeartbeats 4000000 in
theorem rm_cost (l : Launch) (Z : State) (a0 : Array Value) (hw : ∀ d ∈ tables_1, d.before a0 Z = true) (a d : Addr) (fp fs fo : Int32) (q3 q4 q5 : Int64) (h0 : Heap) (E : Exa Z h0 a "com/example/invigil/invigil/core/Objective") (Fp : Fld Z h0 a "com/example/invigil/invigil/core/Objective" "proximityFactor" "I" (.int fp)) (Fs : Fld Z h0 a "com/example/invigil/invigil/core/Objective" "sameDayFactor" "I" (.int fs)) (Fo : Fld Z h0 a "com/example/invigil/invigil/core/Objective" "overnightFactor" "I" (.int fo)) (Ed : Exa Z h0 d "com/example/invigil/invigil/core/Evaluation") (G3 : Fld Z h0 d "com/example/invigil/invigil/core/Evaluation" "proximityCost" "J" (.long q3)) (G4 : Fld Z h0 d "com/example/invigil/invigil/core/Evaluation" "sameDayAdjacent" "J" (.long q4)) (G5 : Fld Z h0 d "com/example/invigil/invigil/core/Evaluation" "overnightAdjacent" "J" (.long q5)) :
    Met l Z (⟨"com/example/invigil/invigil/core/Objective", "cost", "(Lcom/example/invigil/invigil/core/Evaluation;)J"⟩ : MethodName) prog_6_method_5_code 2 (some .long) [] ({ frames := 1, cells := 0, slots := 0, locals := 18 } : Room) #[(.ref a), (.ref d)] h0 [] (fun v h => v = some (.long (own_cost fp fs fo q3 q4 q5)) ∧ h0 = h) := by
  refine Met.walk pn_6 (Ls := #[.val (.ref a), .val (.ref d)]) (fun m => by first | (simp [entryFrame, mkF, argsToLocals, Value.category, maxLocals]; done) | rfl) ?_
  intro p e s m below meth c B
  refine B.aloadN 1 rfl d6_0 rfl rfl ?_
  refine B.aloadN 2 rfl d6_1 rfl rfl ?_
  refine B.callV 5 rfl d6_2 (wd hw 46 rfl) (wd hw 47 rfl) (wd hw 49 rfl) (wd hw 48 rfl) (wd hw 10 rfl) (wd hw 50 rfl) (by decide) Ed [] [(.ref a)] (rm_proximityCost l Z a0 hw d q3 h0 G3) rfl rfl pd___J rfl rfl 1 rfl (by decide) (by decide) (by decide) (by decide) (fun _ q => nomatch q) ?_
  rintro _ _ - ⟨rfl, rfl⟩
  show B.G h0 0 0 (mkF m 5 #[.val (.ref a), .val (.ref d)] [(.long q3), (.ref a)])
  refine B.aloadN 6 rfl d6_5 rfl rfl ?_
  refine B.callV 9 rfl d6_6 (wd hw 51 rfl) (wd hw 52 rfl) (wd hw 54 rfl) (wd hw 53 rfl) (wd hw 10 rfl) (wd hw 55 rfl) (by decide) Ed [] [(.long q3), (.ref a)] (rm_sameDayAdjacent l Z a0 hw d q4 h0 G4) rfl rfl pd___J rfl rfl 3 rfl (by decide) (by decide) (by decide) (by decide) (fun _ q => nomatch q) ?_
  rintro _ _ - ⟨rfl, rfl⟩
  show B.G h0 0 0 (mkF m 9 #[.val (.ref a), .val (.ref d)] [(.long q4), (.long q3), (.ref a)])
  refine B.aloadN 10 rfl d6_9 rfl rfl ?_
  refine B.callV 13 rfl d6_10 (wd hw 56 rfl) (wd hw 57 rfl) (wd hw 59 rfl) (wd hw 58 rfl) (wd hw 10 rfl) (wd hw 60 rfl) (by decide) Ed [] [(.long q4), (.long q3), (.ref a)] (rm_overnightAdjacent l Z a0 hw d q5 h0 G5) rfl rfl pd___J rfl rfl 5 rfl (by decide) (by decide) (by decide) (by decide) (fun _ q => nomatch q) ?_
  rintro _ _ - ⟨rfl, rfl⟩
  show B.G h0 0 0 (mkF m 13 #[.val (.ref a), .val (.ref d)] [(.long q5), (.long q4), (.long q3), (.ref a)])
  refine B.callP 16 rfl d6_13 (wd hw 61 rfl) (wd hw 63 rfl) (wd hw 62 rfl) (wd hw 35 rfl) rfl (wd hw 6 rfl) (wd hw 64 rfl) (by decide) E [(.long q3), (.long q4), (.long q5)] [] (rm_cj l Z a0 hw a fp fs fo q3 q4 q5 h0 Fp Fs Fo) rfl rfl pd__JJJ_J rfl rfl 0 rfl (by decide) (by decide) (by decide) (by decide) (fun _ q => nomatch q) ?_
  rintro _ _ - ⟨rfl, rfl⟩
  show B.G h0 0 0 (mkF m 16 #[.val (.ref a), .val (.ref d)] [(.long (own_cost fp fs fo q3 q4 q5))])
  refine B.retL d6_16 (by decide) (by decide) ?_
  exact ⟨rfl, rfl⟩
theorem pn_0 : plainName "com/example/invigil/invigil/core/ObjectiveCountsDaysPinLaw" = true := by first | (simp [plainName, overriddenIn]; done) | decide +kernel
set_option maxRecDepth 65536 in
set_option maxHeartbeats 4000000 in
theorem rm0 (l : Launch) (Z : State) (a0 : Array Value) (hw : ∀ d ∈ tables_1, d.before a0 Z = true) (wds : List Jvm.Cond) (p1 : Int32) (p2 p3 p4 p5 : Int64) (h0 : Heap) (a_PROXIMITY : Addr) (S_PROXIMITY : Sta Z h0 "com/example/invigil/invigil/core/Objective" "PROXIMITY" "Lcom/example/invigil/invigil/core/Objective;" (.ref a_PROXIMITY)) (E_PROXIMITY : Exa Z h0 a_PROXIMITY "com/example/invigil/invigil/core/Objective") (F_PROXIMITY_proximityFactor : Fld Z h0 a_PROXIMITY "com/example/invigil/invigil/core/Objective" "proximityFactor" "I" (.int (1 : Int32))) (F_PROXIMITY_sameDayFactor : Fld Z h0 a_PROXIMITY "com/example/invigil/invigil/core/Objective" "sameDayFactor" "I" (.int (0 : Int32))) (F_PROXIMITY_overnightFactor : Fld Z h0 a_PROXIMITY "com/example/invigil/invigil/core/Objective" "overnightFactor" "I" (.int (0 : Int32))) (a_ADJACENT : Addr) (S_ADJACENT : Sta Z h0 "com/example/invigil/invigil/core/Objective" "ADJACENT" "Lcom/example/invigil/invigil/core/Objective;" (.ref a_ADJACENT)) (E_ADJACENT : Exa Z h0 a_ADJACENT "com/example/invigil/invigil/core/Objective") (F_ADJACENT_proximityFactor : Fld Z h0 a_ADJACENT "com/example/invigil/invigil/core/Objective" "proximityFactor" "I" (.int (0 : Int32))) (F_ADJACENT_sameDayFactor : Fld Z h0 a_ADJACENT "com/example/invigil/invigil/core/Objective" "sameDayFactor" "I" (.int (1 : Int32))) (F_ADJACENT_overnightFactor : Fld Z h0 a_ADJACENT "com/example/invigil/invigil/core/Objective" "overnightFactor" "I" (.int (0 : Int32))) (a_ADJACENT_OVERNIGHT : Addr) (S_ADJACENT_OVERNIGHT : Sta Z h0 "com/example/invigil/invigil/core/Objective" "ADJACENT_OVERNIGHT" "Lcom/example/invigil/invigil/core/Objective;" (.ref a_ADJACENT_OVERNIGHT)) (E_ADJACENT_OVERNIGHT : Exa Z h0 a_ADJACENT_OVERNIGHT "com/example/invigil/invigil/core/Objective") (F_ADJACENT_OVERNIGHT_proximityFactor : Fld Z h0 a_ADJACENT_OVERNIGHT "com/example/invigil/invigil/core/Objective" "proximityFactor" "I" (.int (0 : Int32))) (F_ADJACENT_OVERNIGHT_sameDayFactor : Fld Z h0 a_ADJACENT_OVERNIGHT "com/example/invigil/invigil/core/Objective" "sameDayFactor" "I" (.int (3 : Int32))) (F_ADJACENT_OVERNIGHT_overnightFactor : Fld Z h0 a_ADJACENT_OVERNIGHT "com/example/invigil/invigil/core/Objective" "overnightFactor" "I" (.int (1 : Int32))) :
    Met l Z x code maxLocals ret wds room_1 #[(.int p1), (.long p2), (.long p3), (.long p4), (.long p5)] h0 [] (fun v _ => v = some (.int 1)) := by
  refine Met.walk pn_0 (Ls := #[.val (.int p1), .val (.long p2), .second, .val (.long p3), .second, .val (.long p4), .second, .val (.long p5), .second, .unset, .unset, .unset, .unset, .unset, .unset, .unset, .unset, .unset, .unset]) (fun m => by first | (simp [entryFrame, mkF, argsToLocals, Value.category, maxLocals]; done) | rfl) ?_
  intro p e s m below meth c B
  refine B.iloadN 1 rfl at_0 rfl ?_
  refine B.ldcI 3 rfl at_1 (wd hw 0 rfl) ?_
  refine B.iand 4 rfl at_3 ?_
  refine B.iconst 5 rfl (3 : Int32) at_4 rfl ?_
  refine B.irem 6 rfl at_5 (by decide) ?_
  have hk := own_k p1
  generalize (p1 &&& (2147483647 : Int32)) % (3 : Int32) = k at hk ⊢
  rcases hk with rfl | rfl | rfl
  · refine B.istore 8 rfl at_6 #[.val (.int p1), .val (.long p2), .second, .val (.long p3), .second, .val (.long p4), .second, .val (.long p5), .second, .val (.int (0 : Int32)), .unset, .unset, .unset, .unset, .unset, .unset, .unset, .unset, .unset] rfl ?_
    refine B.iload 10 rfl at_8 rfl ?_
    refine B.callS 13 rfl at_10 (wd hw 1 rfl) (wd hw 2 rfl) (wd hw 3 rfl) (wd hw 4 rfl) (by decide) [(.int (0 : Int32))] [] (rm_pick0 l Z a0 hw a_PROXIMITY h0 S_PROXIMITY) rfl rfl pd__I_Lcom_example_invigil_invigil_core_Objective_ rfl rfl 0 rfl (by decide) (by decide) (by decide) (by decide) (fun _ q => nomatch q) ?_
    rintro _ _ - ⟨rfl, rfl⟩
    show B.G h0 0 0 (mkF m 13 #[.val (.int p1), .val (.long p2), .second, .val (.long p3), .second, .val (.long p4), .second, .val (.long p5), .second, .val (.int (0 : Int32)), .unset, .unset, .unset, .unset, .unset, .unset, .unset, .unset, .unset] [(.ref a_PROXIMITY)])
    refine B.astore 15 rfl at_13 rfl #[.val (.int p1), .val (.long p2), .second, .val (.long p3), .second, .val (.long p4), .second, .val (.long p5), .second, .val (.int (0 : Int32)), .val (.ref a_PROXIMITY), .unset, .unset, .unset, .unset, .unset, .unset, .unset, .unset] rfl ?_
    refine B.iload 17 rfl at_15 rfl ?_
    refine B.if0_eq 24 20 rfl (by decide) rfl at_17 (fun c17 => ?_) (fun c17 => ?_)
    · refine B.iconst 25 rfl (0 : Int32) at_24 rfl ?_
      refine B.istore 27 rfl at_25 #[.val (.int p1), .val (.long p2), .second, .val (.long p3), .second, .val (.long p4), .second, .val (.long p5), .second, .val (.int (0 : Int32)), .val (.ref a_PROXIMITY), .val (.int (0 : Int32)), .unset, .unset, .unset, .unset, .unset, .unset, .unset] rfl ?_
      refine B.newO 30 rfl at_27 (wd hw 8 rfl) (wd hw 9 rfl) (wd hw 10 rfl) (by decide) (by decide) ?_
      intro hn1 d1 ed1 gd1 X1 A1 D1
      show B.G hn1 1 5 (mkF m 30 #[.val (.int p1), .val (.long p2), .second, .val (.long p3), .second, .val (.long p4), .second, .val (.long p5), .second, .val (.int (0 : Int32)), .val (.ref a_PROXIMITY), .val (.int (0 : Int32)), .unset, .unset, .unset, .unset, .unset, .unset, .unset] [(.ref d1)])
      refine B.dup 31 rfl at_30 rfl ?_
      refine B.lloadN 32 rfl at_31 rfl ?_
      refine B.lloadN 33 rfl at_32 rfl ?_
      refine B.lconst 34 rfl (0 : Int64) at_33 rfl ?_
      refine B.lload 36 rfl at_34 rfl ?_
      refine B.lload 38 rfl at_36 rfl ?_
      have G1clashes : Fld Z hn1 d1 "com/example/invigil/invigil/core/Evaluation" "clashes" "J" (.long 0) := D1 (Or.inr (wd hw 23 rfl)) (ty := .long) (by decide)
      have G1seatOverflow : Fld Z hn1 d1 "com/example/invigil/invigil/core/Evaluation" "seatOverflow" "J" (.long 0) := D1 (Or.inr (wd hw 25 rfl)) (ty := .long) (by decide)
      have G1proximityCost : Fld Z hn1 d1 "com/example/invigil/invigil/core/Evaluation" "proximityCost" "J" (.long 0) := D1 (Or.inr (wd hw 27 rfl)) (ty := .long) (by decide)
      have G1sameDayAdjacent : Fld Z hn1 d1 "com/example/invigil/invigil/core/Evaluation" "sameDayAdjacent" "J" (.long 0) := D1 (Or.inr (wd hw 29 rfl)) (ty := .long) (by decide)
      have G1overnightAdjacent : Fld Z hn1 d1 "com/example/invigil/invigil/core/Evaluation" "overnightAdjacent" "J" (.long 0) := D1 (Or.inr (wd hw 31 rfl)) (ty := .long) (by decide)
      refine B.callI 41 rfl at_38 rfl (wd hw 11 rfl) (wd hw 12 rfl) (wd hw 10 rfl) (wd hw 13 rfl) (by decide) [(.long p2), (.long p3), (.long (0 : Int64)), (.long p4), (.long p5)] [(.ref d1)] (rm_init l Z a0 hw d1 p2 p3 (0 : Int64) p4 p5 hn1 A1 G1clashes G1seatOverflow G1proximityCost G1sameDayAdjacent G1overnightAdjacent) rfl rfl pd__JJJJJ_V rfl rfl 1 rfl (by decide) (by decide) (by decide) (by decide) (fun x z => Or.inr (by cases List.mem_singleton.mp z; exact gd1)) ?_
      rintro _ hm1 K1 ⟨rfl, Ed1, Gp1, Gs1, Go1⟩
      show B.G hm1 1 5 (mkF m 41 #[.val (.int p1), .val (.long p2), .second, .val (.long p3), .second, .val (.long p4), .second, .val (.long p5), .second, .val (.int (0 : Int32)), .val (.ref a_PROXIMITY), .val (.int (0 : Int32)), .unset, .unset, .unset, .unset, .unset, .unset, .unset] [(.ref d1)])
      refine B.astore 43 rfl at_41 rfl #[.val (.int p1), .val (.long p2), .second, .val (.long p3), .second, .val (.long p4), .second, .val (.long p5), .second, .val (.int (0 : Int32)), .val (.ref a_PROXIMITY), .val (.int (0 : Int32)), .val (.ref d1), .unset, .unset, .unset, .unset, .unset, .unset] rfl ?_
      refine B.newO 46 rfl at_43 (wd hw 8 rfl) (wd hw 9 rfl) (wd hw 10 rfl) (by decide) (by decide) ?_
      intro hn2 d2 ed2 gd2 X2 A2 D2
      show B.G hn2 2 10 (mkF m 46 #[.val (.int p1), .val (.long p2), .second, .val (.long p3), .second, .val (.long p4), .second, .val (.long p5), .second, .val (.int (0 : Int32)), .val (.ref a_PROXIMITY), .val (.int (0 : Int32)), .val (.ref d1), .unset, .unset, .unset, .unset, .unset, .unset] [(.ref d2)])
      have n_d1_d2 : d1 ≠ d2 := fun q => absurd Ed1.lt (by rw [q, ed2]; exact Nat.lt_irrefl _)
      have Ed1_3 := Ed1.ext X2
      have Gp1_3 := Gp1.ext X2
      have Gs1_3 := Gs1.ext X2
      have Go1_3 := Go1.ext X2
      refine B.dup 47 rfl at_46 rfl ?_
      refine B.lconst 48 rfl (0 : Int64) at_47 rfl ?_
      refine B.lconst 49 rfl (0 : Int64) at_48 rfl ?_
      refine B.lconst 50 rfl (0 : Int64) at_49 rfl ?_
      refine B.lconst 51 rfl (1 : Int64) at_50 rfl ?_
      refine B.lconst 52 rfl (0 : Int64) at_51 rfl ?_
      have G2clashes : Fld Z hn2 d2 "com/example/invigil/invigil/core/Evaluation" "clashes" "J" (.long 0) := D2 (Or.inr (wd hw 23 rfl)) (ty := .long) (by decide)
      have G2seatOverflow : Fld Z hn2 d2 "com/example/invigil/invigil/core/Evaluation" "seatOverflow" "J" (.long 0) := D2 (Or.inr (wd hw 25 rfl)) (ty := .long) (by decide)
      have G2proximityCost : Fld Z hn2 d2 "com/example/invigil/invigil/core/Evaluation" "proximityCost" "J" (.long 0) := D2 (Or.inr (wd hw 27 rfl)) (ty := .long) (by decide)
      have G2sameDayAdjacent : Fld Z hn2 d2 "com/example/invigil/invigil/core/Evaluation" "sameDayAdjacent" "J" (.long 0) := D2 (Or.inr (wd hw 29 rfl)) (ty := .long) (by decide)
      have G2overnightAdjacent : Fld Z hn2 d2 "com/example/invigil/invigil/core/Evaluation" "overnightAdjacent" "J" (.long 0) := D2 (Or.inr (wd hw 31 rfl)) (ty := .long) (by decide)
      refine B.callI 55 rfl at_52 rfl (wd hw 11 rfl) (wd hw 12 rfl) (wd hw 10 rfl) (wd hw 13 rfl) (by decide) [(.long (0 : Int64)), (.long (0 : Int64)), (.long (0 : Int64)), (.long (1 : Int64)), (.long (0 : Int64))] [(.ref d2)] (rm_init l Z a0 hw d2 (0 : Int64) (0 : Int64) (0 : Int64) (1 : Int64) (0 : Int64) hn2 A2 G2clashes G2seatOverflow G2proximityCost G2sameDayAdjacent G2overnightAdjacent) rfl rfl pd__JJJJJ_V rfl rfl 1 rfl (by decide) (by decide) (by decide) (by decide) (fun x z => Or.inr (by cases List.mem_singleton.mp z; exact gd2)) ?_
      rintro _ hm2 K2 ⟨rfl, Ed2, Gp2, Gs2, Go2⟩
      show B.G hm2 2 10 (mkF m 55 #[.val (.int p1), .val (.long p2), .second, .val (.long p3), .second, .val (.long p4), .second, .val (.long p5), .second, .val (.int (0 : Int32)), .val (.ref a_PROXIMITY), .val (.int (0 : Int32)), .val (.ref d1), .unset, .unset, .unset, .unset, .unset, .unset] [(.ref d2)])
      have Ed1_4 := Ed1_3.keep K2
      have Gp1_4 := Gp1_3.keep K2 (ninS n_d1_d2 nin0)
      have Gs1_4 := Gs1_3.keep K2 (ninS n_d1_d2 nin0)
      have Go1_4 := Go1_3.keep K2 (ninS n_d1_d2 nin0)
      refine B.astore 57 rfl at_55 rfl #[.val (.int p1), .val (.long p2), .second, .val (.long p3), .second, .val (.long p4), .second, .val (.long p5), .second, .val (.int (0 : Int32)), .val (.ref a_PROXIMITY), .val (.int (0 : Int32)), .val (.ref d1), .val (.ref d2), .unset, .unset, .unset, .unset, .unset] rfl ?_
      refine B.newO 60 rfl at_57 (wd hw 8 rfl) (wd hw 9 rfl) (wd hw 10 rfl) (by decide) (by decide) ?_
      intro hn3 d3 ed3 gd3 X3 A3 D3
      show B.G hn3 3 15 (mkF m 60 #[.val (.int p1), .val (.long p2), .second, .val (.long p3), .second, .val (.long p4), .second, .val (.long p5), .second, .val (.int (0 : Int32)), .val (.ref a_PROXIMITY), .val (.int (0 : Int32)), .val (.ref d1), .val (.ref d2), .unset, .unset, .unset, .unset, .unset] [(.ref d3)])
      have n_d1_d3 : d1 ≠ d3 := fun q => absurd Ed1_4.lt (by rw [q, ed3]; exact Nat.lt_irrefl _)
      have n_d2_d3 : d2 ≠ d3 := fun q => absurd Ed2.lt (by rw [q, ed3]; exact Nat.lt_irrefl _)
      have Ed1_5 := Ed1_4.ext X3
      have Gp1_5 := Gp1_4.ext X3
      have Gs1_5 := Gs1_4.ext X3
      have Go1_5 := Go1_4.ext X3
      have Ed2_5 := Ed2.ext X3
      have Gp2_5 := Gp2.ext X3
      have Gs2_5 := Gs2.ext X3
      have Go2_5 := Go2.ext X3
      refine B.dup 61 rfl at_60 rfl ?_
      refine B.lconst 62 rfl (0 : Int64) at_61 rfl ?_
      refine B.lconst 63 rfl (0 : Int64) at_62 rfl ?_
      refine B.lconst 64 rfl (0 : Int64) at_63 rfl ?_
      refine B.lconst 65 rfl (0 : Int64) at_64 rfl ?_
      refine B.lconst 66 rfl (1 : Int64) at_65 rfl ?_
      have G3clashes : Fld Z hn3 d3 "com/example/invigil/invigil/core/Evaluation" "clashes" "J" (.long 0) := D3 (Or.inr (wd hw 23 rfl)) (ty := .long) (by decide)
      have G3seatOverflow : Fld Z hn3 d3 "com/example/invigil/invigil/core/Evaluation" "seatOverflow" "J" (.long 0) := D3 (Or.inr (wd hw 25 rfl)) (ty := .long) (by decide)
      have G3proximityCost : Fld Z hn3 d3 "com/example/invigil/invigil/core/Evaluation" "proximityCost" "J" (.long 0) := D3 (Or.inr (wd hw 27 rfl)) (ty := .long) (by decide)
      have G3sameDayAdjacent : Fld Z hn3 d3 "com/example/invigil/invigil/core/Evaluation" "sameDayAdjacent" "J" (.long 0) := D3 (Or.inr (wd hw 29 rfl)) (ty := .long) (by decide)
      have G3overnightAdjacent : Fld Z hn3 d3 "com/example/invigil/invigil/core/Evaluation" "overnightAdjacent" "J" (.long 0) := D3 (Or.inr (wd hw 31 rfl)) (ty := .long) (by decide)
      refine B.callI 69 rfl at_66 rfl (wd hw 11 rfl) (wd hw 12 rfl) (wd hw 10 rfl) (wd hw 13 rfl) (by decide) [(.long (0 : Int64)), (.long (0 : Int64)), (.long (0 : Int64)), (.long (0 : Int64)), (.long (1 : Int64))] [(.ref d3)] (rm_init l Z a0 hw d3 (0 : Int64) (0 : Int64) (0 : Int64) (0 : Int64) (1 : Int64) hn3 A3 G3clashes G3seatOverflow G3proximityCost G3sameDayAdjacent G3overnightAdjacent) rfl rfl pd__JJJJJ_V rfl rfl 1 rfl (by decide) (by decide) (by decide) (by decide) (fun x z => Or.inr (by cases List.mem_singleton.mp z; exact gd3)) ?_
      rintro _ hm3 K3 ⟨rfl, Ed3, Gp3, Gs3, Go3⟩
      show B.G hm3 3 15 (mkF m 69 #[.val (.int p1), .val (.long p2), .second, .val (.long p3), .second, .val (.long p4), .second, .val (.long p5), .second, .val (.int (0 : Int32)), .val (.ref a_PROXIMITY), .val (.int (0 : Int32)), .val (.ref d1), .val (.ref d2), .unset, .unset, .unset, .unset, .unset] [(.ref d3)])
      have Ed1_6 := Ed1_5.keep K3
      have Gp1_6 := Gp1_5.keep K3 (ninS n_d1_d3 nin0)
      have Gs1_6 := Gs1_5.keep K3 (ninS n_d1_d3 nin0)
      have Go1_6 := Go1_5.keep K3 (ninS n_d1_d3 nin0)
      have Ed2_6 := Ed2_5.keep K3
      have Gp2_6 := Gp2_5.keep K3 (ninS n_d2_d3 nin0)
      have Gs2_6 := Gs2_5.keep K3 (ninS n_d2_d3 nin0)
      have Go2_6 := Go2_5.keep K3 (ninS n_d2_d3 nin0)
      refine B.astore 71 rfl at_69 rfl #[.val (.int p1), .val (.long p2), .second, .val (.long p3), .second, .val (.long p4), .second, .val (.long p5), .second, .val (.int (0 : Int32)), .val (.ref a_PROXIMITY), .val (.int (0 : Int32)), .val (.ref d1), .val (.ref d2), .val (.ref d3), .unset, .unset, .unset, .unset] rfl ?_
      refine B.olds fun X => ?_
      have EO := E_PROXIMITY.ext X
      have O_proximityFactor := F_PROXIMITY_proximityFactor.ext X
      have O_sameDayFactor := F_PROXIMITY_sameDayFactor.ext X
      have O_overnightFactor := F_PROXIMITY_overnightFactor.ext X
      refine B.aload 73 rfl at_71 rfl rfl ?_
      refine B.callV 76 rfl at_73 (wd hw 32 rfl) (wd hw 33 rfl) (wd hw 35 rfl) (wd hw 34 rfl) (wd hw 6 rfl) (wd hw 36 rfl) (by decide) EO [] [] (rm_counts l Z a0 hw a_PROXIMITY (0 : Int32) (0 : Int32) hm3 O_sameDayFactor O_overnightFactor) rfl rfl pd___Z rfl rfl 0 rfl (by decide) (by decide) (by decide) (by decide) (fun _ q => nomatch q) ?_
      rintro _ _ - ⟨rfl, rfl⟩
      show B.G hm3 3 15 (mkF m 76 #[.val (.int p1), .val (.long p2), .second, .val (.long p3), .second, .val (.long p4), .second, .val (.long p5), .second, .val (.int (0 : Int32)), .val (.ref a_PROXIMITY), .val (.int (0 : Int32)), .val (.ref d1), .val (.ref d2), .val (.ref d3), .unset, .unset, .unset, .unset] [(.int (0 : Int32))])
      refine B.istore 78 rfl at_76 #[.val (.int p1), .val (.long p2), .second, .val (.long p3), .second, .val (.long p4), .second, .val (.long p5), .second, .val (.int (0 : Int32)), .val (.ref a_PROXIMITY), .val (.int (0 : Int32)), .val (.ref d1), .val (.ref d2), .val (.ref d3), .val (.int (0 : Int32)), .unset, .unset, .unset] rfl ?_
      refine B.aload 80 rfl at_78 rfl rfl ?_
      refine B.aload 82 rfl at_80 rfl rfl ?_
      refine B.callV 85 rfl at_82 (wd hw 41 rfl) (wd hw 42 rfl) (wd hw 44 rfl) (wd hw 43 rfl) (wd hw 6 rfl) (wd hw 45 rfl) (by decide) EO [(.ref d1)] [] (rm_cost l Z a0 hw a_PROXIMITY d1 (1 : Int32) (0 : Int32) (0 : Int32) (0 : Int64) p4 p5 hm3 EO O_proximityFactor O_sameDayFactor O_overnightFactor Ed1_6 Gp1_6 Gs1_6 Go1_6) rfl rfl pd__Lcom_example_invigil_invigil_core_Evaluation__J rfl rfl 0 rfl (by decide) (by decide) (by decide) (by decide) (fun _ q => nomatch q) ?_
      rintro _ _ - ⟨rfl, rfl⟩
      show B.G hm3 3 15 (mkF m 85 #[.val (.int p1), .val (.long p2), .second, .val (.long p3), .second, .val (.long p4), .second, .val (.long p5), .second, .val (.int (0 : Int32)), .val (.ref a_PROXIMITY), .val (.int (0 : Int32)), .val (.ref d1), .val (.ref d2), .val (.ref d3), .val (.int (0 : Int32)), .unset, .unset, .unset] [(.long (own_cost (1 : Int32) (0 : Int32) (0 : Int32) (0 : Int64) p4 p5))])
      refine B.lstore 87 rfl at_85 #[.val (.int p1), .val (.long p2), .second, .val (.long p3), .second, .val (.long p4), .second, .val (.long p5), .second, .val (.int (0 : Int32)), .val (.ref a_PROXIMITY), .val (.int (0 : Int32)), .val (.ref d1), .val (.ref d2), .val (.ref d3), .val (.int (0 : Int32)), .val (.long (own_cost (1 : Int32) (0 : Int32) (0 : Int32) (0 : Int64) p4 p5)), .second, .unset] rfl ?_
      refine B.aload 89 rfl at_87 rfl rfl ?_
      refine B.aload 91 rfl at_89 rfl rfl ?_
      refine B.callV 94 rfl at_91 (wd hw 41 rfl) (wd hw 42 rfl) (wd hw 44 rfl) (wd hw 43 rfl) (wd hw 6 rfl) (wd hw 45 rfl) (by decide) EO [(.ref d2)] [] (rm_cost l Z a0 hw a_PROXIMITY d2 (1 : Int32) (0 : Int32) (0 : Int32) (0 : Int64) (1 : Int64) (0 : Int64) hm3 EO O_proximityFactor O_sameDayFactor O_overnightFactor Ed2_6 Gp2_6 Gs2_6 Go2_6) rfl rfl pd__Lcom_example_invigil_invigil_core_Evaluation__J rfl rfl 0 rfl (by decide) (by decide) (by decide) (by decide) (fun _ q => nomatch q) ?_
      rintro _ _ - ⟨rfl, rfl⟩
      show B.G hm3 3 15 (mkF m 94 #[.val (.int p1), .val (.long p2), .second, .val (.long p3), .second, .val (.long p4), .second, .val (.long p5), .second, .val (.int (0 : Int32)), .val (.ref a_PROXIMITY), .val (.int (0 : Int32)), .val (.ref d1), .val (.ref d2), .val (.ref d3), .val (.int (0 : Int32)), .val (.long (own_cost (1 : Int32) (0 : Int32) (0 : Int32) (0 : Int64) p4 p5)), .second, .unset] [(.long (own_cost (1 : Int32) (0 : Int32) (0 : Int32) (0 : Int64) (1 : Int64) (0 : Int64)))])
      refine B.lconst 95 rfl (0 : Int64) at_94 rfl ?_
      refine B.lcmp 96 rfl at_95 ?_
      refine B.lif_ne 111 99 rfl (by decide) rfl at_96 (fun c96 => ?_) (fun c96 => ?_)
      · exact absurd (by decide) c96
      · refine B.aload 101 rfl at_99 rfl rfl ?_
        refine B.aload 103 rfl at_101 rfl rfl ?_
        refine B.callV 106 rfl at_103 (wd hw 41 rfl) (wd hw 42 rfl) (wd hw 44 rfl) (wd hw 43 rfl) (wd hw 6 rfl) (wd hw 45 rfl) (by decide) EO [(.ref d3)] [] (rm_cost l Z a0 hw a_PROXIMITY d3 (1 : Int32) (0 : Int32) (0 : Int32) (0 : Int64) (0 : Int64) (1 : Int64) hm3 EO O_proximityFactor O_sameDayFactor O_overnightFactor Ed3 Gp3 Gs3 Go3) rfl rfl pd__Lcom_example_invigil_invigil_core_Evaluation__J rfl rfl 0 rfl (by decide) (by decide) (by decide) (by decide) (fun _ q => nomatch q) ?_
        rintro _ _ - ⟨rfl, rfl⟩
        show B.G hm3 3 15 (mkF m 106 #[.val (.int p1), .val (.long p2), .second, .val (.long p3), .second, .val (.long p4), .second, .val (.long p5), .second, .val (.int (0 : Int32)), .val (.ref a_PROXIMITY), .val (.int (0 : Int32)), .val (.ref d1), .val (.ref d2), .val (.ref d3), .val (.int (0 : Int32)), .val (.long (own_cost (1 : Int32) (0 : Int32) (0 : Int32) (0 : Int64) p4 p5)), .second, .unset] [(.long (own_cost (1 : Int32) (0 : Int32) (0 : Int32) (0 : Int64) (0 : Int64) (1 : Int64)))])
        refine B.lconst 107 rfl (0 : Int64) at_106 rfl ?_
        refine B.lcmp 108 rfl at_107 ?_
        refine B.lif_eq 115 111 rfl (by decide) rfl at_108 (fun c108 => ?_) (fun c108 => ?_)
        · refine B.iconst 116 rfl (0 : Int32) at_115 rfl ?_
          refine B.istore 118 rfl at_116 #[.val (.int p1), .val (.long p2), .second, .val (.long p3), .second, .val (.long p4), .second, .val (.long p5), .second, .val (.int (0 : Int32)), .val (.ref a_PROXIMITY), .val (.int (0 : Int32)), .val (.ref d1), .val (.ref d2), .val (.ref d3), .val (.int (0 : Int32)), .val (.long (own_cost (1 : Int32) (0 : Int32) (0 : Int32) (0 : Int64) p4 p5)), .second, .val (.int (0 : Int32))] rfl ?_
          refine B.iload 120 rfl at_118 rfl ?_
          refine B.iload 122 rfl at_120 rfl ?_
          refine B.icmp_ne 148 125 rfl (by decide) rfl at_122 (fun c122 => ?_) (fun c122 => ?_)
          · exact absurd c122 (by decide)
          · refine B.iload 127 rfl at_125 rfl ?_
            refine B.iload 129 rfl at_127 rfl ?_
            refine B.icmp_ne 148 132 rfl (by decide) rfl at_129 (fun c129 => ?_) (fun c129 => ?_)
            · exact absurd c129 (by decide)
            · refine B.iload 134 rfl at_132 rfl ?_
              refine B.if0_ne 144 137 rfl (by decide) rfl at_134 (fun c134 => ?_) (fun c134 => ?_)
              · exact absurd c134 (by decide)
              · refine B.lload 139 rfl at_137 rfl ?_
                refine B.lconst 140 rfl (0 : Int64) at_139 rfl ?_
                refine B.lcmp 141 rfl at_140 ?_
                refine B.lif_ne 148 144 rfl (by decide) rfl at_141 (fun c141 => ?_) (fun c141 => ?_)
                · exact absurd (by simp [own_cost]) c141
                · refine B.iconst 145 rfl (1 : Int32) at_144 rfl ?_
                  refine B.goto 149 rfl (by decide) at_145 ?_
                  refine B.retN (by simp) at_149 (by decide) (by decide) ?_
                  exact rfl
        · exact absurd (by decide) c108
    · exact absurd c17 (by decide)
  · refine B.istore 8 rfl at_6 #[.val (.int p1), .val (.long p2), .second, .val (.long p3), .second, .val (.long p4), .second, .val (.long p5), .second, .val (.int (1 : Int32)), .unset, .unset, .unset, .unset, .unset, .unset, .unset, .unset, .unset] rfl ?_
    refine B.iload 10 rfl at_8 rfl ?_
    refine B.callS 13 rfl at_10 (wd hw 1 rfl) (wd hw 2 rfl) (wd hw 3 rfl) (wd hw 4 rfl) (by decide) [(.int (1 : Int32))] [] (rm_pick1 l Z a0 hw a_ADJACENT h0 S_ADJACENT) rfl rfl pd__I_Lcom_example_invigil_invigil_core_Objective_ rfl rfl 0 rfl (by decide) (by decide) (by decide) (by decide) (fun _ q => nomatch q) ?_
    rintro _ _ - ⟨rfl, rfl⟩
    show B.G h0 0 0 (mkF m 13 #[.val (.int p1), .val (.long p2), .second, .val (.long p3), .second, .val (.long p4), .second, .val (.long p5), .second, .val (.int (1 : Int32)), .unset, .unset, .unset, .unset, .unset, .unset, .unset, .unset, .unset] [(.ref a_ADJACENT)])
    refine B.astore 15 rfl at_13 rfl #[.val (.int p1), .val (.long p2), .second, .val (.long p3), .second, .val (.long p4), .second, .val (.long p5), .second, .val (.int (1 : Int32)), .val (.ref a_ADJACENT), .unset, .unset, .unset, .unset, .unset, .unset, .unset, .unset] rfl ?_
    refine B.iload 17 rfl at_15 rfl ?_
    refine B.if0_eq 24 20 rfl (by decide) rfl at_17 (fun c17 => ?_) (fun c17 => ?_)
    · exact absurd c17 (by decide)
    · refine B.iconst 21 rfl (1 : Int32) at_20 rfl ?_
      refine B.goto 25 rfl (by decide) at_21 ?_
      refine B.istore 27 rfl at_25 #[.val (.int p1), .val (.long p2), .second, .val (.long p3), .second, .val (.long p4), .second, .val (.long p5), .second, .val (.int (1 : Int32)), .val (.ref a_ADJACENT), .val (.int (1 : Int32)), .unset, .unset, .unset, .unset, .unset, .unset, .unset] rfl ?_
      refine B.newO 30 rfl at_27 (wd hw 8 rfl) (wd hw 9 rfl) (wd hw 10 rfl) (by decide) (by decide) ?_
      intro hn1 d1 ed1 gd1 X1 A1 D1
      show B.G hn1 1 5 (mkF m 30 #[.val (.int p1), .val (.long p2), .second, .val (.long p3), .second, .val (.long p4), .second, .val (.long p5), .second, .val (.int (1 : Int32)), .val (.ref a_ADJACENT), .val (.int (1 : Int32)), .unset, .unset, .unset, .unset, .unset, .unset, .unset] [(.ref d1)])
      refine B.dup 31 rfl at_30 rfl ?_
      refine B.lloadN 32 rfl at_31 rfl ?_
      refine B.lloadN 33 rfl at_32 rfl ?_
      refine B.lconst 34 rfl (0 : Int64) at_33 rfl ?_
      refine B.lload 36 rfl at_34 rfl ?_
      refine B.lload 38 rfl at_36 rfl ?_
      have G1clashes : Fld Z hn1 d1 "com/example/invigil/invigil/core/Evaluation" "clashes" "J" (.long 0) := D1 (Or.inr (wd hw 23 rfl)) (ty := .long) (by decide)
      have G1seatOverflow : Fld Z hn1 d1 "com/example/invigil/invigil/core/Evaluation" "seatOverflow" "J" (.long 0) := D1 (Or.inr (wd hw 25 rfl)) (ty := .long) (by decide)
      have G1proximityCost : Fld Z hn1 d1 "com/example/invigil/invigil/core/Evaluation" "proximityCost" "J" (.long 0) := D1 (Or.inr (wd hw 27 rfl)) (ty := .long) (by decide)
      have G1sameDayAdjacent : Fld Z hn1 d1 "com/example/invigil/invigil/core/Evaluation" "sameDayAdjacent" "J" (.long 0) := D1 (Or.inr (wd hw 29 rfl)) (ty := .long) (by decide)
      have G1overnightAdjacent : Fld Z hn1 d1 "com/example/invigil/invigil/core/Evaluation" "overnightAdjacent" "J" (.long 0) := D1 (Or.inr (wd hw 31 rfl)) (ty := .long) (by decide)
      refine B.callI 41 rfl at_38 rfl (wd hw 11 rfl) (wd hw 12 rfl) (wd hw 10 rfl) (wd hw 13 rfl) (by decide) [(.long p2), (.long p3), (.long (0 : Int64)), (.long p4), (.long p5)] [(.ref d1)] (rm_init l Z a0 hw d1 p2 p3 (0 : Int64) p4 p5 hn1 A1 G1clashes G1seatOverflow G1proximityCost G1sameDayAdjacent G1overnightAdjacent) rfl rfl pd__JJJJJ_V rfl rfl 1 rfl (by decide) (by decide) (by decide) (by decide) (fun x z => Or.inr (by cases List.mem_singleton.mp z; exact gd1)) ?_
      rintro _ hm1 K1 ⟨rfl, Ed1, Gp1, Gs1, Go1⟩
      show B.G hm1 1 5 (mkF m 41 #[.val (.int p1), .val (.long p2), .second, .val (.long p3), .second, .val (.long p4), .second, .val (.long p5), .second, .val (.int (1 : Int32)), .val (.ref a_ADJACENT), .val (.int (1 : Int32)), .unset, .unset, .unset, .unset, .unset, .unset, .unset] [(.ref d1)])
      refine B.astore 43 rfl at_41 rfl #[.val (.int p1), .val (.long p2), .second, .val (.long p3), .second, .val (.long p4), .second, .val (.long p5), .second, .val (.int (1 : Int32)), .val (.ref a_ADJACENT), .val (.int (1 : Int32)), .val (.ref d1), .unset, .unset, .unset, .unset, .unset, .unset] rfl ?_
      refine B.newO 46 rfl at_43 (wd hw 8 rfl) (wd hw 9 rfl) (wd hw 10 rfl) (by decide) (by decide) ?_
      intro hn2 d2 ed2 gd2 X2 A2 D2
      show B.G hn2 2 10 (mkF m 46 #[.val (.int p1), .val (.long p2), .second, .val (.long p3), .second, .val (.long p4), .second, .val (.long p5), .second, .val (.int (1 : Int32)), .val (.ref a_ADJACENT), .val (.int (1 : Int32)), .val (.ref d1), .unset, .unset, .unset, .unset, .unset, .unset] [(.ref d2)])
      have n_d1_d2 : d1 ≠ d2 := fun q => absurd Ed1.lt (by rw [q, ed2]; exact Nat.lt_irrefl _)
      have Ed1_3 := Ed1.ext X2
      have Gp1_3 := Gp1.ext X2
      have Gs1_3 := Gs1.ext X2
      have Go1_3 := Go1.ext X2
      refine B.dup 47 rfl at_46 rfl ?_
      refine B.lconst 48 rfl (0 : Int64) at_47 rfl ?_
      refine B.lconst 49 rfl (0 : Int64) at_48 rfl ?_
      refine B.lconst 50 rfl (0 : Int64) at_49 rfl ?_
      refine B.lconst 51 rfl (1 : Int64) at_50 rfl ?_
      refine B.lconst 52 rfl (0 : Int64) at_51 rfl ?_
      have G2clashes : Fld Z hn2 d2 "com/example/invigil/invigil/core/Evaluation" "clashes" "J" (.long 0) := D2 (Or.inr (wd hw 23 rfl)) (ty := .long) (by decide)
      have G2seatOverflow : Fld Z hn2 d2 "com/example/invigil/invigil/core/Evaluation" "seatOverflow" "J" (.long 0) := D2 (Or.inr (wd hw 25 rfl)) (ty := .long) (by decide)
      have G2proximityCost : Fld Z hn2 d2 "com/example/invigil/invigil/core/Evaluation" "proximityCost" "J" (.long 0) := D2 (Or.inr (wd hw 27 rfl)) (ty := .long) (by decide)
      have G2sameDayAdjacent : Fld Z hn2 d2 "com/example/invigil/invigil/core/Evaluation" "sameDayAdjacent" "J" (.long 0) := D2 (Or.inr (wd hw 29 rfl)) (ty := .long) (by decide)
      have G2overnightAdjacent : Fld Z hn2 d2 "com/example/invigil/invigil/core/Evaluation" "overnightAdjacent" "J" (.long 0) := D2 (Or.inr (wd hw 31 rfl)) (ty := .long) (by decide)
      refine B.callI 55 rfl at_52 rfl (wd hw 11 rfl) (wd hw 12 rfl) (wd hw 10 rfl) (wd hw 13 rfl) (by decide) [(.long (0 : Int64)), (.long (0 : Int64)), (.long (0 : Int64)), (.long (1 : Int64)), (.long (0 : Int64))] [(.ref d2)] (rm_init l Z a0 hw d2 (0 : Int64) (0 : Int64) (0 : Int64) (1 : Int64) (0 : Int64) hn2 A2 G2clashes G2seatOverflow G2proximityCost G2sameDayAdjacent G2overnightAdjacent) rfl rfl pd__JJJJJ_V rfl rfl 1 rfl (by decide) (by decide) (by decide) (by decide) (fun x z => Or.inr (by cases List.mem_singleton.mp z; exact gd2)) ?_
      rintro _ hm2 K2 ⟨rfl, Ed2, Gp2, Gs2, Go2⟩
      show B.G hm2 2 10 (mkF m 55 #[.val (.int p1), .val (.long p2), .second, .val (.long p3), .second, .val (.long p4), .second, .val (.long p5), .second, .val (.int (1 : Int32)), .val (.ref a_ADJACENT), .val (.int (1 : Int32)), .val (.ref d1), .unset, .unset, .unset, .unset, .unset, .unset] [(.ref d2)])
      have Ed1_4 := Ed1_3.keep K2
      have Gp1_4 := Gp1_3.keep K2 (ninS n_d1_d2 nin0)
      have Gs1_4 := Gs1_3.keep K2 (ninS n_d1_d2 nin0)
      have Go1_4 := Go1_3.keep K2 (ninS n_d1_d2 nin0)
      refine B.astore 57 rfl at_55 rfl #[.val (.int p1), .val (.long p2), .second, .val (.long p3), .second, .val (.long p4), .second, .val (.long p5), .second, .val (.int (1 : Int32)), .val (.ref a_ADJACENT), .val (.int (1 : Int32)), .val (.ref d1), .val (.ref d2), .unset, .unset, .unset, .unset, .unset] rfl ?_
      refine B.newO 60 rfl at_57 (wd hw 8 rfl) (wd hw 9 rfl) (wd hw 10 rfl) (by decide) (by decide) ?_
      intro hn3 d3 ed3 gd3 X3 A3 D3
      show B.G hn3 3 15 (mkF m 60 #[.val (.int p1), .val (.long p2), .second, .val (.long p3), .second, .val (.long p4), .second, .val (.long p5), .second, .val (.int (1 : Int32)), .val (.ref a_ADJACENT), .val (.int (1 : Int32)), .val (.ref d1), .val (.ref d2), .unset, .unset, .unset, .unset, .unset] [(.ref d3)])
      have n_d1_d3 : d1 ≠ d3 := fun q => absurd Ed1_4.lt (by rw [q, ed3]; exact Nat.lt_irrefl _)
      have n_d2_d3 : d2 ≠ d3 := fun q => absurd Ed2.lt (by rw [q, ed3]; exact Nat.lt_irrefl _)
      have Ed1_5 := Ed1_4.ext X3
      have Gp1_5 := Gp1_4.ext X3
      have Gs1_5 := Gs1_4.ext X3
      have Go1_5 := Go1_4.ext X3
      have Ed2_5 := Ed2.ext X3
      have Gp2_5 := Gp2.ext X3
      have Gs2_5 := Gs2.ext X3
      have Go2_5 := Go2.ext X3
      refine B.dup 61 rfl at_60 rfl ?_
      refine B.lconst 62 rfl (0 : Int64) at_61 rfl ?_
      refine B.lconst 63 rfl (0 : Int64) at_62 rfl ?_
      refine B.lconst 64 rfl (0 : Int64) at_63 rfl ?_
      refine B.lconst 65 rfl (0 : Int64) at_64 rfl ?_
      refine B.lconst 66 rfl (1 : Int64) at_65 rfl ?_
      have G3clashes : Fld Z hn3 d3 "com/example/invigil/invigil/core/Evaluation" "clashes" "J" (.long 0) := D3 (Or.inr (wd hw 23 rfl)) (ty := .long) (by decide)
      have G3seatOverflow : Fld Z hn3 d3 "com/example/invigil/invigil/core/Evaluation" "seatOverflow" "J" (.long 0) := D3 (Or.inr (wd hw 25 rfl)) (ty := .long) (by decide)
      have G3proximityCost : Fld Z hn3 d3 "com/example/invigil/invigil/core/Evaluation" "proximityCost" "J" (.long 0) := D3 (Or.inr (wd hw 27 rfl)) (ty := .long) (by decide)
      have G3sameDayAdjacent : Fld Z hn3 d3 "com/example/invigil/invigil/core/Evaluation" "sameDayAdjacent" "J" (.long 0) := D3 (Or.inr (wd hw 29 rfl)) (ty := .long) (by decide)
      have G3overnightAdjacent : Fld Z hn3 d3 "com/example/invigil/invigil/core/Evaluation" "overnightAdjacent" "J" (.long 0) := D3 (Or.inr (wd hw 31 rfl)) (ty := .long) (by decide)
      refine B.callI 69 rfl at_66 rfl (wd hw 11 rfl) (wd hw 12 rfl) (wd hw 10 rfl) (wd hw 13 rfl) (by decide) [(.long (0 : Int64)), (.long (0 : Int64)), (.long (0 : Int64)), (.long (0 : Int64)), (.long (1 : Int64))] [(.ref d3)] (rm_init l Z a0 hw d3 (0 : Int64) (0 : Int64) (0 : Int64) (0 : Int64) (1 : Int64) hn3 A3 G3clashes G3seatOverflow G3proximityCost G3sameDayAdjacent G3overnightAdjacent) rfl rfl pd__JJJJJ_V rfl rfl 1 rfl (by decide) (by decide) (by decide) (by decide) (fun x z => Or.inr (by cases List.mem_singleton.mp z; exact gd3)) ?_
      rintro _ hm3 K3 ⟨rfl, Ed3, Gp3, Gs3, Go3⟩
      show B.G hm3 3 15 (mkF m 69 #[.val (.int p1), .val (.long p2), .second, .val (.long p3), .second, .val (.long p4), .second, .val (.long p5), .second, .val (.int (1 : Int32)), .val (.ref a_ADJACENT), .val (.int (1 : Int32)), .val (.ref d1), .val (.ref d2), .unset, .unset, .unset, .unset, .unset] [(.ref d3)])
      have Ed1_6 := Ed1_5.keep K3
      have Gp1_6 := Gp1_5.keep K3 (ninS n_d1_d3 nin0)
      have Gs1_6 := Gs1_5.keep K3 (ninS n_d1_d3 nin0)
      have Go1_6 := Go1_5.keep K3 (ninS n_d1_d3 nin0)
      have Ed2_6 := Ed2_5.keep K3
      have Gp2_6 := Gp2_5.keep K3 (ninS n_d2_d3 nin0)
      have Gs2_6 := Gs2_5.keep K3 (ninS n_d2_d3 nin0)
      have Go2_6 := Go2_5.keep K3 (ninS n_d2_d3 nin0)
      refine B.astore 71 rfl at_69 rfl #[.val (.int p1), .val (.long p2), .second, .val (.long p3), .second, .val (.long p4), .second, .val (.long p5), .second, .val (.int (1 : Int32)), .val (.ref a_ADJACENT), .val (.int (1 : Int32)), .val (.ref d1), .val (.ref d2), .val (.ref d3), .unset, .unset, .unset, .unset] rfl ?_
      refine B.olds fun X => ?_
      have EO := E_ADJACENT.ext X
      have O_proximityFactor := F_ADJACENT_proximityFactor.ext X
      have O_sameDayFactor := F_ADJACENT_sameDayFactor.ext X
      have O_overnightFactor := F_ADJACENT_overnightFactor.ext X
      refine B.aload 73 rfl at_71 rfl rfl ?_
      refine B.callV 76 rfl at_73 (wd hw 32 rfl) (wd hw 33 rfl) (wd hw 35 rfl) (wd hw 34 rfl) (wd hw 6 rfl) (wd hw 36 rfl) (by decide) EO [] [] (rm_counts l Z a0 hw a_ADJACENT (1 : Int32) (0 : Int32) hm3 O_sameDayFactor O_overnightFactor) rfl rfl pd___Z rfl rfl 0 rfl (by decide) (by decide) (by decide) (by decide) (fun _ q => nomatch q) ?_
      rintro _ _ - ⟨rfl, rfl⟩
      show B.G hm3 3 15 (mkF m 76 #[.val (.int p1), .val (.long p2), .second, .val (.long p3), .second, .val (.long p4), .second, .val (.long p5), .second, .val (.int (1 : Int32)), .val (.ref a_ADJACENT), .val (.int (1 : Int32)), .val (.ref d1), .val (.ref d2), .val (.ref d3), .unset, .unset, .unset, .unset] [(.int (1 : Int32))])
      refine B.istore 78 rfl at_76 #[.val (.int p1), .val (.long p2), .second, .val (.long p3), .second, .val (.long p4), .second, .val (.long p5), .second, .val (.int (1 : Int32)), .val (.ref a_ADJACENT), .val (.int (1 : Int32)), .val (.ref d1), .val (.ref d2), .val (.ref d3), .val (.int (1 : Int32)), .unset, .unset, .unset] rfl ?_
      refine B.aload 80 rfl at_78 rfl rfl ?_
      refine B.aload 82 rfl at_80 rfl rfl ?_
      refine B.callV 85 rfl at_82 (wd hw 41 rfl) (wd hw 42 rfl) (wd hw 44 rfl) (wd hw 43 rfl) (wd hw 6 rfl) (wd hw 45 rfl) (by decide) EO [(.ref d1)] [] (rm_cost l Z a0 hw a_ADJACENT d1 (0 : Int32) (1 : Int32) (0 : Int32) (0 : Int64) p4 p5 hm3 EO O_proximityFactor O_sameDayFactor O_overnightFactor Ed1_6 Gp1_6 Gs1_6 Go1_6) rfl rfl pd__Lcom_example_invigil_invigil_core_Evaluation__J rfl rfl 0 rfl (by decide) (by decide) (by decide) (by decide) (fun _ q => nomatch q) ?_
      rintro _ _ - ⟨rfl, rfl⟩
      show B.G hm3 3 15 (mkF m 85 #[.val (.int p1), .val (.long p2), .second, .val (.long p3), .second, .val (.long p4), .second, .val (.long p5), .second, .val (.int (1 : Int32)), .val (.ref a_ADJACENT), .val (.int (1 : Int32)), .val (.ref d1), .val (.ref d2), .val (.ref d3), .val (.int (1 : Int32)), .unset, .unset, .unset] [(.long (own_cost (0 : Int32) (1 : Int32) (0 : Int32) (0 : Int64) p4 p5))])
      refine B.lstore 87 rfl at_85 #[.val (.int p1), .val (.long p2), .second, .val (.long p3), .second, .val (.long p4), .second, .val (.long p5), .second, .val (.int (1 : Int32)), .val (.ref a_ADJACENT), .val (.int (1 : Int32)), .val (.ref d1), .val (.ref d2), .val (.ref d3), .val (.int (1 : Int32)), .val (.long (own_cost (0 : Int32) (1 : Int32) (0 : Int32) (0 : Int64) p4 p5)), .second, .unset] rfl ?_
      refine B.aload 89 rfl at_87 rfl rfl ?_
      refine B.aload 91 rfl at_89 rfl rfl ?_
      refine B.callV 94 rfl at_91 (wd hw 41 rfl) (wd hw 42 rfl) (wd hw 44 rfl) (wd hw 43 rfl) (wd hw 6 rfl) (wd hw 45 rfl) (by decide) EO [(.ref d2)] [] (rm_cost l Z a0 hw a_ADJACENT d2 (0 : Int32) (1 : Int32) (0 : Int32) (0 : Int64) (1 : Int64) (0 : Int64) hm3 EO O_proximityFactor O_sameDayFactor O_overnightFactor Ed2_6 Gp2_6 Gs2_6 Go2_6) rfl rfl pd__Lcom_example_invigil_invigil_core_Evaluation__J rfl rfl 0 rfl (by decide) (by decide) (by decide) (by decide) (fun _ q => nomatch q) ?_
      rintro _ _ - ⟨rfl, rfl⟩
      show B.G hm3 3 15 (mkF m 94 #[.val (.int p1), .val (.long p2), .second, .val (.long p3), .second, .val (.long p4), .second, .val (.long p5), .second, .val (.int (1 : Int32)), .val (.ref a_ADJACENT), .val (.int (1 : Int32)), .val (.ref d1), .val (.ref d2), .val (.ref d3), .val (.int (1 : Int32)), .val (.long (own_cost (0 : Int32) (1 : Int32) (0 : Int32) (0 : Int64) p4 p5)), .second, .unset] [(.long (own_cost (0 : Int32) (1 : Int32) (0 : Int32) (0 : Int64) (1 : Int64) (0 : Int64)))])
      refine B.lconst 95 rfl (0 : Int64) at_94 rfl ?_
      refine B.lcmp 96 rfl at_95 ?_
      refine B.lif_ne 111 99 rfl (by decide) rfl at_96 (fun c96 => ?_) (fun c96 => ?_)
      · refine B.iconst 112 rfl (1 : Int32) at_111 rfl ?_
        refine B.goto 116 rfl (by decide) at_112 ?_
        refine B.istore 118 rfl at_116 #[.val (.int p1), .val (.long p2), .second, .val (.long p3), .second, .val (.long p4), .second, .val (.long p5), .second, .val (.int (1 : Int32)), .val (.ref a_ADJACENT), .val (.int (1 : Int32)), .val (.ref d1), .val (.ref d2), .val (.ref d3), .val (.int (1 : Int32)), .val (.long (own_cost (0 : Int32) (1 : Int32) (0 : Int32) (0 : Int64) p4 p5)), .second, .val (.int (1 : Int32))] rfl ?_
        refine B.iload 120 rfl at_118 rfl ?_
        refine B.iload 122 rfl at_120 rfl ?_
        refine B.icmp_ne 148 125 rfl (by decide) rfl at_122 (fun c122 => ?_) (fun c122 => ?_)
        · exact absurd c122 (by decide)
        · refine B.iload 127 rfl at_125 rfl ?_
          refine B.iload 129 rfl at_127 rfl ?_
          refine B.icmp_ne 148 132 rfl (by decide) rfl at_129 (fun c129 => ?_) (fun c129 => ?_)
          · exact absurd c129 (by decide)
          · refine B.iload 134 rfl at_132 rfl ?_
            refine B.if0_ne 144 137 rfl (by decide) rfl at_134 (fun c134 => ?_) (fun c134 => ?_)
            · refine B.iconst 145 rfl (1 : Int32) at_144 rfl ?_
              refine B.goto 149 rfl (by decide) at_145 ?_
              refine B.retN (by simp) at_149 (by decide) (by decide) ?_
              exact rfl
            · exact absurd c134 (by decide)
      · exact absurd c96 (by decide)
  · refine B.istore 8 rfl at_6 #[.val (.int p1), .val (.long p2), .second, .val (.long p3), .second, .val (.long p4), .second, .val (.long p5), .second, .val (.int (2 : Int32)), .unset, .unset, .unset, .unset, .unset, .unset, .unset, .unset, .unset] rfl ?_
    refine B.iload 10 rfl at_8 rfl ?_
    refine B.callS 13 rfl at_10 (wd hw 1 rfl) (wd hw 2 rfl) (wd hw 3 rfl) (wd hw 4 rfl) (by decide) [(.int (2 : Int32))] [] (rm_pick2 l Z a0 hw a_ADJACENT_OVERNIGHT h0 S_ADJACENT_OVERNIGHT) rfl rfl pd__I_Lcom_example_invigil_invigil_core_Objective_ rfl rfl 0 rfl (by decide) (by decide) (by decide) (by decide) (fun _ q => nomatch q) ?_
    rintro _ _ - ⟨rfl, rfl⟩
    show B.G h0 0 0 (mkF m 13 #[.val (.int p1), .val (.long p2), .second, .val (.long p3), .second, .val (.long p4), .second, .val (.long p5), .second, .val (.int (2 : Int32)), .unset, .unset, .unset, .unset, .unset, .unset, .unset, .unset, .unset] [(.ref a_ADJACENT_OVERNIGHT)])
    refine B.astore 15 rfl at_13 rfl #[.val (.int p1), .val (.long p2), .second, .val (.long p3), .second, .val (.long p4), .second, .val (.long p5), .second, .val (.int (2 : Int32)), .val (.ref a_ADJACENT_OVERNIGHT), .unset, .unset, .unset, .unset, .unset, .unset, .unset, .unset] rfl ?_
    refine B.iload 17 rfl at_15 rfl ?_
    refine B.if0_eq 24 20 rfl (by decide) rfl at_17 (fun c17 => ?_) (fun c17 => ?_)
    · exact absurd c17 (by decide)
    · refine B.iconst 21 rfl (1 : Int32) at_20 rfl ?_
      refine B.goto 25 rfl (by decide) at_21 ?_
      refine B.istore 27 rfl at_25 #[.val (.int p1), .val (.long p2), .second, .val (.long p3), .second, .val (.long p4), .second, .val (.long p5), .second, .val (.int (2 : Int32)), .val (.ref a_ADJACENT_OVERNIGHT), .val (.int (1 : Int32)), .unset, .unset, .unset, .unset, .unset, .unset, .unset] rfl ?_
      refine B.newO 30 rfl at_27 (wd hw 8 rfl) (wd hw 9 rfl) (wd hw 10 rfl) (by decide) (by decide) ?_
      intro hn1 d1 ed1 gd1 X1 A1 D1
      show B.G hn1 1 5 (mkF m 30 #[.val (.int p1), .val (.long p2), .second, .val (.long p3), .second, .val (.long p4), .second, .val (.long p5), .second, .val (.int (2 : Int32)), .val (.ref a_ADJACENT_OVERNIGHT), .val (.int (1 : Int32)), .unset, .unset, .unset, .unset, .unset, .unset, .unset] [(.ref d1)])
      refine B.dup 31 rfl at_30 rfl ?_
      refine B.lloadN 32 rfl at_31 rfl ?_
      refine B.lloadN 33 rfl at_32 rfl ?_
      refine B.lconst 34 rfl (0 : Int64) at_33 rfl ?_
      refine B.lload 36 rfl at_34 rfl ?_
      refine B.lload 38 rfl at_36 rfl ?_
      have G1clashes : Fld Z hn1 d1 "com/example/invigil/invigil/core/Evaluation" "clashes" "J" (.long 0) := D1 (Or.inr (wd hw 23 rfl)) (ty := .long) (by decide)
      have G1seatOverflow : Fld Z hn1 d1 "com/example/invigil/invigil/core/Evaluation" "seatOverflow" "J" (.long 0) := D1 (Or.inr (wd hw 25 rfl)) (ty := .long) (by decide)
      have G1proximityCost : Fld Z hn1 d1 "com/example/invigil/invigil/core/Evaluation" "proximityCost" "J" (.long 0) := D1 (Or.inr (wd hw 27 rfl)) (ty := .long) (by decide)
      have G1sameDayAdjacent : Fld Z hn1 d1 "com/example/invigil/invigil/core/Evaluation" "sameDayAdjacent" "J" (.long 0) := D1 (Or.inr (wd hw 29 rfl)) (ty := .long) (by decide)
      have G1overnightAdjacent : Fld Z hn1 d1 "com/example/invigil/invigil/core/Evaluation" "overnightAdjacent" "J" (.long 0) := D1 (Or.inr (wd hw 31 rfl)) (ty := .long) (by decide)
      refine B.callI 41 rfl at_38 rfl (wd hw 11 rfl) (wd hw 12 rfl) (wd hw 10 rfl) (wd hw 13 rfl) (by decide) [(.long p2), (.long p3), (.long (0 : Int64)), (.long p4), (.long p5)] [(.ref d1)] (rm_init l Z a0 hw d1 p2 p3 (0 : Int64) p4 p5 hn1 A1 G1clashes G1seatOverflow G1proximityCost G1sameDayAdjacent G1overnightAdjacent) rfl rfl pd__JJJJJ_V rfl rfl 1 rfl (by decide) (by decide) (by decide) (by decide) (fun x z => Or.inr (by cases List.mem_singleton.mp z; exact gd1)) ?_
      rintro _ hm1 K1 ⟨rfl, Ed1, Gp1, Gs1, Go1⟩
      show B.G hm1 1 5 (mkF m 41 #[.val (.int p1), .val (.long p2), .second, .val (.long p3), .second, .val (.long p4), .second, .val (.long p5), .second, .val (.int (2 : Int32)), .val (.ref a_ADJACENT_OVERNIGHT), .val (.int (1 : Int32)), .unset, .unset, .unset, .unset, .unset, .unset, .unset] [(.ref d1)])
      refine B.astore 43 rfl at_41 rfl #[.val (.int p1), .val (.long p2), .second, .val (.long p3), .second, .val (.long p4), .second, .val (.long p5), .second, .val (.int (2 : Int32)), .val (.ref a_ADJACENT_OVERNIGHT), .val (.int (1 : Int32)), .val (.ref d1), .unset, .unset, .unset, .unset, .unset, .unset] rfl ?_
      refine B.newO 46 rfl at_43 (wd hw 8 rfl) (wd hw 9 rfl) (wd hw 10 rfl) (by decide) (by decide) ?_
      intro hn2 d2 ed2 gd2 X2 A2 D2
      show B.G hn2 2 10 (mkF m 46 #[.val (.int p1), .val (.long p2), .second, .val (.long p3), .second, .val (.long p4), .second, .val (.long p5), .second, .val (.int (2 : Int32)), .val (.ref a_ADJACENT_OVERNIGHT), .val (.int (1 : Int32)), .val (.ref d1), .unset, .unset, .unset, .unset, .unset, .unset] [(.ref d2)])
      have n_d1_d2 : d1 ≠ d2 := fun q => absurd Ed1.lt (by rw [q, ed2]; exact Nat.lt_irrefl _)
      have Ed1_3 := Ed1.ext X2
      have Gp1_3 := Gp1.ext X2
      have Gs1_3 := Gs1.ext X2
      have Go1_3 := Go1.ext X2
      refine B.dup 47 rfl at_46 rfl ?_
      refine B.lconst 48 rfl (0 : Int64) at_47 rfl ?_
      refine B.lconst 49 rfl (0 : Int64) at_48 rfl ?_
      refine B.lconst 50 rfl (0 : Int64) at_49 rfl ?_
      refine B.lconst 51 rfl (1 : Int64) at_50 rfl ?_
      refine B.lconst 52 rfl (0 : Int64) at_51 rfl ?_
      have G2clashes : Fld Z hn2 d2 "com/example/invigil/invigil/core/Evaluation" "clashes" "J" (.long 0) := D2 (Or.inr (wd hw 23 rfl)) (ty := .long) (by decide)
      have G2seatOverflow : Fld Z hn2 d2 "com/example/invigil/invigil/core/Evaluation" "seatOverflow" "J" (.long 0) := D2 (Or.inr (wd hw 25 rfl)) (ty := .long) (by decide)
      have G2proximityCost : Fld Z hn2 d2 "com/example/invigil/invigil/core/Evaluation" "proximityCost" "J" (.long 0) := D2 (Or.inr (wd hw 27 rfl)) (ty := .long) (by decide)
      have G2sameDayAdjacent : Fld Z hn2 d2 "com/example/invigil/invigil/core/Evaluation" "sameDayAdjacent" "J" (.long 0) := D2 (Or.inr (wd hw 29 rfl)) (ty := .long) (by decide)
      have G2overnightAdjacent : Fld Z hn2 d2 "com/example/invigil/invigil/core/Evaluation" "overnightAdjacent" "J" (.long 0) := D2 (Or.inr (wd hw 31 rfl)) (ty := .long) (by decide)
      refine B.callI 55 rfl at_52 rfl (wd hw 11 rfl) (wd hw 12 rfl) (wd hw 10 rfl) (wd hw 13 rfl) (by decide) [(.long (0 : Int64)), (.long (0 : Int64)), (.long (0 : Int64)), (.long (1 : Int64)), (.long (0 : Int64))] [(.ref d2)] (rm_init l Z a0 hw d2 (0 : Int64) (0 : Int64) (0 : Int64) (1 : Int64) (0 : Int64) hn2 A2 G2clashes G2seatOverflow G2proximityCost G2sameDayAdjacent G2overnightAdjacent) rfl rfl pd__JJJJJ_V rfl rfl 1 rfl (by decide) (by decide) (by decide) (by decide) (fun x z => Or.inr (by cases List.mem_singleton.mp z; exact gd2)) ?_
      rintro _ hm2 K2 ⟨rfl, Ed2, Gp2, Gs2, Go2⟩
      show B.G hm2 2 10 (mkF m 55 #[.val (.int p1), .val (.long p2), .second, .val (.long p3), .second, .val (.long p4), .second, .val (.long p5), .second, .val (.int (2 : Int32)), .val (.ref a_ADJACENT_OVERNIGHT), .val (.int (1 : Int32)), .val (.ref d1), .unset, .unset, .unset, .unset, .unset, .unset] [(.ref d2)])
      have Ed1_4 := Ed1_3.keep K2
      have Gp1_4 := Gp1_3.keep K2 (ninS n_d1_d2 nin0)
      have Gs1_4 := Gs1_3.keep K2 (ninS n_d1_d2 nin0)
      have Go1_4 := Go1_3.keep K2 (ninS n_d1_d2 nin0)
      refine B.astore 57 rfl at_55 rfl #[.val (.int p1), .val (.long p2), .second, .val (.long p3), .second, .val (.long p4), .second, .val (.long p5), .second, .val (.int (2 : Int32)), .val (.ref a_ADJACENT_OVERNIGHT), .val (.int (1 : Int32)), .val (.ref d1), .val (.ref d2), .unset, .unset, .unset, .unset, .unset] rfl ?_
      refine B.newO 60 rfl at_57 (wd hw 8 rfl) (wd hw 9 rfl) (wd hw 10 rfl) (by decide) (by decide) ?_
      intro hn3 d3 ed3 gd3 X3 A3 D3
      show B.G hn3 3 15 (mkF m 60 #[.val (.int p1), .val (.long p2), .second, .val (.long p3), .second, .val (.long p4), .second, .val (.long p5), .second, .val (.int (2 : Int32)), .val (.ref a_ADJACENT_OVERNIGHT), .val (.int (1 : Int32)), .val (.ref d1), .val (.ref d2), .unset, .unset, .unset, .unset, .unset] [(.ref d3)])
      have n_d1_d3 : d1 ≠ d3 := fun q => absurd Ed1_4.lt (by rw [q, ed3]; exact Nat.lt_irrefl _)
      have n_d2_d3 : d2 ≠ d3 := fun q => absurd Ed2.lt (by rw [q, ed3]; exact Nat.lt_irrefl _)
      have Ed1_5 := Ed1_4.ext X3
      have Gp1_5 := Gp1_4.ext X3
      have Gs1_5 := Gs1_4.ext X3
      have Go1_5 := Go1_4.ext X3
      have Ed2_5 := Ed2.ext X3
      have Gp2_5 := Gp2.ext X3
      have Gs2_5 := Gs2.ext X3
      have Go2_5 := Go2.ext X3
      refine B.dup 61 rfl at_60 rfl ?_
      refine B.lconst 62 rfl (0 : Int64) at_61 rfl ?_
      refine B.lconst 63 rfl (0 : Int64) at_62 rfl ?_
      refine B.lconst 64 rfl (0 : Int64) at_63 rfl ?_
      refine B.lconst 65 rfl (0 : Int64) at_64 rfl ?_
      refine B.lconst 66 rfl (1 : Int64) at_65 rfl ?_
      have G3clashes : Fld Z hn3 d3 "com/example/invigil/invigil/core/Evaluation" "clashes" "J" (.long 0) := D3 (Or.inr (wd hw 23 rfl)) (ty := .long) (by decide)
      have G3seatOverflow : Fld Z hn3 d3 "com/example/invigil/invigil/core/Evaluation" "seatOverflow" "J" (.long 0) := D3 (Or.inr (wd hw 25 rfl)) (ty := .long) (by decide)
      have G3proximityCost : Fld Z hn3 d3 "com/example/invigil/invigil/core/Evaluation" "proximityCost" "J" (.long 0) := D3 (Or.inr (wd hw 27 rfl)) (ty := .long) (by decide)
      have G3sameDayAdjacent : Fld Z hn3 d3 "com/example/invigil/invigil/core/Evaluation" "sameDayAdjacent" "J" (.long 0) := D3 (Or.inr (wd hw 29 rfl)) (ty := .long) (by decide)
      have G3overnightAdjacent : Fld Z hn3 d3 "com/example/invigil/invigil/core/Evaluation" "overnightAdjacent" "J" (.long 0) := D3 (Or.inr (wd hw 31 rfl)) (ty := .long) (by decide)
      refine B.callI 69 rfl at_66 rfl (wd hw 11 rfl) (wd hw 12 rfl) (wd hw 10 rfl) (wd hw 13 rfl) (by decide) [(.long (0 : Int64)), (.long (0 : Int64)), (.long (0 : Int64)), (.long (0 : Int64)), (.long (1 : Int64))] [(.ref d3)] (rm_init l Z a0 hw d3 (0 : Int64) (0 : Int64) (0 : Int64) (0 : Int64) (1 : Int64) hn3 A3 G3clashes G3seatOverflow G3proximityCost G3sameDayAdjacent G3overnightAdjacent) rfl rfl pd__JJJJJ_V rfl rfl 1 rfl (by decide) (by decide) (by decide) (by decide) (fun x z => Or.inr (by cases List.mem_singleton.mp z; exact gd3)) ?_
      rintro _ hm3 K3 ⟨rfl, Ed3, Gp3, Gs3, Go3⟩
      show B.G hm3 3 15 (mkF m 69 #[.val (.int p1), .val (.long p2), .second, .val (.long p3), .second, .val (.long p4), .second, .val (.long p5), .second, .val (.int (2 : Int32)), .val (.ref a_ADJACENT_OVERNIGHT), .val (.int (1 : Int32)), .val (.ref d1), .val (.ref d2), .unset, .unset, .unset, .unset, .unset] [(.ref d3)])
      have Ed1_6 := Ed1_5.keep K3
      have Gp1_6 := Gp1_5.keep K3 (ninS n_d1_d3 nin0)
      have Gs1_6 := Gs1_5.keep K3 (ninS n_d1_d3 nin0)
      have Go1_6 := Go1_5.keep K3 (ninS n_d1_d3 nin0)
      have Ed2_6 := Ed2_5.keep K3
      have Gp2_6 := Gp2_5.keep K3 (ninS n_d2_d3 nin0)
      have Gs2_6 := Gs2_5.keep K3 (ninS n_d2_d3 nin0)
      have Go2_6 := Go2_5.keep K3 (ninS n_d2_d3 nin0)
      refine B.astore 71 rfl at_69 rfl #[.val (.int p1), .val (.long p2), .second, .val (.long p3), .second, .val (.long p4), .second, .val (.long p5), .second, .val (.int (2 : Int32)), .val (.ref a_ADJACENT_OVERNIGHT), .val (.int (1 : Int32)), .val (.ref d1), .val (.ref d2), .val (.ref d3), .unset, .unset, .unset, .unset] rfl ?_
      refine B.olds fun X => ?_
      have EO := E_ADJACENT_OVERNIGHT.ext X
      have O_proximityFactor := F_ADJACENT_OVERNIGHT_proximityFactor.ext X
      have O_sameDayFactor := F_ADJACENT_OVERNIGHT_sameDayFactor.ext X
      have O_overnightFactor := F_ADJACENT_OVERNIGHT_overnightFactor.ext X
      refine B.aload 73 rfl at_71 rfl rfl ?_
      refine B.callV 76 rfl at_73 (wd hw 32 rfl) (wd hw 33 rfl) (wd hw 35 rfl) (wd hw 34 rfl) (wd hw 6 rfl) (wd hw 36 rfl) (by decide) EO [] [] (rm_counts l Z a0 hw a_ADJACENT_OVERNIGHT (3 : Int32) (1 : Int32) hm3 O_sameDayFactor O_overnightFactor) rfl rfl pd___Z rfl rfl 0 rfl (by decide) (by decide) (by decide) (by decide) (fun _ q => nomatch q) ?_
      rintro _ _ - ⟨rfl, rfl⟩
      show B.G hm3 3 15 (mkF m 76 #[.val (.int p1), .val (.long p2), .second, .val (.long p3), .second, .val (.long p4), .second, .val (.long p5), .second, .val (.int (2 : Int32)), .val (.ref a_ADJACENT_OVERNIGHT), .val (.int (1 : Int32)), .val (.ref d1), .val (.ref d2), .val (.ref d3), .unset, .unset, .unset, .unset] [(.int (1 : Int32))])
      refine B.istore 78 rfl at_76 #[.val (.int p1), .val (.long p2), .second, .val (.long p3), .second, .val (.long p4), .second, .val (.long p5), .second, .val (.int (2 : Int32)), .val (.ref a_ADJACENT_OVERNIGHT), .val (.int (1 : Int32)), .val (.ref d1), .val (.ref d2), .val (.ref d3), .val (.int (1 : Int32)), .unset, .unset, .unset] rfl ?_
      refine B.aload 80 rfl at_78 rfl rfl ?_
      refine B.aload 82 rfl at_80 rfl rfl ?_
      refine B.callV 85 rfl at_82 (wd hw 41 rfl) (wd hw 42 rfl) (wd hw 44 rfl) (wd hw 43 rfl) (wd hw 6 rfl) (wd hw 45 rfl) (by decide) EO [(.ref d1)] [] (rm_cost l Z a0 hw a_ADJACENT_OVERNIGHT d1 (0 : Int32) (3 : Int32) (1 : Int32) (0 : Int64) p4 p5 hm3 EO O_proximityFactor O_sameDayFactor O_overnightFactor Ed1_6 Gp1_6 Gs1_6 Go1_6) rfl rfl pd__Lcom_example_invigil_invigil_core_Evaluation__J rfl rfl 0 rfl (by decide) (by decide) (by decide) (by decide) (fun _ q => nomatch q) ?_
      rintro _ _ - ⟨rfl, rfl⟩
      show B.G hm3 3 15 (mkF m 85 #[.val (.int p1), .val (.long p2), .second, .val (.long p3), .second, .val (.long p4), .second, .val (.long p5), .second, .val (.int (2 : Int32)), .val (.ref a_ADJACENT_OVERNIGHT), .val (.int (1 : Int32)), .val (.ref d1), .val (.ref d2), .val (.ref d3), .val (.int (1 : Int32)), .unset, .unset, .unset] [(.long (own_cost (0 : Int32) (3 : Int32) (1 : Int32) (0 : Int64) p4 p5))])
      refine B.lstore 87 rfl at_85 #[.val (.int p1), .val (.long p2), .second, .val (.long p3), .second, .val (.long p4), .second, .val (.long p5), .second, .val (.int (2 : Int32)), .val (.ref a_ADJACENT_OVERNIGHT), .val (.int (1 : Int32)), .val (.ref d1), .val (.ref d2), .val (.ref d3), .val (.int (1 : Int32)), .val (.long (own_cost (0 : Int32) (3 : Int32) (1 : Int32) (0 : Int64) p4 p5)), .second, .unset] rfl ?_
      refine B.aload 89 rfl at_87 rfl rfl ?_
      refine B.aload 91 rfl at_89 rfl rfl ?_
      refine B.callV 94 rfl at_91 (wd hw 41 rfl) (wd hw 42 rfl) (wd hw 44 rfl) (wd hw 43 rfl) (wd hw 6 rfl) (wd hw 45 rfl) (by decide) EO [(.ref d2)] [] (rm_cost l Z a0 hw a_ADJACENT_OVERNIGHT d2 (0 : Int32) (3 : Int32) (1 : Int32) (0 : Int64) (1 : Int64) (0 : Int64) hm3 EO O_proximityFactor O_sameDayFactor O_overnightFactor Ed2_6 Gp2_6 Gs2_6 Go2_6) rfl rfl pd__Lcom_example_invigil_invigil_core_Evaluation__J rfl rfl 0 rfl (by decide) (by decide) (by decide) (by decide) (fun _ q => nomatch q) ?_
      rintro _ _ - ⟨rfl, rfl⟩
      show B.G hm3 3 15 (mkF m 94 #[.val (.int p1), .val (.long p2), .second, .val (.long p3), .second, .val (.long p4), .second, .val (.long p5), .second, .val (.int (2 : Int32)), .val (.ref a_ADJACENT_OVERNIGHT), .val (.int (1 : Int32)), .val (.ref d1), .val (.ref d2), .val (.ref d3), .val (.int (1 : Int32)), .val (.long (own_cost (0 : Int32) (3 : Int32) (1 : Int32) (0 : Int64) p4 p5)), .second, .unset] [(.long (own_cost (0 : Int32) (3 : Int32) (1 : Int32) (0 : Int64) (1 : Int64) (0 : Int64)))])
      refine B.lconst 95 rfl (0 : Int64) at_94 rfl ?_
      refine B.lcmp 96 rfl at_95 ?_
      refine B.lif_ne 111 99 rfl (by decide) rfl at_96 (fun c96 => ?_) (fun c96 => ?_)
      · refine B.iconst 112 rfl (1 : Int32) at_111 rfl ?_
        refine B.goto 116 rfl (by decide) at_112 ?_
        refine B.istore 118 rfl at_116 #[.val (.int p1), .val (.long p2), .second, .val (.long p3), .second, .val (.long p4), .second, .val (.long p5), .second, .val (.int (2 : Int32)), .val (.ref a_ADJACENT_OVERNIGHT), .val (.int (1 : Int32)), .val (.ref d1), .val (.ref d2), .val (.ref d3), .val (.int (1 : Int32)), .val (.long (own_cost (0 : Int32) (3 : Int32) (1 : Int32) (0 : Int64) p4 p5)), .second, .val (.int (1 : Int32))] rfl ?_
        refine B.iload 120 rfl at_118 rfl ?_
        refine B.iload 122 rfl at_120 rfl ?_
        refine B.icmp_ne 148 125 rfl (by decide) rfl at_122 (fun c122 => ?_) (fun c122 => ?_)
        · exact absurd c122 (by decide)
        · refine B.iload 127 rfl at_125 rfl ?_
          refine B.iload 129 rfl at_127 rfl ?_
          refine B.icmp_ne 148 132 rfl (by decide) rfl at_129 (fun c129 => ?_) (fun c129 => ?_)
          · exact absurd c129 (by decide)
          · refine B.iload 134 rfl at_132 rfl ?_
            refine B.if0_ne 144 137 rfl (by decide) rfl at_134 (fun c134 => ?_) (fun c134 => ?_)
            · refine B.iconst 145 rfl (1 : Int32) at_144 rfl ?_
              refine B.goto 149 rfl (by decide) at_145 ?_
              refine B.retN (by simp) at_149 (by decide) (by decide) ?_
              exact rfl
            · exact absurd c134 (by decide)
      · exact absurd c96 (by decide)
set_option maxRecDepth 65536 in
set_option maxHeartbeats 4000000 in
theorem comes_1 {Post : Tables → Env → Array Value → State → Outcome → State → Prop} (hpost : ∀ tb e args s v u, (limb_1_1.after args s (.returned v) u = true ∧ limb_1_2.after args s (.returned v) u = true ∧ True) → FrameEnd s (.returned v) u (Jvm.fieldLocs frame_1_writes args s ++ Jvm.arrayLocs frame_1_arrays args s ++ Jvm.staticLocs frame_1_statics s) 16 128 → Post tb e args s (.returned v) u) :
    ArmFor flags0 classFile x code maxLocals ret World_1 tables_1 room_1 Calls_1 rest_1 Pre_1 Post := by
  intro l hfl _ _ p e ha hc hk s m args below hf hA hF happ hP
  obtain ⟨hcalls, hrest, hpre⟩ := hP
  obtain ⟨-, -, -, hnamed, -, -, -, hat⟩ := (Spec.applies_iff hf).mp happ
  obtain ⟨hg, hn⟩ := and_e (Cond.before_iff.mp (show (Jvm.Cond.and given_1 narrow_1).before args s = true from hpre))
  obtain ⟨g0, gg0⟩ := and_e hg
  obtain ⟨k0, gg1⟩ := and_e gg0
  obtain ⟨k1, gg2⟩ := and_e gg1
  obtain ⟨k2, gg3⟩ := and_e gg2
  obtain ⟨k3, gg4⟩ := and_e gg3
  obtain ⟨w0, w1, w2, w3, w4, rfl⟩ : ∃ w0 w1 w2 w3 w4 : Value, args = #[w0, w1, w2, w3, w4] := by
    have hs : args.size = 5 := by simpa [Cond.value, given_1] using g0
    obtain ⟨L⟩ := args
    match L, hs with
    | [w0, w1, w2, w3, w4], _ => exact ⟨w0, w1, w2, w3, w4, rfl⟩
  have hw := fun d (hd : d ∈ tables_1) => atoms_spec (ws := Jvm.Cond.code x code maxLocals ret :: tables_1) hat d (List.mem_cons_of_mem _ hd)
  obtain ⟨i0, ei0⟩ := is_v k0
  obtain rfl : w0 = (.int i0) := Option.some.inj ei0
  obtain ⟨i1, ei1⟩ := isL_v k1
  obtain rfl : w1 = (.long i1) := Option.some.inj ei1
  obtain ⟨i2, ei2⟩ := isL_v k2
  obtain rfl : w2 = (.long i2) := Option.some.inj ei2
  obtain ⟨i3, ei3⟩ := isL_v k3
  obtain rfl : w3 = (.long i3) := Option.some.inj ei3
  obtain ⟨i4, ei4⟩ := isL_v gg4
  obtain rfl : w4 = (.long i4) := Option.some.inj ei4
  obtain ⟨n0, n0r⟩ := and_e hn
  obtain ⟨n1, n1r⟩ := and_e n0r
  obtain ⟨n2, n2r⟩ := and_e n1r
  obtain ⟨n3, n3r⟩ := and_e n2r
  obtain ⟨n4, n4r⟩ := and_e n3r
  obtain ⟨n5, n5r⟩ := and_e n4r
  obtain ⟨n6, n6r⟩ := and_e n5r
  obtain ⟨n7, n7r⟩ := and_e n6r
  obtain ⟨n8, n8r⟩ := and_e n7r
  obtain ⟨n9, n9r⟩ := and_e n8r
  obtain ⟨n10, n10r⟩ := and_e n9r
  have n11 := n10r
  obtain ⟨a_PROXIMITY, v_PROXIMITY⟩ := exa_v n0
  have E_PROXIMITY := Exa.start v_PROXIMITY n0
  have S_PROXIMITY := Sta.start v_PROXIMITY (Or.inr ⟨wd hw 6 rfl, wd hw 7 rfl⟩)
  have F_PROXIMITY_sameDayFactor := fld_start v_PROXIMITY n1
  have F_PROXIMITY_overnightFactor := fld_start v_PROXIMITY n2
  have F_PROXIMITY_proximityFactor := fld_start v_PROXIMITY n3
  obtain ⟨a_ADJACENT_OVERNIGHT, v_ADJACENT_OVERNIGHT⟩ := exa_v n4
  have E_ADJACENT_OVERNIGHT := Exa.start v_ADJACENT_OVERNIGHT n4
  have S_ADJACENT_OVERNIGHT := Sta.start v_ADJACENT_OVERNIGHT (Or.inr ⟨wd hw 6 rfl, wd hw 68 rfl⟩)
  have F_ADJACENT_OVERNIGHT_sameDayFactor := fld_start v_ADJACENT_OVERNIGHT n5
  have F_ADJACENT_OVERNIGHT_proximityFactor := fld_start v_ADJACENT_OVERNIGHT n6
  have F_ADJACENT_OVERNIGHT_overnightFactor := fld_start v_ADJACENT_OVERNIGHT n7
  obtain ⟨a_ADJACENT, v_ADJACENT⟩ := exa_v n8
  have E_ADJACENT := Exa.start v_ADJACENT n8
  have S_ADJACENT := Sta.start v_ADJACENT (Or.inr ⟨wd hw 6 rfl, wd hw 70 rfl⟩)
  have F_ADJACENT_sameDayFactor := fld_start v_ADJACENT n9
  have F_ADJACENT_proximityFactor := fld_start v_ADJACENT n10
  have F_ADJACENT_overnightFactor := fld_start v_ADJACENT n11
  obtain ⟨n, o, h1, h2, h3, _, L, rfl, ⟨rfl, N, -⟩, hq⟩ := rm0 l s _ hw tables_1 i0 i1 i2 i3 i4 s.heap a_PROXIMITY S_PROXIMITY E_PROXIMITY F_PROXIMITY_proximityFactor F_PROXIMITY_sameDayFactor F_PROXIMITY_overnightFactor a_ADJACENT S_ADJACENT E_ADJACENT F_ADJACENT_proximityFactor F_ADJACENT_sameDayFactor F_ADJACENT_overnightFactor a_ADJACENT_OVERNIGHT S_ADJACENT_OVERNIGHT E_ADJACENT_OVERNIGHT F_ADJACENT_OVERNIGHT_proximityFactor F_ADJACENT_OVERNIGHT_sameDayFactor F_ADJACENT_OVERNIGHT_overnightFactor p e ha hc hk s m _ below hf ((Spec.applies_iff_loose hf).mp happ).1 ⟨rfl, State.Warmed39.refl s, rfl⟩ trivial
  refine ⟨n, _, h1, h2, h3, hpost _ _ _ _ _ _ ⟨Cond.after_iff.mpr rfl, Cond.after_iff.mpr (eq_i res_at (Term.int_eval (1)) rfl), trivial⟩ ⟨hq.1, hq.2.1, (hq.2.2.sift fun y hy => Or.inr ((N y hy).resolve_left (by simp))).mono (by decide) (by decide)⟩⟩
theorem main_1_1 : Claimed_1_1 := comes_1 fun _ _ _ _ _ _ h hF => ⟨h.1, hF⟩
theorem main_1_2 : Claimed_1_2 := comes_1 fun _ _ _ _ _ _ h hF => ⟨h.2.1, hF⟩
end Jvm.Pilot.@@N@@
namespace Jvm.Pilot.@@N@@
open Jvm Jvm.ClassFile Sem Op Lib Jvm.Free Jvm.Stand Jvm.Pilot.@@N@@.Jvm.D
/-! MADE BY PROGRAM (witnessworld.py) out of the Statement's table words and the real class files: 14 classes; the members and pool entries that the words name. The judged class is class 1, her method 2. -/
namespace start1
open Jvm.ClassFile
def u (s : String) : CpInfo := .utf8 (stringToUtf16 s)
/-- a pool by its gaps: so many unusable entries, then the entry; so many at the end -/
def gap : Nat → List CpInfo → List CpInfo
  | 0, r => r
  | n + 1, r => .unusable :: gap n r
def poolList (es : List (Nat × CpInfo)) (last : Nat) : List CpInfo := es.foldr (fun e r => gap e.1 (e.2 :: r)) (gap last [])
def pool (es : List (Nat × CpInfo)) (last : Nat) : Array CpInfo := ⟨poolList es last⟩
def fileOf (pool : Array CpInfo) (this : Nat) (attrs : Array Attribute := #[]) (ms : Array MethodInfo := #[]) (fl : Nat := 33) (sup : Nat := 0) (ifs : Array Nat := #[]) (fds : Array FieldInfo := #[]) : ClassFile where
  minorVersion := 0
  majorVersion := 65
  constantPool := pool
  accessFlags := fl
  thisClass := this
  superClass := sup
  interfaces := ifs
  fields := fds
  methods := ms
  attributes := attrs
def plain (name : String) (sup : Option ClassId) : Class where
  name := name
  kind := .ordinary
  loader := none
  accessFlags := 33
  super := sup
  interfaces := #[]
  cf := none
  fields := #[]
  methods := #[]
  instanceTypes := #[]
  staticTypes := #[]
  resolved := #[]
  callSites := []
  init := .initialized
  statics := none
  mirror := none

def pool0 : Array CpInfo := pool [(5, u "<init>"), (0, u "()V"), (1, .class_ 10), (1, u "java/lang/Object")] 113

def k0c0 : Code := { maxStack := 0, maxLocals := 1, code := object_method_1_code, exceptionTable := #[], attributes := #[] }
def k0m0 : Method := { name := "<init>", desc := "()V", sig := { parameters := [], returnType := none }, accessFlags := 1, code := some k0c0 }
/-- java/lang/Object -/
def k0 : Class := { plain "java/lang/Object" none with
  accessFlags := 33
  interfaces := #[]
  cf := some (fileOf pool0 8 #[] #[{ accessFlags := 1, nameIndex := 5, descriptorIndex := 6, attributes := #[] }] 33 0 #[] #[])
  fields := #[]
  methods := #[k0m0]
  instanceTypes := #[]
  staticTypes := #[]
  resolved := Array.replicate 124 none
  statics := none }

def pool1 : Array CpInfo := pool [(2, .class_ 4), (1, u "java/lang/Object"), (0, u "<init>"), (0, u "()V"), (0, .fieldref 8 9), (0, .class_ 10), (0, .nameAndType 11 12), (0, u "com/example/invigil/invigil/core/Objective"), (0, u "PROXIMITY"), (0, u "Lcom/example/invigil/invigil/core/Objective;"), (0, .fieldref 8 14), (0, .nameAndType 15 12), (0, u "ADJACENT"), (0, .fieldref 8 17), (0, .nameAndType 18 12), (0, u "ADJACENT_OVERNIGHT"), (0, .integer 2147483647), (0, .methodref 21 22), (0, .class_ 23), (0, .nameAndType 24 25), (0, u "com/example/invigil/invigil/core/ObjectiveCountsDaysPinLaw"), (0, u "pick"), (0, u "(I)Lcom/example/invigil/invigil/core/Objective;"), (0, .class_ 27), (0, u "com/example/invigil/invigil/core/Evaluation"), (0, .methodref 26 29), (0, .nameAndType 5 30), (0, u "(JJJJJ)V"), (0, .methodref 8 32), (0, .nameAndType 33 34), (0, u "countsDays"), (0, u "()Z"), (0, .methodref 8 36), (0, .nameAndType 37 38), (0, u "cost"), (0, u "(Lcom/example/invigil/invigil/core/Evaluation;)J"), (3, u "law"), (0, u "(IJJJJ)Z")] 2

def k1m0 : Method := { name := "<init>", desc := "()V", sig := { parameters := [], returnType := none }, accessFlags := 2, code := none }
def k1c1 : Code := { maxStack := 2, maxLocals := 1, code := method_2_code, exceptionTable := #[], attributes := #[] }
def k1m1 : Method := { name := "pick", desc := "(I)Lcom/example/invigil/invigil/core/Objective;", sig := { parameters := [.int], returnType := some (.object "com/example/invigil/invigil/core/Objective") }, accessFlags := 10, code := some k1c1 }
def k1c2 : Code := { maxStack := 12, maxLocals := 19, code := code, exceptionTable := #[], attributes := #[] }
def k1m2 : Method := { name := "law", desc := "(IJJJJ)Z", sig := { parameters := [.int, .long, .long, .long, .long], returnType := some .boolean }, accessFlags := 9, code := some k1c2 }
/-- com/example/invigil/invigil/core/ObjectiveCountsDaysPinLaw -/
def k1 : Class := { plain "com/example/invigil/invigil/core/ObjectiveCountsDaysPinLaw" (some 0) with
  accessFlags := 49
  interfaces := #[]
  cf := some (fileOf pool1 21 #[] #[{ accessFlags := 2, nameIndex := 5, descriptorIndex := 6, attributes := #[] }, { accessFlags := 10, nameIndex := 24, descriptorIndex := 25, attributes := #[] }, { accessFlags := 9, nameIndex := 42, descriptorIndex := 43, attributes := #[] }] 49 2 #[] #[])
  fields := #[]
  methods := #[k1m0, k1m1, k1m2]
  instanceTypes := #[]
  staticTypes := #[]
  resolved := Array.replicate 46 none
  statics := none }

def pool2 : Array CpInfo := pool [(1, .class_ 2), (0, u "java/lang/constant/Constable"), (0, .class_ 4), (0, u "java/lang/Object")] 6

/-- java/lang/constant/Constable -/
def k2 : Class := { plain "java/lang/constant/Constable" (some 0) with
  accessFlags := 1537
  interfaces := #[]
  cf := some (fileOf pool2 1 #[] #[] 1537 3 #[] #[])
  fields := #[]
  methods := #[]
  instanceTypes := #[]
  staticTypes := #[]
  resolved := Array.replicate 11 none
  statics := none }

def pool3 : Array CpInfo := pool [(1, .class_ 2), (0, u "java/lang/Comparable"), (0, .class_ 4), (0, u "java/lang/Object")] 7

/-- java/lang/Comparable -/
def k3 : Class := { plain "java/lang/Comparable" (some 0) with
  accessFlags := 1537
  interfaces := #[]
  cf := some (fileOf pool3 1 #[] #[] 1537 3 #[] #[])
  fields := #[]
  methods := #[]
  instanceTypes := #[]
  staticTypes := #[]
  resolved := Array.replicate 12 none
  statics := none }

def pool4 : Array CpInfo := pool [(1, .class_ 2), (0, u "java/io/Serializable"), (0, .class_ 4), (0, u "java/lang/Object")] 2

/-- java/io/Serializable -/
def k4 : Class := { plain "java/io/Serializable" (some 0) with
  accessFlags := 1537
  interfaces := #[]
  cf := some (fileOf pool4 1 #[] #[] 1537 3 #[] #[])
  fields := #[]
  methods := #[]
  instanceTypes := #[]
  staticTypes := #[]
  resolved := Array.replicate 7 none
  statics := none }

def pool5 : Array CpInfo := pool [(2, .class_ 4), (1, u "java/lang/Enum"), (0, u "name"), (0, u "Ljava/lang/String;"), (2, u "ordinal"), (0, u "I"), (1, .class_ 14), (1, u "java/lang/Object"), (4, u "hash"), (86, .class_ 108), (1, u "java/lang/Enum$EnumDesc"), (2, .class_ 112), (0, u "java/lang/constant/Constable"), (0, .class_ 114), (0, u "java/lang/Comparable"), (0, .class_ 116), (0, u "java/io/Serializable")] 87

/-- java/lang/Enum -/
def k5 : Class := { plain "java/lang/Enum" (some 0) with
  accessFlags := 1057
  interfaces := #[2, 3, 4]
  cf := some (fileOf pool5 2 #[.nestMembers #[106]] #[] 1057 12 #[111, 113, 115] #[{ accessFlags := 18, nameIndex := 5, descriptorIndex := 6, attributes := #[] }, { accessFlags := 18, nameIndex := 9, descriptorIndex := 10, attributes := #[] }, { accessFlags := 2, nameIndex := 19, descriptorIndex := 10, attributes := #[] }])
  fields := #[{ name := "name", type := (.object "java/lang/String"), accessFlags := 18, slot := 0, constantValue := 0 }, { name := "ordinal", type := .int, accessFlags := 18, slot := 1, constantValue := 0 }, { name := "hash", type := .int, accessFlags := 2, slot := 2, constantValue := 0 }]
  methods := #[]
  instanceTypes := #[(.object "java/lang/String"), .int, .int]
  staticTypes := #[]
  resolved := Array.replicate 204 none
  statics := none }

def pool6 : Array CpInfo := pool [(1, .class_ 2), (0, u "com/example/invigil/invigil/core/Objective"), (2, u "PROXIMITY"), (0, u "Lcom/example/invigil/invigil/core/Objective;"), (2, u "ADJACENT"), (2, u "ADJACENT_OVERNIGHT"), (2, u "$VALUES"), (0, u "[Lcom/example/invigil/invigil/core/Objective;"), (6, .class_ 25), (1, u "java/lang/Enum"), (8, u "name"), (0, u "Ljava/lang/String;"), (0, .fieldref 1 37), (0, .nameAndType 38 39), (0, u "proximityFactor"), (0, u "I"), (0, .fieldref 1 41), (0, .nameAndType 42 39), (0, u "sameDayFactor"), (0, .fieldref 1 44), (0, .nameAndType 45 39), (0, u "overnightFactor"), (0, .methodref 47 48), (0, .class_ 49), (0, .nameAndType 50 51), (0, u "com/example/invigil/invigil/core/Evaluation"), (0, u "proximityCost"), (0, u "()J"), (0, .methodref 47 53), (0, .nameAndType 54 51), (0, u "sameDayAdjacent"), (0, .methodref 47 56), (0, .nameAndType 57 51), (0, u "overnightAdjacent"), (0, .methodref 1 59), (0, .nameAndType 60 61), (0, u "cost"), (0, u "(JJJ)J"), (11, u "()Z"), (12, u "countsDays"), (46, u "(Lcom/example/invigil/invigil/core/Evaluation;)J")] 24

def k6c0 : Code := { maxStack := 1, maxLocals := 1, code := prog_6_method_4_code, exceptionTable := #[], attributes := #[] }
def k6m0 : Method := { name := "countsDays", desc := "()Z", sig := { parameters := [], returnType := some .boolean }, accessFlags := 1, code := some k6c0 }
def k6c1 : Code := { maxStack := 7, maxLocals := 2, code := prog_6_method_5_code, exceptionTable := #[], attributes := #[] }
def k6m1 : Method := { name := "cost", desc := "(Lcom/example/invigil/invigil/core/Evaluation;)J", sig := { parameters := [(.object "com/example/invigil/invigil/core/Evaluation")], returnType := some .long }, accessFlags := 1, code := some k6c1 }
def k6c2 : Code := { maxStack := 6, maxLocals := 7, code := prog_6_method_7_code, exceptionTable := #[], attributes := #[] }
def k6m2 : Method := { name := "cost", desc := "(JJJ)J", sig := { parameters := [.long, .long, .long], returnType := some .long }, accessFlags := 2, code := some k6c2 }
/-- com/example/invigil/invigil/core/Objective -/
def k6 : Class := { plain "com/example/invigil/invigil/core/Objective" (some 5) with
  accessFlags := 16433
  interfaces := #[]
  cf := some (fileOf pool6 1 #[] #[{ accessFlags := 1, nameIndex := 86, descriptorIndex := 73, attributes := #[] }, { accessFlags := 1, nameIndex := 60, descriptorIndex := 133, attributes := #[] }, { accessFlags := 2, nameIndex := 60, descriptorIndex := 61, attributes := #[] }] 16433 23 #[] #[{ accessFlags := 16409, nameIndex := 5, descriptorIndex := 6, attributes := #[] }, { accessFlags := 16409, nameIndex := 9, descriptorIndex := 6, attributes := #[] }, { accessFlags := 16409, nameIndex := 12, descriptorIndex := 6, attributes := #[] }, { accessFlags := 18, nameIndex := 34, descriptorIndex := 35, attributes := #[] }, { accessFlags := 18, nameIndex := 38, descriptorIndex := 39, attributes := #[] }, { accessFlags := 18, nameIndex := 42, descriptorIndex := 39, attributes := #[] }, { accessFlags := 18, nameIndex := 45, descriptorIndex := 39, attributes := #[] }, { accessFlags := 4122, nameIndex := 15, descriptorIndex := 16, attributes := #[] }])
  fields := #[{ name := "PROXIMITY", type := (.object "com/example/invigil/invigil/core/Objective"), accessFlags := 16409, slot := 0, constantValue := 0 }, { name := "ADJACENT", type := (.object "com/example/invigil/invigil/core/Objective"), accessFlags := 16409, slot := 1, constantValue := 0 }, { name := "ADJACENT_OVERNIGHT", type := (.object "com/example/invigil/invigil/core/Objective"), accessFlags := 16409, slot := 2, constantValue := 0 }, { name := "name", type := (.object "java/lang/String"), accessFlags := 18, slot := 3, constantValue := 0 }, { name := "proximityFactor", type := .int, accessFlags := 18, slot := 4, constantValue := 0 }, { name := "sameDayFactor", type := .int, accessFlags := 18, slot := 5, constantValue := 0 }, { name := "overnightFactor", type := .int, accessFlags := 18, slot := 6, constantValue := 0 }, { name := "$VALUES", type := (.array (.object "com/example/invigil/invigil/core/Objective")), accessFlags := 4122, slot := 3, constantValue := 0 }]
  methods := #[k6m0, k6m1, k6m2]
  instanceTypes := #[(.object "java/lang/String"), .int, .int, (.object "java/lang/String"), .int, .int, .int]
  staticTypes := #[(.object "com/example/invigil/invigil/core/Objective"), (.object "com/example/invigil/invigil/core/Objective"), (.object "com/example/invigil/invigil/core/Objective"), (.array (.object "com/example/invigil/invigil/core/Objective"))]
  resolved := Array.replicate 158 none
  statics := some 0 }

def pool7 : Array CpInfo := pool [(1, .methodref 2 3), (0, .class_ 4), (0, .nameAndType 5 6), (0, u "java/lang/Object"), (0, u "<init>"), (0, u "()V"), (0, .class_ 8), (0, u "java/lang/Record")] 13

def k7c0 : Code := { maxStack := 1, maxLocals := 1, code := jdk_30_method_1_code, exceptionTable := #[], attributes := #[] }
def k7m0 : Method := { name := "<init>", desc := "()V", sig := { parameters := [], returnType := none }, accessFlags := 4, code := some k7c0 }
/-- java/lang/Record -/
def k7 : Class := { plain "java/lang/Record" (some 0) with
  accessFlags := 1057
  interfaces := #[]
  cf := some (fileOf pool7 7 #[] #[{ accessFlags := 4, nameIndex := 5, descriptorIndex := 6, attributes := #[] }] 1057 2 #[] #[])
  fields := #[]
  methods := #[k7m0]
  instanceTypes := #[]
  staticTypes := #[]
  resolved := Array.replicate 22 none
  statics := none }

def pool8 : Array CpInfo := pool [(1, .methodref 2 3), (0, .class_ 4), (0, .nameAndType 5 6), (0, u "java/lang/Record"), (0, u "<init>"), (0, u "()V"), (0, .fieldref 8 9), (0, .class_ 10), (0, .nameAndType 11 12), (0, u "com/example/invigil/invigil/core/Evaluation"), (0, u "clashes"), (0, u "J"), (0, .fieldref 8 14), (0, .nameAndType 15 12), (0, u "seatOverflow"), (0, .fieldref 8 17), (0, .nameAndType 18 12), (0, u "proximityCost"), (0, .fieldref 8 20), (0, .nameAndType 21 12), (0, u "sameDayAdjacent"), (0, .fieldref 8 23), (0, .nameAndType 24 12), (0, u "overnightAdjacent"), (70, u "(JJJJJ)V"), (19, u "PROXIMITY_SPAN"), (0, u "I"), (16, u "()J")] 24

def k8c0 : Code := { maxStack := 3, maxLocals := 11, code := prog_4_method_1_code, exceptionTable := #[], attributes := #[] }
def k8m0 : Method := { name := "<init>", desc := "(JJJJJ)V", sig := { parameters := [.long, .long, .long, .long, .long], returnType := none }, accessFlags := 1, code := some k8c0 }
def k8c1 : Code := { maxStack := 2, maxLocals := 1, code := prog_4_method_11_code, exceptionTable := #[], attributes := #[] }
def k8m1 : Method := { name := "proximityCost", desc := "()J", sig := { parameters := [], returnType := some .long }, accessFlags := 1, code := some k8c1 }
def k8c2 : Code := { maxStack := 2, maxLocals := 1, code := prog_4_method_12_code, exceptionTable := #[], attributes := #[] }
def k8m2 : Method := { name := "sameDayAdjacent", desc := "()J", sig := { parameters := [], returnType := some .long }, accessFlags := 1, code := some k8c2 }
def k8c3 : Code := { maxStack := 2, maxLocals := 1, code := prog_4_method_13_code, exceptionTable := #[], attributes := #[] }
def k8m3 : Method := { name := "overnightAdjacent", desc := "()J", sig := { parameters := [], returnType := some .long }, accessFlags := 1, code := some k8c3 }
/-- com/example/invigil/invigil/core/Evaluation -/
def k8 : Class := { plain "com/example/invigil/invigil/core/Evaluation" (some 7) with
  accessFlags := 49
  interfaces := #[]
  cf := some (fileOf pool8 8 #[] #[{ accessFlags := 1, nameIndex := 5, descriptorIndex := 95, attributes := #[] }, { accessFlags := 1, nameIndex := 18, descriptorIndex := 133, attributes := #[] }, { accessFlags := 1, nameIndex := 21, descriptorIndex := 133, attributes := #[] }, { accessFlags := 1, nameIndex := 24, descriptorIndex := 133, attributes := #[] }] 49 2 #[] #[{ accessFlags := 18, nameIndex := 11, descriptorIndex := 12, attributes := #[] }, { accessFlags := 18, nameIndex := 15, descriptorIndex := 12, attributes := #[] }, { accessFlags := 18, nameIndex := 18, descriptorIndex := 12, attributes := #[] }, { accessFlags := 18, nameIndex := 21, descriptorIndex := 12, attributes := #[] }, { accessFlags := 18, nameIndex := 24, descriptorIndex := 12, attributes := #[] }, { accessFlags := 26, nameIndex := 115, descriptorIndex := 116, attributes := #[] }])
  fields := #[{ name := "clashes", type := .long, accessFlags := 18, slot := 0, constantValue := 0 }, { name := "seatOverflow", type := .long, accessFlags := 18, slot := 1, constantValue := 0 }, { name := "proximityCost", type := .long, accessFlags := 18, slot := 2, constantValue := 0 }, { name := "sameDayAdjacent", type := .long, accessFlags := 18, slot := 3, constantValue := 0 }, { name := "overnightAdjacent", type := .long, accessFlags := 18, slot := 4, constantValue := 0 }, { name := "PROXIMITY_SPAN", type := .int, accessFlags := 26, slot := 0, constantValue := 0 }]
  methods := #[k8m0, k8m1, k8m2, k8m3]
  instanceTypes := #[.long, .long, .long, .long, .long]
  staticTypes := #[.int]
  resolved := Array.replicate 158 none
  statics := none }

def pool9 : Array CpInfo := pool [(1, u "java/lang/Cloneable"), (0, .class_ 1), (0, u "java/lang/Object"), (0, .class_ 3)] 3

/-- java/lang/Cloneable -/
def k9 : Class := { plain "java/lang/Cloneable" (some 0) with
  accessFlags := 1537
  interfaces := #[]
  cf := some (fileOf pool9 2 #[] #[] 1537 4 #[] #[])
  fields := #[]
  methods := #[]
  instanceTypes := #[]
  staticTypes := #[]
  resolved := Array.replicate 8 none
  statics := none }

/-- the primitive byte -/
def k10 : Class := { plain "byte" none with kind := .primitive 'B', accessFlags := 0x411 }
/-- [B -/
def k11 : Class := { plain "[B" (some 0) with kind := .array 10 .byte, interfaces := #[9, 4], accessFlags := 1041 }

/-- the primitive int -/
def k12 : Class := { plain "int" none with kind := .primitive 'I', accessFlags := 0x411 }
/-- [I -/
def k13 : Class := { plain "[I" (some 0) with kind := .array 12 .int, interfaces := #[9, 4], accessFlags := 1041 }

def heap : Heap := #[{ cls := 6, slots := #[.ref 1, .ref 2, .ref 3, .null], vm := .statics 6 },
  { cls := 6, slots := #[.null, .int 0, .int 0, .null, .int 1, .int 0, .int 0], vm := .none },
  { cls := 6, slots := #[.null, .int 1, .int 0, .null, .int 0, .int 1, .int 0], vm := .none },
  { cls := 6, slots := #[.null, .int 2, .int 0, .null, .int 0, .int 3, .int 1], vm := .none }]
def classes : Array Class := #[k0, k1, k2, k3, k4, k5, k6, k7, k8, k9, k10, k11, k12, k13]
def interned : List (Array UInt16 × Addr) := []
def slotsUsed : Nat := 25
def theMethod : MethodId := ⟨1, 2⟩
def args0 : Array Value := #[.int 5, .long 6, .long 7, .long 8, .long 9]
def aboutOver (below : List Frame) : State where
  vm := { classes := classes, interned := interned.toArray }
  heap := heap
  slotsUsed := slotsUsed
  threads := #[{ frames := .invoking theMethod args0 :: below }]
def below0 : List Frame := [.native { method := ⟨0, 0⟩, args := #[] }]
def about1 : State := aboutOver below0
def p0 : Program := .bare "" "" ""
def e0 : Env := launch0.env 0 0 0
theorem w_frames : about1.frames = Frame.invoking theMethod args0 :: below0 := rfl
set_option maxRecDepth 65536 in
theorem w_args : argsFit about1.vm theMethod args0 = true := by decide +kernel
set_option maxRecDepth 65536 in
theorem w_heap : heapFits about1 = true := by decide +kernel
set_option maxRecDepth 65536 in
theorem w_runnable : about1.curStatus? = some .runnable := by decide +kernel
set_option maxRecDepth 65536 in
theorem w_alone : about1.alone = true := by decide +kernel
set_option maxRecDepth 65536 in
theorem w_named : about1.methodNamed? x = some theMethod := by decide +kernel
set_option maxRecDepth 65536 in
theorem w_hears : about1.hears theMethod below0 = true := by decide +kernel
set_option maxRecDepth 65536 in
theorem w_ripe : about1.ripe theMethod args0 below0 = true := by decide +kernel
theorem w_running : about1.status = .running := rfl
set_option maxRecDepth 65536 in
theorem w_room : about1.hasRoom e0.platform room_1 = true :=
  launch0.hasRoom_least _ room_1 (by decide +kernel) (by decide +kernel) (by decide +kernel) (by decide +kernel) (by decide +kernel) (by decide +kernel)
theorem allAtoms_all (ts : List Jvm.Cond) (a : Array Jvm.Value) (st : Jvm.State) : (allAtoms ts).before a st = ts.all (fun c => c.before a st) := by
  induction ts with
  | nil => rfl
  | cons c t ih =>
    show (Jvm.Cond.and c (allAtoms t)).before a st = _
    rw [Jvm.Cond.before_and, ih, List.all_cons]
def words1 : List Jvm.Cond := Jvm.Cond.code x code maxLocals ret :: tables_1
/-- a 'code' word, met by the world's own term for the bytes: nothing is compared byte by byte -/
theorem code_word {y : MethodName} {bytes : ByteArray} {mx : Nat} {rt : Option FieldType} {a : Array Value} {s : State} {m : MethodId} {meth : Method} {c : Code} (h1 : s.methodNamed? y = some m) (h2 : s.vm.method? m = some meth) (h3 : meth.code = some c) (h4 : c.code = bytes)
    (h5 : (c.maxLocals == mx && c.exceptionTable.isEmpty && decide (c.maxStack ≤ mostOperands) && decide (meth.sig.returnType = rt) && !meth.locks && decide (parseMethodDescriptor y.desc = some meth.sig)) = true) : (Jvm.Cond.code y bytes mx rt).before a s = true := by
  simp only [Bool.and_eq_true, beq_iff_eq, Bool.not_eq_true', decide_eq_true_eq] at h5
  obtain ⟨⟨⟨⟨⟨g1, g2⟩, g3⟩, g4⟩, g5⟩, g6⟩ := h5
  simp [Cond.before, Cond.holds, Cond.value, h1, h2, h3, h4, g1, g2, g3, g4, g5, g6]
def isCode : Jvm.Cond → Bool
  | .code _ _ _ _ => true
  | _ => false
theorem all_split {L : List Jvm.Cond} {P : Jvm.Cond → Bool} (h1 : L.all (fun c => isCode c || P c) = true) (h2 : ∀ c ∈ L.filter isCode, P c = true) : L.all P = true := by
  refine List.all_eq_true.mpr fun c hc => ?_
  have h := List.all_eq_true.mp h1 c hc
  rcases Bool.eq_false_or_eq_true (isCode c) with hi | hi
  · exact h2 c (List.mem_filter.mpr ⟨hc, hi⟩)
  · simpa [hi] using h
set_option maxRecDepth 65536 in
theorem w_c0 : (Jvm.Cond.code x code maxLocals ret).before args0 about1 = true := code_word (m := ⟨1, 2⟩) (meth := k1m2) (c := k1c2) (by decide +kernel) rfl rfl rfl (by decide +kernel)
set_option maxRecDepth 65536 in
theorem w_c1 : (Jvm.Cond.code ({ cls := "com/example/invigil/invigil/core/ObjectiveCountsDaysPinLaw", name := "pick", desc := "(I)Lcom/example/invigil/invigil/core/Objective;" } : Jvm.MethodName) method_2_code (1 : Nat) (Option.some (Jvm.ClassFile.FieldType.object "com/example/invigil/invigil/core/Objective"))).before args0 about1 = true := code_word (m := ⟨1, 1⟩) (meth := k1m1) (c := k1c1) (by decide +kernel) rfl rfl rfl (by decide +kernel)
set_option maxRecDepth 65536 in
theorem w_c2 : (Jvm.Cond.code ({ cls := "com/example/invigil/invigil/core/Evaluation", name := "<init>", desc := "(JJJJJ)V" } : Jvm.MethodName) prog_4_method_1_code (11 : Nat) (Option.none : Option Jvm.ClassFile.FieldType)).before args0 about1 = true := code_word (m := ⟨8, 0⟩) (meth := k8m0) (c := k8c0) (by decide +kernel) rfl rfl rfl (by decide +kernel)
set_option maxRecDepth 65536 in
theorem w_c3 : (Jvm.Cond.code ({ cls := "java/lang/Record", name := "<init>", desc := "()V" } : Jvm.MethodName) jdk_30_method_1_code (1 : Nat) (Option.none : Option Jvm.ClassFile.FieldType)).before args0 about1 = true := code_word (m := ⟨7, 0⟩) (meth := k7m0) (c := k7c0) (by decide +kernel) rfl rfl rfl (by decide +kernel)
set_option maxRecDepth 65536 in
theorem w_c4 : (Jvm.Cond.code ({ cls := "java/lang/Object", name := "<init>", desc := "()V" } : Jvm.MethodName) object_method_1_code (1 : Nat) (Option.none : Option Jvm.ClassFile.FieldType)).before args0 about1 = true := code_word (m := ⟨0, 0⟩) (meth := k0m0) (c := k0c0) (by decide +kernel) rfl rfl rfl (by decide +kernel)
set_option maxRecDepth 65536 in
theorem w_c5 : (Jvm.Cond.code ({ cls := "com/example/invigil/invigil/core/Objective", name := "countsDays", desc := "()Z" } : Jvm.MethodName) prog_6_method_4_code (1 : Nat) (Option.some Jvm.ClassFile.FieldType.boolean)).before args0 about1 = true := code_word (m := ⟨6, 0⟩) (meth := k6m0) (c := k6c0) (by decide +kernel) rfl rfl rfl (by decide +kernel)
set_option maxRecDepth 65536 in
theorem w_c6 : (Jvm.Cond.code ({ cls := "com/example/invigil/invigil/core/Objective", name := "cost", desc := "(Lcom/example/invigil/invigil/core/Evaluation;)J" } : Jvm.MethodName) prog_6_method_5_code (2 : Nat) (Option.some Jvm.ClassFile.FieldType.long)).before args0 about1 = true := code_word (m := ⟨6, 1⟩) (meth := k6m1) (c := k6c1) (by decide +kernel) rfl rfl rfl (by decide +kernel)
set_option maxRecDepth 65536 in
theorem w_c7 : (Jvm.Cond.code ({ cls := "com/example/invigil/invigil/core/Evaluation", name := "proximityCost", desc := "()J" } : Jvm.MethodName) prog_4_method_11_code (1 : Nat) (Option.some Jvm.ClassFile.FieldType.long)).before args0 about1 = true := code_word (m := ⟨8, 1⟩) (meth := k8m1) (c := k8c1) (by decide +kernel) rfl rfl rfl (by decide +kernel)
set_option maxRecDepth 65536 in
theorem w_c8 : (Jvm.Cond.code ({ cls := "com/example/invigil/invigil/core/Evaluation", name := "sameDayAdjacent", desc := "()J" } : Jvm.MethodName) prog_4_method_12_code (1 : Nat) (Option.some Jvm.ClassFile.FieldType.long)).before args0 about1 = true := code_word (m := ⟨8, 2⟩) (meth := k8m2) (c := k8c2) (by decide +kernel) rfl rfl rfl (by decide +kernel)
set_option maxRecDepth 65536 in
theorem w_c9 : (Jvm.Cond.code ({ cls := "com/example/invigil/invigil/core/Evaluation", name := "overnightAdjacent", desc := "()J" } : Jvm.MethodName) prog_4_method_13_code (1 : Nat) (Option.some Jvm.ClassFile.FieldType.long)).before args0 about1 = true := code_word (m := ⟨8, 3⟩) (meth := k8m3) (c := k8c3) (by decide +kernel) rfl rfl rfl (by decide +kernel)
set_option maxRecDepth 65536 in
theorem w_c10 : (Jvm.Cond.code ({ cls := "com/example/invigil/invigil/core/Objective", name := "cost", desc := "(JJJ)J" } : Jvm.MethodName) prog_6_method_7_code (7 : Nat) (Option.some Jvm.ClassFile.FieldType.long)).before args0 about1 = true := code_word (m := ⟨6, 2⟩) (meth := k6m2) (c := k6c2) (by decide +kernel) rfl rfl rfl (by decide +kernel)
def codes1 : List Jvm.Cond := [Jvm.Cond.code x code maxLocals ret, Jvm.Cond.code ({ cls := "com/example/invigil/invigil/core/ObjectiveCountsDaysPinLaw", name := "pick", desc := "(I)Lcom/example/invigil/invigil/core/Objective;" } : Jvm.MethodName) method_2_code (1 : Nat) (Option.some (Jvm.ClassFile.FieldType.object "com/example/invigil/invigil/core/Objective")), Jvm.Cond.code ({ cls := "com/example/invigil/invigil/core/Evaluation", name := "<init>", desc := "(JJJJJ)V" } : Jvm.MethodName) prog_4_method_1_code (11 : Nat) (Option.none : Option Jvm.ClassFile.FieldType), Jvm.Cond.code ({ cls := "java/lang/Record", name := "<init>", desc := "()V" } : Jvm.MethodName) jdk_30_method_1_code (1 : Nat) (Option.none : Option Jvm.ClassFile.FieldType), Jvm.Cond.code ({ cls := "java/lang/Object", name := "<init>", desc := "()V" } : Jvm.MethodName) object_method_1_code (1 : Nat) (Option.none : Option Jvm.ClassFile.FieldType), Jvm.Cond.code ({ cls := "com/example/invigil/invigil/core/Objective", name := "countsDays", desc := "()Z" } : Jvm.MethodName) prog_6_method_4_code (1 : Nat) (Option.some Jvm.ClassFile.FieldType.boolean), Jvm.Cond.code ({ cls := "com/example/invigil/invigil/core/Objective", name := "cost", desc := "(Lcom/example/invigil/invigil/core/Evaluation;)J" } : Jvm.MethodName) prog_6_method_5_code (2 : Nat) (Option.some Jvm.ClassFile.FieldType.long), Jvm.Cond.code ({ cls := "com/example/invigil/invigil/core/Evaluation", name := "proximityCost", desc := "()J" } : Jvm.MethodName) prog_4_method_11_code (1 : Nat) (Option.some Jvm.ClassFile.FieldType.long), Jvm.Cond.code ({ cls := "com/example/invigil/invigil/core/Evaluation", name := "sameDayAdjacent", desc := "()J" } : Jvm.MethodName) prog_4_method_12_code (1 : Nat) (Option.some Jvm.ClassFile.FieldType.long), Jvm.Cond.code ({ cls := "com/example/invigil/invigil/core/Evaluation", name := "overnightAdjacent", desc := "()J" } : Jvm.MethodName) prog_4_method_13_code (1 : Nat) (Option.some Jvm.ClassFile.FieldType.long), Jvm.Cond.code ({ cls := "com/example/invigil/invigil/core/Objective", name := "cost", desc := "(JJJ)J" } : Jvm.MethodName) prog_6_method_7_code (7 : Nat) (Option.some Jvm.ClassFile.FieldType.long)]
set_option maxRecDepth 65536 in
theorem codes_eq : words1.filter isCode = codes1 := rfl
theorem w_codes : ∀ c ∈ words1.filter isCode, c.before args0 about1 = true := by
  rw [codes_eq]
  intro c hc
  simp only [codes1, List.mem_cons, List.not_mem_nil, or_false] at hc
  rcases hc with rfl | rfl | rfl | rfl | rfl | rfl | rfl | rfl | rfl | rfl | rfl
  · exact w_c0
  · exact w_c1
  · exact w_c2
  · exact w_c3
  · exact w_c4
  · exact w_c5
  · exact w_c6
  · exact w_c7
  · exact w_c8
  · exact w_c9
  · exact w_c10
set_option maxRecDepth 65536 in
theorem w_t1 : (words1.take 24).all (fun c => isCode c || c.before args0 about1) = true := by decide +kernel
set_option maxRecDepth 65536 in
theorem w_t2 : ((words1.drop 24).take 24).all (fun c => isCode c || c.before args0 about1) = true := by decide +kernel
set_option maxRecDepth 65536 in
theorem w_t3 : ((words1.drop 24).drop 24).all (fun c => isCode c || c.before args0 about1) = true := by decide +kernel
theorem w_tables : (allAtoms (Jvm.Cond.code x code maxLocals ret :: tables_1)).before args0 about1 = true := by
  rw [allAtoms_all]
  show words1.all (fun c => c.before args0 about1) = true
  refine all_split ?_ w_codes
  rw [← List.take_append_drop 24 words1, List.all_append, w_t1, ← List.take_append_drop 24 (words1.drop 24), List.all_append, w_t2, w_t3]
  rfl
set_option maxRecDepth 65536 in
theorem w_case : (Jvm.Cond.and given_1 narrow_1).before args0 about1 = true := by decide +kernel
theorem w_applies : (headSpec (Jvm.Cond.code x code maxLocals ret :: tables_1) room_1).applies x e0.platform about1 = true :=
  (Spec.applies_iff w_frames).mpr ⟨w_running, w_runnable, w_alone, w_named, w_hears, w_ripe, w_room, w_tables⟩
theorem atStart : AtStart classFile x code maxLocals ret World_1 tables_1 room_1 Calls_1 rest_1 Pre_1 launch0 p0 e0 about1 theMethod args0 below0 :=
  ⟨lists_1, trivial, launch0.admits_env _ _ _, launch0.least_env, fairChoices_fair.cas, fairChoices_fair.clock, w_frames, w_args, w_heap, w_applies, trivial, trivial, w_case⟩
end start1
theorem witness_1 : WitnessClaimed_1 := ⟨start1.p0, start1.e0, start1.about1, start1.theMethod, start1.args0, start1.below0, start1.atStart⟩
end Jvm.Pilot.@@N@@
