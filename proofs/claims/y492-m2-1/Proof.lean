import JvmDerived
import JvmDerived.Pilot.@@N@@Statement
import JvmDerived.Pilot.@@N@@Code
set_option linter.unusedVariables false
set_option linter.unusedSimpArgs false
namespace Jvm.Own
open Jvm Jvm.ClassFile Sem Op Lib Jvm.Free Jvm.Stand Jvm.LawKit Jvm.RoadKit
/-! THE WALKER's LAYER: 'B.G h cl sl g': from every place where the walk stands over the heap h with the frame g (cl cells, sl slots made), the method returns as its contract says. One law a step, backwards. -/
/-- written places lie in cells of ws or in new cells -/
def Frw (ws : List Addr) (k : Nat) (L : List Loc) : Prop := ∀ y ∈ L, y.base ∈ ws ∨ k ≤ y.base
/-- what a contract says at the end -/
def Qw (C : Option Value → Heap → Prop) (ws : List Addr) (h0 : Heap) (v : Option Value) (h : Heap) (L : List Loc) : Prop := C v h ∧ Frw ws h0.size L ∧ Keep h0 h ws
/-- a contract: called with the arguments as over the heap h0, it returns, as C says, writing in ws or in new cells alone -/
def Met (l : Launch) (Z : State) (y : MethodName) (bytes : ByteArray) (maxL : Nat) (ret : Option FieldType) (wds : List Jvm.Cond) (rm : Room) (as : Array Value) (h0 : Heap) (ws : List Addr) (C : Option Value → Heap → Prop) : Prop :=
  MetFree l y (head1 (Jvm.Cond.code y bytes maxL ret :: wds) rm) (fun a U => a = as ∧ Z.Warmed39 U.vm ∧ U.heap = h0) (fun _ _ _ _ _ => True) (fun _ U o U' => ∃ v L, o = .returned v ∧ Qw C ws h0 v U'.heap L ∧ FrameEnd U o U' L rm.cells rm.slots)
/-- what stands still through a body's walk -/
def Base (p : Program) (l : Launch) (e : Env) (R : Room) (s : State) (m : MethodId) (args : Array Value) (below : List Frame) (meth : Method) (c : Code) (Z : State) (y : MethodName) (bytes : ByteArray) (maxL : Nat) (ret : Option FieldType) (h0 : Heap) (ws : List Addr) (C : Option Value → Heap → Prop) : Prop :=
  p.tables.exec = Jvm.exec ∧ c.code = bytes ∧ c.maxLocals = maxL ∧ Z.Warmed39 s.vm ∧ s.vm.findClass y.cls = some m.cls ∧ meth.sig.returnType = ret ∧ meth.locks = false ∧ meth.name = y.name ∧ s.heap = h0
section Walk
variable {p : Program} {l : Launch} {e : Env} {R : Room} {s : State} {m : MethodId} {args : Array Value} {below : List Frame} {meth : Method} {c : Code} {Z : State} {a0 : Array Value} {y : MethodName} {bytes : ByteArray} {maxL : Nat} {ret : Option FieldType} {h0 : Heap} {ws : List Addr} {C : Option Value → Heap → Prop}
/-- from here the method returns as its contract says -/
def Base.G (B : Base p l e R s m args below meth c Z y bytes maxL ret h0 ws C) (h : Heap) (cl sl : Nat) (g : JFrame) : Prop :=
  ∀ (T : State) (locs : List Loc), Stand p l e R s m args below meth c T locs cl sl → Frw ws h0.size locs → T.heap = h → ∃ (t : State) (o : Outcome), Steps p.tables e below (T.setTop g) t ∧ t.status = .running ∧ Ended t below o ∧ ∃ v L, o = .returned v ∧ Qw C ws h0 v t.heap L ∧ FrameEnd s o t L R.cells R.slots
variable {h : Heap} {cl sl : Nat} {g g' : JFrame} {pc : Nat} {Ls : Array Slot} {st : List Value}
theorem Base.via (B : Base p l e R s m args below meth c Z y bytes maxL ret h0 ws C) (st : ∀ (T t : State), At T m c below → Steps p.tables e below (T.setTop g') t → Steps p.tables e below (T.setTop g) t) (k : B.G h cl sl g') : B.G h cl sl g := fun T locs X N eT => by
  obtain ⟨t, o, q, r⟩ := k T locs X N eT
  exact ⟨t, o, st T t X.here q, r⟩
theorem Base.viaX (B : Base p l e R s m args below meth c Z y bytes maxL ret h0 ws C) (st : ∀ (T t : State) (locs : List Loc), Stand p l e R s m args below meth c T locs cl sl → T.heap = h → Steps p.tables e below (T.setTop g') t → Steps p.tables e below (T.setTop g) t) (k : B.G h cl sl g') : B.G h cl sl g := fun T locs X N eT => by
  obtain ⟨t, o, q, r⟩ := k T locs X N eT
  exact ⟨t, o, st T t locs X eT q, r⟩
theorem Frw.nil (ws : List Addr) (k : Nat) : Frw ws k [] := fun _ q => nomatch q
theorem Frw.app {k : Nat} {L L' : List Loc} (N : Frw ws k L) (N' : Frw ws k L') : Frw ws k (L ++ L') := fun y q => (List.mem_append.mp q).elim (N y) (N' y)
theorem Frw.one {k : Nat} {L : List Loc} {a : Addr} {i : Nat} (N : Frw ws k L) (q : a ∈ ws ∨ k ≤ a) : Frw ws k (L ++ [⟨a, i⟩]) := N.app fun y hy => by cases List.mem_singleton.mp hy; exact q
theorem keep_of {T : State} {locs : List Loc} (X : Stand p l e R s m args below meth c T locs cl sl) (N : Frw ws s.heap.size locs) : Keep s.heap T.heap ws := by
  obtain ⟨-, h1, -, -, -, h2⟩ := X.same
  refine ⟨h1, fun x cc hc hn => ?_, fun x cc hc => ?_⟩
  · obtain ⟨c', e1, e2, e3, e4⟩ := h2 x cc hc
    have hlt := (Array.getElem?_eq_some_iff.mp hc).1
    have q : c'.slots = cc.slots := Array.ext_getElem? fun i => e4 i fun hm => by
      rcases N _ hm with z | z
      · exact hn z
      · exact absurd hlt (Nat.not_lt.mpr z)
    have e1' : T.heap[x]? = some c' := e1
    rw [e1', e2, q]
  · obtain ⟨c', e1, e2, e3, -⟩ := h2 x cc hc
    exact ⟨c', e1, by rw [e2], by rw [e2], e3⟩
theorem Met.walk (hpn : plainName y.cls = true) {as : Array Value} {rm : Room} {wds : List Jvm.Cond} (hef : ∀ m, entryFrame m as maxL = mkF m 0 Ls [])
    (body : ∀ (p : Program) (e : Env) (s : State) (m : MethodId) (below : List Frame) (meth : Method) (c : Code) (B : Base p l e rm s m as below meth c Z y bytes maxL ret h0 ws C), B.G h0 0 0 (mkF m 0 Ls [])) : Met l Z y bytes maxL ret wds rm as h0 ws C := by
  refine MetFree.of_bodySF (plainFor_of_name hpn) hisR ?_
  intro p e s m args below meth c s₁ Bd hml0 hP hK
  obtain ⟨rfl, hZ, hh⟩ := hP
  have X0 : Stand p l e rm s m args below meth c s₁ [] 0 0 := Stand.of_body Bd
  have e0 : s₁.heap = h0 := by rw [← hh, Bd.state]; rfl
  obtain ⟨t, o, q, r⟩ := body p e s m below meth c ⟨Bd.exec, Bd.bytes, hml0, hZ, findClass_of_methodNamed Bd.named, Bd.returns, Bd.notSynchronized, (name_of_methodNamed Bd.named Bd.method).1, hh⟩ s₁ [] X0 (Frw.nil _ _) e0
  exact ⟨t, o, castTop (hef m) q, r⟩
theorem Met.mono {as : Array Value} {rm : Room} {wds : List Jvm.Cond} {C' : Option Value → Heap → Prop} (M : Met l Z y bytes maxL ret wds rm as h0 ws C) (q : ∀ v h, C v h → C' v h) : Met l Z y bytes maxL ret wds rm as h0 ws C' := by
  intro p e ha hc hk s m args below hf happ hP hK
  obtain ⟨n, o, q1, q2, q3, v, L, q4, ⟨r1, r2⟩, q5⟩ := M p e ha hc hk s m args below hf happ hP hK
  exact ⟨n, o, q1, q2, q3, v, L, q4, ⟨q _ _ r1, r2⟩, q5⟩
/-! 1. steps that touch no heap -/
theorem Base.aloadN (B : Base p l e R s m args below meth c Z y bytes maxL ret h0 ws C) (pc' : Nat) (hp : pc' = pc + 1) {i : Fin 4} (hd : decode bytes pc = .ok (.aload_n i, 1)) {v : Value} (hl : Ls[i.val]? = some (.val v)) (hv : v.isRef = true) (k : B.G h cl sl (mkF m pc' Ls (v :: st))) : B.G h cl sl (mkF m pc Ls st) := by
  subst hp; exact B.via (fun T t X r => XS.aloadN X B.1 rfl (hb B.2.1 hd) hl hv r) k
theorem Base.aload (B : Base p l e R s m args below meth c Z y bytes maxL ret h0 ws C) (pc' : Nat) (hp : pc' = pc + 2) {i : Nat} (hd : decode bytes pc = .ok (.aload i, 2)) {v : Value} (hl : Ls[i]? = some (.val v)) (hv : v.isRef = true) (k : B.G h cl sl (mkF m pc' Ls (v :: st))) : B.G h cl sl (mkF m pc Ls st) := by
  subst hp; exact B.via (fun T t X r => XS.aload X B.1 rfl (hb B.2.1 hd) hl hv r) k
theorem Base.iloadN (B : Base p l e R s m args below meth c Z y bytes maxL ret h0 ws C) (pc' : Nat) (hp : pc' = pc + 1) {i : Fin 4} (hd : decode bytes pc = .ok (.iload_n i, 1)) {v : Int32} (hl : Ls[i.val]? = some (.val (.int v))) (k : B.G h cl sl (mkF m pc' Ls (.int v :: st))) : B.G h cl sl (mkF m pc Ls st) := by
  subst hp; exact B.via (fun T t X r => XS.iloadN X B.1 rfl (hb B.2.1 hd) hl r) k
theorem Base.iload (B : Base p l e R s m args below meth c Z y bytes maxL ret h0 ws C) (pc' : Nat) (hp : pc' = pc + 2) {i : Nat} (hd : decode bytes pc = .ok (.iload i, 2)) {v : Int32} (hl : Ls[i]? = some (.val (.int v))) (k : B.G h cl sl (mkF m pc' Ls (.int v :: st))) : B.G h cl sl (mkF m pc Ls st) := by
  subst hp; exact B.via (fun T t X r => XS.iload X B.1 rfl (hb B.2.1 hd) hl r) k
theorem Base.lloadN (B : Base p l e R s m args below meth c Z y bytes maxL ret h0 ws C) (pc' : Nat) (hp : pc' = pc + 1) {i : Fin 4} (hd : decode bytes pc = .ok (.lload_n i, 1)) {v : Int64} (hl : Ls[i.val]? = some (.val (.long v))) (k : B.G h cl sl (mkF m pc' Ls (.long v :: st))) : B.G h cl sl (mkF m pc Ls st) := by
  subst hp; exact B.via (fun T t X r => XT.lloadN X B.1 rfl (hb B.2.1 hd) hl r) k
theorem Base.lload (B : Base p l e R s m args below meth c Z y bytes maxL ret h0 ws C) (pc' : Nat) (hp : pc' = pc + 2) {i : Nat} (hd : decode bytes pc = .ok (.lload i, 2)) {v : Int64} (hl : Ls[i]? = some (.val (.long v))) (k : B.G h cl sl (mkF m pc' Ls (.long v :: st))) : B.G h cl sl (mkF m pc Ls st) := by
  subst hp; exact B.via (fun T t X r => XT.lload X B.1 rfl (hb B.2.1 hd) hl r) k
theorem Base.istoreN (B : Base p l e R s m args below meth c Z y bytes maxL ret h0 ws C) (pc' : Nat) (hp : pc' = pc + 1) {i : Fin 4} {x : Int32} (hd : decode bytes pc = .ok (.istore_n i, 1)) (Ls' : Array Slot) (hl : storeLocals Ls i.val (.int x) = some Ls') (k : B.G h cl sl (mkF m pc' Ls' st)) : B.G h cl sl (mkF m pc Ls (.int x :: st)) := by
  subst hp; exact B.via (fun T t X r => XS.istoreN X B.1 rfl (hb B.2.1 hd) rfl hl r) k
theorem Base.istore (B : Base p l e R s m args below meth c Z y bytes maxL ret h0 ws C) (pc' : Nat) (hp : pc' = pc + 2) {i : Nat} {x : Int32} (hd : decode bytes pc = .ok (.istore i, 2)) (Ls' : Array Slot) (hl : storeLocals Ls i (.int x) = some Ls') (k : B.G h cl sl (mkF m pc' Ls' st)) : B.G h cl sl (mkF m pc Ls (.int x :: st)) := by
  subst hp; exact B.via (fun T t X r => XS.istore X B.1 rfl (hb B.2.1 hd) rfl hl r) k
theorem Base.lstoreN (B : Base p l e R s m args below meth c Z y bytes maxL ret h0 ws C) (pc' : Nat) (hp : pc' = pc + 1) {i : Fin 4} {x : Int64} (hd : decode bytes pc = .ok (.lstore_n i, 1)) (Ls' : Array Slot) (hl : storeLocals Ls i.val (.long x) = some Ls') (k : B.G h cl sl (mkF m pc' Ls' st)) : B.G h cl sl (mkF m pc Ls (.long x :: st)) := by
  subst hp; exact B.via (fun T t X r => XT.lstoreN X B.1 rfl (hb B.2.1 hd) rfl hl r) k
theorem Base.lstore (B : Base p l e R s m args below meth c Z y bytes maxL ret h0 ws C) (pc' : Nat) (hp : pc' = pc + 2) {i : Nat} {x : Int64} (hd : decode bytes pc = .ok (.lstore i, 2)) (Ls' : Array Slot) (hl : storeLocals Ls i (.long x) = some Ls') (k : B.G h cl sl (mkF m pc' Ls' st)) : B.G h cl sl (mkF m pc Ls (.long x :: st)) := by
  subst hp; exact B.via (fun T t X r => XT.lstore X B.1 rfl (hb B.2.1 hd) rfl hl r) k
theorem Base.astoreN (B : Base p l e R s m args below meth c Z y bytes maxL ret h0 ws C) (pc' : Nat) (hp : pc' = pc + 1) {i : Fin 4} {x : Value} (hd : decode bytes pc = .ok (.astore_n i, 1)) (hv : x.isRef = true) (Ls' : Array Slot) (hl : storeLocals Ls i.val x = some Ls') (k : B.G h cl sl (mkF m pc' Ls' st)) : B.G h cl sl (mkF m pc Ls (x :: st)) := by
  subst hp; exact B.via (fun T t X r => XS.astoreN X B.1 rfl (hb B.2.1 hd) rfl hv hl r) k
theorem Base.astore (B : Base p l e R s m args below meth c Z y bytes maxL ret h0 ws C) (pc' : Nat) (hp : pc' = pc + 2) {i : Nat} {x : Value} (hd : decode bytes pc = .ok (.astore i, 2)) (hv : x.isRef = true) (Ls' : Array Slot) (hl : storeLocals Ls i x = some Ls') (k : B.G h cl sl (mkF m pc' Ls' st)) : B.G h cl sl (mkF m pc Ls (x :: st)) := by
  subst hp; exact B.via (fun T t X r => XS.astore X B.1 rfl (hb B.2.1 hd) rfl hv hl r) k
theorem Base.iinc (B : Base p l e R s m args below meth c Z y bytes maxL ret h0 ws C) (pc' : Nat) (hp : pc' = pc + 3) {i : Nat} {cst : Int} (v : Int32) {x : Int32} (hd : decode bytes pc = .ok (.iinc i cst, 3)) (hv : Int32.ofInt cst = v) (hl : Ls[i]? = some (.val (.int x))) (Ls' : Array Slot) (hl' : storeLocals Ls i (.int (x + v)) = some Ls') (k : B.G h cl sl (mkF m pc' Ls' st)) : B.G h cl sl (mkF m pc Ls st) := by
  subst hp hv; exact B.via (fun T t X r => XS.iinc X B.1 rfl (hb B.2.1 hd) hl hl' r) k
theorem Base.iconst (B : Base p l e R s m args below meth c Z y bytes maxL ret h0 ws C) (pc' : Nat) (hp : pc' = pc + 1) {i : Int} (v : Int32) (hd : decode bytes pc = .ok (.iconst i, 1)) (hv : Int32.ofInt i = v) (k : B.G h cl sl (mkF m pc' Ls (.int v :: st))) : B.G h cl sl (mkF m pc Ls st) := by
  subst hp hv; exact B.via (fun T t X r => XS.iconst X B.1 rfl (hb B.2.1 hd) r) k
theorem Base.bipush (B : Base p l e R s m args below meth c Z y bytes maxL ret h0 ws C) (pc' : Nat) (hp : pc' = pc + 2) {i : Int} (v : Int32) (hd : decode bytes pc = .ok (.bipush i, 2)) (hv : (Int8.ofInt i).toInt32 = v) (k : B.G h cl sl (mkF m pc' Ls (.int v :: st))) : B.G h cl sl (mkF m pc Ls st) := by
  subst hp hv; exact B.via (fun T t X r => XS.bipush X B.1 rfl (hb B.2.1 hd) r) k
theorem Base.sipush (B : Base p l e R s m args below meth c Z y bytes maxL ret h0 ws C) (pc' : Nat) (hp : pc' = pc + 3) {i : Int} (v : Int32) (hd : decode bytes pc = .ok (.sipush i, 3)) (hv : (Int16.ofInt i).toInt32 = v) (k : B.G h cl sl (mkF m pc' Ls (.int v :: st))) : B.G h cl sl (mkF m pc Ls st) := by
  subst hp hv; exact B.via (fun T t X r => XS.sipush X B.1 rfl (hb B.2.1 hd) r) k
theorem Base.lconst (B : Base p l e R s m args below meth c Z y bytes maxL ret h0 ws C) (pc' : Nat) (hp : pc' = pc + 1) {i : Fin 2} (v : Int64) (hd : decode bytes pc = .ok (.lconst i, 1)) (hv : Int64.ofNat i = v) (k : B.G h cl sl (mkF m pc' Ls (.long v :: st))) : B.G h cl sl (mkF m pc Ls st) := by
  subst hp hv; exact B.via (fun T t X r => XT.lconst X B.1 rfl (hb B.2.1 hd) r) k
theorem Base.aconstNull (B : Base p l e R s m args below meth c Z y bytes maxL ret h0 ws C) (pc' : Nat) (hp : pc' = pc + 1) (hd : decode bytes pc = .ok (.aconst_null, 1)) (k : B.G h cl sl (mkF m pc' Ls (.null :: st))) : B.G h cl sl (mkF m pc Ls st) := by
  subst hp; exact B.via (fun T t X r => XS.aconstNull X B.1 rfl (hb B.2.1 hd) r) k
theorem Base.ldcI (B : Base p l e R s m args below meth c Z y bytes maxL ret h0 ws C) (pc' : Nat) (hp : pc' = pc + 2) {i : Nat} {v : Int32} (hd : decode bytes pc = .ok (.ldc i, 2)) (w : (Cond.constant y.cls i v).before a0 Z = true) (k : B.G h cl sl (mkF m pc' Ls (.int v :: st))) : B.G h cl sl (mkF m pc Ls st) := by
  subst hp; exact B.viaX (fun T t L X _ r => X.ldcI B.1 B.2.2.2.2.1 (mv B.2.2.2.1 w) rfl (hb B.2.1 hd) r) k
theorem Base.ldcWI (B : Base p l e R s m args below meth c Z y bytes maxL ret h0 ws C) (pc' : Nat) (hp : pc' = pc + 3) {i : Nat} {v : Int32} (hd : decode bytes pc = .ok (.ldc_w i, 3)) (w : (Cond.constant y.cls i v).before a0 Z = true) (k : B.G h cl sl (mkF m pc' Ls (.int v :: st))) : B.G h cl sl (mkF m pc Ls st) := by
  subst hp; exact B.viaX (fun T t L X _ r => X.ldcWI B.1 B.2.2.2.2.1 (mv B.2.2.2.1 w) rfl (hb B.2.1 hd) r) k
theorem Base.ldc2J (B : Base p l e R s m args below meth c Z y bytes maxL ret h0 ws C) (pc' : Nat) (hp : pc' = pc + 3) {i : Nat} {v : Int64} (hd : decode bytes pc = .ok (.ldc2_w i, 3)) (w : (Cond.constantLong y.cls i v).before a0 Z = true) (k : B.G h cl sl (mkF m pc' Ls (.long v :: st))) : B.G h cl sl (mkF m pc Ls st) := by
  subst hp; exact B.viaX (fun T t L X _ r => X.ldc2J B.1 B.2.2.2.2.1 (mv B.2.2.2.1 w) rfl (hb B.2.1 hd) r) k
theorem Base.goto (B : Base p l e R s m args below meth c Z y bytes maxL ret h0 ws C) (pc' : Nat) {o : Int} (hp : ((pc : Int) + o).toNat = pc') (ho : 0 ≤ (pc : Int) + o) (hd : decode bytes pc = .ok (.goto o, 3)) (k : B.G h cl sl (mkF m pc' Ls st)) : B.G h cl sl (mkF m pc Ls st) :=
  B.via (fun T t X r => XS.goto X B.1 rfl rfl (hb B.2.1 hd) ho hp r) k
theorem Base.dup (B : Base p l e R s m args below meth c Z y bytes maxL ret h0 ws C) (pc' : Nat) (hp : pc' = pc + 1) {x : Value} (hd : decode bytes pc = .ok (.dup, 1)) (hc : x.category = 1) (k : B.G h cl sl (mkF m pc' Ls (x :: x :: st))) : B.G h cl sl (mkF m pc Ls (x :: st)) := by
  subst hp; exact B.via (fun T t X r => XS.dup X B.1 rfl (hb B.2.1 hd) rfl hc r) k
theorem Base.pop (B : Base p l e R s m args below meth c Z y bytes maxL ret h0 ws C) (pc' : Nat) (hp : pc' = pc + 1) {x : Value} (hd : decode bytes pc = .ok (.pop, 1)) (hc : x.category = 1) (k : B.G h cl sl (mkF m pc' Ls st)) : B.G h cl sl (mkF m pc Ls (x :: st)) := by
  subst hp; exact B.via (fun T t X r => XT.pop X B.1 rfl (hb B.2.1 hd) rfl hc r) k
theorem Base.dupX1 (B : Base p l e R s m args below meth c Z y bytes maxL ret h0 ws C) (pc' : Nat) (hp : pc' = pc + 1) {x z : Value} (hd : decode bytes pc = .ok (.dup_x1, 1)) (hc : x.category = 1) (hc' : z.category = 1) (k : B.G h cl sl (mkF m pc' Ls (x :: z :: x :: st))) : B.G h cl sl (mkF m pc Ls (x :: z :: st)) := by
  subst hp; exact B.via (fun T t X r => XT.dupX1 X B.1 rfl (hb B.2.1 hd) rfl hc hc' r) k
theorem Base.dup2 (B : Base p l e R s m args below meth c Z y bytes maxL ret h0 ws C) (pc' : Nat) (hp : pc' = pc + 1) {x z : Value} (hd : decode bytes pc = .ok (.dup2, 1)) (hc : x.category = 1) (hc' : z.category = 1) (k : B.G h cl sl (mkF m pc' Ls (x :: z :: x :: z :: st))) : B.G h cl sl (mkF m pc Ls (x :: z :: st)) := by
  subst hp; exact B.via (fun T t X r => XT.dup2 X B.1 rfl (hb B.2.1 hd) rfl hc hc' r) k
theorem Base.iadd (B : Base p l e R s m args below meth c Z y bytes maxL ret h0 ws C) (pc' : Nat) (hp : pc' = pc + 1) {x : Int32} {z : Int32} (hd : decode bytes pc = .ok (.iadd, 1)) (k : B.G h cl sl (mkF m pc' Ls (.int (x + z) :: st))) : B.G h cl sl (mkF m pc Ls (.int z :: .int x :: st)) := by
  subst hp; exact B.via (fun T t X r => XS.iadd X B.1 rfl (hb B.2.1 hd) rfl r) k
theorem Base.isub (B : Base p l e R s m args below meth c Z y bytes maxL ret h0 ws C) (pc' : Nat) (hp : pc' = pc + 1) {x : Int32} {z : Int32} (hd : decode bytes pc = .ok (.isub, 1)) (k : B.G h cl sl (mkF m pc' Ls (.int (x - z) :: st))) : B.G h cl sl (mkF m pc Ls (.int z :: .int x :: st)) := by
  subst hp; exact B.via (fun T t X r => XS.isub X B.1 rfl (hb B.2.1 hd) rfl r) k
theorem Base.iand (B : Base p l e R s m args below meth c Z y bytes maxL ret h0 ws C) (pc' : Nat) (hp : pc' = pc + 1) {x : Int32} {z : Int32} (hd : decode bytes pc = .ok (.iand, 1)) (k : B.G h cl sl (mkF m pc' Ls (.int (x &&& z) :: st))) : B.G h cl sl (mkF m pc Ls (.int z :: .int x :: st)) := by
  subst hp; exact B.via (fun T t X r => XS.iand X B.1 rfl (hb B.2.1 hd) rfl r) k
theorem Base.imul (B : Base p l e R s m args below meth c Z y bytes maxL ret h0 ws C) (pc' : Nat) (hp : pc' = pc + 1) {x : Int32} {z : Int32} (hd : decode bytes pc = .ok (.imul, 1)) (k : B.G h cl sl (mkF m pc' Ls (.int (x * z) :: st))) : B.G h cl sl (mkF m pc Ls (.int z :: .int x :: st)) := by
  subst hp; exact B.via (fun T t X r => XS.imul X B.1 rfl (hb B.2.1 hd) rfl r) k
theorem Base.ixor (B : Base p l e R s m args below meth c Z y bytes maxL ret h0 ws C) (pc' : Nat) (hp : pc' = pc + 1) {x : Int32} {z : Int32} (hd : decode bytes pc = .ok (.ixor, 1)) (k : B.G h cl sl (mkF m pc' Ls (.int (x ^^^ z) :: st))) : B.G h cl sl (mkF m pc Ls (.int z :: .int x :: st)) := by
  subst hp; exact B.via (fun T t X r => XT.ixor X B.1 rfl (hb B.2.1 hd) rfl r) k
theorem Base.ior (B : Base p l e R s m args below meth c Z y bytes maxL ret h0 ws C) (pc' : Nat) (hp : pc' = pc + 1) {x : Int32} {z : Int32} (hd : decode bytes pc = .ok (.ior, 1)) (k : B.G h cl sl (mkF m pc' Ls (.int (x ||| z) :: st))) : B.G h cl sl (mkF m pc Ls (.int z :: .int x :: st)) := by
  subst hp; exact B.via (fun T t X r => XT.ior X B.1 rfl (hb B.2.1 hd) rfl r) k
theorem Base.ishl (B : Base p l e R s m args below meth c Z y bytes maxL ret h0 ws C) (pc' : Nat) (hp : pc' = pc + 1) {x : Int32} {z : Int32} (hd : decode bytes pc = .ok (.ishl, 1)) (k : B.G h cl sl (mkF m pc' Ls (.int (x <<< (z &&& 31)) :: st))) : B.G h cl sl (mkF m pc Ls (.int z :: .int x :: st)) := by
  subst hp; exact B.via (fun T t X r => XT.ishl X B.1 rfl (hb B.2.1 hd) rfl r) k
theorem Base.ishr (B : Base p l e R s m args below meth c Z y bytes maxL ret h0 ws C) (pc' : Nat) (hp : pc' = pc + 1) {x : Int32} {z : Int32} (hd : decode bytes pc = .ok (.ishr, 1)) (k : B.G h cl sl (mkF m pc' Ls (.int (x >>> (z &&& 31)) :: st))) : B.G h cl sl (mkF m pc Ls (.int z :: .int x :: st)) := by
  subst hp; exact B.via (fun T t X r => XT.ishr X B.1 rfl (hb B.2.1 hd) rfl r) k
theorem Base.iushr (B : Base p l e R s m args below meth c Z y bytes maxL ret h0 ws C) (pc' : Nat) (hp : pc' = pc + 1) {x : Int32} {z : Int32} (hd : decode bytes pc = .ok (.iushr, 1)) (k : B.G h cl sl (mkF m pc' Ls (.int (XT.ushr x z) :: st))) : B.G h cl sl (mkF m pc Ls (.int z :: .int x :: st)) := by
  subst hp; exact B.via (fun T t X r => XT.iushr X B.1 rfl (hb B.2.1 hd) rfl r) k
theorem Base.ladd (B : Base p l e R s m args below meth c Z y bytes maxL ret h0 ws C) (pc' : Nat) (hp : pc' = pc + 1) {x : Int64} {z : Int64} (hd : decode bytes pc = .ok (.ladd, 1)) (k : B.G h cl sl (mkF m pc' Ls (.long (x + z) :: st))) : B.G h cl sl (mkF m pc Ls (.long z :: .long x :: st)) := by
  subst hp; exact B.via (fun T t X r => XT.ladd X B.1 rfl (hb B.2.1 hd) rfl r) k
theorem Base.lsub (B : Base p l e R s m args below meth c Z y bytes maxL ret h0 ws C) (pc' : Nat) (hp : pc' = pc + 1) {x : Int64} {z : Int64} (hd : decode bytes pc = .ok (.lsub, 1)) (k : B.G h cl sl (mkF m pc' Ls (.long (x - z) :: st))) : B.G h cl sl (mkF m pc Ls (.long z :: .long x :: st)) := by
  subst hp; exact B.via (fun T t X r => XT.lsub X B.1 rfl (hb B.2.1 hd) rfl r) k
theorem Base.lmul (B : Base p l e R s m args below meth c Z y bytes maxL ret h0 ws C) (pc' : Nat) (hp : pc' = pc + 1) {x : Int64} {z : Int64} (hd : decode bytes pc = .ok (.lmul, 1)) (k : B.G h cl sl (mkF m pc' Ls (.long (x * z) :: st))) : B.G h cl sl (mkF m pc Ls (.long z :: .long x :: st)) := by
  subst hp; exact B.via (fun T t X r => XT.lmul X B.1 rfl (hb B.2.1 hd) rfl r) k
theorem Base.land (B : Base p l e R s m args below meth c Z y bytes maxL ret h0 ws C) (pc' : Nat) (hp : pc' = pc + 1) {x : Int64} {z : Int64} (hd : decode bytes pc = .ok (.land, 1)) (k : B.G h cl sl (mkF m pc' Ls (.long (x &&& z) :: st))) : B.G h cl sl (mkF m pc Ls (.long z :: .long x :: st)) := by
  subst hp; exact B.via (fun T t X r => XT.land X B.1 rfl (hb B.2.1 hd) rfl r) k
theorem Base.lor (B : Base p l e R s m args below meth c Z y bytes maxL ret h0 ws C) (pc' : Nat) (hp : pc' = pc + 1) {x : Int64} {z : Int64} (hd : decode bytes pc = .ok (.lor, 1)) (k : B.G h cl sl (mkF m pc' Ls (.long (x ||| z) :: st))) : B.G h cl sl (mkF m pc Ls (.long z :: .long x :: st)) := by
  subst hp; exact B.via (fun T t X r => XT.lor X B.1 rfl (hb B.2.1 hd) rfl r) k
theorem Base.lxor (B : Base p l e R s m args below meth c Z y bytes maxL ret h0 ws C) (pc' : Nat) (hp : pc' = pc + 1) {x : Int64} {z : Int64} (hd : decode bytes pc = .ok (.lxor, 1)) (k : B.G h cl sl (mkF m pc' Ls (.long (x ^^^ z) :: st))) : B.G h cl sl (mkF m pc Ls (.long z :: .long x :: st)) := by
  subst hp; exact B.via (fun T t X r => XT.lxor X B.1 rfl (hb B.2.1 hd) rfl r) k
theorem Base.lshl (B : Base p l e R s m args below meth c Z y bytes maxL ret h0 ws C) (pc' : Nat) (hp : pc' = pc + 1) {x : Int64} {z : Int32} (hd : decode bytes pc = .ok (.lshl, 1)) (k : B.G h cl sl (mkF m pc' Ls (.long (x <<< (z.toInt64 &&& 63)) :: st))) : B.G h cl sl (mkF m pc Ls (.int z :: .long x :: st)) := by
  subst hp; exact B.via (fun T t X r => XT.lshl X B.1 rfl (hb B.2.1 hd) rfl r) k
theorem Base.lshr (B : Base p l e R s m args below meth c Z y bytes maxL ret h0 ws C) (pc' : Nat) (hp : pc' = pc + 1) {x : Int64} {z : Int32} (hd : decode bytes pc = .ok (.lshr, 1)) (k : B.G h cl sl (mkF m pc' Ls (.long (x >>> (z.toInt64 &&& 63)) :: st))) : B.G h cl sl (mkF m pc Ls (.int z :: .long x :: st)) := by
  subst hp; exact B.via (fun T t X r => XT.lshr X B.1 rfl (hb B.2.1 hd) rfl r) k
theorem Base.lushr (B : Base p l e R s m args below meth c Z y bytes maxL ret h0 ws C) (pc' : Nat) (hp : pc' = pc + 1) {x : Int64} {z : Int32} (hd : decode bytes pc = .ok (.lushr, 1)) (k : B.G h cl sl (mkF m pc' Ls (.long (XT.ushrL x z) :: st))) : B.G h cl sl (mkF m pc Ls (.int z :: .long x :: st)) := by
  subst hp; exact B.via (fun T t X r => XT.lushr X B.1 rfl (hb B.2.1 hd) rfl r) k
theorem Base.lcmp (B : Base p l e R s m args below meth c Z y bytes maxL ret h0 ws C) (pc' : Nat) (hp : pc' = pc + 1) {x : Int64} {z : Int64} (hd : decode bytes pc = .ok (.lcmp, 1)) (k : B.G h cl sl (mkF m pc' Ls (.int (XT.cmpL x z) :: st))) : B.G h cl sl (mkF m pc Ls (.long z :: .long x :: st)) := by
  subst hp; exact B.via (fun T t X r => XT.lcmp X B.1 rfl (hb B.2.1 hd) rfl r) k
theorem Base.idiv (B : Base p l e R s m args below meth c Z y bytes maxL ret h0 ws C) (pc' : Nat) (hp : pc' = pc + 1) {x : Int32} {z : Int32} (hd : decode bytes pc = .ok (.idiv, 1)) (hz : z ≠ 0) (k : B.G h cl sl (mkF m pc' Ls (.int (x / z) :: st))) : B.G h cl sl (mkF m pc Ls (.int z :: .int x :: st)) := by
  subst hp; exact B.via (fun T t X r => XS.idiv X B.1 rfl (hb B.2.1 hd) rfl hz r) k
theorem Base.ldiv (B : Base p l e R s m args below meth c Z y bytes maxL ret h0 ws C) (pc' : Nat) (hp : pc' = pc + 1) {x : Int64} {z : Int64} (hd : decode bytes pc = .ok (.ldiv, 1)) (hz : z ≠ 0) (k : B.G h cl sl (mkF m pc' Ls (.long (x / z) :: st))) : B.G h cl sl (mkF m pc Ls (.long z :: .long x :: st)) := by
  subst hp; exact B.via (fun T t X r => XT.ldiv X B.1 rfl (hb B.2.1 hd) rfl hz r) k
theorem Base.irem (B : Base p l e R s m args below meth c Z y bytes maxL ret h0 ws C) (pc' : Nat) (hp : pc' = pc + 1) {x z : Int32} (hd : decode bytes pc = .ok (.irem, 1)) (hz : z ≠ 0) (k : B.G h cl sl (mkF m pc' Ls (.int (x % z) :: st))) : B.G h cl sl (mkF m pc Ls (.int z :: .int x :: st)) := by
  subst hp; exact B.viaX (fun T t L X _ r => iremM X B.1 rfl (hb B.2.1 hd) rfl hz r) k
theorem Base.ineg (B : Base p l e R s m args below meth c Z y bytes maxL ret h0 ws C) (pc' : Nat) (hp : pc' = pc + 1) {x : Int32} (hd : decode bytes pc = .ok (.ineg, 1)) (k : B.G h cl sl (mkF m pc' Ls (.int (-x) :: st))) : B.G h cl sl (mkF m pc Ls (.int x :: st)) := by
  subst hp; exact B.via (fun T t X r => XS.ineg X B.1 rfl (hb B.2.1 hd) rfl r) k
theorem Base.lneg (B : Base p l e R s m args below meth c Z y bytes maxL ret h0 ws C) (pc' : Nat) (hp : pc' = pc + 1) {x : Int64} (hd : decode bytes pc = .ok (.lneg, 1)) (k : B.G h cl sl (mkF m pc' Ls (.long (-x) :: st))) : B.G h cl sl (mkF m pc Ls (.long x :: st)) := by
  subst hp; exact B.via (fun T t X r => XT.lneg X B.1 rfl (hb B.2.1 hd) rfl r) k
theorem Base.i2l (B : Base p l e R s m args below meth c Z y bytes maxL ret h0 ws C) (pc' : Nat) (hp : pc' = pc + 1) {x : Int32} (hd : decode bytes pc = .ok (.i2l, 1)) (k : B.G h cl sl (mkF m pc' Ls (.long (x.toInt64) :: st))) : B.G h cl sl (mkF m pc Ls (.int x :: st)) := by
  subst hp; exact B.via (fun T t X r => XT.i2l X B.1 rfl (hb B.2.1 hd) rfl r) k
theorem Base.l2i (B : Base p l e R s m args below meth c Z y bytes maxL ret h0 ws C) (pc' : Nat) (hp : pc' = pc + 1) {x : Int64} (hd : decode bytes pc = .ok (.l2i, 1)) (k : B.G h cl sl (mkF m pc' Ls (.int (x.toInt32) :: st))) : B.G h cl sl (mkF m pc Ls (.long x :: st)) := by
  subst hp; exact B.via (fun T t X r => XT.l2i X B.1 rfl (hb B.2.1 hd) rfl r) k
theorem Base.i2b (B : Base p l e R s m args below meth c Z y bytes maxL ret h0 ws C) (pc' : Nat) (hp : pc' = pc + 1) {x : Int32} (hd : decode bytes pc = .ok (.i2b, 1)) (k : B.G h cl sl (mkF m pc' Ls (.int (x.toInt8.toInt32) :: st))) : B.G h cl sl (mkF m pc Ls (.int x :: st)) := by
  subst hp; exact B.via (fun T t X r => XT.i2b X B.1 rfl (hb B.2.1 hd) rfl r) k
theorem Base.i2c (B : Base p l e R s m args below meth c Z y bytes maxL ret h0 ws C) (pc' : Nat) (hp : pc' = pc + 1) {x : Int32} (hd : decode bytes pc = .ok (.i2c, 1)) (k : B.G h cl sl (mkF m pc' Ls (.int (x.toUInt32.toUInt16.toUInt32.toInt32) :: st))) : B.G h cl sl (mkF m pc Ls (.int x :: st)) := by
  subst hp; exact B.via (fun T t X r => XT.i2c X B.1 rfl (hb B.2.1 hd) rfl r) k
theorem Base.i2s (B : Base p l e R s m args below meth c Z y bytes maxL ret h0 ws C) (pc' : Nat) (hp : pc' = pc + 1) {x : Int32} (hd : decode bytes pc = .ok (.i2s, 1)) (k : B.G h cl sl (mkF m pc' Ls (.int (x.toInt16.toInt32) :: st))) : B.G h cl sl (mkF m pc Ls (.int x :: st)) := by
  subst hp; exact B.via (fun T t X r => XT.i2s X B.1 rfl (hb B.2.1 hd) rfl r) k
theorem Base.icmp_eq (B : Base p l e R s m args below meth c Z y bytes maxL ret h0 ws C) (pt pf : Nat) {o : Int} (hpt : ((pc : Int) + o).toNat = pt) (ho : 0 ≤ (pc : Int) + o) (hpf : pf = pc + 3) {x z : Int32} (hd : decode bytes pc = .ok (.if_icmp .eq o, 3)) (kt : x = z → B.G h cl sl (mkF m pt Ls st)) (kf : ¬ x = z → B.G h cl sl (mkF m pf Ls st)) : B.G h cl sl (mkF m pc Ls (.int z :: .int x :: st)) := by
  subst hpt hpf
  by_cases q : x = z
  · exact B.via (fun T t X r => XS.icmpYes X B.1 rfl rfl (hb B.2.1 hd) rfl (XT.ii_eq_t q) ho rfl r) (kt q)
  · exact B.via (fun T t X r => XS.icmpNo X B.1 rfl (hb B.2.1 hd) rfl (XT.ii_eq_f q) r) (kf q)
theorem Base.if0_eq (B : Base p l e R s m args below meth c Z y bytes maxL ret h0 ws C) (pt pf : Nat) {o : Int} (hpt : ((pc : Int) + o).toNat = pt) (ho : 0 ≤ (pc : Int) + o) (hpf : pf = pc + 3) {x : Int32} (hd : decode bytes pc = .ok (.ifCond .eq o, 3)) (kt : x = 0 → B.G h cl sl (mkF m pt Ls st)) (kf : ¬ x = 0 → B.G h cl sl (mkF m pf Ls st)) : B.G h cl sl (mkF m pc Ls (.int x :: st)) := by
  subst hpt hpf
  by_cases q : x = 0
  · exact B.via (fun T t X r => XS.ifYes X B.1 rfl rfl (hb B.2.1 hd) rfl (XT.i0_eq_t q) ho rfl r) (kt q)
  · exact B.via (fun T t X r => XS.ifNo X B.1 rfl (hb B.2.1 hd) rfl (XT.i0_eq_f q) r) (kf q)
theorem Base.lif_eq (B : Base p l e R s m args below meth c Z y bytes maxL ret h0 ws C) (pt pf : Nat) {o : Int} (hpt : ((pc : Int) + o).toNat = pt) (ho : 0 ≤ (pc : Int) + o) (hpf : pf = pc + 3) {x z : Int64} (hd : decode bytes pc = .ok (.ifCond .eq o, 3)) (kt : x = z → B.G h cl sl (mkF m pt Ls st)) (kf : ¬ x = z → B.G h cl sl (mkF m pf Ls st)) : B.G h cl sl (mkF m pc Ls (.int (XT.cmpL x z) :: st)) := by
  subst hpt hpf
  by_cases q : x = z
  · exact B.via (fun T t X r => XS.ifYes X B.1 rfl rfl (hb B.2.1 hd) rfl (XT.ll_eq_t q) ho rfl r) (kt q)
  · exact B.via (fun T t X r => XS.ifNo X B.1 rfl (hb B.2.1 hd) rfl (XT.ll_eq_f q) r) (kf q)
theorem Base.icmp_ne (B : Base p l e R s m args below meth c Z y bytes maxL ret h0 ws C) (pt pf : Nat) {o : Int} (hpt : ((pc : Int) + o).toNat = pt) (ho : 0 ≤ (pc : Int) + o) (hpf : pf = pc + 3) {x z : Int32} (hd : decode bytes pc = .ok (.if_icmp .ne o, 3)) (kt : ¬ x = z → B.G h cl sl (mkF m pt Ls st)) (kf : x = z → B.G h cl sl (mkF m pf Ls st)) : B.G h cl sl (mkF m pc Ls (.int z :: .int x :: st)) := by
  subst hpt hpf
  by_cases q : x = z
  · exact B.via (fun T t X r => XS.icmpNo X B.1 rfl (hb B.2.1 hd) rfl (XT.ii_ne_f q) r) (kf q)
  · exact B.via (fun T t X r => XS.icmpYes X B.1 rfl rfl (hb B.2.1 hd) rfl (XT.ii_ne_t q) ho rfl r) (kt q)
theorem Base.if0_ne (B : Base p l e R s m args below meth c Z y bytes maxL ret h0 ws C) (pt pf : Nat) {o : Int} (hpt : ((pc : Int) + o).toNat = pt) (ho : 0 ≤ (pc : Int) + o) (hpf : pf = pc + 3) {x : Int32} (hd : decode bytes pc = .ok (.ifCond .ne o, 3)) (kt : ¬ x = 0 → B.G h cl sl (mkF m pt Ls st)) (kf : x = 0 → B.G h cl sl (mkF m pf Ls st)) : B.G h cl sl (mkF m pc Ls (.int x :: st)) := by
  subst hpt hpf
  by_cases q : x = 0
  · exact B.via (fun T t X r => XS.ifNo X B.1 rfl (hb B.2.1 hd) rfl (XT.i0_ne_f q) r) (kf q)
  · exact B.via (fun T t X r => XS.ifYes X B.1 rfl rfl (hb B.2.1 hd) rfl (XT.i0_ne_t q) ho rfl r) (kt q)
theorem Base.lif_ne (B : Base p l e R s m args below meth c Z y bytes maxL ret h0 ws C) (pt pf : Nat) {o : Int} (hpt : ((pc : Int) + o).toNat = pt) (ho : 0 ≤ (pc : Int) + o) (hpf : pf = pc + 3) {x z : Int64} (hd : decode bytes pc = .ok (.ifCond .ne o, 3)) (kt : ¬ x = z → B.G h cl sl (mkF m pt Ls st)) (kf : x = z → B.G h cl sl (mkF m pf Ls st)) : B.G h cl sl (mkF m pc Ls (.int (XT.cmpL x z) :: st)) := by
  subst hpt hpf
  by_cases q : x = z
  · exact B.via (fun T t X r => XS.ifNo X B.1 rfl (hb B.2.1 hd) rfl (XT.ll_ne_f q) r) (kf q)
  · exact B.via (fun T t X r => XS.ifYes X B.1 rfl rfl (hb B.2.1 hd) rfl (XT.ll_ne_t q) ho rfl r) (kt q)
theorem Base.icmp_lt (B : Base p l e R s m args below meth c Z y bytes maxL ret h0 ws C) (pt pf : Nat) {o : Int} (hpt : ((pc : Int) + o).toNat = pt) (ho : 0 ≤ (pc : Int) + o) (hpf : pf = pc + 3) {x z : Int32} (hd : decode bytes pc = .ok (.if_icmp .lt o, 3)) (kt : x < z → B.G h cl sl (mkF m pt Ls st)) (kf : ¬ x < z → B.G h cl sl (mkF m pf Ls st)) : B.G h cl sl (mkF m pc Ls (.int z :: .int x :: st)) := by
  subst hpt hpf
  by_cases q : x < z
  · exact B.via (fun T t X r => XS.icmpYes X B.1 rfl rfl (hb B.2.1 hd) rfl (XT.ii_lt_t q) ho rfl r) (kt q)
  · exact B.via (fun T t X r => XS.icmpNo X B.1 rfl (hb B.2.1 hd) rfl (XT.ii_lt_f q) r) (kf q)
theorem Base.if0_lt (B : Base p l e R s m args below meth c Z y bytes maxL ret h0 ws C) (pt pf : Nat) {o : Int} (hpt : ((pc : Int) + o).toNat = pt) (ho : 0 ≤ (pc : Int) + o) (hpf : pf = pc + 3) {x : Int32} (hd : decode bytes pc = .ok (.ifCond .lt o, 3)) (kt : x < 0 → B.G h cl sl (mkF m pt Ls st)) (kf : ¬ x < 0 → B.G h cl sl (mkF m pf Ls st)) : B.G h cl sl (mkF m pc Ls (.int x :: st)) := by
  subst hpt hpf
  by_cases q : x < 0
  · exact B.via (fun T t X r => XS.ifYes X B.1 rfl rfl (hb B.2.1 hd) rfl (XT.i0_lt_t q) ho rfl r) (kt q)
  · exact B.via (fun T t X r => XS.ifNo X B.1 rfl (hb B.2.1 hd) rfl (XT.i0_lt_f q) r) (kf q)
theorem Base.lif_lt (B : Base p l e R s m args below meth c Z y bytes maxL ret h0 ws C) (pt pf : Nat) {o : Int} (hpt : ((pc : Int) + o).toNat = pt) (ho : 0 ≤ (pc : Int) + o) (hpf : pf = pc + 3) {x z : Int64} (hd : decode bytes pc = .ok (.ifCond .lt o, 3)) (kt : x < z → B.G h cl sl (mkF m pt Ls st)) (kf : ¬ x < z → B.G h cl sl (mkF m pf Ls st)) : B.G h cl sl (mkF m pc Ls (.int (XT.cmpL x z) :: st)) := by
  subst hpt hpf
  by_cases q : x < z
  · exact B.via (fun T t X r => XS.ifYes X B.1 rfl rfl (hb B.2.1 hd) rfl (XT.ll_lt_t q) ho rfl r) (kt q)
  · exact B.via (fun T t X r => XS.ifNo X B.1 rfl (hb B.2.1 hd) rfl (XT.ll_lt_f q) r) (kf q)
theorem Base.icmp_ge (B : Base p l e R s m args below meth c Z y bytes maxL ret h0 ws C) (pt pf : Nat) {o : Int} (hpt : ((pc : Int) + o).toNat = pt) (ho : 0 ≤ (pc : Int) + o) (hpf : pf = pc + 3) {x z : Int32} (hd : decode bytes pc = .ok (.if_icmp .ge o, 3)) (kt : ¬ x < z → B.G h cl sl (mkF m pt Ls st)) (kf : x < z → B.G h cl sl (mkF m pf Ls st)) : B.G h cl sl (mkF m pc Ls (.int z :: .int x :: st)) := by
  subst hpt hpf
  by_cases q : x < z
  · exact B.via (fun T t X r => XS.icmpNo X B.1 rfl (hb B.2.1 hd) rfl (XT.ii_ge_f q) r) (kf q)
  · exact B.via (fun T t X r => XS.icmpYes X B.1 rfl rfl (hb B.2.1 hd) rfl (XT.ii_ge_t q) ho rfl r) (kt q)
theorem Base.if0_ge (B : Base p l e R s m args below meth c Z y bytes maxL ret h0 ws C) (pt pf : Nat) {o : Int} (hpt : ((pc : Int) + o).toNat = pt) (ho : 0 ≤ (pc : Int) + o) (hpf : pf = pc + 3) {x : Int32} (hd : decode bytes pc = .ok (.ifCond .ge o, 3)) (kt : ¬ x < 0 → B.G h cl sl (mkF m pt Ls st)) (kf : x < 0 → B.G h cl sl (mkF m pf Ls st)) : B.G h cl sl (mkF m pc Ls (.int x :: st)) := by
  subst hpt hpf
  by_cases q : x < 0
  · exact B.via (fun T t X r => XS.ifNo X B.1 rfl (hb B.2.1 hd) rfl (XT.i0_ge_f q) r) (kf q)
  · exact B.via (fun T t X r => XS.ifYes X B.1 rfl rfl (hb B.2.1 hd) rfl (XT.i0_ge_t q) ho rfl r) (kt q)
theorem Base.lif_ge (B : Base p l e R s m args below meth c Z y bytes maxL ret h0 ws C) (pt pf : Nat) {o : Int} (hpt : ((pc : Int) + o).toNat = pt) (ho : 0 ≤ (pc : Int) + o) (hpf : pf = pc + 3) {x z : Int64} (hd : decode bytes pc = .ok (.ifCond .ge o, 3)) (kt : ¬ x < z → B.G h cl sl (mkF m pt Ls st)) (kf : x < z → B.G h cl sl (mkF m pf Ls st)) : B.G h cl sl (mkF m pc Ls (.int (XT.cmpL x z) :: st)) := by
  subst hpt hpf
  by_cases q : x < z
  · exact B.via (fun T t X r => XS.ifNo X B.1 rfl (hb B.2.1 hd) rfl (XT.ll_ge_f q) r) (kf q)
  · exact B.via (fun T t X r => XS.ifYes X B.1 rfl rfl (hb B.2.1 hd) rfl (XT.ll_ge_t q) ho rfl r) (kt q)
theorem Base.icmp_gt (B : Base p l e R s m args below meth c Z y bytes maxL ret h0 ws C) (pt pf : Nat) {o : Int} (hpt : ((pc : Int) + o).toNat = pt) (ho : 0 ≤ (pc : Int) + o) (hpf : pf = pc + 3) {x z : Int32} (hd : decode bytes pc = .ok (.if_icmp .gt o, 3)) (kt : z < x → B.G h cl sl (mkF m pt Ls st)) (kf : ¬ z < x → B.G h cl sl (mkF m pf Ls st)) : B.G h cl sl (mkF m pc Ls (.int z :: .int x :: st)) := by
  subst hpt hpf
  by_cases q : z < x
  · exact B.via (fun T t X r => XS.icmpYes X B.1 rfl rfl (hb B.2.1 hd) rfl (XT.ii_gt_t q) ho rfl r) (kt q)
  · exact B.via (fun T t X r => XS.icmpNo X B.1 rfl (hb B.2.1 hd) rfl (XT.ii_gt_f q) r) (kf q)
theorem Base.if0_gt (B : Base p l e R s m args below meth c Z y bytes maxL ret h0 ws C) (pt pf : Nat) {o : Int} (hpt : ((pc : Int) + o).toNat = pt) (ho : 0 ≤ (pc : Int) + o) (hpf : pf = pc + 3) {x : Int32} (hd : decode bytes pc = .ok (.ifCond .gt o, 3)) (kt : 0 < x → B.G h cl sl (mkF m pt Ls st)) (kf : ¬ 0 < x → B.G h cl sl (mkF m pf Ls st)) : B.G h cl sl (mkF m pc Ls (.int x :: st)) := by
  subst hpt hpf
  by_cases q : 0 < x
  · exact B.via (fun T t X r => XS.ifYes X B.1 rfl rfl (hb B.2.1 hd) rfl (XT.i0_gt_t q) ho rfl r) (kt q)
  · exact B.via (fun T t X r => XS.ifNo X B.1 rfl (hb B.2.1 hd) rfl (XT.i0_gt_f q) r) (kf q)
theorem Base.lif_gt (B : Base p l e R s m args below meth c Z y bytes maxL ret h0 ws C) (pt pf : Nat) {o : Int} (hpt : ((pc : Int) + o).toNat = pt) (ho : 0 ≤ (pc : Int) + o) (hpf : pf = pc + 3) {x z : Int64} (hd : decode bytes pc = .ok (.ifCond .gt o, 3)) (kt : z < x → B.G h cl sl (mkF m pt Ls st)) (kf : ¬ z < x → B.G h cl sl (mkF m pf Ls st)) : B.G h cl sl (mkF m pc Ls (.int (XT.cmpL x z) :: st)) := by
  subst hpt hpf
  by_cases q : z < x
  · exact B.via (fun T t X r => XS.ifYes X B.1 rfl rfl (hb B.2.1 hd) rfl (XT.ll_gt_t q) ho rfl r) (kt q)
  · exact B.via (fun T t X r => XS.ifNo X B.1 rfl (hb B.2.1 hd) rfl (XT.ll_gt_f q) r) (kf q)
theorem Base.icmp_le (B : Base p l e R s m args below meth c Z y bytes maxL ret h0 ws C) (pt pf : Nat) {o : Int} (hpt : ((pc : Int) + o).toNat = pt) (ho : 0 ≤ (pc : Int) + o) (hpf : pf = pc + 3) {x z : Int32} (hd : decode bytes pc = .ok (.if_icmp .le o, 3)) (kt : ¬ z < x → B.G h cl sl (mkF m pt Ls st)) (kf : z < x → B.G h cl sl (mkF m pf Ls st)) : B.G h cl sl (mkF m pc Ls (.int z :: .int x :: st)) := by
  subst hpt hpf
  by_cases q : z < x
  · exact B.via (fun T t X r => XS.icmpNo X B.1 rfl (hb B.2.1 hd) rfl (XT.ii_le_f q) r) (kf q)
  · exact B.via (fun T t X r => XS.icmpYes X B.1 rfl rfl (hb B.2.1 hd) rfl (XT.ii_le_t q) ho rfl r) (kt q)
theorem Base.if0_le (B : Base p l e R s m args below meth c Z y bytes maxL ret h0 ws C) (pt pf : Nat) {o : Int} (hpt : ((pc : Int) + o).toNat = pt) (ho : 0 ≤ (pc : Int) + o) (hpf : pf = pc + 3) {x : Int32} (hd : decode bytes pc = .ok (.ifCond .le o, 3)) (kt : ¬ 0 < x → B.G h cl sl (mkF m pt Ls st)) (kf : 0 < x → B.G h cl sl (mkF m pf Ls st)) : B.G h cl sl (mkF m pc Ls (.int x :: st)) := by
  subst hpt hpf
  by_cases q : 0 < x
  · exact B.via (fun T t X r => XS.ifNo X B.1 rfl (hb B.2.1 hd) rfl (XT.i0_le_f q) r) (kf q)
  · exact B.via (fun T t X r => XS.ifYes X B.1 rfl rfl (hb B.2.1 hd) rfl (XT.i0_le_t q) ho rfl r) (kt q)
theorem Base.lif_le (B : Base p l e R s m args below meth c Z y bytes maxL ret h0 ws C) (pt pf : Nat) {o : Int} (hpt : ((pc : Int) + o).toNat = pt) (ho : 0 ≤ (pc : Int) + o) (hpf : pf = pc + 3) {x z : Int64} (hd : decode bytes pc = .ok (.ifCond .le o, 3)) (kt : ¬ z < x → B.G h cl sl (mkF m pt Ls st)) (kf : z < x → B.G h cl sl (mkF m pf Ls st)) : B.G h cl sl (mkF m pc Ls (.int (XT.cmpL x z) :: st)) := by
  subst hpt hpf
  by_cases q : z < x
  · exact B.via (fun T t X r => XS.ifNo X B.1 rfl (hb B.2.1 hd) rfl (XT.ll_le_f q) r) (kf q)
  · exact B.via (fun T t X r => XS.ifYes X B.1 rfl rfl (hb B.2.1 hd) rfl (XT.ll_le_t q) ho rfl r) (kt q)
theorem Base.acmp_eq (B : Base p l e R s m args below meth c Z y bytes maxL ret h0 ws C) (pt pf : Nat) {o : Int} (hpt : ((pc : Int) + o).toNat = pt) (ho : 0 ≤ (pc : Int) + o) (hpf : pf = pc + 3) {x z : Value} (hd : decode bytes pc = .ok (.if_acmp .eq o, 3)) (hx' : x.isRef = true) (hz' : z.isRef = true) (kt : x = z → B.G h cl sl (mkF m pt Ls st)) (kf : ¬ x = z → B.G h cl sl (mkF m pf Ls st)) : B.G h cl sl (mkF m pc Ls (z :: x :: st)) := by
  subst hpt hpf
  by_cases q : x = z
  · exact B.via (fun T t X r => XT.acmpYes X B.1 rfl rfl (hb B.2.1 hd) rfl hx' hz' (XT.aa_eq_t q) ho rfl r) (kt q)
  · exact B.via (fun T t X r => XT.acmpNo X B.1 rfl (hb B.2.1 hd) rfl hx' hz' (XT.aa_eq_f q) r) (kf q)
theorem Base.acmp_ne (B : Base p l e R s m args below meth c Z y bytes maxL ret h0 ws C) (pt pf : Nat) {o : Int} (hpt : ((pc : Int) + o).toNat = pt) (ho : 0 ≤ (pc : Int) + o) (hpf : pf = pc + 3) {x z : Value} (hd : decode bytes pc = .ok (.if_acmp .ne o, 3)) (hx' : x.isRef = true) (hz' : z.isRef = true) (kt : ¬ x = z → B.G h cl sl (mkF m pt Ls st)) (kf : x = z → B.G h cl sl (mkF m pf Ls st)) : B.G h cl sl (mkF m pc Ls (z :: x :: st)) := by
  subst hpt hpf
  by_cases q : x = z
  · exact B.via (fun T t X r => XT.acmpNo X B.1 rfl (hb B.2.1 hd) rfl hx' hz' (XT.aa_ne_f q) r) (kf q)
  · exact B.via (fun T t X r => XT.acmpYes X B.1 rfl rfl (hb B.2.1 hd) rfl hx' hz' (XT.aa_ne_t q) ho rfl r) (kt q)
theorem Base.ifnull (B : Base p l e R s m args below meth c Z y bytes maxL ret h0 ws C) (pt pf : Nat) {o : Int} (hpt : ((pc : Int) + o).toNat = pt) (ho : 0 ≤ (pc : Int) + o) (hpf : pf = pc + 3) {x : Value} (hd : decode bytes pc = .ok (.ifnull o, 3)) (hx' : x.isRef = true) (kt : x = .null → B.G h cl sl (mkF m pt Ls st)) (kf : ¬ x = .null → B.G h cl sl (mkF m pf Ls st)) : B.G h cl sl (mkF m pc Ls (x :: st)) := by
  subst hpt hpf
  by_cases q : x = .null
  · exact B.via (fun T t X r => XT.nullYes X B.1 rfl rfl (hb B.2.1 hd) rfl q ho rfl r) (kt q)
  · exact B.via (fun T t X r => XT.nullNo X B.1 rfl (hb B.2.1 hd) rfl hx' q r) (kf q)
theorem Base.ifnonnull (B : Base p l e R s m args below meth c Z y bytes maxL ret h0 ws C) (pt pf : Nat) {o : Int} (hpt : ((pc : Int) + o).toNat = pt) (ho : 0 ≤ (pc : Int) + o) (hpf : pf = pc + 3) {x : Value} (hd : decode bytes pc = .ok (.ifnonnull o, 3)) (hx' : x.isRef = true) (kt : ¬ x = .null → B.G h cl sl (mkF m pt Ls st)) (kf : x = .null → B.G h cl sl (mkF m pf Ls st)) : B.G h cl sl (mkF m pc Ls (x :: st)) := by
  subst hpt hpf
  by_cases q : x = .null
  · exact B.via (fun T t X r => XT.nonnullNo X B.1 rfl (hb B.2.1 hd) rfl q r) (kf q)
  · exact B.via (fun T t X r => XT.nonnullYes X B.1 rfl rfl (hb B.2.1 hd) rfl hx' q ho rfl r) (kt q)
theorem Base.topI (B : Base p l e R s m args below meth c Z y bytes maxL ret h0 ws C) {x : Int32} (v : Int32) (q : x = v) (k : B.G h cl sl (mkF m pc Ls (.int v :: st))) : B.G h cl sl (mkF m pc Ls (.int x :: st)) := by subst q; exact k
theorem Base.topL (B : Base p l e R s m args below meth c Z y bytes maxL ret h0 ws C) {x : Int64} (v : Int64) (q : x = v) (k : B.G h cl sl (mkF m pc Ls (.long v :: st))) : B.G h cl sl (mkF m pc Ls (.long x :: st)) := by subst q; exact k
/-! 2. the ends -/
theorem Base.leave (B : Base p l e R s m args below meth c Z y bytes maxL ret h0 ws C) (hcl : cl ≤ R.cells) (hsl : sl ≤ R.slots) {v : Option Value} (hv : meth.sig.returnType = none → v = none) (hC : C v h)
    (st : ∀ (T : State) (locs : List Loc) (fs : List Frame), Stand p l e R s m args below meth c T locs cl sl → (∀ (f : JFrame) (acts : List Action), f.method = m → f.locked = none → f.entered = [] → (doReturn e (T.setTop f) acts v).1 = T.setFrames fs) → Steps p.tables e below (T.setTop g) (T.setFrames fs)) : B.G h cl sl g := fun T locs X N eT => by
  have hlk : meth.locks = false := B.2.2.2.2.2.2.1
  obtain ⟨fs, hr, hrun, hended, hW, hsame⟩ := X.leave (v := v) hv hlk
  have e0 := B.2.2.2.2.2.2.2.2
  refine ⟨_, _, st T locs fs X hr, hrun, hended, _, _, rfl, ⟨?_, N, ?_⟩, ⟨_, rfl⟩, hW, hsame.mono hcl hsl⟩
  · show C v T.heap
    rw [eT]; exact hC
  · show Keep h0 T.heap ws
    rw [← e0] at N ⊢
    exact keep_of X N
theorem Base.ret0 (B : Base p l e R s m args below meth c Z y bytes maxL none h0 ws C) (hd : decode bytes pc = .ok (.return_, 1)) (hcl : cl ≤ R.cells) (hsl : sl ≤ R.slots) (hC : C none h) : B.G h cl sl (mkF m pc Ls []) :=
  B.leave hcl hsl (fun _ => rfl) hC fun T locs fs X hr => X.returnOut B.1 B.2.2.2.2.2.1 (hb B.2.1 hd) hr
theorem Base.retI (B : Base p l e R s m args below meth c Z y bytes maxL (some .int) h0 ws C) {x : Int32} (hd : decode bytes pc = .ok (.ireturn, 1)) (hcl : cl ≤ R.cells) (hsl : sl ≤ R.slots) (hC : C (some (.int x)) h) : B.G h cl sl (mkF m pc Ls (.int x :: st)) :=
  B.leave hcl hsl (fun q => by rw [B.2.2.2.2.2.1] at q; cases q) hC fun T locs fs X hr => retOut X B.1 B.2.2.2.2.2.1 rfl (Or.inl ⟨rfl, Or.inl rfl, _, rfl⟩) (hb B.2.1 hd) hr
theorem Base.retL (B : Base p l e R s m args below meth c Z y bytes maxL (some .long) h0 ws C) {x : Int64} (hd : decode bytes pc = .ok (.lreturn, 1)) (hcl : cl ≤ R.cells) (hsl : sl ≤ R.slots) (hC : C (some (.long x)) h) : B.G h cl sl (mkF m pc Ls (.long x :: st)) :=
  B.leave hcl hsl (fun q => by rw [B.2.2.2.2.2.1] at q; cases q) hC fun T locs fs X hr => retOut X B.1 B.2.2.2.2.2.1 rfl (Or.inr (Or.inl ⟨rfl, rfl, _, rfl⟩)) (hb B.2.1 hd) hr
/-- a boolean, byte, char, short: what comes back is narrowed -/
theorem Base.retN {t : FieldType} (B : Base p l e R s m args below meth c Z y bytes maxL (some t) h0 ws C) {x : Int32} (ht : t = .boolean ∨ t = .byte ∨ t = .char ∨ t = .short) (hd : decode bytes pc = .ok (.ireturn, 1)) (hcl : cl ≤ R.cells) (hsl : sl ≤ R.slots) (hC : C (some (.int (nar t x))) h) : B.G h cl sl (mkF m pc Ls (.int x :: st)) :=
  B.leave hcl hsl (fun q => by rw [B.2.2.2.2.2.1] at q; cases q) hC fun T locs fs X hr => Jvm.RoadKit.retN X B.1 B.2.2.2.2.2.1 ht (hb B.2.1 hd) hr
theorem Base.retA {t : FieldType} (B : Base p l e R s m args below meth c Z y bytes maxL (some t) h0 ws C) {x : Value} (ht : t.isReference = true) (hx' : x.isRef = true) (hd : decode bytes pc = .ok (.areturn, 1)) (hcl : cl ≤ R.cells) (hsl : sl ≤ R.slots) (hC : C (some x) h) : B.G h cl sl (mkF m pc Ls (x :: st)) :=
  B.leave hcl hsl (fun q => by rw [B.2.2.2.2.2.1] at q; cases q) hC fun T locs fs X hr => retOut X B.1 B.2.2.2.2.2.1 (by rcases ref_cases hx' with rfl | ⟨a, rfl⟩ <;> cases t <;> simp_all [narrow, FieldType.isReference]) (Or.inr (Or.inr (Or.inr (Or.inr ⟨rfl, ht, hx'⟩)))) (hb B.2.1 hd) hr
/-! 3. the heap -/
theorem Base.size (B : Base p l e R s m args below meth c Z y bytes maxL ret h0 ws C) {T : State} {locs : List Loc} (X : Stand p l e R s m args below meth c T locs cl sl) : h0.size ≤ T.heap.size := by
  have q := X.same.2.1
  rw [B.2.2.2.2.2.2.2.2] at q; exact q
/-- the heap has only grown -/
theorem Base.grown (B : Base p l e R s m args below meth c Z y bytes maxL ret h0 ws C) (k : h0.size ≤ h.size → B.G h cl sl g) : B.G h cl sl g := fun T locs X N eT => k (by rw [← eT]; exact B.size X) T locs X N eT
theorem Base.getF (B : Base p l e R s m args below meth c Z y bytes maxL ret h0 ws C) (pc' : Nat) (hp : pc' = pc + 3) {i : Nat} {O n d : String} {a : Addr} {v : Value} (hd : decode bytes pc = .ok (.getfield i, 3)) (w : (Cond.fieldLink y.cls i O n d).before a0 Z = true) (F : Fld Z h a O n d v) (k : B.G h cl sl (mkF m pc' Ls (v :: st))) : B.G h cl sl (mkF m pc Ls (.ref a :: st)) := fun T locs X N eT => by
  subst hp
  obtain ⟨T', X', e', stp⟩ := Jvm.RoadKit.getF X B.1 B.2.2.2.1 B.2.2.2.2.1 (host := "") (Or.inl w) Via.refl eT F (g := mkF m pc Ls (.ref a :: st)) rfl rfl (hb B.2.1 hd)
  obtain ⟨t, o, q, r⟩ := k T' locs X' N e'
  exact ⟨t, o, stp _ q, r⟩
theorem Base.getS (B : Base p l e R s m args below meth c Z y bytes maxL ret h0 ws C) (pc' : Nat) (hp : pc' = pc + 3) {i : Nat} {O n d : String} {v : Value} (hd : decode bytes pc = .ok (.getstatic i, 3)) (w : (Cond.fieldLink y.cls i O n d).before a0 Z = true) (F : Sta Z h O n d v) (k : B.G h cl sl (mkF m pc' Ls (v :: st))) : B.G h cl sl (mkF m pc Ls st) := fun T locs X N eT => by
  subst hp
  obtain ⟨T', X', e', stp⟩ := Jvm.RoadKit.getS (host := "") X B.1 B.2.2.2.1 B.2.2.2.2.1 w Via.refl eT F (g := mkF m pc Ls st) rfl (hb B.2.1 hd)
  obtain ⟨t, o, q, r⟩ := k T' locs X' N e'
  exact ⟨t, o, stp _ q, r⟩
theorem Base.putF (B : Base p l e R s m args below meth c Z y bytes maxL ret h0 ws C) (pc' : Nat) (hp : pc' = pc + 3) {i kk : Nat} {O n d CC : String} {a : Addr} {v old : Value} {ty : FieldType} (hd : decode bytes pc = .ok (.putfield i, 3)) (w : (Cond.fieldLink y.cls i O n d).before a0 Z = true) (F : Fld Z h a O n d old) (E : Exa Z h a CC)
    (L : (Cond.lays CC O n d).before a0 Z = true ∨ ((Cond.laysFinal CC O n d).before a0 Z = true ∧ y.cls = O ∧ y.name = "<init>")) (wi : (Cond.instantiable CC kk).before a0 Z = true) (hty : parseFieldDescriptor d = some ty) (hn : narrow ty v = v) (hf : fits ty v = true) (hw : a ∈ ws ∨ h0.size ≤ a)
    (k : ∀ h', Wr h h' a (Jvm.RoadKit.slotOf Z O n d) v → B.G h' cl sl (mkF m pc' Ls st)) : B.G h cl sl (mkF m pc Ls (v :: .ref a :: st)) := fun T locs X N eT => by
  subst hp
  obtain ⟨T', h', X', e', W, stp⟩ := Jvm.RoadKit.putF X B.1 B.2.2.2.1 B.2.2.2.2.1 (host := "") (Or.inl w) Via.refl eT F E (L.imp id fun q => ⟨q.1, q.2.1, B.2.2.2.2.2.2.2.1.trans q.2.2⟩) wi hty hn hf (g := mkF m pc Ls (v :: .ref a :: st)) rfl rfl (hb B.2.1 hd)
  obtain ⟨t, o, q, r⟩ := k h' W T' _ X' (N.one hw) e'
  exact ⟨t, o, stp _ q, r⟩
theorem Base.newO (B : Base p l e R s m args below meth c Z y bytes maxL ret h0 ws C) (pc' : Nat) (hp : pc' = pc + 3) {i n : Nat} {CC : String} (hd : decode bytes pc = .ok (.new i, 3)) (w : (Cond.classLink y.cls i CC).before a0 Z = true) (wi : (Cond.instantiable CC n).before a0 Z = true) (wz : (Cond.initialized CC).before a0 Z = true) (hc : cl + 1 ≤ R.cells) (hs : sl + n ≤ R.slots)
    (k : ∀ h' a, a = h.size → h0.size ≤ a → Ext h h' → Exa Z h' a CC → (∀ {O nm d : String} {ty : FieldType}, Laid Z a0 CC O nm d → parseFieldDescriptor d = some ty → Fld Z h' a O nm d (defaultValue ty)) → B.G h' (cl + 1) (sl + n) (mkF m pc' Ls (.ref a :: st))) : B.G h cl sl (mkF m pc Ls st) := fun T locs X N eT => by
  subst hp
  obtain ⟨T', h', X', e', E, A, D, -, stp⟩ := Jvm.RoadKit.newO X B.1 B.2.2.2.1 B.2.2.2.2.1 w wi wz eT (g := mkF m pc Ls st) rfl (hb B.2.1 hd) hc hs
  obtain ⟨t, o, q, r⟩ := k h' _ rfl (by rw [← eT]; exact B.size X) E A D T' locs X' N e'
  exact ⟨t, o, stp _ q, r⟩
theorem Base.initO (B : Base p l e R s m args below meth c Z y bytes maxL ret h0 ws C) (pc' : Nat) (hp : pc' = pc + 3) {i : Nat} {a : Addr} (hd : decode bytes pc = .ok (.invokespecial i, 3)) (w1 : (Cond.methodLink y.cls i Lib.objectInit).before a0 Z = true) (w2 : (Cond.instanceMethod Lib.objectInit).before a0 Z = true) (w3 : (Cond.code Lib.objectInit ⟨#[0xb1]⟩ 1 none).before a0 Z = true)
    (hLs : Ls.size = maxL) (W : Nat) (hW : (st.map fun v => v.category).sum = W) (hf : 1 ≤ R.frames) (hl : W + 12 ≤ R.locals) (k : B.G h cl sl (mkF m pc' Ls st)) : B.G h cl sl (mkF m pc Ls (.ref a :: st)) := fun T locs X N eT => by
  subst hp
  obtain ⟨T', X', e', stp⟩ := Jvm.RoadKit.initO X B.1 B.2.2.2.1 B.2.2.2.2.1 w1 w2 w3 eT (g := mkF m pc Ls (.ref a :: st)) rfl (hLs.trans B.2.2.1.symm) rfl (hb B.2.1 hd) hf (W := W) (by show 2 * 0 + _ ≤ _; omega) hl
  obtain ⟨t, o, q, r⟩ := k T' locs X' N e'
  exact ⟨t, o, stp _ q, r⟩
/-! 4. calls -/
section Calls
variable {z : MethodName} {i : Nat} {cb : ByteArray} {cm : Nat} {cr : Option FieldType} {rm : Room} {as : Array Value} {ws' : List Addr} {C' : Option Value → Heap → Prop} {argsL rest : List Value} {ps : List FieldType} {rt : Option FieldType} {W : Nat}
theorem Base.callS (B : Base p l e R s m args below meth c Z y bytes maxL ret h0 ws C) (pc' : Nat) (hp : pc' = pc + 3) (hd : decode bytes pc = .ok (.invokestatic i, 3))
    (w1 : (Cond.methodLink y.cls i z).before a0 Z = true) (w2 : (Cond.static z).before a0 Z = true) (w3 : (Cond.initialized z.cls).before a0 Z = true) (w4 : (Cond.code z cb cm cr).before a0 Z = true)
    (hz : z.cls ≠ "java/lang/invoke/MethodHandle" ∧ z.cls ≠ "java/lang/invoke/VarHandle") (argsL rest : List Value) (M : Met l Z z cb cm cr [] rm as h ws' C') (has : argsL.toArray = as) (hst : st = argsL.reverse ++ rest) (hpd : parseMethodDescriptor z.desc = some ⟨ps, rt⟩) (hlen : argsL.length = ps.length) (hLs : Ls.size = maxL)
    (W : Nat) (hW : (rest.map fun v => v.category).sum = W) (hf : rm.frames + 1 ≤ R.frames) (hl : W + (cm + 11) + rm.locals ≤ R.locals) (hc : cl + rm.cells ≤ R.cells) (hs : sl + rm.slots ≤ R.slots) (hws : ∀ x ∈ ws', x ∈ ws ∨ h0.size ≤ x)
    (k : ∀ v h', Keep h h' ws' → C' v h' → B.G h' (cl + rm.cells) (sl + rm.slots) (mkF m pc' Ls (v.toList ++ rest))) : B.G h cl sl (mkF m pc Ls st) := fun T locs X N eT => by
  subst hp
  have hZ := B.2.2.2.1
  obtain ⟨v, _, ⟨T', L', k', n'⟩, -, X', ⟨Lc, hQ, l', y', z'⟩, stp⟩ := Jvm.LawKit.callS X B.1 (y := z) B.2.2.2.2.1 (mvT hZ w1) (mvT hZ w2) (mvT hZ w3) (mvT hZ w4) hz (backOf (W := W) M hZ w4 w3 hf hl) (g := mkF m pc Ls st) rfl (hLs.trans B.2.2.1.symm) (argsL := argsL) (rest := rest) (lenOf hpd hlen) hst (by show 2 * 0 + _ ≤ _; omega) (hb B.2.1 hd) (fun _ _ => ⟨has, eT, hc, hs⟩)
  dsimp only [Pt.U, Pt.locs, Pt.cells, Pt.slots] at X' l' y' z' stp hQ
  subst l' y' z'
  obtain ⟨hC, hN, hK⟩ := hQ
  obtain ⟨t, o, q, r⟩ := k v T'.heap hK hC T' _ X' (N.app fun u hu => (hN u hu).elim (fun q => hws _ q) fun q => Or.inr (Nat.le_trans (by rw [← eT]; exact B.size X) q)) rfl
  exact ⟨t, o, stp _ q, r⟩
theorem Base.callI (B : Base p l e R s m args below meth c Z y bytes maxL ret h0 ws C) (pc' : Nat) (hp : pc' = pc + 3) (hd : decode bytes pc = .ok (.invokespecial i, 3)) (hin : z.name = "<init>")
    (w1 : (Cond.methodLink y.cls i z).before a0 Z = true) (w2 : (Cond.instanceMethod z).before a0 Z = true) (w3 : (Cond.initialized z.cls).before a0 Z = true) (w4 : (Cond.code z cb cm none).before a0 Z = true)
    (hz : z.cls ≠ "java/lang/invoke/MethodHandle" ∧ z.cls ≠ "java/lang/invoke/VarHandle") {a : Addr} (argsL rest : List Value) (M : Met l Z z cb cm none [] rm as h ws' C') (has : (.ref a :: argsL).toArray = as) (hst : st = argsL.reverse ++ .ref a :: rest) (hpd : parseMethodDescriptor z.desc = some ⟨ps, rt⟩) (hlen : argsL.length = ps.length) (hLs : Ls.size = maxL)
    (W : Nat) (hW : (rest.map fun v => v.category).sum = W) (hf : rm.frames + 1 ≤ R.frames) (hl : W + (cm + 11) + rm.locals ≤ R.locals) (hc : cl + rm.cells ≤ R.cells) (hs : sl + rm.slots ≤ R.slots) (hws : ∀ x ∈ ws', x ∈ ws ∨ h0.size ≤ x)
    (k : ∀ v h', Keep h h' ws' → C' v h' → B.G h' (cl + rm.cells) (sl + rm.slots) (mkF m pc' Ls (v.toList ++ rest))) : B.G h cl sl (mkF m pc Ls st) := fun T locs X N eT => by
  subst hp
  have hZ := B.2.2.2.1
  obtain ⟨v, _, ⟨T', L', k', n'⟩, -, X', ⟨Lc, hQ, l', y', z'⟩, stp⟩ := X.specialBack B.1 (y := z) hin B.2.2.2.2.1 (mvT hZ w1) (mvT hZ w2) (mvT hZ w4) hz (backOf (W := W) M hZ w4 w3 hf hl) (g := mkF m pc Ls st) rfl (hLs.trans B.2.2.1.symm) (Steps.refl _) (a := a) (argsL := argsL) (rest := rest) (lenOf hpd hlen) hst (by show 2 * 0 + _ ≤ _; omega) (hb B.2.1 hd) (fun _ _ => ⟨has, eT, hc, hs⟩)
  dsimp only [Pt.U, Pt.locs, Pt.cells, Pt.slots] at X' l' y' z' stp hQ
  subst l' y' z'
  obtain ⟨hC, hN, hK⟩ := hQ
  obtain ⟨t, o, q, r⟩ := k v T'.heap hK hC T' _ X' (N.app fun u hu => (hN u hu).elim (fun q => hws _ q) fun q => Or.inr (Nat.le_trans (by rw [← eT]; exact B.size X) q)) rfl
  exact ⟨t, o, stp.trans q, r⟩
theorem Base.callV (B : Base p l e R s m args below meth c Z y bytes maxL ret h0 ws C) (pc' : Nat) (hp : pc' = pc + 3) (hd : decode bytes pc = .ok (.invokevirtual i, 3)) {CC : String}
    (w1 : (Cond.methodLink y.cls i z).before a0 Z = true) (w2 : (Cond.declares z).before a0 Z = true) (w5 : (Cond.selects CC z z).before a0 Z = true) (w6 : (Cond.instanceMethod z).before a0 Z = true) (w3 : (Cond.initialized z.cls).before a0 Z = true) (w4 : (Cond.code z cb cm cr).before a0 Z = true)
    (hz : z.cls ≠ "java/lang/invoke/MethodHandle" ∧ z.cls ≠ "java/lang/invoke/VarHandle") {a : Addr} (E : Exa Z h a CC) (argsL rest : List Value) (M : Met l Z z cb cm cr [] rm as h ws' C') (has : (.ref a :: argsL).toArray = as) (hst : st = argsL.reverse ++ .ref a :: rest) (hpd : parseMethodDescriptor z.desc = some ⟨ps, rt⟩) (hlen : argsL.length = ps.length) (hLs : Ls.size = maxL)
    (W : Nat) (hW : (rest.map fun v => v.category).sum = W) (hf : rm.frames + 1 ≤ R.frames) (hl : W + (cm + 11) + rm.locals ≤ R.locals) (hc : cl + rm.cells ≤ R.cells) (hs : sl + rm.slots ≤ R.slots) (hws : ∀ x ∈ ws', x ∈ ws ∨ h0.size ≤ x)
    (k : ∀ v h', Keep h h' ws' → C' v h' → B.G h' (cl + rm.cells) (sl + rm.slots) (mkF m pc' Ls (v.toList ++ rest))) : B.G h cl sl (mkF m pc Ls st) := fun T locs X N eT => by
  subst hp
  have hZ := B.2.2.2.1
  obtain ⟨cq, kq, qa, qb, qc⟩ := isOf hZ eT E
  obtain ⟨v, _, ⟨T', L', k', n'⟩, -, X', ⟨Lc, hQ, l', y', z'⟩, stp⟩ := X.virtualBack B.1 (y := z) (z := z) B.2.2.2.2.1 (mvT hZ w1) (mvT hZ w2) (notFace_of_selects (args := args) (mvT hZ w5)) (mvT hZ w5) (mvT hZ w6) hz (backOf (W := W) M hZ w4 w3 hf hl) qa qc (g := mkF m pc Ls st) rfl (hLs.trans B.2.2.1.symm) (Steps.refl _) (argsL := argsL) (rest := rest) (lenOf hpd hlen) hst (by show 2 * 0 + _ ≤ _; omega) (hb B.2.1 hd) (fun _ _ => ⟨has, eT, hc, hs⟩)
  dsimp only [Pt.U, Pt.locs, Pt.cells, Pt.slots] at X' l' y' z' stp hQ
  subst l' y' z'
  obtain ⟨hC, hN, hK⟩ := hQ
  obtain ⟨t, o, q, r⟩ := k v T'.heap hK hC T' _ X' (N.app fun u hu => (hN u hu).elim (fun q => hws _ q) fun q => Or.inr (Nat.le_trans (by rw [← eT]; exact B.size X) q)) rfl
  exact ⟨t, o, stp.trans q, r⟩
theorem Base.callVU (B : Base p l e R s m args below meth c Z y bytes maxL ret h0 ws C) (pc' : Nat) (hp : pc' = pc + 3) (hd : decode bytes pc = .ok (.invokevirtual i, 3)) {x : MethodName} {CC ow : String}
    (w1 : (Cond.methodLink y.cls i x).before a0 Z = true) (w0 : (Cond.sameMethod x.cls ow x.name x.desc).before a0 Z = true) (w2 : (Cond.declares ⟨ow, x.name, x.desc⟩).before a0 Z = true) (w5 : (Cond.selects CC x z).before a0 Z = true) (w6 : (Cond.instanceMethod z).before a0 Z = true) (w3 : (Cond.initialized z.cls).before a0 Z = true) (w4 : (Cond.code z cb cm cr).before a0 Z = true)
    (hz : ow ≠ "java/lang/invoke/MethodHandle" ∧ ow ≠ "java/lang/invoke/VarHandle") {a : Addr} (E : Exa Z h a CC) (argsL rest : List Value) (M : Met l Z z cb cm cr [] rm as h ws' C') (has : (.ref a :: argsL).toArray = as) (hst : st = argsL.reverse ++ .ref a :: rest) (hpd : parseMethodDescriptor x.desc = some ⟨ps, rt⟩) (hlen : argsL.length = ps.length) (hLs : Ls.size = maxL)
    (W : Nat) (hW : (rest.map fun v => v.category).sum = W) (hf : rm.frames + 1 ≤ R.frames) (hl : W + (cm + 11) + rm.locals ≤ R.locals) (hc : cl + rm.cells ≤ R.cells) (hs : sl + rm.slots ≤ R.slots) (hws : ∀ x ∈ ws', x ∈ ws ∨ h0.size ≤ x)
    (k : ∀ v h', Keep h h' ws' → C' v h' → B.G h' (cl + rm.cells) (sl + rm.slots) (mkF m pc' Ls (v.toList ++ rest))) : B.G h cl sl (mkF m pc Ls st) := fun T locs X N eT => by
  subst hp
  have hZ := B.2.2.2.1
  obtain ⟨cq, kq, qa, qb, qc⟩ := isOf hZ eT E
  obtain ⟨v, _, ⟨T', L', k', n'⟩, -, X', ⟨Lc, hQ, l', y', z'⟩, stp⟩ := X.virtualBackUp B.1 (x := x) (y := z) B.2.2.2.2.1 (mvT hZ w1) (mvT hZ w0) (mvT hZ w2) hz (mvT hZ w5) (mvT hZ w6) (backOf (W := W) M hZ w4 w3 hf hl) qa qc (g := mkF m pc Ls st) rfl (hLs.trans B.2.2.1.symm) (Steps.refl _) (argsL := argsL) (rest := rest) (lenOf hpd hlen) hst (by show 2 * 0 + _ ≤ _; omega) (hb B.2.1 hd) (fun _ _ => ⟨has, eT, hc, hs⟩)
  dsimp only [Pt.U, Pt.locs, Pt.cells, Pt.slots] at X' l' y' z' stp hQ
  subst l' y' z'
  obtain ⟨hC, hN, hK⟩ := hQ
  obtain ⟨t, o, q, r⟩ := k v T'.heap hK hC T' _ X' (N.app fun u hu => (hN u hu).elim (fun q => hws _ q) fun q => Or.inr (Nat.le_trans (by rw [← eT]; exact B.size X) q)) rfl
  exact ⟨t, o, stp.trans q, r⟩
theorem Base.callP (B : Base p l e R s m args below meth c Z y bytes maxL ret h0 ws C) (pc' : Nat) (hp : pc' = pc + 3) (hd : decode bytes pc = .ok (.invokevirtual i, 3)) {x : MethodName} {CC : String}
    (w1 : (Cond.methodLink y.cls i z).before a0 Z = true) (w7 : (Cond.privateMethod z).before a0 Z = true) (w6 : (Cond.instanceMethod z).before a0 Z = true) (w5 : (Cond.selects CC x x).before a0 Z = true) (hxc : x.cls = z.cls) (w3 : (Cond.initialized z.cls).before a0 Z = true) (w4 : (Cond.code z cb cm cr).before a0 Z = true)
    (hz : z.cls ≠ "java/lang/invoke/MethodHandle" ∧ z.cls ≠ "java/lang/invoke/VarHandle") {a : Addr} {CE : String} (E : Exa Z h a CE) (argsL rest : List Value) (M : Met l Z z cb cm cr [] rm as h ws' C') (has : (.ref a :: argsL).toArray = as) (hst : st = argsL.reverse ++ .ref a :: rest) (hpd : parseMethodDescriptor z.desc = some ⟨ps, rt⟩) (hlen : argsL.length = ps.length) (hLs : Ls.size = maxL)
    (W : Nat) (hW : (rest.map fun v => v.category).sum = W) (hf : rm.frames + 1 ≤ R.frames) (hl : W + (cm + 11) + rm.locals ≤ R.locals) (hc : cl + rm.cells ≤ R.cells) (hs : sl + rm.slots ≤ R.slots) (hws : ∀ x ∈ ws', x ∈ ws ∨ h0.size ≤ x)
    (k : ∀ v h', Keep h h' ws' → C' v h' → B.G h' (cl + rm.cells) (sl + rm.slots) (mkF m pc' Ls (v.toList ++ rest))) : B.G h cl sl (mkF m pc Ls st) := fun T locs X N eT => by
  subst hp
  have hZ := B.2.2.2.1
  obtain ⟨cq, q1, q2⟩ := E.cell
  have hpr : s.PrivateAt z := Cond.privateMethod_at (mvP hZ w7 (args := args))
  have hi : (Cond.instanceMethod z).before args s = true := mvT hZ w6
  have hsel : (Cond.selects z.cls z z).before args s = true := by
    obtain ⟨c2, r2, m2, -, -, q3, -, kP, hkP, hkPi⟩ := Cond.selects_spec (mvT hZ w5 (args := args))
    have hc2 := findClass_of_methodNamed q3
    rw [hxc] at hc2
    exact selects_self_of_private hc2 hkP hkPi hpr hi hz
  obtain ⟨v, _, ⟨T', L', k', n'⟩, -, X', ⟨Lc, hQ, l', y', z'⟩, stp⟩ := X.privateBack B.1 (y := z) B.2.2.2.2.1 (mvT hZ w1) hi hsel hpr (mvT hZ w4) hz (backOf (W := W) M hZ w4 w3 hf hl) (g := mkF m pc Ls st) rfl (hLs.trans B.2.2.1.symm) (Steps.refl _) (a := a) (by rw [eT]; exact q1) q2 (argsL := argsL) (rest := rest) (lenOf hpd hlen) hst (by show 2 * 0 + _ ≤ _; omega) (hb B.2.1 hd) (fun _ _ => ⟨has, eT, hc, hs⟩)
  dsimp only [Pt.U, Pt.locs, Pt.cells, Pt.slots] at X' l' y' z' stp hQ
  subst l' y' z'
  obtain ⟨hC, hN, hK⟩ := hQ
  obtain ⟨t, o, q, r⟩ := k v T'.heap hK hC T' _ X' (N.app fun u hu => (hN u hu).elim (fun q => hws _ q) fun q => Or.inr (Nat.le_trans (by rw [← eT]; exact B.size X) q)) rfl
  exact ⟨t, o, stp.trans q, r⟩
end Calls
/-- where nothing old is written, all that stood at the start stands -/
theorem Base.olds (B : Base p l e R s m args below meth c Z y bytes maxL ret h0 [] C) (k : Ext h0 h → B.G h cl sl g) : B.G h cl sl g := fun T locs X N eT => by
  refine k ?_ T locs X N eT
  have e0 := B.2.2.2.2.2.2.2.2
  have N' := N
  rw [← e0] at N'
  have q := keep_of X N'
  rw [e0, eT] at q
  exact ⟨q.1, fun a c hc => q.2.1 a c hc (by simp)⟩
end Walk
/-! 3b. arrays: 'Ary': the array at a holds just the list vs -/
def Ary (Z : State) (h : Heap) (a : Addr) (ty : FieldType) (vs : List Value) : Prop := ∃ c : Cell, Arr Z h a c ty ∧ c.slots.toList = vs
section Arrays
variable {p : Program} {l : Launch} {e : Env} {R : Room} {s : State} {m : MethodId} {args : Array Value} {below : List Frame} {meth : Method} {c : Code} {Z : State} {a0 : Array Value} {y : MethodName} {bytes : ByteArray} {maxL : Nat} {ret : Option FieldType} {h0 : Heap} {ws : List Addr} {C : Option Value → Heap → Prop}
variable {h h' : Heap} {cl sl : Nat} {g g' : JFrame} {pc : Nat} {Ls : Array Slot} {st : List Value} {a b : Addr} {ty : FieldType} {vs : List Value} {j : Int32} {i : Nat} {v w : Value} {wl : List Addr}
theorem Ary.lt (A : Ary Z h a ty vs) : a < h.size := by obtain ⟨c, A, -⟩ := A; exact A.lt
theorem Ary.ext (A : Ary Z h a ty vs) (E : Ext h h') : Ary Z h' a ty vs := by obtain ⟨c, A, r⟩ := A; exact ⟨c, A.ext E, r⟩
theorem Ary.other (A : Ary Z h b ty vs) (W : Wr h h' a i v) (q : b ≠ a) : Ary Z h' b ty vs := by obtain ⟨c, A, r⟩ := A; exact ⟨c, A.other W q, r⟩
theorem Ary.keep (A : Ary Z h a ty vs) (K : Keep h h' wl) (q : a ∉ wl) : Ary Z h' a ty vs := by obtain ⟨c, A, r⟩ := A; exact ⟨c, ⟨K.2.1 a c A.1 q, A.2⟩, r⟩
theorem Ary.set (A : Ary Z h a ty vs) (W : Wr h h' a i v) : Ary Z h' a ty (vs.set i v) := by
  obtain ⟨c, A, rfl⟩ := A
  exact ⟨_, A.same W, by simp [Cell.setSlot]⟩
theorem Ary.new {cA : ClassId} {n : Int32} (A : Arr Z h a (newA cA ty n) ty) : Ary Z h a ty (List.replicate n.toNatClampNeg (defaultValue ty)) := ⟨_, A, by simp [newA]⟩
theorem ary_in {c : Cell} (r : c.slots.toList = vs) (hj : ¬ j < 0) (hi : j.toNatClampNeg = i) (hv : vs[i]? = some v) : ¬ (j < 0 ∨ c.slots.size ≤ j.toNatClampNeg) ∧ c.slots[j.toNatClampNeg]? = some v := by
  subst r hi
  rw [Array.getElem?_toList] at hv
  exact ⟨fun q => q.elim hj fun q => absurd (Array.getElem?_eq_some_iff.mp hv).1 (Nat.not_lt.mpr q), hv⟩
theorem ary_lt {c : Cell} (r : c.slots.toList = vs) (hj : ¬ j < 0) (hi : j.toNatClampNeg = i) (hv : i < vs.length) : ¬ (j < 0 ∨ c.slots.size ≤ j.toNatClampNeg) := by
  subst r hi
  rw [Array.length_toList] at hv
  exact fun q => q.elim hj fun q => absurd hv (Nat.not_lt.mpr q)
theorem Base.arrlen (B : Base p l e R s m args below meth c Z y bytes maxL ret h0 ws C) (pc' : Nat) (hp : pc' = pc + 1) (hd : decode bytes pc = .ok (.arraylength, 1)) (A : Ary Z h a ty vs) (n : Int32) (hn : vs.length.toInt32 = n) (k : B.G h cl sl (mkF m pc' Ls (.int n :: st))) : B.G h cl sl (mkF m pc Ls (.ref a :: st)) := by
  subst hp hn
  obtain ⟨c1, A, rfl⟩ := A
  rw [Array.length_toList] at k
  exact B.viaX (fun T t L X eT r => X.arraylength (g := mkF m pc Ls (.ref a :: st)) B.1 (by rw [eT]; exact A.1) (State.isArrayOf_alike (T := s) B.2.2.2.1.alike A.2.1) rfl rfl (hb B.2.1 hd) t r) k
theorem Base.baload (B : Base p l e R s m args below meth c Z y bytes maxL ret h0 ws C) (pc' : Nat) (hp : pc' = pc + 1) (hd : decode bytes pc = .ok (.baload, 1)) (A : Ary Z h a .byte vs) (hj : ¬ j < 0) (i : Nat) (hi : j.toNatClampNeg = i) (v : Value) (hv : vs[i]? = some v) (k : B.G h cl sl (mkF m pc' Ls (v :: st))) : B.G h cl sl (mkF m pc Ls (.int j :: .ref a :: st)) := by
  subst hp
  obtain ⟨c1, A, r⟩ := A
  obtain ⟨q1, q2⟩ := ary_in r hj hi hv
  exact B.viaX (fun T t L X eT r => X.baloadBytes (g := mkF m pc Ls (.int j :: .ref a :: st)) B.1 (by rw [eT]; exact A.1) (State.isArrayOf_alike (T := s) B.2.2.2.1.alike A.2.1) A.2.2 q1 q2 rfl rfl (hb B.2.1 hd) t r) k
theorem Base.iaload (B : Base p l e R s m args below meth c Z y bytes maxL ret h0 ws C) (pc' : Nat) (hp : pc' = pc + 1) (hd : decode bytes pc = .ok (.iaload, 1)) (A : Ary Z h a .int vs) (hj : ¬ j < 0) (i : Nat) (hi : j.toNatClampNeg = i) (v : Value) (hv : vs[i]? = some v) (k : B.G h cl sl (mkF m pc' Ls (v :: st))) : B.G h cl sl (mkF m pc Ls (.int j :: .ref a :: st)) := by
  subst hp
  obtain ⟨c1, A, r⟩ := A
  obtain ⟨q1, q2⟩ := ary_in r hj hi hv
  exact B.viaX (fun T t L X eT r => X.iaload (g := mkF m pc Ls (.int j :: .ref a :: st)) B.1 (by rw [eT]; exact A.1) (State.isArrayOf_alike (T := s) B.2.2.2.1.alike A.2.1) A.2.2 q1 q2 rfl rfl (hb B.2.1 hd) t r) k
theorem Base.laload (B : Base p l e R s m args below meth c Z y bytes maxL ret h0 ws C) (pc' : Nat) (hp : pc' = pc + 1) (hd : decode bytes pc = .ok (.laload, 1)) (A : Ary Z h a .long vs) (hj : ¬ j < 0) (i : Nat) (hi : j.toNatClampNeg = i) (v : Value) (hv : vs[i]? = some v) (k : B.G h cl sl (mkF m pc' Ls (v :: st))) : B.G h cl sl (mkF m pc Ls (.int j :: .ref a :: st)) := by
  subst hp
  obtain ⟨c1, A, r⟩ := A
  obtain ⟨q1, q2⟩ := ary_in r hj hi hv
  exact B.viaX (fun T t L X eT r => X.laload (g := mkF m pc Ls (.int j :: .ref a :: st)) B.1 (by rw [eT]; exact A.1) (State.isArrayOf_alike (T := s) B.2.2.2.1.alike A.2.1) A.2.2 q1 q2 rfl rfl (hb B.2.1 hd) t r) k
theorem Base.newP (B : Base p l e R s m args below meth c Z y bytes maxL ret h0 ws C) (pc' : Nat) (hp : pc' = pc + 2) {aty : ArrayType} (hd : decode bytes pc = .ok (.newarray aty, 2)) (w : (Cond.arrayClass (newarray.typeOf aty)).before a0 Z = true) {n : Int32} (hn : ¬ n < 0) (cap : Nat) (hcap : n.toNatClampNeg ≤ cap) (hb' : cap * 8 ≤ 536870912) (hc : cl + 1 ≤ R.cells) (hs : sl + cap ≤ R.slots)
    (k : ∀ h' a, a = h.size → h0.size ≤ a → Ext h h' → Ary Z h' a (newarray.typeOf aty) (List.replicate n.toNatClampNeg (defaultValue (newarray.typeOf aty))) → B.G h' (cl + 1) (sl + cap) (mkF m pc' Ls (.ref a :: st))) : B.G h cl sl (mkF m pc Ls (.int n :: st)) := fun T locs X N eT => by
  subst hp
  obtain ⟨T', h', cA, X', e', E, A, stp⟩ := Jvm.RoadKit.newP X B.1 B.2.2.2.1 w eT (g := mkF m pc Ls (.int n :: st)) rfl (hb B.2.1 hd) rfl hn hcap hb' hc hs
  obtain ⟨t, o, q, r⟩ := k h' _ rfl (by rw [← eT]; exact B.size X) E (Ary.new A) T' locs X' N e'
  exact ⟨t, o, stp _ q, r⟩
theorem Base.bastore (B : Base p l e R s m args below meth c Z y bytes maxL ret h0 ws C) (pc' : Nat) (hp : pc' = pc + 1) (hd : decode bytes pc = .ok (.bastore, 1)) (A : Ary Z h a .byte vs) (hj : ¬ j < 0) (i : Nat) (hi : j.toNatClampNeg = i) (hlt : i < vs.length) (hw : a ∈ ws ∨ h0.size ≤ a) {x : Int32} (k : ∀ h', Wr h h' a i (.int x.toInt8.toInt32) → Ary Z h' a .byte (vs.set i (.int x.toInt8.toInt32)) → B.G h' cl sl (mkF m pc' Ls st)) : B.G h cl sl (mkF m pc Ls (.int x :: .int j :: .ref a :: st)) := fun T locs X N eT => by
  subst hp
  obtain ⟨c1, A1, r1⟩ := A
  obtain ⟨T', h', X', e', W, stp⟩ := stB X B.1 B.2.2.2.1 eT A1 (ary_lt r1 hj hi hlt) (g := mkF m pc Ls (.int x :: .int j :: .ref a :: st)) rfl rfl (hb B.2.1 hd)
  rw [hi] at W
  obtain ⟨t, o, q, r⟩ := k h' W (Ary.set ⟨c1, A1, r1⟩ W) T' _ X' (N.one hw) e'
  exact ⟨t, o, stp _ q, r⟩
theorem Base.iastore (B : Base p l e R s m args below meth c Z y bytes maxL ret h0 ws C) (pc' : Nat) (hp : pc' = pc + 1) (hd : decode bytes pc = .ok (.iastore, 1)) (A : Ary Z h a .int vs) (hj : ¬ j < 0) (i : Nat) (hi : j.toNatClampNeg = i) (hlt : i < vs.length) (hw : a ∈ ws ∨ h0.size ≤ a) {x : Int32} (k : ∀ h', Wr h h' a i (.int x) → Ary Z h' a .int (vs.set i (.int x)) → B.G h' cl sl (mkF m pc' Ls st)) : B.G h cl sl (mkF m pc Ls (.int x :: .int j :: .ref a :: st)) := fun T locs X N eT => by
  subst hp
  obtain ⟨c1, A1, r1⟩ := A
  obtain ⟨T', h', X', e', W, stp⟩ := stI X B.1 B.2.2.2.1 eT A1 (ary_lt r1 hj hi hlt) (g := mkF m pc Ls (.int x :: .int j :: .ref a :: st)) rfl rfl (hb B.2.1 hd)
  rw [hi] at W
  obtain ⟨t, o, q, r⟩ := k h' W (Ary.set ⟨c1, A1, r1⟩ W) T' _ X' (N.one hw) e'
  exact ⟨t, o, stp _ q, r⟩
theorem Base.lastore (B : Base p l e R s m args below meth c Z y bytes maxL ret h0 ws C) (pc' : Nat) (hp : pc' = pc + 1) (hd : decode bytes pc = .ok (.lastore, 1)) (A : Ary Z h a .long vs) (hj : ¬ j < 0) (i : Nat) (hi : j.toNatClampNeg = i) (hlt : i < vs.length) (hw : a ∈ ws ∨ h0.size ≤ a) {x : Int64} (k : ∀ h', Wr h h' a i (.long x) → Ary Z h' a .long (vs.set i (.long x)) → B.G h' cl sl (mkF m pc' Ls st)) : B.G h cl sl (mkF m pc Ls (.long x :: .int j :: .ref a :: st)) := fun T locs X N eT => by
  subst hp
  obtain ⟨c1, A1, r1⟩ := A
  obtain ⟨T', h', X', e', W, stp⟩ := stJ X B.1 B.2.2.2.1 eT A1 (ary_lt r1 hj hi hlt) (g := mkF m pc Ls (.long x :: .int j :: .ref a :: st)) rfl rfl (hb B.2.1 hd)
  rw [hi] at W
  obtain ⟨t, o, q, r⟩ := k h' W (Ary.set ⟨c1, A1, r1⟩ W) T' _ X' (N.one hw) e'
  exact ⟨t, o, stp _ q, r⟩
theorem Base.newPE (B : Base p l e R s m args below meth c Z y bytes maxL ret h0 ws C) (pc' : Nat) (hp : pc' = pc + 2) {aty : ArrayType} (hd : decode bytes pc = .ok (.newarray aty, 2)) (w : (Cond.arrayClass (newarray.typeOf aty)).before a0 Z = true) {n : Int32} (hn : ¬ n < 0) (cap : Nat) (hcap : n.toNatClampNeg ≤ cap) (hb' : cap * 8 ≤ 536870912) (hc : cl + 1 ≤ R.cells) (hs : sl + cap ≤ R.slots) (ad : String) (had : "[" ++ (newarray.typeOf aty).toString = ad)
    (k : ∀ h' a, a = h.size → h0.size ≤ a → Ext h h' → Ary Z h' a (newarray.typeOf aty) (List.replicate n.toNatClampNeg (defaultValue (newarray.typeOf aty))) → Exa Z h' a ad → B.G h' (cl + 1) (sl + cap) (mkF m pc' Ls (.ref a :: st))) : B.G h cl sl (mkF m pc Ls (.int n :: st)) := fun T locs X N eT => by
  subst hp
  obtain ⟨T', h', cA, X', e', E, A, A2, stp⟩ := Jvm.RoadKit.newPE X B.1 B.2.2.2.1 w eT (g := mkF m pc Ls (.int n :: st)) rfl (hb B.2.1 hd) rfl hn hcap hb' hc hs had
  obtain ⟨t, o, q, r⟩ := k h' _ rfl (by rw [← eT]; exact B.size X) E (Ary.new A) A2 T' locs X' N e'
  exact ⟨t, o, stp _ q, r⟩
theorem Base.clone (B : Base p l e R s m args below meth c Z y bytes maxL ret h0 ws C) (pc' : Nat) (hp : pc' = pc + 3) {ix : Nat} {ad : String} (hd : decode bytes pc = .ok (.invokevirtual ix, 3))
    (w1 : (Cond.methodLink y.cls ix ⟨ad, "clone", "()Ljava/lang/Object;"⟩).before a0 Z = true) (w2 : (Cond.sameMethod ad "java/lang/Object" "clone" "()Ljava/lang/Object;").before a0 Z = true) (w3 : (Cond.native ⟨"java/lang/Object", "clone", "()Ljava/lang/Object;"⟩).before a0 Z = true)
    (w4 : (Cond.instanceMethod ⟨"java/lang/Object", "clone", "()Ljava/lang/Object;"⟩).before a0 Z = true) (w5 : (Cond.selects ad ⟨ad, "clone", "()Ljava/lang/Object;"⟩ ⟨"java/lang/Object", "clone", "()Ljava/lang/Object;"⟩).before a0 Z = true) (w6 : (Cond.castable ad "java/lang/Cloneable").before a0 Z = true)
    (A : Ary Z h a ty vs) (E : Exa Z h a ad) (hfit : ∀ v ∈ vs, fits ty v = true) (hLs : Ls.size = maxL) (W : Nat) (hW : (st.map fun v => v.category).sum = W) (hf : 1 ≤ R.frames) (hl : W + 14 ≤ R.locals) (cap : Nat) (hcap : vs.length ≤ cap) (hc : cl + 1 ≤ R.cells) (hs : sl + cap ≤ R.slots)
    (k : ∀ h' b, b = h.size → h0.size ≤ b → Ext h h' → Ary Z h' b ty vs → Exa Z h' b ad → B.G h' (cl + 1) (sl + cap) (mkF m pc' Ls (.ref b :: st))) : B.G h cl sl (mkF m pc Ls (.ref a :: st)) := fun T locs X N eT => by
  subst hp
  obtain ⟨c1, A1, r1⟩ := A
  have FC : FitC Z c1 := fitC_of A1 fun i hi v hv => hfit v (by rw [← r1]; exact Array.mem_toList_iff.mpr (Array.mem_of_getElem? hv))
  obtain ⟨T', h', X', e', ex, A', E', stp⟩ := cloneA X B.1 B.2.2.2.1 B.2.2.2.2.1 w1 w2 w3 w4 w5 w6 eT A1 E FC (g := mkF m pc Ls (.ref a :: st)) rfl (hLs.trans B.2.2.1.symm) rfl (hb B.2.1 hd) hf (W := W) (cap := cap) (by show 2 * 0 + _ ≤ _; omega) hl (by rw [← r1, Array.length_toList] at hcap; exact hcap) hc hs
  obtain ⟨t, o, q, r⟩ := k h' _ rfl (by rw [← eT]; exact B.size X) ex ⟨_, A', r1⟩ E' T' locs X' N e'
  exact ⟨t, o, stp _ q, r⟩
theorem Base.castY (B : Base p l e R s m args below meth c Z y bytes maxL ret h0 ws C) (pc' : Nat) (hp : pc' = pc + 3) {ix : Nat} {K : String} (hd : decode bytes pc = .ok (.checkcast ix, 3)) (w : (Cond.classLink y.cls ix K).before a0 Z = true) (F : Ins Z h a K true) (k : B.G h cl sl (mkF m pc' Ls (.ref a :: st))) : B.G h cl sl (mkF m pc Ls (.ref a :: st)) := fun T locs X N eT => by
  subst hp
  obtain ⟨T', X', e', stp⟩ := Jvm.RoadKit.castY X B.1 B.2.2.2.1 B.2.2.2.2.1 w eT F (g := mkF m pc Ls (.ref a :: st)) rfl rfl (hb B.2.1 hd)
  obtain ⟨t, o, q, r⟩ := k T' locs X' N e'
  exact ⟨t, o, stp _ q, r⟩
theorem Base.instY (B : Base p l e R s m args below meth c Z y bytes maxL ret h0 ws C) (pc' : Nat) (hp : pc' = pc + 3) {ix : Nat} {K : String} (hd : decode bytes pc = .ok (.instanceof ix, 3)) (w : (Cond.classLink y.cls ix K).before a0 Z = true) (F : Ins Z h a K true) (k : B.G h cl sl (mkF m pc' Ls (.int 1 :: st))) : B.G h cl sl (mkF m pc Ls (.ref a :: st)) := fun T locs X N eT => by
  subst hp
  obtain ⟨T', X', e', stp⟩ := Jvm.RoadKit.instY X B.1 B.2.2.2.1 B.2.2.2.2.1 w eT F (g := mkF m pc Ls (.ref a :: st)) rfl rfl (hb B.2.1 hd)
  obtain ⟨t, o, q, r⟩ := k T' locs X' N e'
  exact ⟨t, o, stp _ q, r⟩
theorem Base.instN (B : Base p l e R s m args below meth c Z y bytes maxL ret h0 ws C) (pc' : Nat) (hp : pc' = pc + 3) {ix : Nat} {K CC : String} (hd : decode bytes pc = .ok (.instanceof ix, 3)) (w : (Cond.classLink y.cls ix K).before a0 Z = true) (E : Exa Z h a CC) (F : ∃ c t, Z.vm.findClass CC = some c ∧ Z.vm.findClass K = some t ∧ Z.vm.assignable c t = false) (k : B.G h cl sl (mkF m pc' Ls (.int 0 :: st))) : B.G h cl sl (mkF m pc Ls (.ref a :: st)) := fun T locs X N eT => by
  subst hp
  obtain ⟨T', X', e', stp⟩ := instNo X B.1 B.2.2.2.1 B.2.2.2.2.1 w eT E F (g := mkF m pc Ls (.ref a :: st)) rfl rfl (hb B.2.1 hd)
  obtain ⟨t, o, q, r⟩ := k T' locs X' N e'
  exact ⟨t, o, stp _ q, r⟩
theorem Base.inst0 (B : Base p l e R s m args below meth c Z y bytes maxL ret h0 ws C) (pc' : Nat) (hp : pc' = pc + 3) {ix : Nat} (hd : decode bytes pc = .ok (.instanceof ix, 3)) (k : B.G h cl sl (mkF m pc' Ls (.int 0 :: st))) : B.G h cl sl (mkF m pc Ls (.null :: st)) := by
  subst hp
  exact B.viaX (fun T t L X eT r => X.instanceofNull B.1 (g := mkF m pc Ls (.null :: st)) rfl rfl (hb B.2.1 hd) t r) k
theorem Base.aaload (B : Base p l e R s m args below meth c Z y bytes maxL ret h0 ws C) (pc' : Nat) (hp : pc' = pc + 1) (hd : decode bytes pc = .ok (.aaload, 1)) (A : Ary Z h a ty vs) (hty : ty.isReference = true) (hj : ¬ j < 0) (i : Nat) (hi : j.toNatClampNeg = i) (v : Value) (hv : vs[i]? = some v) (k : B.G h cl sl (mkF m pc' Ls (v :: st))) : B.G h cl sl (mkF m pc Ls (.int j :: .ref a :: st)) := by
  subst hp
  obtain ⟨c1, A, r⟩ := A
  obtain ⟨q1, q2⟩ := ary_in r hj hi hv
  exact B.viaX (fun T t L X eT r => X.aaload (g := mkF m pc Ls (.int j :: .ref a :: st)) B.1 (by rw [eT]; exact A.1) (State.isArrayOf_alike (T := s) B.2.2.2.1.alike A.2.1) hty A.2.2 q1 q2 rfl rfl (hb B.2.1 hd) t r) k
theorem ns_root {O K : String} {n : Nat} (w : (Cond.noSuperclass O).before a0 Z = true) (wk : (Cond.instantiable K n).before a0 Z = true) (hn : O ≠ K) : NS Z O K := by
  obtain ⟨c, k, h1, h2, h3, -, -⟩ := Cond.noSuperclass_spec w
  obtain ⟨t, -, g1, -⟩ := Cond.instantiable_spec wk
  have ne := ids_ne h1 g1 hn
  refine ⟨c, t, h1, g1, fun fuel => ?_⟩
  cases fuel with
  | zero => rfl
  | succ f => simp [Vm.isSubclassAux, ne, h2, h3]
theorem ns_no {CC K : String} {n n' : Nat} (w : (Cond.instantiable CC n').before a0 Z = true) (wk : (Cond.instantiable K n).before a0 Z = true) (q : NS Z CC K) (hn : CC ≠ K) : ∃ c t, Z.vm.findClass CC = some c ∧ Z.vm.findClass K = some t ∧ Z.vm.assignable c t = false := by
  obtain ⟨c, t, h0, g0, n3⟩ := q
  obtain ⟨c1, k, h1, h2, h5, -⟩ := Cond.instantiable_spec w
  obtain ⟨t1, k', g1, g2, g5, g7, -⟩ := Cond.instantiable_spec wk
  cases h0.symm.trans h1
  cases g0.symm.trans g1
  have ne := ids_ne h0 g0 hn
  have g8 : k'.isInterface = false := by simp only [Bool.or_eq_false_iff] at g7; exact g7.1
  refine ⟨c, t, h0, g0, ?_⟩
  show Z.vm.assignableAux (255 + 1) c t = false
  simp [Vm.assignableAux, ne, h2, g2, h5, g5, g8, Vm.isSubclass, n3]
end Arrays
/-! 5. the words -/
theorem wd {L : List Jvm.Cond} {a0 : Array Value} {Z : State} (hw : ∀ d ∈ L, d.before a0 Z = true) (i : Nat) {d : Jvm.Cond} (q : L[i]? = some d) : d.before a0 Z = true := hw d (List.mem_of_getElem? q)
/-! 6. from the words of a case -/
theorem fld_start {args : Array Value} {s : State} {t : Term} {a : Addr} {O n d : String} {z : Int32} (ht : t.eval args s none [] s = some (.ref a)) (q : (Cond.eq (.field t O n d) (.int z)).value args s none s [] = some true) : Fld s s.heap a O n d (.int z) :=
  Fld.start ((fld_at ht).symm.trans (eqv_i rfl q))
theorem eval_int {args : Array Value} {s : State} {u w : Term} {z : Int32} (q : (Cond.eq u w).value args s none s [] = some true) (hw : w.eval args s none [] s = some (.int z)) : u.eval args s none [] s = some (.int z) := by
  cases hv : u.eval args s none [] s with
  | none => simp [Cond.value, hv] at q
  | some v =>
    cases v <;> simp [Cond.value, hv, hw] at q
    subst q; rfl
theorem eval_ref {args : Array Value} {s : State} {u w : Term} {z : Addr} (q : (Cond.eq u w).value args s none s [] = some true) (hw : w.eval args s none [] s = some (.ref z)) : u.eval args s none [] s = some (.ref z) := by
  cases hv : u.eval args s none [] s with
  | none => simp [Cond.value, hv] at q
  | some v =>
    cases v <;> simp [Cond.value, hv, hw] at q
    subst q; rfl
/-- an array of the start, of known length and places -/
theorem ary_start {args : Array Value} {s : State} {t : Term} {a : Addr} {ty : FieldType} {vs : List Value} {n : Int32} (ht : t.eval args s none [] s = some (.ref a)) (hA : (Cond.arrayOf t ty).value args s none s [] = some true)
    (hl : (Cond.eq (.length t) (.int n)).value args s none s [] = some true) (hn : n.toNatClampNeg = vs.length) (hn0 : ¬ n < 0) (he : ∀ i, i < vs.length → ∃ v, vs[i]? = some v ∧ (Term.elem t (.int (Int32.ofNat i))).eval args s none [] s = some v) : Ary s s.heap a ty vs := by
  obtain ⟨c, A⟩ := Arr.start ht hA
  have e1 := eval_int hl rfl
  simp only [Term.eval, ht, Option.bind_eq_bind, Option.bind_some] at e1
  have hat : s.arrayAt? a = some c := A.fin (Vm.Alike.refl _)
  rw [hat] at e1
  simp only [Option.bind_some] at e1
  split at e1
  · rename_i hs
    simp only [Option.pure_def, Option.some.injEq, Value.int.injEq] at e1
    have hsz : c.slots.size = vs.length := by
      rw [← hn, ← e1]
      have := len_toInt hs
      simp only [Int32.toNatClampNeg, this]; omega
    refine ⟨c, A, ?_⟩
    apply List.ext_getElem?
    intro i
    by_cases hi : i < vs.length
    · obtain ⟨v, q1, q2⟩ := he i hi
      obtain ⟨cell, r1, -, r3⟩ := elem_at q2 ht rfl
      cases A.1.symm.trans r1
      have : (Int32.ofNat i).toNatClampNeg = i := by
        have := Int32.toInt_ofNat_small (show i < 2 ^ 31 by omega)
        simp only [Int32.toNatClampNeg, this]; omega
      rw [this] at r3
      rw [q1, Array.getElem?_toList]; exact r3
    · rw [List.getElem?_eq_none (by rw [Array.length_toList, hsz]; omega), List.getElem?_eq_none (by omega)]
  · simp at e1
end Jvm.Own
namespace Jvm.Pilot.@@N@@
open Jvm Jvm.ClassFile Sem Op Lib Jvm.Free Jvm.Stand Jvm.LawKit Jvm.RoadKit Jvm.Own Bundle Jvm.Pilot.@@N@@.Jvm.D
theorem pd__IBB_B : parseMethodDescriptor "(IBB)B" = some ⟨[.int, .byte, .byte], some .byte⟩ := by decide +kernel
theorem pd___B_B__B : parseMethodDescriptor "([B[B)[B" = some ⟨[(.array .byte), (.array .byte)], some (.array .byte)⟩ := by decide +kernel
theorem own_bb (x : Int32) : x.toInt8.toInt32.toInt8.toInt32 = x.toInt8.toInt32 := by simp
theorem own_fb {x : Int32} (h : x.toInt8.toInt32 = x) : fits .byte (.int x) = true := by rw [← h]; exact fits_nar_byte x
theorem own_k (x : Int32) : (x &&& 2147483647) % 3 = 0 ∨ (x &&& 2147483647) % 3 = 1 ∨ (x &&& 2147483647) % 3 = 2 := by
  have h1 := (c_andS x 2147483647).2.2 (by decide)
  have h2 : ((x &&& 2147483647) % 3).toInt = (x &&& 2147483647).toInt % 3 := by rw [Int32.toInt_mod]; exact Int.tmod_eq_emod_of_nonneg h1
  simp only [← Int32.toInt_inj, Int32.reduceToInt, h2]
  omega
theorem d1_0 : decode prog_12_method_5_code 0 = .ok (.aload_n 2, 1) := by decide +kernel
theorem d1_1 : decode prog_12_method_5_code 1 = .ok (.invokevirtual 32, 3) := by decide +kernel
theorem d1_4 : decode prog_12_method_5_code 4 = .ok (.checkcast 33, 3) := by decide +kernel
theorem d1_7 : decode prog_12_method_5_code 7 = .ok (.astore_n 3, 1) := by decide +kernel
theorem d1_8 : decode prog_12_method_5_code 8 = .ok (.aload_n 0, 1) := by decide +kernel
theorem d1_9 : decode prog_12_method_5_code 9 = .ok (.getstatic 3, 3) := by decide +kernel
theorem d1_12 : decode prog_12_method_5_code 12 = .ok (.if_acmp .eq 52, 3) := by decide +kernel
theorem d1_64 : decode prog_12_method_5_code 64 = .ok (.aload_n 3, 1) := by decide +kernel
theorem d1_65 : decode prog_12_method_5_code 65 = .ok (.areturn, 1) := by decide +kernel
theorem pn_1 : plainName "com/example/cardwright/cardwright/card/WriteBehaviour" = true := by first | (simp [plainName, overriddenIn]; done) | decide +kernel
set_option maxRecDepth 65536 in
set_option maxHeartbeats 4000000 in
theorem rm_apply0 (l : Launch) (Z : State) (a0 : Array Value) (hw : ∀ d ∈ tables_1, d.before a0 Z = true) (a_REPLACE a_OR ao ad : Addr) (d0 d1 d2 d3 : Int32) (h0 : Heap) (S_REPLACE : Sta Z h0 "com/example/cardwright/cardwright/card/WriteBehaviour" "REPLACE" "Lcom/example/cardwright/cardwright/card/WriteBehaviour;" (.ref a_REPLACE)) (S_OR : Sta Z h0 "com/example/cardwright/cardwright/card/WriteBehaviour" "OR" "Lcom/example/cardwright/cardwright/card/WriteBehaviour;" (.ref a_OR)) (A_ad : Ary Z h0 ad .byte [(.int d0), (.int d1), (.int d2), (.int d3)]) (E_ad : Exa Z h0 ad "[B") (hfit : ∀ v ∈ ([(.int d0), (.int d1), (.int d2), (.int d3)] : List Value), fits .byte v = true) :
    Met l Z (⟨"com/example/cardwright/cardwright/card/WriteBehaviour", "apply", "([B[B)[B"⟩ : MethodName) prog_12_method_5_code 5 (some (.array .byte)) [] ({ frames := 1, cells := 1, slots := 4, locals := 14 } : Room) #[(.ref a_REPLACE), (.ref ao), (.ref ad)] h0 [] (fun v h => ∃ r, v = some (.ref r) ∧ h0.size ≤ r ∧ Ary Z h r .byte [(.int d0), (.int d1), (.int d2), (.int d3)]) := by
  refine Met.walk pn_1 (Ls := #[.val (.ref a_REPLACE), .val (.ref ao), .val (.ref ad), .unset, .unset]) (fun m => by first | (simp [entryFrame, mkF, argsToLocals, Value.category, maxLocals]; done) | rfl) ?_
  intro p e s m below meth c B
  refine B.aloadN 1 rfl d1_0 rfl rfl ?_
  refine B.clone 4 rfl d1_1 (wd hw 10 rfl) (wd hw 11 rfl) (wd hw 15 rfl) (wd hw 13 rfl) (wd hw 14 rfl) (wd hw 16 rfl) A_ad E_ad hfit rfl 0 rfl (by decide) (by decide) 4 (by simp) (by decide) (by decide) ?_
  intro h1 r e_r g_r X_r A_r E_r
  show B.G h1 1 4 (mkF m 4 #[.val (.ref a_REPLACE), .val (.ref ao), .val (.ref ad), .unset, .unset] [(.ref r)])
  have n_ad_r : ad ≠ r := fun q => absurd A_ad.lt (by rw [q, e_r]; exact Nat.lt_irrefl _)
  have A_ad_1 := A_ad.ext X_r
  have E_ad_1 := E_ad.ext X_r
  have S1_REPLACE := S_REPLACE.ext X_r
  have S1_OR := S_OR.ext X_r
  refine B.castY 7 rfl d1_4 (wd hw 17 rfl) (Ins.self E_r) ?_
  refine B.astoreN 8 rfl d1_7 rfl #[.val (.ref a_REPLACE), .val (.ref ao), .val (.ref ad), .val (.ref r), .unset] rfl ?_
  refine B.aloadN 9 rfl d1_8 rfl rfl ?_
  refine B.getS 12 rfl d1_9 (wd hw 19 rfl) S1_REPLACE ?_
  refine B.acmp_eq 64 15 rfl (by decide) rfl d1_12 rfl rfl (fun c12 => ?_) (fun c12 => ?_)
  · refine B.aloadN 65 rfl d1_64 rfl rfl ?_
    refine B.retA rfl rfl d1_65 (by decide) (by decide) ?_
    exact ⟨r, rfl, g_r, A_r⟩
  · exact absurd rfl c12
theorem d1_15 : decode prog_12_method_5_code 15 = .ok (.iconst 0, 1) := by decide +kernel
theorem d1_16 : decode prog_12_method_5_code 16 = .ok (.istore 4, 2) := by decide +kernel
theorem d1_18 : decode prog_12_method_5_code 18 = .ok (.iload 4, 2) := by decide +kernel
theorem d1_20 : decode prog_12_method_5_code 20 = .ok (.aload_n 3, 1) := by decide +kernel
theorem d1_21 : decode prog_12_method_5_code 21 = .ok (.arraylength, 1) := by decide +kernel
theorem d1_22 : decode prog_12_method_5_code 22 = .ok (.if_icmp .ge 42, 3) := by decide +kernel
theorem d1_25 : decode prog_12_method_5_code 25 = .ok (.aload_n 3, 1) := by decide +kernel
theorem d1_26 : decode prog_12_method_5_code 26 = .ok (.iload 4, 2) := by decide +kernel
theorem d1_28 : decode prog_12_method_5_code 28 = .ok (.aload_n 0, 1) := by decide +kernel
theorem d1_29 : decode prog_12_method_5_code 29 = .ok (.getstatic 7, 3) := by decide +kernel
theorem d1_32 : decode prog_12_method_5_code 32 = .ok (.if_acmp .ne 15, 3) := by decide +kernel
theorem d1_35 : decode prog_12_method_5_code 35 = .ok (.aload_n 1, 1) := by decide +kernel
theorem d1_36 : decode prog_12_method_5_code 36 = .ok (.iload 4, 2) := by decide +kernel
theorem d1_38 : decode prog_12_method_5_code 38 = .ok (.baload, 1) := by decide +kernel
theorem d1_39 : decode prog_12_method_5_code 39 = .ok (.aload_n 2, 1) := by decide +kernel
theorem d1_40 : decode prog_12_method_5_code 40 = .ok (.iload 4, 2) := by decide +kernel
theorem d1_42 : decode prog_12_method_5_code 42 = .ok (.baload, 1) := by decide +kernel
theorem d1_43 : decode prog_12_method_5_code 43 = .ok (.ior, 1) := by decide +kernel
theorem d1_44 : decode prog_12_method_5_code 44 = .ok (.goto 12, 3) := by decide +kernel
theorem d1_56 : decode prog_12_method_5_code 56 = .ok (.i2b, 1) := by decide +kernel
theorem d1_57 : decode prog_12_method_5_code 57 = .ok (.bastore, 1) := by decide +kernel
theorem d1_58 : decode prog_12_method_5_code 58 = .ok (.iinc 4 1, 3) := by decide +kernel
theorem d1_61 : decode prog_12_method_5_code 61 = .ok (.goto (-43), 3) := by decide +kernel
set_option maxRecDepth 65536 in
set_option maxHeartbeats 4000000 in
theorem rm_apply1 (l : Launch) (Z : State) (a0 : Array Value) (hw : ∀ d ∈ tables_1, d.before a0 Z = true) (a_REPLACE a_OR ao ad : Addr) (d0 d1 d2 d3 o0 o1 o2 o3 : Int32) (h0 : Heap) (S_REPLACE : Sta Z h0 "com/example/cardwright/cardwright/card/WriteBehaviour" "REPLACE" "Lcom/example/cardwright/cardwright/card/WriteBehaviour;" (.ref a_REPLACE)) (S_OR : Sta Z h0 "com/example/cardwright/cardwright/card/WriteBehaviour" "OR" "Lcom/example/cardwright/cardwright/card/WriteBehaviour;" (.ref a_OR)) (A_ad : Ary Z h0 ad .byte [(.int d0), (.int d1), (.int d2), (.int d3)]) (E_ad : Exa Z h0 ad "[B") (hfit : ∀ v ∈ ([(.int d0), (.int d1), (.int d2), (.int d3)] : List Value), fits .byte v = true) (xR : a_OR ≠ a_REPLACE) (A_ao : Ary Z h0 ao .byte [(.int o0), (.int o1), (.int o2), (.int o3)]) :
    Met l Z (⟨"com/example/cardwright/cardwright/card/WriteBehaviour", "apply", "([B[B)[B"⟩ : MethodName) prog_12_method_5_code 5 (some (.array .byte)) [] ({ frames := 1, cells := 1, slots := 4, locals := 14 } : Room) #[(.ref a_OR), (.ref ao), (.ref ad)] h0 [] (fun v h => ∃ r, v = some (.ref r) ∧ h0.size ≤ r ∧ Ary Z h r .byte [(.int (o0 ||| d0).toInt8.toInt32), (.int (o1 ||| d1).toInt8.toInt32), (.int (o2 ||| d2).toInt8.toInt32), (.int (o3 ||| d3).toInt8.toInt32)]) := by
  refine Met.walk pn_1 (Ls := #[.val (.ref a_OR), .val (.ref ao), .val (.ref ad), .unset, .unset]) (fun m => by first | (simp [entryFrame, mkF, argsToLocals, Value.category, maxLocals]; done) | rfl) ?_
  intro p e s m below meth c B
  refine B.aloadN 1 rfl d1_0 rfl rfl ?_
  refine B.clone 4 rfl d1_1 (wd hw 10 rfl) (wd hw 11 rfl) (wd hw 15 rfl) (wd hw 13 rfl) (wd hw 14 rfl) (wd hw 16 rfl) A_ad E_ad hfit rfl 0 rfl (by decide) (by decide) 4 (by simp) (by decide) (by decide) ?_
  intro h1 r e_r g_r X_r A_r E_r
  show B.G h1 1 4 (mkF m 4 #[.val (.ref a_OR), .val (.ref ao), .val (.ref ad), .unset, .unset] [(.ref r)])
  have n_ad_r : ad ≠ r := fun q => absurd A_ad.lt (by rw [q, e_r]; exact Nat.lt_irrefl _)
  have n_ao_r : ao ≠ r := fun q => absurd A_ao.lt (by rw [q, e_r]; exact Nat.lt_irrefl _)
  have A_ad_1 := A_ad.ext X_r
  have E_ad_1 := E_ad.ext X_r
  have A_ao_1 := A_ao.ext X_r
  have S1_REPLACE := S_REPLACE.ext X_r
  have S1_OR := S_OR.ext X_r
  refine B.castY 7 rfl d1_4 (wd hw 17 rfl) (Ins.self E_r) ?_
  refine B.astoreN 8 rfl d1_7 rfl #[.val (.ref a_OR), .val (.ref ao), .val (.ref ad), .val (.ref r), .unset] rfl ?_
  refine B.aloadN 9 rfl d1_8 rfl rfl ?_
  refine B.getS 12 rfl d1_9 (wd hw 19 rfl) S1_REPLACE ?_
  refine B.acmp_eq 64 15 rfl (by decide) rfl d1_12 rfl rfl (fun c12 => ?_) (fun c12 => ?_)
  · exact absurd (Value.ref.inj c12) xR
  · refine B.iconst 16 rfl (0 : Int32) d1_15 rfl ?_
    refine B.istore 18 rfl d1_16 #[.val (.ref a_OR), .val (.ref ao), .val (.ref ad), .val (.ref r), .val (.int (0 : Int32))] rfl ?_
    refine B.iload 20 rfl d1_18 rfl ?_
    refine B.aloadN 21 rfl d1_20 rfl rfl ?_
    refine B.arrlen 22 rfl d1_21 A_r (4 : Int32) rfl ?_
    refine B.icmp_ge 64 25 rfl (by decide) rfl d1_22 (fun c22 => ?_) (fun c22 => ?_)
    · exact absurd c22 (by decide)
    · refine B.aloadN 26 rfl d1_25 rfl rfl ?_
      refine B.iload 28 rfl d1_26 rfl ?_
      refine B.aloadN 29 rfl d1_28 rfl rfl ?_
      refine B.getS 32 rfl d1_29 (wd hw 26 rfl) S1_OR ?_
      refine B.acmp_ne 47 35 rfl (by decide) rfl d1_32 rfl rfl (fun c32 => ?_) (fun c32 => ?_)
      · exact absurd rfl c32
      · refine B.aloadN 36 rfl d1_35 rfl rfl ?_
        refine B.iload 38 rfl d1_36 rfl ?_
        refine B.baload 39 rfl d1_38 A_ao_1 (by decide) 0 rfl (.int o0) rfl ?_
        refine B.aloadN 40 rfl d1_39 rfl rfl ?_
        refine B.iload 42 rfl d1_40 rfl ?_
        refine B.baload 43 rfl d1_42 A_ad_1 (by decide) 0 rfl (.int d0) rfl ?_
        refine B.ior 44 rfl d1_43 ?_
        refine B.goto 56 rfl (by decide) d1_44 ?_
        refine B.i2b 57 rfl d1_56 ?_
        refine B.bastore 58 rfl d1_57 A_r (by decide) 0 rfl (by simp) (Or.inr g_r) ?_
        intro hs1 Ws1 As1
        rw [own_bb] at As1
        replace As1 : Ary Z hs1 r .byte [(.int (((o0 ||| d0)).toInt8.toInt32)), (.int d1), (.int d2), (.int d3)] := As1
        have A_ad_2 := A_ad_1.other Ws1 n_ad_r
        have E_ad_2 := E_ad_1.wr Ws1
        have A_ao_2 := A_ao_1.other Ws1 n_ao_r
        have E_r_2 := E_r.wr Ws1
        refine B.iinc 61 rfl (1 : Int32) d1_58 rfl rfl #[.val (.ref a_OR), .val (.ref ao), .val (.ref ad), .val (.ref r), .val (.int (1 : Int32))] rfl ?_
        refine B.goto 18 rfl (by decide) d1_61 ?_
        refine B.iload 20 rfl d1_18 rfl ?_
        refine B.aloadN 21 rfl d1_20 rfl rfl ?_
        refine B.arrlen 22 rfl d1_21 As1 (4 : Int32) rfl ?_
        refine B.icmp_ge 64 25 rfl (by decide) rfl d1_22 (fun c22_1 => ?_) (fun c22_1 => ?_)
        · exact absurd c22_1 (by decide)
        · refine B.aloadN 26 rfl d1_25 rfl rfl ?_
          refine B.iload 28 rfl d1_26 rfl ?_
          refine B.aloadN 29 rfl d1_28 rfl rfl ?_
          refine B.getS 32 rfl d1_29 (wd hw 26 rfl) (S1_OR.wr Ws1) ?_
          refine B.acmp_ne 47 35 rfl (by decide) rfl d1_32 rfl rfl (fun c32_1 => ?_) (fun c32_1 => ?_)
          · exact absurd rfl c32_1
          · refine B.aloadN 36 rfl d1_35 rfl rfl ?_
            refine B.iload 38 rfl d1_36 rfl ?_
            refine B.baload 39 rfl d1_38 A_ao_2 (by decide) 1 rfl (.int o1) rfl ?_
            refine B.aloadN 40 rfl d1_39 rfl rfl ?_
            refine B.iload 42 rfl d1_40 rfl ?_
            refine B.baload 43 rfl d1_42 A_ad_2 (by decide) 1 rfl (.int d1) rfl ?_
            refine B.ior 44 rfl d1_43 ?_
            refine B.goto 56 rfl (by decide) d1_44 ?_
            refine B.i2b 57 rfl d1_56 ?_
            refine B.bastore 58 rfl d1_57 As1 (by decide) 1 rfl (by simp) (Or.inr g_r) ?_
            intro hs2 Ws2 As2
            rw [own_bb] at As2
            replace As2 : Ary Z hs2 r .byte [(.int (((o0 ||| d0)).toInt8.toInt32)), (.int (((o1 ||| d1)).toInt8.toInt32)), (.int d2), (.int d3)] := As2
            have A_ad_3 := A_ad_2.other Ws2 n_ad_r
            have E_ad_3 := E_ad_2.wr Ws2
            have A_ao_3 := A_ao_2.other Ws2 n_ao_r
            have E_r_3 := E_r_2.wr Ws2
            refine B.iinc 61 rfl (1 : Int32) d1_58 rfl rfl #[.val (.ref a_OR), .val (.ref ao), .val (.ref ad), .val (.ref r), .val (.int (2 : Int32))] rfl ?_
            refine B.goto 18 rfl (by decide) d1_61 ?_
            refine B.iload 20 rfl d1_18 rfl ?_
            refine B.aloadN 21 rfl d1_20 rfl rfl ?_
            refine B.arrlen 22 rfl d1_21 As2 (4 : Int32) rfl ?_
            refine B.icmp_ge 64 25 rfl (by decide) rfl d1_22 (fun c22_2 => ?_) (fun c22_2 => ?_)
            · exact absurd c22_2 (by decide)
            · refine B.aloadN 26 rfl d1_25 rfl rfl ?_
              refine B.iload 28 rfl d1_26 rfl ?_
              refine B.aloadN 29 rfl d1_28 rfl rfl ?_
              refine B.getS 32 rfl d1_29 (wd hw 26 rfl) ((S1_OR.wr Ws1).wr Ws2) ?_
              refine B.acmp_ne 47 35 rfl (by decide) rfl d1_32 rfl rfl (fun c32_2 => ?_) (fun c32_2 => ?_)
              · exact absurd rfl c32_2
              · refine B.aloadN 36 rfl d1_35 rfl rfl ?_
                refine B.iload 38 rfl d1_36 rfl ?_
                refine B.baload 39 rfl d1_38 A_ao_3 (by decide) 2 rfl (.int o2) rfl ?_
                refine B.aloadN 40 rfl d1_39 rfl rfl ?_
                refine B.iload 42 rfl d1_40 rfl ?_
                refine B.baload 43 rfl d1_42 A_ad_3 (by decide) 2 rfl (.int d2) rfl ?_
                refine B.ior 44 rfl d1_43 ?_
                refine B.goto 56 rfl (by decide) d1_44 ?_
                refine B.i2b 57 rfl d1_56 ?_
                refine B.bastore 58 rfl d1_57 As2 (by decide) 2 rfl (by simp) (Or.inr g_r) ?_
                intro hs3 Ws3 As3
                rw [own_bb] at As3
                replace As3 : Ary Z hs3 r .byte [(.int (((o0 ||| d0)).toInt8.toInt32)), (.int (((o1 ||| d1)).toInt8.toInt32)), (.int (((o2 ||| d2)).toInt8.toInt32)), (.int d3)] := As3
                have A_ad_4 := A_ad_3.other Ws3 n_ad_r
                have E_ad_4 := E_ad_3.wr Ws3
                have A_ao_4 := A_ao_3.other Ws3 n_ao_r
                have E_r_4 := E_r_3.wr Ws3
                refine B.iinc 61 rfl (1 : Int32) d1_58 rfl rfl #[.val (.ref a_OR), .val (.ref ao), .val (.ref ad), .val (.ref r), .val (.int (3 : Int32))] rfl ?_
                refine B.goto 18 rfl (by decide) d1_61 ?_
                refine B.iload 20 rfl d1_18 rfl ?_
                refine B.aloadN 21 rfl d1_20 rfl rfl ?_
                refine B.arrlen 22 rfl d1_21 As3 (4 : Int32) rfl ?_
                refine B.icmp_ge 64 25 rfl (by decide) rfl d1_22 (fun c22_3 => ?_) (fun c22_3 => ?_)
                · exact absurd c22_3 (by decide)
                · refine B.aloadN 26 rfl d1_25 rfl rfl ?_
                  refine B.iload 28 rfl d1_26 rfl ?_
                  refine B.aloadN 29 rfl d1_28 rfl rfl ?_
                  refine B.getS 32 rfl d1_29 (wd hw 26 rfl) (((S1_OR.wr Ws1).wr Ws2).wr Ws3) ?_
                  refine B.acmp_ne 47 35 rfl (by decide) rfl d1_32 rfl rfl (fun c32_3 => ?_) (fun c32_3 => ?_)
                  · exact absurd rfl c32_3
                  · refine B.aloadN 36 rfl d1_35 rfl rfl ?_
                    refine B.iload 38 rfl d1_36 rfl ?_
                    refine B.baload 39 rfl d1_38 A_ao_4 (by decide) 3 rfl (.int o3) rfl ?_
                    refine B.aloadN 40 rfl d1_39 rfl rfl ?_
                    refine B.iload 42 rfl d1_40 rfl ?_
                    refine B.baload 43 rfl d1_42 A_ad_4 (by decide) 3 rfl (.int d3) rfl ?_
                    refine B.ior 44 rfl d1_43 ?_
                    refine B.goto 56 rfl (by decide) d1_44 ?_
                    refine B.i2b 57 rfl d1_56 ?_
                    refine B.bastore 58 rfl d1_57 As3 (by decide) 3 rfl (by simp) (Or.inr g_r) ?_
                    intro hs4 Ws4 As4
                    rw [own_bb] at As4
                    replace As4 : Ary Z hs4 r .byte [(.int (((o0 ||| d0)).toInt8.toInt32)), (.int (((o1 ||| d1)).toInt8.toInt32)), (.int (((o2 ||| d2)).toInt8.toInt32)), (.int (((o3 ||| d3)).toInt8.toInt32))] := As4
                    have A_ad_5 := A_ad_4.other Ws4 n_ad_r
                    have E_ad_5 := E_ad_4.wr Ws4
                    have A_ao_5 := A_ao_4.other Ws4 n_ao_r
                    have E_r_5 := E_r_4.wr Ws4
                    refine B.iinc 61 rfl (1 : Int32) d1_58 rfl rfl #[.val (.ref a_OR), .val (.ref ao), .val (.ref ad), .val (.ref r), .val (.int (4 : Int32))] rfl ?_
                    refine B.goto 18 rfl (by decide) d1_61 ?_
                    refine B.iload 20 rfl d1_18 rfl ?_
                    refine B.aloadN 21 rfl d1_20 rfl rfl ?_
                    refine B.arrlen 22 rfl d1_21 As4 (4 : Int32) rfl ?_
                    refine B.icmp_ge 64 25 rfl (by decide) rfl d1_22 (fun c22_4 => ?_) (fun c22_4 => ?_)
                    · refine B.aloadN 65 rfl d1_64 rfl rfl ?_
                      refine B.retA rfl rfl d1_65 (by decide) (by decide) ?_
                      exact ⟨r, rfl, g_r, As4⟩
                    · exact absurd c22_4 (by decide)
theorem d1_47 : decode prog_12_method_5_code 47 = .ok (.aload_n 1, 1) := by decide +kernel
theorem d1_48 : decode prog_12_method_5_code 48 = .ok (.iload 4, 2) := by decide +kernel
theorem d1_50 : decode prog_12_method_5_code 50 = .ok (.baload, 1) := by decide +kernel
theorem d1_51 : decode prog_12_method_5_code 51 = .ok (.aload_n 2, 1) := by decide +kernel
theorem d1_52 : decode prog_12_method_5_code 52 = .ok (.iload 4, 2) := by decide +kernel
theorem d1_54 : decode prog_12_method_5_code 54 = .ok (.baload, 1) := by decide +kernel
theorem d1_55 : decode prog_12_method_5_code 55 = .ok (.iand, 1) := by decide +kernel
set_option maxRecDepth 65536 in
set_option maxHeartbeats 4000000 in
theorem rm_apply2 (l : Launch) (Z : State) (a0 : Array Value) (hw : ∀ d ∈ tables_1, d.before a0 Z = true) (a_REPLACE a_OR a_AND ao ad : Addr) (d0 d1 d2 d3 o0 o1 o2 o3 : Int32) (h0 : Heap) (S_REPLACE : Sta Z h0 "com/example/cardwright/cardwright/card/WriteBehaviour" "REPLACE" "Lcom/example/cardwright/cardwright/card/WriteBehaviour;" (.ref a_REPLACE)) (S_OR : Sta Z h0 "com/example/cardwright/cardwright/card/WriteBehaviour" "OR" "Lcom/example/cardwright/cardwright/card/WriteBehaviour;" (.ref a_OR)) (A_ad : Ary Z h0 ad .byte [(.int d0), (.int d1), (.int d2), (.int d3)]) (E_ad : Exa Z h0 ad "[B") (hfit : ∀ v ∈ ([(.int d0), (.int d1), (.int d2), (.int d3)] : List Value), fits .byte v = true) (xR : a_AND ≠ a_REPLACE) (A_ao : Ary Z h0 ao .byte [(.int o0), (.int o1), (.int o2), (.int o3)]) (xO : a_AND ≠ a_OR) :
    Met l Z (⟨"com/example/cardwright/cardwright/card/WriteBehaviour", "apply", "([B[B)[B"⟩ : MethodName) prog_12_method_5_code 5 (some (.array .byte)) [] ({ frames := 1, cells := 1, slots := 4, locals := 14 } : Room) #[(.ref a_AND), (.ref ao), (.ref ad)] h0 [] (fun v h => ∃ r, v = some (.ref r) ∧ h0.size ≤ r ∧ Ary Z h r .byte [(.int (o0 &&& d0).toInt8.toInt32), (.int (o1 &&& d1).toInt8.toInt32), (.int (o2 &&& d2).toInt8.toInt32), (.int (o3 &&& d3).toInt8.toInt32)]) := by
  refine Met.walk pn_1 (Ls := #[.val (.ref a_AND), .val (.ref ao), .val (.ref ad), .unset, .unset]) (fun m => by first | (simp [entryFrame, mkF, argsToLocals, Value.category, maxLocals]; done) | rfl) ?_
  intro p e s m below meth c B
  refine B.aloadN 1 rfl d1_0 rfl rfl ?_
  refine B.clone 4 rfl d1_1 (wd hw 10 rfl) (wd hw 11 rfl) (wd hw 15 rfl) (wd hw 13 rfl) (wd hw 14 rfl) (wd hw 16 rfl) A_ad E_ad hfit rfl 0 rfl (by decide) (by decide) 4 (by simp) (by decide) (by decide) ?_
  intro h1 r e_r g_r X_r A_r E_r
  show B.G h1 1 4 (mkF m 4 #[.val (.ref a_AND), .val (.ref ao), .val (.ref ad), .unset, .unset] [(.ref r)])
  have n_ad_r : ad ≠ r := fun q => absurd A_ad.lt (by rw [q, e_r]; exact Nat.lt_irrefl _)
  have n_ao_r : ao ≠ r := fun q => absurd A_ao.lt (by rw [q, e_r]; exact Nat.lt_irrefl _)
  have A_ad_1 := A_ad.ext X_r
  have E_ad_1 := E_ad.ext X_r
  have A_ao_1 := A_ao.ext X_r
  have S1_REPLACE := S_REPLACE.ext X_r
  have S1_OR := S_OR.ext X_r
  refine B.castY 7 rfl d1_4 (wd hw 17 rfl) (Ins.self E_r) ?_
  refine B.astoreN 8 rfl d1_7 rfl #[.val (.ref a_AND), .val (.ref ao), .val (.ref ad), .val (.ref r), .unset] rfl ?_
  refine B.aloadN 9 rfl d1_8 rfl rfl ?_
  refine B.getS 12 rfl d1_9 (wd hw 19 rfl) S1_REPLACE ?_
  refine B.acmp_eq 64 15 rfl (by decide) rfl d1_12 rfl rfl (fun c12 => ?_) (fun c12 => ?_)
  · exact absurd (Value.ref.inj c12) xR
  · refine B.iconst 16 rfl (0 : Int32) d1_15 rfl ?_
    refine B.istore 18 rfl d1_16 #[.val (.ref a_AND), .val (.ref ao), .val (.ref ad), .val (.ref r), .val (.int (0 : Int32))] rfl ?_
    refine B.iload 20 rfl d1_18 rfl ?_
    refine B.aloadN 21 rfl d1_20 rfl rfl ?_
    refine B.arrlen 22 rfl d1_21 A_r (4 : Int32) rfl ?_
    refine B.icmp_ge 64 25 rfl (by decide) rfl d1_22 (fun c22 => ?_) (fun c22 => ?_)
    · exact absurd c22 (by decide)
    · refine B.aloadN 26 rfl d1_25 rfl rfl ?_
      refine B.iload 28 rfl d1_26 rfl ?_
      refine B.aloadN 29 rfl d1_28 rfl rfl ?_
      refine B.getS 32 rfl d1_29 (wd hw 26 rfl) S1_OR ?_
      refine B.acmp_ne 47 35 rfl (by decide) rfl d1_32 rfl rfl (fun c32 => ?_) (fun c32 => ?_)
      · refine B.aloadN 48 rfl d1_47 rfl rfl ?_
        refine B.iload 50 rfl d1_48 rfl ?_
        refine B.baload 51 rfl d1_50 A_ao_1 (by decide) 0 rfl (.int o0) rfl ?_
        refine B.aloadN 52 rfl d1_51 rfl rfl ?_
        refine B.iload 54 rfl d1_52 rfl ?_
        refine B.baload 55 rfl d1_54 A_ad_1 (by decide) 0 rfl (.int d0) rfl ?_
        refine B.iand 56 rfl d1_55 ?_
        refine B.i2b 57 rfl d1_56 ?_
        refine B.bastore 58 rfl d1_57 A_r (by decide) 0 rfl (by simp) (Or.inr g_r) ?_
        intro hs1 Ws1 As1
        rw [own_bb] at As1
        replace As1 : Ary Z hs1 r .byte [(.int (((o0 &&& d0)).toInt8.toInt32)), (.int d1), (.int d2), (.int d3)] := As1
        have A_ad_2 := A_ad_1.other Ws1 n_ad_r
        have E_ad_2 := E_ad_1.wr Ws1
        have A_ao_2 := A_ao_1.other Ws1 n_ao_r
        have E_r_2 := E_r.wr Ws1
        refine B.iinc 61 rfl (1 : Int32) d1_58 rfl rfl #[.val (.ref a_AND), .val (.ref ao), .val (.ref ad), .val (.ref r), .val (.int (1 : Int32))] rfl ?_
        refine B.goto 18 rfl (by decide) d1_61 ?_
        refine B.iload 20 rfl d1_18 rfl ?_
        refine B.aloadN 21 rfl d1_20 rfl rfl ?_
        refine B.arrlen 22 rfl d1_21 As1 (4 : Int32) rfl ?_
        refine B.icmp_ge 64 25 rfl (by decide) rfl d1_22 (fun c22_1 => ?_) (fun c22_1 => ?_)
        · exact absurd c22_1 (by decide)
        · refine B.aloadN 26 rfl d1_25 rfl rfl ?_
          refine B.iload 28 rfl d1_26 rfl ?_
          refine B.aloadN 29 rfl d1_28 rfl rfl ?_
          refine B.getS 32 rfl d1_29 (wd hw 26 rfl) (S1_OR.wr Ws1) ?_
          refine B.acmp_ne 47 35 rfl (by decide) rfl d1_32 rfl rfl (fun c32_1 => ?_) (fun c32_1 => ?_)
          · refine B.aloadN 48 rfl d1_47 rfl rfl ?_
            refine B.iload 50 rfl d1_48 rfl ?_
            refine B.baload 51 rfl d1_50 A_ao_2 (by decide) 1 rfl (.int o1) rfl ?_
            refine B.aloadN 52 rfl d1_51 rfl rfl ?_
            refine B.iload 54 rfl d1_52 rfl ?_
            refine B.baload 55 rfl d1_54 A_ad_2 (by decide) 1 rfl (.int d1) rfl ?_
            refine B.iand 56 rfl d1_55 ?_
            refine B.i2b 57 rfl d1_56 ?_
            refine B.bastore 58 rfl d1_57 As1 (by decide) 1 rfl (by simp) (Or.inr g_r) ?_
            intro hs2 Ws2 As2
            rw [own_bb] at As2
            replace As2 : Ary Z hs2 r .byte [(.int (((o0 &&& d0)).toInt8.toInt32)), (.int (((o1 &&& d1)).toInt8.toInt32)), (.int d2), (.int d3)] := As2
            have A_ad_3 := A_ad_2.other Ws2 n_ad_r
            have E_ad_3 := E_ad_2.wr Ws2
            have A_ao_3 := A_ao_2.other Ws2 n_ao_r
            have E_r_3 := E_r_2.wr Ws2
            refine B.iinc 61 rfl (1 : Int32) d1_58 rfl rfl #[.val (.ref a_AND), .val (.ref ao), .val (.ref ad), .val (.ref r), .val (.int (2 : Int32))] rfl ?_
            refine B.goto 18 rfl (by decide) d1_61 ?_
            refine B.iload 20 rfl d1_18 rfl ?_
            refine B.aloadN 21 rfl d1_20 rfl rfl ?_
            refine B.arrlen 22 rfl d1_21 As2 (4 : Int32) rfl ?_
            refine B.icmp_ge 64 25 rfl (by decide) rfl d1_22 (fun c22_2 => ?_) (fun c22_2 => ?_)
            · exact absurd c22_2 (by decide)
            · refine B.aloadN 26 rfl d1_25 rfl rfl ?_
              refine B.iload 28 rfl d1_26 rfl ?_
              refine B.aloadN 29 rfl d1_28 rfl rfl ?_
              refine B.getS 32 rfl d1_29 (wd hw 26 rfl) ((S1_OR.wr Ws1).wr Ws2) ?_
              refine B.acmp_ne 47 35 rfl (by decide) rfl d1_32 rfl rfl (fun c32_2 => ?_) (fun c32_2 => ?_)
              · refine B.aloadN 48 rfl d1_47 rfl rfl ?_
                refine B.iload 50 rfl d1_48 rfl ?_
                refine B.baload 51 rfl d1_50 A_ao_3 (by decide) 2 rfl (.int o2) rfl ?_
                refine B.aloadN 52 rfl d1_51 rfl rfl ?_
                refine B.iload 54 rfl d1_52 rfl ?_
                refine B.baload 55 rfl d1_54 A_ad_3 (by decide) 2 rfl (.int d2) rfl ?_
                refine B.iand 56 rfl d1_55 ?_
                refine B.i2b 57 rfl d1_56 ?_
                refine B.bastore 58 rfl d1_57 As2 (by decide) 2 rfl (by simp) (Or.inr g_r) ?_
                intro hs3 Ws3 As3
                rw [own_bb] at As3
                replace As3 : Ary Z hs3 r .byte [(.int (((o0 &&& d0)).toInt8.toInt32)), (.int (((o1 &&& d1)).toInt8.toInt32)), (.int (((o2 &&& d2)).toInt8.toInt32)), (.int d3)] := As3
                have A_ad_4 := A_ad_3.other Ws3 n_ad_r
                have E_ad_4 := E_ad_3.wr Ws3
                have A_ao_4 := A_ao_3.other Ws3 n_ao_r
                have E_r_4 := E_r_3.wr Ws3
                refine B.iinc 61 rfl (1 : Int32) d1_58 rfl rfl #[.val (.ref a_AND), .val (.ref ao), .val (.ref ad), .val (.ref r), .val (.int (3 : Int32))] rfl ?_
                refine B.goto 18 rfl (by decide) d1_61 ?_
                refine B.iload 20 rfl d1_18 rfl ?_
                refine B.aloadN 21 rfl d1_20 rfl rfl ?_
                refine B.arrlen 22 rfl d1_21 As3 (4 : Int32) rfl ?_
                refine B.icmp_ge 64 25 rfl (by decide) rfl d1_22 (fun c22_3 => ?_) (fun c22_3 => ?_)
                · exact absurd c22_3 (by decide)
                · refine B.aloadN 26 rfl d1_25 rfl rfl ?_
                  refine B.iload 28 rfl d1_26 rfl ?_
                  refine B.aloadN 29 rfl d1_28 rfl rfl ?_
                  refine B.getS 32 rfl d1_29 (wd hw 26 rfl) (((S1_OR.wr Ws1).wr Ws2).wr Ws3) ?_
                  refine B.acmp_ne 47 35 rfl (by decide) rfl d1_32 rfl rfl (fun c32_3 => ?_) (fun c32_3 => ?_)
                  · refine B.aloadN 48 rfl d1_47 rfl rfl ?_
                    refine B.iload 50 rfl d1_48 rfl ?_
                    refine B.baload 51 rfl d1_50 A_ao_4 (by decide) 3 rfl (.int o3) rfl ?_
                    refine B.aloadN 52 rfl d1_51 rfl rfl ?_
                    refine B.iload 54 rfl d1_52 rfl ?_
                    refine B.baload 55 rfl d1_54 A_ad_4 (by decide) 3 rfl (.int d3) rfl ?_
                    refine B.iand 56 rfl d1_55 ?_
                    refine B.i2b 57 rfl d1_56 ?_
                    refine B.bastore 58 rfl d1_57 As3 (by decide) 3 rfl (by simp) (Or.inr g_r) ?_
                    intro hs4 Ws4 As4
                    rw [own_bb] at As4
                    replace As4 : Ary Z hs4 r .byte [(.int (((o0 &&& d0)).toInt8.toInt32)), (.int (((o1 &&& d1)).toInt8.toInt32)), (.int (((o2 &&& d2)).toInt8.toInt32)), (.int (((o3 &&& d3)).toInt8.toInt32))] := As4
                    have A_ad_5 := A_ad_4.other Ws4 n_ad_r
                    have E_ad_5 := E_ad_4.wr Ws4
                    have A_ao_5 := A_ao_4.other Ws4 n_ao_r
                    have E_r_5 := E_r_4.wr Ws4
                    refine B.iinc 61 rfl (1 : Int32) d1_58 rfl rfl #[.val (.ref a_AND), .val (.ref ao), .val (.ref ad), .val (.ref r), .val (.int (4 : Int32))] rfl ?_
                    refine B.goto 18 rfl (by decide) d1_61 ?_
                    refine B.iload 20 rfl d1_18 rfl ?_
                    refine B.aloadN 21 rfl d1_20 rfl rfl ?_
                    refine B.arrlen 22 rfl d1_21 As4 (4 : Int32) rfl ?_
                    refine B.icmp_ge 64 25 rfl (by decide) rfl d1_22 (fun c22_4 => ?_) (fun c22_4 => ?_)
                    · refine B.aloadN 65 rfl d1_64 rfl rfl ?_
                      refine B.retA rfl rfl d1_65 (by decide) (by decide) ?_
                      exact ⟨r, rfl, g_r, As4⟩
                    · exact absurd c22_4 (by decide)
                  · exact absurd (Value.ref.inj c32_3) xO
              · exact absurd (Value.ref.inj c32_2) xO
          · exact absurd (Value.ref.inj c32_1) xO
      · exact absurd (Value.ref.inj c32) xO
theorem d2_0 : decode method_3_code 0 = .ok (.iload_n 0, 1) := by decide +kernel
theorem d2_1 : decode method_3_code 1 = .ok (.ifCond .ne 5, 3) := by decide +kernel
theorem d2_4 : decode method_3_code 4 = .ok (.iload_n 2, 1) := by decide +kernel
theorem d2_5 : decode method_3_code 5 = .ok (.ireturn, 1) := by decide +kernel
theorem pn_2 : plainName "com/example/cardwright/cardwright/card/WriteBehaviourApplyPinLaw" = true := by first | (simp [plainName, overriddenIn]; done) | decide +kernel
set_option maxRecDepth 65536 in
set_option maxHeartbeats 4000000 in
theorem rm_exp0 (l : Launch) (Z : State) (a0 : Array Value) (hw : ∀ d ∈ tables_1, d.before a0 Z = true) (x y : Int32) (h0 : Heap) (hy : y.toInt8.toInt32 = y) :
    Met l Z (⟨"com/example/cardwright/cardwright/card/WriteBehaviourApplyPinLaw", "exp", "(IBB)B"⟩ : MethodName) method_3_code 3 (some .byte) [] ({ frames := 0, cells := 0, slots := 0, locals := 0 } : Room) #[(.int (0 : Int32)), (.int x), (.int y)] h0 [] (fun v h => v = some (.int (y)) ∧ h0 = h) := by
  refine Met.walk pn_2 (Ls := #[.val (.int (0 : Int32)), .val (.int x), .val (.int y)]) (fun m => by first | (simp [entryFrame, mkF, argsToLocals, Value.category, maxLocals]; done) | rfl) ?_
  intro p e s m below meth c B
  refine B.iloadN 1 rfl d2_0 rfl ?_
  refine B.if0_ne 6 4 rfl (by decide) rfl d2_1 (fun c1 => ?_) (fun c1 => ?_)
  · exact absurd c1 (by decide)
  · refine B.iloadN 5 rfl d2_4 rfl ?_
    refine B.retN (by simp) d2_5 (by decide) (by decide) ?_
    exact ⟨by simp [nar, hy], rfl⟩
theorem d2_6 : decode method_3_code 6 = .ok (.iload_n 0, 1) := by decide +kernel
theorem d2_7 : decode method_3_code 7 = .ok (.iconst 1, 1) := by decide +kernel
theorem d2_8 : decode method_3_code 8 = .ok (.if_icmp .ne 8, 3) := by decide +kernel
theorem d2_11 : decode method_3_code 11 = .ok (.iload_n 1, 1) := by decide +kernel
theorem d2_12 : decode method_3_code 12 = .ok (.iload_n 2, 1) := by decide +kernel
theorem d2_13 : decode method_3_code 13 = .ok (.ior, 1) := by decide +kernel
theorem d2_14 : decode method_3_code 14 = .ok (.i2b, 1) := by decide +kernel
theorem d2_15 : decode method_3_code 15 = .ok (.ireturn, 1) := by decide +kernel
set_option maxRecDepth 65536 in
set_option maxHeartbeats 4000000 in
theorem rm_exp1 (l : Launch) (Z : State) (a0 : Array Value) (hw : ∀ d ∈ tables_1, d.before a0 Z = true) (x y : Int32) (h0 : Heap) (hy : y.toInt8.toInt32 = y) :
    Met l Z (⟨"com/example/cardwright/cardwright/card/WriteBehaviourApplyPinLaw", "exp", "(IBB)B"⟩ : MethodName) method_3_code 3 (some .byte) [] ({ frames := 0, cells := 0, slots := 0, locals := 0 } : Room) #[(.int (1 : Int32)), (.int x), (.int y)] h0 [] (fun v h => v = some (.int ((x ||| y).toInt8.toInt32)) ∧ h0 = h) := by
  refine Met.walk pn_2 (Ls := #[.val (.int (1 : Int32)), .val (.int x), .val (.int y)]) (fun m => by first | (simp [entryFrame, mkF, argsToLocals, Value.category, maxLocals]; done) | rfl) ?_
  intro p e s m below meth c B
  refine B.iloadN 1 rfl d2_0 rfl ?_
  refine B.if0_ne 6 4 rfl (by decide) rfl d2_1 (fun c1 => ?_) (fun c1 => ?_)
  · refine B.iloadN 7 rfl d2_6 rfl ?_
    refine B.iconst 8 rfl (1 : Int32) d2_7 rfl ?_
    refine B.icmp_ne 16 11 rfl (by decide) rfl d2_8 (fun c8 => ?_) (fun c8 => ?_)
    · exact absurd c8 (by decide)
    · refine B.iloadN 12 rfl d2_11 rfl ?_
      refine B.iloadN 13 rfl d2_12 rfl ?_
      refine B.ior 14 rfl d2_13 ?_
      refine B.i2b 15 rfl d2_14 ?_
      refine B.retN (by simp) d2_15 (by decide) (by decide) ?_
      exact ⟨by simp [nar], rfl⟩
  · exact absurd c1 (by decide)
theorem d2_16 : decode method_3_code 16 = .ok (.iload_n 1, 1) := by decide +kernel
theorem d2_17 : decode method_3_code 17 = .ok (.iload_n 2, 1) := by decide +kernel
theorem d2_18 : decode method_3_code 18 = .ok (.iand, 1) := by decide +kernel
theorem d2_19 : decode method_3_code 19 = .ok (.i2b, 1) := by decide +kernel
theorem d2_20 : decode method_3_code 20 = .ok (.ireturn, 1) := by decide +kernel
set_option maxRecDepth 65536 in
set_option maxHeartbeats 4000000 in
theorem rm_exp2 (l : Launch) (Z : State) (a0 : Array Value) (hw : ∀ d ∈ tables_1, d.before a0 Z = true) (x y : Int32) (h0 : Heap) (hy : y.toInt8.toInt32 = y) :
    Met l Z (⟨"com/example/cardwright/cardwright/card/WriteBehaviourApplyPinLaw", "exp", "(IBB)B"⟩ : MethodName) method_3_code 3 (some .byte) [] ({ frames := 0, cells := 0, slots := 0, locals := 0 } : Room) #[(.int (2 : Int32)), (.int x), (.int y)] h0 [] (fun v h => v = some (.int ((x &&& y).toInt8.toInt32)) ∧ h0 = h) := by
  refine Met.walk pn_2 (Ls := #[.val (.int (2 : Int32)), .val (.int x), .val (.int y)]) (fun m => by first | (simp [entryFrame, mkF, argsToLocals, Value.category, maxLocals]; done) | rfl) ?_
  intro p e s m below meth c B
  refine B.iloadN 1 rfl d2_0 rfl ?_
  refine B.if0_ne 6 4 rfl (by decide) rfl d2_1 (fun c1 => ?_) (fun c1 => ?_)
  · refine B.iloadN 7 rfl d2_6 rfl ?_
    refine B.iconst 8 rfl (1 : Int32) d2_7 rfl ?_
    refine B.icmp_ne 16 11 rfl (by decide) rfl d2_8 (fun c8 => ?_) (fun c8 => ?_)
    · refine B.iloadN 17 rfl d2_16 rfl ?_
      refine B.iloadN 18 rfl d2_17 rfl ?_
      refine B.iand 19 rfl d2_18 ?_
      refine B.i2b 20 rfl d2_19 ?_
      refine B.retN (by simp) d2_20 (by decide) (by decide) ?_
      exact ⟨by simp [nar], rfl⟩
    · exact absurd c8 (by decide)
  · exact absurd c1 (by decide)
theorem pn_0 : plainName "com/example/cardwright/cardwright/card/WriteBehaviourApplyPinLaw" = true := by first | (simp [plainName, overriddenIn]; done) | decide +kernel
set_option maxRecDepth 65536 in
set_option maxHeartbeats 4000000 in
theorem rm0 (l : Launch) (Z : State) (a0 : Array Value) (hw : ∀ d ∈ tables_1, d.before a0 Z = true) (wds : List Jvm.Cond) (p1 p2 p3 p4 : Int32) (h0 : Heap) (a_REPLACE a_OR a_AND : Addr) (E_REPLACE : Exa Z h0 a_REPLACE "com/example/cardwright/cardwright/card/WriteBehaviour") (E_OR : Exa Z h0 a_OR "com/example/cardwright/cardwright/card/WriteBehaviour") (E_AND : Exa Z h0 a_AND "com/example/cardwright/cardwright/card/WriteBehaviour") (S_REPLACE : Sta Z h0 "com/example/cardwright/cardwright/card/WriteBehaviour" "REPLACE" "Lcom/example/cardwright/cardwright/card/WriteBehaviour;" (.ref a_REPLACE)) (S_OR : Sta Z h0 "com/example/cardwright/cardwright/card/WriteBehaviour" "OR" "Lcom/example/cardwright/cardwright/card/WriteBehaviour;" (.ref a_OR)) (S_AND : Sta Z h0 "com/example/cardwright/cardwright/card/WriteBehaviour" "AND" "Lcom/example/cardwright/cardwright/card/WriteBehaviour;" (.ref a_AND)) (x_OR_R : a_OR ≠ a_REPLACE) (x_AND_R : a_AND ≠ a_REPLACE) (x_AND_O : a_AND ≠ a_OR) :
    Met l Z x code maxLocals ret wds room_1 #[(.int p1), (.int p2), (.int p3), (.int p4)] h0 [] (fun v _ => v = some (.int 1)) := by
  refine Met.walk pn_0 (Ls := #[.val (.int p1), .val (.int p2), .val (.int p3), .val (.int p4), .unset, .unset, .unset, .unset, .unset, .unset, .unset, .unset, .unset, .unset, .unset, .unset, .unset, .unset, .unset]) (fun m => by first | (simp [entryFrame, mkF, argsToLocals, Value.category, maxLocals]; done) | rfl) ?_
  intro p e s m below meth c B
  refine B.iloadN 1 rfl at_0 rfl ?_
  refine B.ldcI 3 rfl at_1 (wd hw 0 rfl) ?_
  refine B.iand 4 rfl at_3 ?_
  refine B.iconst 5 rfl (3 : Int32) at_4 rfl ?_
  refine B.irem 6 rfl at_5 (by decide) ?_
  have hk := own_k p1
  generalize (p1 &&& (2147483647 : Int32)) % (3 : Int32) = k at hk ⊢
  rcases hk with rfl | rfl | rfl
  · refine B.istore 8 rfl at_6 #[.val (.int p1), .val (.int p2), .val (.int p3), .val (.int p4), .val (.int (0 : Int32)), .unset, .unset, .unset, .unset, .unset, .unset, .unset, .unset, .unset, .unset, .unset, .unset, .unset, .unset] rfl ?_
    refine B.iload 10 rfl at_8 rfl ?_
    refine B.if0_ne 19 13 rfl (by decide) rfl at_10 (fun c10 => ?_) (fun c10 => ?_)
    · exact absurd c10 (by decide)
    · refine B.getS 16 rfl at_13 (wd hw 1 rfl) S_REPLACE ?_
      refine B.goto 34 rfl (by decide) at_16 ?_
      refine B.astore 36 rfl at_34 rfl #[.val (.int p1), .val (.int p2), .val (.int p3), .val (.int p4), .val (.int (0 : Int32)), .val (.ref a_REPLACE), .unset, .unset, .unset, .unset, .unset, .unset, .unset, .unset, .unset, .unset, .unset, .unset, .unset] rfl ?_
      refine B.iloadN 37 rfl at_36 rfl ?_
      refine B.i2b 38 rfl at_37 ?_
      have b_o0 := own_bb (p2)
      generalize (p2).toInt8.toInt32 = o0 at b_o0 ⊢
      refine B.istore 40 rfl at_38 #[.val (.int p1), .val (.int p2), .val (.int p3), .val (.int p4), .val (.int (0 : Int32)), .val (.ref a_REPLACE), .val (.int o0), .unset, .unset, .unset, .unset, .unset, .unset, .unset, .unset, .unset, .unset, .unset, .unset] rfl ?_
      refine B.iloadN 41 rfl at_40 rfl ?_
      refine B.bipush 43 rfl (8 : Int32) at_41 rfl ?_
      refine B.ishr 44 rfl at_43 ?_
      refine B.i2b 45 rfl at_44 ?_
      have b_o1 := own_bb ((p2 >>> ((8 : Int32) &&& 31)))
      generalize ((p2 >>> ((8 : Int32) &&& 31))).toInt8.toInt32 = o1 at b_o1 ⊢
      refine B.istore 47 rfl at_45 #[.val (.int p1), .val (.int p2), .val (.int p3), .val (.int p4), .val (.int (0 : Int32)), .val (.ref a_REPLACE), .val (.int o0), .val (.int o1), .unset, .unset, .unset, .unset, .unset, .unset, .unset, .unset, .unset, .unset, .unset] rfl ?_
      refine B.iloadN 48 rfl at_47 rfl ?_
      refine B.bipush 50 rfl (16 : Int32) at_48 rfl ?_
      refine B.ishr 51 rfl at_50 ?_
      refine B.i2b 52 rfl at_51 ?_
      have b_o2 := own_bb ((p2 >>> ((16 : Int32) &&& 31)))
      generalize ((p2 >>> ((16 : Int32) &&& 31))).toInt8.toInt32 = o2 at b_o2 ⊢
      refine B.istore 54 rfl at_52 #[.val (.int p1), .val (.int p2), .val (.int p3), .val (.int p4), .val (.int (0 : Int32)), .val (.ref a_REPLACE), .val (.int o0), .val (.int o1), .val (.int o2), .unset, .unset, .unset, .unset, .unset, .unset, .unset, .unset, .unset, .unset] rfl ?_
      refine B.iloadN 55 rfl at_54 rfl ?_
      refine B.bipush 57 rfl (24 : Int32) at_55 rfl ?_
      refine B.ishr 58 rfl at_57 ?_
      refine B.i2b 59 rfl at_58 ?_
      have b_o3 := own_bb ((p2 >>> ((24 : Int32) &&& 31)))
      generalize ((p2 >>> ((24 : Int32) &&& 31))).toInt8.toInt32 = o3 at b_o3 ⊢
      refine B.istore 61 rfl at_59 #[.val (.int p1), .val (.int p2), .val (.int p3), .val (.int p4), .val (.int (0 : Int32)), .val (.ref a_REPLACE), .val (.int o0), .val (.int o1), .val (.int o2), .val (.int o3), .unset, .unset, .unset, .unset, .unset, .unset, .unset, .unset, .unset] rfl ?_
      refine B.iloadN 62 rfl at_61 rfl ?_
      refine B.i2b 63 rfl at_62 ?_
      have b_d0 := own_bb (p3)
      generalize (p3).toInt8.toInt32 = d0 at b_d0 ⊢
      refine B.istore 65 rfl at_63 #[.val (.int p1), .val (.int p2), .val (.int p3), .val (.int p4), .val (.int (0 : Int32)), .val (.ref a_REPLACE), .val (.int o0), .val (.int o1), .val (.int o2), .val (.int o3), .val (.int d0), .unset, .unset, .unset, .unset, .unset, .unset, .unset, .unset] rfl ?_
      refine B.iloadN 66 rfl at_65 rfl ?_
      refine B.bipush 68 rfl (8 : Int32) at_66 rfl ?_
      refine B.ishr 69 rfl at_68 ?_
      refine B.i2b 70 rfl at_69 ?_
      have b_d1 := own_bb ((p3 >>> ((8 : Int32) &&& 31)))
      generalize ((p3 >>> ((8 : Int32) &&& 31))).toInt8.toInt32 = d1 at b_d1 ⊢
      refine B.istore 72 rfl at_70 #[.val (.int p1), .val (.int p2), .val (.int p3), .val (.int p4), .val (.int (0 : Int32)), .val (.ref a_REPLACE), .val (.int o0), .val (.int o1), .val (.int o2), .val (.int o3), .val (.int d0), .val (.int d1), .unset, .unset, .unset, .unset, .unset, .unset, .unset] rfl ?_
      refine B.iloadN 73 rfl at_72 rfl ?_
      refine B.bipush 75 rfl (16 : Int32) at_73 rfl ?_
      refine B.ishr 76 rfl at_75 ?_
      refine B.i2b 77 rfl at_76 ?_
      have b_d2 := own_bb ((p3 >>> ((16 : Int32) &&& 31)))
      generalize ((p3 >>> ((16 : Int32) &&& 31))).toInt8.toInt32 = d2 at b_d2 ⊢
      refine B.istore 79 rfl at_77 #[.val (.int p1), .val (.int p2), .val (.int p3), .val (.int p4), .val (.int (0 : Int32)), .val (.ref a_REPLACE), .val (.int o0), .val (.int o1), .val (.int o2), .val (.int o3), .val (.int d0), .val (.int d1), .val (.int d2), .unset, .unset, .unset, .unset, .unset, .unset] rfl ?_
      refine B.iloadN 80 rfl at_79 rfl ?_
      refine B.bipush 82 rfl (24 : Int32) at_80 rfl ?_
      refine B.ishr 83 rfl at_82 ?_
      refine B.i2b 84 rfl at_83 ?_
      have b_d3 := own_bb ((p3 >>> ((24 : Int32) &&& 31)))
      generalize ((p3 >>> ((24 : Int32) &&& 31))).toInt8.toInt32 = d3 at b_d3 ⊢
      refine B.istore 86 rfl at_84 #[.val (.int p1), .val (.int p2), .val (.int p3), .val (.int p4), .val (.int (0 : Int32)), .val (.ref a_REPLACE), .val (.int o0), .val (.int o1), .val (.int o2), .val (.int o3), .val (.int d0), .val (.int d1), .val (.int d2), .val (.int d3), .unset, .unset, .unset, .unset, .unset] rfl ?_
      refine B.iconst 87 rfl (4 : Int32) at_86 rfl ?_
      refine B.newP 89 rfl at_87 (wd hw 4 rfl) (by decide) 4 (by decide) (by decide) (by decide) (by decide) ?_
      intro h_ao ao e_ao g_ao X_ao A_ao
      replace A_ao : Ary Z h_ao ao .byte [(.int (0 : Int32)), (.int (0 : Int32)), (.int (0 : Int32)), (.int (0 : Int32))] := A_ao
      show B.G h_ao 1 4 (mkF m 89 #[.val (.int p1), .val (.int p2), .val (.int p3), .val (.int p4), .val (.int (0 : Int32)), .val (.ref a_REPLACE), .val (.int o0), .val (.int o1), .val (.int o2), .val (.int o3), .val (.int d0), .val (.int d1), .val (.int d2), .val (.int d3), .unset, .unset, .unset, .unset, .unset] [(.ref ao)])
      refine B.dup 90 rfl at_89 rfl ?_
      refine B.iconst 91 rfl (0 : Int32) at_90 rfl ?_
      refine B.iload 93 rfl at_91 rfl ?_
      refine B.bastore 94 rfl at_93 A_ao (by decide) 0 rfl (by simp) (Or.inr g_ao) ?_
      intro hs1 Ws1 As1
      rw [b_o0] at As1
      replace As1 : Ary Z hs1 ao .byte [(.int o0), (.int (0 : Int32)), (.int (0 : Int32)), (.int (0 : Int32))] := As1
      refine B.dup 95 rfl at_94 rfl ?_
      refine B.iconst 96 rfl (1 : Int32) at_95 rfl ?_
      refine B.iload 98 rfl at_96 rfl ?_
      refine B.bastore 99 rfl at_98 As1 (by decide) 1 rfl (by simp) (Or.inr g_ao) ?_
      intro hs2 Ws2 As2
      rw [b_o1] at As2
      replace As2 : Ary Z hs2 ao .byte [(.int o0), (.int o1), (.int (0 : Int32)), (.int (0 : Int32))] := As2
      refine B.dup 100 rfl at_99 rfl ?_
      refine B.iconst 101 rfl (2 : Int32) at_100 rfl ?_
      refine B.iload 103 rfl at_101 rfl ?_
      refine B.bastore 104 rfl at_103 As2 (by decide) 2 rfl (by simp) (Or.inr g_ao) ?_
      intro hs3 Ws3 As3
      rw [b_o2] at As3
      replace As3 : Ary Z hs3 ao .byte [(.int o0), (.int o1), (.int o2), (.int (0 : Int32))] := As3
      refine B.dup 105 rfl at_104 rfl ?_
      refine B.iconst 106 rfl (3 : Int32) at_105 rfl ?_
      refine B.iload 108 rfl at_106 rfl ?_
      refine B.bastore 109 rfl at_108 As3 (by decide) 3 rfl (by simp) (Or.inr g_ao) ?_
      intro hs4 Ws4 As4
      rw [b_o3] at As4
      replace As4 : Ary Z hs4 ao .byte [(.int o0), (.int o1), (.int o2), (.int o3)] := As4
      refine B.astore 111 rfl at_109 rfl #[.val (.int p1), .val (.int p2), .val (.int p3), .val (.int p4), .val (.int (0 : Int32)), .val (.ref a_REPLACE), .val (.int o0), .val (.int o1), .val (.int o2), .val (.int o3), .val (.int d0), .val (.int d1), .val (.int d2), .val (.int d3), .val (.ref ao), .unset, .unset, .unset, .unset] rfl ?_
      refine B.iconst 112 rfl (4 : Int32) at_111 rfl ?_
      refine B.newPE 114 rfl at_112 (wd hw 4 rfl) (by decide) 4 (by decide) (by decide) (by decide) (by decide) "[B" rfl ?_
      intro h_ad ad e_ad g_ad X_ad A_ad E_ad
      replace A_ad : Ary Z h_ad ad .byte [(.int (0 : Int32)), (.int (0 : Int32)), (.int (0 : Int32)), (.int (0 : Int32))] := A_ad
      show B.G h_ad 2 8 (mkF m 114 #[.val (.int p1), .val (.int p2), .val (.int p3), .val (.int p4), .val (.int (0 : Int32)), .val (.ref a_REPLACE), .val (.int o0), .val (.int o1), .val (.int o2), .val (.int o3), .val (.int d0), .val (.int d1), .val (.int d2), .val (.int d3), .val (.ref ao), .unset, .unset, .unset, .unset] [(.ref ad)])
      have n_ao_ad : ao ≠ ad := fun q => absurd As4.lt (by rw [q, e_ad]; exact Nat.lt_irrefl _)
      have A_ao_6 := As4.ext X_ad
      refine B.dup 115 rfl at_114 rfl ?_
      refine B.iconst 116 rfl (0 : Int32) at_115 rfl ?_
      refine B.iload 118 rfl at_116 rfl ?_
      refine B.bastore 119 rfl at_118 A_ad (by decide) 0 rfl (by simp) (Or.inr g_ad) ?_
      intro hs5 Ws5 As5
      rw [b_d0] at As5
      replace As5 : Ary Z hs5 ad .byte [(.int d0), (.int (0 : Int32)), (.int (0 : Int32)), (.int (0 : Int32))] := As5
      have A_ao_7 := A_ao_6.other Ws5 n_ao_ad
      have E_ad_7 := E_ad.wr Ws5
      refine B.dup 120 rfl at_119 rfl ?_
      refine B.iconst 121 rfl (1 : Int32) at_120 rfl ?_
      refine B.iload 123 rfl at_121 rfl ?_
      refine B.bastore 124 rfl at_123 As5 (by decide) 1 rfl (by simp) (Or.inr g_ad) ?_
      intro hs6 Ws6 As6
      rw [b_d1] at As6
      replace As6 : Ary Z hs6 ad .byte [(.int d0), (.int d1), (.int (0 : Int32)), (.int (0 : Int32))] := As6
      have A_ao_8 := A_ao_7.other Ws6 n_ao_ad
      have E_ad_8 := E_ad_7.wr Ws6
      refine B.dup 125 rfl at_124 rfl ?_
      refine B.iconst 126 rfl (2 : Int32) at_125 rfl ?_
      refine B.iload 128 rfl at_126 rfl ?_
      refine B.bastore 129 rfl at_128 As6 (by decide) 2 rfl (by simp) (Or.inr g_ad) ?_
      intro hs7 Ws7 As7
      rw [b_d2] at As7
      replace As7 : Ary Z hs7 ad .byte [(.int d0), (.int d1), (.int d2), (.int (0 : Int32))] := As7
      have A_ao_9 := A_ao_8.other Ws7 n_ao_ad
      have E_ad_9 := E_ad_8.wr Ws7
      refine B.dup 130 rfl at_129 rfl ?_
      refine B.iconst 131 rfl (3 : Int32) at_130 rfl ?_
      refine B.iload 133 rfl at_131 rfl ?_
      refine B.bastore 134 rfl at_133 As7 (by decide) 3 rfl (by simp) (Or.inr g_ad) ?_
      intro hs8 Ws8 As8
      rw [b_d3] at As8
      replace As8 : Ary Z hs8 ad .byte [(.int d0), (.int d1), (.int d2), (.int d3)] := As8
      have A_ao_10 := A_ao_9.other Ws8 n_ao_ad
      have E_ad_10 := E_ad_9.wr Ws8
      refine B.astore 136 rfl at_134 rfl #[.val (.int p1), .val (.int p2), .val (.int p3), .val (.int p4), .val (.int (0 : Int32)), .val (.ref a_REPLACE), .val (.int o0), .val (.int o1), .val (.int o2), .val (.int o3), .val (.int d0), .val (.int d1), .val (.int d2), .val (.int d3), .val (.ref ao), .val (.ref ad), .unset, .unset, .unset] rfl ?_
      refine B.iconst 137 rfl (0 : Int32) at_136 rfl ?_
      refine B.newP 139 rfl at_137 (wd hw 4 rfl) (by decide) 0 (by decide) (by decide) (by decide) (by decide) ?_
      intro h_az az e_az g_az X_az A_az
      replace A_az : Ary Z h_az az .byte [] := A_az
      show B.G h_az 3 8 (mkF m 139 #[.val (.int p1), .val (.int p2), .val (.int p3), .val (.int p4), .val (.int (0 : Int32)), .val (.ref a_REPLACE), .val (.int o0), .val (.int o1), .val (.int o2), .val (.int o3), .val (.int d0), .val (.int d1), .val (.int d2), .val (.int d3), .val (.ref ao), .val (.ref ad), .unset, .unset, .unset] [(.ref az)])
      have n_ad_az : ad ≠ az := fun q => absurd E_ad_10.lt (by rw [q, e_az]; exact Nat.lt_irrefl _)
      have n_ao_az : ao ≠ az := fun q => absurd A_ao_10.lt (by rw [q, e_az]; exact Nat.lt_irrefl _)
      have A_ao_11 := A_ao_10.ext X_az
      have E_ad_11 := E_ad_10.ext X_az
      have A_ad_11 := As8.ext X_az
      refine B.astore 141 rfl at_139 rfl #[.val (.int p1), .val (.int p2), .val (.int p3), .val (.int p4), .val (.int (0 : Int32)), .val (.ref a_REPLACE), .val (.int o0), .val (.int o1), .val (.int o2), .val (.int o3), .val (.int d0), .val (.int d1), .val (.int d2), .val (.int d3), .val (.ref ao), .val (.ref ad), .val (.ref az), .unset, .unset] rfl ?_
      refine B.iload 143 rfl at_141 rfl ?_
      refine B.if0_ne 157 146 rfl (by decide) rfl at_143 (fun c143 => ?_) (fun c143 => ?_)
      · exact absurd c143 (by decide)
      · refine B.iloadN 147 rfl at_146 rfl ?_
        refine B.iconst 148 rfl (1 : Int32) at_147 rfl ?_
        refine B.iand 149 rfl at_148 ?_
        refine B.if0_eq 157 152 rfl (by decide) rfl at_149 (fun c149 => ?_) (fun c149 => ?_)
        · refine B.aload 159 rfl at_157 rfl rfl ?_
          refine B.astore 161 rfl at_159 rfl #[.val (.int p1), .val (.int p2), .val (.int p3), .val (.int p4), .val (.int (0 : Int32)), .val (.ref a_REPLACE), .val (.int o0), .val (.int o1), .val (.int o2), .val (.int o3), .val (.int d0), .val (.int d1), .val (.int d2), .val (.int d3), .val (.ref ao), .val (.ref ad), .val (.ref az), .val (.ref ao), .unset] rfl ?_
          refine B.olds fun X => ?_
          have EO := E_REPLACE.ext X
          have S9_REPLACE := S_REPLACE.ext X
          have S9_OR := S_OR.ext X
          have hfit : ∀ v ∈ ([(.int d0), (.int d1), (.int d2), (.int d3)] : List Value), fits .byte v = true := by
            intro v hv
            simp only [List.mem_cons, List.not_mem_nil, or_false] at hv
            rcases hv with rfl | rfl | rfl | rfl
            · exact own_fb b_d0
            · exact own_fb b_d1
            · exact own_fb b_d2
            · exact own_fb b_d3
          refine B.aload 163 rfl at_161 rfl rfl ?_
          refine B.aload 165 rfl at_163 rfl rfl ?_
          refine B.aload 167 rfl at_165 rfl rfl ?_
          refine B.callV 170 rfl at_167 (wd hw 5 rfl) (wd hw 6 rfl) (wd hw 8 rfl) (wd hw 7 rfl) (wd hw 2 rfl) (wd hw 9 rfl) (by decide) EO [(.ref ao), (.ref ad)] [] (rm_apply0 l Z a0 hw a_REPLACE a_OR ao ad d0 d1 d2 d3 h_az S9_REPLACE S9_OR A_ad_11 E_ad_11 hfit) rfl rfl pd___B_B__B rfl rfl 0 rfl (by decide) (by decide) (by decide) (by decide) (fun _ q => nomatch q) ?_
          rintro _ h_r K_r ⟨r, rfl, g_r, A_r⟩
          show B.G h_r 4 12 (mkF m 170 #[.val (.int p1), .val (.int p2), .val (.int p3), .val (.int p4), .val (.int (0 : Int32)), .val (.ref a_REPLACE), .val (.int o0), .val (.int o1), .val (.int o2), .val (.int o3), .val (.int d0), .val (.int d1), .val (.int d2), .val (.int d3), .val (.ref ao), .val (.ref ad), .val (.ref az), .val (.ref ao), .unset] [(.ref r)])
          have n_ao_r : ao ≠ r := fun q => absurd A_ao_11.lt (by rw [q]; exact Nat.not_lt.mpr g_r)
          have n_ad_r : ad ≠ r := fun q => absurd A_ad_11.lt (by rw [q]; exact Nat.not_lt.mpr g_r)
          have A_ao_12 := A_ao_11.keep K_r nin0
          have E_ad_12 := E_ad_11.keep K_r
          have A_ad_12 := A_ad_11.keep K_r nin0
          have A_az_12 := A_az.keep K_r nin0
          refine B.astore 172 rfl at_170 rfl #[.val (.int p1), .val (.int p2), .val (.int p3), .val (.int p4), .val (.int (0 : Int32)), .val (.ref a_REPLACE), .val (.int o0), .val (.int o1), .val (.int o2), .val (.int o3), .val (.int d0), .val (.int d1), .val (.int d2), .val (.int d3), .val (.ref ao), .val (.ref ad), .val (.ref az), .val (.ref ao), .val (.ref r)] rfl ?_
          refine B.aload 174 rfl at_172 rfl rfl ?_
          refine B.ifnull 198 177 rfl (by decide) rfl at_174 rfl (fun c174 => ?_) (fun c174 => ?_)
          · exact absurd c174 (by simp)
          · refine B.aload 179 rfl at_177 rfl rfl ?_
            refine B.aload 181 rfl at_179 rfl rfl ?_
            refine B.acmp_eq 198 184 rfl (by decide) rfl at_181 rfl rfl (fun c181 => ?_) (fun c181 => ?_)
            · exact absurd (Value.ref.inj c181).symm n_ad_r
            · refine B.aload 186 rfl at_184 rfl rfl ?_
              refine B.aload 188 rfl at_186 rfl rfl ?_
              refine B.acmp_eq 198 191 rfl (by decide) rfl at_188 rfl rfl (fun c188 => ?_) (fun c188 => ?_)
              · exact absurd (Value.ref.inj c188).symm n_ao_r
              · refine B.aload 193 rfl at_191 rfl rfl ?_
                refine B.arrlen 194 rfl at_193 A_r (4 : Int32) rfl ?_
                refine B.iconst 195 rfl (4 : Int32) at_194 rfl ?_
                refine B.icmp_eq 200 198 rfl (by decide) rfl at_195 (fun c195 => ?_) (fun c195 => ?_)
                · refine B.aload 202 rfl at_200 rfl rfl ?_
                  refine B.iconst 203 rfl (0 : Int32) at_202 rfl ?_
                  refine B.baload 204 rfl at_203 A_ao_12 (by decide) 0 rfl (.int o0) rfl ?_
                  refine B.iload 206 rfl at_204 rfl ?_
                  refine B.icmp_ne 236 209 rfl (by decide) rfl at_206 (fun c206 => ?_) (fun c206 => ?_)
                  · exact absurd rfl c206
                  · refine B.aload 211 rfl at_209 rfl rfl ?_
                    refine B.iconst 212 rfl (1 : Int32) at_211 rfl ?_
                    refine B.baload 213 rfl at_212 A_ao_12 (by decide) 1 rfl (.int o1) rfl ?_
                    refine B.iload 215 rfl at_213 rfl ?_
                    refine B.icmp_ne 236 218 rfl (by decide) rfl at_215 (fun c215 => ?_) (fun c215 => ?_)
                    · exact absurd rfl c215
                    · refine B.aload 220 rfl at_218 rfl rfl ?_
                      refine B.iconst 221 rfl (2 : Int32) at_220 rfl ?_
                      refine B.baload 222 rfl at_221 A_ao_12 (by decide) 2 rfl (.int o2) rfl ?_
                      refine B.iload 224 rfl at_222 rfl ?_
                      refine B.icmp_ne 236 227 rfl (by decide) rfl at_224 (fun c224 => ?_) (fun c224 => ?_)
                      · exact absurd rfl c224
                      · refine B.aload 229 rfl at_227 rfl rfl ?_
                        refine B.iconst 230 rfl (3 : Int32) at_229 rfl ?_
                        refine B.baload 231 rfl at_230 A_ao_12 (by decide) 3 rfl (.int o3) rfl ?_
                        refine B.iload 233 rfl at_231 rfl ?_
                        refine B.icmp_eq 238 236 rfl (by decide) rfl at_233 (fun c233 => ?_) (fun c233 => ?_)
                        · refine B.aload 240 rfl at_238 rfl rfl ?_
                          refine B.iconst 241 rfl (0 : Int32) at_240 rfl ?_
                          refine B.baload 242 rfl at_241 A_ad_12 (by decide) 0 rfl (.int d0) rfl ?_
                          refine B.iload 244 rfl at_242 rfl ?_
                          refine B.icmp_ne 274 247 rfl (by decide) rfl at_244 (fun c244 => ?_) (fun c244 => ?_)
                          · exact absurd rfl c244
                          · refine B.aload 249 rfl at_247 rfl rfl ?_
                            refine B.iconst 250 rfl (1 : Int32) at_249 rfl ?_
                            refine B.baload 251 rfl at_250 A_ad_12 (by decide) 1 rfl (.int d1) rfl ?_
                            refine B.iload 253 rfl at_251 rfl ?_
                            refine B.icmp_ne 274 256 rfl (by decide) rfl at_253 (fun c253 => ?_) (fun c253 => ?_)
                            · exact absurd rfl c253
                            · refine B.aload 258 rfl at_256 rfl rfl ?_
                              refine B.iconst 259 rfl (2 : Int32) at_258 rfl ?_
                              refine B.baload 260 rfl at_259 A_ad_12 (by decide) 2 rfl (.int d2) rfl ?_
                              refine B.iload 262 rfl at_260 rfl ?_
                              refine B.icmp_ne 274 265 rfl (by decide) rfl at_262 (fun c262 => ?_) (fun c262 => ?_)
                              · exact absurd rfl c262
                              · refine B.aload 267 rfl at_265 rfl rfl ?_
                                refine B.iconst 268 rfl (3 : Int32) at_267 rfl ?_
                                refine B.baload 269 rfl at_268 A_ad_12 (by decide) 3 rfl (.int d3) rfl ?_
                                refine B.iload 271 rfl at_269 rfl ?_
                                refine B.icmp_eq 276 274 rfl (by decide) rfl at_271 (fun c271 => ?_) (fun c271 => ?_)
                                · refine B.aload 278 rfl at_276 rfl rfl ?_
                                  refine B.iconst 279 rfl (0 : Int32) at_278 rfl ?_
                                  refine B.baload 280 rfl at_279 A_r (by decide) 0 rfl (.int d0) rfl ?_
                                  refine B.iload 282 rfl at_280 rfl ?_
                                  refine B.iload 284 rfl at_282 rfl ?_
                                  refine B.iload 286 rfl at_284 rfl ?_
                                  refine B.callS 289 rfl at_286 (wd hw 20 rfl) (wd hw 21 rfl) (wd hw 22 rfl) (wd hw 23 rfl) (by decide) [(.int (0 : Int32)), (.int o0), (.int d0)] [(.int d0)] (rm_exp0 l Z a0 hw o0 d0 h_r b_d0) rfl rfl pd__IBB_B rfl rfl 1 rfl (by decide) (by decide) (by decide) (by decide) (fun _ q => nomatch q) ?_
                                  rintro _ _ - ⟨rfl, rfl⟩
                                  show B.G h_r 4 12 (mkF m 289 #[.val (.int p1), .val (.int p2), .val (.int p3), .val (.int p4), .val (.int (0 : Int32)), .val (.ref a_REPLACE), .val (.int o0), .val (.int o1), .val (.int o2), .val (.int o3), .val (.int d0), .val (.int d1), .val (.int d2), .val (.int d3), .val (.ref ao), .val (.ref ad), .val (.ref az), .val (.ref ao), .val (.ref r)] [(.int d0), (.int d0)])
                                  refine B.icmp_ne 344 292 rfl (by decide) rfl at_289 (fun c289 => ?_) (fun c289 => ?_)
                                  · exact absurd rfl c289
                                  · refine B.aload 294 rfl at_292 rfl rfl ?_
                                    refine B.iconst 295 rfl (1 : Int32) at_294 rfl ?_
                                    refine B.baload 296 rfl at_295 A_r (by decide) 1 rfl (.int d1) rfl ?_
                                    refine B.iload 298 rfl at_296 rfl ?_
                                    refine B.iload 300 rfl at_298 rfl ?_
                                    refine B.iload 302 rfl at_300 rfl ?_
                                    refine B.callS 305 rfl at_302 (wd hw 20 rfl) (wd hw 21 rfl) (wd hw 22 rfl) (wd hw 23 rfl) (by decide) [(.int (0 : Int32)), (.int o1), (.int d1)] [(.int d1)] (rm_exp0 l Z a0 hw o1 d1 h_r b_d1) rfl rfl pd__IBB_B rfl rfl 1 rfl (by decide) (by decide) (by decide) (by decide) (fun _ q => nomatch q) ?_
                                    rintro _ _ - ⟨rfl, rfl⟩
                                    show B.G h_r 4 12 (mkF m 305 #[.val (.int p1), .val (.int p2), .val (.int p3), .val (.int p4), .val (.int (0 : Int32)), .val (.ref a_REPLACE), .val (.int o0), .val (.int o1), .val (.int o2), .val (.int o3), .val (.int d0), .val (.int d1), .val (.int d2), .val (.int d3), .val (.ref ao), .val (.ref ad), .val (.ref az), .val (.ref ao), .val (.ref r)] [(.int d1), (.int d1)])
                                    refine B.icmp_ne 344 308 rfl (by decide) rfl at_305 (fun c305 => ?_) (fun c305 => ?_)
                                    · exact absurd rfl c305
                                    · refine B.aload 310 rfl at_308 rfl rfl ?_
                                      refine B.iconst 311 rfl (2 : Int32) at_310 rfl ?_
                                      refine B.baload 312 rfl at_311 A_r (by decide) 2 rfl (.int d2) rfl ?_
                                      refine B.iload 314 rfl at_312 rfl ?_
                                      refine B.iload 316 rfl at_314 rfl ?_
                                      refine B.iload 318 rfl at_316 rfl ?_
                                      refine B.callS 321 rfl at_318 (wd hw 20 rfl) (wd hw 21 rfl) (wd hw 22 rfl) (wd hw 23 rfl) (by decide) [(.int (0 : Int32)), (.int o2), (.int d2)] [(.int d2)] (rm_exp0 l Z a0 hw o2 d2 h_r b_d2) rfl rfl pd__IBB_B rfl rfl 1 rfl (by decide) (by decide) (by decide) (by decide) (fun _ q => nomatch q) ?_
                                      rintro _ _ - ⟨rfl, rfl⟩
                                      show B.G h_r 4 12 (mkF m 321 #[.val (.int p1), .val (.int p2), .val (.int p3), .val (.int p4), .val (.int (0 : Int32)), .val (.ref a_REPLACE), .val (.int o0), .val (.int o1), .val (.int o2), .val (.int o3), .val (.int d0), .val (.int d1), .val (.int d2), .val (.int d3), .val (.ref ao), .val (.ref ad), .val (.ref az), .val (.ref ao), .val (.ref r)] [(.int d2), (.int d2)])
                                      refine B.icmp_ne 344 324 rfl (by decide) rfl at_321 (fun c321 => ?_) (fun c321 => ?_)
                                      · exact absurd rfl c321
                                      · refine B.aload 326 rfl at_324 rfl rfl ?_
                                        refine B.iconst 327 rfl (3 : Int32) at_326 rfl ?_
                                        refine B.baload 328 rfl at_327 A_r (by decide) 3 rfl (.int d3) rfl ?_
                                        refine B.iload 330 rfl at_328 rfl ?_
                                        refine B.iload 332 rfl at_330 rfl ?_
                                        refine B.iload 334 rfl at_332 rfl ?_
                                        refine B.callS 337 rfl at_334 (wd hw 20 rfl) (wd hw 21 rfl) (wd hw 22 rfl) (wd hw 23 rfl) (by decide) [(.int (0 : Int32)), (.int o3), (.int d3)] [(.int d3)] (rm_exp0 l Z a0 hw o3 d3 h_r b_d3) rfl rfl pd__IBB_B rfl rfl 1 rfl (by decide) (by decide) (by decide) (by decide) (fun _ q => nomatch q) ?_
                                        rintro _ _ - ⟨rfl, rfl⟩
                                        show B.G h_r 4 12 (mkF m 337 #[.val (.int p1), .val (.int p2), .val (.int p3), .val (.int p4), .val (.int (0 : Int32)), .val (.ref a_REPLACE), .val (.int o0), .val (.int o1), .val (.int o2), .val (.int o3), .val (.int d0), .val (.int d1), .val (.int d2), .val (.int d3), .val (.ref ao), .val (.ref ad), .val (.ref az), .val (.ref ao), .val (.ref r)] [(.int d3), (.int d3)])
                                        refine B.icmp_ne 344 340 rfl (by decide) rfl at_337 (fun c337 => ?_) (fun c337 => ?_)
                                        · exact absurd rfl c337
                                        · refine B.iconst 341 rfl (1 : Int32) at_340 rfl ?_
                                          refine B.goto 345 rfl (by decide) at_341 ?_
                                          refine B.retN (by simp) at_345 (by decide) (by decide) ?_
                                          exact rfl
                                · exact absurd rfl c271
                        · exact absurd rfl c233
                · exact absurd c195 (by decide)
        · refine B.aload 154 rfl at_152 rfl rfl ?_
          refine B.goto 159 rfl (by decide) at_154 ?_
          refine B.astore 161 rfl at_159 rfl #[.val (.int p1), .val (.int p2), .val (.int p3), .val (.int p4), .val (.int (0 : Int32)), .val (.ref a_REPLACE), .val (.int o0), .val (.int o1), .val (.int o2), .val (.int o3), .val (.int d0), .val (.int d1), .val (.int d2), .val (.int d3), .val (.ref ao), .val (.ref ad), .val (.ref az), .val (.ref az), .unset] rfl ?_
          refine B.olds fun X => ?_
          have EO := E_REPLACE.ext X
          have S9_REPLACE := S_REPLACE.ext X
          have S9_OR := S_OR.ext X
          have hfit : ∀ v ∈ ([(.int d0), (.int d1), (.int d2), (.int d3)] : List Value), fits .byte v = true := by
            intro v hv
            simp only [List.mem_cons, List.not_mem_nil, or_false] at hv
            rcases hv with rfl | rfl | rfl | rfl
            · exact own_fb b_d0
            · exact own_fb b_d1
            · exact own_fb b_d2
            · exact own_fb b_d3
          refine B.aload 163 rfl at_161 rfl rfl ?_
          refine B.aload 165 rfl at_163 rfl rfl ?_
          refine B.aload 167 rfl at_165 rfl rfl ?_
          refine B.callV 170 rfl at_167 (wd hw 5 rfl) (wd hw 6 rfl) (wd hw 8 rfl) (wd hw 7 rfl) (wd hw 2 rfl) (wd hw 9 rfl) (by decide) EO [(.ref az), (.ref ad)] [] (rm_apply0 l Z a0 hw a_REPLACE a_OR az ad d0 d1 d2 d3 h_az S9_REPLACE S9_OR A_ad_11 E_ad_11 hfit) rfl rfl pd___B_B__B rfl rfl 0 rfl (by decide) (by decide) (by decide) (by decide) (fun _ q => nomatch q) ?_
          rintro _ h_r K_r ⟨r, rfl, g_r, A_r⟩
          show B.G h_r 4 12 (mkF m 170 #[.val (.int p1), .val (.int p2), .val (.int p3), .val (.int p4), .val (.int (0 : Int32)), .val (.ref a_REPLACE), .val (.int o0), .val (.int o1), .val (.int o2), .val (.int o3), .val (.int d0), .val (.int d1), .val (.int d2), .val (.int d3), .val (.ref ao), .val (.ref ad), .val (.ref az), .val (.ref az), .unset] [(.ref r)])
          have n_ao_r : ao ≠ r := fun q => absurd A_ao_11.lt (by rw [q]; exact Nat.not_lt.mpr g_r)
          have n_ad_r : ad ≠ r := fun q => absurd A_ad_11.lt (by rw [q]; exact Nat.not_lt.mpr g_r)
          have A_ao_12 := A_ao_11.keep K_r nin0
          have E_ad_12 := E_ad_11.keep K_r
          have A_ad_12 := A_ad_11.keep K_r nin0
          have A_az_12 := A_az.keep K_r nin0
          refine B.astore 172 rfl at_170 rfl #[.val (.int p1), .val (.int p2), .val (.int p3), .val (.int p4), .val (.int (0 : Int32)), .val (.ref a_REPLACE), .val (.int o0), .val (.int o1), .val (.int o2), .val (.int o3), .val (.int d0), .val (.int d1), .val (.int d2), .val (.int d3), .val (.ref ao), .val (.ref ad), .val (.ref az), .val (.ref az), .val (.ref r)] rfl ?_
          refine B.aload 174 rfl at_172 rfl rfl ?_
          refine B.ifnull 198 177 rfl (by decide) rfl at_174 rfl (fun c174 => ?_) (fun c174 => ?_)
          · exact absurd c174 (by simp)
          · refine B.aload 179 rfl at_177 rfl rfl ?_
            refine B.aload 181 rfl at_179 rfl rfl ?_
            refine B.acmp_eq 198 184 rfl (by decide) rfl at_181 rfl rfl (fun c181 => ?_) (fun c181 => ?_)
            · exact absurd (Value.ref.inj c181).symm n_ad_r
            · refine B.aload 186 rfl at_184 rfl rfl ?_
              refine B.aload 188 rfl at_186 rfl rfl ?_
              refine B.acmp_eq 198 191 rfl (by decide) rfl at_188 rfl rfl (fun c188 => ?_) (fun c188 => ?_)
              · exact absurd (Value.ref.inj c188).symm n_ao_r
              · refine B.aload 193 rfl at_191 rfl rfl ?_
                refine B.arrlen 194 rfl at_193 A_r (4 : Int32) rfl ?_
                refine B.iconst 195 rfl (4 : Int32) at_194 rfl ?_
                refine B.icmp_eq 200 198 rfl (by decide) rfl at_195 (fun c195 => ?_) (fun c195 => ?_)
                · refine B.aload 202 rfl at_200 rfl rfl ?_
                  refine B.iconst 203 rfl (0 : Int32) at_202 rfl ?_
                  refine B.baload 204 rfl at_203 A_ao_12 (by decide) 0 rfl (.int o0) rfl ?_
                  refine B.iload 206 rfl at_204 rfl ?_
                  refine B.icmp_ne 236 209 rfl (by decide) rfl at_206 (fun c206 => ?_) (fun c206 => ?_)
                  · exact absurd rfl c206
                  · refine B.aload 211 rfl at_209 rfl rfl ?_
                    refine B.iconst 212 rfl (1 : Int32) at_211 rfl ?_
                    refine B.baload 213 rfl at_212 A_ao_12 (by decide) 1 rfl (.int o1) rfl ?_
                    refine B.iload 215 rfl at_213 rfl ?_
                    refine B.icmp_ne 236 218 rfl (by decide) rfl at_215 (fun c215 => ?_) (fun c215 => ?_)
                    · exact absurd rfl c215
                    · refine B.aload 220 rfl at_218 rfl rfl ?_
                      refine B.iconst 221 rfl (2 : Int32) at_220 rfl ?_
                      refine B.baload 222 rfl at_221 A_ao_12 (by decide) 2 rfl (.int o2) rfl ?_
                      refine B.iload 224 rfl at_222 rfl ?_
                      refine B.icmp_ne 236 227 rfl (by decide) rfl at_224 (fun c224 => ?_) (fun c224 => ?_)
                      · exact absurd rfl c224
                      · refine B.aload 229 rfl at_227 rfl rfl ?_
                        refine B.iconst 230 rfl (3 : Int32) at_229 rfl ?_
                        refine B.baload 231 rfl at_230 A_ao_12 (by decide) 3 rfl (.int o3) rfl ?_
                        refine B.iload 233 rfl at_231 rfl ?_
                        refine B.icmp_eq 238 236 rfl (by decide) rfl at_233 (fun c233 => ?_) (fun c233 => ?_)
                        · refine B.aload 240 rfl at_238 rfl rfl ?_
                          refine B.iconst 241 rfl (0 : Int32) at_240 rfl ?_
                          refine B.baload 242 rfl at_241 A_ad_12 (by decide) 0 rfl (.int d0) rfl ?_
                          refine B.iload 244 rfl at_242 rfl ?_
                          refine B.icmp_ne 274 247 rfl (by decide) rfl at_244 (fun c244 => ?_) (fun c244 => ?_)
                          · exact absurd rfl c244
                          · refine B.aload 249 rfl at_247 rfl rfl ?_
                            refine B.iconst 250 rfl (1 : Int32) at_249 rfl ?_
                            refine B.baload 251 rfl at_250 A_ad_12 (by decide) 1 rfl (.int d1) rfl ?_
                            refine B.iload 253 rfl at_251 rfl ?_
                            refine B.icmp_ne 274 256 rfl (by decide) rfl at_253 (fun c253 => ?_) (fun c253 => ?_)
                            · exact absurd rfl c253
                            · refine B.aload 258 rfl at_256 rfl rfl ?_
                              refine B.iconst 259 rfl (2 : Int32) at_258 rfl ?_
                              refine B.baload 260 rfl at_259 A_ad_12 (by decide) 2 rfl (.int d2) rfl ?_
                              refine B.iload 262 rfl at_260 rfl ?_
                              refine B.icmp_ne 274 265 rfl (by decide) rfl at_262 (fun c262 => ?_) (fun c262 => ?_)
                              · exact absurd rfl c262
                              · refine B.aload 267 rfl at_265 rfl rfl ?_
                                refine B.iconst 268 rfl (3 : Int32) at_267 rfl ?_
                                refine B.baload 269 rfl at_268 A_ad_12 (by decide) 3 rfl (.int d3) rfl ?_
                                refine B.iload 271 rfl at_269 rfl ?_
                                refine B.icmp_eq 276 274 rfl (by decide) rfl at_271 (fun c271 => ?_) (fun c271 => ?_)
                                · refine B.aload 278 rfl at_276 rfl rfl ?_
                                  refine B.iconst 279 rfl (0 : Int32) at_278 rfl ?_
                                  refine B.baload 280 rfl at_279 A_r (by decide) 0 rfl (.int d0) rfl ?_
                                  refine B.iload 282 rfl at_280 rfl ?_
                                  refine B.iload 284 rfl at_282 rfl ?_
                                  refine B.iload 286 rfl at_284 rfl ?_
                                  refine B.callS 289 rfl at_286 (wd hw 20 rfl) (wd hw 21 rfl) (wd hw 22 rfl) (wd hw 23 rfl) (by decide) [(.int (0 : Int32)), (.int o0), (.int d0)] [(.int d0)] (rm_exp0 l Z a0 hw o0 d0 h_r b_d0) rfl rfl pd__IBB_B rfl rfl 1 rfl (by decide) (by decide) (by decide) (by decide) (fun _ q => nomatch q) ?_
                                  rintro _ _ - ⟨rfl, rfl⟩
                                  show B.G h_r 4 12 (mkF m 289 #[.val (.int p1), .val (.int p2), .val (.int p3), .val (.int p4), .val (.int (0 : Int32)), .val (.ref a_REPLACE), .val (.int o0), .val (.int o1), .val (.int o2), .val (.int o3), .val (.int d0), .val (.int d1), .val (.int d2), .val (.int d3), .val (.ref ao), .val (.ref ad), .val (.ref az), .val (.ref az), .val (.ref r)] [(.int d0), (.int d0)])
                                  refine B.icmp_ne 344 292 rfl (by decide) rfl at_289 (fun c289 => ?_) (fun c289 => ?_)
                                  · exact absurd rfl c289
                                  · refine B.aload 294 rfl at_292 rfl rfl ?_
                                    refine B.iconst 295 rfl (1 : Int32) at_294 rfl ?_
                                    refine B.baload 296 rfl at_295 A_r (by decide) 1 rfl (.int d1) rfl ?_
                                    refine B.iload 298 rfl at_296 rfl ?_
                                    refine B.iload 300 rfl at_298 rfl ?_
                                    refine B.iload 302 rfl at_300 rfl ?_
                                    refine B.callS 305 rfl at_302 (wd hw 20 rfl) (wd hw 21 rfl) (wd hw 22 rfl) (wd hw 23 rfl) (by decide) [(.int (0 : Int32)), (.int o1), (.int d1)] [(.int d1)] (rm_exp0 l Z a0 hw o1 d1 h_r b_d1) rfl rfl pd__IBB_B rfl rfl 1 rfl (by decide) (by decide) (by decide) (by decide) (fun _ q => nomatch q) ?_
                                    rintro _ _ - ⟨rfl, rfl⟩
                                    show B.G h_r 4 12 (mkF m 305 #[.val (.int p1), .val (.int p2), .val (.int p3), .val (.int p4), .val (.int (0 : Int32)), .val (.ref a_REPLACE), .val (.int o0), .val (.int o1), .val (.int o2), .val (.int o3), .val (.int d0), .val (.int d1), .val (.int d2), .val (.int d3), .val (.ref ao), .val (.ref ad), .val (.ref az), .val (.ref az), .val (.ref r)] [(.int d1), (.int d1)])
                                    refine B.icmp_ne 344 308 rfl (by decide) rfl at_305 (fun c305 => ?_) (fun c305 => ?_)
                                    · exact absurd rfl c305
                                    · refine B.aload 310 rfl at_308 rfl rfl ?_
                                      refine B.iconst 311 rfl (2 : Int32) at_310 rfl ?_
                                      refine B.baload 312 rfl at_311 A_r (by decide) 2 rfl (.int d2) rfl ?_
                                      refine B.iload 314 rfl at_312 rfl ?_
                                      refine B.iload 316 rfl at_314 rfl ?_
                                      refine B.iload 318 rfl at_316 rfl ?_
                                      refine B.callS 321 rfl at_318 (wd hw 20 rfl) (wd hw 21 rfl) (wd hw 22 rfl) (wd hw 23 rfl) (by decide) [(.int (0 : Int32)), (.int o2), (.int d2)] [(.int d2)] (rm_exp0 l Z a0 hw o2 d2 h_r b_d2) rfl rfl pd__IBB_B rfl rfl 1 rfl (by decide) (by decide) (by decide) (by decide) (fun _ q => nomatch q) ?_
                                      rintro _ _ - ⟨rfl, rfl⟩
                                      show B.G h_r 4 12 (mkF m 321 #[.val (.int p1), .val (.int p2), .val (.int p3), .val (.int p4), .val (.int (0 : Int32)), .val (.ref a_REPLACE), .val (.int o0), .val (.int o1), .val (.int o2), .val (.int o3), .val (.int d0), .val (.int d1), .val (.int d2), .val (.int d3), .val (.ref ao), .val (.ref ad), .val (.ref az), .val (.ref az), .val (.ref r)] [(.int d2), (.int d2)])
                                      refine B.icmp_ne 344 324 rfl (by decide) rfl at_321 (fun c321 => ?_) (fun c321 => ?_)
                                      · exact absurd rfl c321
                                      · refine B.aload 326 rfl at_324 rfl rfl ?_
                                        refine B.iconst 327 rfl (3 : Int32) at_326 rfl ?_
                                        refine B.baload 328 rfl at_327 A_r (by decide) 3 rfl (.int d3) rfl ?_
                                        refine B.iload 330 rfl at_328 rfl ?_
                                        refine B.iload 332 rfl at_330 rfl ?_
                                        refine B.iload 334 rfl at_332 rfl ?_
                                        refine B.callS 337 rfl at_334 (wd hw 20 rfl) (wd hw 21 rfl) (wd hw 22 rfl) (wd hw 23 rfl) (by decide) [(.int (0 : Int32)), (.int o3), (.int d3)] [(.int d3)] (rm_exp0 l Z a0 hw o3 d3 h_r b_d3) rfl rfl pd__IBB_B rfl rfl 1 rfl (by decide) (by decide) (by decide) (by decide) (fun _ q => nomatch q) ?_
                                        rintro _ _ - ⟨rfl, rfl⟩
                                        show B.G h_r 4 12 (mkF m 337 #[.val (.int p1), .val (.int p2), .val (.int p3), .val (.int p4), .val (.int (0 : Int32)), .val (.ref a_REPLACE), .val (.int o0), .val (.int o1), .val (.int o2), .val (.int o3), .val (.int d0), .val (.int d1), .val (.int d2), .val (.int d3), .val (.ref ao), .val (.ref ad), .val (.ref az), .val (.ref az), .val (.ref r)] [(.int d3), (.int d3)])
                                        refine B.icmp_ne 344 340 rfl (by decide) rfl at_337 (fun c337 => ?_) (fun c337 => ?_)
                                        · exact absurd rfl c337
                                        · refine B.iconst 341 rfl (1 : Int32) at_340 rfl ?_
                                          refine B.goto 345 rfl (by decide) at_341 ?_
                                          refine B.retN (by simp) at_345 (by decide) (by decide) ?_
                                          exact rfl
                                · exact absurd rfl c271
                        · exact absurd rfl c233
                · exact absurd c195 (by decide)
  · refine B.istore 8 rfl at_6 #[.val (.int p1), .val (.int p2), .val (.int p3), .val (.int p4), .val (.int (1 : Int32)), .unset, .unset, .unset, .unset, .unset, .unset, .unset, .unset, .unset, .unset, .unset, .unset, .unset, .unset] rfl ?_
    refine B.iload 10 rfl at_8 rfl ?_
    refine B.if0_ne 19 13 rfl (by decide) rfl at_10 (fun c10 => ?_) (fun c10 => ?_)
    · refine B.iload 21 rfl at_19 rfl ?_
      refine B.iconst 22 rfl (1 : Int32) at_21 rfl ?_
      refine B.icmp_ne 31 25 rfl (by decide) rfl at_22 (fun c22 => ?_) (fun c22 => ?_)
      · exact absurd c22 (by decide)
      · refine B.getS 28 rfl at_25 (wd hw 24 rfl) S_OR ?_
        refine B.goto 34 rfl (by decide) at_28 ?_
        refine B.astore 36 rfl at_34 rfl #[.val (.int p1), .val (.int p2), .val (.int p3), .val (.int p4), .val (.int (1 : Int32)), .val (.ref a_OR), .unset, .unset, .unset, .unset, .unset, .unset, .unset, .unset, .unset, .unset, .unset, .unset, .unset] rfl ?_
        refine B.iloadN 37 rfl at_36 rfl ?_
        refine B.i2b 38 rfl at_37 ?_
        have b_o0 := own_bb (p2)
        generalize (p2).toInt8.toInt32 = o0 at b_o0 ⊢
        refine B.istore 40 rfl at_38 #[.val (.int p1), .val (.int p2), .val (.int p3), .val (.int p4), .val (.int (1 : Int32)), .val (.ref a_OR), .val (.int o0), .unset, .unset, .unset, .unset, .unset, .unset, .unset, .unset, .unset, .unset, .unset, .unset] rfl ?_
        refine B.iloadN 41 rfl at_40 rfl ?_
        refine B.bipush 43 rfl (8 : Int32) at_41 rfl ?_
        refine B.ishr 44 rfl at_43 ?_
        refine B.i2b 45 rfl at_44 ?_
        have b_o1 := own_bb ((p2 >>> ((8 : Int32) &&& 31)))
        generalize ((p2 >>> ((8 : Int32) &&& 31))).toInt8.toInt32 = o1 at b_o1 ⊢
        refine B.istore 47 rfl at_45 #[.val (.int p1), .val (.int p2), .val (.int p3), .val (.int p4), .val (.int (1 : Int32)), .val (.ref a_OR), .val (.int o0), .val (.int o1), .unset, .unset, .unset, .unset, .unset, .unset, .unset, .unset, .unset, .unset, .unset] rfl ?_
        refine B.iloadN 48 rfl at_47 rfl ?_
        refine B.bipush 50 rfl (16 : Int32) at_48 rfl ?_
        refine B.ishr 51 rfl at_50 ?_
        refine B.i2b 52 rfl at_51 ?_
        have b_o2 := own_bb ((p2 >>> ((16 : Int32) &&& 31)))
        generalize ((p2 >>> ((16 : Int32) &&& 31))).toInt8.toInt32 = o2 at b_o2 ⊢
        refine B.istore 54 rfl at_52 #[.val (.int p1), .val (.int p2), .val (.int p3), .val (.int p4), .val (.int (1 : Int32)), .val (.ref a_OR), .val (.int o0), .val (.int o1), .val (.int o2), .unset, .unset, .unset, .unset, .unset, .unset, .unset, .unset, .unset, .unset] rfl ?_
        refine B.iloadN 55 rfl at_54 rfl ?_
        refine B.bipush 57 rfl (24 : Int32) at_55 rfl ?_
        refine B.ishr 58 rfl at_57 ?_
        refine B.i2b 59 rfl at_58 ?_
        have b_o3 := own_bb ((p2 >>> ((24 : Int32) &&& 31)))
        generalize ((p2 >>> ((24 : Int32) &&& 31))).toInt8.toInt32 = o3 at b_o3 ⊢
        refine B.istore 61 rfl at_59 #[.val (.int p1), .val (.int p2), .val (.int p3), .val (.int p4), .val (.int (1 : Int32)), .val (.ref a_OR), .val (.int o0), .val (.int o1), .val (.int o2), .val (.int o3), .unset, .unset, .unset, .unset, .unset, .unset, .unset, .unset, .unset] rfl ?_
        refine B.iloadN 62 rfl at_61 rfl ?_
        refine B.i2b 63 rfl at_62 ?_
        have b_d0 := own_bb (p3)
        generalize (p3).toInt8.toInt32 = d0 at b_d0 ⊢
        refine B.istore 65 rfl at_63 #[.val (.int p1), .val (.int p2), .val (.int p3), .val (.int p4), .val (.int (1 : Int32)), .val (.ref a_OR), .val (.int o0), .val (.int o1), .val (.int o2), .val (.int o3), .val (.int d0), .unset, .unset, .unset, .unset, .unset, .unset, .unset, .unset] rfl ?_
        refine B.iloadN 66 rfl at_65 rfl ?_
        refine B.bipush 68 rfl (8 : Int32) at_66 rfl ?_
        refine B.ishr 69 rfl at_68 ?_
        refine B.i2b 70 rfl at_69 ?_
        have b_d1 := own_bb ((p3 >>> ((8 : Int32) &&& 31)))
        generalize ((p3 >>> ((8 : Int32) &&& 31))).toInt8.toInt32 = d1 at b_d1 ⊢
        refine B.istore 72 rfl at_70 #[.val (.int p1), .val (.int p2), .val (.int p3), .val (.int p4), .val (.int (1 : Int32)), .val (.ref a_OR), .val (.int o0), .val (.int o1), .val (.int o2), .val (.int o3), .val (.int d0), .val (.int d1), .unset, .unset, .unset, .unset, .unset, .unset, .unset] rfl ?_
        refine B.iloadN 73 rfl at_72 rfl ?_
        refine B.bipush 75 rfl (16 : Int32) at_73 rfl ?_
        refine B.ishr 76 rfl at_75 ?_
        refine B.i2b 77 rfl at_76 ?_
        have b_d2 := own_bb ((p3 >>> ((16 : Int32) &&& 31)))
        generalize ((p3 >>> ((16 : Int32) &&& 31))).toInt8.toInt32 = d2 at b_d2 ⊢
        refine B.istore 79 rfl at_77 #[.val (.int p1), .val (.int p2), .val (.int p3), .val (.int p4), .val (.int (1 : Int32)), .val (.ref a_OR), .val (.int o0), .val (.int o1), .val (.int o2), .val (.int o3), .val (.int d0), .val (.int d1), .val (.int d2), .unset, .unset, .unset, .unset, .unset, .unset] rfl ?_
        refine B.iloadN 80 rfl at_79 rfl ?_
        refine B.bipush 82 rfl (24 : Int32) at_80 rfl ?_
        refine B.ishr 83 rfl at_82 ?_
        refine B.i2b 84 rfl at_83 ?_
        have b_d3 := own_bb ((p3 >>> ((24 : Int32) &&& 31)))
        generalize ((p3 >>> ((24 : Int32) &&& 31))).toInt8.toInt32 = d3 at b_d3 ⊢
        refine B.istore 86 rfl at_84 #[.val (.int p1), .val (.int p2), .val (.int p3), .val (.int p4), .val (.int (1 : Int32)), .val (.ref a_OR), .val (.int o0), .val (.int o1), .val (.int o2), .val (.int o3), .val (.int d0), .val (.int d1), .val (.int d2), .val (.int d3), .unset, .unset, .unset, .unset, .unset] rfl ?_
        refine B.iconst 87 rfl (4 : Int32) at_86 rfl ?_
        refine B.newP 89 rfl at_87 (wd hw 4 rfl) (by decide) 4 (by decide) (by decide) (by decide) (by decide) ?_
        intro h_ao ao e_ao g_ao X_ao A_ao
        replace A_ao : Ary Z h_ao ao .byte [(.int (0 : Int32)), (.int (0 : Int32)), (.int (0 : Int32)), (.int (0 : Int32))] := A_ao
        show B.G h_ao 1 4 (mkF m 89 #[.val (.int p1), .val (.int p2), .val (.int p3), .val (.int p4), .val (.int (1 : Int32)), .val (.ref a_OR), .val (.int o0), .val (.int o1), .val (.int o2), .val (.int o3), .val (.int d0), .val (.int d1), .val (.int d2), .val (.int d3), .unset, .unset, .unset, .unset, .unset] [(.ref ao)])
        refine B.dup 90 rfl at_89 rfl ?_
        refine B.iconst 91 rfl (0 : Int32) at_90 rfl ?_
        refine B.iload 93 rfl at_91 rfl ?_
        refine B.bastore 94 rfl at_93 A_ao (by decide) 0 rfl (by simp) (Or.inr g_ao) ?_
        intro hs9 Ws9 As9
        rw [b_o0] at As9
        replace As9 : Ary Z hs9 ao .byte [(.int o0), (.int (0 : Int32)), (.int (0 : Int32)), (.int (0 : Int32))] := As9
        refine B.dup 95 rfl at_94 rfl ?_
        refine B.iconst 96 rfl (1 : Int32) at_95 rfl ?_
        refine B.iload 98 rfl at_96 rfl ?_
        refine B.bastore 99 rfl at_98 As9 (by decide) 1 rfl (by simp) (Or.inr g_ao) ?_
        intro hs10 Ws10 As10
        rw [b_o1] at As10
        replace As10 : Ary Z hs10 ao .byte [(.int o0), (.int o1), (.int (0 : Int32)), (.int (0 : Int32))] := As10
        refine B.dup 100 rfl at_99 rfl ?_
        refine B.iconst 101 rfl (2 : Int32) at_100 rfl ?_
        refine B.iload 103 rfl at_101 rfl ?_
        refine B.bastore 104 rfl at_103 As10 (by decide) 2 rfl (by simp) (Or.inr g_ao) ?_
        intro hs11 Ws11 As11
        rw [b_o2] at As11
        replace As11 : Ary Z hs11 ao .byte [(.int o0), (.int o1), (.int o2), (.int (0 : Int32))] := As11
        refine B.dup 105 rfl at_104 rfl ?_
        refine B.iconst 106 rfl (3 : Int32) at_105 rfl ?_
        refine B.iload 108 rfl at_106 rfl ?_
        refine B.bastore 109 rfl at_108 As11 (by decide) 3 rfl (by simp) (Or.inr g_ao) ?_
        intro hs12 Ws12 As12
        rw [b_o3] at As12
        replace As12 : Ary Z hs12 ao .byte [(.int o0), (.int o1), (.int o2), (.int o3)] := As12
        refine B.astore 111 rfl at_109 rfl #[.val (.int p1), .val (.int p2), .val (.int p3), .val (.int p4), .val (.int (1 : Int32)), .val (.ref a_OR), .val (.int o0), .val (.int o1), .val (.int o2), .val (.int o3), .val (.int d0), .val (.int d1), .val (.int d2), .val (.int d3), .val (.ref ao), .unset, .unset, .unset, .unset] rfl ?_
        refine B.iconst 112 rfl (4 : Int32) at_111 rfl ?_
        refine B.newPE 114 rfl at_112 (wd hw 4 rfl) (by decide) 4 (by decide) (by decide) (by decide) (by decide) "[B" rfl ?_
        intro h_ad ad e_ad g_ad X_ad A_ad E_ad
        replace A_ad : Ary Z h_ad ad .byte [(.int (0 : Int32)), (.int (0 : Int32)), (.int (0 : Int32)), (.int (0 : Int32))] := A_ad
        show B.G h_ad 2 8 (mkF m 114 #[.val (.int p1), .val (.int p2), .val (.int p3), .val (.int p4), .val (.int (1 : Int32)), .val (.ref a_OR), .val (.int o0), .val (.int o1), .val (.int o2), .val (.int o3), .val (.int d0), .val (.int d1), .val (.int d2), .val (.int d3), .val (.ref ao), .unset, .unset, .unset, .unset] [(.ref ad)])
        have n_ao_ad : ao ≠ ad := fun q => absurd As12.lt (by rw [q, e_ad]; exact Nat.lt_irrefl _)
        have A_ao_6 := As12.ext X_ad
        refine B.dup 115 rfl at_114 rfl ?_
        refine B.iconst 116 rfl (0 : Int32) at_115 rfl ?_
        refine B.iload 118 rfl at_116 rfl ?_
        refine B.bastore 119 rfl at_118 A_ad (by decide) 0 rfl (by simp) (Or.inr g_ad) ?_
        intro hs13 Ws13 As13
        rw [b_d0] at As13
        replace As13 : Ary Z hs13 ad .byte [(.int d0), (.int (0 : Int32)), (.int (0 : Int32)), (.int (0 : Int32))] := As13
        have A_ao_7 := A_ao_6.other Ws13 n_ao_ad
        have E_ad_7 := E_ad.wr Ws13
        refine B.dup 120 rfl at_119 rfl ?_
        refine B.iconst 121 rfl (1 : Int32) at_120 rfl ?_
        refine B.iload 123 rfl at_121 rfl ?_
        refine B.bastore 124 rfl at_123 As13 (by decide) 1 rfl (by simp) (Or.inr g_ad) ?_
        intro hs14 Ws14 As14
        rw [b_d1] at As14
        replace As14 : Ary Z hs14 ad .byte [(.int d0), (.int d1), (.int (0 : Int32)), (.int (0 : Int32))] := As14
        have A_ao_8 := A_ao_7.other Ws14 n_ao_ad
        have E_ad_8 := E_ad_7.wr Ws14
        refine B.dup 125 rfl at_124 rfl ?_
        refine B.iconst 126 rfl (2 : Int32) at_125 rfl ?_
        refine B.iload 128 rfl at_126 rfl ?_
        refine B.bastore 129 rfl at_128 As14 (by decide) 2 rfl (by simp) (Or.inr g_ad) ?_
        intro hs15 Ws15 As15
        rw [b_d2] at As15
        replace As15 : Ary Z hs15 ad .byte [(.int d0), (.int d1), (.int d2), (.int (0 : Int32))] := As15
        have A_ao_9 := A_ao_8.other Ws15 n_ao_ad
        have E_ad_9 := E_ad_8.wr Ws15
        refine B.dup 130 rfl at_129 rfl ?_
        refine B.iconst 131 rfl (3 : Int32) at_130 rfl ?_
        refine B.iload 133 rfl at_131 rfl ?_
        refine B.bastore 134 rfl at_133 As15 (by decide) 3 rfl (by simp) (Or.inr g_ad) ?_
        intro hs16 Ws16 As16
        rw [b_d3] at As16
        replace As16 : Ary Z hs16 ad .byte [(.int d0), (.int d1), (.int d2), (.int d3)] := As16
        have A_ao_10 := A_ao_9.other Ws16 n_ao_ad
        have E_ad_10 := E_ad_9.wr Ws16
        refine B.astore 136 rfl at_134 rfl #[.val (.int p1), .val (.int p2), .val (.int p3), .val (.int p4), .val (.int (1 : Int32)), .val (.ref a_OR), .val (.int o0), .val (.int o1), .val (.int o2), .val (.int o3), .val (.int d0), .val (.int d1), .val (.int d2), .val (.int d3), .val (.ref ao), .val (.ref ad), .unset, .unset, .unset] rfl ?_
        refine B.iconst 137 rfl (0 : Int32) at_136 rfl ?_
        refine B.newP 139 rfl at_137 (wd hw 4 rfl) (by decide) 0 (by decide) (by decide) (by decide) (by decide) ?_
        intro h_az az e_az g_az X_az A_az
        replace A_az : Ary Z h_az az .byte [] := A_az
        show B.G h_az 3 8 (mkF m 139 #[.val (.int p1), .val (.int p2), .val (.int p3), .val (.int p4), .val (.int (1 : Int32)), .val (.ref a_OR), .val (.int o0), .val (.int o1), .val (.int o2), .val (.int o3), .val (.int d0), .val (.int d1), .val (.int d2), .val (.int d3), .val (.ref ao), .val (.ref ad), .unset, .unset, .unset] [(.ref az)])
        have n_ad_az : ad ≠ az := fun q => absurd E_ad_10.lt (by rw [q, e_az]; exact Nat.lt_irrefl _)
        have n_ao_az : ao ≠ az := fun q => absurd A_ao_10.lt (by rw [q, e_az]; exact Nat.lt_irrefl _)
        have A_ao_11 := A_ao_10.ext X_az
        have E_ad_11 := E_ad_10.ext X_az
        have A_ad_11 := As16.ext X_az
        refine B.astore 141 rfl at_139 rfl #[.val (.int p1), .val (.int p2), .val (.int p3), .val (.int p4), .val (.int (1 : Int32)), .val (.ref a_OR), .val (.int o0), .val (.int o1), .val (.int o2), .val (.int o3), .val (.int d0), .val (.int d1), .val (.int d2), .val (.int d3), .val (.ref ao), .val (.ref ad), .val (.ref az), .unset, .unset] rfl ?_
        refine B.iload 143 rfl at_141 rfl ?_
        refine B.if0_ne 157 146 rfl (by decide) rfl at_143 (fun c143 => ?_) (fun c143 => ?_)
        · refine B.aload 159 rfl at_157 rfl rfl ?_
          refine B.astore 161 rfl at_159 rfl #[.val (.int p1), .val (.int p2), .val (.int p3), .val (.int p4), .val (.int (1 : Int32)), .val (.ref a_OR), .val (.int o0), .val (.int o1), .val (.int o2), .val (.int o3), .val (.int d0), .val (.int d1), .val (.int d2), .val (.int d3), .val (.ref ao), .val (.ref ad), .val (.ref az), .val (.ref ao), .unset] rfl ?_
          refine B.olds fun X => ?_
          have EO := E_OR.ext X
          have S9_REPLACE := S_REPLACE.ext X
          have S9_OR := S_OR.ext X
          have hfit : ∀ v ∈ ([(.int d0), (.int d1), (.int d2), (.int d3)] : List Value), fits .byte v = true := by
            intro v hv
            simp only [List.mem_cons, List.not_mem_nil, or_false] at hv
            rcases hv with rfl | rfl | rfl | rfl
            · exact own_fb b_d0
            · exact own_fb b_d1
            · exact own_fb b_d2
            · exact own_fb b_d3
          refine B.aload 163 rfl at_161 rfl rfl ?_
          refine B.aload 165 rfl at_163 rfl rfl ?_
          refine B.aload 167 rfl at_165 rfl rfl ?_
          refine B.callV 170 rfl at_167 (wd hw 5 rfl) (wd hw 6 rfl) (wd hw 8 rfl) (wd hw 7 rfl) (wd hw 2 rfl) (wd hw 9 rfl) (by decide) EO [(.ref ao), (.ref ad)] [] (rm_apply1 l Z a0 hw a_REPLACE a_OR ao ad d0 d1 d2 d3 o0 o1 o2 o3 h_az S9_REPLACE S9_OR A_ad_11 E_ad_11 hfit x_OR_R A_ao_11) rfl rfl pd___B_B__B rfl rfl 0 rfl (by decide) (by decide) (by decide) (by decide) (fun _ q => nomatch q) ?_
          rintro _ h_r K_r ⟨r, rfl, g_r, A_r⟩
          show B.G h_r 4 12 (mkF m 170 #[.val (.int p1), .val (.int p2), .val (.int p3), .val (.int p4), .val (.int (1 : Int32)), .val (.ref a_OR), .val (.int o0), .val (.int o1), .val (.int o2), .val (.int o3), .val (.int d0), .val (.int d1), .val (.int d2), .val (.int d3), .val (.ref ao), .val (.ref ad), .val (.ref az), .val (.ref ao), .unset] [(.ref r)])
          have n_ao_r : ao ≠ r := fun q => absurd A_ao_11.lt (by rw [q]; exact Nat.not_lt.mpr g_r)
          have n_ad_r : ad ≠ r := fun q => absurd A_ad_11.lt (by rw [q]; exact Nat.not_lt.mpr g_r)
          have A_ao_12 := A_ao_11.keep K_r nin0
          have E_ad_12 := E_ad_11.keep K_r
          have A_ad_12 := A_ad_11.keep K_r nin0
          have A_az_12 := A_az.keep K_r nin0
          refine B.astore 172 rfl at_170 rfl #[.val (.int p1), .val (.int p2), .val (.int p3), .val (.int p4), .val (.int (1 : Int32)), .val (.ref a_OR), .val (.int o0), .val (.int o1), .val (.int o2), .val (.int o3), .val (.int d0), .val (.int d1), .val (.int d2), .val (.int d3), .val (.ref ao), .val (.ref ad), .val (.ref az), .val (.ref ao), .val (.ref r)] rfl ?_
          refine B.aload 174 rfl at_172 rfl rfl ?_
          refine B.ifnull 198 177 rfl (by decide) rfl at_174 rfl (fun c174 => ?_) (fun c174 => ?_)
          · exact absurd c174 (by simp)
          · refine B.aload 179 rfl at_177 rfl rfl ?_
            refine B.aload 181 rfl at_179 rfl rfl ?_
            refine B.acmp_eq 198 184 rfl (by decide) rfl at_181 rfl rfl (fun c181 => ?_) (fun c181 => ?_)
            · exact absurd (Value.ref.inj c181).symm n_ad_r
            · refine B.aload 186 rfl at_184 rfl rfl ?_
              refine B.aload 188 rfl at_186 rfl rfl ?_
              refine B.acmp_eq 198 191 rfl (by decide) rfl at_188 rfl rfl (fun c188 => ?_) (fun c188 => ?_)
              · exact absurd (Value.ref.inj c188).symm n_ao_r
              · refine B.aload 193 rfl at_191 rfl rfl ?_
                refine B.arrlen 194 rfl at_193 A_r (4 : Int32) rfl ?_
                refine B.iconst 195 rfl (4 : Int32) at_194 rfl ?_
                refine B.icmp_eq 200 198 rfl (by decide) rfl at_195 (fun c195 => ?_) (fun c195 => ?_)
                · refine B.aload 202 rfl at_200 rfl rfl ?_
                  refine B.iconst 203 rfl (0 : Int32) at_202 rfl ?_
                  refine B.baload 204 rfl at_203 A_ao_12 (by decide) 0 rfl (.int o0) rfl ?_
                  refine B.iload 206 rfl at_204 rfl ?_
                  refine B.icmp_ne 236 209 rfl (by decide) rfl at_206 (fun c206 => ?_) (fun c206 => ?_)
                  · exact absurd rfl c206
                  · refine B.aload 211 rfl at_209 rfl rfl ?_
                    refine B.iconst 212 rfl (1 : Int32) at_211 rfl ?_
                    refine B.baload 213 rfl at_212 A_ao_12 (by decide) 1 rfl (.int o1) rfl ?_
                    refine B.iload 215 rfl at_213 rfl ?_
                    refine B.icmp_ne 236 218 rfl (by decide) rfl at_215 (fun c215 => ?_) (fun c215 => ?_)
                    · exact absurd rfl c215
                    · refine B.aload 220 rfl at_218 rfl rfl ?_
                      refine B.iconst 221 rfl (2 : Int32) at_220 rfl ?_
                      refine B.baload 222 rfl at_221 A_ao_12 (by decide) 2 rfl (.int o2) rfl ?_
                      refine B.iload 224 rfl at_222 rfl ?_
                      refine B.icmp_ne 236 227 rfl (by decide) rfl at_224 (fun c224 => ?_) (fun c224 => ?_)
                      · exact absurd rfl c224
                      · refine B.aload 229 rfl at_227 rfl rfl ?_
                        refine B.iconst 230 rfl (3 : Int32) at_229 rfl ?_
                        refine B.baload 231 rfl at_230 A_ao_12 (by decide) 3 rfl (.int o3) rfl ?_
                        refine B.iload 233 rfl at_231 rfl ?_
                        refine B.icmp_eq 238 236 rfl (by decide) rfl at_233 (fun c233 => ?_) (fun c233 => ?_)
                        · refine B.aload 240 rfl at_238 rfl rfl ?_
                          refine B.iconst 241 rfl (0 : Int32) at_240 rfl ?_
                          refine B.baload 242 rfl at_241 A_ad_12 (by decide) 0 rfl (.int d0) rfl ?_
                          refine B.iload 244 rfl at_242 rfl ?_
                          refine B.icmp_ne 274 247 rfl (by decide) rfl at_244 (fun c244 => ?_) (fun c244 => ?_)
                          · exact absurd rfl c244
                          · refine B.aload 249 rfl at_247 rfl rfl ?_
                            refine B.iconst 250 rfl (1 : Int32) at_249 rfl ?_
                            refine B.baload 251 rfl at_250 A_ad_12 (by decide) 1 rfl (.int d1) rfl ?_
                            refine B.iload 253 rfl at_251 rfl ?_
                            refine B.icmp_ne 274 256 rfl (by decide) rfl at_253 (fun c253 => ?_) (fun c253 => ?_)
                            · exact absurd rfl c253
                            · refine B.aload 258 rfl at_256 rfl rfl ?_
                              refine B.iconst 259 rfl (2 : Int32) at_258 rfl ?_
                              refine B.baload 260 rfl at_259 A_ad_12 (by decide) 2 rfl (.int d2) rfl ?_
                              refine B.iload 262 rfl at_260 rfl ?_
                              refine B.icmp_ne 274 265 rfl (by decide) rfl at_262 (fun c262 => ?_) (fun c262 => ?_)
                              · exact absurd rfl c262
                              · refine B.aload 267 rfl at_265 rfl rfl ?_
                                refine B.iconst 268 rfl (3 : Int32) at_267 rfl ?_
                                refine B.baload 269 rfl at_268 A_ad_12 (by decide) 3 rfl (.int d3) rfl ?_
                                refine B.iload 271 rfl at_269 rfl ?_
                                refine B.icmp_eq 276 274 rfl (by decide) rfl at_271 (fun c271 => ?_) (fun c271 => ?_)
                                · refine B.aload 278 rfl at_276 rfl rfl ?_
                                  refine B.iconst 279 rfl (0 : Int32) at_278 rfl ?_
                                  refine B.baload 280 rfl at_279 A_r (by decide) 0 rfl (.int ((o0 ||| d0).toInt8.toInt32)) rfl ?_
                                  refine B.iload 282 rfl at_280 rfl ?_
                                  refine B.iload 284 rfl at_282 rfl ?_
                                  refine B.iload 286 rfl at_284 rfl ?_
                                  refine B.callS 289 rfl at_286 (wd hw 20 rfl) (wd hw 21 rfl) (wd hw 22 rfl) (wd hw 23 rfl) (by decide) [(.int (1 : Int32)), (.int o0), (.int d0)] [(.int ((o0 ||| d0).toInt8.toInt32))] (rm_exp1 l Z a0 hw o0 d0 h_r b_d0) rfl rfl pd__IBB_B rfl rfl 1 rfl (by decide) (by decide) (by decide) (by decide) (fun _ q => nomatch q) ?_
                                  rintro _ _ - ⟨rfl, rfl⟩
                                  show B.G h_r 4 12 (mkF m 289 #[.val (.int p1), .val (.int p2), .val (.int p3), .val (.int p4), .val (.int (1 : Int32)), .val (.ref a_OR), .val (.int o0), .val (.int o1), .val (.int o2), .val (.int o3), .val (.int d0), .val (.int d1), .val (.int d2), .val (.int d3), .val (.ref ao), .val (.ref ad), .val (.ref az), .val (.ref ao), .val (.ref r)] [(.int ((o0 ||| d0).toInt8.toInt32)), (.int ((o0 ||| d0).toInt8.toInt32))])
                                  refine B.icmp_ne 344 292 rfl (by decide) rfl at_289 (fun c289 => ?_) (fun c289 => ?_)
                                  · exact absurd rfl c289
                                  · refine B.aload 294 rfl at_292 rfl rfl ?_
                                    refine B.iconst 295 rfl (1 : Int32) at_294 rfl ?_
                                    refine B.baload 296 rfl at_295 A_r (by decide) 1 rfl (.int ((o1 ||| d1).toInt8.toInt32)) rfl ?_
                                    refine B.iload 298 rfl at_296 rfl ?_
                                    refine B.iload 300 rfl at_298 rfl ?_
                                    refine B.iload 302 rfl at_300 rfl ?_
                                    refine B.callS 305 rfl at_302 (wd hw 20 rfl) (wd hw 21 rfl) (wd hw 22 rfl) (wd hw 23 rfl) (by decide) [(.int (1 : Int32)), (.int o1), (.int d1)] [(.int ((o1 ||| d1).toInt8.toInt32))] (rm_exp1 l Z a0 hw o1 d1 h_r b_d1) rfl rfl pd__IBB_B rfl rfl 1 rfl (by decide) (by decide) (by decide) (by decide) (fun _ q => nomatch q) ?_
                                    rintro _ _ - ⟨rfl, rfl⟩
                                    show B.G h_r 4 12 (mkF m 305 #[.val (.int p1), .val (.int p2), .val (.int p3), .val (.int p4), .val (.int (1 : Int32)), .val (.ref a_OR), .val (.int o0), .val (.int o1), .val (.int o2), .val (.int o3), .val (.int d0), .val (.int d1), .val (.int d2), .val (.int d3), .val (.ref ao), .val (.ref ad), .val (.ref az), .val (.ref ao), .val (.ref r)] [(.int ((o1 ||| d1).toInt8.toInt32)), (.int ((o1 ||| d1).toInt8.toInt32))])
                                    refine B.icmp_ne 344 308 rfl (by decide) rfl at_305 (fun c305 => ?_) (fun c305 => ?_)
                                    · exact absurd rfl c305
                                    · refine B.aload 310 rfl at_308 rfl rfl ?_
                                      refine B.iconst 311 rfl (2 : Int32) at_310 rfl ?_
                                      refine B.baload 312 rfl at_311 A_r (by decide) 2 rfl (.int ((o2 ||| d2).toInt8.toInt32)) rfl ?_
                                      refine B.iload 314 rfl at_312 rfl ?_
                                      refine B.iload 316 rfl at_314 rfl ?_
                                      refine B.iload 318 rfl at_316 rfl ?_
                                      refine B.callS 321 rfl at_318 (wd hw 20 rfl) (wd hw 21 rfl) (wd hw 22 rfl) (wd hw 23 rfl) (by decide) [(.int (1 : Int32)), (.int o2), (.int d2)] [(.int ((o2 ||| d2).toInt8.toInt32))] (rm_exp1 l Z a0 hw o2 d2 h_r b_d2) rfl rfl pd__IBB_B rfl rfl 1 rfl (by decide) (by decide) (by decide) (by decide) (fun _ q => nomatch q) ?_
                                      rintro _ _ - ⟨rfl, rfl⟩
                                      show B.G h_r 4 12 (mkF m 321 #[.val (.int p1), .val (.int p2), .val (.int p3), .val (.int p4), .val (.int (1 : Int32)), .val (.ref a_OR), .val (.int o0), .val (.int o1), .val (.int o2), .val (.int o3), .val (.int d0), .val (.int d1), .val (.int d2), .val (.int d3), .val (.ref ao), .val (.ref ad), .val (.ref az), .val (.ref ao), .val (.ref r)] [(.int ((o2 ||| d2).toInt8.toInt32)), (.int ((o2 ||| d2).toInt8.toInt32))])
                                      refine B.icmp_ne 344 324 rfl (by decide) rfl at_321 (fun c321 => ?_) (fun c321 => ?_)
                                      · exact absurd rfl c321
                                      · refine B.aload 326 rfl at_324 rfl rfl ?_
                                        refine B.iconst 327 rfl (3 : Int32) at_326 rfl ?_
                                        refine B.baload 328 rfl at_327 A_r (by decide) 3 rfl (.int ((o3 ||| d3).toInt8.toInt32)) rfl ?_
                                        refine B.iload 330 rfl at_328 rfl ?_
                                        refine B.iload 332 rfl at_330 rfl ?_
                                        refine B.iload 334 rfl at_332 rfl ?_
                                        refine B.callS 337 rfl at_334 (wd hw 20 rfl) (wd hw 21 rfl) (wd hw 22 rfl) (wd hw 23 rfl) (by decide) [(.int (1 : Int32)), (.int o3), (.int d3)] [(.int ((o3 ||| d3).toInt8.toInt32))] (rm_exp1 l Z a0 hw o3 d3 h_r b_d3) rfl rfl pd__IBB_B rfl rfl 1 rfl (by decide) (by decide) (by decide) (by decide) (fun _ q => nomatch q) ?_
                                        rintro _ _ - ⟨rfl, rfl⟩
                                        show B.G h_r 4 12 (mkF m 337 #[.val (.int p1), .val (.int p2), .val (.int p3), .val (.int p4), .val (.int (1 : Int32)), .val (.ref a_OR), .val (.int o0), .val (.int o1), .val (.int o2), .val (.int o3), .val (.int d0), .val (.int d1), .val (.int d2), .val (.int d3), .val (.ref ao), .val (.ref ad), .val (.ref az), .val (.ref ao), .val (.ref r)] [(.int ((o3 ||| d3).toInt8.toInt32)), (.int ((o3 ||| d3).toInt8.toInt32))])
                                        refine B.icmp_ne 344 340 rfl (by decide) rfl at_337 (fun c337 => ?_) (fun c337 => ?_)
                                        · exact absurd rfl c337
                                        · refine B.iconst 341 rfl (1 : Int32) at_340 rfl ?_
                                          refine B.goto 345 rfl (by decide) at_341 ?_
                                          refine B.retN (by simp) at_345 (by decide) (by decide) ?_
                                          exact rfl
                                · exact absurd rfl c271
                        · exact absurd rfl c233
                · exact absurd c195 (by decide)
        · exact absurd c143 (by decide)
    · exact absurd c10 (by decide)
  · refine B.istore 8 rfl at_6 #[.val (.int p1), .val (.int p2), .val (.int p3), .val (.int p4), .val (.int (2 : Int32)), .unset, .unset, .unset, .unset, .unset, .unset, .unset, .unset, .unset, .unset, .unset, .unset, .unset, .unset] rfl ?_
    refine B.iload 10 rfl at_8 rfl ?_
    refine B.if0_ne 19 13 rfl (by decide) rfl at_10 (fun c10 => ?_) (fun c10 => ?_)
    · refine B.iload 21 rfl at_19 rfl ?_
      refine B.iconst 22 rfl (1 : Int32) at_21 rfl ?_
      refine B.icmp_ne 31 25 rfl (by decide) rfl at_22 (fun c22 => ?_) (fun c22 => ?_)
      · refine B.getS 34 rfl at_31 (wd hw 27 rfl) S_AND ?_
        refine B.astore 36 rfl at_34 rfl #[.val (.int p1), .val (.int p2), .val (.int p3), .val (.int p4), .val (.int (2 : Int32)), .val (.ref a_AND), .unset, .unset, .unset, .unset, .unset, .unset, .unset, .unset, .unset, .unset, .unset, .unset, .unset] rfl ?_
        refine B.iloadN 37 rfl at_36 rfl ?_
        refine B.i2b 38 rfl at_37 ?_
        have b_o0 := own_bb (p2)
        generalize (p2).toInt8.toInt32 = o0 at b_o0 ⊢
        refine B.istore 40 rfl at_38 #[.val (.int p1), .val (.int p2), .val (.int p3), .val (.int p4), .val (.int (2 : Int32)), .val (.ref a_AND), .val (.int o0), .unset, .unset, .unset, .unset, .unset, .unset, .unset, .unset, .unset, .unset, .unset, .unset] rfl ?_
        refine B.iloadN 41 rfl at_40 rfl ?_
        refine B.bipush 43 rfl (8 : Int32) at_41 rfl ?_
        refine B.ishr 44 rfl at_43 ?_
        refine B.i2b 45 rfl at_44 ?_
        have b_o1 := own_bb ((p2 >>> ((8 : Int32) &&& 31)))
        generalize ((p2 >>> ((8 : Int32) &&& 31))).toInt8.toInt32 = o1 at b_o1 ⊢
        refine B.istore 47 rfl at_45 #[.val (.int p1), .val (.int p2), .val (.int p3), .val (.int p4), .val (.int (2 : Int32)), .val (.ref a_AND), .val (.int o0), .val (.int o1), .unset, .unset, .unset, .unset, .unset, .unset, .unset, .unset, .unset, .unset, .unset] rfl ?_
        refine B.iloadN 48 rfl at_47 rfl ?_
        refine B.bipush 50 rfl (16 : Int32) at_48 rfl ?_
        refine B.ishr 51 rfl at_50 ?_
        refine B.i2b 52 rfl at_51 ?_
        have b_o2 := own_bb ((p2 >>> ((16 : Int32) &&& 31)))
        generalize ((p2 >>> ((16 : Int32) &&& 31))).toInt8.toInt32 = o2 at b_o2 ⊢
        refine B.istore 54 rfl at_52 #[.val (.int p1), .val (.int p2), .val (.int p3), .val (.int p4), .val (.int (2 : Int32)), .val (.ref a_AND), .val (.int o0), .val (.int o1), .val (.int o2), .unset, .unset, .unset, .unset, .unset, .unset, .unset, .unset, .unset, .unset] rfl ?_
        refine B.iloadN 55 rfl at_54 rfl ?_
        refine B.bipush 57 rfl (24 : Int32) at_55 rfl ?_
        refine B.ishr 58 rfl at_57 ?_
        refine B.i2b 59 rfl at_58 ?_
        have b_o3 := own_bb ((p2 >>> ((24 : Int32) &&& 31)))
        generalize ((p2 >>> ((24 : Int32) &&& 31))).toInt8.toInt32 = o3 at b_o3 ⊢
        refine B.istore 61 rfl at_59 #[.val (.int p1), .val (.int p2), .val (.int p3), .val (.int p4), .val (.int (2 : Int32)), .val (.ref a_AND), .val (.int o0), .val (.int o1), .val (.int o2), .val (.int o3), .unset, .unset, .unset, .unset, .unset, .unset, .unset, .unset, .unset] rfl ?_
        refine B.iloadN 62 rfl at_61 rfl ?_
        refine B.i2b 63 rfl at_62 ?_
        have b_d0 := own_bb (p3)
        generalize (p3).toInt8.toInt32 = d0 at b_d0 ⊢
        refine B.istore 65 rfl at_63 #[.val (.int p1), .val (.int p2), .val (.int p3), .val (.int p4), .val (.int (2 : Int32)), .val (.ref a_AND), .val (.int o0), .val (.int o1), .val (.int o2), .val (.int o3), .val (.int d0), .unset, .unset, .unset, .unset, .unset, .unset, .unset, .unset] rfl ?_
        refine B.iloadN 66 rfl at_65 rfl ?_
        refine B.bipush 68 rfl (8 : Int32) at_66 rfl ?_
        refine B.ishr 69 rfl at_68 ?_
        refine B.i2b 70 rfl at_69 ?_
        have b_d1 := own_bb ((p3 >>> ((8 : Int32) &&& 31)))
        generalize ((p3 >>> ((8 : Int32) &&& 31))).toInt8.toInt32 = d1 at b_d1 ⊢
        refine B.istore 72 rfl at_70 #[.val (.int p1), .val (.int p2), .val (.int p3), .val (.int p4), .val (.int (2 : Int32)), .val (.ref a_AND), .val (.int o0), .val (.int o1), .val (.int o2), .val (.int o3), .val (.int d0), .val (.int d1), .unset, .unset, .unset, .unset, .unset, .unset, .unset] rfl ?_
        refine B.iloadN 73 rfl at_72 rfl ?_
        refine B.bipush 75 rfl (16 : Int32) at_73 rfl ?_
        refine B.ishr 76 rfl at_75 ?_
        refine B.i2b 77 rfl at_76 ?_
        have b_d2 := own_bb ((p3 >>> ((16 : Int32) &&& 31)))
        generalize ((p3 >>> ((16 : Int32) &&& 31))).toInt8.toInt32 = d2 at b_d2 ⊢
        refine B.istore 79 rfl at_77 #[.val (.int p1), .val (.int p2), .val (.int p3), .val (.int p4), .val (.int (2 : Int32)), .val (.ref a_AND), .val (.int o0), .val (.int o1), .val (.int o2), .val (.int o3), .val (.int d0), .val (.int d1), .val (.int d2), .unset, .unset, .unset, .unset, .unset, .unset] rfl ?_
        refine B.iloadN 80 rfl at_79 rfl ?_
        refine B.bipush 82 rfl (24 : Int32) at_80 rfl ?_
        refine B.ishr 83 rfl at_82 ?_
        refine B.i2b 84 rfl at_83 ?_
        have b_d3 := own_bb ((p3 >>> ((24 : Int32) &&& 31)))
        generalize ((p3 >>> ((24 : Int32) &&& 31))).toInt8.toInt32 = d3 at b_d3 ⊢
        refine B.istore 86 rfl at_84 #[.val (.int p1), .val (.int p2), .val (.int p3), .val (.int p4), .val (.int (2 : Int32)), .val (.ref a_AND), .val (.int o0), .val (.int o1), .val (.int o2), .val (.int o3), .val (.int d0), .val (.int d1), .val (.int d2), .val (.int d3), .unset, .unset, .unset, .unset, .unset] rfl ?_
        refine B.iconst 87 rfl (4 : Int32) at_86 rfl ?_
        refine B.newP 89 rfl at_87 (wd hw 4 rfl) (by decide) 4 (by decide) (by decide) (by decide) (by decide) ?_
        intro h_ao ao e_ao g_ao X_ao A_ao
        replace A_ao : Ary Z h_ao ao .byte [(.int (0 : Int32)), (.int (0 : Int32)), (.int (0 : Int32)), (.int (0 : Int32))] := A_ao
        show B.G h_ao 1 4 (mkF m 89 #[.val (.int p1), .val (.int p2), .val (.int p3), .val (.int p4), .val (.int (2 : Int32)), .val (.ref a_AND), .val (.int o0), .val (.int o1), .val (.int o2), .val (.int o3), .val (.int d0), .val (.int d1), .val (.int d2), .val (.int d3), .unset, .unset, .unset, .unset, .unset] [(.ref ao)])
        refine B.dup 90 rfl at_89 rfl ?_
        refine B.iconst 91 rfl (0 : Int32) at_90 rfl ?_
        refine B.iload 93 rfl at_91 rfl ?_
        refine B.bastore 94 rfl at_93 A_ao (by decide) 0 rfl (by simp) (Or.inr g_ao) ?_
        intro hs17 Ws17 As17
        rw [b_o0] at As17
        replace As17 : Ary Z hs17 ao .byte [(.int o0), (.int (0 : Int32)), (.int (0 : Int32)), (.int (0 : Int32))] := As17
        refine B.dup 95 rfl at_94 rfl ?_
        refine B.iconst 96 rfl (1 : Int32) at_95 rfl ?_
        refine B.iload 98 rfl at_96 rfl ?_
        refine B.bastore 99 rfl at_98 As17 (by decide) 1 rfl (by simp) (Or.inr g_ao) ?_
        intro hs18 Ws18 As18
        rw [b_o1] at As18
        replace As18 : Ary Z hs18 ao .byte [(.int o0), (.int o1), (.int (0 : Int32)), (.int (0 : Int32))] := As18
        refine B.dup 100 rfl at_99 rfl ?_
        refine B.iconst 101 rfl (2 : Int32) at_100 rfl ?_
        refine B.iload 103 rfl at_101 rfl ?_
        refine B.bastore 104 rfl at_103 As18 (by decide) 2 rfl (by simp) (Or.inr g_ao) ?_
        intro hs19 Ws19 As19
        rw [b_o2] at As19
        replace As19 : Ary Z hs19 ao .byte [(.int o0), (.int o1), (.int o2), (.int (0 : Int32))] := As19
        refine B.dup 105 rfl at_104 rfl ?_
        refine B.iconst 106 rfl (3 : Int32) at_105 rfl ?_
        refine B.iload 108 rfl at_106 rfl ?_
        refine B.bastore 109 rfl at_108 As19 (by decide) 3 rfl (by simp) (Or.inr g_ao) ?_
        intro hs20 Ws20 As20
        rw [b_o3] at As20
        replace As20 : Ary Z hs20 ao .byte [(.int o0), (.int o1), (.int o2), (.int o3)] := As20
        refine B.astore 111 rfl at_109 rfl #[.val (.int p1), .val (.int p2), .val (.int p3), .val (.int p4), .val (.int (2 : Int32)), .val (.ref a_AND), .val (.int o0), .val (.int o1), .val (.int o2), .val (.int o3), .val (.int d0), .val (.int d1), .val (.int d2), .val (.int d3), .val (.ref ao), .unset, .unset, .unset, .unset] rfl ?_
        refine B.iconst 112 rfl (4 : Int32) at_111 rfl ?_
        refine B.newPE 114 rfl at_112 (wd hw 4 rfl) (by decide) 4 (by decide) (by decide) (by decide) (by decide) "[B" rfl ?_
        intro h_ad ad e_ad g_ad X_ad A_ad E_ad
        replace A_ad : Ary Z h_ad ad .byte [(.int (0 : Int32)), (.int (0 : Int32)), (.int (0 : Int32)), (.int (0 : Int32))] := A_ad
        show B.G h_ad 2 8 (mkF m 114 #[.val (.int p1), .val (.int p2), .val (.int p3), .val (.int p4), .val (.int (2 : Int32)), .val (.ref a_AND), .val (.int o0), .val (.int o1), .val (.int o2), .val (.int o3), .val (.int d0), .val (.int d1), .val (.int d2), .val (.int d3), .val (.ref ao), .unset, .unset, .unset, .unset] [(.ref ad)])
        have n_ao_ad : ao ≠ ad := fun q => absurd As20.lt (by rw [q, e_ad]; exact Nat.lt_irrefl _)
        have A_ao_6 := As20.ext X_ad
        refine B.dup 115 rfl at_114 rfl ?_
        refine B.iconst 116 rfl (0 : Int32) at_115 rfl ?_
        refine B.iload 118 rfl at_116 rfl ?_
        refine B.bastore 119 rfl at_118 A_ad (by decide) 0 rfl (by simp) (Or.inr g_ad) ?_
        intro hs21 Ws21 As21
        rw [b_d0] at As21
        replace As21 : Ary Z hs21 ad .byte [(.int d0), (.int (0 : Int32)), (.int (0 : Int32)), (.int (0 : Int32))] := As21
        have A_ao_7 := A_ao_6.other Ws21 n_ao_ad
        have E_ad_7 := E_ad.wr Ws21
        refine B.dup 120 rfl at_119 rfl ?_
        refine B.iconst 121 rfl (1 : Int32) at_120 rfl ?_
        refine B.iload 123 rfl at_121 rfl ?_
        refine B.bastore 124 rfl at_123 As21 (by decide) 1 rfl (by simp) (Or.inr g_ad) ?_
        intro hs22 Ws22 As22
        rw [b_d1] at As22
        replace As22 : Ary Z hs22 ad .byte [(.int d0), (.int d1), (.int (0 : Int32)), (.int (0 : Int32))] := As22
        have A_ao_8 := A_ao_7.other Ws22 n_ao_ad
        have E_ad_8 := E_ad_7.wr Ws22
        refine B.dup 125 rfl at_124 rfl ?_
        refine B.iconst 126 rfl (2 : Int32) at_125 rfl ?_
        refine B.iload 128 rfl at_126 rfl ?_
        refine B.bastore 129 rfl at_128 As22 (by decide) 2 rfl (by simp) (Or.inr g_ad) ?_
        intro hs23 Ws23 As23
        rw [b_d2] at As23
        replace As23 : Ary Z hs23 ad .byte [(.int d0), (.int d1), (.int d2), (.int (0 : Int32))] := As23
        have A_ao_9 := A_ao_8.other Ws23 n_ao_ad
        have E_ad_9 := E_ad_8.wr Ws23
        refine B.dup 130 rfl at_129 rfl ?_
        refine B.iconst 131 rfl (3 : Int32) at_130 rfl ?_
        refine B.iload 133 rfl at_131 rfl ?_
        refine B.bastore 134 rfl at_133 As23 (by decide) 3 rfl (by simp) (Or.inr g_ad) ?_
        intro hs24 Ws24 As24
        rw [b_d3] at As24
        replace As24 : Ary Z hs24 ad .byte [(.int d0), (.int d1), (.int d2), (.int d3)] := As24
        have A_ao_10 := A_ao_9.other Ws24 n_ao_ad
        have E_ad_10 := E_ad_9.wr Ws24
        refine B.astore 136 rfl at_134 rfl #[.val (.int p1), .val (.int p2), .val (.int p3), .val (.int p4), .val (.int (2 : Int32)), .val (.ref a_AND), .val (.int o0), .val (.int o1), .val (.int o2), .val (.int o3), .val (.int d0), .val (.int d1), .val (.int d2), .val (.int d3), .val (.ref ao), .val (.ref ad), .unset, .unset, .unset] rfl ?_
        refine B.iconst 137 rfl (0 : Int32) at_136 rfl ?_
        refine B.newP 139 rfl at_137 (wd hw 4 rfl) (by decide) 0 (by decide) (by decide) (by decide) (by decide) ?_
        intro h_az az e_az g_az X_az A_az
        replace A_az : Ary Z h_az az .byte [] := A_az
        show B.G h_az 3 8 (mkF m 139 #[.val (.int p1), .val (.int p2), .val (.int p3), .val (.int p4), .val (.int (2 : Int32)), .val (.ref a_AND), .val (.int o0), .val (.int o1), .val (.int o2), .val (.int o3), .val (.int d0), .val (.int d1), .val (.int d2), .val (.int d3), .val (.ref ao), .val (.ref ad), .unset, .unset, .unset] [(.ref az)])
        have n_ad_az : ad ≠ az := fun q => absurd E_ad_10.lt (by rw [q, e_az]; exact Nat.lt_irrefl _)
        have n_ao_az : ao ≠ az := fun q => absurd A_ao_10.lt (by rw [q, e_az]; exact Nat.lt_irrefl _)
        have A_ao_11 := A_ao_10.ext X_az
        have E_ad_11 := E_ad_10.ext X_az
        have A_ad_11 := As24.ext X_az
        refine B.astore 141 rfl at_139 rfl #[.val (.int p1), .val (.int p2), .val (.int p3), .val (.int p4), .val (.int (2 : Int32)), .val (.ref a_AND), .val (.int o0), .val (.int o1), .val (.int o2), .val (.int o3), .val (.int d0), .val (.int d1), .val (.int d2), .val (.int d3), .val (.ref ao), .val (.ref ad), .val (.ref az), .unset, .unset] rfl ?_
        refine B.iload 143 rfl at_141 rfl ?_
        refine B.if0_ne 157 146 rfl (by decide) rfl at_143 (fun c143 => ?_) (fun c143 => ?_)
        · refine B.aload 159 rfl at_157 rfl rfl ?_
          refine B.astore 161 rfl at_159 rfl #[.val (.int p1), .val (.int p2), .val (.int p3), .val (.int p4), .val (.int (2 : Int32)), .val (.ref a_AND), .val (.int o0), .val (.int o1), .val (.int o2), .val (.int o3), .val (.int d0), .val (.int d1), .val (.int d2), .val (.int d3), .val (.ref ao), .val (.ref ad), .val (.ref az), .val (.ref ao), .unset] rfl ?_
          refine B.olds fun X => ?_
          have EO := E_AND.ext X
          have S9_REPLACE := S_REPLACE.ext X
          have S9_OR := S_OR.ext X
          have hfit : ∀ v ∈ ([(.int d0), (.int d1), (.int d2), (.int d3)] : List Value), fits .byte v = true := by
            intro v hv
            simp only [List.mem_cons, List.not_mem_nil, or_false] at hv
            rcases hv with rfl | rfl | rfl | rfl
            · exact own_fb b_d0
            · exact own_fb b_d1
            · exact own_fb b_d2
            · exact own_fb b_d3
          refine B.aload 163 rfl at_161 rfl rfl ?_
          refine B.aload 165 rfl at_163 rfl rfl ?_
          refine B.aload 167 rfl at_165 rfl rfl ?_
          refine B.callV 170 rfl at_167 (wd hw 5 rfl) (wd hw 6 rfl) (wd hw 8 rfl) (wd hw 7 rfl) (wd hw 2 rfl) (wd hw 9 rfl) (by decide) EO [(.ref ao), (.ref ad)] [] (rm_apply2 l Z a0 hw a_REPLACE a_OR a_AND ao ad d0 d1 d2 d3 o0 o1 o2 o3 h_az S9_REPLACE S9_OR A_ad_11 E_ad_11 hfit x_AND_R A_ao_11 x_AND_O) rfl rfl pd___B_B__B rfl rfl 0 rfl (by decide) (by decide) (by decide) (by decide) (fun _ q => nomatch q) ?_
          rintro _ h_r K_r ⟨r, rfl, g_r, A_r⟩
          show B.G h_r 4 12 (mkF m 170 #[.val (.int p1), .val (.int p2), .val (.int p3), .val (.int p4), .val (.int (2 : Int32)), .val (.ref a_AND), .val (.int o0), .val (.int o1), .val (.int o2), .val (.int o3), .val (.int d0), .val (.int d1), .val (.int d2), .val (.int d3), .val (.ref ao), .val (.ref ad), .val (.ref az), .val (.ref ao), .unset] [(.ref r)])
          have n_ao_r : ao ≠ r := fun q => absurd A_ao_11.lt (by rw [q]; exact Nat.not_lt.mpr g_r)
          have n_ad_r : ad ≠ r := fun q => absurd A_ad_11.lt (by rw [q]; exact Nat.not_lt.mpr g_r)
          have A_ao_12 := A_ao_11.keep K_r nin0
          have E_ad_12 := E_ad_11.keep K_r
          have A_ad_12 := A_ad_11.keep K_r nin0
          have A_az_12 := A_az.keep K_r nin0
          refine B.astore 172 rfl at_170 rfl #[.val (.int p1), .val (.int p2), .val (.int p3), .val (.int p4), .val (.int (2 : Int32)), .val (.ref a_AND), .val (.int o0), .val (.int o1), .val (.int o2), .val (.int o3), .val (.int d0), .val (.int d1), .val (.int d2), .val (.int d3), .val (.ref ao), .val (.ref ad), .val (.ref az), .val (.ref ao), .val (.ref r)] rfl ?_
          refine B.aload 174 rfl at_172 rfl rfl ?_
          refine B.ifnull 198 177 rfl (by decide) rfl at_174 rfl (fun c174 => ?_) (fun c174 => ?_)
          · exact absurd c174 (by simp)
          · refine B.aload 179 rfl at_177 rfl rfl ?_
            refine B.aload 181 rfl at_179 rfl rfl ?_
            refine B.acmp_eq 198 184 rfl (by decide) rfl at_181 rfl rfl (fun c181 => ?_) (fun c181 => ?_)
            · exact absurd (Value.ref.inj c181).symm n_ad_r
            · refine B.aload 186 rfl at_184 rfl rfl ?_
              refine B.aload 188 rfl at_186 rfl rfl ?_
              refine B.acmp_eq 198 191 rfl (by decide) rfl at_188 rfl rfl (fun c188 => ?_) (fun c188 => ?_)
              · exact absurd (Value.ref.inj c188).symm n_ao_r
              · refine B.aload 193 rfl at_191 rfl rfl ?_
                refine B.arrlen 194 rfl at_193 A_r (4 : Int32) rfl ?_
                refine B.iconst 195 rfl (4 : Int32) at_194 rfl ?_
                refine B.icmp_eq 200 198 rfl (by decide) rfl at_195 (fun c195 => ?_) (fun c195 => ?_)
                · refine B.aload 202 rfl at_200 rfl rfl ?_
                  refine B.iconst 203 rfl (0 : Int32) at_202 rfl ?_
                  refine B.baload 204 rfl at_203 A_ao_12 (by decide) 0 rfl (.int o0) rfl ?_
                  refine B.iload 206 rfl at_204 rfl ?_
                  refine B.icmp_ne 236 209 rfl (by decide) rfl at_206 (fun c206 => ?_) (fun c206 => ?_)
                  · exact absurd rfl c206
                  · refine B.aload 211 rfl at_209 rfl rfl ?_
                    refine B.iconst 212 rfl (1 : Int32) at_211 rfl ?_
                    refine B.baload 213 rfl at_212 A_ao_12 (by decide) 1 rfl (.int o1) rfl ?_
                    refine B.iload 215 rfl at_213 rfl ?_
                    refine B.icmp_ne 236 218 rfl (by decide) rfl at_215 (fun c215 => ?_) (fun c215 => ?_)
                    · exact absurd rfl c215
                    · refine B.aload 220 rfl at_218 rfl rfl ?_
                      refine B.iconst 221 rfl (2 : Int32) at_220 rfl ?_
                      refine B.baload 222 rfl at_221 A_ao_12 (by decide) 2 rfl (.int o2) rfl ?_
                      refine B.iload 224 rfl at_222 rfl ?_
                      refine B.icmp_ne 236 227 rfl (by decide) rfl at_224 (fun c224 => ?_) (fun c224 => ?_)
                      · exact absurd rfl c224
                      · refine B.aload 229 rfl at_227 rfl rfl ?_
                        refine B.iconst 230 rfl (3 : Int32) at_229 rfl ?_
                        refine B.baload 231 rfl at_230 A_ao_12 (by decide) 3 rfl (.int o3) rfl ?_
                        refine B.iload 233 rfl at_231 rfl ?_
                        refine B.icmp_eq 238 236 rfl (by decide) rfl at_233 (fun c233 => ?_) (fun c233 => ?_)
                        · refine B.aload 240 rfl at_238 rfl rfl ?_
                          refine B.iconst 241 rfl (0 : Int32) at_240 rfl ?_
                          refine B.baload 242 rfl at_241 A_ad_12 (by decide) 0 rfl (.int d0) rfl ?_
                          refine B.iload 244 rfl at_242 rfl ?_
                          refine B.icmp_ne 274 247 rfl (by decide) rfl at_244 (fun c244 => ?_) (fun c244 => ?_)
                          · exact absurd rfl c244
                          · refine B.aload 249 rfl at_247 rfl rfl ?_
                            refine B.iconst 250 rfl (1 : Int32) at_249 rfl ?_
                            refine B.baload 251 rfl at_250 A_ad_12 (by decide) 1 rfl (.int d1) rfl ?_
                            refine B.iload 253 rfl at_251 rfl ?_
                            refine B.icmp_ne 274 256 rfl (by decide) rfl at_253 (fun c253 => ?_) (fun c253 => ?_)
                            · exact absurd rfl c253
                            · refine B.aload 258 rfl at_256 rfl rfl ?_
                              refine B.iconst 259 rfl (2 : Int32) at_258 rfl ?_
                              refine B.baload 260 rfl at_259 A_ad_12 (by decide) 2 rfl (.int d2) rfl ?_
                              refine B.iload 262 rfl at_260 rfl ?_
                              refine B.icmp_ne 274 265 rfl (by decide) rfl at_262 (fun c262 => ?_) (fun c262 => ?_)
                              · exact absurd rfl c262
                              · refine B.aload 267 rfl at_265 rfl rfl ?_
                                refine B.iconst 268 rfl (3 : Int32) at_267 rfl ?_
                                refine B.baload 269 rfl at_268 A_ad_12 (by decide) 3 rfl (.int d3) rfl ?_
                                refine B.iload 271 rfl at_269 rfl ?_
                                refine B.icmp_eq 276 274 rfl (by decide) rfl at_271 (fun c271 => ?_) (fun c271 => ?_)
                                · refine B.aload 278 rfl at_276 rfl rfl ?_
                                  refine B.iconst 279 rfl (0 : Int32) at_278 rfl ?_
                                  refine B.baload 280 rfl at_279 A_r (by decide) 0 rfl (.int ((o0 &&& d0).toInt8.toInt32)) rfl ?_
                                  refine B.iload 282 rfl at_280 rfl ?_
                                  refine B.iload 284 rfl at_282 rfl ?_
                                  refine B.iload 286 rfl at_284 rfl ?_
                                  refine B.callS 289 rfl at_286 (wd hw 20 rfl) (wd hw 21 rfl) (wd hw 22 rfl) (wd hw 23 rfl) (by decide) [(.int (2 : Int32)), (.int o0), (.int d0)] [(.int ((o0 &&& d0).toInt8.toInt32))] (rm_exp2 l Z a0 hw o0 d0 h_r b_d0) rfl rfl pd__IBB_B rfl rfl 1 rfl (by decide) (by decide) (by decide) (by decide) (fun _ q => nomatch q) ?_
                                  rintro _ _ - ⟨rfl, rfl⟩
                                  show B.G h_r 4 12 (mkF m 289 #[.val (.int p1), .val (.int p2), .val (.int p3), .val (.int p4), .val (.int (2 : Int32)), .val (.ref a_AND), .val (.int o0), .val (.int o1), .val (.int o2), .val (.int o3), .val (.int d0), .val (.int d1), .val (.int d2), .val (.int d3), .val (.ref ao), .val (.ref ad), .val (.ref az), .val (.ref ao), .val (.ref r)] [(.int ((o0 &&& d0).toInt8.toInt32)), (.int ((o0 &&& d0).toInt8.toInt32))])
                                  refine B.icmp_ne 344 292 rfl (by decide) rfl at_289 (fun c289 => ?_) (fun c289 => ?_)
                                  · exact absurd rfl c289
                                  · refine B.aload 294 rfl at_292 rfl rfl ?_
                                    refine B.iconst 295 rfl (1 : Int32) at_294 rfl ?_
                                    refine B.baload 296 rfl at_295 A_r (by decide) 1 rfl (.int ((o1 &&& d1).toInt8.toInt32)) rfl ?_
                                    refine B.iload 298 rfl at_296 rfl ?_
                                    refine B.iload 300 rfl at_298 rfl ?_
                                    refine B.iload 302 rfl at_300 rfl ?_
                                    refine B.callS 305 rfl at_302 (wd hw 20 rfl) (wd hw 21 rfl) (wd hw 22 rfl) (wd hw 23 rfl) (by decide) [(.int (2 : Int32)), (.int o1), (.int d1)] [(.int ((o1 &&& d1).toInt8.toInt32))] (rm_exp2 l Z a0 hw o1 d1 h_r b_d1) rfl rfl pd__IBB_B rfl rfl 1 rfl (by decide) (by decide) (by decide) (by decide) (fun _ q => nomatch q) ?_
                                    rintro _ _ - ⟨rfl, rfl⟩
                                    show B.G h_r 4 12 (mkF m 305 #[.val (.int p1), .val (.int p2), .val (.int p3), .val (.int p4), .val (.int (2 : Int32)), .val (.ref a_AND), .val (.int o0), .val (.int o1), .val (.int o2), .val (.int o3), .val (.int d0), .val (.int d1), .val (.int d2), .val (.int d3), .val (.ref ao), .val (.ref ad), .val (.ref az), .val (.ref ao), .val (.ref r)] [(.int ((o1 &&& d1).toInt8.toInt32)), (.int ((o1 &&& d1).toInt8.toInt32))])
                                    refine B.icmp_ne 344 308 rfl (by decide) rfl at_305 (fun c305 => ?_) (fun c305 => ?_)
                                    · exact absurd rfl c305
                                    · refine B.aload 310 rfl at_308 rfl rfl ?_
                                      refine B.iconst 311 rfl (2 : Int32) at_310 rfl ?_
                                      refine B.baload 312 rfl at_311 A_r (by decide) 2 rfl (.int ((o2 &&& d2).toInt8.toInt32)) rfl ?_
                                      refine B.iload 314 rfl at_312 rfl ?_
                                      refine B.iload 316 rfl at_314 rfl ?_
                                      refine B.iload 318 rfl at_316 rfl ?_
                                      refine B.callS 321 rfl at_318 (wd hw 20 rfl) (wd hw 21 rfl) (wd hw 22 rfl) (wd hw 23 rfl) (by decide) [(.int (2 : Int32)), (.int o2), (.int d2)] [(.int ((o2 &&& d2).toInt8.toInt32))] (rm_exp2 l Z a0 hw o2 d2 h_r b_d2) rfl rfl pd__IBB_B rfl rfl 1 rfl (by decide) (by decide) (by decide) (by decide) (fun _ q => nomatch q) ?_
                                      rintro _ _ - ⟨rfl, rfl⟩
                                      show B.G h_r 4 12 (mkF m 321 #[.val (.int p1), .val (.int p2), .val (.int p3), .val (.int p4), .val (.int (2 : Int32)), .val (.ref a_AND), .val (.int o0), .val (.int o1), .val (.int o2), .val (.int o3), .val (.int d0), .val (.int d1), .val (.int d2), .val (.int d3), .val (.ref ao), .val (.ref ad), .val (.ref az), .val (.ref ao), .val (.ref r)] [(.int ((o2 &&& d2).toInt8.toInt32)), (.int ((o2 &&& d2).toInt8.toInt32))])
                                      refine B.icmp_ne 344 324 rfl (by decide) rfl at_321 (fun c321 => ?_) (fun c321 => ?_)
                                      · exact absurd rfl c321
                                      · refine B.aload 326 rfl at_324 rfl rfl ?_
                                        refine B.iconst 327 rfl (3 : Int32) at_326 rfl ?_
                                        refine B.baload 328 rfl at_327 A_r (by decide) 3 rfl (.int ((o3 &&& d3).toInt8.toInt32)) rfl ?_
                                        refine B.iload 330 rfl at_328 rfl ?_
                                        refine B.iload 332 rfl at_330 rfl ?_
                                        refine B.iload 334 rfl at_332 rfl ?_
                                        refine B.callS 337 rfl at_334 (wd hw 20 rfl) (wd hw 21 rfl) (wd hw 22 rfl) (wd hw 23 rfl) (by decide) [(.int (2 : Int32)), (.int o3), (.int d3)] [(.int ((o3 &&& d3).toInt8.toInt32))] (rm_exp2 l Z a0 hw o3 d3 h_r b_d3) rfl rfl pd__IBB_B rfl rfl 1 rfl (by decide) (by decide) (by decide) (by decide) (fun _ q => nomatch q) ?_
                                        rintro _ _ - ⟨rfl, rfl⟩
                                        show B.G h_r 4 12 (mkF m 337 #[.val (.int p1), .val (.int p2), .val (.int p3), .val (.int p4), .val (.int (2 : Int32)), .val (.ref a_AND), .val (.int o0), .val (.int o1), .val (.int o2), .val (.int o3), .val (.int d0), .val (.int d1), .val (.int d2), .val (.int d3), .val (.ref ao), .val (.ref ad), .val (.ref az), .val (.ref ao), .val (.ref r)] [(.int ((o3 &&& d3).toInt8.toInt32)), (.int ((o3 &&& d3).toInt8.toInt32))])
                                        refine B.icmp_ne 344 340 rfl (by decide) rfl at_337 (fun c337 => ?_) (fun c337 => ?_)
                                        · exact absurd rfl c337
                                        · refine B.iconst 341 rfl (1 : Int32) at_340 rfl ?_
                                          refine B.goto 345 rfl (by decide) at_341 ?_
                                          refine B.retN (by simp) at_345 (by decide) (by decide) ?_
                                          exact rfl
                                · exact absurd rfl c271
                        · exact absurd rfl c233
                · exact absurd c195 (by decide)
        · exact absurd c143 (by decide)
      · exact absurd c22 (by decide)
    · exact absurd c10 (by decide)
set_option maxRecDepth 65536 in
set_option maxHeartbeats 4000000 in
theorem comes_1 {Post : Tables → Env → Array Value → State → Outcome → State → Prop} (hpost : ∀ tb e args s v u, (limb_1_1.after args s (.returned v) u = true ∧ limb_1_2.after args s (.returned v) u = true ∧ True) → FrameEnd s (.returned v) u (Jvm.fieldLocs frame_1_writes args s ++ Jvm.arrayLocs frame_1_arrays args s ++ Jvm.staticLocs frame_1_statics s) 16 128 → Post tb e args s (.returned v) u) :
    ArmFor flags0 classFile x code maxLocals ret World_1 tables_1 room_1 Calls_1 rest_1 Pre_1 Post := by
  intro l hfl _ _ p e ha hc hk s m args below hf hA hF happ hP
  obtain ⟨hcalls, hrest, hpre⟩ := hP
  obtain ⟨-, -, -, hnamed, -, -, -, hat⟩ := (Spec.applies_iff hf).mp happ
  obtain ⟨hg, hn⟩ := and_e (Cond.before_iff.mp (show (Jvm.Cond.and given_1 narrow_1).before args s = true from hpre))
  obtain ⟨g0, gg0⟩ := and_e hg
  obtain ⟨k0, gg1⟩ := and_e gg0
  obtain ⟨k1, gg2⟩ := and_e gg1
  obtain ⟨k2, gg3⟩ := and_e gg2
  obtain ⟨w0, w1, w2, w3, rfl⟩ : ∃ w0 w1 w2 w3 : Value, args = #[w0, w1, w2, w3] := by
    have hs : args.size = 4 := by simpa [Cond.value, given_1] using g0
    obtain ⟨L⟩ := args
    match L, hs with
    | [w0, w1, w2, w3], _ => exact ⟨w0, w1, w2, w3, rfl⟩
  have hw := fun d (hd : d ∈ tables_1) => atoms_spec (ws := Jvm.Cond.code x code maxLocals ret :: tables_1) hat d (List.mem_cons_of_mem _ hd)
  obtain ⟨i0, ei0⟩ := is_v k0
  obtain rfl : w0 = (.int i0) := Option.some.inj ei0
  obtain ⟨i1, ei1⟩ := is_v k1
  obtain rfl : w1 = (.int i1) := Option.some.inj ei1
  obtain ⟨i2, ei2⟩ := is_v k2
  obtain rfl : w2 = (.int i2) := Option.some.inj ei2
  obtain ⟨i3, ei3⟩ := is_v gg3
  obtain rfl : w3 = (.int i3) := Option.some.inj ei3
  obtain ⟨n0, n0r⟩ := and_e hn
  obtain ⟨n1, n1r⟩ := and_e n0r
  obtain ⟨n2, n2r⟩ := and_e n1r
  obtain ⟨n3, n3r⟩ := and_e n2r
  obtain ⟨n4, n4r⟩ := and_e n3r
  have n5 := n4r
  obtain ⟨a_REPLACE, v_REPLACE⟩ := exa_v n0
  have E_REPLACE := Exa.start v_REPLACE n0
  have S_REPLACE := Sta.start v_REPLACE (Or.inr ⟨wd hw 2 rfl, wd hw 3 rfl⟩)
  obtain ⟨a_OR, v_OR⟩ := exa_v n1
  have E_OR := Exa.start v_OR n1
  have S_OR := Sta.start v_OR (Or.inr ⟨wd hw 2 rfl, wd hw 25 rfl⟩)
  have F_OR_ordinal := fld_start v_OR n2
  have F_REPLACE_ordinal := fld_start v_REPLACE n3
  obtain ⟨a_AND, v_AND⟩ := exa_v n4
  have E_AND := Exa.start v_AND n4
  have S_AND := Sta.start v_AND (Or.inr ⟨wd hw 2 rfl, wd hw 28 rfl⟩)
  have F_AND_ordinal := fld_start v_AND n5
  have x_OR_R : a_OR ≠ a_REPLACE := F_OR_ordinal.ne F_REPLACE_ordinal (by decide)
  have x_AND_R : a_AND ≠ a_REPLACE := F_AND_ordinal.ne F_REPLACE_ordinal (by decide)
  have x_AND_O : a_AND ≠ a_OR := F_AND_ordinal.ne F_OR_ordinal (by decide)
  obtain ⟨n, o, h1, h2, h3, _, L, rfl, ⟨rfl, N, -⟩, hq⟩ := rm0 l s _ hw tables_1 i0 i1 i2 i3 s.heap a_REPLACE a_OR a_AND E_REPLACE E_OR E_AND S_REPLACE S_OR S_AND x_OR_R x_AND_R x_AND_O p e ha hc hk s m _ below hf ((Spec.applies_iff_loose hf).mp happ).1 ⟨rfl, State.Warmed39.refl s, rfl⟩ trivial
  refine ⟨n, _, h1, h2, h3, hpost _ _ _ _ _ _ ⟨Cond.after_iff.mpr rfl, Cond.after_iff.mpr (eq_i res_at (Term.int_eval (1)) rfl), trivial⟩ ⟨hq.1, hq.2.1, (hq.2.2.sift fun y hy => Or.inr ((N y hy).resolve_left (by simp))).mono (by decide) (by decide)⟩⟩
theorem main_1_1 : Claimed_1_1 := comes_1 fun _ _ _ _ _ _ h hF => ⟨h.1, hF⟩
theorem main_1_2 : Claimed_1_2 := comes_1 fun _ _ _ _ _ _ h hF => ⟨h.2.1, hF⟩
end Jvm.Pilot.@@N@@
namespace Jvm.Pilot.@@N@@
open Jvm Jvm.ClassFile Sem Op Lib Jvm.Free Jvm.Stand Jvm.Pilot.@@N@@.Jvm.D
/-! MADE BY PROGRAM (witnessworld.py) out of the Statement's table words and the real class files: 12 classes; the members and pool entries that the words name. The judged class is class 1, her method 1. -/
namespace start1
open Jvm.ClassFile
def u (s : String) : CpInfo := .utf8 (stringToUtf16 s)
/-- a pool by its gaps: so many unusable entries, then the entry; so many at the end -/
def gap : Nat → List CpInfo → List CpInfo
  | 0, r => r
  | n + 1, r => .unusable :: gap n r
def poolList (es : List (Nat × CpInfo)) (last : Nat) : List CpInfo := es.foldr (fun e r => gap e.1 (e.2 :: r)) (gap last [])
def pool (es : List (Nat × CpInfo)) (last : Nat) : Array CpInfo := ⟨poolList es last⟩
def fileOf (pool : Array CpInfo) (this : Nat) (attrs : Array Attribute := #[]) (ms : Array MethodInfo := #[]) (fl : Nat := 33) (sup : Nat := 0) (ifs : Array Nat := #[]) (fds : Array FieldInfo := #[]) : ClassFile where
  minorVersion := 0
  majorVersion := 65
  constantPool := pool
  accessFlags := fl
  thisClass := this
  superClass := sup
  interfaces := ifs
  fields := fds
  methods := ms
  attributes := attrs
def plain (name : String) (sup : Option ClassId) : Class where
  name := name
  kind := .ordinary
  loader := none
  accessFlags := 33
  super := sup
  interfaces := #[]
  cf := none
  fields := #[]
  methods := #[]
  instanceTypes := #[]
  staticTypes := #[]
  resolved := #[]
  callSites := []
  init := .initialized
  statics := none
  mirror := none

def pool0 : Array CpInfo := pool [(5, u "<init>"), (0, u "()V"), (1, .class_ 10), (1, u "java/lang/Object"), (85, u "clone"), (0, u "()Ljava/lang/Object;")] 26

def k0m0 : Method := { name := "<init>", desc := "()V", sig := { parameters := [], returnType := none }, accessFlags := 1, code := none }
def k0m1 : Method := { name := "clone", desc := "()Ljava/lang/Object;", sig := { parameters := [], returnType := some (.object "java/lang/Object") }, accessFlags := 260, code := none }
/-- java/lang/Object -/
def k0 : Class := { plain "java/lang/Object" none with
  accessFlags := 33
  interfaces := #[]
  cf := some (fileOf pool0 8 #[] #[{ accessFlags := 1, nameIndex := 5, descriptorIndex := 6, attributes := #[] }, { accessFlags := 260, nameIndex := 96, descriptorIndex := 97, attributes := #[] }] 33 0 #[] #[])
  fields := #[]
  methods := #[k0m0, k0m1]
  instanceTypes := #[]
  staticTypes := #[]
  resolved := Array.replicate 124 none
  statics := none }

def pool1 : Array CpInfo := pool [(2, .class_ 4), (1, u "java/lang/Object"), (0, u "<init>"), (0, u "()V"), (0, .integer 2147483647), (0, .fieldref 9 10), (0, .class_ 11), (0, .nameAndType 12 13), (0, u "com/example/cardwright/cardwright/card/WriteBehaviour"), (0, u "REPLACE"), (0, u "Lcom/example/cardwright/cardwright/card/WriteBehaviour;"), (0, .fieldref 9 15), (0, .nameAndType 16 13), (0, u "OR"), (0, .fieldref 9 18), (0, .nameAndType 19 13), (0, u "AND"), (0, .methodref 9 21), (0, .nameAndType 22 23), (0, u "apply"), (0, u "([B[B)[B"), (0, .methodref 25 26), (0, .class_ 27), (0, .nameAndType 28 29), (0, u "com/example/cardwright/cardwright/card/WriteBehaviourApplyPinLaw"), (0, u "exp"), (0, u "(IBB)B"), (2, u "law"), (0, u "(IIII)Z")] 8

def k1m0 : Method := { name := "<init>", desc := "()V", sig := { parameters := [], returnType := none }, accessFlags := 1, code := none }
def k1c1 : Code := { maxStack := 4, maxLocals := 19, code := code, exceptionTable := #[], attributes := #[] }
def k1m1 : Method := { name := "law", desc := "(IIII)Z", sig := { parameters := [.int, .int, .int, .int], returnType := some .boolean }, accessFlags := 9, code := some k1c1 }
def k1c2 : Code := { maxStack := 2, maxLocals := 3, code := method_3_code, exceptionTable := #[], attributes := #[] }
def k1m2 : Method := { name := "exp", desc := "(IBB)B", sig := { parameters := [.int, .byte, .byte], returnType := some .byte }, accessFlags := 10, code := some k1c2 }
/-- com/example/cardwright/cardwright/card/WriteBehaviourApplyPinLaw -/
def k1 : Class := { plain "com/example/cardwright/cardwright/card/WriteBehaviourApplyPinLaw" (some 0) with
  accessFlags := 49
  interfaces := #[]
  cf := some (fileOf pool1 25 #[] #[{ accessFlags := 1, nameIndex := 5, descriptorIndex := 6, attributes := #[] }, { accessFlags := 9, nameIndex := 32, descriptorIndex := 33, attributes := #[] }, { accessFlags := 10, nameIndex := 28, descriptorIndex := 29, attributes := #[] }] 49 2 #[] #[])
  fields := #[]
  methods := #[k1m0, k1m1, k1m2]
  instanceTypes := #[]
  staticTypes := #[]
  resolved := Array.replicate 42 none
  statics := none }

def pool2 : Array CpInfo := pool [(1, .class_ 2), (0, u "java/lang/constant/Constable"), (0, .class_ 4), (0, u "java/lang/Object")] 6

/-- java/lang/constant/Constable -/
def k2 : Class := { plain "java/lang/constant/Constable" (some 0) with
  accessFlags := 1537
  interfaces := #[]
  cf := some (fileOf pool2 1 #[] #[] 1537 3 #[] #[])
  fields := #[]
  methods := #[]
  instanceTypes := #[]
  staticTypes := #[]
  resolved := Array.replicate 11 none
  statics := none }

def pool3 : Array CpInfo := pool [(1, .class_ 2), (0, u "java/lang/Comparable"), (0, .class_ 4), (0, u "java/lang/Object")] 7

/-- java/lang/Comparable -/
def k3 : Class := { plain "java/lang/Comparable" (some 0) with
  accessFlags := 1537
  interfaces := #[]
  cf := some (fileOf pool3 1 #[] #[] 1537 3 #[] #[])
  fields := #[]
  methods := #[]
  instanceTypes := #[]
  staticTypes := #[]
  resolved := Array.replicate 12 none
  statics := none }

def pool4 : Array CpInfo := pool [(1, .class_ 2), (0, u "java/io/Serializable"), (0, .class_ 4), (0, u "java/lang/Object")] 2

/-- java/io/Serializable -/
def k4 : Class := { plain "java/io/Serializable" (some 0) with
  accessFlags := 1537
  interfaces := #[]
  cf := some (fileOf pool4 1 #[] #[] 1537 3 #[] #[])
  fields := #[]
  methods := #[]
  instanceTypes := #[]
  staticTypes := #[]
  resolved := Array.replicate 7 none
  statics := none }

def pool5 : Array CpInfo := pool [(2, .class_ 4), (1, u "java/lang/Enum"), (0, u "name"), (0, u "Ljava/lang/String;"), (2, u "ordinal"), (0, u "I"), (1, .class_ 14), (1, u "java/lang/Object"), (4, u "hash"), (86, .class_ 108), (1, u "java/lang/Enum$EnumDesc"), (2, .class_ 112), (0, u "java/lang/constant/Constable"), (0, .class_ 114), (0, u "java/lang/Comparable"), (0, .class_ 116), (0, u "java/io/Serializable")] 87

/-- java/lang/Enum -/
def k5 : Class := { plain "java/lang/Enum" (some 0) with
  accessFlags := 1057
  interfaces := #[2, 3, 4]
  cf := some (fileOf pool5 2 #[.nestMembers #[106]] #[] 1057 12 #[111, 113, 115] #[{ accessFlags := 18, nameIndex := 5, descriptorIndex := 6, attributes := #[] }, { accessFlags := 18, nameIndex := 9, descriptorIndex := 10, attributes := #[] }, { accessFlags := 2, nameIndex := 19, descriptorIndex := 10, attributes := #[] }])
  fields := #[{ name := "name", type := (.object "java/lang/String"), accessFlags := 18, slot := 0, constantValue := 0 }, { name := "ordinal", type := .int, accessFlags := 18, slot := 1, constantValue := 0 }, { name := "hash", type := .int, accessFlags := 2, slot := 2, constantValue := 0 }]
  methods := #[]
  instanceTypes := #[(.object "java/lang/String"), .int, .int]
  staticTypes := #[]
  resolved := Array.replicate 204 none
  statics := none }

def pool6 : Array CpInfo := pool [(1, .class_ 2), (0, u "com/example/cardwright/cardwright/card/WriteBehaviour"), (0, .fieldref 1 4), (0, .nameAndType 5 6), (0, u "REPLACE"), (0, u "Lcom/example/cardwright/cardwright/card/WriteBehaviour;"), (0, .fieldref 1 8), (0, .nameAndType 9 6), (0, u "OR"), (2, u "AND"), (2, u "$VALUES"), (0, u "[Lcom/example/cardwright/cardwright/card/WriteBehaviour;"), (2, .nameAndType 20 21), (0, u "clone"), (0, u "()Ljava/lang/Object;"), (1, .class_ 25), (1, u "java/lang/Enum"), (6, .methodref 33 19), (0, .class_ 34), (0, u "[B"), (8, u "BITS"), (0, u "I"), (2, u "ONE_TIME_WRITE"), (1, u "PROPRIETARY"), (1, u "WRITE_OR"), (11, u "apply"), (0, u "([B[B)[B")] 4

def k6c0 : Code := { maxStack := 5, maxLocals := 5, code := prog_12_method_5_code, exceptionTable := #[], attributes := #[] }
def k6m0 : Method := { name := "apply", desc := "([B[B)[B", sig := { parameters := [(.array .byte), (.array .byte)], returnType := some (.array .byte) }, accessFlags := 0, code := some k6c0 }
/-- com/example/cardwright/cardwright/card/WriteBehaviour -/
def k6 : Class := { plain "com/example/cardwright/cardwright/card/WriteBehaviour" (some 5) with
  accessFlags := 16432
  interfaces := #[]
  cf := some (fileOf pool6 1 #[] #[{ accessFlags := 0, nameIndex := 63, descriptorIndex := 64, attributes := #[] }] 16432 23 #[] #[{ accessFlags := 16409, nameIndex := 5, descriptorIndex := 6, attributes := #[] }, { accessFlags := 16409, nameIndex := 9, descriptorIndex := 6, attributes := #[] }, { accessFlags := 16409, nameIndex := 12, descriptorIndex := 6, attributes := #[] }, { accessFlags := 26, nameIndex := 43, descriptorIndex := 44, attributes := #[] }, { accessFlags := 26, nameIndex := 47, descriptorIndex := 44, attributes := #[] }, { accessFlags := 26, nameIndex := 49, descriptorIndex := 44, attributes := #[] }, { accessFlags := 26, nameIndex := 51, descriptorIndex := 44, attributes := #[] }, { accessFlags := 4122, nameIndex := 15, descriptorIndex := 16, attributes := #[] }])
  fields := #[{ name := "REPLACE", type := (.object "com/example/cardwright/cardwright/card/WriteBehaviour"), accessFlags := 16409, slot := 0, constantValue := 0 }, { name := "OR", type := (.object "com/example/cardwright/cardwright/card/WriteBehaviour"), accessFlags := 16409, slot := 1, constantValue := 0 }, { name := "AND", type := (.object "com/example/cardwright/cardwright/card/WriteBehaviour"), accessFlags := 16409, slot := 2, constantValue := 0 }, { name := "BITS", type := .int, accessFlags := 26, slot := 3, constantValue := 0 }, { name := "ONE_TIME_WRITE", type := .int, accessFlags := 26, slot := 4, constantValue := 0 }, { name := "PROPRIETARY", type := .int, accessFlags := 26, slot := 5, constantValue := 0 }, { name := "WRITE_OR", type := .int, accessFlags := 26, slot := 6, constantValue := 0 }, { name := "$VALUES", type := (.array (.object "com/example/cardwright/cardwright/card/WriteBehaviour")), accessFlags := 4122, slot := 7, constantValue := 0 }]
  methods := #[k6m0]
  instanceTypes := #[(.object "java/lang/String"), .int, .int]
  staticTypes := #[(.object "com/example/cardwright/cardwright/card/WriteBehaviour"), (.object "com/example/cardwright/cardwright/card/WriteBehaviour"), (.object "com/example/cardwright/cardwright/card/WriteBehaviour"), .int, .int, .int, .int, (.array (.object "com/example/cardwright/cardwright/card/WriteBehaviour"))]
  resolved := Array.replicate 69 none
  statics := some 0 }

def pool7 : Array CpInfo := pool [(1, .class_ 2), (0, u "java/lang/Cloneable"), (0, .class_ 4), (0, u "java/lang/Object")] 2

/-- java/lang/Cloneable -/
def k7 : Class := { plain "java/lang/Cloneable" (some 0) with
  accessFlags := 1537
  interfaces := #[]
  cf := some (fileOf pool7 1 #[] #[] 1537 3 #[] #[])
  fields := #[]
  methods := #[]
  instanceTypes := #[]
  staticTypes := #[]
  resolved := Array.replicate 7 none
  statics := none }

/-- the primitive byte -/
def k8 : Class := { plain "byte" none with kind := .primitive 'B', accessFlags := 0x411 }
/-- [B -/
def k9 : Class := { plain "[B" (some 0) with kind := .array 8 .byte, interfaces := #[7, 4], accessFlags := 1041 }

/-- the primitive int -/
def k10 : Class := { plain "int" none with kind := .primitive 'I', accessFlags := 0x411 }
/-- [I -/
def k11 : Class := { plain "[I" (some 0) with kind := .array 10 .int, interfaces := #[7, 4], accessFlags := 1041 }

def heap : Heap := #[{ cls := 6, slots := #[.ref 1, .ref 2, .ref 3, .int 0, .int 0, .int 0, .int 0, .null], vm := .statics 6 },
  { cls := 6, slots := #[.null, .int 0, .int 0], vm := .none },
  { cls := 6, slots := #[.null, .int 1, .int 0], vm := .none },
  { cls := 6, slots := #[.null, .int 2, .int 0], vm := .none }]
def classes : Array Class := #[k0, k1, k2, k3, k4, k5, k6, k7, k8, k9, k10, k11]
def interned : List (Array UInt16 × Addr) := []
def slotsUsed : Nat := 17
def theMethod : MethodId := ⟨1, 1⟩
def args0 : Array Value := #[.int 5, .int 6, .int 7, .int 8]
def aboutOver (below : List Frame) : State where
  vm := { classes := classes, interned := interned.toArray }
  heap := heap
  slotsUsed := slotsUsed
  threads := #[{ frames := .invoking theMethod args0 :: below }]
def below0 : List Frame := [.native { method := ⟨0, 0⟩, args := #[] }]
def about1 : State := aboutOver below0
def p0 : Program := .bare "" "" ""
def e0 : Env := launch0.env 0 0 0
theorem w_frames : about1.frames = Frame.invoking theMethod args0 :: below0 := rfl
set_option maxRecDepth 65536 in
theorem w_args : argsFit about1.vm theMethod args0 = true := by decide +kernel
set_option maxRecDepth 65536 in
theorem w_heap : heapFits about1 = true := by decide +kernel
set_option maxRecDepth 65536 in
theorem w_runnable : about1.curStatus? = some .runnable := by decide +kernel
set_option maxRecDepth 65536 in
theorem w_alone : about1.alone = true := by decide +kernel
set_option maxRecDepth 65536 in
theorem w_named : about1.methodNamed? x = some theMethod := by decide +kernel
set_option maxRecDepth 65536 in
theorem w_hears : about1.hears theMethod below0 = true := by decide +kernel
set_option maxRecDepth 65536 in
theorem w_ripe : about1.ripe theMethod args0 below0 = true := by decide +kernel
theorem w_running : about1.status = .running := rfl
set_option maxRecDepth 65536 in
theorem w_room : about1.hasRoom e0.platform room_1 = true :=
  launch0.hasRoom_least _ room_1 (by decide +kernel) (by decide +kernel) (by decide +kernel) (by decide +kernel) (by decide +kernel) (by decide +kernel)
theorem allAtoms_all (ts : List Jvm.Cond) (a : Array Jvm.Value) (st : Jvm.State) : (allAtoms ts).before a st = ts.all (fun c => c.before a st) := by
  induction ts with
  | nil => rfl
  | cons c t ih =>
    show (Jvm.Cond.and c (allAtoms t)).before a st = _
    rw [Jvm.Cond.before_and, ih, List.all_cons]
def words1 : List Jvm.Cond := Jvm.Cond.code x code maxLocals ret :: tables_1
/-- a 'code' word, met by the world's own term for the bytes: nothing is compared byte by byte -/
theorem code_word {y : MethodName} {bytes : ByteArray} {mx : Nat} {rt : Option FieldType} {a : Array Value} {s : State} {m : MethodId} {meth : Method} {c : Code} (h1 : s.methodNamed? y = some m) (h2 : s.vm.method? m = some meth) (h3 : meth.code = some c) (h4 : c.code = bytes)
    (h5 : (c.maxLocals == mx && c.exceptionTable.isEmpty && decide (c.maxStack ≤ mostOperands) && decide (meth.sig.returnType = rt) && !meth.locks && decide (parseMethodDescriptor y.desc = some meth.sig)) = true) : (Jvm.Cond.code y bytes mx rt).before a s = true := by
  simp only [Bool.and_eq_true, beq_iff_eq, Bool.not_eq_true', decide_eq_true_eq] at h5
  obtain ⟨⟨⟨⟨⟨g1, g2⟩, g3⟩, g4⟩, g5⟩, g6⟩ := h5
  simp [Cond.before, Cond.holds, Cond.value, h1, h2, h3, h4, g1, g2, g3, g4, g5, g6]
def isCode : Jvm.Cond → Bool
  | .code _ _ _ _ => true
  | _ => false
theorem all_split {L : List Jvm.Cond} {P : Jvm.Cond → Bool} (h1 : L.all (fun c => isCode c || P c) = true) (h2 : ∀ c ∈ L.filter isCode, P c = true) : L.all P = true := by
  refine List.all_eq_true.mpr fun c hc => ?_
  have h := List.all_eq_true.mp h1 c hc
  rcases Bool.eq_false_or_eq_true (isCode c) with hi | hi
  · exact h2 c (List.mem_filter.mpr ⟨hc, hi⟩)
  · simpa [hi] using h
set_option maxRecDepth 65536 in
theorem w_c0 : (Jvm.Cond.code x code maxLocals ret).before args0 about1 = true := code_word (m := ⟨1, 1⟩) (meth := k1m1) (c := k1c1) (by decide +kernel) rfl rfl rfl (by decide +kernel)
set_option maxRecDepth 65536 in
theorem w_c1 : (Jvm.Cond.code ({ cls := "com/example/cardwright/cardwright/card/WriteBehaviour", name := "apply", desc := "([B[B)[B" } : Jvm.MethodName) prog_12_method_5_code (5 : Nat) (Option.some (Jvm.ClassFile.FieldType.array Jvm.ClassFile.FieldType.byte))).before args0 about1 = true := code_word (m := ⟨6, 0⟩) (meth := k6m0) (c := k6c0) (by decide +kernel) rfl rfl rfl (by decide +kernel)
set_option maxRecDepth 65536 in
theorem w_c2 : (Jvm.Cond.code ({ cls := "com/example/cardwright/cardwright/card/WriteBehaviourApplyPinLaw", name := "exp", desc := "(IBB)B" } : Jvm.MethodName) method_3_code (3 : Nat) (Option.some Jvm.ClassFile.FieldType.byte)).before args0 about1 = true := code_word (m := ⟨1, 2⟩) (meth := k1m2) (c := k1c2) (by decide +kernel) rfl rfl rfl (by decide +kernel)
def codes1 : List Jvm.Cond := [Jvm.Cond.code x code maxLocals ret, Jvm.Cond.code ({ cls := "com/example/cardwright/cardwright/card/WriteBehaviour", name := "apply", desc := "([B[B)[B" } : Jvm.MethodName) prog_12_method_5_code (5 : Nat) (Option.some (Jvm.ClassFile.FieldType.array Jvm.ClassFile.FieldType.byte)), Jvm.Cond.code ({ cls := "com/example/cardwright/cardwright/card/WriteBehaviourApplyPinLaw", name := "exp", desc := "(IBB)B" } : Jvm.MethodName) method_3_code (3 : Nat) (Option.some Jvm.ClassFile.FieldType.byte)]
set_option maxRecDepth 65536 in
theorem codes_eq : words1.filter isCode = codes1 := rfl
theorem w_codes : ∀ c ∈ words1.filter isCode, c.before args0 about1 = true := by
  rw [codes_eq]
  intro c hc
  simp only [codes1, List.mem_cons, List.not_mem_nil, or_false] at hc
  rcases hc with rfl | rfl | rfl
  · exact w_c0
  · exact w_c1
  · exact w_c2
set_option maxRecDepth 65536 in
theorem w_t1 : (words1.take 24).all (fun c => isCode c || c.before args0 about1) = true := by decide +kernel
set_option maxRecDepth 65536 in
theorem w_t2 : (words1.drop 24).all (fun c => isCode c || c.before args0 about1) = true := by decide +kernel
theorem w_tables : (allAtoms (Jvm.Cond.code x code maxLocals ret :: tables_1)).before args0 about1 = true := by
  rw [allAtoms_all]
  show words1.all (fun c => c.before args0 about1) = true
  refine all_split ?_ w_codes
  rw [← List.take_append_drop 24 words1, List.all_append, w_t1, w_t2]
  rfl
set_option maxRecDepth 65536 in
theorem w_case : (Jvm.Cond.and given_1 narrow_1).before args0 about1 = true := by decide +kernel
theorem w_applies : (headSpec (Jvm.Cond.code x code maxLocals ret :: tables_1) room_1).applies x e0.platform about1 = true :=
  (Spec.applies_iff w_frames).mpr ⟨w_running, w_runnable, w_alone, w_named, w_hears, w_ripe, w_room, w_tables⟩
theorem atStart : AtStart classFile x code maxLocals ret World_1 tables_1 room_1 Calls_1 rest_1 Pre_1 launch0 p0 e0 about1 theMethod args0 below0 :=
  ⟨lists_1, trivial, launch0.admits_env _ _ _, launch0.least_env, fairChoices_fair.cas, fairChoices_fair.clock, w_frames, w_args, w_heap, w_applies, trivial, trivial, w_case⟩
end start1
theorem witness_1 : WitnessClaimed_1 := ⟨start1.p0, start1.e0, start1.about1, start1.theMethod, start1.args0, start1.below0, start1.atStart⟩
end Jvm.Pilot.@@N@@
