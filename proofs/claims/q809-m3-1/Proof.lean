import JvmDerived
import JvmDerived.Pilot.@@N@@Statement
import JvmDerived.Pilot.@@N@@Code
set_option linter.unusedVariables false
set_option linter.unusedSimpArgs false
@@BLOCK:TracedD.lean.txt@@
namespace Jvm.Own
open Jvm Sem ClassFile Op Lib Jvm.Stand Jvm.Free Jvm.LawKit Jvm.RoadKit Bundle
/-- the moving data of a walk: program, environment, the start, the method, its arguments, the frames below, the method's record, its code -/
abbrev Cx : Type := Program × Env × State × MethodId × Array Value × List Frame × Method × Code
/-- from here the run ends as P says -/
def Go (K : Cx) (P : Outcome → State → Prop) (T : State) (pc : Nat) (ls : Array Slot) (st : List Value) : Prop :=
  ∃ o U, Steps K.1.tables K.2.1 K.2.2.2.2.2.1 (T.setTop (mkF K.2.2.2.1 pc ls st)) U ∧ U.status = .running ∧ Ended U K.2.2.2.2.2.1 o ∧ P o U
/-- where a walk stands: over its start re-tabled; heap h; sf: the cells that it may write -/
def Wk (l : Launch) (Z : State) (EL : List (String × Nat)) (own nm : String) (cd : ByteArray) (ml : Nat) (ret : Option FieldType) (R : Room) (ws : List Addr) (h0 : Heap) (K : Cx) (sf : List Addr) (T : State) (h : Heap) (cells slots : Nat) : Prop :=
  ∃ (vm0 : Vm) (locs : List Loc) (k0 : Nat), Stand K.1 l K.2.1 R (K.2.2.1.setVm vm0) K.2.2.2.1 K.2.2.2.2.1 K.2.2.2.2.2.1 K.2.2.2.2.2.2.1 K.2.2.2.2.2.2.2 T locs cells slots ∧ T.heap = h ∧ K.1.tables.exec = Jvm.exec ∧
    (K.2.2.2.2.2.2.2.code = cd ∧ K.2.2.2.2.2.2.2.maxLocals = ml ∧ K.2.2.2.2.2.2.1.sig.returnType = ret ∧ K.2.2.2.2.2.2.1.locks = false ∧ K.2.2.2.2.2.2.1.name = nm) ∧ K.2.2.1.heap = h0 ∧
    Z.Warmed39 vm0 ∧ vm0.findClass own = some K.2.2.2.1.cls ∧ K.2.2.1.Since vm0 k0 ∧ k0 ≤ h.size ∧ (∀ x ∈ locs, x.base ∈ ws ∨ h0.size ≤ x.base) ∧ CHr Z EL K.2.2.1.vm h0 vm0 h ∧ Old Z Z.heap.size h ∧ (∃ a0, EW Z a0 EL) ∧
    (∀ x ∈ ws, Z.heap.size ≤ x) ∧ Z.heap.size ≤ h0.size ∧ ∀ x ∈ sf, Safe Z EL vm0 h x ∧ x < h.size ∧ (x ∈ ws ∨ h0.size ≤ x)
/-- what a contract promises at the end -/
def Pst (Z : State) (EL : List (String × Nat)) (ws : List Addr) (s : State) (kc ks : Nat) (Q : Option Value → Heap → List Addr → Prop) (o : Outcome) (U : State) : Prop :=
  ∃ v L so, o = .returned v ∧ Q v U.heap so ∧ (∀ x ∈ so, Safe Z EL U.vm U.heap x ∧ s.heap.size ≤ x ∧ x < U.heap.size) ∧ (∀ x ∈ L, x.base ∈ ws ∨ s.heap.size ≤ x.base) ∧ CHr Z EL s.vm s.heap U.vm U.heap ∧ ReturnedEndW s o U L kc ks
/-- a body's contract: from the heap h and the arguments as', whatever is booked said, ws writable -/
def Ct (l : Launch) (Z : State) (EL : List (String × Nat)) (y : MethodName) (cd : ByteArray) (ml : Nat) (ret : Option FieldType) (rm : Room) (as' : Array Value) (h : Heap) (ws : List Addr) (Q : Option Value → Heap → List Addr → Prop) : Prop :=
  ∀ wl, MetFree l y (head1 (Cond.code y cd ml ret :: wl) rm) (fun a U => a = as' ∧ Z.Warmed39 U.vm ∧ U.heap = h ∧ CHv Z EL U.vm h ∧ ∀ x ∈ ws, Safe Z EL U.vm h x ∧ x < h.size) (fun _ _ _ _ _ => True) (fun _ U o U' => Pst Z EL ws U rm.cells rm.slots Q o U')
section Basics
variable {l : Launch} {Z : State} {EL : List (String × Nat)} {own nm : String} {cd : ByteArray} {ml : Nat} {ret : Option FieldType} {R : Room} {ws : List Addr} {h0 : Heap} {K : Cx} {sf : List Addr} {T : State} {h h' : Heap} {cells slots : Nat} {P : Outcome → State → Prop} {pc pc' : Nat} {ls : Array Slot} {st : List Value} {a0 : Array Value}
theorem Go.stp {T' : State} {pc' : Nat} {ls' : Array Slot} {st' : List Value} (f : ∀ t, Steps K.1.tables K.2.1 K.2.2.2.2.2.1 (T'.setTop (mkF K.2.2.2.1 pc' ls' st')) t → Steps K.1.tables K.2.1 K.2.2.2.2.2.1 (T.setTop (mkF K.2.2.2.1 pc ls st)) t) (k : Go K P T' pc' ls' st') : Go K P T pc ls st := by
  obtain ⟨o, U, r, q⟩ := k; exact ⟨o, U, f _ r, q⟩
theorem Go.top {v v' : Value} (e : v = v') (k : Go K P T pc ls (v' :: st)) : Go K P T pc ls (v :: st) := e ▸ k
theorem Wk.heapEq (W : Wk l Z EL own nm cd ml ret R ws h0 K sf T h cells slots) : T.heap = h := by obtain ⟨_, _, _, _, e, _⟩ := W; exact e
theorem Wk.old (W : Wk l Z EL own nm cd ml ret R ws h0 K sf T h cells slots) : Old Z Z.heap.size h := by obtain ⟨_, _, _, _, _, _, _, _, _, _, _, _, _, _, q, _⟩ := W; exact q
theorem Wk.grow (W : Wk l Z EL own nm cd ml ret R ws h0 K sf T h cells slots) : h0.size ≤ h.size := by obtain ⟨_, _, _, _, _, _, _, _, _, _, _, _, _, q, _⟩ := W; exact q.2.1
theorem Wk.lt (W : Wk l Z EL own nm cd ml ret R ws h0 K sf T h cells slots) {x : Addr} (hx : x ∈ sf) : x < h.size := by obtain ⟨_, _, _, _, _, _, _, _, _, _, _, _, _, _, _, _, _, _, q⟩ := W; exact (q x hx).2.1
theorem Wk.mono (W : Wk l Z EL own nm cd ml ret R ws h0 K sf T h cells slots) {cells' slots' : Nat} (hc : cells ≤ cells') (hn : slots ≤ slots') : Wk l Z EL own nm cd ml ret R ws h0 K sf T h cells' slots' := by
  obtain ⟨vm0, locs, k0, X, r⟩ := W; exact ⟨vm0, locs, k0, X.mono hc hn, r⟩
theorem Wk.less (W : Wk l Z EL own nm cd ml ret R ws h0 K sf T h cells slots) {sf' : List Addr} (hs : ∀ x ∈ sf', x ∈ sf) : Wk l Z EL own nm cd ml ret R ws h0 K sf' T h cells slots := by
  obtain ⟨vm0, locs, k0, X, e, hx, hc, e0, hZ, hown, hS, hk, hL, hC, hO, hE, hw, hz, hs'⟩ := W
  exact ⟨vm0, locs, k0, X, e, hx, hc, e0, hZ, hown, hS, hk, hL, hC, hO, hE, hw, hz, fun x q => hs' x (hs x q)⟩
/-- an object whose class is neither String nor byte[] is booked nowhere -/
theorem Wk.addE (W : Wk l Z EL own nm cd ml ret R ws h0 K sf T h cells slots) {x : Addr} {C : String} (E : Exa Z h x C) (h1 : C ≠ "java/lang/String") (h2 : C ≠ "[B") (hp : x ∈ ws ∨ h0.size ≤ x) : Wk l Z EL own nm cd ml ret R ws h0 K (x :: sf) T h cells slots := by
  obtain ⟨vm0, locs, k0, X, e, hx, hc, e0, hZ, hown, hS, hk, hL, hC, hO, hE, hw, hz, hs⟩ := W
  exact ⟨vm0, locs, k0, X, e, hx, hc, e0, hZ, hown, hS, hk, hL, hC, hO, hE, hw, hz, fun y hy => by
    rcases List.mem_cons.mp hy with rfl | hy
    · exact ⟨Safe.exa hZ.alike E h1 h2, E.lt, hp⟩
    · exact hs y hy⟩
theorem all1 {α : Type} {P : α → Prop} {y : α} {L : List α} (q : P y) (r : ∀ x ∈ L, P x) : ∀ x ∈ y :: L, P x := fun x hx => (List.mem_cons.mp hx).elim (fun e => e ▸ q) (r x)
theorem alln {α : Type} {P : α → Prop} : ∀ x ∈ ([] : List α), P x := fun _ q => nomatch q
theorem keep_of {s U : State} {L : List Loc} {k n : Nat} {ws : List Addr} (hs : s.sameButNew U L k n) (hL : ∀ x ∈ L, x.base ∈ ws ∨ s.heap.size ≤ x.base) : Keep s.heap U.heap ws := by
  obtain ⟨-, q2, -, -, -, q6⟩ := hs
  refine ⟨q2, fun x c hx hn => ?_, fun x c hx => ?_⟩
  · obtain ⟨c', r1, r2, r3, r4⟩ := q6 x c hx
    have hlt := (Array.getElem?_eq_some_iff.mp hx).1
    have e1 : c'.slots = c.slots := Array.ext_getElem? fun i => r4 i fun hm => by
      rcases hL _ hm with z | z
      · exact hn z
      · exact absurd hlt (Nat.not_lt.mpr z)
    have e2 : c' = c := by rw [r2, e1]
    rw [r1, e2]
  · obtain ⟨c', r1, r2, r3, -⟩ := q6 x c hx
    exact ⟨c', r1, by rw [r2], by rw [r2], r3⟩
/-- entering a body -/
theorem Ct.mk {y : MethodName} (own nm : String) (h1 : y.cls = own) (h2 : y.name = nm) {rm : Room} {as' : Array Value} {Q : Option Value → Heap → List Addr → Prop} (pn : plainFor y = true) (hO : Old Z Z.heap.size h) (hE : EW Z a0 EL) (hw : ∀ x ∈ ws, Z.heap.size ≤ x)
    (k : ∀ (K : Cx) (T : State), Wk l Z EL own nm cd ml ret rm ws h K ws T h 0 0 → Go K (Pst Z EL ws K.2.2.1 rm.cells rm.slots Q) T 0 (entryFrame K.2.2.2.1 as' ml).locals []) : Ct l Z EL y cd ml ret rm as' h ws Q := by
  subst h1 h2
  intro wl
  refine MetFree.of_bodySF pn hisR ?_
  intro p e s m args below meth c s₁ Bd hml hP hK
  obtain ⟨rfl, hZ, hh, hCH, hsf⟩ := hP
  have X0 := Stand.of_body Bd
  have hes : s₁.heap = h := by rw [← hh, Bd.state]; rfl
  have hvm : s₁.vm = s.vm := by rw [Bd.state]; rfl
  have hn := name_of_methodNamed Bd.named Bd.method
  obtain ⟨o, U, r1, r2, r3, r4⟩ := k (p, e, s, m, args, below, meth, c) s₁ ⟨s.vm, [], 0, X0, hes, Bd.exec, ⟨Bd.bytes, hml, Bd.returns, Bd.notSynchronized, hn.1⟩, hh, hZ, findClass_of_methodNamed Bd.named, (State.WarmedH.refl s).since 0, Nat.zero_le _, (fun x q => nomatch q), by rw [← hh] at hCH ⊢; exact CHr.refl hCH, hO, ⟨a0, hE⟩, hw, hO.1 ▸ hO.2.1, fun x q => ⟨(hsf x q).1, (hsf x q).2, Or.inl q⟩⟩
  refine ⟨U, o, ?_, r2, r3, r4⟩
  have ef : entryFrame m args ml = mkF m 0 (entryFrame m args ml).locals [] := rfl
  rw [ef]; exact r1
end Basics
section Pure
variable {l : Launch} {Z : State} {EL : List (String × Nat)} {own nm : String} {cd : ByteArray} {ml : Nat} {ret : Option FieldType} {R : Room} {ws : List Addr} {h0 : Heap} {K : Cx} {sf : List Addr} {T : State} {h h' : Heap} {cells slots : Nat} {P : Outcome → State → Prop} {pc pc' : Nat} {ls : Array Slot} {st : List Value} {a0 : Array Value}
theorem gAloadN (W : Wk l Z EL own nm cd ml ret R ws h0 K sf T h cells slots) {i : Fin 4} {v : Value} (hd : decode cd pc = .ok (.aload_n i, 1)) (hl : ls[i.val]? = some (.val v)) (hv : v.isRef = true) (hp : pc + 1 = pc') (k : Go K P T pc' ls (v :: st)) : Go K P T pc ls st := by
  obtain ⟨vm0, locs, k0, X, e, hx, ⟨hc, -⟩, -⟩ := W
  subst hp
  exact Go.stp (fun t r => XS.aloadN X.here hx rfl (hb hc hd) hl hv r) k
theorem gAload (W : Wk l Z EL own nm cd ml ret R ws h0 K sf T h cells slots) {i : Nat} {v : Value} (hd : decode cd pc = .ok (.aload i, 2)) (hl : ls[i]? = some (.val v)) (hv : v.isRef = true) (hp : pc + 2 = pc') (k : Go K P T pc' ls (v :: st)) : Go K P T pc ls st := by
  obtain ⟨vm0, locs, k0, X, e, hx, ⟨hc, -⟩, -⟩ := W
  subst hp
  exact Go.stp (fun t r => XS.aload X.here hx rfl (hb hc hd) hl hv r) k
theorem gIloadN (W : Wk l Z EL own nm cd ml ret R ws h0 K sf T h cells slots) {i : Fin 4} {v : Int32} (hd : decode cd pc = .ok (.iload_n i, 1)) (hl : ls[i.val]? = some (.val (.int v))) (hp : pc + 1 = pc') (k : Go K P T pc' ls (.int v :: st)) : Go K P T pc ls st := by
  obtain ⟨vm0, locs, k0, X, e, hx, ⟨hc, -⟩, -⟩ := W
  subst hp
  exact Go.stp (fun t r => XS.iloadN X.here hx rfl (hb hc hd) hl r) k
theorem gIload (W : Wk l Z EL own nm cd ml ret R ws h0 K sf T h cells slots) {i : Nat} {v : Int32} (hd : decode cd pc = .ok (.iload i, 2)) (hl : ls[i]? = some (.val (.int v))) (hp : pc + 2 = pc') (k : Go K P T pc' ls (.int v :: st)) : Go K P T pc ls st := by
  obtain ⟨vm0, locs, k0, X, e, hx, ⟨hc, -⟩, -⟩ := W
  subst hp
  exact Go.stp (fun t r => XS.iload X.here hx rfl (hb hc hd) hl r) k
theorem gLloadN (W : Wk l Z EL own nm cd ml ret R ws h0 K sf T h cells slots) {i : Fin 4} {v : Int64} (hd : decode cd pc = .ok (.lload_n i, 1)) (hl : ls[i.val]? = some (.val (.long v))) (hp : pc + 1 = pc') (k : Go K P T pc' ls (.long v :: st)) : Go K P T pc ls st := by
  obtain ⟨vm0, locs, k0, X, e, hx, ⟨hc, -⟩, -⟩ := W
  subst hp
  exact Go.stp (fun t r => XS.lloadN X.here hx rfl (hb hc hd) hl r) k
theorem gLload (W : Wk l Z EL own nm cd ml ret R ws h0 K sf T h cells slots) {i : Nat} {v : Int64} (hd : decode cd pc = .ok (.lload i, 2)) (hl : ls[i]? = some (.val (.long v))) (hp : pc + 2 = pc') (k : Go K P T pc' ls (.long v :: st)) : Go K P T pc ls st := by
  obtain ⟨vm0, locs, k0, X, e, hx, ⟨hc, -⟩, -⟩ := W
  subst hp
  exact Go.stp (fun t r => XS.lload X.here hx rfl (hb hc hd) hl r) k
theorem gIconst (W : Wk l Z EL own nm cd ml ret R ws h0 K sf T h cells slots) {i : Int} {z : Int32} (hd : decode cd pc = .ok (.iconst i, 1)) (hz : Int32.ofInt i = z) (hp : pc + 1 = pc') (k : Go K P T pc' ls (.int z :: st)) : Go K P T pc ls st := by
  obtain ⟨vm0, locs, k0, X, e, hx, ⟨hc, -⟩, -⟩ := W
  subst hp
  exact Go.stp (fun t r => XS.iconst X.here hx rfl (hb hc hd) <| hz ▸ r) k
theorem gBipush (W : Wk l Z EL own nm cd ml ret R ws h0 K sf T h cells slots) {i : Int} {z : Int32} (hd : decode cd pc = .ok (.bipush i, 2)) (hz : (Int8.ofInt i).toInt32 = z) (hp : pc + 2 = pc') (k : Go K P T pc' ls (.int z :: st)) : Go K P T pc ls st := by
  obtain ⟨vm0, locs, k0, X, e, hx, ⟨hc, -⟩, -⟩ := W
  subst hp
  exact Go.stp (fun t r => XS.bipush X.here hx rfl (hb hc hd) <| hz ▸ r) k
theorem gSipush (W : Wk l Z EL own nm cd ml ret R ws h0 K sf T h cells slots) {i : Int} {z : Int32} (hd : decode cd pc = .ok (.sipush i, 3)) (hz : (Int16.ofInt i).toInt32 = z) (hp : pc + 3 = pc') (k : Go K P T pc' ls (.int z :: st)) : Go K P T pc ls st := by
  obtain ⟨vm0, locs, k0, X, e, hx, ⟨hc, -⟩, -⟩ := W
  subst hp
  exact Go.stp (fun t r => XS.sipush X.here hx rfl (hb hc hd) <| hz ▸ r) k
theorem gAconstNull (W : Wk l Z EL own nm cd ml ret R ws h0 K sf T h cells slots)  (hd : decode cd pc = .ok (.aconst_null, 1))  (hp : pc + 1 = pc') (k : Go K P T pc' ls (.null :: st)) : Go K P T pc ls st := by
  obtain ⟨vm0, locs, k0, X, e, hx, ⟨hc, -⟩, -⟩ := W
  subst hp
  exact Go.stp (fun t r => XS.aconstNull X.here hx rfl (hb hc hd) r) k
theorem gLconst (W : Wk l Z EL own nm cd ml ret R ws h0 K sf T h cells slots) {i : Fin 2} {z : Int64} (hd : decode cd pc = .ok (.lconst i, 1)) (hz : (Int64.ofNat i.val) = z) (hp : pc + 1 = pc') (k : Go K P T pc' ls (.long z :: st)) : Go K P T pc ls st := by
  obtain ⟨vm0, locs, k0, X, e, hx, ⟨hc, -⟩, -⟩ := W
  subst hp
  exact Go.stp (fun t r => XS.lconst X.here hx rfl (hb hc hd) <| hz ▸ r) k
theorem gIadd (W : Wk l Z EL own nm cd ml ret R ws h0 K sf T h cells slots) {x y z : Int32} (hd : decode cd pc = .ok (.iadd, 1)) (hz : x + y = z) (hp : pc + 1 = pc') (k : Go K P T pc' ls (.int z :: st)) : Go K P T pc ls (.int y :: .int x :: st) := by
  obtain ⟨vm0, locs, k0, X, e, hx, ⟨hc, -⟩, -⟩ := W
  subst hp
  exact Go.stp (fun t r => XS.iadd X.here hx rfl (hb hc hd) rfl <| hz ▸ r) k
theorem gIsub (W : Wk l Z EL own nm cd ml ret R ws h0 K sf T h cells slots) {x y z : Int32} (hd : decode cd pc = .ok (.isub, 1)) (hz : x - y = z) (hp : pc + 1 = pc') (k : Go K P T pc' ls (.int z :: st)) : Go K P T pc ls (.int y :: .int x :: st) := by
  obtain ⟨vm0, locs, k0, X, e, hx, ⟨hc, -⟩, -⟩ := W
  subst hp
  exact Go.stp (fun t r => XS.isub X.here hx rfl (hb hc hd) rfl <| hz ▸ r) k
theorem gImul (W : Wk l Z EL own nm cd ml ret R ws h0 K sf T h cells slots) {x y z : Int32} (hd : decode cd pc = .ok (.imul, 1)) (hz : x * y = z) (hp : pc + 1 = pc') (k : Go K P T pc' ls (.int z :: st)) : Go K P T pc ls (.int y :: .int x :: st) := by
  obtain ⟨vm0, locs, k0, X, e, hx, ⟨hc, -⟩, -⟩ := W
  subst hp
  exact Go.stp (fun t r => XS.imul X.here hx rfl (hb hc hd) rfl <| hz ▸ r) k
theorem gIand (W : Wk l Z EL own nm cd ml ret R ws h0 K sf T h cells slots) {x y z : Int32} (hd : decode cd pc = .ok (.iand, 1)) (hz : x &&& y = z) (hp : pc + 1 = pc') (k : Go K P T pc' ls (.int z :: st)) : Go K P T pc ls (.int y :: .int x :: st) := by
  obtain ⟨vm0, locs, k0, X, e, hx, ⟨hc, -⟩, -⟩ := W
  subst hp
  exact Go.stp (fun t r => XS.iand X.here hx rfl (hb hc hd) rfl <| hz ▸ r) k
theorem gIor (W : Wk l Z EL own nm cd ml ret R ws h0 K sf T h cells slots) {x y z : Int32} (hd : decode cd pc = .ok (.ior, 1)) (hz : x ||| y = z) (hp : pc + 1 = pc') (k : Go K P T pc' ls (.int z :: st)) : Go K P T pc ls (.int y :: .int x :: st) := by
  obtain ⟨vm0, locs, k0, X, e, hx, ⟨hc, -⟩, -⟩ := W
  subst hp
  exact Go.stp (fun t r => XS.ior X.here hx rfl (hb hc hd) rfl <| hz ▸ r) k
theorem gIxor (W : Wk l Z EL own nm cd ml ret R ws h0 K sf T h cells slots) {x y z : Int32} (hd : decode cd pc = .ok (.ixor, 1)) (hz : x ^^^ y = z) (hp : pc + 1 = pc') (k : Go K P T pc' ls (.int z :: st)) : Go K P T pc ls (.int y :: .int x :: st) := by
  obtain ⟨vm0, locs, k0, X, e, hx, ⟨hc, -⟩, -⟩ := W
  subst hp
  exact Go.stp (fun t r => XS.ixor X.here hx rfl (hb hc hd) rfl <| hz ▸ r) k
theorem gIshl (W : Wk l Z EL own nm cd ml ret R ws h0 K sf T h cells slots) {x y z : Int32} (hd : decode cd pc = .ok (.ishl, 1)) (hz : x <<< (y &&& 31) = z) (hp : pc + 1 = pc') (k : Go K P T pc' ls (.int z :: st)) : Go K P T pc ls (.int y :: .int x :: st) := by
  obtain ⟨vm0, locs, k0, X, e, hx, ⟨hc, -⟩, -⟩ := W
  subst hp
  exact Go.stp (fun t r => XS.ishl X.here hx rfl (hb hc hd) rfl <| hz ▸ r) k
theorem gIshr (W : Wk l Z EL own nm cd ml ret R ws h0 K sf T h cells slots) {x y z : Int32} (hd : decode cd pc = .ok (.ishr, 1)) (hz : x >>> (y &&& 31) = z) (hp : pc + 1 = pc') (k : Go K P T pc' ls (.int z :: st)) : Go K P T pc ls (.int y :: .int x :: st) := by
  obtain ⟨vm0, locs, k0, X, e, hx, ⟨hc, -⟩, -⟩ := W
  subst hp
  exact Go.stp (fun t r => XS.ishr X.here hx rfl (hb hc hd) rfl <| hz ▸ r) k
theorem gIushr (W : Wk l Z EL own nm cd ml ret R ws h0 K sf T h cells slots) {x y z : Int32} (hd : decode cd pc = .ok (.iushr, 1)) (hz : (x.toUInt32 >>> (y &&& 31).toUInt32).toInt32 = z) (hp : pc + 1 = pc') (k : Go K P T pc' ls (.int z :: st)) : Go K P T pc ls (.int y :: .int x :: st) := by
  obtain ⟨vm0, locs, k0, X, e, hx, ⟨hc, -⟩, -⟩ := W
  subst hp
  exact Go.stp (fun t r => XS.iushr X.here hx rfl (hb hc hd) rfl <| hz ▸ r) k
theorem gIdiv (W : Wk l Z EL own nm cd ml ret R ws h0 K sf T h cells slots) {x y z : Int32} (hd : decode cd pc = .ok (.idiv, 1)) (hy : y ≠ 0) (hz : x / y = z) (hp : pc + 1 = pc') (k : Go K P T pc' ls (.int z :: st)) : Go K P T pc ls (.int y :: .int x :: st) := by
  obtain ⟨vm0, locs, k0, X, e, hx, ⟨hc, -⟩, -⟩ := W
  subst hp
  exact Go.stp (fun t r => XS.idiv X.here hx rfl (hb hc hd) rfl hy <| hz ▸ r) k
theorem gIrem (W : Wk l Z EL own nm cd ml ret R ws h0 K sf T h cells slots) {x y z : Int32} (hd : decode cd pc = .ok (.irem, 1)) (hy : y ≠ 0) (hz : x % y = z) (hp : pc + 1 = pc') (k : Go K P T pc' ls (.int z :: st)) : Go K P T pc ls (.int y :: .int x :: st) := by
  obtain ⟨vm0, locs, k0, X, e, hx, ⟨hc, -⟩, -⟩ := W
  subst hp
  exact Go.stp (fun t r => iremM X hx rfl (hb hc hd) rfl hy <| hz ▸ r) k
theorem gIneg (W : Wk l Z EL own nm cd ml ret R ws h0 K sf T h cells slots) {x z : Int32} (hd : decode cd pc = .ok (.ineg, 1)) (hz : -x = z) (hp : pc + 1 = pc') (k : Go K P T pc' ls (.int z :: st)) : Go K P T pc ls (.int x :: st) := by
  obtain ⟨vm0, locs, k0, X, e, hx, ⟨hc, -⟩, -⟩ := W
  subst hp
  exact Go.stp (fun t r => XS.ineg X.here hx rfl (hb hc hd) rfl <| hz ▸ r) k
theorem gI2B (W : Wk l Z EL own nm cd ml ret R ws h0 K sf T h cells slots) {x z : Int32} (hd : decode cd pc = .ok (.i2b, 1)) (hz : x.toInt8.toInt32 = z) (hp : pc + 1 = pc') (k : Go K P T pc' ls (.int z :: st)) : Go K P T pc ls (.int x :: st) := by
  obtain ⟨vm0, locs, k0, X, e, hx, ⟨hc, -⟩, -⟩ := W
  subst hp
  exact Go.stp (fun t r => XS.i2b X.here hx rfl (hb hc hd) rfl <| hz ▸ r) k
theorem gI2C (W : Wk l Z EL own nm cd ml ret R ws h0 K sf T h cells slots) {x z : Int32} (hd : decode cd pc = .ok (.i2c, 1)) (hz : x.toUInt32.toUInt16.toUInt32.toInt32 = z) (hp : pc + 1 = pc') (k : Go K P T pc' ls (.int z :: st)) : Go K P T pc ls (.int x :: st) := by
  obtain ⟨vm0, locs, k0, X, e, hx, ⟨hc, -⟩, -⟩ := W
  subst hp
  exact Go.stp (fun t r => XS.i2c X.here hx rfl (hb hc hd) rfl <| hz ▸ r) k
theorem gI2S (W : Wk l Z EL own nm cd ml ret R ws h0 K sf T h cells slots) {x z : Int32} (hd : decode cd pc = .ok (.i2s, 1)) (hz : x.toInt16.toInt32 = z) (hp : pc + 1 = pc') (k : Go K P T pc' ls (.int z :: st)) : Go K P T pc ls (.int x :: st) := by
  obtain ⟨vm0, locs, k0, X, e, hx, ⟨hc, -⟩, -⟩ := W
  subst hp
  exact Go.stp (fun t r => XS.i2s X.here hx rfl (hb hc hd) rfl <| hz ▸ r) k
theorem gI2L (W : Wk l Z EL own nm cd ml ret R ws h0 K sf T h cells slots) {x : Int32} {z : Int64} (hd : decode cd pc = .ok (.i2l, 1)) (hz : x.toInt64 = z) (hp : pc + 1 = pc') (k : Go K P T pc' ls (.long z :: st)) : Go K P T pc ls (.int x :: st) := by
  obtain ⟨vm0, locs, k0, X, e, hx, ⟨hc, -⟩, -⟩ := W
  subst hp
  exact Go.stp (fun t r => XS.i2l X.here hx rfl (hb hc hd) rfl <| hz ▸ r) k
theorem gL2I (W : Wk l Z EL own nm cd ml ret R ws h0 K sf T h cells slots) {x : Int64} {z : Int32} (hd : decode cd pc = .ok (.l2i, 1)) (hz : x.toInt32 = z) (hp : pc + 1 = pc') (k : Go K P T pc' ls (.int z :: st)) : Go K P T pc ls (.long x :: st) := by
  obtain ⟨vm0, locs, k0, X, e, hx, ⟨hc, -⟩, -⟩ := W
  subst hp
  exact Go.stp (fun t r => XS.l2i X.here hx rfl (hb hc hd) rfl <| hz ▸ r) k
theorem gLadd (W : Wk l Z EL own nm cd ml ret R ws h0 K sf T h cells slots) {x y z : Int64} (hd : decode cd pc = .ok (.ladd, 1)) (hz : x + y = z) (hp : pc + 1 = pc') (k : Go K P T pc' ls (.long z :: st)) : Go K P T pc ls (.long y :: .long x :: st) := by
  obtain ⟨vm0, locs, k0, X, e, hx, ⟨hc, -⟩, -⟩ := W
  subst hp
  exact Go.stp (fun t r => XS.ladd X.here hx rfl (hb hc hd) rfl <| hz ▸ r) k
theorem gLsub (W : Wk l Z EL own nm cd ml ret R ws h0 K sf T h cells slots) {x y z : Int64} (hd : decode cd pc = .ok (.lsub, 1)) (hz : x - y = z) (hp : pc + 1 = pc') (k : Go K P T pc' ls (.long z :: st)) : Go K P T pc ls (.long y :: .long x :: st) := by
  obtain ⟨vm0, locs, k0, X, e, hx, ⟨hc, -⟩, -⟩ := W
  subst hp
  exact Go.stp (fun t r => XS.lsub X.here hx rfl (hb hc hd) rfl <| hz ▸ r) k
theorem gLmul (W : Wk l Z EL own nm cd ml ret R ws h0 K sf T h cells slots) {x y z : Int64} (hd : decode cd pc = .ok (.lmul, 1)) (hz : x * y = z) (hp : pc + 1 = pc') (k : Go K P T pc' ls (.long z :: st)) : Go K P T pc ls (.long y :: .long x :: st) := by
  obtain ⟨vm0, locs, k0, X, e, hx, ⟨hc, -⟩, -⟩ := W
  subst hp
  exact Go.stp (fun t r => XS.lmul X.here hx rfl (hb hc hd) rfl <| hz ▸ r) k
theorem gLand (W : Wk l Z EL own nm cd ml ret R ws h0 K sf T h cells slots) {x y z : Int64} (hd : decode cd pc = .ok (.land, 1)) (hz : x &&& y = z) (hp : pc + 1 = pc') (k : Go K P T pc' ls (.long z :: st)) : Go K P T pc ls (.long y :: .long x :: st) := by
  obtain ⟨vm0, locs, k0, X, e, hx, ⟨hc, -⟩, -⟩ := W
  subst hp
  exact Go.stp (fun t r => XS.land X.here hx rfl (hb hc hd) rfl <| hz ▸ r) k
theorem gLor (W : Wk l Z EL own nm cd ml ret R ws h0 K sf T h cells slots) {x y z : Int64} (hd : decode cd pc = .ok (.lor, 1)) (hz : x ||| y = z) (hp : pc + 1 = pc') (k : Go K P T pc' ls (.long z :: st)) : Go K P T pc ls (.long y :: .long x :: st) := by
  obtain ⟨vm0, locs, k0, X, e, hx, ⟨hc, -⟩, -⟩ := W
  subst hp
  exact Go.stp (fun t r => XS.lor X.here hx rfl (hb hc hd) rfl <| hz ▸ r) k
theorem gLxor (W : Wk l Z EL own nm cd ml ret R ws h0 K sf T h cells slots) {x y z : Int64} (hd : decode cd pc = .ok (.lxor, 1)) (hz : x ^^^ y = z) (hp : pc + 1 = pc') (k : Go K P T pc' ls (.long z :: st)) : Go K P T pc ls (.long y :: .long x :: st) := by
  obtain ⟨vm0, locs, k0, X, e, hx, ⟨hc, -⟩, -⟩ := W
  subst hp
  exact Go.stp (fun t r => XS.lxor X.here hx rfl (hb hc hd) rfl <| hz ▸ r) k
theorem gLshl (W : Wk l Z EL own nm cd ml ret R ws h0 K sf T h cells slots) {x z : Int64} {y : Int32} (hd : decode cd pc = .ok (.lshl, 1)) (hz : x <<< (y &&& 0x3f).toInt64 = z) (hp : pc + 1 = pc') (k : Go K P T pc' ls (.long z :: st)) : Go K P T pc ls (.int y :: .long x :: st) := by
  obtain ⟨vm0, locs, k0, X, e, hx, ⟨hc, -⟩, -⟩ := W
  subst hp
  exact Go.stp (fun t r => XS.lshl X.here hx rfl (hb hc hd) rfl <| hz ▸ r) k
theorem gLshr (W : Wk l Z EL own nm cd ml ret R ws h0 K sf T h cells slots) {x z : Int64} {y : Int32} (hd : decode cd pc = .ok (.lshr, 1)) (hz : x >>> (y &&& 0x3f).toInt64 = z) (hp : pc + 1 = pc') (k : Go K P T pc' ls (.long z :: st)) : Go K P T pc ls (.int y :: .long x :: st) := by
  obtain ⟨vm0, locs, k0, X, e, hx, ⟨hc, -⟩, -⟩ := W
  subst hp
  exact Go.stp (fun t r => XS.lshr X.here hx rfl (hb hc hd) rfl <| hz ▸ r) k
theorem gLushr (W : Wk l Z EL own nm cd ml ret R ws h0 K sf T h cells slots) {x z : Int64} {y : Int32} (hd : decode cd pc = .ok (.lushr, 1)) (hz : (x.toUInt64 >>> (y &&& 0x3f).toInt64.toUInt64).toInt64 = z) (hp : pc + 1 = pc') (k : Go K P T pc' ls (.long z :: st)) : Go K P T pc ls (.int y :: .long x :: st) := by
  obtain ⟨vm0, locs, k0, X, e, hx, ⟨hc, -⟩, -⟩ := W
  subst hp
  exact Go.stp (fun t r => XS.lushr X.here hx rfl (hb hc hd) rfl <| hz ▸ r) k
theorem gLcmp (W : Wk l Z EL own nm cd ml ret R ws h0 K sf T h cells slots) {x y : Int64} {z : Int32} (hd : decode cd pc = .ok (.lcmp, 1)) (hz : lcmpW x y = z) (hp : pc + 1 = pc') (k : Go K P T pc' ls (.int z :: st)) : Go K P T pc ls (.long y :: .long x :: st) := by
  obtain ⟨vm0, locs, k0, X, e, hx, ⟨hc, -⟩, -⟩ := W
  subst hp
  exact Go.stp (fun t r => XS.lcmp X.here hx rfl (hb hc hd) rfl (by subst hz; exact r)) k
theorem gDup (W : Wk l Z EL own nm cd ml ret R ws h0 K sf T h cells slots) {x : Value} (hd : decode cd pc = .ok (.dup, 1)) (hc1 : x.category = 1) (hp : pc + 1 = pc') (k : Go K P T pc' ls (x :: x :: st)) : Go K P T pc ls (x :: st) := by
  obtain ⟨vm0, locs, k0, X, e, hx, ⟨hc, -⟩, -⟩ := W
  subst hp
  exact Go.stp (fun t r => XS.dup X.here hx rfl (hb hc hd) rfl hc1 r) k
theorem gPop (W : Wk l Z EL own nm cd ml ret R ws h0 K sf T h cells slots) {x : Value} (hd : decode cd pc = .ok (.pop, 1)) (hc1 : x.category = 1) (hp : pc + 1 = pc') (k : Go K P T pc' ls st) : Go K P T pc ls (x :: st) := by
  obtain ⟨vm0, locs, k0, X, e, hx, ⟨hc, -⟩, -⟩ := W
  subst hp
  exact Go.stp (fun t r => XS.pop X.here hx rfl (hb hc hd) rfl hc1 r) k
theorem gIstoreN (W : Wk l Z EL own nm cd ml ret R ws h0 K sf T h cells slots) {i : Fin 4} {x : Int32} {ls' : Array Slot} (hd : decode cd pc = .ok (.istore_n i, 1)) (hl : storeLocals ls i.val (.int x) = some ls') (hp : pc + 1 = pc') (k : Go K P T pc' ls' st) : Go K P T pc ls (.int x :: st) := by
  obtain ⟨vm0, locs, k0, X, e, hx, ⟨hc, -⟩, -⟩ := W
  subst hp
  exact Go.stp (fun t r => XS.istoreN X.here hx rfl (hb hc hd) rfl hl r) k
theorem gIstore (W : Wk l Z EL own nm cd ml ret R ws h0 K sf T h cells slots) {i : Nat} {x : Int32} {ls' : Array Slot} (hd : decode cd pc = .ok (.istore i, 2)) (hl : storeLocals ls i (.int x) = some ls') (hp : pc + 2 = pc') (k : Go K P T pc' ls' st) : Go K P T pc ls (.int x :: st) := by
  obtain ⟨vm0, locs, k0, X, e, hx, ⟨hc, -⟩, -⟩ := W
  subst hp
  exact Go.stp (fun t r => XS.istore X.here hx rfl (hb hc hd) rfl hl r) k
theorem gAstoreN (W : Wk l Z EL own nm cd ml ret R ws h0 K sf T h cells slots) {i : Fin 4} {x : Value} {ls' : Array Slot} (hd : decode cd pc = .ok (.astore_n i, 1)) (hv : x.isRef = true) (hl : storeLocals ls i.val x = some ls') (hp : pc + 1 = pc') (k : Go K P T pc' ls' st) : Go K P T pc ls (x :: st) := by
  obtain ⟨vm0, locs, k0, X, e, hx, ⟨hc, -⟩, -⟩ := W
  subst hp
  exact Go.stp (fun t r => XS.astoreN X.here hx rfl (hb hc hd) rfl hv hl r) k
theorem gAstore (W : Wk l Z EL own nm cd ml ret R ws h0 K sf T h cells slots) {i : Nat} {x : Value} {ls' : Array Slot} (hd : decode cd pc = .ok (.astore i, 2)) (hv : x.isRef = true) (hl : storeLocals ls i x = some ls') (hp : pc + 2 = pc') (k : Go K P T pc' ls' st) : Go K P T pc ls (x :: st) := by
  obtain ⟨vm0, locs, k0, X, e, hx, ⟨hc, -⟩, -⟩ := W
  subst hp
  exact Go.stp (fun t r => XS.astore X.here hx rfl (hb hc hd) rfl hv hl r) k
theorem gLstoreN (W : Wk l Z EL own nm cd ml ret R ws h0 K sf T h cells slots) {i : Fin 4} {x : Int64} {ls' : Array Slot} (hd : decode cd pc = .ok (.lstore_n i, 1)) (hl : storeLocals ls i.val (.long x) = some ls') (hp : pc + 1 = pc') (k : Go K P T pc' ls' st) : Go K P T pc ls (.long x :: st) := by
  obtain ⟨vm0, locs, k0, X, e, hx, ⟨hc, -⟩, -⟩ := W
  subst hp
  exact Go.stp (fun t r => XS.lstoreN X.here hx rfl (hb hc hd) rfl hl r) k
theorem gLstore (W : Wk l Z EL own nm cd ml ret R ws h0 K sf T h cells slots) {i : Nat} {x : Int64} {ls' : Array Slot} (hd : decode cd pc = .ok (.lstore i, 2)) (hl : storeLocals ls i (.long x) = some ls') (hp : pc + 2 = pc') (k : Go K P T pc' ls' st) : Go K P T pc ls (.long x :: st) := by
  obtain ⟨vm0, locs, k0, X, e, hx, ⟨hc, -⟩, -⟩ := W
  subst hp
  exact Go.stp (fun t r => XS.lstore X.here hx rfl (hb hc hd) rfl hl r) k
theorem gIinc (W : Wk l Z EL own nm cd ml ret R ws h0 K sf T h cells slots) {i : Nat} {c0 : Int} {x z : Int32} {ls' : Array Slot} (hd : decode cd pc = .ok (.iinc i c0, 3)) (hl : ls[i]? = some (.val (.int x))) (hz : x + Int32.ofInt c0 = z) (hl2 : storeLocals ls i (.int z) = some ls') (hp : pc + 3 = pc') (k : Go K P T pc' ls' st) : Go K P T pc ls st := by
  obtain ⟨vm0, locs, k0, X, e, hx, ⟨hc, -⟩, -⟩ := W
  subst hp
  exact Go.stp (fun t r => XS.iinc X.here hx rfl (hb hc hd) hl (hz ▸ hl2) r) k
theorem gGoto (W : Wk l Z EL own nm cd ml ret R ws h0 K sf T h cells slots) {o : Int} (hd : decode cd pc = .ok (.goto o, 3)) (ho : 0 ≤ (pc : Int) + o) (hp : ((pc : Int) + o).toNat = pc') (k : Go K P T pc' ls st) : Go K P T pc ls st := by
  obtain ⟨vm0, locs, k0, X, e, hx, ⟨hc, -⟩, -⟩ := W
  exact Go.stp (fun t r => XS.goto X.here hx rfl (pc0 := pc) rfl (hb hc hd) ho hp r) k
theorem gIfYes (W : Wk l Z EL own nm cd ml ret R ws h0 K sf T h cells slots) {cn : ClassFile.Cond} {o : Int} {x : Int32} (hd : decode cd pc = .ok (.ifCond cn o, 3)) (hq : ifCond.holds cn x = true) (ho : 0 ≤ (pc : Int) + o) (hp : ((pc : Int) + o).toNat = pc') (k : Go K P T pc' ls st) : Go K P T pc ls (.int x :: st) := by
  obtain ⟨vm0, locs, k0, X, e, hx, ⟨hc, -⟩, -⟩ := W
  exact Go.stp (fun t r => XS.ifYes X.here hx rfl (pc0 := pc) rfl (hb hc hd) rfl hq ho hp r) k
theorem gIfNo (W : Wk l Z EL own nm cd ml ret R ws h0 K sf T h cells slots) {cn : ClassFile.Cond} {o : Int} {x : Int32} (hd : decode cd pc = .ok (.ifCond cn o, 3)) (hq : ifCond.holds cn x = false) (hp : pc + 3 = pc') (k : Go K P T pc' ls st) : Go K P T pc ls (.int x :: st) := by
  obtain ⟨vm0, locs, k0, X, e, hx, ⟨hc, -⟩, -⟩ := W
  subst hp
  exact Go.stp (fun t r => XS.ifNo X.here hx rfl (hb hc hd) rfl hq r) k
theorem gIcmpYes (W : Wk l Z EL own nm cd ml ret R ws h0 K sf T h cells slots) {cn : ClassFile.Cond} {o : Int} {x y : Int32} (hd : decode cd pc = .ok (.if_icmp cn o, 3)) (hq : if_icmp.holds cn x y = true) (ho : 0 ≤ (pc : Int) + o) (hp : ((pc : Int) + o).toNat = pc') (k : Go K P T pc' ls st) : Go K P T pc ls (.int y :: .int x :: st) := by
  obtain ⟨vm0, locs, k0, X, e, hx, ⟨hc, -⟩, -⟩ := W
  exact Go.stp (fun t r => XS.icmpYes X.here hx rfl (pc0 := pc) rfl (hb hc hd) rfl hq ho hp r) k
theorem gIcmpNo (W : Wk l Z EL own nm cd ml ret R ws h0 K sf T h cells slots) {cn : ClassFile.Cond} {o : Int} {x y : Int32} (hd : decode cd pc = .ok (.if_icmp cn o, 3)) (hq : if_icmp.holds cn x y = false) (hp : pc + 3 = pc') (k : Go K P T pc' ls st) : Go K P T pc ls (.int y :: .int x :: st) := by
  obtain ⟨vm0, locs, k0, X, e, hx, ⟨hc, -⟩, -⟩ := W
  subst hp
  exact Go.stp (fun t r => XS.icmpNo X.here hx rfl (hb hc hd) rfl hq r) k
theorem gIfnullYes (W : Wk l Z EL own nm cd ml ret R ws h0 K sf T h cells slots) {o : Int} (hd : decode cd pc = .ok (.ifnull o, 3)) (ho : 0 ≤ (pc : Int) + o) (hp : ((pc : Int) + o).toNat = pc') (k : Go K P T pc' ls st) : Go K P T pc ls (.null :: st) := by
  obtain ⟨vm0, locs, k0, X, e, hx, ⟨hc, -⟩, -⟩ := W
  exact Go.stp (fun t r => XS.ifnullYes X.here hx rfl (pc0 := pc) rfl (hb hc hd) rfl ho hp r) k
theorem gIfnullNo (W : Wk l Z EL own nm cd ml ret R ws h0 K sf T h cells slots) {o : Int} {b : Addr} (hd : decode cd pc = .ok (.ifnull o, 3))  (hp : pc + 3 = pc') (k : Go K P T pc' ls st) : Go K P T pc ls (.ref b :: st) := by
  obtain ⟨vm0, locs, k0, X, e, hx, ⟨hc, -⟩, -⟩ := W
  subst hp
  exact Go.stp (fun t r => XS.ifnullNo X.here hx rfl (hb hc hd) rfl r) k
theorem gIfnonnullYes (W : Wk l Z EL own nm cd ml ret R ws h0 K sf T h cells slots) {o : Int} {b : Addr} (hd : decode cd pc = .ok (.ifnonnull o, 3)) (ho : 0 ≤ (pc : Int) + o) (hp : ((pc : Int) + o).toNat = pc') (k : Go K P T pc' ls st) : Go K P T pc ls (.ref b :: st) := by
  obtain ⟨vm0, locs, k0, X, e, hx, ⟨hc, -⟩, -⟩ := W
  exact Go.stp (fun t r => XS.ifnonnullYes X.here hx rfl (pc0 := pc) rfl (hb hc hd) rfl ho hp r) k
theorem gIfnonnullNo (W : Wk l Z EL own nm cd ml ret R ws h0 K sf T h cells slots) {o : Int} (hd : decode cd pc = .ok (.ifnonnull o, 3))  (hp : pc + 3 = pc') (k : Go K P T pc' ls st) : Go K P T pc ls (.null :: st) := by
  obtain ⟨vm0, locs, k0, X, e, hx, ⟨hc, -⟩, -⟩ := W
  subst hp
  exact Go.stp (fun t r => XS.ifnonnullNo X.here hx rfl (hb hc hd) rfl r) k
theorem gAcmp (W : Wk l Z EL own nm cd ml ret R ws h0 K sf T h cells slots) {cn : ACond} {o : Int} {x y : Value} {same : Bool} (hd : decode cd pc = .ok (.if_acmp cn o, 3)) (h1 : x.isRef = true) (h2 : y.isRef = true) (hq : decide (x = y) = same) (ho : 0 ≤ (pc : Int) + o) (hp : pc' = if acV cn same = true then ((pc : Int) + o).toNat else pc + 3) (k : Go K P T pc' ls st) : Go K P T pc ls (y :: x :: st) := by
  obtain ⟨vm0, locs, k0, X, e, hx, ⟨hc, -⟩, -⟩ := W
  exact Go.stp (fun t r => acmp X hx rfl h1 h2 (pc0 := pc) rfl (hb hc hd) rfl hq ho hp r) k
end Pure
section Laws
variable {l : Launch} {Z : State} {EL : List (String × Nat)} {own nm : String} {cd : ByteArray} {ml : Nat} {ret : Option FieldType} {R : Room} {ws : List Addr} {h0 : Heap} {K : Cx} {sf : List Addr} {T : State} {h h' : Heap} {cells slots : Nat} {P : Outcome → State → Prop} {pc pc' : Nat} {ls : Array Slot} {st : List Value} {a0 : Array Value}
/-- getfield -/
theorem wGetF (W : Wk l Z EL own nm cd ml ret R ws h0 K sf T h cells slots) {R0 O n d : String} {index : Nat} (hd : decode cd pc = .ok (.getfield index, 3)) (w : (Cond.fieldLink own index R0 n d).before a0 Z = true) (via : Via Z R0 O n d) {a : Addr} {v : Value} (F : Fld Z h a O n d v) (hp : pc + 3 = pc')
    (k : ∀ T', Wk l Z EL own nm cd ml ret R ws h0 K sf T' h cells slots → Go K P T' pc' ls (v :: st)) : Go K P T pc ls (.ref a :: st) := by
  obtain ⟨vm0, locs, k0, X, e, hx, hc, e0, hZ, hown, r⟩ := W
  subst hp
  obtain ⟨T', X', e', f⟩ := getF X hx hZ hown (host := "") (Or.inl w) via e F (g := mkF K.2.2.2.1 pc ls (.ref a :: st)) rfl rfl (hb hc.1 hd)
  exact Go.stp f (k T' ⟨vm0, locs, k0, X', e', hx, hc, e0, hZ, hown, r⟩)
/-- getstatic, of a static that stands as at the law's start -/
theorem wGetS (W : Wk l Z EL own nm cd ml ret R ws h0 K sf T h cells slots) {R0 O n d : String} {index : Nat} (hd : decode cd pc = .ok (.getstatic index, 3)) (w : (Cond.fieldLink own index R0 n d).before a0 Z = true) (via : Via Z R0 O n d) {v : Value} (F : Sta Z Z.heap O n d v) (hp : pc + 3 = pc')
    (k : ∀ T', Wk l Z EL own nm cd ml ret R ws h0 K sf T' h cells slots → Go K P T' pc' ls (v :: st)) : Go K P T pc ls st := by
  have hO := W.old
  obtain ⟨vm0, locs, k0, X, e, hx, hc, e0, hZ, hown, r⟩ := W
  subst hp
  obtain ⟨T', X', e', f⟩ := getS X hx hZ hown w via (host := "") e (Sta.ext hO.2 F) (g := mkF K.2.2.2.1 pc ls st) rfl (hb hc.1 hd)
  exact Go.stp f (k T' ⟨vm0, locs, k0, X', e', hx, hc, e0, hZ, hown, r⟩)
/-- checkcast that holds -/
theorem wCast (W : Wk l Z EL own nm cd ml ret R ws h0 K sf T h cells slots) {C : String} {index : Nat} (hd : decode cd pc = .ok (.checkcast index, 3)) (w : (Cond.classLink own index C).before a0 Z = true) {a : Addr} (F : Ins Z h a C true) (hp : pc + 3 = pc')
    (k : ∀ T', Wk l Z EL own nm cd ml ret R ws h0 K sf T' h cells slots → Go K P T' pc' ls (.ref a :: st)) : Go K P T pc ls (.ref a :: st) := by
  obtain ⟨vm0, locs, k0, X, e, hx, hc, e0, hZ, hown, r⟩ := W
  subst hp
  obtain ⟨T', X', e', f⟩ := castY X hx hZ hown w e F (g := mkF K.2.2.2.1 pc ls (.ref a :: st)) rfl rfl (hb hc.1 hd)
  exact Go.stp f (k T' ⟨vm0, locs, k0, X', e', hx, hc, e0, hZ, hown, r⟩)
/-- instanceof that holds -/
theorem wInst (W : Wk l Z EL own nm cd ml ret R ws h0 K sf T h cells slots) {C : String} {index : Nat} (hd : decode cd pc = .ok (.instanceof index, 3)) (w : (Cond.classLink own index C).before a0 Z = true) {a : Addr} (F : Ins Z h a C true) (hp : pc + 3 = pc')
    (k : ∀ T', Wk l Z EL own nm cd ml ret R ws h0 K sf T' h cells slots → Go K P T' pc' ls (.int 1 :: st)) : Go K P T pc ls (.ref a :: st) := by
  obtain ⟨vm0, locs, k0, X, e, hx, hc, e0, hZ, hown, r⟩ := W
  subst hp
  obtain ⟨T', X', e', f⟩ := instY X hx hZ hown w e F (g := mkF K.2.2.2.1 pc ls (.ref a :: st)) rfl rfl (hb hc.1 hd)
  exact Go.stp f (k T' ⟨vm0, locs, k0, X', e', hx, hc, e0, hZ, hown, r⟩)
theorem wExt {vm0 : Vm} {s : State} (hC : CHr Z EL s.vm h0 vm0 h) (hs : ∀ x ∈ sf, Safe Z EL vm0 h x ∧ x < h.size ∧ (x ∈ ws ∨ h0.size ≤ x)) (E : Ext h h') :
    CHr Z EL s.vm h0 vm0 h' ∧ ∀ x ∈ sf, Safe Z EL vm0 h' x ∧ x < h'.size ∧ (x ∈ ws ∨ h0.size ≤ x) :=
  ⟨hC.trans (CHr.ext E hC.1), fun x q => ⟨Safe.ext E hC.1 (hs x q).1, Nat.lt_of_lt_of_le (hs x q).2.1 E.1, (hs x q).2.2⟩⟩
/-- new -/
theorem wNewO (W : Wk l Z EL own nm cd ml ret R ws h0 K sf T h cells slots) {C : String} {index n : Nat} (hd : decode cd pc = .ok (.new index, 3)) (w : (Cond.classLink own index C).before a0 Z = true) (wi : (Cond.instantiable C n).before a0 Z = true) (wz : (Cond.initialized C).before a0 Z = true) (hc' : cells + 1 ≤ R.cells) (hl : slots + n ≤ R.slots) (hp : pc + 3 = pc')
    (k : ∀ T' h' a, Wk l Z EL own nm cd ml ret R ws h0 K (a :: sf) T' h' (cells + 1) (slots + n) → Ext h h' → a = h.size → Exa Z h' a C → (∀ {O nm d : String} {ty : FieldType}, Laid Z a0 C O nm d → parseFieldDescriptor d = some ty → Fld Z h' a O nm d (defaultValue ty)) → Go K P T' pc' ls (.ref a :: st)) : Go K P T pc ls st := by
  have hg := W.grow
  obtain ⟨vm0, locs, k0, X, e, hx, hc, e0, hZ, hown, hS, hk, hL, hC, hO, hE, hw, hz, hs⟩ := W
  subst hp
  obtain ⟨T', h', X', e', E, A, D, -, f⟩ := newO X hx hZ hown w wi wz e (g := mkF K.2.2.2.1 pc ls st) rfl (hb hc.1 hd) hc' hl
  obtain ⟨hC', hs'⟩ := wExt (s := K.2.2.1) hC hs E
  refine Go.stp f (k T' h' h.size ⟨vm0, locs, k0, X', e', hx, hc, e0, hZ, hown, hS, Nat.le_trans hk E.1, hL, hC', hO.ext E, hE, hw, hz, fun x q => ?_⟩ E rfl A D)
  rcases List.mem_cons.mp q with rfl | q
  · exact ⟨Safe.ext E hC.1 (Safe.new (Nat.le_refl _)), A.lt, Or.inr hg⟩
  · exact hs' x q
/-- newarray -/
theorem wNewP (W : Wk l Z EL own nm cd ml ret R ws h0 K sf T h cells slots) {aty : ArrayType} (hd : decode cd pc = .ok (.newarray aty, 2)) (w : (Cond.arrayClass (newarray.typeOf aty)).before a0 Z = true) {n : Int32} (hn : ¬ n < 0) {cap : Nat} (hcap : n.toNatClampNeg ≤ cap) (hbig : cap * 8 ≤ 536870912) (hc' : cells + 1 ≤ R.cells) (hl : slots + cap ≤ R.slots) (hp : pc + 2 = pc')
    (k : ∀ T' h' a cA, Wk l Z EL own nm cd ml ret R ws h0 K (a :: sf) T' h' (cells + 1) (slots + cap) → Ext h h' → a = h.size → (∀ m : Nat, Arv Z h' a cA (newarray.typeOf aty) n (List.replicate m (defaultValue (newarray.typeOf aty))) (defaultValue (newarray.typeOf aty))) → Go K P T' pc' ls (.ref a :: st)) : Go K P T pc ls (.int n :: st) := by
  have hg := W.grow
  obtain ⟨vm0, locs, k0, X, e, hx, hc, e0, hZ, hown, hS, hk, hL, hC, hO, hE, hw, hz, hs⟩ := W
  subst hp
  obtain ⟨T', h', cA, X', e', E, A, f⟩ := newP X hx hZ w e (g := mkF K.2.2.2.1 pc ls (.int n :: st)) rfl (hb hc.1 hd) rfl hn hcap hbig hc' hl
  obtain ⟨hC', hs'⟩ := wExt (s := K.2.2.1) hC hs E
  have F := Arv.new A hn
  refine Go.stp f (k T' h' h.size cA ⟨vm0, locs, k0, X', e', hx, hc, e0, hZ, hown, hS, Nat.le_trans hk E.1, hL, hC', hO.ext E, hE, hw, hz, fun x q => ?_⟩ E rfl (fun m => F.pad (pad_rep [] _ m)))
  rcases List.mem_cons.mp q with rfl | q
  · exact ⟨Safe.ext E hC.1 (Safe.new (Nat.le_refl _)), A.lt, Or.inr hg⟩
  · exact hs' x q
/-- anewarray -/
theorem wNewR (W : Wk l Z EL own nm cd ml ret R ws h0 K sf T h cells slots) {C : String} {index : Nat} (hd : decode cd pc = .ok (.anewarray index, 3)) (w : (Cond.classLink own index C).before a0 Z = true) (w2 : (Cond.arrayOver (.object C)).before a0 Z = true) {n : Int32} (hn : ¬ n < 0) {cap : Nat} (hcap : n.toNatClampNeg ≤ cap) (hbig : cap * 8 ≤ 536870912) (hc' : cells + 1 ≤ R.cells) (hl : slots + cap ≤ R.slots) (hp : pc + 3 = pc')
    (k : ∀ T' h' a cA, Wk l Z EL own nm cd ml ret R ws h0 K (a :: sf) T' h' (cells + 1) (slots + cap) → Ext h h' → a = h.size → (∀ m : Nat, Arv Z h' a cA (.object C) n (List.replicate m .null) .null) → Ovr Z cA C → Go K P T' pc' ls (.ref a :: st)) : Go K P T pc ls (.int n :: st) := by
  have hg := W.grow
  obtain ⟨vm0, locs, k0, X, e, hx, hc, e0, hZ, hown, hS, hk, hL, hC, hO, hE, hw, hz, hs⟩ := W
  subst hp
  obtain ⟨T', h', cA, X', e', E, A, Ov, f⟩ := newR X hx hZ hown w w2 e (g := mkF K.2.2.2.1 pc ls (.int n :: st)) rfl (hb hc.1 hd) rfl hn hcap hbig hc' hl
  obtain ⟨hC', hs'⟩ := wExt (s := K.2.2.1) hC hs E
  have F := Arv.new A hn
  refine Go.stp f (k T' h' h.size cA ⟨vm0, locs, k0, X', e', hx, hc, e0, hZ, hown, hS, Nat.le_trans hk E.1, hL, hC', hO.ext E, hE, hw, hz, fun x q => ?_⟩ E rfl (fun m => F.pad (pad_rep [] _ m)) Ov)
  rcases List.mem_cons.mp q with rfl | q
  · exact ⟨Safe.ext E hC.1 (Safe.new (Nat.le_refl _)), A.lt, Or.inr hg⟩
  · exact hs' x q
theorem wWr {vm0 : Vm} {s : State} {a : Addr} {sl : Nat} {v : Value} {locs : List Loc} (hC : CHr Z EL s.vm h0 vm0 h) (hs : ∀ x ∈ sf, Safe Z EL vm0 h x ∧ x < h.size ∧ (x ∈ ws ∨ h0.size ≤ x)) (hL : ∀ x ∈ locs, x.base ∈ ws ∨ h0.size ≤ x.base) (hO : Old Z Z.heap.size h) (hw : ∀ x ∈ ws, Z.heap.size ≤ x) (hz : Z.heap.size ≤ h0.size) (ha : a ∈ sf) (Wr' : Wr h h' a sl v) :
    CHr Z EL s.vm h0 vm0 h' ∧ (∀ x ∈ sf, Safe Z EL vm0 h' x ∧ x < h'.size ∧ (x ∈ ws ∨ h0.size ≤ x)) ∧ (∀ x ∈ locs ++ [⟨a, sl⟩], x.base ∈ ws ∨ h0.size ≤ x.base) ∧ Old Z Z.heap.size h' := by
  obtain ⟨s1, s2, s3⟩ := hs a ha
  refine ⟨hC.trans (CHr.wr Wr' s1 hC.1), fun x q => ⟨Safe.wr Wr' s1 hC.1 (hs x q).1, by rw [Wr'.size]; exact (hs x q).2.1, (hs x q).2.2⟩, fun x q => ?_, hO.wr Wr' ?_⟩
  · rcases List.mem_append.mp q with q | q
    · exact hL x q
    · cases List.mem_singleton.mp q; exact s3
  · rcases s3 with z | z
    · exact hw a z
    · exact Nat.le_trans hz z
/-- putfield -/
theorem wPutF (W : Wk l Z EL own nm cd ml ret R ws h0 K sf T h cells slots) {R0 O n d C : String} {index kk : Nat} {ty : FieldType} (hd : decode cd pc = .ok (.putfield index, 3)) (w : (Cond.fieldLink own index R0 n d).before a0 Z = true) (via : Via Z R0 O n d) {a : Addr} {v old : Value} (ha : a ∈ sf) (F : Fld Z h a O n d old) (E : Exa Z h a C)
    (L : (Cond.lays C O n d).before a0 Z = true ∨ ((Cond.laysFinal C O n d).before a0 Z = true ∧ own = O ∧ nm = "<init>")) (wi : (Cond.instantiable C kk).before a0 Z = true) (hty : parseFieldDescriptor d = some ty) (hn : narrow ty v = v) (hf : fits ty v = true) (hp : pc + 3 = pc')
    (k : ∀ T' h', Wk l Z EL own nm cd ml ret R ws h0 K sf T' h' cells slots → Wr h h' a (Jvm.RoadKit.slotOf Z O n d) v → Go K P T' pc' ls st) : Go K P T pc ls (v :: .ref a :: st) := by
  obtain ⟨vm0, locs, k0, X, e, hx, hc, e0, hZ, hown, hS, hk, hL, hC, hO, hE, hw, hz, hs⟩ := W
  subst hp
  obtain ⟨T', h', X', e', Wr', f⟩ := putF X hx hZ hown (host := "") (Or.inl w) via e F E (L.imp id fun q => ⟨q.1, q.2.1, hc.2.2.2.2.trans q.2.2⟩) wi hty hn hf (g := mkF K.2.2.2.1 pc ls (v :: .ref a :: st)) rfl rfl (hb hc.1 hd)
  obtain ⟨hC', hs', hL', hO'⟩ := wWr (s := K.2.2.1) hC hs hL hO hw hz ha Wr'
  exact Go.stp f (k T' h' ⟨vm0, _, k0, X', e', hx, hc, e0, hZ, hown, hS, by rw [Wr'.size]; exact hk, hL', hC', hO', hE, hw, hz, hs'⟩ Wr')
/-- castore -/
theorem wStC (W : Wk l Z EL own nm cd ml ret R ws h0 K sf T h cells slots) (hd : decode cd pc = .ok (.castore, 1)) {a : Addr} (ha : a ∈ sf) {kA : ClassId} {z j x y : Int32} {vs : List Value} {dv : Value} (A : Arv Z h a kA .char z vs dv) (hj : ¬ j < 0 ∧ j < z) (hy : nar .char x = y) (i : Nat) (hi : j.toNatClampNeg = i) (hil : i < vs.length) (hp : pc + 1 = pc')
    (k : ∀ T' h', Wk l Z EL own nm cd ml ret R ws h0 K sf T' h' cells slots → Wr h h' a j.toNatClampNeg (.int y) → Arv Z h' a kA .char z (vs.set i (.int y)) dv → Go K P T' pc' ls st) : Go K P T pc ls (.int x :: .int j :: .ref a :: st) := by
  obtain ⟨vm0, locs, k0, X, e, hx, hc, e0, hZ, hown, hS, hk, hL, hC, hO, hE, hw, hz, hs⟩ := W
  subst hp hy
  obtain ⟨cl, A1, A2, A3, A4, A5, A6⟩ := A
  obtain ⟨T', h', X', e', Wr', f⟩ := stC X hx hZ e A1 (inb_of A3 hj) (g := mkF K.2.2.2.1 pc ls (.int x :: .int j :: .ref a :: st)) rfl rfl (hb hc.1 hd)
  obtain ⟨hC', hs', hL', hO'⟩ := wWr (s := K.2.2.1) hC hs hL hO hw hz ha Wr'
  exact Go.stp f (k T' h' ⟨vm0, _, k0, X', e', hx, hc, e0, hZ, hown, hS, by rw [Wr'.size]; exact hk, hL', hC', hO', hE, hw, hz, hs'⟩ Wr' (Arv.set A1 A2 A3 A4 A5 A6 (fits_nar_char x) Wr' i hi hil))
/-- bastore into a byte[] -/
theorem wStB (W : Wk l Z EL own nm cd ml ret R ws h0 K sf T h cells slots) (hd : decode cd pc = .ok (.bastore, 1)) {a : Addr} (ha : a ∈ sf) {kA : ClassId} {z j x y : Int32} {vs : List Value} {dv : Value} (A : Arv Z h a kA .byte z vs dv) (hj : ¬ j < 0 ∧ j < z) (hy : x.toInt8.toInt32 = y) (i : Nat) (hi : j.toNatClampNeg = i) (hil : i < vs.length) (hp : pc + 1 = pc')
    (k : ∀ T' h', Wk l Z EL own nm cd ml ret R ws h0 K sf T' h' cells slots → Wr h h' a j.toNatClampNeg (.int y) → Arv Z h' a kA .byte z (vs.set i (.int y)) dv → Go K P T' pc' ls st) : Go K P T pc ls (.int x :: .int j :: .ref a :: st) := by
  obtain ⟨vm0, locs, k0, X, e, hx, hc, e0, hZ, hown, hS, hk, hL, hC, hO, hE, hw, hz, hs⟩ := W
  subst hp hy
  obtain ⟨cl, A1, A2, A3, A4, A5, A6⟩ := A
  obtain ⟨T', h', X', e', Wr', f⟩ := stB X hx hZ e A1 (inb_of A3 hj) (g := mkF K.2.2.2.1 pc ls (.int x :: .int j :: .ref a :: st)) rfl rfl (hb hc.1 hd)
  obtain ⟨hC', hs', hL', hO'⟩ := wWr (s := K.2.2.1) hC hs hL hO hw hz ha Wr'
  exact Go.stp f (k T' h' ⟨vm0, _, k0, X', e', hx, hc, e0, hZ, hown, hS, by rw [Wr'.size]; exact hk, hL', hC', hO', hE, hw, hz, hs'⟩ Wr' (Arv.set A1 A2 A3 A4 A5 A6 (fits_nar_byte x) Wr' i hi hil))
/-- arraylength -/
theorem wLen (W : Wk l Z EL own nm cd ml ret R ws h0 K sf T h cells slots) (hd : decode cd pc = .ok (.arraylength, 1)) {a : Addr} {kA : ClassId} {ty : FieldType} {z : Int32} {vs : List Value} {dv : Value} (A : Arv Z h a kA ty z vs dv) (hp : pc + 1 = pc')
    (k : Go K P T pc' ls (.int z :: st)) : Go K P T pc ls (.ref a :: st) := by
  obtain ⟨vm0, locs, k0, X, e, hx, hc, e0, hZ, r⟩ := W
  subst hp
  obtain ⟨cl, A1, A2, A3, A4, -⟩ := A
  refine Go.stp (fun t q => ?_) k
  have ez : cl.slots.size.toInt32 = z := len_of A3 A4
  exact X.arraylength hx (by rw [e]; exact A1.1) (State.isArrayOf_alike hZ.alike A1.2.1) (g := mkF K.2.2.2.1 pc ls (.ref a :: st)) rfl rfl (hb hc.1 hd) _ (by rw [ez]; exact q)
/-- caload -/
theorem wLdC (W : Wk l Z EL own nm cd ml ret R ws h0 K sf T h cells slots) (hd : decode cd pc = .ok (.caload, 1)) {a : Addr} {kA : ClassId} {z j : Int32} {vs : List Value} {v dv : Value} (A : Arv Z h a kA .char z vs dv) (hj : ¬ j < 0 ∧ j < z) (hv : vs.getD j.toNatClampNeg dv = v) (hp : pc + 1 = pc')
    (k : Go K P T pc' ls (v :: st)) : Go K P T pc ls (.int j :: .ref a :: st) := by
  obtain ⟨vm0, locs, k0, X, e, hx, hc, e0, hZ, r⟩ := W
  subst hp
  obtain ⟨cl, A1, A2, A3, A4, A5, -⟩ := A
  exact Go.stp (fun t q => X.caload hx (by rw [e]; exact A1.1) (State.isArrayOf_alike hZ.alike A1.2.1) A1.2.2 (inb_of A3 hj) (A5.at (inb_of A3 hj) hv) (g := mkF K.2.2.2.1 pc ls (.int j :: .ref a :: st)) rfl rfl (hb hc.1 hd) _ q) k
/-- baload of a byte[] -/
theorem wLdB (W : Wk l Z EL own nm cd ml ret R ws h0 K sf T h cells slots) (hd : decode cd pc = .ok (.baload, 1)) {a : Addr} {kA : ClassId} {z j : Int32} {vs : List Value} {v dv : Value} (A : Arv Z h a kA .byte z vs dv) (hj : ¬ j < 0 ∧ j < z) (hv : vs.getD j.toNatClampNeg dv = v) (hp : pc + 1 = pc')
    (k : Go K P T pc' ls (v :: st)) : Go K P T pc ls (.int j :: .ref a :: st) := by
  obtain ⟨vm0, locs, k0, X, e, hx, hc, e0, hZ, r⟩ := W
  subst hp
  obtain ⟨cl, A1, A2, A3, A4, A5, -⟩ := A
  exact Go.stp (fun t q => X.baloadBytes hx (by rw [e]; exact A1.1) (State.isArrayOf_alike hZ.alike A1.2.1) A1.2.2 (inb_of A3 hj) (A5.at (inb_of A3 hj) hv) (g := mkF K.2.2.2.1 pc ls (.int j :: .ref a :: st)) rfl rfl (hb hc.1 hd) _ q) k
/-- Object.<init> -/
theorem wInitO (W : Wk l Z EL own nm cd ml ret R ws h0 K sf T h cells slots) {index : Nat} (hd : decode cd pc = .ok (.invokespecial index, 3)) (w1 : (Cond.methodLink own index Lib.objectInit).before a0 Z = true) (w2 : (Cond.instanceMethod Lib.objectInit).before a0 Z = true) (w3 : (Cond.code Lib.objectInit ⟨#[0xb1]⟩ 1 none).before a0 Z = true) {a : Addr} (hsz : ls.size = ml) (hf : 1 ≤ R.frames) (Wd : Nat) (hW : (st.map fun v => v.category).sum ≤ Wd) (hl : Wd + 12 ≤ R.locals) (hp : pc + 3 = pc')
    (k : ∀ T', Wk l Z EL own nm cd ml ret R ws h0 K sf T' h cells slots → Go K P T' pc' ls st) : Go K P T pc ls (.ref a :: st) := by
  obtain ⟨vm0, locs, k0, X, e, hx, hc, e0, hZ, hown, r⟩ := W
  subst hp
  obtain ⟨T', X', e', f⟩ := initO X hx hZ hown w1 w2 w3 e (g := mkF K.2.2.2.1 pc ls (.ref a :: st)) rfl (hsz.trans hc.2.1.symm) rfl (hb hc.1 hd) hf (W := Wd) (by show 2 * 0 + _ ≤ _; omega) hl
  exact Go.stp f (k T' ⟨vm0, locs, k0, X', e', hx, hc, e0, hZ, hown, r⟩)
/-- ldc of a String constant of EL, read -/
theorem wLdcS (W : Wk l Z EL own nm cd ml ret R ws h0 K sf T h cells slots) {text : String} {index : Nat} (hd : decode cd pc = .ok (.ldc index, 2)) (w : (Cond.stringLink own index text).before a0 Z = true) (wS : ∀ a ∈ Bundle.stringAtoms, a.before a0 Z = true) (hEL : EW Z a0 EL) (hmem : (own, index) ∈ EL)
    {vs : List Value} {z : Int32} (ht : (∀ c ∈ text.toList, c.toNat < 256) ∧ text.toList.map (fun c => Value.int (Jvm.Lit.byteI c.toNat.toUInt16)) = vs) (hz' : ¬ z < 0) (hl : z.toNatClampNeg = vs.length) {n : Nat} (hn : 4 * text.toList.length ≤ n) (hbig : n ≤ 536870912) (hc' : cells + 2 ≤ R.cells) (hl' : slots + (n + 4) ≤ R.slots) (hp : pc + 2 = pc')
    (k : ∀ T' h' a b kb, Wk l Z EL own nm cd ml ret R ws h0 K sf T' h' (cells + 2) (slots + (n + 4)) → Ext h h' → Exa Z h' a "java/lang/String" → Fld Z h' a "java/lang/String" "coder" "B" (.int 0) → Fld Z h' a "java/lang/String" "value" "[B" (.ref b) → Arv Z h' b kb .byte z vs (.int 0) → (∀ x ∈ sf, x ≠ a ∧ x ≠ b) → Go K P T' pc' ls (.ref a :: st)) : Go K P T pc ls st := by
  obtain ⟨vm0, locs, k0, X, e, hx, hc, e0, hZ, hown, hS, hk, hL, hC, hO, hE, hw, hz, hs⟩ := W
  subst hp
  obtain ⟨a, T', h', k1, b, kb, X', e', E, hS', hk', hW', hown', A, F1, F2, A2, -, -, hC', -, hne, f⟩ := ldcCH X hx hZ hown w wS e hS hk hEL hmem hC.1 ht hz' hl (g := mkF K.2.2.2.1 pc ls st) rfl (hb hc.1 hd) hn hbig hc' hl'
  have hs' : ∀ x ∈ sf, Safe Z EL T'.vm h' x ∧ x < h'.size ∧ (x ∈ ws ∨ h0.size ≤ x) := fun x q => ⟨hC'.safe (hs x q).2.1 (hs x q).1, Nat.lt_of_lt_of_le (hs x q).2.1 E.1, (hs x q).2.2⟩
  exact Go.stp f (k T' h' a b kb ⟨T'.vm, locs, k1, X', e', hx, hc, e0, hW', hown', hS', hk', hL, hC.trans hC', hO.ext E, hE, hw, hz, hs'⟩ E A F1 F2 A2 fun x q => hne x (hs' x q).1)
/-- ldc of an int -/
theorem wLdcI (W : Wk l Z EL own nm cd ml ret R ws h0 K sf T h cells slots) {index : Nat} {v : Int32} (hd : decode cd pc = .ok (.ldc index, 2)) (w : (Cond.constant own index v).before a0 Z = true) (hp : pc + 2 = pc') (k : Go K P T pc' ls (.int v :: st)) : Go K P T pc ls st := by
  obtain ⟨vm0, locs, k0, X, e, hx, hc, e0, hZ, hown, r⟩ := W
  subst hp
  exact Go.stp (fun t q => X.ldcInt hx hown (mv (s := K.2.2.1.setVm vm0) hZ w) (g := mkF K.2.2.2.1 pc ls st) rfl (hb hc.1 hd) _ q) k
/-- ldc2_w of a long -/
theorem wLdcL (W : Wk l Z EL own nm cd ml ret R ws h0 K sf T h cells slots) {index : Nat} {v : Int64} (hd : decode cd pc = .ok (.ldc2_w index, 3)) (w : (Cond.constantLong own index v).before a0 Z = true) (hp : pc + 3 = pc') (k : Go K P T pc' ls (.long v :: st)) : Go K P T pc ls st := by
  obtain ⟨vm0, locs, k0, X, e, hx, hc, e0, hZ, hown, r⟩ := W
  subst hp
  exact Go.stp (fun t q => X.ldc2Long hx hown (mv (s := K.2.2.1.setVm vm0) hZ w) (g := mkF K.2.2.2.1 pc ls st) rfl (hb hc.1 hd) _ q) k
/-- ldc of any String constant, unread -/
theorem wLdcO (W : Wk l Z EL own nm cd ml ret R ws h0 K sf T h cells slots) {text : String} {index : Nat} (hd : decode cd pc = .ok (.ldc index, 2)) (w : (Cond.stringLink own index text).before a0 Z = true) (wS : ∀ a ∈ Bundle.stringAtoms, a.before a0 Z = true) (hEL : EW Z a0 EL) {n : Nat} (hn : 4 * text.toList.length ≤ n) (hbig : n ≤ 536870912) (hc' : cells + 2 ≤ R.cells) (hl' : slots + (n + 4) ≤ R.slots) (hp : pc + 2 = pc')
    (k : ∀ T' h' a, Wk l Z EL own nm cd ml ret R ws h0 K sf T' h' (cells + 2) (slots + (n + 4)) → Ext h h' → Go K P T' pc' ls (.ref a :: st)) : Go K P T pc ls st := by
  obtain ⟨vm0, locs, k0, X, e, hx, hc, e0, hZ, hown, hS, hk, hL, hC, hO, hE, hw, hz, hs⟩ := W
  subst hp
  obtain ⟨a, T', h', k1, X', e', E, hS', hk', hW', hown', hC', -, f⟩ := ldcOH X hx hZ hown w wS e hS hk hEL hC.1 (g := mkF K.2.2.2.1 pc ls st) rfl (hb hc.1 hd) hn hbig hc' hl'
  have hs' : ∀ x ∈ sf, Safe Z EL T'.vm h' x ∧ x < h'.size ∧ (x ∈ ws ∨ h0.size ≤ x) := fun x q => ⟨hC'.safe (hs x q).2.1 (hs x q).1, Nat.lt_of_lt_of_le (hs x q).2.1 E.1, (hs x q).2.2⟩
  exact Go.stp f (k T' h' a ⟨T'.vm, locs, k1, X', e', hx, hc, e0, hW', hown', hS', hk', hL, hC.trans hC', hO.ext E, hE, hw, hz, hs'⟩ E)
end Laws
section Calls
variable {l : Launch} {Z : State} {EL : List (String × Nat)} {own nm : String} {cd : ByteArray} {ml : Nat} {ret : Option FieldType} {R : Room} {ws : List Addr} {h0 : Heap} {K : Cx} {sf : List Addr} {T : State} {h h' : Heap} {cells slots : Nat} {P : Outcome → State → Prop} {pc pc' : Nat} {ls : Array Slot} {st : List Value} {a0 : Array Value}
/-- a callee's payment, whatever has been interned -/
def Cb (l : Launch) (Z : State) (EL : List (String × Nat)) (R : Room) (K : Cx) (y : MethodName) (len Wd kc ks : Nat) (as' : Array Value) (h : Heap) (wsc : List Addr) (Q : Option Value → Heap → List Addr → Prop) : Prop :=
  ∀ vm0, Z.Warmed39 vm0 → CHv Z EL vm0 h → (∀ x ∈ wsc, Safe Z EL vm0 h x ∧ x < h.size) → BackS l R K.1 K.2.1 K.2.2.2.2.2.1 (K.2.2.1.setVm vm0) K.2.2.2.2.1 y len Wd (fun A a => a = as' ∧ A.U.heap = h ∧ A.cells + kc ≤ R.cells ∧ A.slots + ks ≤ R.slots)
    (fun A _ v B => ∃ L so, Q v B.U.heap so ∧ (∀ x ∈ so, Safe Z EL B.U.vm B.U.heap x ∧ h.size ≤ x ∧ x < B.U.heap.size) ∧ (∀ x ∈ L, x.base ∈ wsc ∨ h.size ≤ x.base) ∧ Keep h B.U.heap wsc ∧ B.locs = A.locs ++ L ∧ B.cells = A.cells + kc ∧ B.slots = A.slots + ks ∧ CHr Z EL vm0 h B.U.vm B.U.heap)
/-- by a body's contract -/
theorem Cb.ct {y : MethodName} {bytes : ByteArray} {maxL : Nat} {rt : Option FieldType} {rm : Room} {len Wd : Nat} {as' : Array Value} {wsc : List Addr} {Q : Option Value → Heap → List Addr → Prop} (C : Ct l Z EL y bytes maxL rt rm as' h wsc Q) (wc : (Cond.code y bytes maxL rt).before a0 Z = true) (wz : (Cond.initialized y.cls).before a0 Z = true) (hEL : EW Z a0 EL) (hf : rm.frames + 1 ≤ R.frames) (hl : Wd + (maxL + 11) + rm.locals ≤ R.locals) :
    Cb l Z EL R K y len Wd rm.cells rm.slots as' h wsc Q := by
  intro vm0 hZ H hsafe
  refine BackS.of_freeW (bytes := bytes) (maxL := maxL) (ret := rt) (E := fun _ first o t L k n => k = rm.cells ∧ n = rm.slots ∧ ∃ v so, o = .returned v ∧ Q v t.heap so ∧ (∀ x ∈ so, Safe Z EL t.vm t.heap x ∧ first.heap.size ≤ x ∧ x < t.heap.size) ∧ (∀ x ∈ L, x.base ∈ wsc ∨ first.heap.size ≤ x.base) ∧ CHr Z EL first.vm first.heap t.vm t.heap) (C []) hf hl
    (fun m meth c A a Y hp => have hU : Z.Warmed39 A.U.vm := wtrans (s := K.2.2.1.setVm vm0) hZ Y.warmed
      ⟨by show (Cond.and _ .tt).before a A.U = true; rw [Cond.before_and, mv hU wc]; rfl, mv hU wc, mv hU wz, hp.2.2.1, hp.2.2.2⟩)
    (fun m meth c A a g mk Y hp => ⟨hp.1, wtrans (s := K.2.2.1.setVm vm0) hZ Y.warmed, hp.2.1, (CHv.at Y hZ hEL H).1, fun x q => ⟨(CHv.at Y hZ hEL H).safe (hsafe x q).2 (hsafe x q).1, (hsafe x q).2⟩⟩) (fun _ _ _ _ _ _ _ _ _ => trivial)
    (fun _ first o t ⟨v, L, so, h1, h2, h3, h4, h5, h6⟩ => ⟨L, _, _, h6, rfl, rfl, v, so, h1, h2, h3, h4, h5⟩)
    (fun m meth c A a g mk v t L k n Y hp _ hret ⟨e1, e2, v', so, e3, e4, e5, e6, e7⟩ => ?_)
  cases e3; subst e1 e2
  have eh : (A.U.calling g mk a).heap = h := hp.2.1
  have ke := keep_of (ws := wsc) hret.2.2.2 (by simpa using e6)
  rw [eh] at ke e5 e6 e7
  exact ⟨L, so, e4, e5, e6, ke, rfl, rfl, rfl, (CHv.at Y hZ hEL H).trans e7⟩
/-- by a payer that interns nothing -/
theorem Cb.bk {y : MethodName} {len Wd kc ks : Nat} {as' : Array Value} {wsc : List Addr} {Q : Option Value → Heap → List Addr → Prop} {Qb : Option Value → Heap → List Loc → Prop}
    (B : ∀ vm0, Z.Warmed39 vm0 → Back l R K.1 K.2.1 K.2.2.2.2.2.1 (K.2.2.1.setVm vm0) K.2.2.2.2.1 y len Wd (fun A a => a = as' ∧ A.U.heap = h ∧ A.cells + kc ≤ R.cells ∧ A.slots + ks ≤ R.slots) (fun A _ v B => ∃ L, Qb v B.U.heap L ∧ B.locs = A.locs ++ L ∧ B.cells = A.cells + kc ∧ B.slots = A.slots + ks))
    (hEL : EW Z a0 EL) (hq : ∀ v h' L, Qb v h' L → Q v h' [] ∧ Keep h h' wsc ∧ ∀ x ∈ L, x.base ∈ wsc ∨ h.size ≤ x.base) : Cb l Z EL R K y len Wd kc ks as' h wsc Q := by
  intro vm0 hZ H hsafe m meth c A g ig mk a X hg hsize hdg hW hn hp
  obtain ⟨v, B', X', ⟨L, q1, q2, q3, q4⟩, st⟩ := B vm0 hZ m meth c A g ig mk a X hg hsize hdg hW hn hp
  obtain ⟨r1, r2, r3⟩ := hq v _ L q1
  have hgr : A.U.heap.size ≤ B'.U.heap.size := by rw [hp.2.1]; exact r2.1
  refine ⟨v, B', X'.retabled X'.warmed.wide, X'.warmed.since _, hgr, ⟨L, [], r1, (fun x q => nomatch q), r3, r2, q2, q3, q4, ?_⟩, st⟩
  have C1 := CHr.keep r2 (fun x q => (hsafe x q).1) H
  exact C1.trans (CHv.at X' hZ hEL C1.1)
theorem Cb.mono {y : MethodName} {len Wd kc ks kc' ks' : Nat} {as' : Array Value} {wsc : List Addr} {Q : Option Value → Heap → List Addr → Prop} (C : Cb l Z EL R K y len Wd kc ks as' h wsc Q) (h1 : kc ≤ kc') (h2 : ks ≤ ks') : Cb l Z EL R K y len Wd kc' ks' as' h wsc Q := by
  intro vm0 hZ H hs m meth c A g ig mk a X hg hsz hd hW hn hp
  obtain ⟨v, B, X', hS, hgr, ⟨L, so, q1, q2, q3, q4, q5, q6, q7, q8⟩, st⟩ := C vm0 hZ H hs m meth c A g ig mk a X hg hsz hd hW hn ⟨hp.1, hp.2.1, Nat.le_trans (Nat.add_le_add_left h1 _) hp.2.2.1, Nat.le_trans (Nat.add_le_add_left h2 _) hp.2.2.2⟩
  refine ⟨v, ⟨B.U, B.locs, A.cells + kc', A.slots + ks'⟩, ?_, hS, hgr, ⟨L, so, q1, q2, q3, q4, q5, rfl, rfl, q8⟩, st⟩
  exact X'.mono (by rw [q6]; exact Nat.add_le_add_left h1 _) (by rw [q7]; exact Nat.add_le_add_left h2 _)
theorem Cb.weak {y : MethodName} {len Wd kc ks : Nat} {as' : Array Value} {wsc : List Addr} {Q Q' : Option Value → Heap → List Addr → Prop} (C : Cb l Z EL R K y len Wd kc ks as' h wsc Q) (f : ∀ v h' so, Q v h' so → Q' v h' so) : Cb l Z EL R K y len Wd kc ks as' h wsc Q' := by
  intro vm0 hZ H hs m meth c A g ig mk a X hg hsz hd hW hn hp
  obtain ⟨v, B, X', hS, hgr, ⟨L, so, q1, r⟩, st⟩ := C vm0 hZ H hs m meth c A g ig mk a X hg hsz hd hW hn hp
  exact ⟨v, B, X', hS, hgr, ⟨L, so, f _ _ _ q1, r⟩, st⟩
theorem wAfter {vm0 : Vm} {s : State} {wsc so : List Addr} {vm1 : Vm} {locs L : List Loc} (hC : CHr Z EL s.vm h0 vm0 h) (hs : ∀ x ∈ sf, Safe Z EL vm0 h x ∧ x < h.size ∧ (x ∈ ws ∨ h0.size ≤ x)) (hL : ∀ x ∈ locs, x.base ∈ ws ∨ h0.size ≤ x.base) (hO : Old Z Z.heap.size h) (hw : ∀ x ∈ ws, Z.heap.size ≤ x) (hz : Z.heap.size ≤ h0.size) (hws : ∀ x ∈ wsc, x ∈ sf)
    (q2 : ∀ x ∈ so, Safe Z EL vm1 h' x ∧ h.size ≤ x ∧ x < h'.size) (q3 : ∀ x ∈ L, x.base ∈ wsc ∨ h.size ≤ x.base) (q4 : Keep h h' wsc) (q8 : CHr Z EL vm0 h vm1 h') :
    CHr Z EL s.vm h0 vm1 h' ∧ (∀ x ∈ so ++ sf, Safe Z EL vm1 h' x ∧ x < h'.size ∧ (x ∈ ws ∨ h0.size ≤ x)) ∧ (∀ x ∈ locs ++ L, x.base ∈ ws ∨ h0.size ≤ x.base) ∧ Old Z Z.heap.size h' := by
  have hgr : h0.size ≤ h.size := hC.2.1
  refine ⟨hC.trans q8, fun x q => ?_, fun x q => ?_, hO.keep q4 fun x q => ?_⟩
  · rcases List.mem_append.mp q with q | q
    · exact ⟨(q2 x q).1, (q2 x q).2.2, Or.inr (Nat.le_trans hgr (q2 x q).2.1)⟩
    · exact ⟨q8.safe (hs x q).2.1 (hs x q).1, Nat.lt_of_lt_of_le (hs x q).2.1 q4.1, (hs x q).2.2⟩
  · rcases List.mem_append.mp q with q | q
    · exact hL x q
    · rcases q3 x q with q | q
      · exact (hs _ (hws _ q)).2.2
      · exact Or.inr (Nat.le_trans hgr q)
  · rcases (hs _ (hws _ q)).2.2 with z | z
    · exact hw _ z
    · exact Nat.le_trans hz z
/-- invokestatic -/
theorem wStatic (W : Wk l Z EL own nm cd ml ret R ws h0 K sf T h cells slots) {y : MethodName} {index : Nat} (hd : decode cd pc = .ok (.invokestatic index, 3)) (w1 : (Cond.methodLink own index y).before a0 Z = true) (w2 : (Cond.static y).before a0 Z = true) (wz : (Cond.initialized y.cls).before a0 Z = true) {bytes : ByteArray} {maxL : Nat} {rt : Option FieldType} (wc : (Cond.code y bytes maxL rt).before a0 Z = true) (hy : y.cls ≠ "java/lang/invoke/MethodHandle" ∧ y.cls ≠ "java/lang/invoke/VarHandle")
    {Wd kc ks : Nat} {argsL rest : List Value} {wsc : List Addr} {Q : Option Value → Heap → List Addr → Prop} (C : Cb l Z EL R K y 3 Wd kc ks argsL.toArray h wsc Q) (hws : ∀ x ∈ wsc, x ∈ sf) (hsz : ls.size = ml) (hlen : ∀ sig, parseMethodDescriptor y.desc = some sig → argsL.length = sig.parameters.length) (hst : st = argsL.reverse ++ rest) (hW : (rest.map fun v => v.category).sum ≤ Wd) (hc' : cells + kc ≤ R.cells) (hl' : slots + ks ≤ R.slots) (hp : pc + 3 = pc')
    (k : ∀ v so T' h', Wk l Z EL own nm cd ml ret R ws h0 K (so ++ sf) T' h' (cells + kc) (slots + ks) → Keep h h' wsc → (∀ x ∈ so, h.size ≤ x ∧ x < h'.size) → Q v h' so → Go K P T' pc' ls (v.toList ++ rest)) : Go K P T pc ls st := by
  obtain ⟨vm0, locs, k0, X, e, hx, hc, e0, hZ, hown, hS, hk, hL, hC, hO, hE, hw, hz, hs⟩ := W
  subst hp
  obtain ⟨v, vm₁, B, -, X', hS', hgr, ⟨L, so, q1, q2, q3, q4, q5, q6, q7, q8⟩, f⟩ := callSS X hx (y := y) hown (mvT hZ w1) (mvT hZ w2) (mvT hZ wz) (mvT hZ wc) hy (C vm0 hZ hC.1 fun x q => ⟨(hs x (hws x q)).1, (hs x (hws x q)).2.1⟩) (g := mkF K.2.2.2.1 pc ls st) rfl (hsz.trans hc.2.1.symm) hlen hst (by show 2 * 0 + _ ≤ _; omega) (hb hc.1 hd) (fun _ _ => ⟨rfl, e, hc', hl'⟩)
  obtain ⟨X2, hS2, hZ2, hown2⟩ := rebS (Z := Z) (own := own) (n1 := h.size) hS hk X' hS' (by rw [← e]; exact hgr) hZ hown
  obtain ⟨a1, a2, a3, a4⟩ := wAfter (s := K.2.2.1) hC hs hL hO hw hz hws q2 q3 q4 q8
  rw [q5, q6, q7] at X2
  obtain ⟨o, U, r, q⟩ := k v so B.U B.U.heap ⟨B.U.vm, _, _, X2, rfl, hx, hc, e0, hZ2, hown2, hS2, Nat.le_refl _, a3, a1, a4, hE, hw, hz, a2⟩ q4 (fun x z => ⟨(q2 x z).2.1, (q2 x z).2.2⟩) q1
  exact ⟨o, U, f.trans r, q⟩
/-- invokespecial of a constructor -/
theorem wSpecial (W : Wk l Z EL own nm cd ml ret R ws h0 K sf T h cells slots) {y : MethodName} {index : Nat} (hd : decode cd pc = .ok (.invokespecial index, 3)) (hy1 : y.name = "<init>") (w1 : (Cond.methodLink own index y).before a0 Z = true) (w2 : (Cond.instanceMethod y).before a0 Z = true) {bytes : ByteArray} {maxL : Nat} (wc : (Cond.code y bytes maxL none).before a0 Z = true) (hy : y.cls ≠ "java/lang/invoke/MethodHandle" ∧ y.cls ≠ "java/lang/invoke/VarHandle")
    {Wd kc ks : Nat} {a : Addr} {argsL rest : List Value} {wsc : List Addr} {Q : Option Value → Heap → List Addr → Prop} (C : Cb l Z EL R K y 3 Wd kc ks (.ref a :: argsL).toArray h wsc Q) (hws : ∀ x ∈ wsc, x ∈ sf) (hsz : ls.size = ml) (hlen : ∀ sig, parseMethodDescriptor y.desc = some sig → argsL.length = sig.parameters.length) (hst : st = argsL.reverse ++ .ref a :: rest) (hW : (rest.map fun v => v.category).sum ≤ Wd) (hc' : cells + kc ≤ R.cells) (hl' : slots + ks ≤ R.slots) (hp : pc + 3 = pc')
    (k : ∀ v so T' h', Wk l Z EL own nm cd ml ret R ws h0 K (so ++ sf) T' h' (cells + kc) (slots + ks) → Keep h h' wsc → (∀ x ∈ so, h.size ≤ x ∧ x < h'.size) → Q v h' so → Go K P T' pc' ls (v.toList ++ rest)) : Go K P T pc ls st := by
  obtain ⟨vm0, locs, k0, X, e, hx, hc, e0, hZ, hown, hS, hk, hL, hC, hO, hE, hw, hz, hs⟩ := W
  subst hp
  obtain ⟨v, vm₁, B, -, X', hS', hgr, ⟨L, so, q1, q2, q3, q4, q5, q6, q7, q8⟩, f⟩ := X.specialBackS hx (y := y) hy1 hown (mvT hZ w1) (mvT hZ w2) (mvT hZ wc) hy (C vm0 hZ hC.1 fun x q => ⟨(hs x (hws x q)).1, (hs x (hws x q)).2.1⟩) (g := mkF K.2.2.2.1 pc ls st) rfl (hsz.trans hc.2.1.symm) (Steps.refl _) hlen hst (by show 2 * 0 + _ ≤ _; omega) (hb hc.1 hd) (fun _ _ => ⟨rfl, e, hc', hl'⟩)
  obtain ⟨X2, hS2, hZ2, hown2⟩ := rebS (Z := Z) (own := own) (n1 := h.size) hS hk X' hS' (by rw [← e]; exact hgr) hZ hown
  obtain ⟨a1, a2, a3, a4⟩ := wAfter (s := K.2.2.1) hC hs hL hO hw hz hws q2 q3 q4 q8
  rw [q5, q6, q7] at X2
  obtain ⟨o, U, r, q⟩ := k v so B.U B.U.heap ⟨B.U.vm, _, _, X2, rfl, hx, hc, e0, hZ2, hown2, hS2, Nat.le_refl _, a3, a1, a4, hE, hw, hz, a2⟩ q4 (fun x z => ⟨(q2 x z).2.1, (q2 x z).2.2⟩) q1
  exact ⟨o, U, f.trans r, q⟩
/-- invokevirtual on an object of exactly the class C -/
theorem wVirtual (W : Wk l Z EL own nm cd ml ret R ws h0 K sf T h cells slots) {C : String} {y z : MethodName} {index : Nat} (hd : decode cd pc = .ok (.invokevirtual index, 3)) (w1 : (Cond.methodLink own index y).before a0 Z = true) (w2 : (Cond.declares y).before a0 Z = true) (w3 : (Cond.selects C y z).before a0 Z = true) (w4 : (Cond.instanceMethod z).before a0 Z = true) (nf : ∀ s : State, Z.Warmed39 s.vm → NotFace s y) (hy : y.cls ≠ "java/lang/invoke/MethodHandle" ∧ y.cls ≠ "java/lang/invoke/VarHandle")
    {Wd kc ks : Nat} {a : Addr} {argsL rest : List Value} {wsc : List Addr} {Q : Option Value → Heap → List Addr → Prop} (Cc : Cb l Z EL R K z 3 Wd kc ks (.ref a :: argsL).toArray h wsc Q) (E : Exa Z h a C) (hws : ∀ x ∈ wsc, x ∈ sf) (hsz : ls.size = ml) (hlen : ∀ sig, parseMethodDescriptor y.desc = some sig → argsL.length = sig.parameters.length) (hst : st = argsL.reverse ++ .ref a :: rest) (hW : (rest.map fun v => v.category).sum ≤ Wd) (hc' : cells + kc ≤ R.cells) (hl' : slots + ks ≤ R.slots) (hp : pc + 3 = pc')
    (k : ∀ v so T' h', Wk l Z EL own nm cd ml ret R ws h0 K (so ++ sf) T' h' (cells + kc) (slots + ks) → Keep h h' wsc → (∀ x ∈ so, h.size ≤ x ∧ x < h'.size) → Q v h' so → Go K P T' pc' ls (v.toList ++ rest)) : Go K P T pc ls st := by
  obtain ⟨vm0, locs, k0, X, e, hx, hc, e0, hZ, hown, hS, hk, hL, hC, hO, hE, hw, hz, hs⟩ := W
  subst hp
  obtain ⟨cB, kB, i1, i2, i3⟩ := isOf (s := K.2.2.1.setVm vm0) hZ e E
  obtain ⟨v, vm₁, B, -, X', hS', hgr, ⟨L, so, q1, q2, q3, q4, q5, q6, q7, q8⟩, f⟩ := X.virtualBackS hx (y := y) (z := z) hown (mvT hZ w1) (mvT hZ w2) (nf (K.2.2.1.setVm vm0) hZ) (mvT hZ w3) (mvT hZ w4) hy (Cc vm0 hZ hC.1 fun x q => ⟨(hs x (hws x q)).1, (hs x (hws x q)).2.1⟩) i1 i3 (g := mkF K.2.2.2.1 pc ls st) rfl (hsz.trans hc.2.1.symm) (Steps.refl _) hlen hst (by show 2 * 0 + _ ≤ _; omega) (hb hc.1 hd) (fun _ _ => ⟨rfl, e, hc', hl'⟩)
  obtain ⟨X2, hS2, hZ2, hown2⟩ := rebS (Z := Z) (own := own) (n1 := h.size) hS hk X' hS' (by rw [← e]; exact hgr) hZ hown
  obtain ⟨a1, a2, a3, a4⟩ := wAfter (s := K.2.2.1) hC hs hL hO hw hz hws q2 q3 q4 q8
  rw [q5, q6, q7] at X2
  obtain ⟨o, U, r, q⟩ := k v so B.U B.U.heap ⟨B.U.vm, _, _, X2, rfl, hx, hc, e0, hZ2, hown2, hS2, Nat.le_refl _, a3, a1, a4, hE, hw, hz, a2⟩ q4 (fun x z => ⟨(q2 x z).2.1, (q2 x z).2.2⟩) q1
  exact ⟨o, U, f.trans r, q⟩
/-- invokeinterface on an object of exactly the class C -/
theorem wFace (W : Wk l Z EL own nm cd ml ret R ws h0 K sf T h cells slots) {C : String} {xi y : MethodName} {index count : Nat} (hd : decode cd pc = .ok (.invokeinterface index count, 5)) (w1 : (Cond.methodLink own index xi).before a0 Z = true) (w2 : (Cond.declares xi).before a0 Z = true) (w3 : (Cond.interfaceMethod xi.cls xi.cls xi.name xi.desc).before a0 Z = true) (w4 : (Cond.selects C xi y).before a0 Z = true) (w5 : (Cond.instanceMethod y).before a0 Z = true) (w6 : (Cond.publicMethod y).before a0 Z = true) (w7 : (Cond.unhidden C xi.name xi.desc).before a0 Z = true) (w8 : (Cond.castable C xi.cls).before a0 Z = true) (hy : xi.cls ≠ "java/lang/invoke/MethodHandle" ∧ xi.cls ≠ "java/lang/invoke/VarHandle")
    {Wd kc ks : Nat} {a : Addr} {argsL rest : List Value} {wsc : List Addr} {Q : Option Value → Heap → List Addr → Prop} (Cc : Cb l Z EL R K y 5 Wd kc ks (.ref a :: argsL).toArray h wsc Q) (E : Exa Z h a C) (hws : ∀ x ∈ wsc, x ∈ sf) (hsz : ls.size = ml) (hlen : ∀ sig, parseMethodDescriptor xi.desc = some sig → argsL.length = sig.parameters.length) (hst : st = argsL.reverse ++ .ref a :: rest) (hW : (rest.map fun v => v.category).sum ≤ Wd) (hc' : cells + kc ≤ R.cells) (hl' : slots + ks ≤ R.slots) (hp : pc + 5 = pc')
    (k : ∀ v so T' h', Wk l Z EL own nm cd ml ret R ws h0 K (so ++ sf) T' h' (cells + kc) (slots + ks) → Keep h h' wsc → (∀ x ∈ so, h.size ≤ x ∧ x < h'.size) → Q v h' so → Go K P T' pc' ls (v.toList ++ rest)) : Go K P T pc ls st := by
  obtain ⟨vm0, locs, k0, X, e, hx, hc, e0, hZ, hown, hS, hk, hL, hC, hO, hE, hw, hz, hs⟩ := W
  subst hp
  obtain ⟨cB, kB, i1, i2, i3⟩ := isOf (s := K.2.2.1.setVm vm0) hZ e E
  obtain ⟨v, vm₁, B, -, X', hS', hgr, ⟨L, so, q1, q2, q3, q4, q5, q6, q7, q8⟩, f⟩ := X.interfaceBackS hx (xi := xi) (y := y) hown (mvT hZ w1) (mvT hZ w2) (mvT hZ w3 (by simp [Cond.onTables, Cond.keepsFace, Cond.faceAtom, hy.1, hy.2])) (mvT hZ w4) (mvT hZ w5) (mvT hZ w6) (mvT hZ w7) (mvT hZ w8) hy (Cc vm0 hZ hC.1 fun x q => ⟨(hs x (hws x q)).1, (hs x (hws x q)).2.1⟩) i1 i2 i3 (g := mkF K.2.2.2.1 pc ls st) rfl (hsz.trans hc.2.1.symm) (Steps.refl _) hlen hst (by show 2 * 0 + _ ≤ _; omega) (hb hc.1 hd) (fun _ _ => ⟨rfl, e, hc', hl'⟩)
  obtain ⟨X2, hS2, hZ2, hown2⟩ := rebS (Z := Z) (own := own) (n1 := h.size) hS hk X' hS' (by rw [← e]; exact hgr) hZ hown
  obtain ⟨a1, a2, a3, a4⟩ := wAfter (s := K.2.2.1) hC hs hL hO hw hz hws q2 q3 q4 q8
  rw [q5, q6, q7] at X2
  obtain ⟨o, U, r, q⟩ := k v so B.U B.U.heap ⟨B.U.vm, _, _, X2, rfl, hx, hc, e0, hZ2, hown2, hS2, Nat.le_refl _, a3, a1, a4, hE, hw, hz, a2⟩ q4 (fun x z => ⟨(q2 x z).2.1, (q2 x z).2.2⟩) q1
  exact ⟨o, U, f.trans r, q⟩
theorem nfS {C : String} {y : MethodName} (w3 : (Cond.selects C y y).before a0 Z = true) : ∀ s : State, Z.Warmed39 s.vm → NotFace s y := fun s hZ => notFace_of_selects (args := #[]) (mvT hZ w3)
/-- the end: P's post out of the walk's last standing -/
theorem wEnd {kc ks : Nat} {v : Option Value} {Q : Option Value → Heap → List Addr → Prop} {so : List Addr} (W : Wk l Z EL own nm cd ml ret R ws h0 K sf T h cells slots) (hv : ret = none → v = none) (hk : cells ≤ kc) (hn : slots ≤ ks) (hso : ∀ x ∈ so, x ∈ sf ∧ h0.size ≤ x) (q : Q v h so)
    (stp : ∀ (vm0 : Vm) (locs : List Loc) (fs : List Frame), Stand K.1 l K.2.1 R (K.2.2.1.setVm vm0) K.2.2.2.1 K.2.2.2.2.1 K.2.2.2.2.2.1 K.2.2.2.2.2.2.1 K.2.2.2.2.2.2.2 T locs cells slots → K.1.tables.exec = Jvm.exec → K.2.2.2.2.2.2.2.code = cd → K.2.2.2.2.2.2.1.sig.returnType = ret →
      (∀ (f : JFrame) (acts : List Action), f.method = K.2.2.2.1 → f.locked = none → f.entered = [] → (doReturn K.2.1 (T.setTop f) acts v).1 = T.setFrames fs) → Steps K.1.tables K.2.1 K.2.2.2.2.2.1 (T.setTop (mkF K.2.2.2.1 pc ls st)) (T.setFrames fs)) :
    Go K (Pst Z EL ws K.2.2.1 kc ks Q) T pc ls st := by
  obtain ⟨vm0, locs, k0, X, e, hx, hc, e0, hZ, hown, hS, hk0, hL, hC, hO, ⟨a0, hE⟩, hw, hz, hs⟩ := W
  have hlk := hc.2.2.2.1
  obtain ⟨fs, f1, f2, f3, f4⟩ := X.leaveW hS (by rw [e]; exact hk0) (v := v) (fun q => hv (hc.2.2.1.symm.trans q)) hlk
  have hend := CHv.at X hZ hE hC.1
  refine ⟨.returned v, T.setFrames fs, stp vm0 locs fs X hx hc.1 hc.2.2.1 f1, f2, f3, v, locs, so, rfl, ?_, fun x z => ?_, ?_, ?_, ?_⟩
  · show Q v T.heap so
    rw [e]; exact q
  · show Safe Z EL T.vm T.heap x ∧ _ ∧ x < T.heap.size
    rw [e, e0]
    exact ⟨hend.safe (hs x (hso x z).1).2.1 (hs x (hso x z).1).1, (hso x z).2, (hs x (hso x z).1).2.1⟩
  · rw [e0]; exact hL
  · show CHr Z EL K.2.2.1.vm K.2.2.1.heap T.vm T.heap
    rw [e, e0]; exact hC.trans hend
  · obtain ⟨g1, g2, g3, g4⟩ := f4
    exact ⟨g1, g2, g3, g4.mono hk hn⟩
/-- return -/
theorem wRet0 {kc ks : Nat} {Q : Option Value → Heap → List Addr → Prop} {so : List Addr} (W : Wk l Z EL own nm cd ml none R ws h0 K sf T h cells slots) (hd : decode cd pc = .ok (.return_, 1)) (hk : cells ≤ kc) (hn : slots ≤ ks) (hso : ∀ x ∈ so, x ∈ sf ∧ h0.size ≤ x) (q : Q none h so) : Go K (Pst Z EL ws K.2.2.1 kc ks Q) T pc ls [] :=
  wEnd W (fun _ => rfl) hk hn hso q fun vm0 locs fs X hx hc hr f => X.returnOut hx hr (hb hc hd) f
/-- ireturn, of an int, a boolean, a byte, a char, a short -/
theorem wRetI {t : FieldType} {z : Int32} {kc ks : Nat} {Q : Option Value → Heap → List Addr → Prop} {so : List Addr} (W : Wk l Z EL own nm cd ml (some t) R ws h0 K sf T h cells slots) (hd : decode cd pc = .ok (.ireturn, 1)) (ht : t = .int ∨ t = .boolean ∨ t = .byte ∨ t = .char ∨ t = .short) (hnr : narrow t (.int z) = .int z) (hk : cells ≤ kc) (hn : slots ≤ ks) (hso : ∀ x ∈ so, x ∈ sf ∧ h0.size ≤ x) (q : Q (some (.int z)) h so) : Go K (Pst Z EL ws K.2.2.1 kc ks Q) T pc ls (.int z :: st) :=
  wEnd W (fun q => nomatch q) hk hn hso q fun vm0 locs fs X hx hc hr f => retOut X hx hr hnr (Or.inl ⟨rfl, ht, z, rfl⟩) (hb hc hd) f
/-- areturn -/
theorem wRetA {t : FieldType} {w : Value} {kc ks : Nat} {Q : Option Value → Heap → List Addr → Prop} {so : List Addr} (W : Wk l Z EL own nm cd ml (some t) R ws h0 K sf T h cells slots) (hd : decode cd pc = .ok (.areturn, 1)) (ht : t.isReference = true) (hw : w.isRef = true) (hnr : narrow t w = w) (hk : cells ≤ kc) (hn : slots ≤ ks) (hso : ∀ x ∈ so, x ∈ sf ∧ h0.size ≤ x) (q : Q (some w) h so) : Go K (Pst Z EL ws K.2.2.1 kc ks Q) T pc ls (w :: st) :=
  wEnd W (fun q => nomatch q) hk hn hso q fun vm0 locs fs X hx hc hr f => retOut X hx hr hnr (Or.inr (Or.inr (Or.inr (Or.inr ⟨rfl, ht, hw⟩)))) (hb hc hd) f
/-- lreturn -/
theorem wRetL {z : Int64} {kc ks : Nat} {Q : Option Value → Heap → List Addr → Prop} {so : List Addr} (W : Wk l Z EL own nm cd ml (some .long) R ws h0 K sf T h cells slots) (hd : decode cd pc = .ok (.lreturn, 1)) (hk : cells ≤ kc) (hn : slots ≤ ks) (hso : ∀ x ∈ so, x ∈ sf ∧ h0.size ≤ x) (q : Q (some (.long z)) h so) : Go K (Pst Z EL ws K.2.2.1 kc ks Q) T pc ls (.long z :: st) :=
  wEnd W (fun q => nomatch q) hk hn hso q fun vm0 locs fs X hx hc hr f => retOut X hx hr rfl (Or.inr (Or.inl ⟨rfl, rfl, z, rfl⟩)) (hb hc hd) f
end Calls
section Ints
/-- a term that is said to equal a long -/
theorem eqL_v {args : Array Value} {first s : State} {o : Option Outcome} {idx : List Nat} {t : Term} {n : Int64} (h : (Cond.eq t (.long n)).value args first o s idx = some true) : t.eval args first o idx s = some (.long n) := by
  cases ht : t.eval args first o idx s with
  | none => simp [Cond.value, Term.eval, ht] at h
  | some x => cases x <;> simp [Cond.value, Term.eval, ht] at h ⊢; exact h
theorem nar_char (x : Int32) : nar .char x = x.toUInt32.toUInt16.toUInt32.toInt32 := rfl
theorem ch255 {p v w : Int32} (e : p &&& 255 = v) (e2 : v.toUInt32.toUInt16.toUInt32.toInt32 = w) : ¬ w < 0 ∧ ¬ 255 < w ∧ nar .char w = w := by
  subst e e2
  rw [i2c_mask]
  have q := c_and p 255 (by decide)
  refine ⟨?_, ?_, ?_⟩
  · rw [Int32.lt_iff_toInt_lt]; simp only [Int32.reduceToInt]; omega
  · rw [Int32.lt_iff_toInt_lt]; have h : (255 : Int32).toInt = 255 := by decide
    omega
  · rw [nar_char, i2c_mask]
theorem i32_of {v : Int32} {n : Int} (w : Int32) (hw : w.toInt = n) (h : v.toInt = n) : v = w := Int32.toInt_inj.mp (h.trans hw.symm)
theorem and3 {x v : Int32} (e : x &&& 3 = v) : v = 0 ∨ v = 1 ∨ v = 2 ∨ v = 3 := by
  subst e
  have q := c_and x 3 (by decide)
  have h3 : (3 : Int32).toInt = 3 := by decide
  rw [h3] at q
  have : (x &&& 3).toInt = 0 ∨ (x &&& 3).toInt = 1 ∨ (x &&& 3).toInt = 2 ∨ (x &&& 3).toInt = 3 := by omega
  rcases this with h | h | h | h
  · exact Or.inl (i32_of 0 (by decide) h)
  · exact Or.inr (Or.inl (i32_of 1 (by decide) h))
  · exact Or.inr (Or.inr (Or.inl (i32_of 2 (by decide) h)))
  · exact Or.inr (Or.inr (Or.inr (i32_of 3 (by decide) h)))
theorem and7 {x v : Int32} (e : x &&& 7 = v) : v = 0 ∨ v = 1 ∨ v = 2 ∨ v = 3 ∨ v = 4 ∨ v = 5 ∨ v = 6 ∨ v = 7 := by
  subst e
  have q := c_and x 7 (by decide)
  have h7 : (7 : Int32).toInt = 7 := by decide
  rw [h7] at q
  have : (x &&& 7).toInt = 0 ∨ (x &&& 7).toInt = 1 ∨ (x &&& 7).toInt = 2 ∨ (x &&& 7).toInt = 3 ∨ (x &&& 7).toInt = 4 ∨ (x &&& 7).toInt = 5 ∨ (x &&& 7).toInt = 6 ∨ (x &&& 7).toInt = 7 := by omega
  rcases this with h | h | h | h | h | h | h | h
  · exact Or.inl (i32_of 0 (by decide) h)
  · exact Or.inr (Or.inl (i32_of 1 (by decide) h))
  · exact Or.inr (Or.inr (Or.inl (i32_of 2 (by decide) h)))
  · exact Or.inr (Or.inr (Or.inr (Or.inl (i32_of 3 (by decide) h))))
  · exact Or.inr (Or.inr (Or.inr (Or.inr (Or.inl (i32_of 4 (by decide) h)))))
  · exact Or.inr (Or.inr (Or.inr (Or.inr (Or.inr (Or.inl (i32_of 5 (by decide) h))))))
  · exact Or.inr (Or.inr (Or.inr (Or.inr (Or.inr (Or.inr (Or.inl (i32_of 6 (by decide) h)))))))
  · exact Or.inr (Or.inr (Or.inr (Or.inr (Or.inr (Or.inr (Or.inr (i32_of 7 (by decide) h)))))))
theorem ch16 {p v w : Int32} (e : p &&& 65535 = v) (e2 : v.toUInt32.toUInt16.toUInt32.toInt32 = w) : (¬ w < 0 ∧ ¬ 65535 < w) ∧ nar .char w = w := by
  have q := c_i2c v
  rw [e2] at q
  have q2 := c_i2c w
  refine ⟨⟨?_, ?_⟩, ?_⟩
  · rw [Int32.lt_iff_toInt_lt]; have : (0 : Int32).toInt = 0 := by decide
    omega
  · rw [Int32.lt_iff_toInt_lt]; have : (65535 : Int32).toInt = 65535 := by decide
    omega
  · rw [nar_char]; apply Int32.toInt_inj.mp; omega
/-- an int from 0 to 255 -/
def B8 (x : Int32) : Prop := ¬ x < 0 ∧ ¬ 255 < x
theorem B8.toInt {x : Int32} (h : B8 x) : 0 ≤ x.toInt ∧ x.toInt ≤ 255 := by
  obtain ⟨h1, h2⟩ := h
  rw [Int32.lt_iff_toInt_lt] at h1 h2
  have a : (0 : Int32).toInt = 0 := by decide
  have b : (255 : Int32).toInt = 255 := by decide
  omega
theorem B8.of {x : Int32} (h : 0 ≤ x.toInt ∧ x.toInt ≤ 255) : B8 x := by
  refine ⟨?_, ?_⟩ <;> rw [Int32.lt_iff_toInt_lt]
  · have a : (0 : Int32).toInt = 0 := by decide
    omega
  · have b : (255 : Int32).toInt = 255 := by decide
    omega
theorem B8.and {p v : Int32} (e : p &&& 255 = v) : B8 v := by
  subst e; have q := c_and p 255 (by decide)
  have b : (255 : Int32).toInt = 255 := by decide
  exact B8.of (by omega)
theorem B8.mask {x : Int32} (h : B8 x) : x &&& 255 = x := by
  have q := c_mask x 255 8 (by decide) (by decide)
  have r := h.toInt
  apply Int32.toInt_inj.mp
  rw [q]; simp only [Nat.reducePow]; omega
theorem B8.i2c {c v : Int32} (h : B8 c) (e : c.toUInt32.toUInt16.toUInt32.toInt32 = v) : v = c := by
  rw [← h.mask, i2c_mask, h.mask] at e; exact e.symm
theorem B8.i2c' {c : Int32} (h : B8 c) : c.toUInt32.toUInt16.toUInt32.toInt32 = c := h.i2c rfl
theorem B8.nar {c : Int32} (h : B8 c) : nar .char c = c := h.i2c'
theorem B8.xor {x y v : Int32} (hx : B8 x) (hy : B8 y) (e : x ^^^ y = v) : B8 v := by
  subst e
  have e1 : x ^^^ y = (x ^^^ y) &&& 255 := by
    have h1 := hx.mask; have h2 := hy.mask
    rw [← Int32.toBitVec_inj] at h1 h2 ⊢
    simp only [Int32.toBitVec_and, Int32.toBitVec_xor] at h1 h2 ⊢
    rw [← h1, ← h2]
    ext i hi
    simp only [BitVec.getElem_and, BitVec.getElem_xor]
    cases (x.toBitVec[i]) <;> cases (y.toBitVec[i]) <;> cases ((255 : Int32).toBitVec[i]) <;> rfl
  exact B8.and e1.symm
theorem and31 {p v : Int32} (e : p &&& 2147483647 = v) : 0 ≤ v.toInt := by
  subst e; exact (c_and p 2147483647 (by decide)).1
/-- the remainder of a non-negative int by a positive constant -/
theorem rem_lt {v r y : Int32} {d : Int} (h : 0 ≤ v.toInt) (e : v % y = r) (hy : y.toInt = d) (hd : 0 < d) : 0 ≤ r.toInt ∧ r.toInt < d := by
  subst e
  have q := (c_irem v y d hy).1 h
  rw [q]; exact ⟨Int.emod_nonneg _ (by omega), Int.emod_lt_of_pos _ hd⟩
theorem lt_i {x y : Int32} : x < y ↔ x.toInt < y.toInt := Int32.lt_iff_toInt_lt
theorem xor_self {x y : Int32} (h : x = x ^^^ y) : y = 0 := by
  have h2 : x ^^^ x = x ^^^ (x ^^^ y) := congrArg (fun t => x ^^^ t) h
  rw [Int32.xor_self, ← Int32.xor_assoc, Int32.xor_self, Int32.zero_xor] at h2
  exact h2.symm
end Ints
section Refs0
variable {l : Launch} {Z : State} {EL : List (String × Nat)} {own nm : String} {cd : ByteArray} {ml : Nat} {ret : Option FieldType} {R : Room} {ws : List Addr} {h0 : Heap} {K : Cx} {sf : List Addr} {T : State} {h h' : Heap} {cells slots : Nat} {P : Outcome → State → Prop} {pc pc' : Nat} {ls : Array Slot} {st : List Value} {a0 : Array Value}
/-- checkcast of null -/
theorem wCastN (W : Wk l Z EL own nm cd ml ret R ws h0 K sf T h cells slots) {index : Nat} (hd : decode cd pc = .ok (.checkcast index, 3)) (hp : pc + 3 = pc')
    (k : Go K P T pc' ls (.null :: st)) : Go K P T pc ls (.null :: st) := by
  obtain ⟨vm0, locs, k0, X, e, hx, hc, r⟩ := W
  subst hp
  exact Go.stp (fun t q => X.checkcastNull hx (g := mkF K.2.2.2.1 pc ls (.null :: st)) rfl rfl (hb hc.1 hd) _ q) k
end Refs0
section Refs
variable {Z : State} {h h' : Heap} {v : Value} {C : String} {ws : List Addr}
/-- null, or an object of exactly the class C -/
def RefS (Z : State) (h : Heap) (v : Value) (C : String) : Prop := v = .null ∨ ∃ r, v = .ref r ∧ Exa Z h r C
theorem RefS.isRef (F : RefS Z h v C) : v.isRef = true := by rcases F with rfl | ⟨r, rfl, -⟩ <;> rfl
theorem RefS.ext (F : RefS Z h v C) (E : Ext h h') : RefS Z h' v C := F.imp id fun ⟨r, q, A⟩ => ⟨r, q, A.ext E⟩
theorem RefS.wr {a : Addr} {sl : Nat} {u : Value} (F : RefS Z h v C) (W : Wr h h' a sl u) : RefS Z h' v C := F.imp id fun ⟨r, q, A⟩ => ⟨r, q, A.wr W⟩
theorem RefS.keep (F : RefS Z h v C) (K : Keep h h' ws) : RefS Z h' v C := F.imp id fun ⟨r, q, A⟩ => ⟨r, q, A.keep K⟩
theorem RefS.of {r : Addr} (A : Exa Z h r C) : RefS Z h (.ref r) C := Or.inr ⟨r, rfl, A⟩
theorem RefS.null : RefS Z h .null C := Or.inl rfl
theorem catR (hv : v.isRef = true) : v.category = 1 := by rcases ref_cases hv with rfl | ⟨r, rfl⟩ <;> rfl
/-- what 'x == null ? y : x' gives -/
def selV (x y : Value) : Value := match x with | .null => y | v => v
theorem RefS.sel {u : Value} (F : RefS Z h v C) (G : RefS Z h u C) : RefS Z h (selV v u) C := by
  rcases F with rfl | ⟨r, rfl, A⟩
  · exact G
  · exact Or.inr ⟨r, rfl, A⟩
theorem narR {t : FieldType} (hv : v.isRef = true) (ht : t.isReference = true := by rfl) : narrow t v = v := by
  rcases ref_cases hv with rfl | ⟨r, rfl⟩ <;> cases t <;> rfl
theorem fitR {t : FieldType} (hv : v.isRef = true) (ht : t.isReference = true := by rfl) : fits t v = true := by
  rcases ref_cases hv with rfl | ⟨r, rfl⟩ <;> cases t <;> first | rfl | cases ht
end Refs
section Refs2
variable {l : Launch} {Z : State} {EL : List (String × Nat)} {own nm : String} {cd : ByteArray} {ml : Nat} {ret : Option FieldType} {R : Room} {ws : List Addr} {h0 : Heap} {K : Cx} {sf : List Addr} {T : State} {h h' : Heap} {cells slots : Nat} {P : Outcome → State → Prop} {pc pc' : Nat} {ls : Array Slot} {st : List Value} {a0 : Array Value}
/-- checkcast of null or of an object of that very class -/
theorem wCastR (W : Wk l Z EL own nm cd ml ret R ws h0 K sf T h cells slots) {C : String} {index : Nat} (hd : decode cd pc = .ok (.checkcast index, 3)) (w : (Cond.classLink own index C).before a0 Z = true) {v : Value} (F : RefS Z h v C) (hp : pc + 3 = pc')
    (k : ∀ T', Wk l Z EL own nm cd ml ret R ws h0 K sf T' h cells slots → Go K P T' pc' ls (v :: st)) : Go K P T pc ls (v :: st) := by
  rcases F with rfl | ⟨r, rfl, A⟩
  · exact wCastN W hd hp (k T W)
  · exact wCast W hd w (Ins.self A) hp k
end Refs2
section More
variable {l : Launch} {Z : State} {EL : List (String × Nat)} {own nm : String} {cd : ByteArray} {ml : Nat} {ret : Option FieldType} {R : Room} {ws : List Addr} {h0 : Heap} {K : Cx} {sf : List Addr} {T : State} {h h' : Heap} {cells slots : Nat} {P : Outcome → State → Prop} {pc pc' : Nat} {ls : Array Slot} {st : List Value} {a0 : Array Value}
/-- clone of an array -/
theorem wClone (W : Wk l Z EL own nm cd ml ret R ws h0 K sf T h cells slots) {ad : String} {index : Nat} (hd : decode cd pc = .ok (.invokevirtual index, 3)) (w1 : (Cond.methodLink own index ⟨ad, "clone", "()Ljava/lang/Object;"⟩).before a0 Z = true) (w2 : (Cond.sameMethod ad "java/lang/Object" "clone" "()Ljava/lang/Object;").before a0 Z = true) (w3 : (Cond.native ⟨"java/lang/Object", "clone", "()Ljava/lang/Object;"⟩).before a0 Z = true) (w4 : (Cond.instanceMethod ⟨"java/lang/Object", "clone", "()Ljava/lang/Object;"⟩).before a0 Z = true) (w5 : (Cond.selects ad ⟨ad, "clone", "()Ljava/lang/Object;"⟩ ⟨"java/lang/Object", "clone", "()Ljava/lang/Object;"⟩).before a0 Z = true) (w6 : (Cond.castable ad "java/lang/Cloneable").before a0 Z = true)
    {a : Addr} {kA : ClassId} {ty : FieldType} {z : Int32} {vs : List Value} {dv : Value} (F : Arv Z h a kA ty z vs dv) (E : Exa Z h a ad) (hsz : ls.size = ml) (hf : 1 ≤ R.frames) (Wd : Nat) (hW : (st.map fun v => v.category).sum ≤ Wd) (hl : Wd + 14 ≤ R.locals) (cap : Nat) (hcap : z.toNatClampNeg ≤ cap) (hc' : cells + 1 ≤ R.cells) (hsl : slots + cap ≤ R.slots) (hp : pc + 3 = pc')
    (k : ∀ T' h' a', Wk l Z EL own nm cd ml ret R ws h0 K (a' :: sf) T' h' (cells + 1) (slots + cap) → Ext h h' → a' = h.size → Arv Z h' a' kA ty z vs dv → Exa Z h' a' ad → Go K P T' pc' ls (.ref a' :: st)) : Go K P T pc ls (.ref a :: st) := by
  have hg := W.grow
  obtain ⟨vm0, locs, k0, X, e, hx, hc, e0, hZ, hown, hS, hk, hL, hC, hO, hE, hw, hz, hs⟩ := W
  subst hp
  obtain ⟨T', h', X', e', Ex, A, E', f⟩ := cloneH X hx hZ hown w1 w2 w3 w4 w5 w6 e F.arh E (g := mkF K.2.2.2.1 pc ls (.ref a :: st)) rfl (hsz.trans hc.2.1.symm) rfl (hb hc.1 hd) hf (W := Wd) (by show 2 * 0 + _ ≤ _; omega) hl hcap hc' hsl
  obtain ⟨hC', hs'⟩ := wExt (s := K.2.2.1) hC hs Ex
  refine Go.stp f (k T' h' h.size ⟨vm0, locs, k0, X', e', hx, hc, e0, hZ, hown, hS, Nat.le_trans hk Ex.1, hL, hC', hO.ext Ex, hE, hw, hz, fun x q => ?_⟩ Ex rfl A E')
  rcases List.mem_cons.mp q with rfl | q
  · exact ⟨Safe.ext Ex hC.1 (Safe.new (Nat.le_refl _)), E'.lt, Or.inr hg⟩
  · exact hs' x q
/-- aaload -/
theorem wLdA (W : Wk l Z EL own nm cd ml ret R ws h0 K sf T h cells slots) (hd : decode cd pc = .ok (.aaload, 1)) {a : Addr} {kA : ClassId} {ty : FieldType} (ht : ty.isReference = true) {z j : Int32} {vs : List Value} {v dv : Value} (A : Arv Z h a kA ty z vs dv) (hj : ¬ j < 0 ∧ j < z) (hv : vs.getD j.toNatClampNeg dv = v) (hp : pc + 1 = pc')
    (k : Go K P T pc' ls (v :: st)) : Go K P T pc ls (.int j :: .ref a :: st) := by
  obtain ⟨vm0, locs, k0, X, e, hx, hc, e0, hZ, r⟩ := W
  subst hp
  obtain ⟨cl, A1, A2, A3, A4, A5, -⟩ := A
  exact Go.stp (fun t q => X.aaload hx (by rw [e]; exact A1.1) (State.isArrayOf_alike hZ.alike A1.2.1) ht A1.2.2 (inb_of A3 hj) (A5.at (inb_of A3 hj) hv) (g := mkF K.2.2.2.1 pc ls (.int j :: .ref a :: st)) rfl rfl (hb hc.1 hd) _ q) k
/-- the places that a step may have written: at a cell b alone, where all others are kept -/
theorem locsAt {p : Program} {e : Env} {s : State} {m : MethodId} {args : Array Value} {below : List Frame} {meth : Method} {c : Code} {T' : State} {locs L : List Loc} {b : Addr} (X : Stand p l e R s m args below meth c T locs cells slots) (X' : Stand p l e R s m args below meth c T' L cells slots) (Ke : Keep T.heap T'.heap [b]) (n : Nat) (hn : ∀ c, T.heap[b]? = some c → c.slots.size ≤ n) :
    Stand p l e R s m args below meth c T' (locs ++ (List.range n).map fun i => (⟨b, i⟩ : Loc)) cells slots := by
  refine ⟨X'.admits, X'.cas, X'.clock, X'.frames, X'.room, X'.hears, X'.method, X'.code, X'.here, X'.tail, X'.warmed, X'.limits, X'.bytes, ?_⟩
  obtain ⟨p1, p2, p3, p4, p5, p6⟩ := X'.same
  obtain ⟨-, -, -, -, -, r6⟩ := X.same
  refine ⟨p1, p2, p3, p4, p5, fun a c hc => ?_⟩
  obtain ⟨c', q1, q2, q3, -⟩ := p6 a c hc
  refine ⟨c', q1, q2, q3, fun i hi => ?_⟩
  obtain ⟨c1, s1, s2, s3, s4⟩ := r6 a c hc
  by_cases hab : a = b
  · subst hab
    by_cases hlt : i < n
    · exact absurd (List.mem_append_right _ (List.mem_map.mpr ⟨i, List.mem_range.mpr hlt, rfl⟩)) hi
    · have hc1 : c1.slots.size ≤ n := hn c1 s1
      rw [Array.getElem?_eq_none (by omega), Array.getElem?_eq_none (by omega)]
  · have hk := Ke.2.1 a c1 s1 (by simp [hab])
    have : c' = c1 := Option.some.inj (q1.symm.trans hk)
    rw [this]
    exact s4 i (fun hm => hi (List.mem_append_left _ hm))
/-- System.arraycopy of numbers, between two arrays of one kind -/
theorem wCopy (W : Wk l Z EL own nm cd ml ret R ws h0 K sf T h cells slots) {index : Nat} (hd : decode cd pc = .ok (.invokestatic index, 3)) (w1 : (Cond.methodLink own index Jvm.Stand.acN).before a0 Z = true) (w2 : (Cond.native Jvm.Stand.acN).before a0 Z = true) (w3 : (Cond.static Jvm.Stand.acN).before a0 Z = true) (w4 : (Cond.initialized "java/lang/System").before a0 Z = true)
    {a b : Addr} (hb' : b ∈ sf) {k k' : ClassId} {ty : FieldType} {z z' sp dp nn : Int32} {vs vd us : List Value} {dv dd : Value} (A : Arv Z h a k ty z vs dv) (B : Arv Z h b k' ty z' vd dd) (hty : refKind ty = false) (h1 : ¬ sp < 0) (h2 : ¬ dp < 0) (h3 : ¬ nn < 0) (zN zN' spN dpN nN : Nat) (e1 : z.toNatClampNeg = zN) (e2 : z'.toNatClampNeg = zN') (e3 : sp.toNatClampNeg = spN) (e4 : dp.toNatClampNeg = dpN) (e5 : nn.toNatClampNeg = nN) (h4 : spN + nN ≤ zN) (h5 : dpN + nN ≤ zN')
    (hus : us = (List.range nN).map fun i => vs.getD (spN + i) dv) (hl : dpN + nN ≤ vd.length) (hsz : ls.size = ml) (hf : 1 ≤ R.frames) (Wd : Nat) (hW : (st.map fun v => v.category).sum ≤ Wd) (hlo : Wd + (nativeFrameWords "java/lang/System" "arraycopy" 5 + 11) ≤ R.locals) (hp : pc + 3 = pc')
    (kk : ∀ T' h', Wk l Z EL own nm cd ml ret R ws h0 K sf T' h' cells slots → Keep h h' [b] → Arv Z h' b k' ty z' (vd.take dpN ++ us ++ vd.drop (dpN + nN)) dd → Go K P T' pc' ls st) : Go K P T pc ls (.int nn :: .int dp :: .ref b :: .int sp :: .ref a :: st) := by
  subst e1 e2 e3 e4 e5
  obtain ⟨vm0, locs, k0, X, e, hx, hc, e0, hZ, hown, hS, hk, hL, hC, hO, hE, hw, hz, hs⟩ := W
  subst hp
  obtain ⟨T', h', L, X', e', -, Ke, B', f⟩ := cpA X hx hZ hown w1 w2 w3 w4 e A B (Or.inl ⟨rfl, hty⟩) h1 h2 h3 h4 h5 hus hl (n0 := 0) (fun _ _ => Nat.zero_le _) (Nat.zero_le _) (g := mkF K.2.2.2.1 pc ls (.int nn :: .int dp :: .ref b :: .int sp :: .ref a :: st)) rfl (hsz.trans hc.2.1.symm) rfl (hb hc.1 hd) hf (W := Wd) (by show 2 * 0 + _ ≤ _; omega) hlo
  obtain ⟨s1, s2, s3⟩ := hs b hb'
  obtain ⟨cl, B1, -, B3, -⟩ := B
  have X2 := locsAt X X' (by rw [e, e']; exact Ke) z'.toNatClampNeg (fun c hc => by rw [e] at hc; cases hc.symm.trans B1.1; exact Nat.le_of_eq B3)
  have C1 : CHr Z EL vm0 h vm0 h' := CHr.keep Ke (fun x q => by cases List.mem_singleton.mp q; exact s1) hC.1
  obtain ⟨a1, a2, a3, a4⟩ := wAfter (s := K.2.2.1) (so := []) (wsc := [b]) (L := (List.range z'.toNatClampNeg).map fun i => (⟨b, i⟩ : Loc)) hC hs hL hO hw hz (fun x q => by cases List.mem_singleton.mp q; exact hb') (fun x q => nomatch q) (fun x q => Or.inl (by obtain ⟨i, -, rfl⟩ := List.mem_map.mp q; exact List.mem_singleton.mpr rfl)) Ke C1
  exact Go.stp f (kk T' h' ⟨vm0, _, k0, X2, e', hx, hc, e0, hZ, hown, hS, Nat.le_trans hk Ke.1, a3, a1, a4, hE, hw, hz, a2⟩ Ke B')
end More
section Starts
/-- a term that is said to equal an int -/
theorem eqI_v {args : Array Value} {first s : State} {o : Option Outcome} {idx : List Nat} {t : Term} {n : Int32} (h : (Cond.eq t (.int n)).value args first o s idx = some true) : t.eval args first o idx s = some (.int n) := by
  cases ht : t.eval args first o idx s with
  | none => simp [Cond.value, Term.eval, ht] at h
  | some x => cases x <;> simp [Cond.value, Term.eval, ht] at h ⊢; exact h
/-- a term that is said to equal one that is an object -/
theorem eqR_v {args : Array Value} {first s : State} {o : Option Outcome} {idx : List Nat} {t u : Term} {r : Addr} (h : (Cond.eq t u).value args first o s idx = some true) (hu : u.eval args first o idx s = some (.ref r)) : t.eval args first o idx s = some (.ref r) := by
  cases ht : t.eval args first o idx s with
  | none => simp [Cond.value, ht] at h
  | some x => cases x <;> simp [Cond.value, hu, ht] at h ⊢; exact h
theorem arvStart {Z : State} {args : Array Value} {t : Term} {a : Addr} {ty : FieldType} {z : Int32} {vs : List Value} {dv : Value} (hf : Fit Z) (ev : t.eval args Z none [] Z = some (.ref a)) (hx : (Cond.arrayOf t ty).value args Z none Z [] = some true) (hlen : (Cond.eq (Term.length t) (.int z)).value args Z none Z [] = some true) (hz : ¬ z < 0) (hl : z.toNatClampNeg = vs.length) (H : ∀ cl, Z.heap[a]? = some cl → HasL cl 0 vs) : ∃ k, Arv Z Z.heap a k ty z vs dv := by
  obtain ⟨c, A⟩ := Arr.start ev hx
  have hL := eqI_v hlen
  simp only [Term.eval, ev, Option.bind_eq_bind, Option.bind_some] at hL
  obtain ⟨cl, hc, h2⟩ := Option.bind_eq_some_iff.mp hL
  by_cases hn : cl.slots.size < 2147483648
  · rw [if_pos hn] at h2
    have e1 : Z.heap[a]? = some cl := (State.arrayAt?_spec hc).1
    have e2 : cl.slots.size.toInt32 = z := by have q := Option.some.inj h2; injection q
    have e3 : cl = c := Option.some.inj (e1.symm.trans A.1)
    subst e3
    exact ⟨_, Arv.start hf A hn e2 hz hl (H _ A.1)⟩
  · rw [if_neg hn] at h2; cases h2
/-- an element, read -/
theorem elem_h {Z : State} {args : Array Value} {t : Term} {a : Addr} {j : Int32} {v : Value} {cl : Cell} (ev : t.eval args Z none [] Z = some (.ref a)) (he : (Term.elem t (.int j)).eval args Z none [] Z = some v) (hc : Z.heap[a]? = some cl) (i : Nat) (hi : j.toNatClampNeg = i) : cl.slots[i]? = some v := hi ▸ (elem_in he ev (Term.int_eval j) hc).2
end Starts
end Jvm.Own
namespace Jvm.Own
open Jvm Sem ClassFile Op Lib Jvm.Stand Jvm.Free Jvm.LawKit Jvm.RoadKit Bundle Jvm.Free.Exc
section Known
variable {l : Launch} {Z : State} {EL : List (String × Nat)} {own nm : String} {cd : ByteArray} {ml : Nat} {ret : Option FieldType} {R : Room} {ws : List Addr} {h0 : Heap} {K : Cx} {sf : List Addr} {T : State} {h h' : Heap} {cells slots : Nat} {P : Outcome → State → Prop} {pc pc' : Nat} {ls : Array Slot} {st : List Value} {a0 : Array Value}
/-- a body's contract, where a stack trace may be filled in: the frames beneath are known -/
def CtK (l : Launch) (Z : State) (EL : List (String × Nat)) (y : MethodName) (cd : ByteArray) (ml : Nat) (ret : Option FieldType) (rm : Room) (as' : Array Value) (h : Heap) (ws : List Addr) (Q : Option Value → Heap → List Addr → Prop) : Prop :=
  ∀ wl, MetFree l y (head1 (Cond.code y cd ml ret :: wl) rm) (fun a U => a = as' ∧ Z.Warmed39 U.vm ∧ U.heap = h ∧ CHv Z EL U.vm h ∧ ∀ x ∈ ws, Safe Z EL U.vm h x ∧ x < h.size) (fun _ _ bl _ _ => Z.vm.FramesKnown bl) (fun _ U o U' => Pst Z EL ws U rm.cells rm.slots Q o U')
theorem CtK.mk {y : MethodName} (own nm : String) (h1 : y.cls = own) (h2 : y.name = nm) {rm : Room} {as' : Array Value} {Q : Option Value → Heap → List Addr → Prop} (pn : plainFor y = true) (hO : Old Z Z.heap.size h) (hE : EW Z a0 EL) (hw : ∀ x ∈ ws, Z.heap.size ≤ x)
    (k : ∀ (K : Cx) (T : State), Z.vm.FramesKnown K.2.2.2.2.2.1 → Wk l Z EL own nm cd ml ret rm ws h K ws T h 0 0 → Go K (Pst Z EL ws K.2.2.1 rm.cells rm.slots Q) T 0 (entryFrame K.2.2.2.1 as' ml).locals []) : CtK l Z EL y cd ml ret rm as' h ws Q := by
  subst h1 h2
  intro wl
  refine MetFree.of_bodySF pn hisR ?_
  intro p e s m args below meth c s₁ Bd hml hP hK
  obtain ⟨rfl, hZ, hh, hCH, hsf⟩ := hP
  have X0 := Stand.of_body Bd
  have hes : s₁.heap = h := by rw [← hh, Bd.state]; rfl
  have hn := name_of_methodNamed Bd.named Bd.method
  obtain ⟨o, U, r1, r2, r3, r4⟩ := k (p, e, s, m, args, below, meth, c) s₁ hK ⟨s.vm, [], 0, X0, hes, Bd.exec, ⟨Bd.bytes, hml, Bd.returns, Bd.notSynchronized, hn.1⟩, hh, hZ, findClass_of_methodNamed Bd.named, (State.WarmedH.refl s).since 0, Nat.zero_le _, (fun x q => nomatch q), by rw [← hh] at hCH ⊢; exact CHr.refl hCH, hO, ⟨a0, hE⟩, hw, hO.1 ▸ hO.2.1, fun x q => ⟨(hsf x q).1, (hsf x q).2, Or.inl q⟩⟩
  refine ⟨U, o, ?_, r2, r3, r4⟩
  have ef : entryFrame m args ml = mkF m 0 (entryFrame m args ml).locals [] := rfl
  rw [ef]; exact r1
theorem Cb.ctK {y : MethodName} {bytes : ByteArray} {maxL : Nat} {rt : Option FieldType} {rm : Room} {len Wd : Nat} {as' : Array Value} {wsc : List Addr} {Q : Option Value → Heap → List Addr → Prop} (C : CtK l Z EL y bytes maxL rt rm as' h wsc Q) (wc : (Cond.code y bytes maxL rt).before a0 Z = true) (wz : (Cond.initialized y.cls).before a0 Z = true) (hEL : EW Z a0 EL) (hMK : Z.vm.MethodsKnown) (hFK : Z.vm.FramesKnown K.2.2.2.2.2.1) (hf : rm.frames + 1 ≤ R.frames) (hl : Wd + (maxL + 11) + rm.locals ≤ R.locals) :
    Cb l Z EL R K y len Wd rm.cells rm.slots as' h wsc Q := by
  intro vm0 hZ H hsafe
  refine BackS.of_freeWG (bytes := bytes) (maxL := maxL) (ret := rt) (E := fun _ first o t L k n => k = rm.cells ∧ n = rm.slots ∧ ∃ v so, o = .returned v ∧ Q v t.heap so ∧ (∀ x ∈ so, Safe Z EL t.vm t.heap x ∧ first.heap.size ≤ x ∧ x < t.heap.size) ∧ (∀ x ∈ L, x.base ∈ wsc ∨ first.heap.size ≤ x.base) ∧ CHr Z EL first.vm first.heap t.vm t.heap) (C []) hf hl
    (fun m meth c A a Y hp => have hU : Z.Warmed39 A.U.vm := wtrans (s := K.2.2.1.setVm vm0) hZ Y.warmed
      ⟨by show (Cond.and _ .tt).before a A.U = true; rw [Cond.before_and, mv hU wc]; rfl, mv hU wc, mv hU wz, hp.2.2.1, hp.2.2.2⟩)
    (fun m meth c A a g mk Y hp => ⟨hp.1, wtrans (s := K.2.2.1.setVm vm0) hZ Y.warmed, hp.2.1, (CHv.at Y hZ hEL H).1, fun x q => ⟨(CHv.at Y hZ hEL H).safe (hsafe x q).2 (hsafe x q).1, (hsafe x q).2⟩⟩)
    (fun m meth c A a g mk Y hp hg => ?_)
    (fun _ first o t ⟨v, L, so, h1, h2, h3, h4, h5, h6⟩ => ⟨L, _, _, h6, rfl, rfl, v, so, h1, h2, h3, h4, h5⟩)
    (fun m meth c A a g mk v t L k n Y hp _ hret ⟨e1, e2, v', so, e3, e4, e5, e6, e7⟩ => ?_)
  · show Z.vm.FramesKnown (A.U.setTop g).frames
    rw [State.frames_setTop' g Y.here.top, Y.tail]
    intro fr hfr m' hm'
    rcases List.mem_cons.mp hfr with rfl | hfr
    · have e1 : m' = m := by
        have : some g.method = some m' := hm'
        rw [← Option.some.inj this]; exact hg
      rw [e1]
      have hm := Y.method
      exact hMK m meth (by rw [← hZ.alike.method?]; exact hm)
    · exact hFK fr hfr m' hm'
  · cases e3; subst e1 e2
    have eh : (A.U.calling g mk a).heap = h := hp.2.1
    have ke := keep_of (ws := wsc) hret.2.2.2 (by simpa using e6)
    rw [eh] at ke e5 e6 e7
    exact ⟨L, so, e4, e5, e6, ke, rfl, rfl, rfl, (CHv.at Y hZ hEL H).trans e7⟩
/-- new, and the cell is untouched -/
theorem wNewU (W : Wk l Z EL own nm cd ml ret R ws h0 K sf T h cells slots) {C : String} {index n : Nat} (hd : decode cd pc = .ok (.new index, 3)) (w : (Cond.classLink own index C).before a0 Z = true) (wi : (Cond.instantiable C n).before a0 Z = true) (wz : (Cond.initialized C).before a0 Z = true) (hc' : cells + 1 ≤ R.cells) (hl : slots + n ≤ R.slots) (hp : pc + 3 = pc')
    (k : ∀ T' h' a, Wk l Z EL own nm cd ml ret R ws h0 K (a :: sf) T' h' (cells + 1) (slots + n) → Ext h h' → a = h.size → Exa Z h' a C → (∀ {O nm d : String} {ty : FieldType}, Laid Z a0 C O nm d → parseFieldDescriptor d = some ty → Fld Z h' a O nm d (defaultValue ty)) → Unt h' a → Go K P T' pc' ls (.ref a :: st)) : Go K P T pc ls st := by
  have hg := W.grow
  obtain ⟨vm0, locs, k0, X, e, hx, hc, e0, hZ, hown, hS, hk, hL, hC, hO, hE, hw, hz, hs⟩ := W
  subst hp
  obtain ⟨T', h', X', e', E, A, D, U, f⟩ := newO X hx hZ hown w wi wz e (g := mkF K.2.2.2.1 pc ls st) rfl (hb hc.1 hd) hc' hl
  obtain ⟨hC', hs'⟩ := wExt (s := K.2.2.1) hC hs E
  refine Go.stp f (k T' h' h.size ⟨vm0, locs, k0, X', e', hx, hc, e0, hZ, hown, hS, Nat.le_trans hk E.1, hL, hC', hO.ext E, hE, hw, hz, fun x q => ?_⟩ E rfl A D U)
  rcases List.mem_cons.mp q with rfl | q
  · exact ⟨Safe.ext E hC.1 (Safe.new (Nat.le_refl _)), A.lt, Or.inr hg⟩
  · exact hs' x q
/-- the constructor (String) of a JDK Throwable on an object that the walk may write -/
theorem wExc1 (W : Wk l Z EL own nm cd ml ret R ws h0 K sf T h cells slots) (hlt : l.stackTraces = true) {rc : String} {links : List Link} {ic n : Nat} (hd : decode cd pc = .ok (.invokespecial ic, 3)) (hok : linksOk 1 links = true) (w1 : (Cond.methodLink own ic (ctor 1 (headName links))).before a0 Z = true) (w2 : (Cond.instanceMethod (ctor 1 (headName links))).before a0 Z = true) (wT : (chainTab 1 rc links).before a0 Z = true) (wi : (Cond.instantiable rc n).before a0 Z = true) (r : ∀ d ∈ twoRefs, d.before a0 Z = true)
    (hO0 : Old Z Z.heap.size h0) (hMK : Z.vm.MethodsKnown) (hFK : Z.vm.FramesKnown K.2.2.2.2.2.1) {a : Addr} (ha : a ∈ sf) (E : Exa Z h a rc) (N : Unt h a) (B : Fld Z h a "java/lang/Throwable" "backtrace" "Ljava/lang/Object;" .null) (B2 : Fld Z h a "java/lang/Throwable" "detailMessage" "Ljava/lang/String;" .null) {msg : Value} (hmsg : msg.isRef = true) (hsz : ls.size = ml) (Wd : Nat) (hW : (st.map fun v => v.category).sum ≤ Wd) (hf : 4 + links.length ≤ R.frames) (hlo : Wd + (56 + 14 * links.length) ≤ R.locals) (hc' : cells + 1 ≤ R.cells) (hl' : slots + 2752 ≤ R.slots) (hp : pc + 3 = pc')
    (k : ∀ T' h', Wk l Z EL own nm cd ml ret R ws h0 K sf T' h' (cells + 1) (slots + 2752) → Keep h h' [a] → Kp Z h h' a → Exa Z h' a rc → Fld Z h' a "java/lang/Throwable" "detailMessage" "Ljava/lang/String;" msg → Go K P T' pc' ls st) : Go K P T pc ls (msg :: .ref a :: st) := by
  obtain ⟨vm0, locs, k0, X, e, hx, hc, e0, hZ, hown, hS, hk, hL, hC, hO, hE, hw, hz, hs⟩ := W
  subst hp
  have hTH : ThS Z h := ThS.ext hO.2 ThS.start
  have hT0 : ThS Z (K.2.2.1.setVm vm0).heap := by show ThS Z K.2.2.1.heap; rw [e0]; exact ThS.ext hO0.2 ThS.start
  obtain ⟨T', h', X', e', Kp', E', -, D', -, -, f⟩ := excL1 X hx hlt hZ hown hok w1 w2 wT wi r hT0 hTH (Vm.MethodsKnown.alikeC hZ.alike hMK) (Vm.FramesKnown.alikeC hZ.alike hFK) e E N B B2 hmsg (g := mkF K.2.2.2.1 pc ls (msg :: .ref a :: st)) rfl (hsz.trans hc.2.1.symm) (rest := st) rfl (hb hc.1 hd) hf (by show 2 * 0 + _ + _ ≤ _; omega) hc' hl'
  have Ke := keep_of_kp Kp'
  obtain ⟨s1, s2, s3⟩ := hs a ha
  have C1 : CHr Z EL vm0 h vm0 h' := CHr.keep Ke (fun x q => by cases List.mem_singleton.mp q; exact s1) hC.1
  obtain ⟨a1, a2, a3, a4⟩ := wAfter (s := K.2.2.1) (so := []) (wsc := [a]) (L := sixLocs Z a) hC hs hL hO hw hz (fun x q => by cases List.mem_singleton.mp q; exact ha) (fun x q => nomatch q) (fun x q => Or.inl (by obtain ⟨nd, -, rfl⟩ := List.mem_map.mp q; exact List.mem_singleton.mpr rfl)) Ke C1
  exact Go.stp f (k T' h' ⟨vm0, _, k0, X', e', hx, hc, e0, hZ, hown, hS, Nat.le_trans hk Ke.1, a3, a1, a4, hE, hw, hz, a2⟩ Ke Kp' E' D')
/-- invokevirtual of a method that a superclass declares -/
theorem wVirtualUp (W : Wk l Z EL own nm cd ml ret R ws h0 K sf T h cells slots) {C owner : String} {y z : MethodName} {index : Nat} (hd : decode cd pc = .ok (.invokevirtual index, 3)) (w1 : (Cond.methodLink own index y).before a0 Z = true) (w2 : (Cond.sameMethod y.cls owner y.name y.desc).before a0 Z = true) (w2' : (Cond.declares ⟨owner, y.name, y.desc⟩).before a0 Z = true) (w3 : (Cond.selects C y z).before a0 Z = true) (w4 : (Cond.instanceMethod z).before a0 Z = true) (hy : owner ≠ "java/lang/invoke/MethodHandle" ∧ owner ≠ "java/lang/invoke/VarHandle")
    {Wd kc ks : Nat} {a : Addr} {argsL rest : List Value} {wsc : List Addr} {Q : Option Value → Heap → List Addr → Prop} (Cc : Cb l Z EL R K z 3 Wd kc ks (.ref a :: argsL).toArray h wsc Q) (E : Exa Z h a C) (hws : ∀ x ∈ wsc, x ∈ sf) (hsz : ls.size = ml) (hlen : ∀ sig, parseMethodDescriptor y.desc = some sig → argsL.length = sig.parameters.length) (hst : st = argsL.reverse ++ .ref a :: rest) (hW : (rest.map fun v => v.category).sum ≤ Wd) (hc' : cells + kc ≤ R.cells) (hl' : slots + ks ≤ R.slots) (hp : pc + 3 = pc')
    (k : ∀ v so T' h', Wk l Z EL own nm cd ml ret R ws h0 K (so ++ sf) T' h' (cells + kc) (slots + ks) → Keep h h' wsc → (∀ x ∈ so, h.size ≤ x ∧ x < h'.size) → Q v h' so → Go K P T' pc' ls (v.toList ++ rest)) : Go K P T pc ls st := by
  obtain ⟨vm0, locs, k0, X, e, hx, hc, e0, hZ, hown, hS, hk, hL, hC, hO, hE, hw, hz, hs⟩ := W
  subst hp
  obtain ⟨cB, kB, i1, i2, i3⟩ := isOf (s := K.2.2.1.setVm vm0) hZ e E
  obtain ⟨v, vm₁, B, -, X', hS', hgr, ⟨L, so, q1, q2, q3, q4, q5, q6, q7, q8⟩, f⟩ := X.virtualBackUpS hx (x := y) (y := z) hown (mvT hZ w1) (mvT hZ w2) (mvT hZ w2') hy (mvT hZ w3) (mvT hZ w4) (Cc vm0 hZ hC.1 fun x q => ⟨(hs x (hws x q)).1, (hs x (hws x q)).2.1⟩) i1 i3 (g := mkF K.2.2.2.1 pc ls st) rfl (hsz.trans hc.2.1.symm) (Steps.refl _) hlen hst (by show 2 * 0 + _ ≤ _; omega) (hb hc.1 hd) (fun _ _ => ⟨rfl, e, hc', hl'⟩)
  obtain ⟨X2, hS2, hZ2, hown2⟩ := rebS (Z := Z) (own := own) (n1 := h.size) hS hk X' hS' (by rw [← e]; exact hgr) hZ hown
  obtain ⟨a1, a2, a3, a4⟩ := wAfter (s := K.2.2.1) hC hs hL hO hw hz hws q2 q3 q4 q8
  rw [q5, q6, q7] at X2
  obtain ⟨o, U, r, q⟩ := k v so B.U B.U.heap ⟨B.U.vm, _, _, X2, rfl, hx, hc, e0, hZ2, hown2, hS2, Nat.le_refl _, a3, a1, a4, hE, hw, hz, a2⟩ q4 (fun x z => ⟨(q2 x z).2.1, (q2 x z).2.2⟩) q1
  exact ⟨o, U, f.trans r, q⟩
end Known
end Jvm.Own
namespace Jvm.Own
open Jvm Sem ClassFile Op Lib Jvm.Stand Jvm.Free Jvm.LawKit Jvm.RoadKit Bundle Jvm.Free.Exc LibCode.Throwable
section Fill
/-- the word of Throwable's own layout that a sheet may lack: the subclass's word serves in its stead -/
abbrev noW : Cond := .lays tN tN "suppressedExceptions" listD
set_option maxHeartbeats 4000000 in
theorem fillLinks {args : Array Value} {s : State} {pl : Platform} (howns : pl.frameOwnsMonitors = true) (hfin : pl.finalization = false) (hpl : pl.magicAccessors = ({} : Platform).magicAccessors) {rc : String} (hrc : rc ≠ tN)
    (A : ∀ c ∈ excAtoms rc, c ≠ noW → c.before args s = true) :
    ∃ T : ThrowableC, T.Links pl s ∧ s.vm.findClass tN = some T.cT ∧ s.methodNamed? tFill = some T.fill ∧ s.methodNamed? tFill0 = some T.fill0 ∧
      s.fieldFound? tN "stackTrace" steD = some (T.cT, T.kT, T.i17, T.fStack) ∧ s.fieldFound? tN "UNASSIGNED_STACK" steD = some (T.cT, T.kT, T.i13, T.fUnassigned) ∧
      T.fStack.name = "stackTrace" ∧ T.fStack.type = .array (.object "java/lang/StackTraceElement") := by
  have W : ∀ c, c ∈ excAtoms rc → c ≠ noW → c.holds args s none s [] = true := fun c h1 h2 => A c h1 h2
  -- the class and its methods
  have wN := W (.native tFill0) (by simp [excAtoms, throwableAtoms]) (by simp)
  obtain ⟨⟨c, j0⟩, m0, n0, g0, x0, y0, z0, s0⟩ := Cond.native_spec wN
  have fc : s.vm.findClass tN = some c := findClass_of_methodNamed n0
  obtain ⟨k, fk, fn⟩ := Vm.findClass_spec fc
  obtain ⟨_, k', _, _, fk', _, _, _, _, ni⟩ := Cond.superclass_spec fc (W (.superclass tN "java/lang/Object") (by simp [excAtoms, throwableAtoms]) (by simp))
  cases Option.some.inj (fk.symm.trans fk')
  obtain ⟨jF, mF, nF, gF, aF, tF, bF, -, -⟩ := Cond.ownMethod (x := tFill) fc fk (W (.instanceMethod tFill) (by simp [excAtoms, throwableAtoms]) (by simp))
  obtain ⟨mF', cF, gF', x1, x2, x3, x4, x5, -, x6⟩ := Cond.codeSync_spec nF (W (.codeSync tFill Fill.code 1 (some (.object tN))) (by simp [excAtoms, throwableAtoms]) (by simp))
  cases Option.some.inj (gF.symm.trans gF')
  obtain ⟨j0', m0', n0', g0', a0', t0', b0', w0', d0'⟩ := Cond.ownMethod (x := tFill0) fc fk (W (.instanceMethod tFill0) (by simp [excAtoms, throwableAtoms]) (by simp))
  cases Option.some.inj (n0.symm.trans n0')
  cases Option.some.inj (g0.symm.trans g0')
  obtain ⟨jI, mI, nI, gI, aI, -, -, -, -⟩ := Cond.ownMethod (x := tInit0) fc fk (W (.instanceMethod tInit0) (by simp [excAtoms, throwableAtoms]) (by simp))
  obtain ⟨mI', cI, gI', u1, u2, u3, -, u4, -, -⟩ := Cond.code_spec nI (W (.code tInit0 Init0.code 1 none) (by simp [excAtoms, throwableAtoms]) (by simp))
  cases Option.some.inj (gI.symm.trans gI')
  obtain ⟨iO, mO, nO, gO, tO, bO⟩ := Cond.instanceMethod_spec (W (.instanceMethod oInit) (by simp [excAtoms, throwableAtoms]) (by simp))
  obtain ⟨mO', cO, gO', v1, v2, v3, -, v4, -, v5⟩ := Cond.code_spec nO (W (.code oInit ⟨#[0xb1]⟩ 1 none) (by simp [excAtoms, throwableAtoms]) (by simp))
  cases Option.some.inj (gO.symm.trans gO')
  obtain ⟨kO, fO, nmO⟩ := Vm.findClass_spec (findClass_of_methodNamed nO)
  obtain ⟨p1, p2⟩ := name_of_methodNamed nO gO
  -- the pool
  obtain ⟨c1, e1', cf, l1, r1, hcf, q1⟩ := Cond.linkedMethod fc fk nO (W (.methodLink tN 1 oInit) (by simp [excAtoms, throwableAtoms]) (by simp)) pl hpl
  obtain ⟨c27, e27, cf2, l27, r27, hcf2, q27⟩ := Cond.linkedMethod fc fk nF (W (.methodLink tN 27 tFill) (by simp [excAtoms, throwableAtoms]) (by simp)) pl hpl
  cases Option.some.inj (hcf.symm.trans hcf2)
  obtain ⟨c202, e202, cf3, l202, r202, hcf3, q202⟩ := Cond.linkedMethod fc fk n0 (W (.methodLink tN 202 tFill0) (by simp [excAtoms, throwableAtoms]) (by simp)) pl hpl
  cases Option.some.inj (hcf.symm.trans hcf3)
  -- the fields: the last by the subclass's layout
  have wS := W (.lays rc tN "stackTrace" steD) (by simp [excAtoms]) (by simp)
  have wP := W (.lays rc tN "suppressedExceptions" listD) (by simp [excAtoms]) (by simp [hrc])
  obtain ⟨c7, i7, f7, l7, r7, a7, s7, o7, -, -, -⟩ := Cond.ownField (t := .object tN) fc fk (by decide +kernel) (W (.fieldLink tN 7 tN "cause" "Ljava/lang/Throwable;") (by simp [excAtoms, throwableAtoms]) (by simp)) (W (.lays tN tN "cause" "Ljava/lang/Throwable;") (by simp [excAtoms, throwableAtoms]) (by simp)) pl hpl
  obtain ⟨c17, i17, f17, l17, r17, a17, s17, o17, n17, y17, ff17⟩ := Cond.ownField (t := .array (.object "java/lang/StackTraceElement")) fc fk (by decide +kernel) (W (.fieldLink tN 17 tN "stackTrace" steD) (by simp [excAtoms, throwableAtoms]) (by simp)) wS pl hpl
  obtain ⟨c24, i24, f24, l24, r24, a24, s24, o24, n24, -, ff24⟩ := Cond.ownField (t := .object "java/util/List") fc fk (by decide +kernel) (W (.fieldLink tN 24 tN "suppressedExceptions" listD) (by simp [excAtoms, throwableAtoms]) (by simp)) wP pl hpl
  obtain ⟨c13, i13, f13, aS, cS, l13, r13, a13, s13, -, -, hsta, -, -, -, -, ff13⟩ := Cond.ownStatic (t := .array (.object "java/lang/StackTraceElement")) fc fk (by decide +kernel) (W (.fieldLink tN 13 tN "UNASSIGNED_STACK" steD) (by simp [excAtoms, throwableAtoms]) (by simp)) (W (.laysStatic tN "UNASSIGNED_STACK" steD) (by simp [excAtoms, throwableAtoms]) (by simp)) pl hpl
  obtain ⟨c20, i20, f20, _, _, l20, r20, a20, s20, -⟩ := Cond.ownStatic (t := .object "java/util/List") fc fk (by decide +kernel) (W (.fieldLink tN 20 tN "SUPPRESSED_SENTINEL" listD) (by simp [excAtoms, throwableAtoms]) (by simp)) (W (.laysStatic tN "SUPPRESSED_SENTINEL" listD) (by simp [excAtoms, throwableAtoms]) (by simp)) pl hpl
  obtain ⟨_, _, _, _, _, fM, _, _, _, sM, oM, _⟩ := Cond.lays_spec (W (.lays tN tN "detailMessage" "Ljava/lang/String;") (by simp [excAtoms, throwableAtoms]) (by simp))
  obtain ⟨cX, kX, _, _, _, _, hcX, hkX, -⟩ := Cond.lays_spec wS
  obtain ⟨-, d17, hd17, hm17⟩ := Cond.laysAt hcX hkX ff17 wS
  obtain ⟨-, d24, hd24, hm24⟩ := Cond.laysAt hcX hkX ff24 wP
  have apart := Cond.laysApart hd17 hd24 hm17 hm24 (by rw [n17, n24]; decide)
  have e1 : mF.sig.parameters = [] := by
    have q : (parseMethodDescriptor tFill.desc).map (·.parameters) = some [] := by decide +kernel
    rw [x6] at q; simpa using q
  have e2 : m0.sig.parameters = [.int] := by
    have q : (parseMethodDescriptor tFill0.desc).map (·.parameters) = some [.int] := by decide +kernel
    rw [s0] at q; simpa using q
  have e3 : mO.sig.parameters.length = 0 := by
    have q : (parseMethodDescriptor oInit.desc).map (·.parameters.length) = some 0 := by decide +kernel
    rw [v5] at q; simpa using q
  exact ⟨{ cT := c, kT := k, cO := c, aS := aS, fillIdx := jF, fill0Idx := j0, initSIdx := jI, obj := iO, kObj := kO, methFill := mF, methFill0 := m0, methInitS := mI, methObj := mO, codeFill := cF, codeInitS := cI, codeObj := cO, fBack := f7, fDepth := f7, fStack := f17, fCause := f7, fSupp := f24, fMsg := fM, fUnassigned := f13, fSentinel := f20, cfT := cf, ci1 := c1, n1 := e1', ci27 := c27, n27 := e27, ci202 := c202, n202 := e202, ci7 := c7, i7 := i7, ci13 := c13, i13 := i13, ci17 := c17, i17 := i17, ci20 := c20, i20 := i20, ci24 := c24, i24 := i24 },
    { owns := howns, noFinalization := hfin, cls := fk, name := fn, boot := Vm.findClass_boot fc fk, notInterface := ni, initialized := Cond.initialized_spec fc fk (W (.initialized tN) (by simp [excAtoms, throwableAtoms]) (by simp)), statics := hsta, fillAt := aF, fillCode := x1, fillBytes := x2, fillLocals := x3, fillLocks := x5, fillStatic := tF, fillAbstract := bF, fillReturns := x4, fillParams := e1,
      fill0At := a0', fill0Name := w0', fill0Desc := d0', fill0Params := e2, fill0Static := t0', fill0Native := x0, fill0Code := y0, fill0Locks := z0, fill0Abstract := b0', stackInstance := s17, stackNotFinal := o17, unassignedStatic := s13, objClass := fO, objClassName := nmO, objMethod := gO, objName := p1, objStatic := tO, objAbstract := bO,
      objFound := by rw [p2]; exact lookupSpecial_of_named nO gO tO, objParams := e3, objCode := v1, objBytes := v2, objLocks := v4, causeInstance := s7, causeNotFinal := o7, sentinelStatic := s20, suppInstance := s24, suppNotFinal := o24, msgInstance := sM, msgNotFinal := oM, stackApartSupp := apart, file := hcf, mlink1 := l1, mright1 := r1, pool1 := q1, mlink27 := l27, mright27 := r27, pool27 := q27, mlink202 := l202, mright202 := r202, pool202 := q202,
      link7 := l7, right7 := r7, at7 := a7, link13 := l13, right13 := r13, at13 := a13, link17 := l17, right17 := r17, at17 := a17, link20 := l20, right20 := r20, at20 := a20, link24 := l24, right24 := r24, at24 := a24 },
    fc, nF, n0, ff17, ff13, n17, y17⟩
variable {l : Launch} {Z : State} {EL : List (String × Nat)} {nm : String} {cd : ByteArray} {ml : Nat} {ret : Option FieldType} {R : Room} {h0 : Heap} {K : Cx} {sf : List Addr} {T : State} {h h' : Heap} {cells slots : Nat} {P : Outcome → State → Prop} {pc pc' : Nat} {ls : Array Slot} {st : List Value} {a0 : Array Value}
theorem Keep.of_two {a : Addr} (hz : h.size = h0.size) (K1 : Keep h0 h [a]) (K2 : Keep h0 h' [a]) : Keep h h' [a] := by
  have back : ∀ (x : Addr) (c : Cell), h[x]? = some c → ∃ c0 : Cell, h0[x]? = some c0 := fun x c q => by
    have lt := (Array.getElem?_eq_some_iff.mp q).1
    rw [hz] at lt
    exact ⟨_, Array.getElem?_eq_some_iff.mpr ⟨lt, rfl⟩⟩
  refine ⟨hz ▸ K2.1, fun x c q r => ?_, fun x c q => ?_⟩
  · obtain ⟨c0, q0⟩ := back x c q
    cases q.symm.trans (K1.2.1 x c0 q0 r)
    exact K2.2.1 x c q0 r
  · obtain ⟨c0, q0⟩ := back x c q
    obtain ⟨c1, q1, r1, r2, r3⟩ := K1.2.2 x c0 q0
    cases q.symm.trans q1
    obtain ⟨c2, q2, s1, s2, s3⟩ := K2.2.2 x c0 q0
    exact ⟨c2, q2, s1.trans r1.symm, s2.trans r2.symm, s3.trans r3.symm⟩
set_option maxHeartbeats 4000000 in
/-- fillInStackTrace() in a constructor of Throwable's own, on the object that it makes -/
theorem wFill {a : Addr} (W : Wk l Z EL tN nm cd ml ret R [a] h0 K sf T h cells slots) (hsz0 : h.size = h0.size) (hlt : l.stackTraces = true) (hd : decode cd pc = .ok (.invokevirtual 27, 3)) {rc : String} (hrc : rc ≠ tN) {n : Nat} (wi : (Cond.instantiable rc n).before a0 Z = true)
    (hw : ∀ d ∈ excAtoms rc, d ≠ noW → d.before a0 Z = true) (hO0 : Old Z Z.heap.size h0) (hMK : Z.vm.MethodsKnown) (hFK : Z.vm.FramesKnown K.2.2.2.2.2.1) (ha : a ∈ sf) (E : Exa Z h a rc) (N : Unt h a) (B : Fld Z h a "java/lang/Throwable" "backtrace" "Ljava/lang/Object;" .null)
    {u : Value} (hu : u.isRef = true) (S : Fld Z h a "java/lang/Throwable" "stackTrace" "[Ljava/lang/StackTraceElement;" u) (SU : Sta Z Z.heap "java/lang/Throwable" "UNASSIGNED_STACK" "[Ljava/lang/StackTraceElement;" u)
    (hsz : ls.size = ml) (hst : st = []) (hf : 3 ≤ R.frames) (hlo : 42 ≤ R.locals) (hc' : cells + 1 ≤ R.cells) (hl' : slots + 2752 ≤ R.slots) (hp : pc + 3 = pc')
    (k : ∀ T' h', Wk l Z EL tN nm cd ml ret R [a] h0 K sf T' h' (cells + 1) (slots + 2752) → Keep h h' [a] → Exa Z h' a rc → (∀ {O n d : String} {v : Value}, Fld Z h a O n d v → Jvm.RoadKit.slotOf Z O n d ≠ Jvm.RoadKit.slotOf Z "java/lang/Throwable" "backtrace" "Ljava/lang/Object;" → Jvm.RoadKit.slotOf Z O n d ≠ Jvm.RoadKit.slotOf Z "java/lang/Throwable" "depth" "I" → Jvm.RoadKit.slotOf Z O n d ≠ Jvm.RoadKit.slotOf Z "java/lang/Throwable" "stackTrace" "[Ljava/lang/StackTraceElement;" → Fld Z h' a O n d v) → Go K P T' pc' ls (.ref a :: st)) : Go K P T pc ls (.ref a :: st) := by
  obtain ⟨vm0, locs, k0, X, e, hx, hc, e0, hZ, hown, hS, hk, hL, hC, hO, hE, hw', hz, hs⟩ := W
  subst hp hst
  have hT0 : ThS Z (K.2.2.1.setVm vm0).heap := by show ThS Z K.2.2.1.heap; rw [e0]; exact ThS.ext hO0.2 ThS.start
  have A : ∀ d ∈ excAtoms rc, d ≠ noW → d.before K.2.2.2.2.1 (K.2.2.1.setVm vm0) = true := fun d h1 h2 => mvX (s := K.2.2.1.setVm vm0) hT0 hZ (List.all_eq_true.mp exc_ok d h1) (hw d h1 h2)
  have htr : K.2.1.platform.stackTraces = true := by rw [X.admits.platform]; exact hlt
  have howns : K.2.1.platform.frameOwnsMonitors = true := by rw [X.admits.platform]
  have hfin : K.2.1.platform.finalization = false := by rw [X.admits.platform]
  have hpl : K.2.1.platform.magicAccessors = ({} : Platform).magicAccessors := by rw [X.admits.platform]
  obtain ⟨T0, L, found, nF, n0, fS, fU, nS, yS⟩ := fillLinks howns hfin hpl hrc A
  have hal : Z.vm.Alike vm0 := hZ.alike
  -- the receiver
  obtain ⟨cell, kc, h1, h2, h3, h4, h5⟩ := id E
  obtain ⟨c2, u1, u2, u3⟩ := N
  cases h1.symm.trans u1
  obtain ⟨c4, k2, i1, i2, i3, -⟩ := Cond.instantiable_spec wi
  cases h2.symm.trans i1
  cases h3.symm.trans i2
  obtain ⟨kX, hkX, eX⟩ := hal.2.2 _ _ h3
  have hfd : (K.2.2.1.setVm vm0).vm.findClass rc = some cell.cls := by show vm0.findClass rc = _; rw [hal.findClass]; exact h2
  have ordX : kX.kind = .ordinary := by rw [eX]; exact i3
  have szX : cell.slots.size = kX.instanceTypes.size := by rw [eX]; exact h5 i3
  have hT : T.heap[a]? = some cell := by rw [e]; exact h1
  -- its fields
  obtain ⟨cs, cfS, kS, iS, fS', s1, s2, -, -, -, -, s7⟩ := id S
  cases h1.symm.trans s1
  obtain ⟨kS', qS, -⟩ := State.fieldFound?_setVm (s := Z) hal s2
  cases (show (K.2.2.1.setVm vm0).fieldFound? tN "stackTrace" steD = _ from qS).symm.trans fS
  obtain ⟨c198, i198, fB, l198, r198, a198, sB, -, nB, yB, ffB⟩ := Cond.ownField (t := .object "java/lang/Object") found L.cls (by decide +kernel) (A (.fieldLink tN 198 tN "backtrace" obD) (by simp [excAtoms]) (by simp)) (A (.lays tN tN "backtrace" obD) (by simp [excAtoms]) (by simp)) K.2.1.platform hpl
  obtain ⟨cb, cfB, kB, iB, fB', b1, b2, -, -, -, -, b7⟩ := id B
  cases h1.symm.trans b1
  obtain ⟨kB', qB, -⟩ := State.fieldFound?_setVm (s := Z) hal b2
  cases (show (K.2.2.1.setVm vm0).fieldFound? tN "backtrace" obD = _ from qB).symm.trans ffB
  have wD := A (.lays rc tN "depth" "I") (by simp [excAtoms]) (by simp)
  obtain ⟨_, _, cD, kD, iD, fD, -, -, ffD, sD, -⟩ := Cond.lays_spec wD
  cases Option.some.inj ((Cond.lays_declared wD ffD).symm.trans found)
  obtain ⟨hkD, aD⟩ := State.fieldFound?_spec ffD
  cases Option.some.inj (hkD.symm.trans L.cls)
  obtain ⟨nD, yD⟩ := State.fieldFound?_type ffD (t := .int) (by decide +kernel)
  obtain ⟨_, _, cZ, kZ, iZ, fZ, -, -, zD, -⟩ := Cond.lays_spec (hw (.lays rc tN "depth" "I") (by simp [excAtoms]) (by simp))
  obtain ⟨kZ', qZ, -⟩ := State.fieldFound?_setVm (s := Z) hal zD
  cases (show (K.2.2.1.setVm vm0).fieldFound? tN "depth" "I" = _ from qZ).symm.trans ffD
  have hfb := Cond.soleField_find found L.cls (A (.soleField tN "backtrace") (by simp [excAtoms]) (by simp)) a198 nB sB
  have hfdp := Cond.soleField_find found L.cls (A (.soleField tN "depth") (by simp [excAtoms]) (by simp)) aD nD sD
  obtain ⟨comp, cO, kO, -, -, hkO, hkindO, hOb⟩ := Cond.arrayOver_spec (A (.arrayOver (.object "java/lang/Object")) (by simp [excAtoms]) (by simp))
  obtain ⟨tyS, -⟩ := Cond.laysAt hfd hkX fS (A (.lays rc tN "stackTrace" steD) (by simp [excAtoms]) (by simp))
  obtain ⟨tyB, -⟩ := Cond.laysAt hfd hkX ffB (A (.lays rc tN "backtrace" obD) (by simp [excAtoms]) (by simp))
  obtain ⟨tyD, -⟩ := Cond.laysAt hfd hkX ffD wD
  have tk : ∀ {f : Field} {v : Value}, kX.instanceTypes[f.slot]? = some f.type → fits f.type v = true → Jvm.Takes (K.2.2.1.setVm vm0) cell f v := fun {f v} x1 x2 => by
    obtain ⟨y1, y2⟩ := Takes.of_laid (s := K.2.2.1.setVm vm0) (v := v) hkX ordX x1 x2
    exact ⟨by rw [szX]; simpa using y1, by rw [u2]; exact y2⟩
  -- the statics
  obtain ⟨cfU, iU, kU, fU', stU, cellU, w1, w2, w3, w4, w5, w6, w7⟩ := SU
  obtain ⟨kU', qU, eU⟩ := State.fieldFound?_setVm (s := Z) hal w1
  cases (show (K.2.2.1.setVm vm0).fieldFound? tN "UNASSIGNED_STACK" steD = _ from qU).symm.trans fU
  have hst : T0.kT.statics = some stU := by rw [eU]; exact w4
  cases Option.some.inj (hst.symm.trans L.statics)
  have hcS : T.heap[T0.aS]? = some cellU := by rw [e]; exact hO.2.2 _ _ w5
  have hneS : T0.aS ≠ a := fun q => by
    rw [q, hT] at hcS; cases hcS; rw [h4] at w6; cases w6
  have hknS : cellU.vm ≠ .unknown := fun q => by rw [q] at w6; cases w6
  have hsel0 : selectMethod K.2.1.platform (K.2.2.1.setVm vm0).vm cell.cls T0.fill0 = .method T0.fill0 := by
    obtain ⟨x2, r2, m2, z1, z2, z3, z4, -⟩ := Cond.selects_spec (A (.selects rc tFill0 tFill0) (by simp [excAtoms]) (by simp))
    cases Option.some.inj (z1.symm.trans hfd)
    cases Option.some.inj (z2.symm.trans (State.methodFound?_of_named n0 (by decide)))
    cases Option.some.inj (z3.symm.trans n0)
    rw [Launch.admits_selectMethod X.admits]; exact z4
  have hSE := A (.selects rc tFill tFill) (by simp [excAtoms]) (by simp)
  obtain ⟨v6, vm6, ⟨T6, L6, c6, n6⟩, -, X6, ⟨hv6, C6, n', hn', hD6, q1, q2, q3, q4, hL6, hc6, hn6⟩, come⟩ := X.virtualBack hx (own := tN) (C := rc) (index := 27) (y := tFill) (z := tFill) hown (A (.methodLink tN 27 tFill) (by simp [excAtoms, throwableAtoms]) (by simp)) (A (.declares tFill) (by simp [excAtoms]) (by simp)) (notFace_of_selects hSE) hSE (A (.instanceMethod tFill) (by simp [excAtoms, throwableAtoms]) (by simp)) (by decide)
    (fillPaysAny (l := l) (W := 0) hx htr T0 L nF (u0 := ⟨u, hu⟩) (self := a) (cell := cell) (cellS := cellU) (fun _ => by rw [u2]; simp) (by rw [u2]; simp) (by rw [u3]) (by rw [u3]) s7 hsel0 hneS hknS w7 (tk tyS (by rw [yS]; exact fits_refV_array _ ⟨u, hu⟩))
      ⟨{ ci198 := c198, i198 := i198, fBack := fB }, ⟨l198, r198, a198, sB⟩, b7⟩ (Vm.MethodsKnown.alikeC hal hMK) (Vm.FramesKnown.alikeC hal hFK) found hOb hkO hkindO hfb hfdp (fun x => tk tyB (by rw [yB]; rfl)) (fun x => tk tyD (by rw [yD]; rfl)) (by omega) (by omega))
    (b := a) (cB := cell.cls) hfd ⟨cell, hT, rfl, by rw [u2]; rfl⟩ (g := mkF K.2.2.2.1 pc ls [.ref a]) rfl (hsz.trans hc.2.1.symm) (Steps.refl _) (argsL := []) (rest := [])
    (fun sig q => by rw [show parseMethodDescriptor tFill.desc = some ⟨[], some (.object tN)⟩ from by decide +kernel] at q; rw [← Option.some.inj q]; rfl) rfl (by show 2 * 0 + 0 ≤ 0; decide) (hb hc.1 hd)
    (fun vmx hWx => ⟨rfl, hc', hl', hT, hcS⟩)
  dsimp only [Pt.U, Pt.locs, Pt.cells, Pt.slots] at X6 hD6 hL6 hc6 hn6 come
  subst hv6 hL6 hc6 hn6
  have K1 : Keep K.2.2.1.heap T.heap [a] := keep_of (s := K.2.2.1.setVm vm0) (U := T.setVm vm0) (ws := [a]) X.same (fun x q => by show _ ∨ K.2.2.1.heap.size ≤ _; rw [e0]; exact hL x q)
  have three : ∀ x ∈ [(⟨a, fB.slot⟩ : Loc), ⟨a, fD.slot⟩, ⟨a, T0.fStack.slot⟩], x.base ∈ [a] := fun x q => by
    simp only [List.mem_cons, List.not_mem_nil, or_false] at q ⊢
    rcases q with rfl | rfl | rfl <;> rfl
  have K2 : Keep K.2.2.1.heap T6.heap [a] := keep_of (s := K.2.2.1.setVm vm0) (U := T6.setVm vm0) (ws := [a]) X6.same (fun x q => by
    rcases List.mem_append.mp q with q | q
    · show _ ∨ K.2.2.1.heap.size ≤ _; rw [e0]; exact hL x q
    · exact Or.inl (three x q))
  rw [e0, e] at K1
  rw [e0] at K2
  have Ke := Keep.of_two hsz0 K1 K2
  obtain ⟨g1, -, -⟩ := hs a ha
  have C1 : CHr Z EL vm0 h vm0 T6.heap := CHr.keep Ke (fun x q => by cases List.mem_singleton.mp q; exact g1) hC.1
  obtain ⟨a1, a2, a3, a4⟩ := wAfter (s := K.2.2.1) (so := []) (wsc := [a]) (L := [⟨a, fB.slot⟩, ⟨a, fD.slot⟩, ⟨a, T0.fStack.slot⟩]) hC hs hL hO hw' hz (fun x q => by cases List.mem_singleton.mp q; exact ha) (fun x q => nomatch q) (fun x q => Or.inl (three x q)) Ke C1
  obtain ⟨o, U, r, q⟩ := k T6 T6.heap ⟨vm0, _, k0, X6.mono (Nat.le_refl _) (Nat.add_le_add_left hn' _), rfl, hx, hc, e0, hZ, hown, hS, Nat.le_trans hk Ke.1, a3, a1, a4, hE, hw', hz, a2⟩ Ke (E.keep Ke) (fun {O n d v} F n1 n2 n3 => by
    obtain ⟨cx, cf, kf, ix, fx, x1, x2, x3, x4, x5, x6, x7⟩ := F
    cases h1.symm.trans x1
    have y1 : fx.slot ≠ fB.slot := by simpa [Jvm.RoadKit.slotOf, x2, b2] using n1
    have y2 : fx.slot ≠ fD.slot := by simpa [Jvm.RoadKit.slotOf, x2, show Z.fieldFound? "java/lang/Throwable" "depth" "I" = _ from zD] using n2
    have y3 : fx.slot ≠ T0.fStack.slot := by simpa [Jvm.RoadKit.slotOf, x2, s2] using n3
    exact ⟨C6, cf, kf, ix, fx, hD6, x2, x3, by rw [q2]; exact x4, by rw [q2]; exact x5, by rw [q1]; exact x6, by rw [q4 _ y1 y2 y3]; exact x7⟩)
  exact ⟨o, U, come.trans r, q⟩
end Fill
end Jvm.Own
/- laws to paste: Road.backV (cut by pick.py; bodies as the Statement names them) -/
namespace Jvm.Pilot.@@N@@
namespace StrChars
open Jvm Sem ClassFile Op Lib Jvm.Stand Jvm.Free.XT Jvm.Free.ALB Jvm.Free.JM Jvm.Free
open Jvm.Lib.Cold (StaticIs)
/-- a char array whose places are chars -/
def Ch (a : Addr) (A : Cell) (U : State) : Prop := Arr .char a A U ∧ Typed .char A
theorem Ch.mv {a : Addr} {A : Cell} {U U' : State} (h : Ch a A U) (hal : U.vm.Alike U'.vm) (hh : U'.heap = U.heap) : Ch a A U' := ⟨h.1.mv hal hh, h.2⟩
theorem Ch.keep {a : Addr} {A : Cell} {U U' : State} (h : Ch a A U) (hal : U.vm.Alike U'.vm) (hk : U'.heap[a]? = some A) : Ch a A U' := ⟨h.1.keep hal hk, h.2⟩
/-- what place i of a char[]'s cell holds -/
def cv (A : Cell) (i : Nat) : Int32 := match A.slots[i]? with | some (.int x) => x | _ => 0
theorem Ch.get {a : Addr} {A : Cell} {U : State} (h : Ch a A U) {i : Nat} (hi : i < A.slots.size) : A.slots[i]? = some (.int (cv A i)) := by
  have e := Array.getElem?_eq_getElem hi
  have f := h.2 i _ e
  unfold cv; rw [e]
  generalize A.slots[i] = v at f
  cases v <;> simp [fits] at f ⊢
/-- the byte that i2b leaves of a char -/
def lo8 (x : Int32) : Int32 := x.toInt8.toInt32
theorem fits_lo8 (y : Int32) : fits .byte (.int (lo8 y)) = true := by
  have h1 := y.toInt8.le_toInt
  have h2 := y.toInt8.toInt_lt
  simp only [lo8, fits, Bool.and_eq_true, decide_eq_true_eq, Int32.le_iff_toInt_le, Int8.toInt_toInt32, show (-128 : Int32).toInt = -128 from by decide, show (127 : Int32).toInt = 127 from by decide]
  omega
/-- A' is A but that each place j of lo .. hi - 1 holds f j -/
def Laid (A A' : Cell) (lo hi : Nat) (f : Nat → Value) : Prop := A'.cls = A.cls ∧ A'.vm = A.vm ∧ A'.slots.size = A.slots.size ∧ ∀ i, A'.slots[i]? = if lo ≤ i ∧ i < hi then some (f i) else A.slots[i]?
theorem Laid.zero (A : Cell) (lo : Nat) (f : Nat → Value) : Laid A A lo (lo + 0) f := ⟨rfl, rfl, rfl, fun i => by rw [if_neg (by omega)]⟩
theorem Laid.step {A Ak : Cell} {lo k : Nat} {f : Nat → Value} {v : Value} (h : Laid A Ak lo k f) (hlo : lo ≤ k) (hk : k < Ak.slots.size) (hv : v = f k) : Laid A (Ak.setSlot k v) lo (k + 1) f := by
  refine ⟨h.1, h.2.1, by simpa [Cell.setSlot] using h.2.2.1, fun i => ?_⟩
  by_cases e : k = i
  · subst e; rw [Cell.slots_setSlot_self v hk, if_pos (by omega), hv]
  · rw [Cell.slots_setSlot_ne v e, h.2.2.2 i]
    by_cases q : lo ≤ i ∧ i < k
    · rw [if_pos q, if_pos (by omega)]
    · rw [if_neg q, if_neg (by omega)]
def U16 : String := "java/lang/StringUTF16"
namespace Cmp5
def yN : MethodName := ⟨"java/lang/StringUTF16", "compress", "([CI[BII)I"⟩
abbrev yB : ByteArray := jdk_52_method_21_code
theorem d0 : decode yB 0 = .ok (.iconst 0, 1) := by decide +kernel
theorem d1 : decode yB 1 = .ok (.istore 5, 2) := by decide +kernel
theorem d3 : decode yB 3 = .ok (.iload 5, 2) := by decide +kernel
theorem d5 : decode yB 5 = .ok (.iload 4, 2) := by decide +kernel
theorem d7 : decode yB 7 = .ok (.if_icmp (.ge) 37, 3) := by decide +kernel
theorem d10 : decode yB 10 = .ok (.aload_n 0, 1) := by decide +kernel
theorem d11 : decode yB 11 = .ok (.iload_n 1, 1) := by decide +kernel
theorem d12 : decode yB 12 = .ok (.caload, 1) := by decide +kernel
theorem d13 : decode yB 13 = .ok (.istore 6, 2) := by decide +kernel
theorem d15 : decode yB 15 = .ok (.iload 6, 2) := by decide +kernel
theorem d17 : decode yB 17 = .ok (.sipush 255, 3) := by decide +kernel
theorem d20 : decode yB 20 = .ok (.if_icmp (.le) 6, 3) := by decide +kernel
theorem d26 : decode yB 26 = .ok (.aload_n 2, 1) := by decide +kernel
theorem d27 : decode yB 27 = .ok (.iload_n 3, 1) := by decide +kernel
theorem d28 : decode yB 28 = .ok (.iload 6, 2) := by decide +kernel
theorem d30 : decode yB 30 = .ok (.i2b, 1) := by decide +kernel
theorem d31 : decode yB 31 = .ok (.bastore, 1) := by decide +kernel
theorem d32 : decode yB 32 = .ok (.iinc 1 1, 3) := by decide +kernel
theorem d35 : decode yB 35 = .ok (.iinc 3 1, 3) := by decide +kernel
theorem d38 : decode yB 38 = .ok (.iinc 5 1, 3) := by decide +kernel
theorem d41 : decode yB 41 = .ok (.goto (-38), 3) := by decide +kernel
theorem d44 : decode yB 44 = .ok (.iload 4, 2) := by decide +kernel
theorem d46 : decode yB 46 = .ok (.ireturn, 1) := by decide +kernel
def site : List Cond := []
def tab : Cond := tabOf yN yB 7 (some .int) site
def P (b : Addr) (A : Cell) (d : Addr) (B : Cell) (o q len : Nat) (args : Array Value) (s : State) : Prop := args = #[.ref b, .int (Int32.ofNat o), .ref d, .int (Int32.ofNat q), .int (Int32.ofNat len)] ∧ Ch b A s ∧ Arr .byte d B s ∧ b ≠ d ∧ o + len ≤ A.slots.size ∧ q + len ≤ B.slots.size ∧ ∀ i, i < len → ¬ 255 < cv A (o + i)
def E (b : Addr) (A : Cell) (d : Addr) (B : Cell) (o q len : Nat) (r : Option Value) (s u : State) : Prop := r = some (.int (Int32.ofNat len)) ∧ ∃ B', Put d B' s u ∧ Laid B B' q (q + len) (fun j => Value.int (lo8 (cv A (o + (j - q)))))
/-- no char of the range above 255: len; the places written hold each char's low byte -/
theorem law (l : Launch) (b : Addr) (A : Cell) (d : Addr) (B : Cell) (o q len : Nat) : Law l yN 5 5 0 0 yB 7 (some .int) site (P b A d B o q len) (E b A d B o q len) (copyLocs d q len) 0 0 := by
  refine Law.of_walk (plainFor_of_name (by decide +kernel)) (by decide +kernel) (by decide +kernel) (by decide) (fun _ _ h => by rw [h.1]; rfl) (fun _ U U' hal hh h => ⟨h.1, h.2.1.mv hal hh, h.2.2.1.mv hal hh, h.2.2.2⟩) (fun r U U' V V' h1 hal h2 h => ⟨h.1, h.2.elim fun B' q => ⟨B', q.1.mv h1 h2, q.2⟩⟩) ?_
  intro p e s m args below meth c s₁ X0 hexec hbytes hml hret hlk hnm hown hh0 W hP
  obtain ⟨rfl, hA, hB, hne, l1, l2, hp⟩ := hP
  have c1 : Steps p.tables e below (s₁.setTop (entryFrame m #[.ref b, .int (Int32.ofNat o), .ref d, .int (Int32.ofNat q), .int (Int32.ofNat len)] 7)) (s₁.setTop (mkF m 0 #[.val (.ref b), .val (.int (Int32.ofNat o)), .val (.ref d), .val (.int (Int32.ofNat q)), .val (.int (Int32.ofNat len)), .unset, .unset] [])) := entry rfl
  have hA0 := hA.1.mv X0.warmed.alike hh0
  have hB0 := hB.mv X0.warmed.alike hh0
  have a31 := hA.1.2.2.2
  have c2 : Steps p.tables e below (s₁.setTop (entryFrame m #[.ref b, .int (Int32.ofNat o), .ref d, .int (Int32.ofNat q), .int (Int32.ofNat len)] 7)) (s₁.setTop (mkF m 3 #[.val (.ref b), .val (.int (Int32.ofNat o)), .val (.ref d), .val (.int (Int32.ofNat q)), .val (.int (Int32.ofNat len)), .val (.int 0), .unset] [])) := c1.trans (by
    refine iconstV X0.here hexec rfl 0 (hb hbytes d0) (by decide) ?_
    refine XS.istore X0.here hexec rfl (hb hbytes d1) rfl rfl ?_
    exact Steps.refl _)
  have loop : ∀ (r i : Nat), i + r = len → ∀ (z : Slot), (z = .unset ∨ ∃ w, z = .val w ∧ w.category = 1) → ∀ (Tl : State) (Bk : Cell), Stand p l e { frames := 0, locals := 0, cells := 0, slots := 0 } s m #[.ref b, .int (Int32.ofNat o), .ref d, .int (Int32.ofNat q), .int (Int32.ofNat len)] below meth c Tl ([] ++ copyLocs d q i) 0 0 → Put d Bk s₁ Tl → Laid B Bk q (q + i) (fun j => Value.int (lo8 (cv A (o + (j - q))))) →
      Steps p.tables e below (s₁.setTop (entryFrame m #[.ref b, .int (Int32.ofNat o), .ref d, .int (Int32.ofNat q), .int (Int32.ofNat len)] 7)) (Tl.setTop (mkF m 3 #[.val (.ref b), .val (.int (Int32.ofNat (o + i))), .val (.ref d), .val (.int (Int32.ofNat (q + i))), .val (.int (Int32.ofNat len)), .val (.int (Int32.ofNat i)), z] [])) → ∃ (T' : State) (B' : Cell) (z' : Slot), Stand p l e { frames := 0, locals := 0, cells := 0, slots := 0 } s m #[.ref b, .int (Int32.ofNat o), .ref d, .int (Int32.ofNat q), .int (Int32.ofNat len)] below meth c T' ([] ++ copyLocs d q len) 0 0 ∧ Put d B' s₁ T' ∧ Laid B B' q (q + len) (fun j => Value.int (lo8 (cv A (o + (j - q))))) ∧
      Steps p.tables e below (s₁.setTop (entryFrame m #[.ref b, .int (Int32.ofNat o), .ref d, .int (Int32.ofNat q), .int (Int32.ofNat len)] 7)) (T'.setTop (mkF m 3 #[.val (.ref b), .val (.int (Int32.ofNat (o + len))), .val (.ref d), .val (.int (Int32.ofNat (q + len))), .val (.int (Int32.ofNat len)), .val (.int (Int32.ofNat len)), z'] [])) := by
    intro r
    induction r with
    | zero =>
      intro i hi z hz Tl Bk Xl pl fl cl
      have hil : i = len := by omega
      rw [hil] at Xl fl cl
      exact ⟨Tl, Bk, z, Xl, pl, fl, cl⟩
    | succ r ih =>
      intro i hi z hz Tl Bk Xl pl fl cl
      have all := X0.warmed.alike.symm.trans Xl.warmed.alike
      have hAl := hA0.keep all (pl.other hne hA0.1)
      have hBk := hB0.like all pl.1 fl.1 fl.2.1 fl.2.2.1
      have hlt : q + i < Bk.slots.size := by rw [fl.2.2.1]; omega
      have c3 : Steps p.tables e below (s₁.setTop (entryFrame m #[.ref b, .int (Int32.ofNat o), .ref d, .int (Int32.ofNat q), .int (Int32.ofNat len)] 7)) (Tl.setTop (mkF m 12 #[.val (.ref b), .val (.int (Int32.ofNat (o + i))), .val (.ref d), .val (.int (Int32.ofNat (q + i))), .val (.int (Int32.ofNat len)), .val (.int (Int32.ofNat i)), z] [.int (Int32.ofNat (o + i)), .ref b])) := cl.trans (by
        refine XS.iload Xl.here hexec rfl (hb hbytes d3) rfl ?_
        refine XS.iload Xl.here hexec rfl (hb hbytes d5) rfl ?_
        refine XS.icmpNo Xl.here hexec rfl (hb hbytes d7) rfl (ii_ge_f (lt32 (by omega) (by omega))) ?_
        refine XS.aloadN Xl.here hexec rfl (hb hbytes d10) rfl rfl ?_
        refine XS.iloadN Xl.here hexec rfl (hb hbytes d11) rfl ?_
        exact Steps.refl _)
      have c4 : Steps p.tables e below (s₁.setTop (entryFrame m #[.ref b, .int (Int32.ofNat o), .ref d, .int (Int32.ofNat q), .int (Int32.ofNat len)] 7)) (Tl.setTop (mkF m 13 #[.val (.ref b), .val (.int (Int32.ofNat (o + i))), .val (.ref d), .val (.int (Int32.ofNat (q + i))), .val (.int (Int32.ofNat len)), .val (.int (Int32.ofNat i)), z] [.int (cv A (o + i))])) := c3.trans (by
        refine Xl.aget hexec hAl rfl (hA.get (i := o + i) (by omega)) rfl rfl (hb hbytes d12) ?_
        exact Steps.refl _)
      have c5 : Steps p.tables e below (s₁.setTop (entryFrame m #[.ref b, .int (Int32.ofNat o), .ref d, .int (Int32.ofNat q), .int (Int32.ofNat len)] 7)) (Tl.setTop (mkF m 15 #[.val (.ref b), .val (.int (Int32.ofNat (o + i))), .val (.ref d), .val (.int (Int32.ofNat (q + i))), .val (.int (Int32.ofNat len)), .val (.int (Int32.ofNat i)), .val (.int (cv A (o + i)))] [])) := c4.trans (by
        refine XS.istoreS Xl.here hexec rfl (hb hbytes d13) rfl rfl hz ?_
        exact Steps.refl _)
      have c6 : Steps p.tables e below (s₁.setTop (entryFrame m #[.ref b, .int (Int32.ofNat o), .ref d, .int (Int32.ofNat q), .int (Int32.ofNat len)] 7)) (Tl.setTop (mkF m 31 #[.val (.ref b), .val (.int (Int32.ofNat (o + i))), .val (.ref d), .val (.int (Int32.ofNat (q + i))), .val (.int (Int32.ofNat len)), .val (.int (Int32.ofNat i)), .val (.int (cv A (o + i)))] [.int (lo8 (cv A (o + i))), .int (Int32.ofNat (q + i)), .ref d])) := c5.trans (by
        refine XS.iload Xl.here hexec rfl (hb hbytes d15) rfl ?_
        refine sipushV Xl.here hexec rfl 255 (hb hbytes d17) (by decide) ?_
        refine XS.icmpYes Xl.here hexec rfl (pc0 := 20) rfl (hb hbytes d20) rfl (ii_le_t (hp i (by omega))) (by decide) rfl ?_
        refine XS.aloadN Xl.here hexec rfl (hb hbytes d26) rfl rfl ?_
        refine XS.iloadN Xl.here hexec rfl (hb hbytes d27) rfl ?_
        refine XS.iload Xl.here hexec rfl (hb hbytes d28) rfl ?_
        refine i2b Xl.here hexec rfl (hb hbytes d30) rfl ?_
        exact Steps.refl _)
      obtain ⟨T7, X7, p7, st7⟩ := Xl.aput hexec hBk rfl hlt rfl (fits_lo8 (cv A (o + i))) (g := (mkF m 31 #[.val (.ref b), .val (.int (Int32.ofNat (o + i))), .val (.ref d), .val (.int (Int32.ofNat (q + i))), .val (.int (Int32.ofNat len)), .val (.int (Int32.ofNat i)), .val (.int (cv A (o + i)))] [.int (lo8 (cv A (o + i))), .int (Int32.ofNat (q + i)), .ref d])) rfl (rest := []) rfl (hb hbytes d31)
      have c8 : Steps p.tables e below (s₁.setTop (entryFrame m #[.ref b, .int (Int32.ofNat o), .ref d, .int (Int32.ofNat q), .int (Int32.ofNat len)] 7)) (T7.setTop (mkF m 32 #[.val (.ref b), .val (.int (Int32.ofNat (o + i))), .val (.ref d), .val (.int (Int32.ofNat (q + i))), .val (.int (Int32.ofNat len)), .val (.int (Int32.ofNat i)), .val (.int (cv A (o + i)))] [])) := c6.trans (st7 _ (Steps.refl _))
      have c9 : Steps p.tables e below (s₁.setTop (entryFrame m #[.ref b, .int (Int32.ofNat o), .ref d, .int (Int32.ofNat q), .int (Int32.ofNat len)] 7)) (T7.setTop (mkF m 3 #[.val (.ref b), .val (.int (Int32.ofNat (o + i) + 1)), .val (.ref d), .val (.int (Int32.ofNat (q + i) + 1)), .val (.int (Int32.ofNat len)), .val (.int (Int32.ofNat i + 1)), .val (.int (cv A (o + i)))] [])) := c8.trans (by
        refine iincV X7.here hexec rfl 1 (hb hbytes d32) (by decide) rfl rfl ?_
        refine iincV X7.here hexec rfl 1 (hb hbytes d35) (by decide) rfl rfl ?_
        refine iincV X7.here hexec rfl 1 (hb hbytes d38) (by decide) rfl rfl ?_
        refine XS.goto X7.here hexec rfl (pc0 := 41) rfl (hb hbytes d41) (by decide) rfl ?_
        exact Steps.refl _)
      have c10 : Steps p.tables e below (s₁.setTop (entryFrame m #[.ref b, .int (Int32.ofNat o), .ref d, .int (Int32.ofNat q), .int (Int32.ofNat len)] 7)) (T7.setTop (mkF m 3 #[.val (.ref b), .val (.int (Int32.ofNat (o + (i + 1)))), .val (.ref d), .val (.int (Int32.ofNat (q + (i + 1)))), .val (.int (Int32.ofNat len)), .val (.int (Int32.ofNat (i + 1))), .val (.int (cv A (o + i)))] [])) := by
        have := c9
        rw [succ32, succ32, succ32] at this
        exact this
      exact ih (i + 1) (by omega) _ (Or.inr ⟨_, rfl, rfl⟩) T7 _ (by rw [copyLocs_step, ← List.append_assoc]; exact X7) (pl.trans p7) (fl.step (by omega) hlt (by simp)) c10
  obtain ⟨T9, B9, z9, X9, p9, f9, g9⟩ := loop len 0 (by omega) .unset (Or.inl rfl) s₁ B (by simpa [copyLocs] using X0) ⟨hB0.1, fun _ _ => rfl, rfl⟩ (Laid.zero _ _ _) c2
  have c11 : Steps p.tables e below (s₁.setTop (entryFrame m #[.ref b, .int (Int32.ofNat o), .ref d, .int (Int32.ofNat q), .int (Int32.ofNat len)] 7)) (T9.setTop (mkF m 46 #[.val (.ref b), .val (.int (Int32.ofNat (o + len))), .val (.ref d), .val (.int (Int32.ofNat (q + len))), .val (.int (Int32.ofNat len)), .val (.int (Int32.ofNat len)), z9] [.int (Int32.ofNat len)])) := g9.trans (by
    refine XS.iload X9.here hexec rfl (hb hbytes d3) rfl ?_
    refine XS.iload X9.here hexec rfl (hb hbytes d5) rfl ?_
    refine XS.icmpYes X9.here hexec rfl (pc0 := 7) rfl (hb hbytes d7) rfl (ii_ge_t (nlt32 (by omega) (Nat.le_refl _))) (by decide) rfl ?_
    refine XS.iload X9.here hexec rfl (hb hbytes d44) rfl ?_
    exact Steps.refl _)
  exact ⟨T9, some (.int (Int32.ofNat len)), _, _, _, X9, by simp, rfl, rfl, (fun h => by cases h), ⟨rfl, B9, p9.from hh0, f9⟩, fun fs hl => c11.trans (X9.ireturnOut hexec hret rfl (Or.inl rfl) (hb hbytes d46) hl)⟩
end Cmp5
namespace Cmp3
def yN : MethodName := ⟨"java/lang/StringUTF16", "compress", "([CII)[B"⟩
abbrev yB : ByteArray := jdk_52_method_16_code
theorem d0 : decode yB 0 = .ok (.iload_n 2, 1) := by decide +kernel
theorem d1 : decode yB 1 = .ok (.newarray .byte, 2) := by decide +kernel
theorem d3 : decode yB 3 = .ok (.astore_n 3, 1) := by decide +kernel
theorem d4 : decode yB 4 = .ok (.aload_n 0, 1) := by decide +kernel
theorem d5 : decode yB 5 = .ok (.iload_n 1, 1) := by decide +kernel
theorem d6 : decode yB 6 = .ok (.aload_n 3, 1) := by decide +kernel
theorem d7 : decode yB 7 = .ok (.iconst 0, 1) := by decide +kernel
theorem d8 : decode yB 8 = .ok (.iload_n 2, 1) := by decide +kernel
theorem d9 : decode yB 9 = .ok (.invokestatic 115, 3) := by decide +kernel
theorem d12 : decode yB 12 = .ok (.istore 4, 2) := by decide +kernel
theorem d14 : decode yB 14 = .ok (.iload 4, 2) := by decide +kernel
theorem d16 : decode yB 16 = .ok (.iload_n 2, 1) := by decide +kernel
theorem d17 : decode yB 17 = .ok (.if_icmp (.eq) 40, 3) := by decide +kernel
theorem d57 : decode yB 57 = .ok (.aload_n 3, 1) := by decide +kernel
theorem d58 : decode yB 58 = .ok (.areturn, 1) := by decide +kernel
def site : List Cond := [.arrayClass .byte, Cmp5.tab] ++ staticW U16 115 Cmp5.yN
def tab : Cond := tabOf yN yB 6 (some (.array .byte)) site
def P (b : Addr) (A : Cell) (o len : Nat) (args : Array Value) (s : State) : Prop := args = #[.ref b, .int (Int32.ofNat o), .int (Int32.ofNat len)] ∧ Ch b A s ∧ o + len ≤ A.slots.size ∧ len ≤ 536870912 ∧ ∀ i, i < len → ¬ 255 < cv A (o + i)
def E (b : Addr) (A : Cell) (o len : Nat) (r : Option Value) (s u : State) : Prop := NewArr .byte "[B" len (fun j => .int (lo8 (cv A (o + j)))) r s u ∧ u.heap.size = s.heap.size + 1
/-- no char of the range above 255: a new byte[] of their low bytes -/
theorem law (l : Launch) (b : Addr) (A : Cell) (o len : Nat) : Law l yN 3 3 1 18 yB 6 (some (.array .byte)) site (P b A o len) (E b A o len) [] 1 len := by
  refine Law.of_walk (plainFor_of_name (by decide +kernel)) (by decide +kernel) (by decide +kernel) (by decide) (fun _ _ h => by rw [h.1]; rfl) (fun _ U U' hal hh h => ⟨h.1, h.2.1.mv hal hh, h.2.2⟩) (fun r U U' V V' h1 hal h2 h => ⟨NewArr.mv r U U' V V' h1 hal h2 h.1, by rw [h1, h2]; exact h.2⟩) ?_
  intro p e s m args below meth c s₁ X0 hexec hbytes hml hret hlk hnm hown hh0 W hP
  obtain ⟨rfl, hA, l1, l2, hp⟩ := hP
  have a31 := hA.1.2.2.2
  have c1 : Steps p.tables e below (s₁.setTop (entryFrame m #[.ref b, .int (Int32.ofNat o), .int (Int32.ofNat len)] 6)) (s₁.setTop (mkF m 0 #[.val (.ref b), .val (.int (Int32.ofNat o)), .val (.int (Int32.ofNat len)), .unset, .unset, .unset] [])) := entry rfl
  have c2 : Steps p.tables e below (s₁.setTop (entryFrame m #[.ref b, .int (Int32.ofNat o), .int (Int32.ofNat len)] 6)) (s₁.setTop (mkF m 1 #[.val (.ref b), .val (.int (Int32.ofNat o)), .val (.int (Int32.ofNat len)), .unset, .unset, .unset] [.int (Int32.ofNat len)])) := c1.trans (by
    refine XS.iloadN X0.here hexec rfl (hb hbytes d0) rfl ?_
    exact Steps.refl _)
  obtain ⟨T3, B3, X3, ba3, bs3, bv3, bh3, bf3, st3⟩ := X0.anew hexec (atype := .byte) (wk W (.arrayClass .byte)) rfl (by show len * 1 ≤ _; omega) (by omega) (g := (mkF m 1 #[.val (.ref b), .val (.int (Int32.ofNat o)), .val (.int (Int32.ofNat len)), .unset, .unset, .unset] [.int (Int32.ofNat len)])) rfl (hb hbytes d1) (rest := []) rfl (Nat.le_refl _) (by show 0 + len ≤ len; omega)
  rw [hh0] at ba3 st3
  have kp3 : XT.Kept s T3 := (XT.Kept.of_eq hh0).push bh3
  have hA3 := hA.keep X3.warmed.alike (kp3 _ _ hA.1.1)
  have hne : b ≠ s.heap.size := hA.1.ne
  have c4 : Steps p.tables e below (s₁.setTop (entryFrame m #[.ref b, .int (Int32.ofNat o), .int (Int32.ofNat len)] 6)) (T3.setTop (mkF m 3 #[.val (.ref b), .val (.int (Int32.ofNat o)), .val (.int (Int32.ofNat len)), .unset, .unset, .unset] [.ref s.heap.size])) := c2.trans (st3 _ (Steps.refl _))
  have c5 : Steps p.tables e below (s₁.setTop (entryFrame m #[.ref b, .int (Int32.ofNat o), .int (Int32.ofNat len)] 6)) (T3.setTop (mkF m 9 #[.val (.ref b), .val (.int (Int32.ofNat o)), .val (.int (Int32.ofNat len)), .val (.ref s.heap.size), .unset, .unset] [.int (Int32.ofNat len), .int 0, .ref s.heap.size, .int (Int32.ofNat o), .ref b])) := c4.trans (by
    refine XS.astoreN X3.here hexec rfl (hb hbytes d3) rfl rfl rfl ?_
    refine XS.aloadN X3.here hexec rfl (hb hbytes d4) rfl rfl ?_
    refine XS.iloadN X3.here hexec rfl (hb hbytes d5) rfl ?_
    refine XS.aloadN X3.here hexec rfl (hb hbytes d6) rfl rfl ?_
    refine iconstV X3.here hexec rfl 0 (hb hbytes d7) (by decide) ?_
    refine XS.iloadN X3.here hexec rfl (hb hbytes d8) rfl ?_
    exact Steps.refl _)
  obtain ⟨v6, T6, X6, E6, g6⟩ := X3.callS hexec (Cmp5.law l b A s.heap.size B3 o 0 len) hown (wks W (staticW U16 115 Cmp5.yN)) (wk W Cmp5.tab) (W := 0) (Nat.le_of_ble_eq_true rfl) (Nat.le_of_ble_eq_true rfl) (Nat.le_refl _) (by show 0 + len + 0 ≤ len; omega) (g := (mkF m 9 #[.val (.ref b), .val (.int (Int32.ofNat o)), .val (.int (Int32.ofNat len)), .val (.ref s.heap.size), .unset, .unset] [.int (Int32.ofNat len), .int (Int32.ofNat 0), .ref s.heap.size, .int (Int32.ofNat o), .ref b])) rfl (by rw [hml]; rfl) c5 (argsL := [.ref b, .int (Int32.ofNat o), .ref s.heap.size, .int (Int32.ofNat 0), .int (Int32.ofNat len)]) (rest := []) rfl rfl (by show 2 * 0 + 0 ≤ _; decide) (hb hbytes d9) (⟨rfl, hA3, ba3, hne, l1, by rw [bs3]; simp, hp⟩)
  obtain ⟨rfl, B6, p6, f6⟩ := E6
  have c7 : Steps p.tables e below (s₁.setTop (entryFrame m #[.ref b, .int (Int32.ofNat o), .int (Int32.ofNat len)] 6)) (T6.setTop (mkF m 12 #[.val (.ref b), .val (.int (Int32.ofNat o)), .val (.int (Int32.ofNat len)), .val (.ref s.heap.size), .unset, .unset] [.int (Int32.ofNat len)])) := g6
  have c8 : Steps p.tables e below (s₁.setTop (entryFrame m #[.ref b, .int (Int32.ofNat o), .int (Int32.ofNat len)] 6)) (T6.setTop (mkF m 58 #[.val (.ref b), .val (.int (Int32.ofNat o)), .val (.int (Int32.ofNat len)), .val (.ref s.heap.size), .val (.int (Int32.ofNat len)), .unset] [.ref s.heap.size])) := c7.trans (by
    refine XS.istore X6.here hexec rfl (hb hbytes d12) rfl rfl ?_
    refine XS.iload X6.here hexec rfl (hb hbytes d14) rfl ?_
    refine XS.iloadN X6.here hexec rfl (hb hbytes d16) rfl ?_
    refine XS.icmpYes X6.here hexec rfl (pc0 := 17) rfl (hb hbytes d17) rfl (ii_eq_t rfl) (by decide) rfl ?_
    refine XS.aloadN X6.here hexec rfl (hb hbytes d57) rfl rfl ?_
    exact Steps.refl _)
  have X8 := X6.wide (L' := []) (cells' := 1) (slots' := len) (fun x hx hlt => by
    simp only [List.nil_append, copyLocs, List.mem_map, List.mem_range] at hx
    obtain ⟨i, -, rfl⟩ := hx
    exact absurd hlt (Nat.lt_irrefl _)) (Nat.le_refl _) (by omega)
  exact ⟨T6, some (.ref s.heap.size), _, _, _, X8, rfl, rfl, rfl, (fun h => by cases h), ⟨⟨rfl, B6, ba3.like (X3.warmed.alike.symm.trans X6.warmed.alike) p6.1 f6.1 f6.2.1 f6.2.2.1, f6.2.1.trans bv3, by rw [X6.warmed.alike.findClass, f6.1]; exact bf3, by rw [f6.2.2.1, bs3]; simp, fun j hj => by rw [f6.2.2.2 j, if_pos (by omega)]; rfl, kp3.put p6 (Nat.le_refl _)⟩, by rw [p6.2.2, bh3, hh0]; simp⟩, fun fs hl => c8.trans (X8.areturnOut hexec rfl hret rfl (hb hbytes d58) hl)⟩
end Cmp3
namespace CodL
def yN : MethodName := ⟨"java/lang/StringUTF16", "coderFromArrayLen", "([BI)B"⟩
abbrev yB : ByteArray := jdk_52_method_15_code
theorem d0 : decode yB 0 = .ok (.iload_n 1, 1) := by decide +kernel
theorem d1 : decode yB 1 = .ok (.aload_n 0, 1) := by decide +kernel
theorem d2 : decode yB 2 = .ok (.arraylength, 1) := by decide +kernel
theorem d3 : decode yB 3 = .ok (.isub, 1) := by decide +kernel
theorem d4 : decode yB 4 = .ok (.bipush 31, 2) := by decide +kernel
theorem d6 : decode yB 6 = .ok (.iushr, 1) := by decide +kernel
theorem d7 : decode yB 7 = .ok (.i2b, 1) := by decide +kernel
theorem d8 : decode yB 8 = .ok (.ireturn, 1) := by decide +kernel
def site : List Cond := []
def tab : Cond := tabOf yN yB 2 (some .byte) site
def P (d : Addr) (B : Cell) (args : Array Value) (s : State) : Prop := args = #[.ref d, .int (Int32.ofNat B.slots.size)] ∧ Arr .byte d B s
def E (r : Option Value) (s u : State) : Prop := XT.PureE (some (.int 0)) r s u
/-- an array as long as the number of chars: LATIN1 -/
theorem law (l : Launch) (d : Addr) (B : Cell) : Law l yN 2 2 0 0 yB 2 (some .byte) site (P d B) E [] 0 0 := by
  refine Law.of_walk (plainFor_of_name (by decide +kernel)) (by decide +kernel) (by decide +kernel) (by decide) (fun _ _ h => by rw [h.1]; rfl) (fun _ U U' hal hh h => ⟨h.1, h.2.mv hal hh⟩) (fun r U U' V V' h1 hal h2 h => XT.PureE.mv r U U' V V' h1 hal h2 h) ?_
  intro p e s m args below meth c s₁ X0 hexec hbytes hml hret hlk hnm hown hh0 W hP
  obtain ⟨rfl, hB⟩ := hP
  have hB0 := hB.mv X0.warmed.alike hh0
  have c1 : Steps p.tables e below (s₁.setTop (entryFrame m #[.ref d, .int (Int32.ofNat B.slots.size)] 2)) (s₁.setTop (mkF m 0 #[.val (.ref d), .val (.int (Int32.ofNat B.slots.size))] [])) := entry rfl
  have c2 : Steps p.tables e below (s₁.setTop (entryFrame m #[.ref d, .int (Int32.ofNat B.slots.size)] 2)) (s₁.setTop (mkF m 2 #[.val (.ref d), .val (.int (Int32.ofNat B.slots.size))] [.ref d, .int (Int32.ofNat B.slots.size)])) := c1.trans (by
    refine XS.iloadN X0.here hexec rfl (hb hbytes d0) rfl ?_
    refine XS.aloadN X0.here hexec rfl (hb hbytes d1) rfl rfl ?_
    exact Steps.refl _)
  have c3 : Steps p.tables e below (s₁.setTop (entryFrame m #[.ref d, .int (Int32.ofNat B.slots.size)] 2)) (s₁.setTop (mkF m 8 #[.val (.ref d), .val (.int (Int32.ofNat B.slots.size))] [.int (lo8 (ushr (Int32.ofNat B.slots.size - Int32.ofNat B.slots.size) 31))])) := c2.trans (by
    refine X0.alen hexec hB0 rfl rfl (hb hbytes d2) ?_
    refine XS.isub X0.here hexec rfl (hb hbytes d3) rfl ?_
    refine bipushV X0.here hexec rfl 31 (hb hbytes d4) (by decide) ?_
    refine iushr X0.here hexec rfl (hb hbytes d6) rfl ?_
    refine i2b X0.here hexec rfl (hb hbytes d7) rfl ?_
    exact Steps.refl _)
  have e0 : lo8 (ushr (Int32.ofNat B.slots.size - Int32.ofNat B.slots.size) 31) = 0 := by rw [Int32.sub_self]; decide
  rw [e0] at c3
  exact ⟨s₁, some (.int 0), _, _, _, X0, rfl, rfl, rfl, (fun h => by cases h), ⟨rfl, hh0⟩, fun fs hl => c3.trans (X0.ireturnOut hexec hret rfl (Or.inr (Or.inr (Or.inl rfl))) (hb hbytes d8) hl)⟩
end CodL
/-- the String at a is Latin-1 over a new byte[] (the heap's one new cell): the low bytes of the len chars of A from o on; every cell but a is kept -/
def Got (a : Addr) (D : Cell) (fV fC : Field) (A : Cell) (o len : Nat) (r : Option Value) (s u : State) : Prop := r = none ∧ ∃ D' V : Cell, Blank "java/lang/String" a D' u ∧ Same D D' [fV.slot, fC.slot] ∧ D'.slots[fV.slot]? = some (.ref s.heap.size) ∧ D'.slots[fC.slot]? = some (.int 0) ∧ Arr .byte s.heap.size V u ∧ V.vm = .none ∧ u.vm.findClass "[B" = some V.cls ∧ V.slots.size = len ∧ (∀ j, j < len → V.slots[j]? = some (.int (lo8 (cv A (o + j))))) ∧ (∀ (y : Addr) (c : Cell), y ≠ a → s.heap[y]? = some c → u.heap[y]? = some c) ∧ u.heap.size = s.heap.size + 1
theorem Got.mv {a : Addr} {D A : Cell} {fV fC : Field} {o len : Nat} : ∀ r (U U' V V' : State), U'.heap = U.heap → V.vm.Alike V'.vm → V'.heap = V.heap → Got a D fV fC A o len r U V → Got a D fV fC A o len r U' V' :=
  fun r U U' V V' h1 hal h2 ⟨e0, D', X, a1, a2, a3, a4, a5, a6, a7, a8, a9, a10, a11⟩ => ⟨e0, D', X, a1.mv hal h2, a2, by rw [h1]; exact a3, a4, by rw [h1]; exact a5.mv hal h2, a6, by rw [hal.findClass]; exact a7, a8, a9, by rw [h1, h2]; exact a10, by rw [h1, h2]; exact a11⟩
namespace New4
def yN : MethodName := ⟨"java/lang/String", "<init>", "([CIILjava/lang/Void;)V"⟩
abbrev yB : ByteArray := jdk_42_method_149_code
theorem d0 : decode yB 0 = .ok (.aload_n 0, 1) := by decide +kernel
theorem d1 : decode yB 1 = .ok (.invokespecial 1, 3) := by decide +kernel
theorem d4 : decode yB 4 = .ok (.iload_n 3, 1) := by decide +kernel
theorem d5 : decode yB 5 = .ok (.ifCond (.ne) 22, 3) := by decide +kernel
theorem d27 : decode yB 27 = .ok (.getstatic 38, 3) := by decide +kernel
theorem d30 : decode yB 30 = .ok (.ifCond (.eq) 28, 3) := by decide +kernel
theorem d33 : decode yB 33 = .ok (.aload_n 1, 1) := by decide +kernel
theorem d34 : decode yB 34 = .ok (.iload_n 2, 1) := by decide +kernel
theorem d35 : decode yB 35 = .ok (.iload_n 3, 1) := by decide +kernel
theorem d36 : decode yB 36 = .ok (.invokestatic 177, 3) := by decide +kernel
theorem d39 : decode yB 39 = .ok (.astore 5, 2) := by decide +kernel
theorem d41 : decode yB 41 = .ok (.aload_n 0, 1) := by decide +kernel
theorem d42 : decode yB 42 = .ok (.aload 5, 2) := by decide +kernel
theorem d44 : decode yB 44 = .ok (.iload_n 3, 1) := by decide +kernel
theorem d45 : decode yB 45 = .ok (.invokestatic 47, 3) := by decide +kernel
theorem d48 : decode yB 48 = .ok (.putfield 15, 3) := by decide +kernel
theorem d51 : decode yB 51 = .ok (.aload_n 0, 1) := by decide +kernel
theorem d52 : decode yB 52 = .ok (.aload 5, 2) := by decide +kernel
theorem d54 : decode yB 54 = .ok (.putfield 9, 3) := by decide +kernel
theorem d57 : decode yB 57 = .ok (.return_, 1) := by decide +kernel
def site : List Cond := [.fieldLink "java/lang/String" 38 "java/lang/String" "COMPACT_STRINGS" "Z", Cmp3.tab, CodL.tab, .laysFinal "java/lang/String" "java/lang/String" "value" "[B", .fieldLink "java/lang/String" 9 "java/lang/String" "value" "[B", .laysFinal "java/lang/String" "java/lang/String" "coder" "B", .fieldLink "java/lang/String" 15 "java/lang/String" "coder" "B"] ++ objW "java/lang/String" 1 ++ staticW "java/lang/String" 177 Cmp3.yN ++ staticW "java/lang/String" 47 CodL.yN
def tab : Cond := tabOf yN yB 6 none site
def P (a : Addr) (D : Cell) (fV fC : Field) (b : Addr) (A : Cell) (z : Int32) (o len : Nat) (args : Array Value) (s : State) : Prop := args = #[.ref a, .ref b, .int (Int32.ofNat o), .int (Int32.ofNat len), .null] ∧ Blank "java/lang/String" a D s ∧ Found "java/lang/String" "value" "[B" fV s ∧ Found "java/lang/String" "coder" "B" fC s ∧ Ch b A s ∧ StaticIs s "java/lang/String" "COMPACT_STRINGS" "Z" (.int z) ∧ ¬ z = 0 ∧ 0 < len ∧ o + len ≤ A.slots.size ∧ len ≤ 536870912 ∧ ∀ i, i < len → ¬ 255 < cv A (o + i)
def E (a : Addr) (D : Cell) (fV fC : Field) (A : Cell) (o len : Nat) (r : Option Value) (s u : State) : Prop := Got a D fV fC A o len r s u
/-- len > 0, no char of the range above 255: a Latin-1 String of their low bytes -/
theorem law (l : Launch) (a : Addr) (D : Cell) (fV fC : Field) (b : Addr) (A : Cell) (z : Int32) (o len : Nat) : Law l yN 5 4 2 35 yB 6 none site (P a D fV fC b A z o len) (E a D fV fC A o len) [⟨a, fC.slot⟩, ⟨a, fV.slot⟩] 1 len := by
  refine Law.of_walk (plainFor_of_name (by decide +kernel)) (by decide +kernel) (by decide +kernel) (by decide) (fun _ _ h => by rw [h.1]; rfl) (fun _ U U' hal hh h => ⟨h.1, h.2.1.mv hal hh, h.2.2.1.al hal, h.2.2.2.1.al hal, h.2.2.2.2.1.mv hal hh, h.2.2.2.2.2.1.there hal hh, h.2.2.2.2.2.2⟩) (fun r U U' V V' h1 hal h2 h => Got.mv r U U' V V' h1 hal h2 h) ?_
  intro p e s m args below meth c s₁ X0 hexec hbytes hml hret hlk hnm hown hh0 W hP
  obtain ⟨rfl, hB, f1, f2, hA, s1, hz, l0, l1, l2, hp⟩ := hP
  have a31 := hA.1.2.2.2
  have c1 : Steps p.tables e below (s₁.setTop (entryFrame m #[.ref a, .ref b, .int (Int32.ofNat o), .int (Int32.ofNat len), .null] 6)) (s₁.setTop (mkF m 0 #[.val (.ref a), .val (.ref b), .val (.int (Int32.ofNat o)), .val (.int (Int32.ofNat len)), .val .null, .unset] [])) := entry rfl
  have c2 : Steps p.tables e below (s₁.setTop (entryFrame m #[.ref a, .ref b, .int (Int32.ofNat o), .int (Int32.ofNat len), .null] 6)) (s₁.setTop (mkF m 1 #[.val (.ref a), .val (.ref b), .val (.int (Int32.ofNat o)), .val (.int (Int32.ofNat len)), .val .null, .unset] [.ref a])) := c1.trans (by
    refine XS.aloadN X0.here hexec rfl (hb hbytes d0) rfl rfl ?_
    exact Steps.refl _)
  obtain ⟨T3, X3, q3, st3⟩ := X0.oinit hexec hown (wks W (objW "java/lang/String" 1)) (g := (mkF m 1 #[.val (.ref a), .val (.ref b), .val (.int (Int32.ofNat o)), .val (.int (Int32.ofNat len)), .val .null, .unset] [.ref a])) rfl (by rw [hml]; rfl) (rest := []) rfl (hb hbytes d1) (W := 0) (by show 2 * 0 + 0 ≤ _; decide) (Nat.le_of_ble_eq_true rfl) (Nat.le_of_ble_eq_true rfl)
  have hh3 := q3.trans hh0
  have c4 : Steps p.tables e below (s₁.setTop (entryFrame m #[.ref a, .ref b, .int (Int32.ofNat o), .int (Int32.ofNat len), .null] 6)) (T3.setTop (mkF m 27 #[.val (.ref a), .val (.ref b), .val (.int (Int32.ofNat o)), .val (.int (Int32.ofNat len)), .val .null, .unset] [])) := (c2.trans (st3 _ (Steps.refl _))).trans (by
    refine XS.iloadN X3.here hexec rfl (hb hbytes d4) rfl ?_
    refine XS.ifYes X3.here hexec rfl (pc0 := 5) rfl (hb hbytes d5) rfl (i0_ne_t (nz32 (by omega) l0)) (by decide) rfl ?_
    exact Steps.refl _)
  obtain ⟨T5, X5, q5, st5⟩ := X3.sget hexec hown (wk W (.fieldLink "java/lang/String" 38 "java/lang/String" "COMPACT_STRINGS" "Z")) s1 (fun _ _ h => by rw [hh3]; exact h) (g := (mkF m 27 #[.val (.ref a), .val (.ref b), .val (.int (Int32.ofNat o)), .val (.int (Int32.ofNat len)), .val .null, .unset] [])) rfl (hb hbytes d27)
  have hh5 := q5.trans hh3
  have c6 : Steps p.tables e below (s₁.setTop (entryFrame m #[.ref a, .ref b, .int (Int32.ofNat o), .int (Int32.ofNat len), .null] 6)) (T5.setTop (mkF m 30 #[.val (.ref a), .val (.ref b), .val (.int (Int32.ofNat o)), .val (.int (Int32.ofNat len)), .val .null, .unset] [.int z])) := c4.trans (st5 _ (Steps.refl _))
  have c7 : Steps p.tables e below (s₁.setTop (entryFrame m #[.ref a, .ref b, .int (Int32.ofNat o), .int (Int32.ofNat len), .null] 6)) (T5.setTop (mkF m 36 #[.val (.ref a), .val (.ref b), .val (.int (Int32.ofNat o)), .val (.int (Int32.ofNat len)), .val .null, .unset] [.int (Int32.ofNat len), .int (Int32.ofNat o), .ref b])) := c6.trans (by
    refine XS.ifNo X5.here hexec rfl (hb hbytes d30) rfl (i0_eq_f hz) ?_
    refine XS.aloadN X5.here hexec rfl (hb hbytes d33) rfl rfl ?_
    refine XS.iloadN X5.here hexec rfl (hb hbytes d34) rfl ?_
    refine XS.iloadN X5.here hexec rfl (hb hbytes d35) rfl ?_
    exact Steps.refl _)
  obtain ⟨v8, T8, X8, E8, g8⟩ := X5.callS hexec (Cmp3.law l b A o len) hown (wks W (staticW "java/lang/String" 177 Cmp3.yN)) (wk W Cmp3.tab) (W := 0) (Nat.le_of_ble_eq_true rfl) (Nat.le_of_ble_eq_true rfl) (Nat.le_refl _) (by show 0 + len ≤ len; omega) (g := (mkF m 36 #[.val (.ref a), .val (.ref b), .val (.int (Int32.ofNat o)), .val (.int (Int32.ofNat len)), .val .null, .unset] [.int (Int32.ofNat len), .int (Int32.ofNat o), .ref b])) rfl (by rw [hml]; rfl) c7 (argsL := [.ref b, .int (Int32.ofNat o), .int (Int32.ofNat len)]) (rest := []) rfl rfl (by show 2 * 0 + 0 ≤ _; decide) (hb hbytes d36) (⟨rfl, hA.mv X5.warmed.alike hh5, l1, l2, hp⟩)
  obtain ⟨e8, z8⟩ := E8
  obtain ⟨rfl, N, n1, n2, n3, n4, n5, n6⟩ := NewArr.mv _ T5 s _ _ hh5.symm (Vm.Alike.refl _) rfl e8
  rw [hh5] at z8
  have hB1 := hB.keep X8.warmed.alike (n6 _ _ hB.1)
  have hne : s.heap.size ≠ a := (Nat.ne_of_lt (Array.getElem?_eq_some_iff.mp hB.1).1).symm
  have c9 : Steps p.tables e below (s₁.setTop (entryFrame m #[.ref a, .ref b, .int (Int32.ofNat o), .int (Int32.ofNat len), .null] 6)) (T8.setTop (mkF m 39 #[.val (.ref a), .val (.ref b), .val (.int (Int32.ofNat o)), .val (.int (Int32.ofNat len)), .val .null, .unset] [.ref s.heap.size])) := g8
  have c10 : Steps p.tables e below (s₁.setTop (entryFrame m #[.ref a, .ref b, .int (Int32.ofNat o), .int (Int32.ofNat len), .null] 6)) (T8.setTop (mkF m 45 #[.val (.ref a), .val (.ref b), .val (.int (Int32.ofNat o)), .val (.int (Int32.ofNat len)), .val .null, .val (.ref s.heap.size)] [.int (Int32.ofNat N.slots.size), .ref s.heap.size, .ref a])) := by
    have hc : Steps p.tables e below (s₁.setTop (entryFrame m #[.ref a, .ref b, .int (Int32.ofNat o), .int (Int32.ofNat len), .null] 6)) (T8.setTop (mkF m 45 #[.val (.ref a), .val (.ref b), .val (.int (Int32.ofNat o)), .val (.int (Int32.ofNat len)), .val .null, .val (.ref s.heap.size)] [.int (Int32.ofNat len), .ref s.heap.size, .ref a])) := c9.trans (by
      refine XS.astore X8.here hexec rfl (hb hbytes d39) rfl rfl rfl ?_
      refine XS.aloadN X8.here hexec rfl (hb hbytes d41) rfl rfl ?_
      refine XS.aload X8.here hexec rfl (hb hbytes d42) rfl rfl ?_
      refine XS.iloadN X8.here hexec rfl (hb hbytes d44) rfl ?_
      exact Steps.refl _)
    rw [n4]; exact hc
  obtain ⟨v11, T11, X11, E11, g11⟩ := X8.callS hexec (CodL.law l s.heap.size N) hown (wks W (staticW "java/lang/String" 47 CodL.yN)) (wk W CodL.tab) (W := 1) (Nat.le_of_ble_eq_true rfl) (Nat.le_of_ble_eq_true rfl) (Nat.le_refl _) (by show 0 + len + 0 ≤ len; omega) (g := (mkF m 45 #[.val (.ref a), .val (.ref b), .val (.int (Int32.ofNat o)), .val (.int (Int32.ofNat len)), .val .null, .val (.ref s.heap.size)] [.int (Int32.ofNat N.slots.size), .ref s.heap.size, .ref a])) rfl (by rw [hml]; rfl) c10 (argsL := [.ref s.heap.size, .int (Int32.ofNat N.slots.size)]) (rest := [.ref a]) rfl rfl (by show 2 * 0 + (1 + 0) ≤ _; decide) (hb hbytes d45) (⟨rfl, n1⟩)
  obtain ⟨rfl, q11⟩ := E11
  have hB11 := hB1.mv (X8.warmed.alike.symm.trans X11.warmed.alike) q11
  have c12 : Steps p.tables e below (s₁.setTop (entryFrame m #[.ref a, .ref b, .int (Int32.ofNat o), .int (Int32.ofNat len), .null] 6)) (T11.setTop (mkF m 48 #[.val (.ref a), .val (.ref b), .val (.int (Int32.ofNat o)), .val (.int (Int32.ofNat len)), .val .null, .val (.ref s.heap.size)] [.int 0, .ref a])) := g11
  obtain ⟨T13, X13, p13, bl13, sl13, st13⟩ := X11.finit hexec hown (wk W (.fieldLink "java/lang/String" 15 "java/lang/String" "coder" "B")) (Or.inr ⟨_, (wk W (.laysFinal "java/lang/String" "java/lang/String" "coder" "B"))⟩) (Or.inl ⟨rfl, hnm⟩) f2 (Or.inl rfl) hB11 (t := .byte) (by decide +kernel) rfl (g := (mkF m 48 #[.val (.ref a), .val (.ref b), .val (.int (Int32.ofNat o)), .val (.int (Int32.ofNat len)), .val .null, .val (.ref s.heap.size)] [.int 0, .ref a])) rfl (rest := []) rfl (hb hbytes d48)
  have c14 : Steps p.tables e below (s₁.setTop (entryFrame m #[.ref a, .ref b, .int (Int32.ofNat o), .int (Int32.ofNat len), .null] 6)) (T13.setTop (mkF m 54 #[.val (.ref a), .val (.ref b), .val (.int (Int32.ofNat o)), .val (.int (Int32.ofNat len)), .val .null, .val (.ref s.heap.size)] [.ref s.heap.size, .ref a])) := (c12.trans (st13 _ (Steps.refl _))).trans (by
    refine XS.aloadN X13.here hexec rfl (hb hbytes d51) rfl rfl ?_
    refine XS.aload X13.here hexec rfl (hb hbytes d52) rfl rfl ?_
    exact Steps.refl _)
  obtain ⟨T15, X15, p15, bl15, sl15, st15⟩ := X13.finit hexec hown (wk W (.fieldLink "java/lang/String" 9 "java/lang/String" "value" "[B")) (Or.inr ⟨_, (wk W (.laysFinal "java/lang/String" "java/lang/String" "value" "[B"))⟩) (Or.inl ⟨rfl, hnm⟩) f1 (Or.inl rfl) bl13 (t := (.array .byte)) (by decide +kernel) rfl (g := (mkF m 54 #[.val (.ref a), .val (.ref b), .val (.int (Int32.ofNat o)), .val (.int (Int32.ofNat len)), .val .null, .val (.ref s.heap.size)] [.ref s.heap.size, .ref a])) rfl (rest := []) rfl (hb hbytes d54)
  have c16 : Steps p.tables e below (s₁.setTop (entryFrame m #[.ref a, .ref b, .int (Int32.ofNat o), .int (Int32.ofNat len), .null] 6)) (T15.setTop (mkF m 57 #[.val (.ref a), .val (.ref b), .val (.int (Int32.ofNat o)), .val (.int (Int32.ofNat len)), .val .null, .val (.ref s.heap.size)] [])) := c14.trans (st15 _ (Steps.refl _))
  have ap := apart (Or.inr ⟨_, (wk W (.laysFinal "java/lang/String" "java/lang/String" "value" "[B"))⟩) (Or.inr ⟨_, (wk W (.laysFinal "java/lang/String" "java/lang/String" "coder" "B"))⟩) f1 f2 (t₁ := .array .byte) (t₂ := .byte) (by decide +kernel) (by decide +kernel) (by decide)
  have al := X8.warmed.alike.symm.trans X15.warmed.alike
  have n7 : T11.heap[s.heap.size]? = some N := by rw [q11]; exact n1.1
  exact ⟨T15, none, _, _, _, X15, by simp, rfl, by omega, (fun _ => rfl), ⟨rfl, _, N, bl15, ((Same.refl D _).set _ (by simp)).set _ (by simp), sl15, (Cell.slots_setSlot_ne _ ap).trans sl13, n1.keep al (p15.other hne (p13.other hne n7)), n2, by rw [al.findClass]; exact n3, n4, n5, fun y c h1 h2 => p15.other h1 (p13.other h1 (by rw [q11]; exact n6 y c h2)), by rw [p15.2.2, p13.2.2, q11]; exact z8⟩, fun fs hl => c16.trans (X15.returnOut hexec hret (hb hbytes d57) hl)⟩
end New4
namespace New1
def yN : MethodName := ⟨"java/lang/String", "<init>", "([C)V"⟩
abbrev yB : ByteArray := jdk_42_method_3_code
theorem d0 : decode yB 0 = .ok (.aload_n 0, 1) := by decide +kernel
theorem d1 : decode yB 1 = .ok (.aload_n 1, 1) := by decide +kernel
theorem d2 : decode yB 2 = .ok (.iconst 0, 1) := by decide +kernel
theorem d3 : decode yB 3 = .ok (.aload_n 1, 1) := by decide +kernel
theorem d4 : decode yB 4 = .ok (.arraylength, 1) := by decide +kernel
theorem d5 : decode yB 5 = .ok (.aconst_null, 1) := by decide +kernel
theorem d6 : decode yB 6 = .ok (.invokespecial 27, 3) := by decide +kernel
theorem d9 : decode yB 9 = .ok (.return_, 1) := by decide +kernel
def site : List Cond := [New4.tab] ++ initW "java/lang/String" 27 New4.yN
def tab : Cond := tabOf yN yB 2 none site
def P (a : Addr) (D : Cell) (fV fC : Field) (b : Addr) (A : Cell) (z : Int32) (args : Array Value) (s : State) : Prop := args = #[.ref a, .ref b] ∧ Blank "java/lang/String" a D s ∧ Found "java/lang/String" "value" "[B" fV s ∧ Found "java/lang/String" "coder" "B" fC s ∧ Ch b A s ∧ StaticIs s "java/lang/String" "COMPACT_STRINGS" "Z" (.int z) ∧ ¬ z = 0 ∧ 0 < A.slots.size ∧ A.slots.size ≤ 536870912 ∧ ∀ i, i < A.slots.size → ¬ 255 < cv A i
def E (a : Addr) (D : Cell) (fV fC : Field) (A : Cell) (r : Option Value) (s u : State) : Prop := Got a D fV fC A 0 A.slots.size r s u
/-- new String(chars), not empty, no char above 255: a Latin-1 String of their low bytes -/
theorem law (l : Launch) (a : Addr) (D : Cell) (fV fC : Field) (b : Addr) (A : Cell) (z : Int32) : Law l yN 2 1 3 52 yB 2 none site (P a D fV fC b A z) (E a D fV fC A) [⟨a, fC.slot⟩, ⟨a, fV.slot⟩] 1 A.slots.size := by
  refine Law.of_walk (plainFor_of_name (by decide +kernel)) (by decide +kernel) (by decide +kernel) (by decide) (fun _ _ h => by rw [h.1]; rfl) (fun _ U U' hal hh h => ⟨h.1, h.2.1.mv hal hh, h.2.2.1.al hal, h.2.2.2.1.al hal, h.2.2.2.2.1.mv hal hh, h.2.2.2.2.2.1.there hal hh, h.2.2.2.2.2.2⟩) (fun r U U' V V' h1 hal h2 h => Got.mv r U U' V V' h1 hal h2 h) ?_
  intro p e s m args below meth c s₁ X0 hexec hbytes hml hret hlk hnm hown hh0 W hP
  obtain ⟨rfl, hB, f1, f2, hA, s1, hz, l0, l2, hp⟩ := hP
  have c1 : Steps p.tables e below (s₁.setTop (entryFrame m #[.ref a, .ref b] 2)) (s₁.setTop (mkF m 0 #[.val (.ref a), .val (.ref b)] [])) := entry rfl
  have c2 : Steps p.tables e below (s₁.setTop (entryFrame m #[.ref a, .ref b] 2)) (s₁.setTop (mkF m 6 #[.val (.ref a), .val (.ref b)] [.null, .int (Int32.ofNat A.slots.size), .int 0, .ref b, .ref a])) := c1.trans (by
    refine XS.aloadN X0.here hexec rfl (hb hbytes d0) rfl rfl ?_
    refine XS.aloadN X0.here hexec rfl (hb hbytes d1) rfl rfl ?_
    refine iconstV X0.here hexec rfl 0 (hb hbytes d2) (by decide) ?_
    refine XS.aloadN X0.here hexec rfl (hb hbytes d3) rfl rfl ?_
    refine X0.alen hexec (hA.1.mv X0.warmed.alike hh0) rfl rfl (hb hbytes d4) ?_
    refine XS.aconstNull X0.here hexec rfl (hb hbytes d5) ?_
    exact Steps.refl _)
  obtain ⟨v3, T3, X3, E3, g3⟩ := X0.callN hexec (New4.law l a D fV fC b A z 0 A.slots.size) rfl hown (wks W (initW "java/lang/String" 27 New4.yN)) (W New4.tab (by simp only [site, List.mem_cons, List.mem_append, true_or, or_true])) (W := 0) (Nat.le_of_ble_eq_true rfl) (Nat.le_of_ble_eq_true rfl) (Nat.le_refl _) (by show 0 + A.slots.size ≤ A.slots.size; omega) (g := (mkF m 6 #[.val (.ref a), .val (.ref b)] [.null, .int (Int32.ofNat A.slots.size), .int (Int32.ofNat 0), .ref b, .ref a])) rfl (by rw [hml]; rfl) c2 (argsL := [.ref b, .int (Int32.ofNat 0), .int (Int32.ofNat A.slots.size), .null]) (rest := []) rfl rfl (by show 2 * 0 + 0 ≤ _; decide) (hb hbytes d6) (⟨rfl, hB.mv X0.warmed.alike hh0, f1.al X0.warmed.alike, f2.al X0.warmed.alike, hA.mv X0.warmed.alike hh0, s1.there X0.warmed.alike hh0, hz, l0, by omega, l2, fun i hi => by rw [Nat.zero_add]; exact hp i hi⟩)
  have e0 := Got.mv _ s₁ s _ _ hh0.symm (Vm.Alike.refl _) rfl E3
  obtain rfl := e0.1
  have c4 : Steps p.tables e below (s₁.setTop (entryFrame m #[.ref a, .ref b] 2)) (T3.setTop (mkF m 9 #[.val (.ref a), .val (.ref b)] [])) := g3
  exact ⟨T3, none, _, _, _, X3, by simp, rfl, by omega, (fun _ => rfl), e0, fun fs hl => c4.trans (X3.returnOut hexec hret (hb hbytes d9) hl)⟩
theorem pays {l : Launch} {R : Room} {p : Program} {e : Env} {below : List Frame} {s : State} {sargs : Array Value} {len W : Nat} (a : Addr) (D : Cell) (fV fC : Field) (b : Addr) (A : Cell) (z : Int32) (htab : tab.before sargs s = true) (hfr : 4 ≤ R.frames) (hlo : W + 65 ≤ R.locals) :
    Back l R p e below s sargs yN len W (fun A₁ a₁ => A₁.cells + 1 ≤ R.cells ∧ A₁.slots + A.slots.size ≤ R.slots ∧ P a D fV fC b A z a₁ A₁.U) (fun A₁ _ v₁ B₁ => E a D fV fC A v₁ A₁.U B₁.U ∧ B₁.locs = A₁.locs ++ [⟨a, fC.slot⟩, ⟨a, fV.slot⟩] ∧ B₁.cells = A₁.cells + 1 ∧ B₁.slots = A₁.slots + A.slots.size) :=
  (law l a D fV fC b A z).pays htab hfr (by omega)
end New1
end StrChars
namespace StrChars.Road
open Jvm Sem ClassFile Op Lib Jvm.Stand Jvm.Free Jvm.Free.XT
open Jvm.Lib.Cold (StaticIs)
abbrev ST : String := "java/lang/String"
/-- every table word that New1's law asks, flat -/
abbrev words : List Jvm.Cond := [.code New1.yN New1.yB 2 none, .initialized ST, .methodLink ST 27 New4.yN, .instanceMethod New4.yN,
  .code New4.yN New4.yB 6 none, .fieldLink ST 38 ST "COMPACT_STRINGS" "Z", .laysFinal ST ST "value" "[B", .fieldLink ST 9 ST "value" "[B", .laysFinal ST ST "coder" "B", .fieldLink ST 15 ST "coder" "B",
  .methodLink ST 1 Lib.objectInit, .instanceMethod Lib.objectInit, .code Lib.objectInit ⟨#[0xb1]⟩ 1 none, .methodLink ST 177 Cmp3.yN, .static Cmp3.yN, .methodLink ST 47 CodL.yN, .static CodL.yN,
  .code Cmp3.yN Cmp3.yB 6 (some (.array .byte)), .initialized U16, .arrayClass .byte, .methodLink U16 115 Cmp5.yN, .static Cmp5.yN, .code Cmp5.yN Cmp5.yB 7 (some .int), .code CodL.yN CodL.yB 2 (some .byte)]
theorem tab_of {a : Array Value} {s : State} (h : ∀ w ∈ words, w.before a s = true) : New1.tab.before a s = true := by
  have h5 : Cmp5.tab.before a s = true := unparts (wk h (.code Cmp5.yN Cmp5.yB 7 (some .int))) (wks h (.initialized Cmp5.yN.cls :: Cmp5.site))
  have hc : CodL.tab.before a s = true := unparts (wk h (.code CodL.yN CodL.yB 2 (some .byte))) (wks h (.initialized CodL.yN.cls :: CodL.site))
  have q5 : ∀ w ∈ Cmp5.tab :: words, w.before a s = true := fun w hw => (List.mem_cons.mp hw).elim (fun e => e ▸ h5) (h w)
  have h3 : Cmp3.tab.before a s = true := unparts (wk q5 (.code Cmp3.yN Cmp3.yB 6 (some (.array .byte)))) (wks q5 (.initialized Cmp3.yN.cls :: Cmp3.site))
  have q3 : ∀ w ∈ Cmp3.tab :: CodL.tab :: words, w.before a s = true := fun w hw => (List.mem_cons.mp hw).elim (fun e => e ▸ h3) fun hw => (List.mem_cons.mp hw).elim (fun e => e ▸ hc) (h w)
  have h4 : New4.tab.before a s = true := unparts (wk q3 (.code New4.yN New4.yB 6 none)) (wks q3 (.initialized New4.yN.cls :: New4.site))
  have q4 : ∀ w ∈ New4.tab :: words, w.before a s = true := fun w hw => (List.mem_cons.mp hw).elim (fun e => e ▸ h4) (h w)
  exact unparts (wk q4 (.code New1.yN New1.yB 2 none)) (wks q4 (.initialized New1.yN.cls :: New1.site))
/-- the words ride from the start Z to the walk's own state -/
theorem moved {Z s : State} {a0 args : Array Value} (hZ : Z.Warmed39 s.vm) (hw : ∀ d ∈ words, d.before a0 Z = true) : ∀ d ∈ words, d.before args s = true := fun d hd => by
  have q := hw d hd
  have t : ∀ d ∈ words, d = .arrayClass .byte ∨ (d.onTables && d.keepsFace) = true := by decide +kernel
  rcases t d hd with rfl | t
  · exact RoadKit.mvA hZ q
  · exact RoadKit.mv hZ q t
/-- WHAT COMES BACK, over the tables of the start Z: h the heap at the call, h' behind it -/
def Q (Z : State) (x : Addr) (A : Cell) (h : Heap) (v : Option Value) (h' : Heap) (L : List Loc) : Prop := v = none ∧ (∀ y ∈ L, y.base = x) ∧ RoadKit.Keep h h' [x] ∧ h'.size = h.size + 1 ∧ RoadKit.Exa Z h' x ST ∧ RoadKit.Fld Z h' x ST "value" "[B" (.ref h.size) ∧ RoadKit.Fld Z h' x ST "coder" "B" (.int 0) ∧
  (∃ V : Cell, RoadKit.Arr Z h' h.size V .byte ∧ V.vm = .none ∧ Z.vm.findClass "[B" = some V.cls ∧ V.slots.size = A.slots.size ∧ ∀ j, j < A.slots.size → V.slots[j]? = some (.int (lo8 (cv A j)))) ∧
  ∀ (O n d : String) (w : Value), RoadKit.Fld Z h x O n d w → RoadKit.slotOf Z O n d ≠ RoadKit.slotOf Z ST "value" "[B" → RoadKit.slotOf Z O n d ≠ RoadKit.slotOf Z ST "coder" "B" → RoadKit.Fld Z h' x O n d w
/-- **new String(chars) AT A CALL, IN THE ROAD'S FORM**: for specialBack behind newO: x the fresh String, b the char[] with the cell A -/
theorem back {p : Program} {l : Launch} {e : Env} {R : Room} {s : State} {args : Array Value} {below : List Frame} {len W : Nat} {Z : State} {a0 : Array Value} {h : Heap} (hZ : Z.Warmed39 s.vm) (hw : ∀ d ∈ words, d.before a0 Z = true) {kI : Nat} (wi : (Jvm.Cond.instantiable ST kI).before a0 Z = true)
    {x b : Addr} {A : Cell} {z : Int32} {v0 c0 : Value} (E : RoadKit.Exa Z h x ST) (V : RoadKit.Fld Z h x ST "value" "[B" v0) (C : RoadKit.Fld Z h x ST "coder" "B" c0) (K : RoadKit.Arr Z h b A .char) (hty : Typed .char A) (S : RoadKit.Sta Z h ST "COMPACT_STRINGS" "Z" (.int z)) (hz : ¬ z = 0)
    (l0 : 0 < A.slots.size) (l2 : A.slots.size ≤ 536870912) (hp : ∀ i, i < A.slots.size → ¬ 255 < cv A i) (hfr : 4 ≤ R.frames) (hlo : W + 65 ≤ R.locals) :
    Back l R p e below s args New1.yN len W (fun P a => a = #[.ref x, .ref b] ∧ P.U.heap = h ∧ P.cells + 1 ≤ R.cells ∧ P.slots + A.slots.size ≤ R.slots)
      (fun P _ v B => ∃ L, Q Z x A h v B.U.heap L ∧ B.locs = P.locs ++ L ∧ B.cells = P.cells + 1 ∧ B.slots = P.slots + A.slots.size) := by
  intro m meth c P g ig mk a X hg hsize hdg hW hn hp'
  obtain ⟨rfl, rfl, r1, r2⟩ := hp'
  have al : Z.vm.Alike P.U.vm := hZ.alike.trans X.warmed.alike
  obtain ⟨D, cfV, kV, iV, fV, hD, gV, stV, knV, obV, asV, slV⟩ := id V
  obtain ⟨D', cfC, kC, iC, fC, hD', gC, stC, -, -, asC, slC⟩ := id C
  cases hD.symm.trans hD'
  obtain ⟨D2, kD, e1, e2, e3, e4, e5⟩ := id E
  cases hD.symm.trans e1
  obtain ⟨c2, k2, i1, i2, i3, -⟩ := Cond.instantiable_spec wi
  cases e2.symm.trans i1
  cases e3.symm.trans i2
  obtain ⟨kU, u1, u2⟩ := al.2.2 _ _ e3
  have hB : Blank ST x D P.U := ⟨hD, ⟨knV, fun q hq => by rw [hq] at obV; cases obV⟩, by rw [al.findClass]; exact e2, kU, u1, by rw [u2]; exact i3, by rw [u2]; exact e5 i3⟩
  have F1 : Found ST "value" "[B" fV P.U := ⟨SBG.found_only al ⟨cfV, kV, iV, gV⟩, stV⟩
  have F2 : Found ST "coder" "B" fC P.U := ⟨SBG.found_only al ⟨cfC, kC, iC, gC⟩, stC⟩
  have hA : Ch b A P.U := ⟨⟨K.1, State.isArrayOf_alike al K.2.1, K.2.2, by omega⟩, hty⟩
  have hS : StaticIs P.U ST "COMPACT_STRINGS" "Z" (.int z) := by
    obtain ⟨cfS, iS, kS, fS, st, cS, t1, t2, t3, t4, t5, t6, t7⟩ := S
    exact StaticIs.there (s := { Z with heap := P.U.heap }) ⟨cfS, iS, kS, fS, st, cS, t1, t2, t3, t4, t5, (fun q => by rw [q] at t6; cases t6), t7⟩ al rfl
  obtain ⟨v, B, X', ⟨⟨hv, E', V', q1, q2, q3, q4, q5, q6, q7, q8, q9, q10, q11⟩, hl, hc, hs⟩, st⟩ := New1.pays x D fV fC b A z (tab_of (moved hZ hw)) hfr hlo m meth c P g ig mk _ X hg hsize hdg hW hn ⟨r1, r2, rfl, hB, F1, F2, hA, hS, hz, l0, l2, hp⟩
  have al' : Z.vm.Alike B.U.vm := hZ.alike.trans X'.warmed.alike
  have hsz : E'.slots.size = D.slots.size := by
    obtain ⟨-, -, -, kB, w1, w2, w3⟩ := q1
    obtain ⟨kB', y1, y2⟩ := al'.2.2 _ _ e3
    rw [q2.2.1] at w1
    cases w1.symm.trans y1
    rw [w3, e5 i3, y2]
  refine ⟨v, B, X', ⟨_, ⟨hv, ?_, ⟨by omega, fun y cy hy hn' => q10 y cy (by simpa using hn') hy, fun y cy hy => ?_⟩, q11, ⟨E', _, q1.1, by rw [q2.2.1]; exact e2, by rw [q2.2.1]; exact e3, by rw [q2.1]; exact obV, fun _ => by rw [hsz]; exact e5 i3⟩,
    ⟨E', cfV, kV, iV, fV, q1.1, gV, stV, by rw [q2.1]; exact knV, by rw [q2.1]; exact obV, by rw [q2.2.1]; exact asV, q3⟩, ⟨E', cfC, kC, iC, fC, q1.1, gC, stC, by rw [q2.1]; exact knV, by rw [q2.1]; exact obV, by rw [q2.2.1]; exact asC, q4⟩,
    ⟨V', ⟨q5.1, State.isArrayOf_alike al'.symm q5.2.1, q5.2.2.1⟩, q6, by rw [← al'.findClass]; exact q7, q8, fun j hj => by have := q9 j hj; rwa [Nat.zero_add] at this⟩, fun O n d w F n1 n2 => ?_⟩, hl, hc, hs⟩, st⟩
  · intro y hy
    simp only [List.mem_cons, List.not_mem_nil, or_false] at hy
    rcases hy with rfl | rfl <;> rfl
  · by_cases q : y = x
    · subst q
      cases hD.symm.trans hy
      exact ⟨E', q1.1, q2.2.1, q2.1, hsz⟩
    · exact ⟨cy, q10 y cy q hy, rfl, rfl, rfl⟩
  · obtain ⟨D3, cf, k, i, f, g1, g2, g3, g4, g5, g6, g7⟩ := F
    cases hD.symm.trans g1
    simp only [RoadKit.slotOf, g2, gV, gC, Option.map_some, Option.getD_some] at n1 n2
    exact ⟨E', cf, k, i, f, q1.1, g2, g3, by rw [q2.1]; exact g4, by rw [q2.1]; exact g5, by rw [q2.2.1]; exact g6, by rw [q2.2.2 f.slot (by simp [n1, n2])]; exact g7⟩
end StrChars.Road
namespace StrChars.Road
open Jvm Sem ClassFile Op Lib Jvm.Stand Jvm.Free Jvm.Free.XT
/-- WHAT COMES BACK, the byte[] as a list of values -/
def QA (Z : State) (x : Addr) (zn : Int32) (cs : List Int32) (h : Heap) (v : Option Value) (h' : Heap) (L : List Loc) : Prop := v = none ∧ (∀ y ∈ L, y.base = x) ∧ RoadKit.Keep h h' [x] ∧ h'.size = h.size + 1 ∧ RoadKit.Exa Z h' x ST ∧ RoadKit.Fld Z h' x ST "value" "[B" (.ref h.size) ∧ RoadKit.Fld Z h' x ST "coder" "B" (.int 0) ∧
  (∃ kb, Z.vm.findClass "[B" = some kb ∧ RoadKit.Arv Z h' h.size kb .byte zn (cs.map fun c => .int (lo8 c)) (.int 0)) ∧
  ∀ (O n d : String) (w : Value), RoadKit.Fld Z h x O n d w → RoadKit.slotOf Z O n d ≠ RoadKit.slotOf Z ST "value" "[B" → RoadKit.slotOf Z O n d ≠ RoadKit.slotOf Z ST "coder" "B" → RoadKit.Fld Z h' x O n d w
/-- **new String(chars) AT A CALL, THE ARRAYS AS LISTS**: the char[] at b holds cs, not empty, no char above 255 -/
theorem backArv {p : Program} {l : Launch} {e : Env} {R : Room} {s : State} {args : Array Value} {below : List Frame} {len W : Nat} {Z : State} {a0 : Array Value} {h : Heap} (hZ : Z.Warmed39 s.vm) (hw : ∀ d ∈ words, d.before a0 Z = true) {kI : Nat} (wi : (Jvm.Cond.instantiable ST kI).before a0 Z = true)
    {x b : Addr} {k : ClassId} {zn z : Int32} {cs : List Int32} {dv v0 c0 : Value} (E : RoadKit.Exa Z h x ST) (V : RoadKit.Fld Z h x ST "value" "[B" v0) (C : RoadKit.Fld Z h x ST "coder" "B" c0) (K : RoadKit.Arv Z h b k .char zn (cs.map Value.int) dv) (S : RoadKit.Sta Z h ST "COMPACT_STRINGS" "Z" (.int z)) (hz : ¬ z = 0)
    (hlen : zn.toNatClampNeg = cs.length) (h0 : 0 < cs.length) (hbig : cs.length ≤ 536870912) (hall : ∀ c ∈ cs, ¬ 255 < c) (hfr : 4 ≤ R.frames) (hlo : W + 65 ≤ R.locals) :
    Back l R p e below s args New1.yN len W (fun P a => a = #[.ref x, .ref b] ∧ P.U.heap = h ∧ P.cells + 1 ≤ R.cells ∧ P.slots + cs.length ≤ R.slots)
      (fun P _ v B => ∃ L, QA Z x zn cs h v B.U.heap L ∧ B.locs = P.locs ++ L ∧ B.cells = P.cells + 1 ∧ B.slots = P.slots + cs.length) := by
  obtain ⟨A, K1, K2, K3, K4, K5, K6⟩ := K
  have e : A.slots.size = cs.length := K3.trans hlen
  have hat : ∀ (i : Nat) (hi : i < cs.length), A.slots[i]? = some (.int cs[i]) := fun i hi => by rw [K5 i (by omega)]; simp [List.getD_eq_getElem?_getD, hi]
  have hcv : ∀ (i : Nat) (hi : i < cs.length), cv A i = cs[i] := fun i hi => by unfold cv; rw [hat i hi]
  have hty : Typed .char A := fun i v hv => by
    have hi : i < A.slots.size := (Array.getElem?_eq_some_iff.mp hv).1
    have q := K5 i hi
    rw [hv] at q
    rw [Option.some.inj q]
    exact K6 i hi
  refine Back.mono (back hZ hw wi E V C K1 hty S hz (by omega) (by omega) (fun i hi => by rw [hcv i (by omega)]; exact hall _ (List.getElem_mem _)) hfr hlo) (fun P a hp => ⟨hp.1, hp.2.1, hp.2.2.1, by rw [e]; exact hp.2.2.2⟩) (fun P a v B hp hq => ?_)
  obtain ⟨L, ⟨q1, q2, q3, q4, q5, q6, q7, ⟨V', v1, v2, v3, v4, v5⟩, q9⟩, hl, hc, hs⟩ := hq
  refine ⟨L, ⟨q1, q2, q3, q4, q5, q6, q7, ⟨V'.cls, v3, V', v1, rfl, by rw [v4, e, hlen], K4, fun i hi => ?_, fun i hi => ?_⟩, q9⟩, hl, hc, by rw [hs, e]⟩
  · have hi' : i < cs.length := by omega
    rw [v5 i (by omega), hcv i hi']; simp [List.getD_eq_getElem?_getD, hi']
  · have hi' : i < cs.length := by omega
    simp only [List.getD_eq_getElem?_getD, List.getElem?_map, List.getElem?_eq_getElem hi', Option.map_some, Option.getD_some]
    exact fits_lo8 _
end StrChars.Road
namespace StrChars.Road
open Jvm Sem ClassFile Op Lib Jvm.Stand Jvm.Free Jvm.Free.XT
/-- WHAT COMES BACK, in the writer's own shape -/
def QV (Z : State) (x : Addr) (N : Int32) (bs : List Int32) (h : Heap) (n0 : Nat) (v : Option Value) (h' : Heap) (L : List Loc) : Prop := v = none ∧ RoadKit.Fr n0 L ∧ RoadKit.Keep h h' [x] ∧ RoadKit.Exa Z h' x ST ∧ RoadKit.Fld Z h' x ST "coder" "B" (.int 0) ∧
  ∃ (t : Addr) (kb : ClassId), n0 ≤ t ∧ h.size ≤ t ∧ ¬ t = x ∧ RoadKit.Fld Z h' x ST "value" "[B" (.ref t) ∧ RoadKit.Arv Z h' t kb .byte N (bs.map Value.int) (.int 0)
/-- **new String(chars) AT A CALL, FOR THE WRITER**: a char[] of n known ints, each 0 to 255 -/
theorem backV {p : Program} {l : Launch} {e : Env} {R : Room} {s : State} {args : Array Value} {below : List Frame} {len W : Nat} {Z : State} {a0 : Array Value} {h : Heap} (hZ : Z.Warmed39 s.vm) (hw : ∀ d ∈ words, d.before a0 Z = true) {kI : Nat} (wi : (Jvm.Cond.instantiable ST kI).before a0 Z = true)
    {x b : Addr} {kC : ClassId} {cs bs : List Int32} {d v0 c0 : Value} {z N : Int32} {n n0 : Nat} (hx0 : n0 ≤ x) (hh0 : n0 ≤ h.size) (E : RoadKit.Exa Z h x ST) (V : RoadKit.Fld Z h x ST "value" "[B" v0) (C : RoadKit.Fld Z h x ST "coder" "B" c0) (K : RoadKit.Arv Z h b kC .char N (cs.map Value.int) d) (S : RoadKit.Sta Z h ST "COMPACT_STRINGS" "Z" (.int z)) (hz : ¬ z = 0)
    (hn : cs.length = n) (hN : N = Int32.ofNat n) (l0 : 0 < n) (l2 : n ≤ 4000) (hp : ∀ c ∈ cs, ¬ c < 0 ∧ ¬ (255 : Int32) < c) (hb : bs = cs.map (fun c => c.toInt8.toInt32)) (hfr : 4 ≤ R.frames) (hlo : W + 65 ≤ R.locals) :
    Back l R p e below s args (⟨"java/lang/String", "<init>", "([C)V"⟩ : MethodName) len W (fun P a => a = #[.ref x, .ref b] ∧ P.U.heap = h ∧ P.cells + 1 ≤ R.cells ∧ P.slots + n ≤ R.slots)
      (fun P _ v B => ∃ L, QV Z x N bs h n0 v B.U.heap L ∧ B.locs = P.locs ++ L ∧ B.cells = P.cells + 1 ∧ B.slots = P.slots + n) := by
  subst hn hN hb
  refine Back.mono (backArv hZ hw wi E V C K S hz (n32 (by omega)) l0 (by omega) (fun c hc => (hp c hc).2) hfr hlo) (fun P a hp => hp) (fun P a v B hp hq => ?_)
  obtain ⟨L, ⟨q1, q2, q3, q4, q5, q6, q7, ⟨kb, v1, v2⟩, q9⟩, hl, hc, hs⟩ := hq
  exact ⟨L, ⟨q1, fun y hy => by rw [q2 y hy]; exact hx0, q3, q5, q7, h.size, kb, hh0, Nat.le_refl _, Nat.ne_of_gt E.lt, q6, by rw [List.map_map]; exact v2⟩, hl, hc, hs⟩
end StrChars.Road
end Jvm.Pilot.@@N@@
namespace Jvm.Pilot.@@N@@
open Jvm Jvm.ClassFile Sem Op Lib Jvm.Free Jvm.Stand Jvm.LawKit Jvm.RoadKit Bundle Jvm.Own Jvm.Pilot.@@N@@.Jvm.D
theorem owS {a0 : Array Value} {Z : State} (hw : ∀ d ∈ tables_1, d.before a0 Z = true) : ∀ a ∈ Bundle.stringAtoms, a.before a0 Z = true := fun d hd => hw d ((by decide +kernel : ∀ d ∈ Bundle.stringAtoms, d ∈ tables_1) d hd)
theorem hws' {a0 : Array Value} {Z : State} (hw : ∀ d ∈ tables_1, d.before a0 Z = true) : (Jvm.Cond.instantiable "java/lang/String" 4).before a0 Z = true := owS hw _ (by simp [Bundle.stringAtoms, Bundle.sN])
theorem strPay {l : Launch} {Z : State} {a0 : Array Value} {EL : List (String × Nat)} {R : Room} {K : Cx} {h : Heap} (hw : ∀ d ∈ tables_1, d.before a0 Z = true) (hE : EW Z a0 EL) (x b : Addr) {kC : ClassId} (N : Int32) (cs : List Int32) {d v0 c0 : Value} {z : Int32} (n Wd : Nat) (E : Exa Z h x "java/lang/String") (V : Fld Z h x "java/lang/String" "value" "[B" v0) (C : Fld Z h x "java/lang/String" "coder" "B" c0) (A : Arv Z h b kC .char N (cs.map Value.int) d) (S : Sta Z h "java/lang/String" "COMPACT_STRINGS" "Z" (.int z)) (hz : ¬ z = 0) (hn : cs.length = n) (hN : N.toNatClampNeg = cs.length) (l0 : 0 < cs.length) (l2 : cs.length ≤ 536870912) (hall : ∀ c ∈ cs, ¬ 255 < c) (hfr : 4 ≤ R.frames) (hlo : Wd + 65 ≤ R.locals) :
    Cb l Z EL R K (⟨"java/lang/String", "<init>", "([C)V"⟩ : MethodName) 3 Wd 1 n #[.ref x, .ref b] h [x] (fun v h' so => ∃ t : Addr, ∃ kb : ClassId, v = none ∧ so = [] ∧ h.size ≤ t ∧ Exa Z h' x "java/lang/String" ∧ Fld Z h' x "java/lang/String" "coder" "B" (.int (0 : Int32)) ∧ Fld Z h' x "java/lang/String" "value" "[B" (.ref t) ∧ Arv Z h' t kb .byte N (cs.map fun c => Value.int (StrChars.lo8 c)) (.int 0)) := by
  subst hn
  have hws : ∀ d ∈ StrChars.Road.words, d.before a0 Z = true := fun d hd => hw d ((by decide +kernel : ∀ d ∈ StrChars.Road.words, d ∈ tables_1) d hd)
  refine Cb.bk (a0 := a0) (fun vm0 hZ => StrChars.Road.backArv (s := K.2.2.1.setVm vm0) hZ hws (kI := 4) (hws' hw) E V C A S hz hN l0 l2 hall hfr hlo) hE ?_
  intro v h' L q
  obtain ⟨q1, q2, q3, q4, q5, q6, q7, ⟨kb, -, q8⟩, -⟩ := q
  exact ⟨⟨h.size, kb, q1, rfl, Nat.le_refl _, q5, q7, q6, q8⟩, q3, fun y hy => Or.inl (by rw [q2 y hy]; simp)⟩
theorem ow15 {a0 : Array Value} {Z : State} (hw : ∀ d ∈ tables_1, d.before a0 Z = true) : (Jvm.Cond.methodLink "java/lang/String" (1 : Nat) ({ cls := "java/lang/Object", name := "<init>", desc := "()V" } : Jvm.MethodName)).before a0 Z = true := hw _ (List.mem_of_getElem? (i := 15) rfl)
theorem ow16 {a0 : Array Value} {Z : State} (hw : ∀ d ∈ tables_1, d.before a0 Z = true) : (Jvm.Cond.instanceMethod ({ cls := "java/lang/Object", name := "<init>", desc := "()V" } : Jvm.MethodName)).before a0 Z = true := hw _ (List.mem_of_getElem? (i := 16) rfl)
theorem ow17 {a0 : Array Value} {Z : State} (hw : ∀ d ∈ tables_1, d.before a0 Z = true) : (Jvm.Cond.code ({ cls := "java/lang/Object", name := "<init>", desc := "()V" } : Jvm.MethodName) object_method_1_code (1 : Nat) (Option.none : Option Jvm.ClassFile.FieldType)).before a0 Z = true := hw _ (List.mem_of_getElem? (i := 17) rfl)
theorem ow113 {a0 : Array Value} {Z : State} (hw : ∀ d ∈ tables_1, d.before a0 Z = true) : (Jvm.Cond.stringLink "java/lang/String" (7 : Nat) "").before a0 Z = true := hw _ (List.mem_of_getElem? (i := 113) rfl)
theorem ow32 {a0 : Array Value} {Z : State} (hw : ∀ d ∈ tables_1, d.before a0 Z = true) : (Jvm.Cond.fieldLink "java/lang/String" (9 : Nat) "java/lang/String" "value" "[B").before a0 Z = true := hw _ (List.mem_of_getElem? (i := 32) rfl)
theorem ow33 {a0 : Array Value} {Z : State} (hw : ∀ d ∈ tables_1, d.before a0 Z = true) : (Jvm.Cond.laysFinal "java/lang/String" "java/lang/String" "value" "[B").before a0 Z = true := hw _ (List.mem_of_getElem? (i := 33) rfl)
theorem ow6 {a0 : Array Value} {Z : State} (hw : ∀ d ∈ tables_1, d.before a0 Z = true) : (Jvm.Cond.instantiable "java/lang/String" (4 : Nat)).before a0 Z = true := hw _ (List.mem_of_getElem? (i := 6) rfl)
theorem ow30 {a0 : Array Value} {Z : State} (hw : ∀ d ∈ tables_1, d.before a0 Z = true) : (Jvm.Cond.fieldLink "java/lang/String" (15 : Nat) "java/lang/String" "coder" "B").before a0 Z = true := hw _ (List.mem_of_getElem? (i := 30) rfl)
theorem ow31 {a0 : Array Value} {Z : State} (hw : ∀ d ∈ tables_1, d.before a0 Z = true) : (Jvm.Cond.laysFinal "java/lang/String" "java/lang/String" "coder" "B").before a0 Z = true := hw _ (List.mem_of_getElem? (i := 31) rfl)
theorem ow11 {a0 : Array Value} {Z : State} (hw : ∀ d ∈ tables_1, d.before a0 Z = true) : (Jvm.Cond.methodLink "java/lang/String" (27 : Nat) ({ cls := "java/lang/String", name := "<init>", desc := "([CIILjava/lang/Void;)V" } : Jvm.MethodName)).before a0 Z = true := hw _ (List.mem_of_getElem? (i := 11) rfl)
theorem ow7 {a0 : Array Value} {Z : State} (hw : ∀ d ∈ tables_1, d.before a0 Z = true) : (Jvm.Cond.initialized "java/lang/String").before a0 Z = true := hw _ (List.mem_of_getElem? (i := 7) rfl)
theorem ow14 {a0 : Array Value} {Z : State} (hw : ∀ d ∈ tables_1, d.before a0 Z = true) : (Jvm.Cond.code ({ cls := "java/lang/String", name := "<init>", desc := "([CIILjava/lang/Void;)V" } : Jvm.MethodName) jdk_42_method_149_code (6 : Nat) (Option.none : Option Jvm.ClassFile.FieldType)).before a0 Z = true := hw _ (List.mem_of_getElem? (i := 14) rfl)
theorem ow12 {a0 : Array Value} {Z : State} (hw : ∀ d ∈ tables_1, d.before a0 Z = true) : (Jvm.Cond.instanceMethod ({ cls := "java/lang/String", name := "<init>", desc := "([CIILjava/lang/Void;)V" } : Jvm.MethodName)).before a0 Z = true := hw _ (List.mem_of_getElem? (i := 12) rfl)
theorem ow5 {a0 : Array Value} {Z : State} (hw : ∀ d ∈ tables_1, d.before a0 Z = true) : (Jvm.Cond.classLink "com/example/tallykeep/tallykeep/core/LedgerExceptionConflictPinLaw" (34 : Nat) "java/lang/String").before a0 Z = true := hw _ (List.mem_of_getElem? (i := 5) rfl)
theorem ow4 {a0 : Array Value} {Z : State} (hw : ∀ d ∈ tables_1, d.before a0 Z = true) : (Jvm.Cond.arrayClass Jvm.ClassFile.FieldType.char).before a0 Z = true := hw _ (List.mem_of_getElem? (i := 4) rfl)
theorem ow8 {a0 : Array Value} {Z : State} (hw : ∀ d ∈ tables_1, d.before a0 Z = true) : (Jvm.Cond.methodLink "com/example/tallykeep/tallykeep/core/LedgerExceptionConflictPinLaw" (39 : Nat) ({ cls := "java/lang/String", name := "<init>", desc := "([C)V" } : Jvm.MethodName)).before a0 Z = true := hw _ (List.mem_of_getElem? (i := 8) rfl)
theorem ow10 {a0 : Array Value} {Z : State} (hw : ∀ d ∈ tables_1, d.before a0 Z = true) : (Jvm.Cond.code ({ cls := "java/lang/String", name := "<init>", desc := "([C)V" } : Jvm.MethodName) jdk_42_method_3_code (2 : Nat) (Option.none : Option Jvm.ClassFile.FieldType)).before a0 Z = true := hw _ (List.mem_of_getElem? (i := 10) rfl)
theorem ow9 {a0 : Array Value} {Z : State} (hw : ∀ d ∈ tables_1, d.before a0 Z = true) : (Jvm.Cond.instanceMethod ({ cls := "java/lang/String", name := "<init>", desc := "([C)V" } : Jvm.MethodName)).before a0 Z = true := hw _ (List.mem_of_getElem? (i := 9) rfl)
theorem ow57 {a0 : Array Value} {Z : State} (hw : ∀ d ∈ tables_1, d.before a0 Z = true) : (Jvm.Cond.methodLink "java/lang/Throwable" (1 : Nat) ({ cls := "java/lang/Object", name := "<init>", desc := "()V" } : Jvm.MethodName)).before a0 Z = true := hw _ (List.mem_of_getElem? (i := 57) rfl)
theorem ow59 {a0 : Array Value} {Z : State} (hw : ∀ d ∈ tables_1, d.before a0 Z = true) : (Jvm.Cond.lays "com/example/tallykeep/tallykeep/core/LedgerException" "java/lang/Throwable" "cause" "Ljava/lang/Throwable;").before a0 Z = true := hw _ (List.mem_of_getElem? (i := 59) rfl)
theorem ow58 {a0 : Array Value} {Z : State} (hw : ∀ d ∈ tables_1, d.before a0 Z = true) : (Jvm.Cond.fieldLink "java/lang/Throwable" (7 : Nat) "java/lang/Throwable" "cause" "Ljava/lang/Throwable;").before a0 Z = true := hw _ (List.mem_of_getElem? (i := 58) rfl)
theorem ow39 {a0 : Array Value} {Z : State} (hw : ∀ d ∈ tables_1, d.before a0 Z = true) : (Jvm.Cond.instantiable "com/example/tallykeep/tallykeep/core/LedgerException" (7 : Nat)).before a0 Z = true := hw _ (List.mem_of_getElem? (i := 39) rfl)
theorem ow60 {a0 : Array Value} {Z : State} (hw : ∀ d ∈ tables_1, d.before a0 Z = true) : (Jvm.Cond.fieldLink "java/lang/Throwable" (13 : Nat) "java/lang/Throwable" "UNASSIGNED_STACK" "[Ljava/lang/StackTraceElement;").before a0 Z = true := hw _ (List.mem_of_getElem? (i := 60) rfl)
theorem ow62 {a0 : Array Value} {Z : State} (hw : ∀ d ∈ tables_1, d.before a0 Z = true) : (Jvm.Cond.lays "com/example/tallykeep/tallykeep/core/LedgerException" "java/lang/Throwable" "stackTrace" "[Ljava/lang/StackTraceElement;").before a0 Z = true := hw _ (List.mem_of_getElem? (i := 62) rfl)
theorem ow61 {a0 : Array Value} {Z : State} (hw : ∀ d ∈ tables_1, d.before a0 Z = true) : (Jvm.Cond.fieldLink "java/lang/Throwable" (17 : Nat) "java/lang/Throwable" "stackTrace" "[Ljava/lang/StackTraceElement;").before a0 Z = true := hw _ (List.mem_of_getElem? (i := 61) rfl)
theorem ow63 {a0 : Array Value} {Z : State} (hw : ∀ d ∈ tables_1, d.before a0 Z = true) : (Jvm.Cond.fieldLink "java/lang/Throwable" (20 : Nat) "java/lang/Throwable" "SUPPRESSED_SENTINEL" "Ljava/util/List;").before a0 Z = true := hw _ (List.mem_of_getElem? (i := 63) rfl)
theorem ow65 {a0 : Array Value} {Z : State} (hw : ∀ d ∈ tables_1, d.before a0 Z = true) : (Jvm.Cond.lays "com/example/tallykeep/tallykeep/core/LedgerException" "java/lang/Throwable" "suppressedExceptions" "Ljava/util/List;").before a0 Z = true := hw _ (List.mem_of_getElem? (i := 65) rfl)
theorem ow64 {a0 : Array Value} {Z : State} (hw : ∀ d ∈ tables_1, d.before a0 Z = true) : (Jvm.Cond.fieldLink "java/lang/Throwable" (24 : Nat) "java/lang/Throwable" "suppressedExceptions" "Ljava/util/List;").before a0 Z = true := hw _ (List.mem_of_getElem? (i := 64) rfl)
theorem ow90 {a0 : Array Value} {Z : State} (hw : ∀ d ∈ tables_1, d.before a0 Z = true) : (Jvm.Cond.lays "com/example/tallykeep/tallykeep/core/LedgerException" "java/lang/Throwable" "backtrace" "Ljava/lang/Object;").before a0 Z = true := hw _ (List.mem_of_getElem? (i := 90) rfl)
theorem ow95 {a0 : Array Value} {Z : State} (hw : ∀ d ∈ tables_1, d.before a0 Z = true) : (Jvm.Cond.laysFinal "com/example/tallykeep/tallykeep/core/LedgerException" "com/example/tallykeep/tallykeep/core/LedgerException" "kind" "Lcom/example/tallykeep/tallykeep/core/LedgerException$Kind;").before a0 Z = true := hw _ (List.mem_of_getElem? (i := 95) rfl)
theorem ow89 {a0 : Array Value} {Z : State} (hw : ∀ d ∈ tables_1, d.before a0 Z = true) : (Jvm.Cond.lays "com/example/tallykeep/tallykeep/core/LedgerException" "java/lang/Throwable" "detailMessage" "Ljava/lang/String;").before a0 Z = true := hw _ (List.mem_of_getElem? (i := 89) rfl)
theorem ow91 {a0 : Array Value} {Z : State} (hw : ∀ d ∈ tables_1, d.before a0 Z = true) : (Jvm.Cond.lays "com/example/tallykeep/tallykeep/core/LedgerException" "java/lang/Throwable" "depth" "I").before a0 Z = true := hw _ (List.mem_of_getElem? (i := 91) rfl)
theorem ow93 {a0 : Array Value} {Z : State} (hw : ∀ d ∈ tables_1, d.before a0 Z = true) : (Jvm.Cond.fieldLink "java/lang/Throwable" (31 : Nat) "java/lang/Throwable" "detailMessage" "Ljava/lang/String;").before a0 Z = true := hw _ (List.mem_of_getElem? (i := 93) rfl)
theorem ow51 {a0 : Array Value} {Z : State} (hw : ∀ d ∈ tables_1, d.before a0 Z = true) : (Jvm.Cond.methodLink "java/lang/Exception" (7 : Nat) ({ cls := "java/lang/Throwable", name := "<init>", desc := "(Ljava/lang/String;)V" } : Jvm.MethodName)).before a0 Z = true := hw _ (List.mem_of_getElem? (i := 51) rfl)
theorem ow55 {a0 : Array Value} {Z : State} (hw : ∀ d ∈ tables_1, d.before a0 Z = true) : (Jvm.Cond.initialized "java/lang/Throwable").before a0 Z = true := hw _ (List.mem_of_getElem? (i := 55) rfl)
theorem ow56 {a0 : Array Value} {Z : State} (hw : ∀ d ∈ tables_1, d.before a0 Z = true) : (Jvm.Cond.code ({ cls := "java/lang/Throwable", name := "<init>", desc := "(Ljava/lang/String;)V" } : Jvm.MethodName) jdk_78_method_2_code (2 : Nat) (Option.none : Option Jvm.ClassFile.FieldType)).before a0 Z = true := hw _ (List.mem_of_getElem? (i := 56) rfl)
theorem ow52 {a0 : Array Value} {Z : State} (hw : ∀ d ∈ tables_1, d.before a0 Z = true) : (Jvm.Cond.instanceMethod ({ cls := "java/lang/Throwable", name := "<init>", desc := "(Ljava/lang/String;)V" } : Jvm.MethodName)).before a0 Z = true := hw _ (List.mem_of_getElem? (i := 52) rfl)
theorem ow46 {a0 : Array Value} {Z : State} (hw : ∀ d ∈ tables_1, d.before a0 Z = true) : (Jvm.Cond.methodLink "com/example/tallykeep/tallykeep/core/LedgerException" (1 : Nat) ({ cls := "java/lang/Exception", name := "<init>", desc := "(Ljava/lang/String;)V" } : Jvm.MethodName)).before a0 Z = true := hw _ (List.mem_of_getElem? (i := 46) rfl)
theorem ow49 {a0 : Array Value} {Z : State} (hw : ∀ d ∈ tables_1, d.before a0 Z = true) : (Jvm.Cond.initialized "java/lang/Exception").before a0 Z = true := hw _ (List.mem_of_getElem? (i := 49) rfl)
theorem ow50 {a0 : Array Value} {Z : State} (hw : ∀ d ∈ tables_1, d.before a0 Z = true) : (Jvm.Cond.code ({ cls := "java/lang/Exception", name := "<init>", desc := "(Ljava/lang/String;)V" } : Jvm.MethodName) jdk_59_method_2_code (2 : Nat) (Option.none : Option Jvm.ClassFile.FieldType)).before a0 Z = true := hw _ (List.mem_of_getElem? (i := 50) rfl)
theorem ow47 {a0 : Array Value} {Z : State} (hw : ∀ d ∈ tables_1, d.before a0 Z = true) : (Jvm.Cond.instanceMethod ({ cls := "java/lang/Exception", name := "<init>", desc := "(Ljava/lang/String;)V" } : Jvm.MethodName)).before a0 Z = true := hw _ (List.mem_of_getElem? (i := 47) rfl)
theorem ow94 {a0 : Array Value} {Z : State} (hw : ∀ d ∈ tables_1, d.before a0 Z = true) : (Jvm.Cond.fieldLink "com/example/tallykeep/tallykeep/core/LedgerException" (7 : Nat) "com/example/tallykeep/tallykeep/core/LedgerException" "kind" "Lcom/example/tallykeep/tallykeep/core/LedgerException$Kind;").before a0 Z = true := hw _ (List.mem_of_getElem? (i := 94) rfl)
theorem ow36 {a0 : Array Value} {Z : State} (hw : ∀ d ∈ tables_1, d.before a0 Z = true) : (Jvm.Cond.initialized "com/example/tallykeep/tallykeep/core/LedgerException").before a0 Z = true := hw _ (List.mem_of_getElem? (i := 36) rfl)
theorem ow38 {a0 : Array Value} {Z : State} (hw : ∀ d ∈ tables_1, d.before a0 Z = true) : (Jvm.Cond.classLink "com/example/tallykeep/tallykeep/core/LedgerException" (8 : Nat) "com/example/tallykeep/tallykeep/core/LedgerException").before a0 Z = true := hw _ (List.mem_of_getElem? (i := 38) rfl)
theorem ow40 {a0 : Array Value} {Z : State} (hw : ∀ d ∈ tables_1, d.before a0 Z = true) : (Jvm.Cond.fieldLink "com/example/tallykeep/tallykeep/core/LedgerException" (21 : Nat) "com/example/tallykeep/tallykeep/core/LedgerException$Kind" "CONFLICT" "Lcom/example/tallykeep/tallykeep/core/LedgerException$Kind;").before a0 Z = true := hw _ (List.mem_of_getElem? (i := 40) rfl)
theorem ow43 {a0 : Array Value} {Z : State} (hw : ∀ d ∈ tables_1, d.before a0 Z = true) : (Jvm.Cond.methodLink "com/example/tallykeep/tallykeep/core/LedgerException" (18 : Nat) ({ cls := "com/example/tallykeep/tallykeep/core/LedgerException", name := "<init>", desc := "(Lcom/example/tallykeep/tallykeep/core/LedgerException$Kind;Ljava/lang/String;)V" } : Jvm.MethodName)).before a0 Z = true := hw _ (List.mem_of_getElem? (i := 43) rfl)
theorem ow45 {a0 : Array Value} {Z : State} (hw : ∀ d ∈ tables_1, d.before a0 Z = true) : (Jvm.Cond.code ({ cls := "com/example/tallykeep/tallykeep/core/LedgerException", name := "<init>", desc := "(Lcom/example/tallykeep/tallykeep/core/LedgerException$Kind;Ljava/lang/String;)V" } : Jvm.MethodName) prog_16_method_1_code (3 : Nat) (Option.none : Option Jvm.ClassFile.FieldType)).before a0 Z = true := hw _ (List.mem_of_getElem? (i := 45) rfl)
theorem ow44 {a0 : Array Value} {Z : State} (hw : ∀ d ∈ tables_1, d.before a0 Z = true) : (Jvm.Cond.instanceMethod ({ cls := "com/example/tallykeep/tallykeep/core/LedgerException", name := "<init>", desc := "(Lcom/example/tallykeep/tallykeep/core/LedgerException$Kind;Ljava/lang/String;)V" } : Jvm.MethodName)).before a0 Z = true := hw _ (List.mem_of_getElem? (i := 44) rfl)
theorem ow0 {a0 : Array Value} {Z : State} (hw : ∀ d ∈ tables_1, d.before a0 Z = true) : (Jvm.Cond.methodLink "com/example/tallykeep/tallykeep/core/LedgerExceptionConflictPinLaw" (7 : Nat) ({ cls := "com/example/tallykeep/tallykeep/core/LedgerExceptionConflictPinLaw", name := "make", desc := "(IIII)Ljava/lang/String;" } : Jvm.MethodName)).before a0 Z = true := hw _ (List.mem_of_getElem? (i := 0) rfl)
theorem ow2 {a0 : Array Value} {Z : State} (hw : ∀ d ∈ tables_1, d.before a0 Z = true) : (Jvm.Cond.initialized "com/example/tallykeep/tallykeep/core/LedgerExceptionConflictPinLaw").before a0 Z = true := hw _ (List.mem_of_getElem? (i := 2) rfl)
theorem ow3 {a0 : Array Value} {Z : State} (hw : ∀ d ∈ tables_1, d.before a0 Z = true) : (Jvm.Cond.code ({ cls := "com/example/tallykeep/tallykeep/core/LedgerExceptionConflictPinLaw", name := "make", desc := "(IIII)Ljava/lang/String;" } : Jvm.MethodName) method_3_code (8 : Nat) (Option.some (Jvm.ClassFile.FieldType.object "java/lang/String"))).before a0 Z = true := hw _ (List.mem_of_getElem? (i := 3) rfl)
theorem ow1 {a0 : Array Value} {Z : State} (hw : ∀ d ∈ tables_1, d.before a0 Z = true) : (Jvm.Cond.static ({ cls := "com/example/tallykeep/tallykeep/core/LedgerExceptionConflictPinLaw", name := "make", desc := "(IIII)Ljava/lang/String;" } : Jvm.MethodName)).before a0 Z = true := hw _ (List.mem_of_getElem? (i := 1) rfl)
theorem ow34 {a0 : Array Value} {Z : State} (hw : ∀ d ∈ tables_1, d.before a0 Z = true) : (Jvm.Cond.methodLink "com/example/tallykeep/tallykeep/core/LedgerExceptionConflictPinLaw" (13 : Nat) ({ cls := "com/example/tallykeep/tallykeep/core/LedgerException", name := "conflict", desc := "(Ljava/lang/String;)Lcom/example/tallykeep/tallykeep/core/LedgerException;" } : Jvm.MethodName)).before a0 Z = true := hw _ (List.mem_of_getElem? (i := 34) rfl)
theorem ow37 {a0 : Array Value} {Z : State} (hw : ∀ d ∈ tables_1, d.before a0 Z = true) : (Jvm.Cond.code ({ cls := "com/example/tallykeep/tallykeep/core/LedgerException", name := "conflict", desc := "(Ljava/lang/String;)Lcom/example/tallykeep/tallykeep/core/LedgerException;" } : Jvm.MethodName) prog_16_method_3_code (1 : Nat) (Option.some (Jvm.ClassFile.FieldType.object "com/example/tallykeep/tallykeep/core/LedgerException"))).before a0 Z = true := hw _ (List.mem_of_getElem? (i := 37) rfl)
theorem ow35 {a0 : Array Value} {Z : State} (hw : ∀ d ∈ tables_1, d.before a0 Z = true) : (Jvm.Cond.static ({ cls := "com/example/tallykeep/tallykeep/core/LedgerException", name := "conflict", desc := "(Ljava/lang/String;)Lcom/example/tallykeep/tallykeep/core/LedgerException;" } : Jvm.MethodName)).before a0 Z = true := hw _ (List.mem_of_getElem? (i := 35) rfl)
theorem ow100 {a0 : Array Value} {Z : State} (hw : ∀ d ∈ tables_1, d.before a0 Z = true) : (Jvm.Cond.code ({ cls := "com/example/tallykeep/tallykeep/core/LedgerException", name := "kind", desc := "()Lcom/example/tallykeep/tallykeep/core/LedgerException$Kind;" } : Jvm.MethodName) prog_16_method_4_code (1 : Nat) (Option.some (Jvm.ClassFile.FieldType.object "com/example/tallykeep/tallykeep/core/LedgerException$Kind"))).before a0 Z = true := hw _ (List.mem_of_getElem? (i := 100) rfl)
theorem ow96 {a0 : Array Value} {Z : State} (hw : ∀ d ∈ tables_1, d.before a0 Z = true) : (Jvm.Cond.methodLink "com/example/tallykeep/tallykeep/core/LedgerExceptionConflictPinLaw" (19 : Nat) ({ cls := "com/example/tallykeep/tallykeep/core/LedgerException", name := "kind", desc := "()Lcom/example/tallykeep/tallykeep/core/LedgerException$Kind;" } : Jvm.MethodName)).before a0 Z = true := hw _ (List.mem_of_getElem? (i := 96) rfl)
theorem ow97 {a0 : Array Value} {Z : State} (hw : ∀ d ∈ tables_1, d.before a0 Z = true) : (Jvm.Cond.declares ({ cls := "com/example/tallykeep/tallykeep/core/LedgerException", name := "kind", desc := "()Lcom/example/tallykeep/tallykeep/core/LedgerException$Kind;" } : Jvm.MethodName)).before a0 Z = true := hw _ (List.mem_of_getElem? (i := 97) rfl)
theorem ow99 {a0 : Array Value} {Z : State} (hw : ∀ d ∈ tables_1, d.before a0 Z = true) : (Jvm.Cond.selects "com/example/tallykeep/tallykeep/core/LedgerException" ({ cls := "com/example/tallykeep/tallykeep/core/LedgerException", name := "kind", desc := "()Lcom/example/tallykeep/tallykeep/core/LedgerException$Kind;" } : Jvm.MethodName) ({ cls := "com/example/tallykeep/tallykeep/core/LedgerException", name := "kind", desc := "()Lcom/example/tallykeep/tallykeep/core/LedgerException$Kind;" } : Jvm.MethodName)).before a0 Z = true := hw _ (List.mem_of_getElem? (i := 99) rfl)
theorem ow98 {a0 : Array Value} {Z : State} (hw : ∀ d ∈ tables_1, d.before a0 Z = true) : (Jvm.Cond.instanceMethod ({ cls := "com/example/tallykeep/tallykeep/core/LedgerException", name := "kind", desc := "()Lcom/example/tallykeep/tallykeep/core/LedgerException$Kind;" } : Jvm.MethodName)).before a0 Z = true := hw _ (List.mem_of_getElem? (i := 98) rfl)
theorem ow101 {a0 : Array Value} {Z : State} (hw : ∀ d ∈ tables_1, d.before a0 Z = true) : (Jvm.Cond.fieldLink "com/example/tallykeep/tallykeep/core/LedgerExceptionConflictPinLaw" (23 : Nat) "com/example/tallykeep/tallykeep/core/LedgerException$Kind" "CONFLICT" "Lcom/example/tallykeep/tallykeep/core/LedgerException$Kind;").before a0 Z = true := hw _ (List.mem_of_getElem? (i := 101) rfl)
theorem ow107 {a0 : Array Value} {Z : State} (hw : ∀ d ∈ tables_1, d.before a0 Z = true) : (Jvm.Cond.code ({ cls := "java/lang/Throwable", name := "getMessage", desc := "()Ljava/lang/String;" } : Jvm.MethodName) jdk_78_method_6_code (1 : Nat) (Option.some (Jvm.ClassFile.FieldType.object "java/lang/String"))).before a0 Z = true := hw _ (List.mem_of_getElem? (i := 107) rfl)
theorem ow102 {a0 : Array Value} {Z : State} (hw : ∀ d ∈ tables_1, d.before a0 Z = true) : (Jvm.Cond.methodLink "com/example/tallykeep/tallykeep/core/LedgerExceptionConflictPinLaw" (29 : Nat) ({ cls := "com/example/tallykeep/tallykeep/core/LedgerException", name := "getMessage", desc := "()Ljava/lang/String;" } : Jvm.MethodName)).before a0 Z = true := hw _ (List.mem_of_getElem? (i := 102) rfl)
theorem ow103 {a0 : Array Value} {Z : State} (hw : ∀ d ∈ tables_1, d.before a0 Z = true) : (Jvm.Cond.sameMethod "com/example/tallykeep/tallykeep/core/LedgerException" "java/lang/Throwable" "getMessage" "()Ljava/lang/String;").before a0 Z = true := hw _ (List.mem_of_getElem? (i := 103) rfl)
theorem ow104 {a0 : Array Value} {Z : State} (hw : ∀ d ∈ tables_1, d.before a0 Z = true) : (Jvm.Cond.declares ({ cls := "java/lang/Throwable", name := "getMessage", desc := "()Ljava/lang/String;" } : Jvm.MethodName)).before a0 Z = true := hw _ (List.mem_of_getElem? (i := 104) rfl)
theorem ow106 {a0 : Array Value} {Z : State} (hw : ∀ d ∈ tables_1, d.before a0 Z = true) : (Jvm.Cond.selects "com/example/tallykeep/tallykeep/core/LedgerException" ({ cls := "com/example/tallykeep/tallykeep/core/LedgerException", name := "getMessage", desc := "()Ljava/lang/String;" } : Jvm.MethodName) ({ cls := "java/lang/Throwable", name := "getMessage", desc := "()Ljava/lang/String;" } : Jvm.MethodName)).before a0 Z = true := hw _ (List.mem_of_getElem? (i := 106) rfl)
theorem ow105 {a0 : Array Value} {Z : State} (hw : ∀ d ∈ tables_1, d.before a0 Z = true) : (Jvm.Cond.instanceMethod ({ cls := "java/lang/Throwable", name := "getMessage", desc := "()Ljava/lang/String;" } : Jvm.MethodName)).before a0 Z = true := hw _ (List.mem_of_getElem? (i := 105) rfl)
theorem ow112 {a0 : Array Value} {Z : State} (hw : ∀ d ∈ tables_1, d.before a0 Z = true) : (Jvm.Cond.code ({ cls := "java/lang/String", name := "equals", desc := "(Ljava/lang/Object;)Z" } : Jvm.MethodName) jdk_42_method_66_code (3 : Nat) (Option.some Jvm.ClassFile.FieldType.boolean)).before a0 Z = true := hw _ (List.mem_of_getElem? (i := 112) rfl)
theorem ow108 {a0 : Array Value} {Z : State} (hw : ∀ d ∈ tables_1, d.before a0 Z = true) : (Jvm.Cond.methodLink "com/example/tallykeep/tallykeep/core/LedgerExceptionConflictPinLaw" (33 : Nat) ({ cls := "java/lang/String", name := "equals", desc := "(Ljava/lang/Object;)Z" } : Jvm.MethodName)).before a0 Z = true := hw _ (List.mem_of_getElem? (i := 108) rfl)
theorem ow109 {a0 : Array Value} {Z : State} (hw : ∀ d ∈ tables_1, d.before a0 Z = true) : (Jvm.Cond.declares ({ cls := "java/lang/String", name := "equals", desc := "(Ljava/lang/Object;)Z" } : Jvm.MethodName)).before a0 Z = true := hw _ (List.mem_of_getElem? (i := 109) rfl)
theorem ow111 {a0 : Array Value} {Z : State} (hw : ∀ d ∈ tables_1, d.before a0 Z = true) : (Jvm.Cond.selects "java/lang/String" ({ cls := "java/lang/String", name := "equals", desc := "(Ljava/lang/Object;)Z" } : Jvm.MethodName) ({ cls := "java/lang/String", name := "equals", desc := "(Ljava/lang/Object;)Z" } : Jvm.MethodName)).before a0 Z = true := hw _ (List.mem_of_getElem? (i := 111) rfl)
theorem ow110 {a0 : Array Value} {Z : State} (hw : ∀ d ∈ tables_1, d.before a0 Z = true) : (Jvm.Cond.instanceMethod ({ cls := "java/lang/String", name := "equals", desc := "(Ljava/lang/Object;)Z" } : Jvm.MethodName)).before a0 Z = true := hw _ (List.mem_of_getElem? (i := 110) rfl)
theorem ow41 {a0 : Array Value} {Z : State} (hw : ∀ d ∈ tables_1, d.before a0 Z = true) : (Jvm.Cond.initialized "com/example/tallykeep/tallykeep/core/LedgerException$Kind").before a0 Z = true := hw _ (List.mem_of_getElem? (i := 41) rfl)
theorem ow42 {a0 : Array Value} {Z : State} (hw : ∀ d ∈ tables_1, d.before a0 Z = true) : (Jvm.Cond.laysStatic "com/example/tallykeep/tallykeep/core/LedgerException$Kind" "CONFLICT" "Lcom/example/tallykeep/tallykeep/core/LedgerException$Kind;").before a0 Z = true := hw _ (List.mem_of_getElem? (i := 42) rfl)

open Jvm.Free.Exc in
theorem excN {a0 : Array Value} {Z : State} (hw : ∀ d ∈ tables_1, d.before a0 Z = true) : ∀ d ∈ excAtoms "com/example/tallykeep/tallykeep/core/LedgerException", d ≠ noW → d.before a0 Z = true := fun d hd hn => hw d ((by decide +kernel : ∀ d ∈ excAtoms "com/example/tallykeep/tallykeep/core/LedgerException", d ≠ noW → d ∈ tables_1) d hd hn)
theorem opn0 : plainName "java/lang/String" = true := by first | (simp [plainName, overriddenIn]; done) | decide +kernel
theorem d3_0 : decode jdk_42_method_149_code 0 = .ok (.aload_n 0, 1) := by decide +kernel
theorem d3_1 : decode jdk_42_method_149_code 1 = .ok (.invokespecial 1, 3) := by decide +kernel
theorem d3_4 : decode jdk_42_method_149_code 4 = .ok (.iload_n 3, 1) := by decide +kernel
theorem d3_5 : decode jdk_42_method_149_code 5 = .ok (.ifCond .ne 22, 3) := by decide +kernel
theorem d3_8 : decode jdk_42_method_149_code 8 = .ok (.aload_n 0, 1) := by decide +kernel
theorem d3_9 : decode jdk_42_method_149_code 9 = .ok (.ldc 7, 2) := by decide +kernel
theorem d3_11 : decode jdk_42_method_149_code 11 = .ok (.getfield 9, 3) := by decide +kernel
theorem d3_14 : decode jdk_42_method_149_code 14 = .ok (.putfield 9, 3) := by decide +kernel
theorem d3_17 : decode jdk_42_method_149_code 17 = .ok (.aload_n 0, 1) := by decide +kernel
theorem d3_18 : decode jdk_42_method_149_code 18 = .ok (.ldc 7, 2) := by decide +kernel
theorem d3_20 : decode jdk_42_method_149_code 20 = .ok (.getfield 15, 3) := by decide +kernel
theorem d3_23 : decode jdk_42_method_149_code 23 = .ok (.putfield 15, 3) := by decide +kernel
theorem d3_26 : decode jdk_42_method_149_code 26 = .ok (.return_, 1) := by decide +kernel
theorem oef_orm_new4E (m_ : MethodId) (a : Addr) (b : Addr)  : (entryFrame m_ #[(.ref a), (.ref b), (.int (0 : Int32)), (.int (0 : Int32)), .null] 6).locals = #[.val (.ref a), .val (.ref b), .val (.int (0 : Int32)), .val (.int (0 : Int32)), .val .null, .unset] := by first | (simp [entryFrame, argsToLocals, Value.category]; done) | rfl
set_option maxRecDepth 65536 in
set_option maxHeartbeats 40000000 in
theorem orm_new4E (l : Launch) (Z : State) (a0 : Array Value) (hw : ∀ d ∈ tables_1, d.before a0 Z = true) (hE : EW Z a0 consts_1) (a : Addr) (b : Addr) (h : Heap) (hO : Old Z Z.heap.size h) (qE : Exa Z h a "java/lang/String") (qV : Fld Z h a "java/lang/String" "value" "[B" .null) (qC : Fld Z h a "java/lang/String" "coder" "B" (.int (0 : Int32))) (ge_a : Z.heap.size ≤ a) :
    Ct l Z consts_1 (⟨"java/lang/String", "<init>", "([CIILjava/lang/Void;)V"⟩ : MethodName) jdk_42_method_149_code 6 (Option.none : Option Jvm.ClassFile.FieldType) ⟨1, 4, 8, 15⟩ #[(.ref a), (.ref b), (.int (0 : Int32)), (.int (0 : Int32)), .null] h [a] (fun rv' hp' so' => ∃ t : Addr, ∃ kb : ClassId, rv' = none ∧ so' = [] ∧ Exa Z hp' a "java/lang/String" ∧ Fld Z hp' a "java/lang/String" "coder" "B" (.int (0 : Int32)) ∧ Fld Z hp' a "java/lang/String" "value" "[B" (.ref t) ∧ Arv Z hp' t kb .byte (0 : Int32) [] (.int 0)) := by
  refine Ct.mk "java/lang/String" "<init>" rfl rfl (a0 := a0) (plainFor_of_name opn0) hO hE (fun x q => by simp at q; subst q; exact ge_a) ?_
  intro K T W
  rw [oef_orm_new4E]
  refine gAloadN W d3_0 rfl rfl rfl ?_
  refine wInitO W d3_1 (ow15 hw) (ow16 hw) (ow17 hw) rfl (by decide) 0 (Nat.le_of_eq rfl) (by decide) rfl fun T1 W2 => ?_
  refine gIloadN W2 d3_4 rfl rfl ?_
  refine gIfNo W2 d3_5 ((if0 _ _).trans (teq rfl).2) rfl ?_
  refine gAloadN W2 d3_8 rfl rfl rfl ?_
  refine wLdcS (vs := []) (z := 0) (n := 0) W2 d3_9 (ow113 hw) (owS hw) hE (by decide) (by decide) (by decide) (by decide) (by decide) (by decide) (by decide) (by decide) rfl fun T3 h5 a6 t7 k8 W4 E9 A10 f11 f12 f13 ne14 => ?_
  refine wGetF W4 d3_11 (ow32 hw) Via.refl f12 rfl fun T15 W16 => ?_
  have f17 := qV.ext E9
  have f18 := qE.ext E9
  refine wPutF (ty := .array .byte) W16 d3_14 (ow32 hw) Via.refl (by simp) f17 f18 (Or.inr ⟨(ow33 hw), rfl, rfl⟩) (ow6 hw) (by decide) rfl rfl rfl fun T19 h21 W20 wr22 => ?_
  have f23 := Fld.same wr22 f17
  refine gAloadN W20 d3_17 rfl rfl rfl ?_
  refine wLdcS (vs := []) (z := 0) (n := 0) W20 d3_18 (ow113 hw) (owS hw) hE (by decide) (by decide) (by decide) (by decide) (by decide) (by decide) (by decide) (by decide) rfl fun T24 h26 a27 t28 k29 W25 E30 A31 f32 f33 f34 ne35 => ?_
  refine wGetF W25 d3_20 (ow30 hw) Via.refl f32 rfl fun T36 W37 => ?_
  have f38 := qC.ext E9
  have f39 := f38.other wr22 (Or.inr (slot_ne (t := .byte) (t' := .array .byte) (Or.inr (ow31 hw)) (Or.inr (ow33 hw)) (by decide) (by decide) (by decide)))
  have f40 := f39.ext E30
  have f41 := f18.wr wr22
  have f42 := f41.ext E30
  refine wPutF (ty := .byte) W37 d3_23 (ow30 hw) Via.refl (by simp) f40 f42 (Or.inr ⟨(ow31 hw), rfl, rfl⟩) (ow6 hw) (by decide) rfl (by decide) rfl fun T43 h45 W44 wr46 => ?_
  have f47 := Fld.same wr46 f40
  have f48 := f42.wr wr46
  have f49 := f23.ext E30
  have f50 := f49.other wr46 (Or.inr (slot_ne (t := .array .byte) (t' := .byte) (Or.inr (ow33 hw)) (Or.inr (ow31 hw)) (by decide) (by decide) (by decide)))
  have f51 := f13.other wr22 (Ne.symm (ne14 a (by simp)).2)
  have f52 := f51.ext E30
  have f53 := f52.other wr46 (Ne.symm (ne14 a (by simp)).2)
  exact wRet0 (so := []) W44 d3_26 (by decide) (by decide) (fun _ q => nomatch q) ⟨t7, k8, rfl, rfl, f48, f47, f50, f53⟩
theorem d2_0 : decode jdk_42_method_3_code 0 = .ok (.aload_n 0, 1) := by decide +kernel
theorem d2_1 : decode jdk_42_method_3_code 1 = .ok (.aload_n 1, 1) := by decide +kernel
theorem d2_2 : decode jdk_42_method_3_code 2 = .ok (.iconst 0, 1) := by decide +kernel
theorem d2_3 : decode jdk_42_method_3_code 3 = .ok (.aload_n 1, 1) := by decide +kernel
theorem d2_4 : decode jdk_42_method_3_code 4 = .ok (.arraylength, 1) := by decide +kernel
theorem d2_5 : decode jdk_42_method_3_code 5 = .ok (.aconst_null, 1) := by decide +kernel
theorem d2_6 : decode jdk_42_method_3_code 6 = .ok (.invokespecial 27, 3) := by decide +kernel
theorem opd0 : parseMethodDescriptor "([CIILjava/lang/Void;)V" = some ⟨[.array .char, .int, .int, .object "java/lang/Void"], none⟩ := by decide +kernel
theorem d2_9 : decode jdk_42_method_3_code 9 = .ok (.return_, 1) := by decide +kernel
theorem oef_orm_new1E (m_ : MethodId) (a : Addr) (b : Addr)  : (entryFrame m_ #[(.ref a), (.ref b)] 2).locals = #[.val (.ref a), .val (.ref b)] := by first | (simp [entryFrame, argsToLocals, Value.category]; done) | rfl
set_option maxRecDepth 65536 in
set_option maxHeartbeats 40000000 in
theorem orm_new1E (l : Launch) (Z : State) (a0 : Array Value) (hw : ∀ d ∈ tables_1, d.before a0 Z = true) (hE : EW Z a0 consts_1) (a : Addr) (b : Addr) (kC : ClassId) (h : Heap) (hO : Old Z Z.heap.size h) (qE : Exa Z h a "java/lang/String") (qV : Fld Z h a "java/lang/String" "value" "[B" .null) (qC : Fld Z h a "java/lang/String" "coder" "B" (.int (0 : Int32))) (qA : Arv Z h b kC .char (0 : Int32) [] (.int 0)) (ge_a : Z.heap.size ≤ a) :
    Ct l Z consts_1 (⟨"java/lang/String", "<init>", "([C)V"⟩ : MethodName) jdk_42_method_3_code 2 (Option.none : Option Jvm.ClassFile.FieldType) ⟨2, 4, 8, 32⟩ #[(.ref a), (.ref b)] h [a] (fun rv' hp' so' => ∃ t : Addr, ∃ kb : ClassId, rv' = none ∧ so' = [] ∧ Exa Z hp' a "java/lang/String" ∧ Fld Z hp' a "java/lang/String" "coder" "B" (.int (0 : Int32)) ∧ Fld Z hp' a "java/lang/String" "value" "[B" (.ref t) ∧ Arv Z hp' t kb .byte (0 : Int32) [] (.int 0)) := by
  refine Ct.mk "java/lang/String" "<init>" rfl rfl (a0 := a0) (plainFor_of_name opn0) hO hE (fun x q => by simp at q; subst q; exact ge_a) ?_
  intro K T W
  rw [oef_orm_new1E]
  refine gAloadN W d2_0 rfl rfl rfl ?_
  refine gAloadN W d2_1 rfl rfl rfl ?_
  refine gIconst (z := (0 : Int32)) W d2_2 rfl rfl ?_
  refine gAloadN W d2_3 rfl rfl rfl ?_
  refine wLen W d2_4 qA rfl ?_
  refine gAconstNull W d2_5 rfl ?_
  refine wSpecial (y := (⟨"java/lang/String", "<init>", "([CIILjava/lang/Void;)V"⟩ : MethodName)) (Wd := 0) (a := a) (argsL := [(.ref b), (.int (0 : Int32)), (.int (0 : Int32)), .null]) (rest := []) W d2_6 rfl (ow11 hw) (ow12 hw) (ow14 hw) (by decide) (Cb.ct (orm_new4E l Z a0 hw hE (a) (b) h W.old qE qV qC ge_a) (ow14 hw) (ow7 hw) hE (by decide) (by decide)) (by simp) rfl (lenOf opd0 rfl) rfl (Nat.le_of_eq rfl) (by decide) (by decide) rfl fun v58 so59 T54 h56 W55 kp57 sp60 q61 => ?_
  obtain ⟨t62, kb63, rfl, rfl, f64, f65, f66, f67⟩ := q61
  show Go K _ T54 9 #[.val (.ref a), .val (.ref b)] []
  exact wRet0 (so := []) W55 d2_9 (by decide) (by decide) (fun _ q => nomatch q) ⟨t62, kb63, rfl, rfl, f64, f65, f66, f67⟩
theorem d15_0 : decode jdk_42_method_66_code 0 = .ok (.aload_n 0, 1) := by decide +kernel
theorem d15_1 : decode jdk_42_method_66_code 1 = .ok (.aload_n 1, 1) := by decide +kernel
theorem d15_2 : decode jdk_42_method_66_code 2 = .ok (.if_acmp .ne 5, 3) := by decide +kernel
theorem d15_5 : decode jdk_42_method_66_code 5 = .ok (.iconst 1, 1) := by decide +kernel
theorem d15_6 : decode jdk_42_method_66_code 6 = .ok (.ireturn, 1) := by decide +kernel
theorem oef_orm_eqSame (m_ : MethodId) (a : Addr)  : (entryFrame m_ #[(.ref a), (.ref a)] 3).locals = #[.val (.ref a), .val (.ref a), .unset] := by first | (simp [entryFrame, argsToLocals, Value.category]; done) | rfl
set_option maxRecDepth 65536 in
set_option maxHeartbeats 40000000 in
theorem orm_eqSame (l : Launch) (Z : State) (a0 : Array Value) (hw : ∀ d ∈ tables_1, d.before a0 Z = true) (hE : EW Z a0 consts_1) (a : Addr) (h : Heap) (hO : Old Z Z.heap.size h)   :
    Ct l Z consts_1 (⟨"java/lang/String", "equals", "(Ljava/lang/Object;)Z"⟩ : MethodName) jdk_42_method_66_code 3 (Option.some Jvm.ClassFile.FieldType.boolean) ⟨0, 0, 0, 0⟩ #[(.ref a), (.ref a)] h [] (fun rv' hp' so' => rv' = some (.int (1 : Int32)) ∧ so' = []) := by
  refine Ct.mk "java/lang/String" "equals" rfl rfl (a0 := a0) (plainFor_of_name opn0) hO hE (fun x q => nomatch q) ?_
  intro K T W
  rw [oef_orm_eqSame]
  refine gAloadN W d15_0 rfl rfl rfl ?_
  refine gAloadN W d15_1 rfl rfl rfl ?_
  refine gAcmp (pc' := 5) (same := true) W d15_2 rfl rfl (decide_eq_true rfl) (by decide) rfl ?_
  refine gIconst (z := (1 : Int32)) W d15_5 rfl rfl ?_
  exact wRetI (so := []) (t := .boolean) W d15_6 (by simp) rfl (by decide) (by decide) (fun _ q => nomatch q) ⟨rfl, rfl⟩
theorem opn1 : plainName "com/example/tallykeep/tallykeep/core/LedgerExceptionConflictPinLaw" = true := by first | (simp [plainName, overriddenIn]; done) | decide +kernel
theorem d1_0 : decode method_3_code 0 = .ok (.iload_n 1, 1) := by decide +kernel
theorem d1_1 : decode method_3_code 1 = .ok (.sipush 255, 3) := by decide +kernel
theorem d1_4 : decode method_3_code 4 = .ok (.iand, 1) := by decide +kernel
theorem d1_5 : decode method_3_code 5 = .ok (.i2c, 1) := by decide +kernel
theorem d1_6 : decode method_3_code 6 = .ok (.istore 4, 2) := by decide +kernel
theorem d1_8 : decode method_3_code 8 = .ok (.iload_n 2, 1) := by decide +kernel
theorem d1_9 : decode method_3_code 9 = .ok (.sipush 255, 3) := by decide +kernel
theorem d1_12 : decode method_3_code 12 = .ok (.iand, 1) := by decide +kernel
theorem d1_13 : decode method_3_code 13 = .ok (.i2c, 1) := by decide +kernel
theorem d1_14 : decode method_3_code 14 = .ok (.istore 5, 2) := by decide +kernel
theorem d1_16 : decode method_3_code 16 = .ok (.iload_n 3, 1) := by decide +kernel
theorem d1_17 : decode method_3_code 17 = .ok (.sipush 255, 3) := by decide +kernel
theorem d1_20 : decode method_3_code 20 = .ok (.iand, 1) := by decide +kernel
theorem d1_21 : decode method_3_code 21 = .ok (.i2c, 1) := by decide +kernel
theorem d1_22 : decode method_3_code 22 = .ok (.istore 6, 2) := by decide +kernel
theorem d1_24 : decode method_3_code 24 = .ok (.iload_n 0, 1) := by decide +kernel
theorem d1_25 : decode method_3_code 25 = .ok (.ifCond .ne 14, 3) := by decide +kernel
theorem d1_28 : decode method_3_code 28 = .ok (.new 34, 3) := by decide +kernel
theorem d1_31 : decode method_3_code 31 = .ok (.dup, 1) := by decide +kernel
theorem d1_32 : decode method_3_code 32 = .ok (.iconst 0, 1) := by decide +kernel
theorem d1_33 : decode method_3_code 33 = .ok (.newarray .char, 2) := by decide +kernel
theorem d1_35 : decode method_3_code 35 = .ok (.invokespecial 39, 3) := by decide +kernel
theorem opd1 : parseMethodDescriptor "([C)V" = some ⟨[.array .char], none⟩ := by decide +kernel
theorem d1_38 : decode method_3_code 38 = .ok (.areturn, 1) := by decide +kernel
theorem d1_39 : decode method_3_code 39 = .ok (.iload_n 0, 1) := by decide +kernel
theorem d1_40 : decode method_3_code 40 = .ok (.iconst 1, 1) := by decide +kernel
theorem d1_41 : decode method_3_code 41 = .ok (.if_icmp .ne 24, 3) := by decide +kernel
theorem d1_44 : decode method_3_code 44 = .ok (.iconst 1, 1) := by decide +kernel
theorem d1_45 : decode method_3_code 45 = .ok (.newarray .char, 2) := by decide +kernel
theorem d1_47 : decode method_3_code 47 = .ok (.astore 7, 2) := by decide +kernel
theorem d1_49 : decode method_3_code 49 = .ok (.aload 7, 2) := by decide +kernel
theorem d1_51 : decode method_3_code 51 = .ok (.iconst 0, 1) := by decide +kernel
theorem d1_52 : decode method_3_code 52 = .ok (.iload 4, 2) := by decide +kernel
theorem d1_54 : decode method_3_code 54 = .ok (.castore, 1) := by decide +kernel
theorem d1_55 : decode method_3_code 55 = .ok (.new 34, 3) := by decide +kernel
theorem d1_58 : decode method_3_code 58 = .ok (.dup, 1) := by decide +kernel
theorem d1_59 : decode method_3_code 59 = .ok (.aload 7, 2) := by decide +kernel
theorem d1_61 : decode method_3_code 61 = .ok (.invokespecial 39, 3) := by decide +kernel
theorem d1_64 : decode method_3_code 64 = .ok (.areturn, 1) := by decide +kernel
theorem d1_65 : decode method_3_code 65 = .ok (.iload_n 0, 1) := by decide +kernel
theorem d1_66 : decode method_3_code 66 = .ok (.iconst 2, 1) := by decide +kernel
theorem d1_67 : decode method_3_code 67 = .ok (.if_icmp .ne 30, 3) := by decide +kernel
theorem d1_70 : decode method_3_code 70 = .ok (.iconst 2, 1) := by decide +kernel
theorem d1_71 : decode method_3_code 71 = .ok (.newarray .char, 2) := by decide +kernel
theorem d1_73 : decode method_3_code 73 = .ok (.astore 7, 2) := by decide +kernel
theorem d1_75 : decode method_3_code 75 = .ok (.aload 7, 2) := by decide +kernel
theorem d1_77 : decode method_3_code 77 = .ok (.iconst 0, 1) := by decide +kernel
theorem d1_78 : decode method_3_code 78 = .ok (.iload 4, 2) := by decide +kernel
theorem d1_80 : decode method_3_code 80 = .ok (.castore, 1) := by decide +kernel
theorem d1_81 : decode method_3_code 81 = .ok (.aload 7, 2) := by decide +kernel
theorem d1_83 : decode method_3_code 83 = .ok (.iconst 1, 1) := by decide +kernel
theorem d1_84 : decode method_3_code 84 = .ok (.iload 5, 2) := by decide +kernel
theorem d1_86 : decode method_3_code 86 = .ok (.castore, 1) := by decide +kernel
theorem d1_87 : decode method_3_code 87 = .ok (.new 34, 3) := by decide +kernel
theorem d1_90 : decode method_3_code 90 = .ok (.dup, 1) := by decide +kernel
theorem d1_91 : decode method_3_code 91 = .ok (.aload 7, 2) := by decide +kernel
theorem d1_93 : decode method_3_code 93 = .ok (.invokespecial 39, 3) := by decide +kernel
theorem d1_96 : decode method_3_code 96 = .ok (.areturn, 1) := by decide +kernel
theorem d1_97 : decode method_3_code 97 = .ok (.iconst 3, 1) := by decide +kernel
theorem d1_98 : decode method_3_code 98 = .ok (.newarray .char, 2) := by decide +kernel
theorem d1_100 : decode method_3_code 100 = .ok (.astore 7, 2) := by decide +kernel
theorem d1_102 : decode method_3_code 102 = .ok (.aload 7, 2) := by decide +kernel
theorem d1_104 : decode method_3_code 104 = .ok (.iconst 0, 1) := by decide +kernel
theorem d1_105 : decode method_3_code 105 = .ok (.iload 4, 2) := by decide +kernel
theorem d1_107 : decode method_3_code 107 = .ok (.castore, 1) := by decide +kernel
theorem d1_108 : decode method_3_code 108 = .ok (.aload 7, 2) := by decide +kernel
theorem d1_110 : decode method_3_code 110 = .ok (.iconst 1, 1) := by decide +kernel
theorem d1_111 : decode method_3_code 111 = .ok (.iload 5, 2) := by decide +kernel
theorem d1_113 : decode method_3_code 113 = .ok (.castore, 1) := by decide +kernel
theorem d1_114 : decode method_3_code 114 = .ok (.aload 7, 2) := by decide +kernel
theorem d1_116 : decode method_3_code 116 = .ok (.iconst 2, 1) := by decide +kernel
theorem d1_117 : decode method_3_code 117 = .ok (.iload 6, 2) := by decide +kernel
theorem d1_119 : decode method_3_code 119 = .ok (.castore, 1) := by decide +kernel
theorem d1_120 : decode method_3_code 120 = .ok (.new 34, 3) := by decide +kernel
theorem d1_123 : decode method_3_code 123 = .ok (.dup, 1) := by decide +kernel
theorem d1_124 : decode method_3_code 124 = .ok (.aload 7, 2) := by decide +kernel
theorem d1_126 : decode method_3_code 126 = .ok (.invokespecial 39, 3) := by decide +kernel
theorem d1_129 : decode method_3_code 129 = .ok (.areturn, 1) := by decide +kernel
theorem oef_orm_mk (m_ : MethodId) (n : Int32) (p : Int32) (q : Int32) (r0 : Int32)  : (entryFrame m_ #[(.int n), (.int p), (.int q), (.int r0)] 8).locals = #[.val (.int n), .val (.int p), .val (.int q), .val (.int r0), .unset, .unset, .unset, .unset] := by first | (simp [entryFrame, argsToLocals, Value.category]; done) | rfl
set_option maxRecDepth 65536 in
set_option maxHeartbeats 40000000 in
theorem orm_mk (l : Launch) (Z : State) (a0 : Array Value) (hw : ∀ d ∈ tables_1, d.before a0 Z = true) (hE : EW Z a0 consts_1) (n : Int32) (p : Int32) (q : Int32) (r0 : Int32) (z : Int32) (h : Heap) (hO : Old Z Z.heap.size h) (SC : (Sta Z Z.heap "java/lang/String" "COMPACT_STRINGS" "Z" (.int z))) (hz : (¬ z = 0))  :
    Ct l Z consts_1 (⟨"com/example/tallykeep/tallykeep/core/LedgerExceptionConflictPinLaw", "make", "(IIII)Ljava/lang/String;"⟩ : MethodName) method_3_code 8 (Option.some (Jvm.ClassFile.FieldType.object "java/lang/String")) ⟨4, 6, 14, 100⟩ #[(.int n), (.int p), (.int q), (.int r0)] h [] (fun rv' hp' so' => ∃ r : Addr, rv' = some (.ref r) ∧ so' = [] ∧ (h.size ≤ r) ∧ Exa Z hp' r "java/lang/String") := by
  refine Ct.mk "com/example/tallykeep/tallykeep/core/LedgerExceptionConflictPinLaw" "make" rfl rfl (a0 := a0) (plainFor_of_name opn1) hO hE (fun x q => nomatch q) ?_
  intro K T W
  rw [oef_orm_mk]
  refine gIloadN W d1_0 rfl rfl ?_
  refine gSipush (z := (255 : Int32)) W d1_1 rfl rfl ?_
  obtain ⟨v68, e69⟩ : ∃ v : Int32, p &&& (255 : Int32) = v := ⟨_, rfl⟩
  refine gIand W d1_4 e69 rfl ?_
  obtain ⟨v70, e71⟩ : ∃ v : Int32, v68.toUInt32.toUInt16.toUInt32.toInt32 = v := ⟨_, rfl⟩
  refine gI2C W d1_5 e71 rfl ?_
  have cb72 := ch255 e69 e71
  refine gIstore (ls' := #[.val (.int n), .val (.int p), .val (.int q), .val (.int r0), .val (.int v70), .unset, .unset, .unset]) W d1_6 rfl rfl ?_
  refine gIloadN W d1_8 rfl rfl ?_
  refine gSipush (z := (255 : Int32)) W d1_9 rfl rfl ?_
  obtain ⟨v73, e74⟩ : ∃ v : Int32, q &&& (255 : Int32) = v := ⟨_, rfl⟩
  refine gIand W d1_12 e74 rfl ?_
  obtain ⟨v75, e76⟩ : ∃ v : Int32, v73.toUInt32.toUInt16.toUInt32.toInt32 = v := ⟨_, rfl⟩
  refine gI2C W d1_13 e76 rfl ?_
  have cb77 := ch255 e74 e76
  refine gIstore (ls' := #[.val (.int n), .val (.int p), .val (.int q), .val (.int r0), .val (.int v70), .val (.int v75), .unset, .unset]) W d1_14 rfl rfl ?_
  refine gIloadN W d1_16 rfl rfl ?_
  refine gSipush (z := (255 : Int32)) W d1_17 rfl rfl ?_
  obtain ⟨v78, e79⟩ : ∃ v : Int32, r0 &&& (255 : Int32) = v := ⟨_, rfl⟩
  refine gIand W d1_20 e79 rfl ?_
  obtain ⟨v80, e81⟩ : ∃ v : Int32, v78.toUInt32.toUInt16.toUInt32.toInt32 = v := ⟨_, rfl⟩
  refine gI2C W d1_21 e81 rfl ?_
  have cb82 := ch255 e79 e81
  refine gIstore (ls' := #[.val (.int n), .val (.int p), .val (.int q), .val (.int r0), .val (.int v70), .val (.int v75), .val (.int v80), .unset]) W d1_22 rfl rfl ?_
  refine gIloadN W d1_24 rfl rfl ?_
  by_cases c83 : n = (0 : Int32)
  · refine gIfNo W d1_25 ((if0 _ _).trans (teq c83).2) rfl ?_
    refine wNewO W d1_28 (ow5 hw) (ow6 hw) (ow7 hw) (by decide) (by decide) rfl fun T84 h86 a87 W85 E88 g89 A90 D91  => ?_
    have f92 : Fld Z h86 a87 "java/lang/String" "value" "[B" .null := D91 (Or.inr (ow33 hw)) (ty := .array .byte) (by decide)
    have f93 : Fld Z h86 a87 "java/lang/String" "coder" "B" (.int (0 : Int32)) := D91 (Or.inr (ow31 hw)) (ty := .byte) (by decide)
    refine gDup W85 d1_31 rfl rfl ?_
    refine gIconst (z := (0 : Int32)) W85 d1_32 rfl rfl ?_
    refine wNewP (cap := 0) W85 d1_33 (ow4 hw) (by decide) (by decide) (by decide) (by decide) (by decide) rfl fun T94 h96 a97 k101 W95 E98 g99 A100 => ?_
    have f102 : Arv Z h96 a97 k101 .char (0 : Int32) [] (.int 0) := A100 0
    have f103 := A90.ext E98
    have f104 := f92.ext E98
    have f105 := f93.ext E98
    refine wSpecial (y := (⟨"java/lang/String", "<init>", "([C)V"⟩ : MethodName)) (Wd := 1) (a := a87) (argsL := [(.ref a97)]) (rest := [(.ref a87)]) W95 d1_35 rfl (ow8 hw) (ow9 hw) (ow10 hw) (by decide) (Cb.ct (orm_new1E l Z a0 hw hE (a87) (a97) (k101) h96 W95.old f103 f104 f105 f102 (Nat.le_trans W.old.2.1 (Nat.le_of_eq g89.symm))) (ow10 hw) (ow7 hw) hE (by decide) (by decide)) (by simp) rfl (lenOf opd1 rfl) rfl (Nat.le_of_eq rfl) (by decide) (by decide) rfl fun v110 so111 T106 h108 W107 kp109 sp112 q113 => ?_
    obtain ⟨t114, kb115, rfl, rfl, f116, f117, f118, f119⟩ := q113
    show Go K _ T106 38 #[.val (.int n), .val (.int p), .val (.int q), .val (.int r0), .val (.int v70), .val (.int v75), .val (.int v80), .unset] [(.ref a87)]
    exact wRetA (so := []) (t := .object "java/lang/String") W107 d1_38 rfl rfl rfl (by decide) (by decide) (fun _ q => nomatch q) ⟨a87, rfl, rfl, (Nat.le_of_eq g89.symm), f116⟩
  · refine gIfYes (pc' := 39) W d1_25 ((if0 _ _).trans (feq c83).2) (by decide) rfl ?_
    refine gIloadN W d1_39 rfl rfl ?_
    refine gIconst (z := (1 : Int32)) W d1_40 rfl rfl ?_
    by_cases c120 : n = (1 : Int32)
    · refine gIcmpNo W d1_41 (teq c120).2 rfl ?_
      refine gIconst (z := (1 : Int32)) W d1_44 rfl rfl ?_
      refine wNewP (cap := 1) W d1_45 (ow4 hw) (by decide) (by decide) (by decide) (by decide) (by decide) rfl fun T121 h123 a124 k128 W122 E125 g126 A127 => ?_
      have f129 : Arv Z h123 a124 k128 .char (1 : Int32) [(.int (0 : Int32))] (.int 0) := A127 1
      refine gAstore (ls' := #[.val (.int n), .val (.int p), .val (.int q), .val (.int r0), .val (.int v70), .val (.int v75), .val (.int v80), .val (.ref a124)]) W122 d1_47 rfl rfl rfl ?_
      refine gAload W122 d1_49 rfl rfl rfl ?_
      refine gIconst (z := (0 : Int32)) W122 d1_51 rfl rfl ?_
      refine gIload W122 d1_52 rfl rfl ?_
      refine wStC W122 d1_54 (by simp) f129 (by decide) cb72.2.2 0 (by decide) (show 0 < 1 from by decide) rfl fun T130 h132 W131 wr133 A134 => ?_
      have f135 : Arv Z h132 a124 k128 .char (1 : Int32) [(.int v70)] (.int 0) := A134
      refine wNewO W131 d1_55 (ow5 hw) (ow6 hw) (ow7 hw) (by decide) (by decide) rfl fun T136 h138 a139 W137 E140 g141 A142 D143  => ?_
      have f144 : Fld Z h138 a139 "java/lang/String" "value" "[B" .null := D143 (Or.inr (ow33 hw)) (ty := .array .byte) (by decide)
      have f145 : Fld Z h138 a139 "java/lang/String" "coder" "B" (.int (0 : Int32)) := D143 (Or.inr (ow31 hw)) (ty := .byte) (by decide)
      refine gDup W137 d1_58 rfl rfl ?_
      refine gAload W137 d1_59 rfl rfl rfl ?_
      have f146 := f135.ext E140
      refine wSpecial (y := (⟨"java/lang/String", "<init>", "([C)V"⟩ : MethodName)) (Wd := 1) (a := a139) (argsL := [(.ref a124)]) (rest := [(.ref a139)]) W137 d1_61 rfl (ow8 hw) (ow9 hw) (ow10 hw) (by decide) (strPay hw hE a139 a124 (1 : Int32) [v70] 1 1 A142 f144 f145 f146 (SC.ext W137.old.2) hz rfl (show Int32.toNatClampNeg (1 : Int32) = 1 from by decide) (show 0 < 1 from by decide) (show 1 ≤ 536870912 from by decide) (all1 cb72.2.1 alln) (by decide) (by decide)) (by simp) rfl (lenOf opd1 rfl) rfl (Nat.le_of_eq rfl) (by decide) (by decide) rfl fun v151 so152 T147 h149 W148 kp150 sp153 q154 => ?_
      obtain ⟨t155, kb156, rfl, rfl, f157, f158, f159, f160, f161⟩ := q154
      show Go K _ T147 64 #[.val (.int n), .val (.int p), .val (.int q), .val (.int r0), .val (.int v70), .val (.int v75), .val (.int v80), .val (.ref a124)] [(.ref a139)]
      exact wRetA (so := []) (t := .object "java/lang/String") W148 d1_64 rfl rfl rfl (by decide) (by decide) (fun _ q => nomatch q) ⟨a139, rfl, rfl, (Nat.le_trans W131.grow (Nat.le_of_eq g141.symm)), f158⟩
    · refine gIcmpYes (pc' := 65) W d1_41 (feq c120).2 (by decide) rfl ?_
      refine gIloadN W d1_65 rfl rfl ?_
      refine gIconst (z := (2 : Int32)) W d1_66 rfl rfl ?_
      by_cases c162 : n = (2 : Int32)
      · refine gIcmpNo W d1_67 (teq c162).2 rfl ?_
        refine gIconst (z := (2 : Int32)) W d1_70 rfl rfl ?_
        refine wNewP (cap := 2) W d1_71 (ow4 hw) (by decide) (by decide) (by decide) (by decide) (by decide) rfl fun T163 h165 a166 k170 W164 E167 g168 A169 => ?_
        have f171 : Arv Z h165 a166 k170 .char (2 : Int32) [(.int (0 : Int32)), (.int (0 : Int32))] (.int 0) := A169 2
        refine gAstore (ls' := #[.val (.int n), .val (.int p), .val (.int q), .val (.int r0), .val (.int v70), .val (.int v75), .val (.int v80), .val (.ref a166)]) W164 d1_73 rfl rfl rfl ?_
        refine gAload W164 d1_75 rfl rfl rfl ?_
        refine gIconst (z := (0 : Int32)) W164 d1_77 rfl rfl ?_
        refine gIload W164 d1_78 rfl rfl ?_
        refine wStC W164 d1_80 (by simp) f171 (by decide) cb72.2.2 0 (by decide) (show 0 < 2 from by decide) rfl fun T172 h174 W173 wr175 A176 => ?_
        have f177 : Arv Z h174 a166 k170 .char (2 : Int32) [(.int v70), (.int (0 : Int32))] (.int 0) := A176
        refine gAload W173 d1_81 rfl rfl rfl ?_
        refine gIconst (z := (1 : Int32)) W173 d1_83 rfl rfl ?_
        refine gIload W173 d1_84 rfl rfl ?_
        refine wStC W173 d1_86 (by simp) f177 (by decide) cb77.2.2 1 (by decide) (show 1 < 2 from by decide) rfl fun T178 h180 W179 wr181 A182 => ?_
        have f183 : Arv Z h180 a166 k170 .char (2 : Int32) [(.int v70), (.int v75)] (.int 0) := A182
        refine wNewO W179 d1_87 (ow5 hw) (ow6 hw) (ow7 hw) (by decide) (by decide) rfl fun T184 h186 a187 W185 E188 g189 A190 D191  => ?_
        have f192 : Fld Z h186 a187 "java/lang/String" "value" "[B" .null := D191 (Or.inr (ow33 hw)) (ty := .array .byte) (by decide)
        have f193 : Fld Z h186 a187 "java/lang/String" "coder" "B" (.int (0 : Int32)) := D191 (Or.inr (ow31 hw)) (ty := .byte) (by decide)
        refine gDup W185 d1_90 rfl rfl ?_
        refine gAload W185 d1_91 rfl rfl rfl ?_
        have f194 := f183.ext E188
        refine wSpecial (y := (⟨"java/lang/String", "<init>", "([C)V"⟩ : MethodName)) (Wd := 1) (a := a187) (argsL := [(.ref a166)]) (rest := [(.ref a187)]) W185 d1_93 rfl (ow8 hw) (ow9 hw) (ow10 hw) (by decide) (strPay hw hE a187 a166 (2 : Int32) [v70, v75] 2 1 A190 f192 f193 f194 (SC.ext W185.old.2) hz rfl (show Int32.toNatClampNeg (2 : Int32) = 2 from by decide) (show 0 < 2 from by decide) (show 2 ≤ 536870912 from by decide) (all1 cb72.2.1 (all1 cb77.2.1 alln)) (by decide) (by decide)) (by simp) rfl (lenOf opd1 rfl) rfl (Nat.le_of_eq rfl) (by decide) (by decide) rfl fun v199 so200 T195 h197 W196 kp198 sp201 q202 => ?_
        obtain ⟨t203, kb204, rfl, rfl, f205, f206, f207, f208, f209⟩ := q202
        show Go K _ T195 96 #[.val (.int n), .val (.int p), .val (.int q), .val (.int r0), .val (.int v70), .val (.int v75), .val (.int v80), .val (.ref a166)] [(.ref a187)]
        exact wRetA (so := []) (t := .object "java/lang/String") W196 d1_96 rfl rfl rfl (by decide) (by decide) (fun _ q => nomatch q) ⟨a187, rfl, rfl, (Nat.le_trans W179.grow (Nat.le_of_eq g189.symm)), f206⟩
      · refine gIcmpYes (pc' := 97) W d1_67 (feq c162).2 (by decide) rfl ?_
        refine gIconst (z := (3 : Int32)) W d1_97 rfl rfl ?_
        refine wNewP (cap := 3) W d1_98 (ow4 hw) (by decide) (by decide) (by decide) (by decide) (by decide) rfl fun T210 h212 a213 k217 W211 E214 g215 A216 => ?_
        have f218 : Arv Z h212 a213 k217 .char (3 : Int32) [(.int (0 : Int32)), (.int (0 : Int32)), (.int (0 : Int32))] (.int 0) := A216 3
        refine gAstore (ls' := #[.val (.int n), .val (.int p), .val (.int q), .val (.int r0), .val (.int v70), .val (.int v75), .val (.int v80), .val (.ref a213)]) W211 d1_100 rfl rfl rfl ?_
        refine gAload W211 d1_102 rfl rfl rfl ?_
        refine gIconst (z := (0 : Int32)) W211 d1_104 rfl rfl ?_
        refine gIload W211 d1_105 rfl rfl ?_
        refine wStC W211 d1_107 (by simp) f218 (by decide) cb72.2.2 0 (by decide) (show 0 < 3 from by decide) rfl fun T219 h221 W220 wr222 A223 => ?_
        have f224 : Arv Z h221 a213 k217 .char (3 : Int32) [(.int v70), (.int (0 : Int32)), (.int (0 : Int32))] (.int 0) := A223
        refine gAload W220 d1_108 rfl rfl rfl ?_
        refine gIconst (z := (1 : Int32)) W220 d1_110 rfl rfl ?_
        refine gIload W220 d1_111 rfl rfl ?_
        refine wStC W220 d1_113 (by simp) f224 (by decide) cb77.2.2 1 (by decide) (show 1 < 3 from by decide) rfl fun T225 h227 W226 wr228 A229 => ?_
        have f230 : Arv Z h227 a213 k217 .char (3 : Int32) [(.int v70), (.int v75), (.int (0 : Int32))] (.int 0) := A229
        refine gAload W226 d1_114 rfl rfl rfl ?_
        refine gIconst (z := (2 : Int32)) W226 d1_116 rfl rfl ?_
        refine gIload W226 d1_117 rfl rfl ?_
        refine wStC W226 d1_119 (by simp) f230 (by decide) cb82.2.2 2 (by decide) (show 2 < 3 from by decide) rfl fun T231 h233 W232 wr234 A235 => ?_
        have f236 : Arv Z h233 a213 k217 .char (3 : Int32) [(.int v70), (.int v75), (.int v80)] (.int 0) := A235
        refine wNewO W232 d1_120 (ow5 hw) (ow6 hw) (ow7 hw) (by decide) (by decide) rfl fun T237 h239 a240 W238 E241 g242 A243 D244  => ?_
        have f245 : Fld Z h239 a240 "java/lang/String" "value" "[B" .null := D244 (Or.inr (ow33 hw)) (ty := .array .byte) (by decide)
        have f246 : Fld Z h239 a240 "java/lang/String" "coder" "B" (.int (0 : Int32)) := D244 (Or.inr (ow31 hw)) (ty := .byte) (by decide)
        refine gDup W238 d1_123 rfl rfl ?_
        refine gAload W238 d1_124 rfl rfl rfl ?_
        have f247 := f236.ext E241
        refine wSpecial (y := (⟨"java/lang/String", "<init>", "([C)V"⟩ : MethodName)) (Wd := 1) (a := a240) (argsL := [(.ref a213)]) (rest := [(.ref a240)]) W238 d1_126 rfl (ow8 hw) (ow9 hw) (ow10 hw) (by decide) (strPay hw hE a240 a213 (3 : Int32) [v70, v75, v80] 3 1 A243 f245 f246 f247 (SC.ext W238.old.2) hz rfl (show Int32.toNatClampNeg (3 : Int32) = 3 from by decide) (show 0 < 3 from by decide) (show 3 ≤ 536870912 from by decide) (all1 cb72.2.1 (all1 cb77.2.1 (all1 cb82.2.1 alln))) (by decide) (by decide)) (by simp) rfl (lenOf opd1 rfl) rfl (Nat.le_of_eq rfl) (by decide) (by decide) rfl fun v252 so253 T248 h250 W249 kp251 sp254 q255 => ?_
        obtain ⟨t256, kb257, rfl, rfl, f258, f259, f260, f261, f262⟩ := q255
        show Go K _ T248 129 #[.val (.int n), .val (.int p), .val (.int q), .val (.int r0), .val (.int v70), .val (.int v75), .val (.int v80), .val (.ref a213)] [(.ref a240)]
        exact wRetA (so := []) (t := .object "java/lang/String") W249 d1_129 rfl rfl rfl (by decide) (by decide) (fun _ q => nomatch q) ⟨a240, rfl, rfl, (Nat.le_trans W232.grow (Nat.le_of_eq g242.symm)), f259⟩
theorem opn2 : plainName "java/lang/Throwable" = true := by first | (simp [plainName, overriddenIn]; done) | decide +kernel
theorem d11_0 : decode jdk_78_method_2_code 0 = .ok (.aload_n 0, 1) := by decide +kernel
theorem d11_1 : decode jdk_78_method_2_code 1 = .ok (.invokespecial 1, 3) := by decide +kernel
theorem d11_4 : decode jdk_78_method_2_code 4 = .ok (.aload_n 0, 1) := by decide +kernel
theorem d11_5 : decode jdk_78_method_2_code 5 = .ok (.aload_n 0, 1) := by decide +kernel
theorem d11_6 : decode jdk_78_method_2_code 6 = .ok (.putfield 7, 3) := by decide +kernel
theorem d11_9 : decode jdk_78_method_2_code 9 = .ok (.aload_n 0, 1) := by decide +kernel
theorem d11_10 : decode jdk_78_method_2_code 10 = .ok (.getstatic 13, 3) := by decide +kernel
theorem d11_13 : decode jdk_78_method_2_code 13 = .ok (.putfield 17, 3) := by decide +kernel
theorem d11_16 : decode jdk_78_method_2_code 16 = .ok (.aload_n 0, 1) := by decide +kernel
theorem d11_17 : decode jdk_78_method_2_code 17 = .ok (.getstatic 20, 3) := by decide +kernel
theorem d11_20 : decode jdk_78_method_2_code 20 = .ok (.putfield 24, 3) := by decide +kernel
theorem d11_23 : decode jdk_78_method_2_code 23 = .ok (.aload_n 0, 1) := by decide +kernel
theorem d11_24 : decode jdk_78_method_2_code 24 = .ok (.invokevirtual 27, 3) := by decide +kernel
theorem d11_27 : decode jdk_78_method_2_code 27 = .ok (.pop, 1) := by decide +kernel
theorem d11_28 : decode jdk_78_method_2_code 28 = .ok (.aload_n 0, 1) := by decide +kernel
theorem d11_29 : decode jdk_78_method_2_code 29 = .ok (.aload_n 1, 1) := by decide +kernel
theorem d11_30 : decode jdk_78_method_2_code 30 = .ok (.putfield 31, 3) := by decide +kernel
theorem d11_33 : decode jdk_78_method_2_code 33 = .ok (.return_, 1) := by decide +kernel
theorem oef_orm_tin (m_ : MethodId) (a : Addr)  : (entryFrame m_ #[(.ref a), .null] 2).locals = #[.val (.ref a), .val .null] := by first | (simp [entryFrame, argsToLocals, Value.category]; done) | rfl
set_option maxRecDepth 65536 in
set_option maxHeartbeats 40000000 in
theorem orm_tin (l : Launch) (Z : State) (a0 : Array Value) (hw : ∀ d ∈ tables_1, d.before a0 Z = true) (hE : EW Z a0 consts_1) (a : Addr) (us : Value) (sn : Value) (h : Heap) (hO : Old Z Z.heap.size h) (hMK : (Z.vm.MethodsKnown)) (hlt : (l.stackTraces = true)) (SUA : (Sta Z Z.heap "java/lang/Throwable" "UNASSIGNED_STACK" "[Ljava/lang/StackTraceElement;" us)) (rus : (us.isRef = true)) (SSE : (Sta Z Z.heap "java/lang/Throwable" "SUPPRESSED_SENTINEL" "Ljava/util/List;" sn)) (rsn : (sn.isRef = true)) (qE : Exa Z h a "com/example/tallykeep/tallykeep/core/LedgerException") (qU : Unt h a) (qf0 : Fld Z h a "com/example/tallykeep/tallykeep/core/LedgerException" "kind" "Lcom/example/tallykeep/tallykeep/core/LedgerException$Kind;" .null) (qf1 : Fld Z h a "java/lang/Throwable" "backtrace" "Ljava/lang/Object;" .null) (qf2 : Fld Z h a "java/lang/Throwable" "detailMessage" "Ljava/lang/String;" .null) (qf3 : Fld Z h a "java/lang/Throwable" "cause" "Ljava/lang/Throwable;" .null) (qf4 : Fld Z h a "java/lang/Throwable" "stackTrace" "[Ljava/lang/StackTraceElement;" .null) (qf5 : Fld Z h a "java/lang/Throwable" "suppressedExceptions" "Ljava/util/List;" .null) (ge_a : Z.heap.size ≤ a) :
    CtK l Z consts_1 (⟨"java/lang/Throwable", "<init>", "(Ljava/lang/String;)V"⟩ : MethodName) jdk_78_method_2_code 2 (Option.none : Option Jvm.ClassFile.FieldType) ⟨3, 1, 2752, 46⟩ #[(.ref a), .null] h [a] (fun rv' hp' so' => rv' = none ∧ so' = [] ∧ Exa Z hp' a "com/example/tallykeep/tallykeep/core/LedgerException" ∧ Fld Z hp' a "com/example/tallykeep/tallykeep/core/LedgerException" "kind" "Lcom/example/tallykeep/tallykeep/core/LedgerException$Kind;" .null ∧ Fld Z hp' a "java/lang/Throwable" "detailMessage" "Ljava/lang/String;" .null) := by
  refine CtK.mk "java/lang/Throwable" "<init>" rfl rfl (a0 := a0) (plainFor_of_name opn2) hO hE (fun x q => by simp at q; subst q; exact ge_a) ?_
  intro K T hFK W
  rw [oef_orm_tin]
  refine gAloadN W d11_0 rfl rfl rfl ?_
  refine wInitO W d11_1 (ow57 hw) (ow16 hw) (ow17 hw) rfl (by decide) 0 (Nat.le_of_eq rfl) (by decide) rfl fun T263 W264 => ?_
  refine gAloadN W264 d11_4 rfl rfl rfl ?_
  refine gAloadN W264 d11_5 rfl rfl rfl ?_
  refine wPutF (ty := .object "java/lang/Throwable") W264 d11_6 (ow58 hw) Via.refl (by simp) qf3 qE (Or.inl (ow59 hw)) (ow39 hw) (by decide) rfl rfl rfl fun T265 h267 W266 wr268 => ?_
  have f269 := Fld.same wr268 qf3
  refine gAloadN W266 d11_9 rfl rfl rfl ?_
  refine wGetS W266 d11_10 (ow60 hw) Via.refl SUA rfl fun T270 W271 => ?_
  have f272 := qf4.other wr268 (Or.inr (slot_ne (t := .array (.object "java/lang/StackTraceElement")) (t' := .object "java/lang/Throwable") (Or.inl (ow62 hw)) (Or.inl (ow59 hw)) (by decide) (by decide) (by decide)))
  have f273 := qE.wr wr268
  refine wPutF (ty := .array (.object "java/lang/StackTraceElement")) W271 d11_13 (ow61 hw) Via.refl (by simp) f272 f273 (Or.inl (ow62 hw)) (ow39 hw) (by decide) (narR rus) (fitR rus) rfl fun T274 h276 W275 wr277 => ?_
  have f278 := Fld.same wr277 f272
  refine gAloadN W275 d11_16 rfl rfl rfl ?_
  refine wGetS W275 d11_17 (ow63 hw) Via.refl SSE rfl fun T279 W280 => ?_
  have f281 := qf5.other wr268 (Or.inr (slot_ne (t := .object "java/util/List") (t' := .object "java/lang/Throwable") (Or.inl (ow65 hw)) (Or.inl (ow59 hw)) (by decide) (by decide) (by decide)))
  have f282 := f281.other wr277 (Or.inr (slot_ne (t := .object "java/util/List") (t' := .array (.object "java/lang/StackTraceElement")) (Or.inl (ow65 hw)) (Or.inl (ow62 hw)) (by decide) (by decide) (by decide)))
  have f283 := f273.wr wr277
  refine wPutF (ty := .object "java/util/List") W280 d11_20 (ow64 hw) Via.refl (by simp) f282 f283 (Or.inl (ow65 hw)) (ow39 hw) (by decide) (narR rsn) (fitR rsn) rfl fun T284 h286 W285 wr287 => ?_
  have f288 := Fld.same wr287 f282
  refine gAloadN W285 d11_23 rfl rfl rfl ?_
  have f289 := f283.wr wr287
  have f290 := qU.wr wr268
  have f291 := f290.wr wr277
  have f292 := f291.wr wr287
  have f293 := qf1.other wr268 (Or.inr (slot_ne (t := .object "java/lang/Object") (t' := .object "java/lang/Throwable") (Or.inl (ow90 hw)) (Or.inl (ow59 hw)) (by decide) (by decide) (by decide)))
  have f294 := f293.other wr277 (Or.inr (slot_ne (t := .object "java/lang/Object") (t' := .array (.object "java/lang/StackTraceElement")) (Or.inl (ow90 hw)) (Or.inl (ow62 hw)) (by decide) (by decide) (by decide)))
  have f295 := f294.other wr287 (Or.inr (slot_ne (t := .object "java/lang/Object") (t' := .object "java/util/List") (Or.inl (ow90 hw)) (Or.inl (ow65 hw)) (by decide) (by decide) (by decide)))
  have f296 := f278.other wr287 (Or.inr (slot_ne (t := .array (.object "java/lang/StackTraceElement")) (t' := .object "java/util/List") (Or.inl (ow62 hw)) (Or.inl (ow65 hw)) (by decide) (by decide) (by decide)))
  have f297 := qf0.other wr268 (Or.inr (slot_ne (t := .object "com/example/tallykeep/tallykeep/core/LedgerException$Kind") (t' := .object "java/lang/Throwable") (Or.inr (ow95 hw)) (Or.inl (ow59 hw)) (by decide) (by decide) (by decide)))
  have f298 := f297.other wr277 (Or.inr (slot_ne (t := .object "com/example/tallykeep/tallykeep/core/LedgerException$Kind") (t' := .array (.object "java/lang/StackTraceElement")) (Or.inr (ow95 hw)) (Or.inl (ow62 hw)) (by decide) (by decide) (by decide)))
  have f299 := f298.other wr287 (Or.inr (slot_ne (t := .object "com/example/tallykeep/tallykeep/core/LedgerException$Kind") (t' := .object "java/util/List") (Or.inr (ow95 hw)) (Or.inl (ow65 hw)) (by decide) (by decide) (by decide)))
  have f300 := qf2.other wr268 (Or.inr (slot_ne (t := .object "java/lang/String") (t' := .object "java/lang/Throwable") (Or.inl (ow89 hw)) (Or.inl (ow59 hw)) (by decide) (by decide) (by decide)))
  have f301 := f300.other wr277 (Or.inr (slot_ne (t := .object "java/lang/String") (t' := .array (.object "java/lang/StackTraceElement")) (Or.inl (ow89 hw)) (Or.inl (ow62 hw)) (by decide) (by decide) (by decide)))
  have f302 := f301.other wr287 (Or.inr (slot_ne (t := .object "java/lang/String") (t' := .object "java/util/List") (Or.inl (ow89 hw)) (Or.inl (ow65 hw)) (by decide) (by decide) (by decide)))
  refine wFill (rc := "com/example/tallykeep/tallykeep/core/LedgerException") W285 (wr287.size.trans (wr277.size.trans wr268.size)) hlt d11_24 (by decide) (ow39 hw) (excN hw) hO hMK hFK (by simp) f289 f292 f295 rus f296 SUA rfl rfl (by decide) (by decide) (by decide) (by decide) rfl fun T303 h305 W304 kp306 E307 F308 => ?_
  have f309 := F308 f299 (slot_ne (t := .object "com/example/tallykeep/tallykeep/core/LedgerException$Kind") (t' := .object "java/lang/Object") (Or.inr (ow95 hw)) (Or.inl (ow90 hw)) (by decide) (by decide) (by decide)) (slot_ne (t := .object "com/example/tallykeep/tallykeep/core/LedgerException$Kind") (t' := .int) (Or.inr (ow95 hw)) (Or.inl (ow91 hw)) (by decide) (by decide) (by decide)) (slot_ne (t := .object "com/example/tallykeep/tallykeep/core/LedgerException$Kind") (t' := .array (.object "java/lang/StackTraceElement")) (Or.inr (ow95 hw)) (Or.inl (ow62 hw)) (by decide) (by decide) (by decide))
  have f310 := F308 f302 (slot_ne (t := .object "java/lang/String") (t' := .object "java/lang/Object") (Or.inl (ow89 hw)) (Or.inl (ow90 hw)) (by decide) (by decide) (by decide)) (slot_ne (t := .object "java/lang/String") (t' := .int) (Or.inl (ow89 hw)) (Or.inl (ow91 hw)) (by decide) (by decide) (by decide)) (slot_ne (t := .object "java/lang/String") (t' := .array (.object "java/lang/StackTraceElement")) (Or.inl (ow89 hw)) (Or.inl (ow62 hw)) (by decide) (by decide) (by decide))
  refine gPop W304 d11_27 rfl rfl ?_
  refine gAloadN W304 d11_28 rfl rfl rfl ?_
  refine gAloadN W304 d11_29 rfl rfl rfl ?_
  refine wPutF (ty := .object "java/lang/String") W304 d11_30 (ow93 hw) Via.refl (by simp) f310 E307 (Or.inl (ow89 hw)) (ow39 hw) (by decide) rfl rfl rfl fun T311 h313 W312 wr314 => ?_
  have f315 := Fld.same wr314 f310
  have f316 := E307.wr wr314
  have f317 := f309.other wr314 (Or.inr (slot_ne (t := .object "com/example/tallykeep/tallykeep/core/LedgerException$Kind") (t' := .object "java/lang/String") (Or.inr (ow95 hw)) (Or.inl (ow89 hw)) (by decide) (by decide) (by decide)))
  exact wRet0 (so := []) W312 d11_33 (by decide) (by decide) (fun _ q => nomatch q) ⟨rfl, rfl, f316, f317, f315⟩
theorem opn3 : plainName "java/lang/Exception" = true := by first | (simp [plainName, overriddenIn]; done) | decide +kernel
theorem d10_0 : decode jdk_59_method_2_code 0 = .ok (.aload_n 0, 1) := by decide +kernel
theorem d10_1 : decode jdk_59_method_2_code 1 = .ok (.aload_n 1, 1) := by decide +kernel
theorem d10_2 : decode jdk_59_method_2_code 2 = .ok (.invokespecial 7, 3) := by decide +kernel
theorem opd2 : parseMethodDescriptor "(Ljava/lang/String;)V" = some ⟨[.object "java/lang/String"], none⟩ := by decide +kernel
theorem d10_5 : decode jdk_59_method_2_code 5 = .ok (.return_, 1) := by decide +kernel
theorem oef_orm_ein (m_ : MethodId) (a : Addr)  : (entryFrame m_ #[(.ref a), .null] 2).locals = #[.val (.ref a), .val .null] := by first | (simp [entryFrame, argsToLocals, Value.category]; done) | rfl
set_option maxRecDepth 65536 in
set_option maxHeartbeats 40000000 in
theorem orm_ein (l : Launch) (Z : State) (a0 : Array Value) (hw : ∀ d ∈ tables_1, d.before a0 Z = true) (hE : EW Z a0 consts_1) (a : Addr) (us : Value) (sn : Value) (h : Heap) (hO : Old Z Z.heap.size h) (hMK : (Z.vm.MethodsKnown)) (hlt : (l.stackTraces = true)) (SUA : (Sta Z Z.heap "java/lang/Throwable" "UNASSIGNED_STACK" "[Ljava/lang/StackTraceElement;" us)) (rus : (us.isRef = true)) (SSE : (Sta Z Z.heap "java/lang/Throwable" "SUPPRESSED_SENTINEL" "Ljava/util/List;" sn)) (rsn : (sn.isRef = true)) (qE : Exa Z h a "com/example/tallykeep/tallykeep/core/LedgerException") (qU : Unt h a) (qf0 : Fld Z h a "com/example/tallykeep/tallykeep/core/LedgerException" "kind" "Lcom/example/tallykeep/tallykeep/core/LedgerException$Kind;" .null) (qf1 : Fld Z h a "java/lang/Throwable" "backtrace" "Ljava/lang/Object;" .null) (qf2 : Fld Z h a "java/lang/Throwable" "detailMessage" "Ljava/lang/String;" .null) (qf3 : Fld Z h a "java/lang/Throwable" "cause" "Ljava/lang/Throwable;" .null) (qf4 : Fld Z h a "java/lang/Throwable" "stackTrace" "[Ljava/lang/StackTraceElement;" .null) (qf5 : Fld Z h a "java/lang/Throwable" "suppressedExceptions" "Ljava/util/List;" .null) (ge_a : Z.heap.size ≤ a) :
    CtK l Z consts_1 (⟨"java/lang/Exception", "<init>", "(Ljava/lang/String;)V"⟩ : MethodName) jdk_59_method_2_code 2 (Option.none : Option Jvm.ClassFile.FieldType) ⟨4, 1, 2752, 60⟩ #[(.ref a), .null] h [a] (fun rv' hp' so' => rv' = none ∧ so' = [] ∧ Exa Z hp' a "com/example/tallykeep/tallykeep/core/LedgerException" ∧ Fld Z hp' a "com/example/tallykeep/tallykeep/core/LedgerException" "kind" "Lcom/example/tallykeep/tallykeep/core/LedgerException$Kind;" .null ∧ Fld Z hp' a "java/lang/Throwable" "detailMessage" "Ljava/lang/String;" .null) := by
  refine CtK.mk "java/lang/Exception" "<init>" rfl rfl (a0 := a0) (plainFor_of_name opn3) hO hE (fun x q => by simp at q; subst q; exact ge_a) ?_
  intro K T hFK W
  rw [oef_orm_ein]
  refine gAloadN W d10_0 rfl rfl rfl ?_
  refine gAloadN W d10_1 rfl rfl rfl ?_
  refine wSpecial (y := (⟨"java/lang/Throwable", "<init>", "(Ljava/lang/String;)V"⟩ : MethodName)) (Wd := 0) (a := a) (argsL := [.null]) (rest := []) W d10_2 rfl (ow51 hw) (ow52 hw) (ow56 hw) (by decide) (Cb.ctK (orm_tin l Z a0 hw hE (a) (us) (sn) h W.old hMK hlt SUA rus SSE rsn qE qU qf0 qf1 qf2 qf3 qf4 qf5 ge_a) (ow56 hw) (ow55 hw) hE hMK hFK (by decide) (by decide)) (by simp) rfl (lenOf opd2 rfl) rfl (Nat.le_of_eq rfl) (by decide) (by decide) rfl fun v322 so323 T318 h320 W319 kp321 sp324 q325 => ?_
  obtain ⟨rfl, rfl, f326, f327, f328⟩ := q325
  show Go K _ T318 5 #[.val (.ref a), .val .null] []
  exact wRet0 (so := []) W319 d10_5 (by decide) (by decide) (fun _ q => nomatch q) ⟨rfl, rfl, f326, f327, f328⟩
theorem opn4 : plainName "com/example/tallykeep/tallykeep/core/LedgerException" = true := by first | (simp [plainName, overriddenIn]; done) | decide +kernel
theorem d9_0 : decode prog_16_method_1_code 0 = .ok (.aload_n 0, 1) := by decide +kernel
theorem d9_1 : decode prog_16_method_1_code 1 = .ok (.aload_n 2, 1) := by decide +kernel
theorem d9_2 : decode prog_16_method_1_code 2 = .ok (.invokespecial 1, 3) := by decide +kernel
theorem d9_5 : decode prog_16_method_1_code 5 = .ok (.aload_n 0, 1) := by decide +kernel
theorem d9_6 : decode prog_16_method_1_code 6 = .ok (.aload_n 1, 1) := by decide +kernel
theorem d9_7 : decode prog_16_method_1_code 7 = .ok (.putfield 7, 3) := by decide +kernel
theorem d9_10 : decode prog_16_method_1_code 10 = .ok (.return_, 1) := by decide +kernel
theorem oef_orm_lin (m_ : MethodId) (a : Addr) (c : Addr)  : (entryFrame m_ #[(.ref a), (.ref c), .null] 3).locals = #[.val (.ref a), .val (.ref c), .val .null] := by first | (simp [entryFrame, argsToLocals, Value.category]; done) | rfl
set_option maxRecDepth 65536 in
set_option maxHeartbeats 40000000 in
theorem orm_lin (l : Launch) (Z : State) (a0 : Array Value) (hw : ∀ d ∈ tables_1, d.before a0 Z = true) (hE : EW Z a0 consts_1) (a : Addr) (c : Addr) (us : Value) (sn : Value) (h : Heap) (hO : Old Z Z.heap.size h) (hMK : (Z.vm.MethodsKnown)) (hlt : (l.stackTraces = true)) (SUA : (Sta Z Z.heap "java/lang/Throwable" "UNASSIGNED_STACK" "[Ljava/lang/StackTraceElement;" us)) (rus : (us.isRef = true)) (SSE : (Sta Z Z.heap "java/lang/Throwable" "SUPPRESSED_SENTINEL" "Ljava/util/List;" sn)) (rsn : (sn.isRef = true)) (qE : Exa Z h a "com/example/tallykeep/tallykeep/core/LedgerException") (qU : Unt h a) (qf0 : Fld Z h a "com/example/tallykeep/tallykeep/core/LedgerException" "kind" "Lcom/example/tallykeep/tallykeep/core/LedgerException$Kind;" .null) (qf1 : Fld Z h a "java/lang/Throwable" "backtrace" "Ljava/lang/Object;" .null) (qf2 : Fld Z h a "java/lang/Throwable" "detailMessage" "Ljava/lang/String;" .null) (qf3 : Fld Z h a "java/lang/Throwable" "cause" "Ljava/lang/Throwable;" .null) (qf4 : Fld Z h a "java/lang/Throwable" "stackTrace" "[Ljava/lang/StackTraceElement;" .null) (qf5 : Fld Z h a "java/lang/Throwable" "suppressedExceptions" "Ljava/util/List;" .null) (ge_a : Z.heap.size ≤ a) :
    CtK l Z consts_1 (⟨"com/example/tallykeep/tallykeep/core/LedgerException", "<init>", "(Lcom/example/tallykeep/tallykeep/core/LedgerException$Kind;Ljava/lang/String;)V"⟩ : MethodName) prog_16_method_1_code 3 (Option.none : Option Jvm.ClassFile.FieldType) ⟨5, 1, 2752, 75⟩ #[(.ref a), (.ref c), .null] h [a] (fun rv' hp' so' => rv' = none ∧ so' = [] ∧ Exa Z hp' a "com/example/tallykeep/tallykeep/core/LedgerException" ∧ Fld Z hp' a "com/example/tallykeep/tallykeep/core/LedgerException" "kind" "Lcom/example/tallykeep/tallykeep/core/LedgerException$Kind;" (.ref c) ∧ Fld Z hp' a "java/lang/Throwable" "detailMessage" "Ljava/lang/String;" .null) := by
  refine CtK.mk "com/example/tallykeep/tallykeep/core/LedgerException" "<init>" rfl rfl (a0 := a0) (plainFor_of_name opn4) hO hE (fun x q => by simp at q; subst q; exact ge_a) ?_
  intro K T hFK W
  rw [oef_orm_lin]
  refine gAloadN W d9_0 rfl rfl rfl ?_
  refine gAloadN W d9_1 rfl rfl rfl ?_
  refine wSpecial (y := (⟨"java/lang/Exception", "<init>", "(Ljava/lang/String;)V"⟩ : MethodName)) (Wd := 0) (a := a) (argsL := [.null]) (rest := []) W d9_2 rfl (ow46 hw) (ow47 hw) (ow50 hw) (by decide) (Cb.ctK (orm_ein l Z a0 hw hE (a) (us) (sn) h W.old hMK hlt SUA rus SSE rsn qE qU qf0 qf1 qf2 qf3 qf4 qf5 ge_a) (ow50 hw) (ow49 hw) hE hMK hFK (by decide) (by decide)) (by simp) rfl (lenOf opd2 rfl) rfl (Nat.le_of_eq rfl) (by decide) (by decide) rfl fun v333 so334 T329 h331 W330 kp332 sp335 q336 => ?_
  obtain ⟨rfl, rfl, f337, f338, f339⟩ := q336
  show Go K _ T329 5 #[.val (.ref a), .val (.ref c), .val .null] []
  refine gAloadN W330 d9_5 rfl rfl rfl ?_
  refine gAloadN W330 d9_6 rfl rfl rfl ?_
  refine wPutF (ty := .object "com/example/tallykeep/tallykeep/core/LedgerException$Kind") W330 d9_7 (ow94 hw) Via.refl (by simp) f338 f337 (Or.inr ⟨(ow95 hw), rfl, rfl⟩) (ow39 hw) (by decide) rfl rfl rfl fun T340 h342 W341 wr343 => ?_
  have f344 := Fld.same wr343 f338
  have f345 := f337.wr wr343
  have f346 := f339.other wr343 (Or.inr (slot_ne (t := .object "java/lang/String") (t' := .object "com/example/tallykeep/tallykeep/core/LedgerException$Kind") (Or.inl (ow89 hw)) (Or.inr (ow95 hw)) (by decide) (by decide) (by decide)))
  exact wRet0 (so := []) W341 d9_10 (by decide) (by decide) (fun _ q => nomatch q) ⟨rfl, rfl, f345, f344, f346⟩
theorem d8_0 : decode prog_16_method_3_code 0 = .ok (.new 8, 3) := by decide +kernel
theorem d8_3 : decode prog_16_method_3_code 3 = .ok (.dup, 1) := by decide +kernel
theorem d8_4 : decode prog_16_method_3_code 4 = .ok (.getstatic 21, 3) := by decide +kernel
theorem d8_7 : decode prog_16_method_3_code 7 = .ok (.aload_n 0, 1) := by decide +kernel
theorem d8_8 : decode prog_16_method_3_code 8 = .ok (.invokespecial 18, 3) := by decide +kernel
theorem opd3 : parseMethodDescriptor "(Lcom/example/tallykeep/tallykeep/core/LedgerException$Kind;Ljava/lang/String;)V" = some ⟨[.object "com/example/tallykeep/tallykeep/core/LedgerException$Kind", .object "java/lang/String"], none⟩ := by decide +kernel
theorem d8_11 : decode prog_16_method_3_code 11 = .ok (.areturn, 1) := by decide +kernel
theorem oef_orm_cfn (m_ : MethodId)   : (entryFrame m_ #[.null] 1).locals = #[.val .null] := by first | (simp [entryFrame, argsToLocals, Value.category]; done) | rfl
set_option maxRecDepth 65536 in
set_option maxHeartbeats 40000000 in
theorem orm_cfn (l : Launch) (Z : State) (a0 : Array Value) (hw : ∀ d ∈ tables_1, d.before a0 Z = true) (hE : EW Z a0 consts_1) (c : Addr) (us : Value) (sn : Value) (h : Heap) (hO : Old Z Z.heap.size h) (hMK : (Z.vm.MethodsKnown)) (hlt : (l.stackTraces = true)) (SUA : (Sta Z Z.heap "java/lang/Throwable" "UNASSIGNED_STACK" "[Ljava/lang/StackTraceElement;" us)) (rus : (us.isRef = true)) (SSE : (Sta Z Z.heap "java/lang/Throwable" "SUPPRESSED_SENTINEL" "Ljava/util/List;" sn)) (rsn : (sn.isRef = true)) (SK : (Sta Z Z.heap "com/example/tallykeep/tallykeep/core/LedgerException$Kind" "CONFLICT" "Lcom/example/tallykeep/tallykeep/core/LedgerException$Kind;" (.ref c)))  :
    CtK l Z consts_1 (⟨"com/example/tallykeep/tallykeep/core/LedgerException", "conflict", "(Ljava/lang/String;)Lcom/example/tallykeep/tallykeep/core/LedgerException;"⟩ : MethodName) prog_16_method_3_code 1 (Option.some (Jvm.ClassFile.FieldType.object "com/example/tallykeep/tallykeep/core/LedgerException")) ⟨6, 2, 2759, 95⟩ #[.null] h [] (fun rv' hp' so' => ∃ r : Addr, rv' = some (.ref r) ∧ so' = [] ∧ (h.size ≤ r) ∧ Exa Z hp' r "com/example/tallykeep/tallykeep/core/LedgerException" ∧ Fld Z hp' r "com/example/tallykeep/tallykeep/core/LedgerException" "kind" "Lcom/example/tallykeep/tallykeep/core/LedgerException$Kind;" (.ref c) ∧ Fld Z hp' r "java/lang/Throwable" "detailMessage" "Ljava/lang/String;" .null) := by
  refine CtK.mk "com/example/tallykeep/tallykeep/core/LedgerException" "conflict" rfl rfl (a0 := a0) (plainFor_of_name opn4) hO hE (fun x q => nomatch q) ?_
  intro K T hFK W
  rw [oef_orm_cfn]
  refine wNewU W d8_0 (ow38 hw) (ow39 hw) (ow36 hw) (by decide) (by decide) rfl fun T347 h349 a350 W348 E351 g352 A353 D354 u355 => ?_
  have f356 : Fld Z h349 a350 "com/example/tallykeep/tallykeep/core/LedgerException" "kind" "Lcom/example/tallykeep/tallykeep/core/LedgerException$Kind;" .null := D354 (Or.inr (ow95 hw)) (ty := .object "com/example/tallykeep/tallykeep/core/LedgerException$Kind") (by decide)
  have f357 : Fld Z h349 a350 "java/lang/Throwable" "backtrace" "Ljava/lang/Object;" .null := D354 (Or.inl (ow90 hw)) (ty := .object "java/lang/Object") (by decide)
  have f358 : Fld Z h349 a350 "java/lang/Throwable" "detailMessage" "Ljava/lang/String;" .null := D354 (Or.inl (ow89 hw)) (ty := .object "java/lang/String") (by decide)
  have f359 : Fld Z h349 a350 "java/lang/Throwable" "cause" "Ljava/lang/Throwable;" .null := D354 (Or.inl (ow59 hw)) (ty := .object "java/lang/Throwable") (by decide)
  have f360 : Fld Z h349 a350 "java/lang/Throwable" "stackTrace" "[Ljava/lang/StackTraceElement;" .null := D354 (Or.inl (ow62 hw)) (ty := .array (.object "java/lang/StackTraceElement")) (by decide)
  have f361 : Fld Z h349 a350 "java/lang/Throwable" "suppressedExceptions" "Ljava/util/List;" .null := D354 (Or.inl (ow65 hw)) (ty := .object "java/util/List") (by decide)
  refine gDup W348 d8_3 rfl rfl ?_
  refine wGetS W348 d8_4 (ow40 hw) Via.refl SK rfl fun T362 W363 => ?_
  refine gAloadN W363 d8_7 rfl rfl rfl ?_
  refine wSpecial (y := (⟨"com/example/tallykeep/tallykeep/core/LedgerException", "<init>", "(Lcom/example/tallykeep/tallykeep/core/LedgerException$Kind;Ljava/lang/String;)V"⟩ : MethodName)) (Wd := 1) (a := a350) (argsL := [(.ref c), .null]) (rest := [(.ref a350)]) W363 d8_8 rfl (ow43 hw) (ow44 hw) (ow45 hw) (by decide) (Cb.ctK (orm_lin l Z a0 hw hE (a350) (c) (us) (sn) h349 W363.old hMK hlt SUA rus SSE rsn A353 u355 f356 f357 f358 f359 f360 f361 (Nat.le_trans W.old.2.1 (Nat.le_of_eq g352.symm))) (ow45 hw) (ow36 hw) hE hMK hFK (by decide) (by decide)) (by simp) rfl (lenOf opd3 rfl) rfl (Nat.le_of_eq rfl) (by decide) (by decide) rfl fun v368 so369 T364 h366 W365 kp367 sp370 q371 => ?_
  obtain ⟨rfl, rfl, f372, f373, f374⟩ := q371
  show Go K _ T364 11 #[.val .null] [(.ref a350)]
  exact wRetA (so := []) (t := .object "com/example/tallykeep/tallykeep/core/LedgerException") W365 d8_11 rfl rfl rfl (by decide) (by decide) (fun _ q => nomatch q) ⟨a350, rfl, rfl, (Nat.le_of_eq g352.symm), f372, f373, f374⟩
theorem d14_0 : decode jdk_78_method_6_code 0 = .ok (.aload_n 0, 1) := by decide +kernel
theorem d14_1 : decode jdk_78_method_6_code 1 = .ok (.getfield 31, 3) := by decide +kernel
theorem d14_4 : decode jdk_78_method_6_code 4 = .ok (.areturn, 1) := by decide +kernel
theorem oef_orm_gmn (m_ : MethodId) (a : Addr)  : (entryFrame m_ #[(.ref a)] 1).locals = #[.val (.ref a)] := by first | (simp [entryFrame, argsToLocals, Value.category]; done) | rfl
set_option maxRecDepth 65536 in
set_option maxHeartbeats 40000000 in
theorem orm_gmn (l : Launch) (Z : State) (a0 : Array Value) (hw : ∀ d ∈ tables_1, d.before a0 Z = true) (hE : EW Z a0 consts_1) (a : Addr) (h : Heap) (hO : Old Z Z.heap.size h) (q0 : Fld Z h a "java/lang/Throwable" "detailMessage" "Ljava/lang/String;" .null)  :
    Ct l Z consts_1 (⟨"java/lang/Throwable", "getMessage", "()Ljava/lang/String;"⟩ : MethodName) jdk_78_method_6_code 1 (Option.some (Jvm.ClassFile.FieldType.object "java/lang/String")) ⟨0, 0, 0, 0⟩ #[(.ref a)] h [] (fun rv' hp' so' => rv' = some .null ∧ so' = []) := by
  refine Ct.mk "java/lang/Throwable" "getMessage" rfl rfl (a0 := a0) (plainFor_of_name opn2) hO hE (fun x q => nomatch q) ?_
  intro K T W
  rw [oef_orm_gmn]
  refine gAloadN W d14_0 rfl rfl rfl ?_
  refine wGetF W d14_1 (ow93 hw) Via.refl q0 rfl fun T375 W376 => ?_
  exact wRetA (so := []) (t := .object "java/lang/String") W376 d14_4 rfl rfl rfl (by decide) (by decide) (fun _ q => nomatch q) ⟨rfl, rfl⟩
theorem oef_orm_tir (m_ : MethodId) (a : Addr) (s : Addr)  : (entryFrame m_ #[(.ref a), (.ref s)] 2).locals = #[.val (.ref a), .val (.ref s)] := by first | (simp [entryFrame, argsToLocals, Value.category]; done) | rfl
set_option maxRecDepth 65536 in
set_option maxHeartbeats 40000000 in
theorem orm_tir (l : Launch) (Z : State) (a0 : Array Value) (hw : ∀ d ∈ tables_1, d.before a0 Z = true) (hE : EW Z a0 consts_1) (a : Addr) (s : Addr) (us : Value) (sn : Value) (h : Heap) (hO : Old Z Z.heap.size h) (hMK : (Z.vm.MethodsKnown)) (hlt : (l.stackTraces = true)) (SUA : (Sta Z Z.heap "java/lang/Throwable" "UNASSIGNED_STACK" "[Ljava/lang/StackTraceElement;" us)) (rus : (us.isRef = true)) (SSE : (Sta Z Z.heap "java/lang/Throwable" "SUPPRESSED_SENTINEL" "Ljava/util/List;" sn)) (rsn : (sn.isRef = true)) (qE : Exa Z h a "com/example/tallykeep/tallykeep/core/LedgerException") (qU : Unt h a) (qf0 : Fld Z h a "com/example/tallykeep/tallykeep/core/LedgerException" "kind" "Lcom/example/tallykeep/tallykeep/core/LedgerException$Kind;" .null) (qf1 : Fld Z h a "java/lang/Throwable" "backtrace" "Ljava/lang/Object;" .null) (qf2 : Fld Z h a "java/lang/Throwable" "detailMessage" "Ljava/lang/String;" .null) (qf3 : Fld Z h a "java/lang/Throwable" "cause" "Ljava/lang/Throwable;" .null) (qf4 : Fld Z h a "java/lang/Throwable" "stackTrace" "[Ljava/lang/StackTraceElement;" .null) (qf5 : Fld Z h a "java/lang/Throwable" "suppressedExceptions" "Ljava/util/List;" .null) (ge_a : Z.heap.size ≤ a) :
    CtK l Z consts_1 (⟨"java/lang/Throwable", "<init>", "(Ljava/lang/String;)V"⟩ : MethodName) jdk_78_method_2_code 2 (Option.none : Option Jvm.ClassFile.FieldType) ⟨3, 1, 2752, 46⟩ #[(.ref a), (.ref s)] h [a] (fun rv' hp' so' => rv' = none ∧ so' = [] ∧ Exa Z hp' a "com/example/tallykeep/tallykeep/core/LedgerException" ∧ Fld Z hp' a "com/example/tallykeep/tallykeep/core/LedgerException" "kind" "Lcom/example/tallykeep/tallykeep/core/LedgerException$Kind;" .null ∧ Fld Z hp' a "java/lang/Throwable" "detailMessage" "Ljava/lang/String;" (.ref s)) := by
  refine CtK.mk "java/lang/Throwable" "<init>" rfl rfl (a0 := a0) (plainFor_of_name opn2) hO hE (fun x q => by simp at q; subst q; exact ge_a) ?_
  intro K T hFK W
  rw [oef_orm_tir]
  refine gAloadN W d11_0 rfl rfl rfl ?_
  refine wInitO W d11_1 (ow57 hw) (ow16 hw) (ow17 hw) rfl (by decide) 0 (Nat.le_of_eq rfl) (by decide) rfl fun T377 W378 => ?_
  refine gAloadN W378 d11_4 rfl rfl rfl ?_
  refine gAloadN W378 d11_5 rfl rfl rfl ?_
  refine wPutF (ty := .object "java/lang/Throwable") W378 d11_6 (ow58 hw) Via.refl (by simp) qf3 qE (Or.inl (ow59 hw)) (ow39 hw) (by decide) rfl rfl rfl fun T379 h381 W380 wr382 => ?_
  have f383 := Fld.same wr382 qf3
  refine gAloadN W380 d11_9 rfl rfl rfl ?_
  refine wGetS W380 d11_10 (ow60 hw) Via.refl SUA rfl fun T384 W385 => ?_
  have f386 := qf4.other wr382 (Or.inr (slot_ne (t := .array (.object "java/lang/StackTraceElement")) (t' := .object "java/lang/Throwable") (Or.inl (ow62 hw)) (Or.inl (ow59 hw)) (by decide) (by decide) (by decide)))
  have f387 := qE.wr wr382
  refine wPutF (ty := .array (.object "java/lang/StackTraceElement")) W385 d11_13 (ow61 hw) Via.refl (by simp) f386 f387 (Or.inl (ow62 hw)) (ow39 hw) (by decide) (narR rus) (fitR rus) rfl fun T388 h390 W389 wr391 => ?_
  have f392 := Fld.same wr391 f386
  refine gAloadN W389 d11_16 rfl rfl rfl ?_
  refine wGetS W389 d11_17 (ow63 hw) Via.refl SSE rfl fun T393 W394 => ?_
  have f395 := qf5.other wr382 (Or.inr (slot_ne (t := .object "java/util/List") (t' := .object "java/lang/Throwable") (Or.inl (ow65 hw)) (Or.inl (ow59 hw)) (by decide) (by decide) (by decide)))
  have f396 := f395.other wr391 (Or.inr (slot_ne (t := .object "java/util/List") (t' := .array (.object "java/lang/StackTraceElement")) (Or.inl (ow65 hw)) (Or.inl (ow62 hw)) (by decide) (by decide) (by decide)))
  have f397 := f387.wr wr391
  refine wPutF (ty := .object "java/util/List") W394 d11_20 (ow64 hw) Via.refl (by simp) f396 f397 (Or.inl (ow65 hw)) (ow39 hw) (by decide) (narR rsn) (fitR rsn) rfl fun T398 h400 W399 wr401 => ?_
  have f402 := Fld.same wr401 f396
  refine gAloadN W399 d11_23 rfl rfl rfl ?_
  have f403 := f397.wr wr401
  have f404 := qU.wr wr382
  have f405 := f404.wr wr391
  have f406 := f405.wr wr401
  have f407 := qf1.other wr382 (Or.inr (slot_ne (t := .object "java/lang/Object") (t' := .object "java/lang/Throwable") (Or.inl (ow90 hw)) (Or.inl (ow59 hw)) (by decide) (by decide) (by decide)))
  have f408 := f407.other wr391 (Or.inr (slot_ne (t := .object "java/lang/Object") (t' := .array (.object "java/lang/StackTraceElement")) (Or.inl (ow90 hw)) (Or.inl (ow62 hw)) (by decide) (by decide) (by decide)))
  have f409 := f408.other wr401 (Or.inr (slot_ne (t := .object "java/lang/Object") (t' := .object "java/util/List") (Or.inl (ow90 hw)) (Or.inl (ow65 hw)) (by decide) (by decide) (by decide)))
  have f410 := f392.other wr401 (Or.inr (slot_ne (t := .array (.object "java/lang/StackTraceElement")) (t' := .object "java/util/List") (Or.inl (ow62 hw)) (Or.inl (ow65 hw)) (by decide) (by decide) (by decide)))
  have f411 := qf0.other wr382 (Or.inr (slot_ne (t := .object "com/example/tallykeep/tallykeep/core/LedgerException$Kind") (t' := .object "java/lang/Throwable") (Or.inr (ow95 hw)) (Or.inl (ow59 hw)) (by decide) (by decide) (by decide)))
  have f412 := f411.other wr391 (Or.inr (slot_ne (t := .object "com/example/tallykeep/tallykeep/core/LedgerException$Kind") (t' := .array (.object "java/lang/StackTraceElement")) (Or.inr (ow95 hw)) (Or.inl (ow62 hw)) (by decide) (by decide) (by decide)))
  have f413 := f412.other wr401 (Or.inr (slot_ne (t := .object "com/example/tallykeep/tallykeep/core/LedgerException$Kind") (t' := .object "java/util/List") (Or.inr (ow95 hw)) (Or.inl (ow65 hw)) (by decide) (by decide) (by decide)))
  have f414 := qf2.other wr382 (Or.inr (slot_ne (t := .object "java/lang/String") (t' := .object "java/lang/Throwable") (Or.inl (ow89 hw)) (Or.inl (ow59 hw)) (by decide) (by decide) (by decide)))
  have f415 := f414.other wr391 (Or.inr (slot_ne (t := .object "java/lang/String") (t' := .array (.object "java/lang/StackTraceElement")) (Or.inl (ow89 hw)) (Or.inl (ow62 hw)) (by decide) (by decide) (by decide)))
  have f416 := f415.other wr401 (Or.inr (slot_ne (t := .object "java/lang/String") (t' := .object "java/util/List") (Or.inl (ow89 hw)) (Or.inl (ow65 hw)) (by decide) (by decide) (by decide)))
  refine wFill (rc := "com/example/tallykeep/tallykeep/core/LedgerException") W399 (wr401.size.trans (wr391.size.trans wr382.size)) hlt d11_24 (by decide) (ow39 hw) (excN hw) hO hMK hFK (by simp) f403 f406 f409 rus f410 SUA rfl rfl (by decide) (by decide) (by decide) (by decide) rfl fun T417 h419 W418 kp420 E421 F422 => ?_
  have f423 := F422 f413 (slot_ne (t := .object "com/example/tallykeep/tallykeep/core/LedgerException$Kind") (t' := .object "java/lang/Object") (Or.inr (ow95 hw)) (Or.inl (ow90 hw)) (by decide) (by decide) (by decide)) (slot_ne (t := .object "com/example/tallykeep/tallykeep/core/LedgerException$Kind") (t' := .int) (Or.inr (ow95 hw)) (Or.inl (ow91 hw)) (by decide) (by decide) (by decide)) (slot_ne (t := .object "com/example/tallykeep/tallykeep/core/LedgerException$Kind") (t' := .array (.object "java/lang/StackTraceElement")) (Or.inr (ow95 hw)) (Or.inl (ow62 hw)) (by decide) (by decide) (by decide))
  have f424 := F422 f416 (slot_ne (t := .object "java/lang/String") (t' := .object "java/lang/Object") (Or.inl (ow89 hw)) (Or.inl (ow90 hw)) (by decide) (by decide) (by decide)) (slot_ne (t := .object "java/lang/String") (t' := .int) (Or.inl (ow89 hw)) (Or.inl (ow91 hw)) (by decide) (by decide) (by decide)) (slot_ne (t := .object "java/lang/String") (t' := .array (.object "java/lang/StackTraceElement")) (Or.inl (ow89 hw)) (Or.inl (ow62 hw)) (by decide) (by decide) (by decide))
  refine gPop W418 d11_27 rfl rfl ?_
  refine gAloadN W418 d11_28 rfl rfl rfl ?_
  refine gAloadN W418 d11_29 rfl rfl rfl ?_
  refine wPutF (ty := .object "java/lang/String") W418 d11_30 (ow93 hw) Via.refl (by simp) f424 E421 (Or.inl (ow89 hw)) (ow39 hw) (by decide) rfl rfl rfl fun T425 h427 W426 wr428 => ?_
  have f429 := Fld.same wr428 f424
  have f430 := E421.wr wr428
  have f431 := f423.other wr428 (Or.inr (slot_ne (t := .object "com/example/tallykeep/tallykeep/core/LedgerException$Kind") (t' := .object "java/lang/String") (Or.inr (ow95 hw)) (Or.inl (ow89 hw)) (by decide) (by decide) (by decide)))
  exact wRet0 (so := []) W426 d11_33 (by decide) (by decide) (fun _ q => nomatch q) ⟨rfl, rfl, f430, f431, f429⟩
theorem oef_orm_eir (m_ : MethodId) (a : Addr) (s : Addr)  : (entryFrame m_ #[(.ref a), (.ref s)] 2).locals = #[.val (.ref a), .val (.ref s)] := by first | (simp [entryFrame, argsToLocals, Value.category]; done) | rfl
set_option maxRecDepth 65536 in
set_option maxHeartbeats 40000000 in
theorem orm_eir (l : Launch) (Z : State) (a0 : Array Value) (hw : ∀ d ∈ tables_1, d.before a0 Z = true) (hE : EW Z a0 consts_1) (a : Addr) (s : Addr) (us : Value) (sn : Value) (h : Heap) (hO : Old Z Z.heap.size h) (hMK : (Z.vm.MethodsKnown)) (hlt : (l.stackTraces = true)) (SUA : (Sta Z Z.heap "java/lang/Throwable" "UNASSIGNED_STACK" "[Ljava/lang/StackTraceElement;" us)) (rus : (us.isRef = true)) (SSE : (Sta Z Z.heap "java/lang/Throwable" "SUPPRESSED_SENTINEL" "Ljava/util/List;" sn)) (rsn : (sn.isRef = true)) (qE : Exa Z h a "com/example/tallykeep/tallykeep/core/LedgerException") (qU : Unt h a) (qf0 : Fld Z h a "com/example/tallykeep/tallykeep/core/LedgerException" "kind" "Lcom/example/tallykeep/tallykeep/core/LedgerException$Kind;" .null) (qf1 : Fld Z h a "java/lang/Throwable" "backtrace" "Ljava/lang/Object;" .null) (qf2 : Fld Z h a "java/lang/Throwable" "detailMessage" "Ljava/lang/String;" .null) (qf3 : Fld Z h a "java/lang/Throwable" "cause" "Ljava/lang/Throwable;" .null) (qf4 : Fld Z h a "java/lang/Throwable" "stackTrace" "[Ljava/lang/StackTraceElement;" .null) (qf5 : Fld Z h a "java/lang/Throwable" "suppressedExceptions" "Ljava/util/List;" .null) (ge_a : Z.heap.size ≤ a) :
    CtK l Z consts_1 (⟨"java/lang/Exception", "<init>", "(Ljava/lang/String;)V"⟩ : MethodName) jdk_59_method_2_code 2 (Option.none : Option Jvm.ClassFile.FieldType) ⟨4, 1, 2752, 60⟩ #[(.ref a), (.ref s)] h [a] (fun rv' hp' so' => rv' = none ∧ so' = [] ∧ Exa Z hp' a "com/example/tallykeep/tallykeep/core/LedgerException" ∧ Fld Z hp' a "com/example/tallykeep/tallykeep/core/LedgerException" "kind" "Lcom/example/tallykeep/tallykeep/core/LedgerException$Kind;" .null ∧ Fld Z hp' a "java/lang/Throwable" "detailMessage" "Ljava/lang/String;" (.ref s)) := by
  refine CtK.mk "java/lang/Exception" "<init>" rfl rfl (a0 := a0) (plainFor_of_name opn3) hO hE (fun x q => by simp at q; subst q; exact ge_a) ?_
  intro K T hFK W
  rw [oef_orm_eir]
  refine gAloadN W d10_0 rfl rfl rfl ?_
  refine gAloadN W d10_1 rfl rfl rfl ?_
  refine wSpecial (y := (⟨"java/lang/Throwable", "<init>", "(Ljava/lang/String;)V"⟩ : MethodName)) (Wd := 0) (a := a) (argsL := [(.ref s)]) (rest := []) W d10_2 rfl (ow51 hw) (ow52 hw) (ow56 hw) (by decide) (Cb.ctK (orm_tir l Z a0 hw hE (a) (s) (us) (sn) h W.old hMK hlt SUA rus SSE rsn qE qU qf0 qf1 qf2 qf3 qf4 qf5 ge_a) (ow56 hw) (ow55 hw) hE hMK hFK (by decide) (by decide)) (by simp) rfl (lenOf opd2 rfl) rfl (Nat.le_of_eq rfl) (by decide) (by decide) rfl fun v436 so437 T432 h434 W433 kp435 sp438 q439 => ?_
  obtain ⟨rfl, rfl, f440, f441, f442⟩ := q439
  show Go K _ T432 5 #[.val (.ref a), .val (.ref s)] []
  exact wRet0 (so := []) W433 d10_5 (by decide) (by decide) (fun _ q => nomatch q) ⟨rfl, rfl, f440, f441, f442⟩
theorem oef_orm_lir (m_ : MethodId) (a : Addr) (c : Addr) (s : Addr)  : (entryFrame m_ #[(.ref a), (.ref c), (.ref s)] 3).locals = #[.val (.ref a), .val (.ref c), .val (.ref s)] := by first | (simp [entryFrame, argsToLocals, Value.category]; done) | rfl
set_option maxRecDepth 65536 in
set_option maxHeartbeats 40000000 in
theorem orm_lir (l : Launch) (Z : State) (a0 : Array Value) (hw : ∀ d ∈ tables_1, d.before a0 Z = true) (hE : EW Z a0 consts_1) (a : Addr) (c : Addr) (s : Addr) (us : Value) (sn : Value) (h : Heap) (hO : Old Z Z.heap.size h) (hMK : (Z.vm.MethodsKnown)) (hlt : (l.stackTraces = true)) (SUA : (Sta Z Z.heap "java/lang/Throwable" "UNASSIGNED_STACK" "[Ljava/lang/StackTraceElement;" us)) (rus : (us.isRef = true)) (SSE : (Sta Z Z.heap "java/lang/Throwable" "SUPPRESSED_SENTINEL" "Ljava/util/List;" sn)) (rsn : (sn.isRef = true)) (qE : Exa Z h a "com/example/tallykeep/tallykeep/core/LedgerException") (qU : Unt h a) (qf0 : Fld Z h a "com/example/tallykeep/tallykeep/core/LedgerException" "kind" "Lcom/example/tallykeep/tallykeep/core/LedgerException$Kind;" .null) (qf1 : Fld Z h a "java/lang/Throwable" "backtrace" "Ljava/lang/Object;" .null) (qf2 : Fld Z h a "java/lang/Throwable" "detailMessage" "Ljava/lang/String;" .null) (qf3 : Fld Z h a "java/lang/Throwable" "cause" "Ljava/lang/Throwable;" .null) (qf4 : Fld Z h a "java/lang/Throwable" "stackTrace" "[Ljava/lang/StackTraceElement;" .null) (qf5 : Fld Z h a "java/lang/Throwable" "suppressedExceptions" "Ljava/util/List;" .null) (ge_a : Z.heap.size ≤ a) :
    CtK l Z consts_1 (⟨"com/example/tallykeep/tallykeep/core/LedgerException", "<init>", "(Lcom/example/tallykeep/tallykeep/core/LedgerException$Kind;Ljava/lang/String;)V"⟩ : MethodName) prog_16_method_1_code 3 (Option.none : Option Jvm.ClassFile.FieldType) ⟨5, 1, 2752, 75⟩ #[(.ref a), (.ref c), (.ref s)] h [a] (fun rv' hp' so' => rv' = none ∧ so' = [] ∧ Exa Z hp' a "com/example/tallykeep/tallykeep/core/LedgerException" ∧ Fld Z hp' a "com/example/tallykeep/tallykeep/core/LedgerException" "kind" "Lcom/example/tallykeep/tallykeep/core/LedgerException$Kind;" (.ref c) ∧ Fld Z hp' a "java/lang/Throwable" "detailMessage" "Ljava/lang/String;" (.ref s)) := by
  refine CtK.mk "com/example/tallykeep/tallykeep/core/LedgerException" "<init>" rfl rfl (a0 := a0) (plainFor_of_name opn4) hO hE (fun x q => by simp at q; subst q; exact ge_a) ?_
  intro K T hFK W
  rw [oef_orm_lir]
  refine gAloadN W d9_0 rfl rfl rfl ?_
  refine gAloadN W d9_1 rfl rfl rfl ?_
  refine wSpecial (y := (⟨"java/lang/Exception", "<init>", "(Ljava/lang/String;)V"⟩ : MethodName)) (Wd := 0) (a := a) (argsL := [(.ref s)]) (rest := []) W d9_2 rfl (ow46 hw) (ow47 hw) (ow50 hw) (by decide) (Cb.ctK (orm_eir l Z a0 hw hE (a) (s) (us) (sn) h W.old hMK hlt SUA rus SSE rsn qE qU qf0 qf1 qf2 qf3 qf4 qf5 ge_a) (ow50 hw) (ow49 hw) hE hMK hFK (by decide) (by decide)) (by simp) rfl (lenOf opd2 rfl) rfl (Nat.le_of_eq rfl) (by decide) (by decide) rfl fun v447 so448 T443 h445 W444 kp446 sp449 q450 => ?_
  obtain ⟨rfl, rfl, f451, f452, f453⟩ := q450
  show Go K _ T443 5 #[.val (.ref a), .val (.ref c), .val (.ref s)] []
  refine gAloadN W444 d9_5 rfl rfl rfl ?_
  refine gAloadN W444 d9_6 rfl rfl rfl ?_
  refine wPutF (ty := .object "com/example/tallykeep/tallykeep/core/LedgerException$Kind") W444 d9_7 (ow94 hw) Via.refl (by simp) f452 f451 (Or.inr ⟨(ow95 hw), rfl, rfl⟩) (ow39 hw) (by decide) rfl rfl rfl fun T454 h456 W455 wr457 => ?_
  have f458 := Fld.same wr457 f452
  have f459 := f451.wr wr457
  have f460 := f453.other wr457 (Or.inr (slot_ne (t := .object "java/lang/String") (t' := .object "com/example/tallykeep/tallykeep/core/LedgerException$Kind") (Or.inl (ow89 hw)) (Or.inr (ow95 hw)) (by decide) (by decide) (by decide)))
  exact wRet0 (so := []) W455 d9_10 (by decide) (by decide) (fun _ q => nomatch q) ⟨rfl, rfl, f459, f458, f460⟩
theorem oef_orm_cfr (m_ : MethodId) (s : Addr)  : (entryFrame m_ #[(.ref s)] 1).locals = #[.val (.ref s)] := by first | (simp [entryFrame, argsToLocals, Value.category]; done) | rfl
set_option maxRecDepth 65536 in
set_option maxHeartbeats 40000000 in
theorem orm_cfr (l : Launch) (Z : State) (a0 : Array Value) (hw : ∀ d ∈ tables_1, d.before a0 Z = true) (hE : EW Z a0 consts_1) (c : Addr) (s : Addr) (us : Value) (sn : Value) (h : Heap) (hO : Old Z Z.heap.size h) (hMK : (Z.vm.MethodsKnown)) (hlt : (l.stackTraces = true)) (SUA : (Sta Z Z.heap "java/lang/Throwable" "UNASSIGNED_STACK" "[Ljava/lang/StackTraceElement;" us)) (rus : (us.isRef = true)) (SSE : (Sta Z Z.heap "java/lang/Throwable" "SUPPRESSED_SENTINEL" "Ljava/util/List;" sn)) (rsn : (sn.isRef = true)) (SK : (Sta Z Z.heap "com/example/tallykeep/tallykeep/core/LedgerException$Kind" "CONFLICT" "Lcom/example/tallykeep/tallykeep/core/LedgerException$Kind;" (.ref c)))  :
    CtK l Z consts_1 (⟨"com/example/tallykeep/tallykeep/core/LedgerException", "conflict", "(Ljava/lang/String;)Lcom/example/tallykeep/tallykeep/core/LedgerException;"⟩ : MethodName) prog_16_method_3_code 1 (Option.some (Jvm.ClassFile.FieldType.object "com/example/tallykeep/tallykeep/core/LedgerException")) ⟨6, 2, 2759, 95⟩ #[(.ref s)] h [] (fun rv' hp' so' => ∃ r : Addr, rv' = some (.ref r) ∧ so' = [] ∧ (h.size ≤ r) ∧ Exa Z hp' r "com/example/tallykeep/tallykeep/core/LedgerException" ∧ Fld Z hp' r "com/example/tallykeep/tallykeep/core/LedgerException" "kind" "Lcom/example/tallykeep/tallykeep/core/LedgerException$Kind;" (.ref c) ∧ Fld Z hp' r "java/lang/Throwable" "detailMessage" "Ljava/lang/String;" (.ref s)) := by
  refine CtK.mk "com/example/tallykeep/tallykeep/core/LedgerException" "conflict" rfl rfl (a0 := a0) (plainFor_of_name opn4) hO hE (fun x q => nomatch q) ?_
  intro K T hFK W
  rw [oef_orm_cfr]
  refine wNewU W d8_0 (ow38 hw) (ow39 hw) (ow36 hw) (by decide) (by decide) rfl fun T461 h463 a464 W462 E465 g466 A467 D468 u469 => ?_
  have f470 : Fld Z h463 a464 "com/example/tallykeep/tallykeep/core/LedgerException" "kind" "Lcom/example/tallykeep/tallykeep/core/LedgerException$Kind;" .null := D468 (Or.inr (ow95 hw)) (ty := .object "com/example/tallykeep/tallykeep/core/LedgerException$Kind") (by decide)
  have f471 : Fld Z h463 a464 "java/lang/Throwable" "backtrace" "Ljava/lang/Object;" .null := D468 (Or.inl (ow90 hw)) (ty := .object "java/lang/Object") (by decide)
  have f472 : Fld Z h463 a464 "java/lang/Throwable" "detailMessage" "Ljava/lang/String;" .null := D468 (Or.inl (ow89 hw)) (ty := .object "java/lang/String") (by decide)
  have f473 : Fld Z h463 a464 "java/lang/Throwable" "cause" "Ljava/lang/Throwable;" .null := D468 (Or.inl (ow59 hw)) (ty := .object "java/lang/Throwable") (by decide)
  have f474 : Fld Z h463 a464 "java/lang/Throwable" "stackTrace" "[Ljava/lang/StackTraceElement;" .null := D468 (Or.inl (ow62 hw)) (ty := .array (.object "java/lang/StackTraceElement")) (by decide)
  have f475 : Fld Z h463 a464 "java/lang/Throwable" "suppressedExceptions" "Ljava/util/List;" .null := D468 (Or.inl (ow65 hw)) (ty := .object "java/util/List") (by decide)
  refine gDup W462 d8_3 rfl rfl ?_
  refine wGetS W462 d8_4 (ow40 hw) Via.refl SK rfl fun T476 W477 => ?_
  refine gAloadN W477 d8_7 rfl rfl rfl ?_
  refine wSpecial (y := (⟨"com/example/tallykeep/tallykeep/core/LedgerException", "<init>", "(Lcom/example/tallykeep/tallykeep/core/LedgerException$Kind;Ljava/lang/String;)V"⟩ : MethodName)) (Wd := 1) (a := a464) (argsL := [(.ref c), (.ref s)]) (rest := [(.ref a464)]) W477 d8_8 rfl (ow43 hw) (ow44 hw) (ow45 hw) (by decide) (Cb.ctK (orm_lir l Z a0 hw hE (a464) (c) (s) (us) (sn) h463 W477.old hMK hlt SUA rus SSE rsn A467 u469 f470 f471 f472 f473 f474 f475 (Nat.le_trans W.old.2.1 (Nat.le_of_eq g466.symm))) (ow45 hw) (ow36 hw) hE hMK hFK (by decide) (by decide)) (by simp) rfl (lenOf opd3 rfl) rfl (Nat.le_of_eq rfl) (by decide) (by decide) rfl fun v482 so483 T478 h480 W479 kp481 sp484 q485 => ?_
  obtain ⟨rfl, rfl, f486, f487, f488⟩ := q485
  show Go K _ T478 11 #[.val (.ref s)] [(.ref a464)]
  exact wRetA (so := []) (t := .object "com/example/tallykeep/tallykeep/core/LedgerException") W479 d8_11 rfl rfl rfl (by decide) (by decide) (fun _ q => nomatch q) ⟨a464, rfl, rfl, (Nat.le_of_eq g466.symm), f486, f487, f488⟩
theorem oef_orm_gmr (m_ : MethodId) (a : Addr)  : (entryFrame m_ #[(.ref a)] 1).locals = #[.val (.ref a)] := by first | (simp [entryFrame, argsToLocals, Value.category]; done) | rfl
set_option maxRecDepth 65536 in
set_option maxHeartbeats 40000000 in
theorem orm_gmr (l : Launch) (Z : State) (a0 : Array Value) (hw : ∀ d ∈ tables_1, d.before a0 Z = true) (hE : EW Z a0 consts_1) (a : Addr) (s : Addr) (h : Heap) (hO : Old Z Z.heap.size h) (q0 : Fld Z h a "java/lang/Throwable" "detailMessage" "Ljava/lang/String;" (.ref s))  :
    Ct l Z consts_1 (⟨"java/lang/Throwable", "getMessage", "()Ljava/lang/String;"⟩ : MethodName) jdk_78_method_6_code 1 (Option.some (Jvm.ClassFile.FieldType.object "java/lang/String")) ⟨0, 0, 0, 0⟩ #[(.ref a)] h [] (fun rv' hp' so' => rv' = some (.ref s) ∧ so' = []) := by
  refine Ct.mk "java/lang/Throwable" "getMessage" rfl rfl (a0 := a0) (plainFor_of_name opn2) hO hE (fun x q => nomatch q) ?_
  intro K T W
  rw [oef_orm_gmr]
  refine gAloadN W d14_0 rfl rfl rfl ?_
  refine wGetF W d14_1 (ow93 hw) Via.refl q0 rfl fun T489 W490 => ?_
  exact wRetA (so := []) (t := .object "java/lang/String") W490 d14_4 rfl rfl rfl (by decide) (by decide) (fun _ q => nomatch q) ⟨rfl, rfl⟩
theorem d13_0 : decode prog_16_method_4_code 0 = .ok (.aload_n 0, 1) := by decide +kernel
theorem d13_1 : decode prog_16_method_4_code 1 = .ok (.getfield 7, 3) := by decide +kernel
theorem d13_4 : decode prog_16_method_4_code 4 = .ok (.areturn, 1) := by decide +kernel
theorem oef_orm_kind (m_ : MethodId) (a : Addr)  : (entryFrame m_ #[(.ref a)] 1).locals = #[.val (.ref a)] := by first | (simp [entryFrame, argsToLocals, Value.category]; done) | rfl
set_option maxRecDepth 65536 in
set_option maxHeartbeats 40000000 in
theorem orm_kind (l : Launch) (Z : State) (a0 : Array Value) (hw : ∀ d ∈ tables_1, d.before a0 Z = true) (hE : EW Z a0 consts_1) (a : Addr) (v : Addr) (h : Heap) (hO : Old Z Z.heap.size h) (q0 : Fld Z h a "com/example/tallykeep/tallykeep/core/LedgerException" "kind" "Lcom/example/tallykeep/tallykeep/core/LedgerException$Kind;" (.ref v))  :
    Ct l Z consts_1 (⟨"com/example/tallykeep/tallykeep/core/LedgerException", "kind", "()Lcom/example/tallykeep/tallykeep/core/LedgerException$Kind;"⟩ : MethodName) prog_16_method_4_code 1 (Option.some (Jvm.ClassFile.FieldType.object "com/example/tallykeep/tallykeep/core/LedgerException$Kind")) ⟨0, 0, 0, 0⟩ #[(.ref a)] h [] (fun rv' hp' so' => rv' = some (.ref v) ∧ so' = []) := by
  refine Ct.mk "com/example/tallykeep/tallykeep/core/LedgerException" "kind" rfl rfl (a0 := a0) (plainFor_of_name opn4) hO hE (fun x q => nomatch q) ?_
  intro K T W
  rw [oef_orm_kind]
  refine gAloadN W d13_0 rfl rfl rfl ?_
  refine wGetF W d13_1 (ow94 hw) Via.refl q0 rfl fun T491 W492 => ?_
  exact wRetA (so := []) (t := .object "com/example/tallykeep/tallykeep/core/LedgerException$Kind") W492 d13_4 rfl rfl rfl (by decide) (by decide) (fun _ q => nomatch q) ⟨rfl, rfl⟩
theorem opd4 : parseMethodDescriptor "(IIII)Ljava/lang/String;" = some ⟨[.int, .int, .int, .int], some (.object "java/lang/String")⟩ := by decide +kernel
theorem opd5 : parseMethodDescriptor "(Ljava/lang/String;)Lcom/example/tallykeep/tallykeep/core/LedgerException;" = some ⟨[.object "java/lang/String"], some (.object "com/example/tallykeep/tallykeep/core/LedgerException")⟩ := by decide +kernel
theorem opd6 : parseMethodDescriptor "()Lcom/example/tallykeep/tallykeep/core/LedgerException$Kind;" = some ⟨[], some (.object "com/example/tallykeep/tallykeep/core/LedgerException$Kind")⟩ := by decide +kernel
theorem opd7 : parseMethodDescriptor "()Ljava/lang/String;" = some ⟨[], some (.object "java/lang/String")⟩ := by decide +kernel
theorem opd8 : parseMethodDescriptor "(Ljava/lang/Object;)Z" = some ⟨[.object "java/lang/Object"], some (.boolean)⟩ := by decide +kernel
theorem oef_orm_law (m_ : MethodId) (p0 : Int32) (p1 : Int32) (p2 : Int32) (p3 : Int32)  : (entryFrame m_ #[(.int p0), (.int p1), (.int p2), (.int p3)] maxLocals).locals = #[.val (.int p0), .val (.int p1), .val (.int p2), .val (.int p3), .unset, .unset, .unset, .unset, .unset] := by first | (simp [entryFrame, argsToLocals, Value.category, maxLocals]; done) | rfl
set_option maxRecDepth 65536 in
set_option maxHeartbeats 40000000 in
theorem orm_law (l : Launch) (Z : State) (a0 : Array Value) (hw : ∀ d ∈ tables_1, d.before a0 Z = true) (hE : EW Z a0 consts_1) (p0 : Int32) (p1 : Int32) (p2 : Int32) (p3 : Int32) (z : Int32) (c : Addr) (us : Value) (sn : Value) (h : Heap) (hO : Old Z Z.heap.size h) (SC : (Sta Z Z.heap "java/lang/String" "COMPACT_STRINGS" "Z" (.int z))) (hz : (¬ z = 0)) (hMK : (Z.vm.MethodsKnown)) (hlt : (l.stackTraces = true)) (SUA : (Sta Z Z.heap "java/lang/Throwable" "UNASSIGNED_STACK" "[Ljava/lang/StackTraceElement;" us)) (rus : (us.isRef = true)) (SSE : (Sta Z Z.heap "java/lang/Throwable" "SUPPRESSED_SENTINEL" "Ljava/util/List;" sn)) (rsn : (sn.isRef = true)) (SK : (Sta Z Z.heap "com/example/tallykeep/tallykeep/core/LedgerException$Kind" "CONFLICT" "Lcom/example/tallykeep/tallykeep/core/LedgerException$Kind;" (.ref c)))  :
    CtK l Z consts_1 x code maxLocals ret room_1 #[(.int p0), (.int p1), (.int p2), (.int p3)] h [] (fun rv' hp' so' => rv' = some (.int (1 : Int32)) ∧ so' = []) := by
  refine CtK.mk "com/example/tallykeep/tallykeep/core/LedgerExceptionConflictPinLaw" "law" rfl rfl (a0 := a0) (plainFor_of_name opn1) hO hE (fun x q => nomatch q) ?_
  intro K T hFK W
  rw [oef_orm_law]
  refine gIloadN W at_0 rfl rfl ?_
  refine gIconst (z := (3 : Int32)) W at_1 rfl rfl ?_
  obtain ⟨v493, e494⟩ : ∃ v : Int32, p3 &&& (3 : Int32) = v := ⟨_, rfl⟩
  refine gIand W at_2 e494 rfl ?_
  refine gIstore (ls' := #[.val (.int p0), .val (.int p1), .val (.int p2), .val (.int p3), .val (.int v493), .unset, .unset, .unset, .unset]) W at_3 rfl rfl ?_
  refine gIloadN W at_5 rfl rfl ?_
  refine gIconst (z := (4 : Int32)) W at_6 rfl rfl ?_
  obtain ⟨v495, e496⟩ : ∃ v : Int32, p3 &&& (4 : Int32) = v := ⟨_, rfl⟩
  refine gIand W at_7 e496 rfl ?_
  by_cases c497 : v495 = (0 : Int32)
  · refine gIfYes (pc' := 15) W at_8 ((if0 _ _).trans (teq c497).1) (by decide) rfl ?_
    refine gIconst (z := (0 : Int32)) W at_15 rfl rfl ?_
    refine gIstore (ls' := #[.val (.int p0), .val (.int p1), .val (.int p2), .val (.int p3), .val (.int v493), .val (.int (0 : Int32)), .unset, .unset, .unset]) W at_16 rfl rfl ?_
    refine gIload W at_18 rfl rfl ?_
    refine gIfYes (pc' := 29) W at_20 ((if0 _ _).trans (teq (by decide)).1) (by decide) rfl ?_
    refine gIload W at_29 rfl rfl ?_
    refine gIloadN W at_31 rfl rfl ?_
    refine gIloadN W at_32 rfl rfl ?_
    refine gIloadN W at_33 rfl rfl ?_
    refine wStatic (y := (⟨"com/example/tallykeep/tallykeep/core/LedgerExceptionConflictPinLaw", "make", "(IIII)Ljava/lang/String;"⟩ : MethodName)) (Wd := 0) (argsL := [(.int v493), (.int p0), (.int p1), (.int p2)]) (rest := []) W at_34 (ow0 hw) (ow1 hw) (ow2 hw) (ow3 hw) (by decide) (Cb.ct (orm_mk l Z a0 hw hE (v493) (p0) (p1) (p2) (z) h W.old SC hz ) (ow3 hw) (ow2 hw) hE (by decide) (by decide)) (by simp) rfl (lenOf opd4 rfl) rfl (Nat.le_of_eq rfl) (by decide) (by decide) rfl fun v502 so503 T498 h500 W499 kp501 sp504 q505 => ?_
    obtain ⟨r506, rfl, rfl, f507, f508⟩ := q505
    show Go K _ T498 37 #[.val (.int p0), .val (.int p1), .val (.int p2), .val (.int p3), .val (.int v493), .val (.int (0 : Int32)), .unset, .unset, .unset] [(.ref r506)]
    refine gAstore (ls' := #[.val (.int p0), .val (.int p1), .val (.int p2), .val (.int p3), .val (.int v493), .val (.int (0 : Int32)), .val (.ref r506), .unset, .unset]) W499 at_37 rfl rfl rfl ?_
    refine gAload W499 at_39 rfl rfl rfl ?_
    refine wStatic (y := (⟨"com/example/tallykeep/tallykeep/core/LedgerException", "conflict", "(Ljava/lang/String;)Lcom/example/tallykeep/tallykeep/core/LedgerException;"⟩ : MethodName)) (Wd := 0) (argsL := [(.ref r506)]) (rest := []) W499 at_41 (ow34 hw) (ow35 hw) (ow36 hw) (ow37 hw) (by decide) (Cb.ctK (orm_cfr l Z a0 hw hE (c) (r506) (us) (sn) h500 W499.old hMK hlt SUA rus SSE rsn SK ) (ow37 hw) (ow36 hw) hE hMK hFK (by decide) (by decide)) (by simp) rfl (lenOf opd5 rfl) rfl (Nat.le_of_eq rfl) (by decide) (by decide) rfl fun v513 so514 T509 h511 W510 kp512 sp515 q516 => ?_
    obtain ⟨r517, rfl, rfl, f518, f519, f520, f521⟩ := q516
    show Go K _ T509 44 #[.val (.int p0), .val (.int p1), .val (.int p2), .val (.int p3), .val (.int v493), .val (.int (0 : Int32)), .val (.ref r506), .unset, .unset] [(.ref r517)]
    refine gAstore (ls' := #[.val (.int p0), .val (.int p1), .val (.int p2), .val (.int p3), .val (.int v493), .val (.int (0 : Int32)), .val (.ref r506), .val (.ref r517), .unset]) W510 at_44 rfl rfl rfl ?_
    refine gAload W510 at_46 rfl rfl rfl ?_
    refine gIfnonnullYes (pc' := 53) W510 at_48 (by decide) rfl ?_
    refine gAload W510 at_53 rfl rfl rfl ?_
    refine wVirtual (y := (⟨"com/example/tallykeep/tallykeep/core/LedgerException", "kind", "()Lcom/example/tallykeep/tallykeep/core/LedgerException$Kind;"⟩ : MethodName)) (z := (⟨"com/example/tallykeep/tallykeep/core/LedgerException", "kind", "()Lcom/example/tallykeep/tallykeep/core/LedgerException$Kind;"⟩ : MethodName)) (Wd := 0) (a := r517) (argsL := []) (rest := []) W510 at_55 (ow96 hw) (ow97 hw) (ow99 hw) (ow98 hw) (nfS (ow99 hw)) (by decide) (Cb.ct (orm_kind l Z a0 hw hE (r517) (c) h511 W510.old f520 ) (ow100 hw) (ow36 hw) hE (by decide) (by decide)) f519 (by simp) rfl (lenOf opd6 rfl) rfl (Nat.le_of_eq rfl) (by decide) (by decide) rfl fun v526 so527 T522 h524 W523 kp525 sp528 q529 => ?_
    obtain ⟨rfl, rfl⟩ := q529
    show Go K _ T522 58 #[.val (.int p0), .val (.int p1), .val (.int p2), .val (.int p3), .val (.int v493), .val (.int (0 : Int32)), .val (.ref r506), .val (.ref r517), .unset] [(.ref c)]
    refine wGetS W523 at_58 (ow101 hw) Via.refl SK rfl fun T530 W531 => ?_
    refine gAcmp (pc' := 66) (same := true) W531 at_61 rfl rfl (decide_eq_true rfl) (by decide) rfl ?_
    refine gAload W531 at_66 rfl rfl rfl ?_
    have f532 := f521.keep kp525 nin0
    have f541 := f519.keep kp525
    refine wVirtualUp (y := (⟨"com/example/tallykeep/tallykeep/core/LedgerException", "getMessage", "()Ljava/lang/String;"⟩ : MethodName)) (z := (⟨"java/lang/Throwable", "getMessage", "()Ljava/lang/String;"⟩ : MethodName)) (owner := "java/lang/Throwable") (Wd := 0) (a := r517) (argsL := []) (rest := []) W531 at_68 (ow102 hw) (ow103 hw) (ow104 hw) (ow106 hw) (ow105 hw) (by decide) (Cb.ct (orm_gmr l Z a0 hw hE (r517) (r506) h524 W531.old f532 ) (ow107 hw) (ow55 hw) hE (by decide) (by decide)) f541 (by simp) rfl (lenOf opd7 rfl) rfl (Nat.le_of_eq rfl) (by decide) (by decide) rfl fun v537 so538 T533 h535 W534 kp536 sp539 q540 => ?_
    obtain ⟨rfl, rfl⟩ := q540
    show Go K _ T533 71 #[.val (.int p0), .val (.int p1), .val (.int p2), .val (.int p3), .val (.int v493), .val (.int (0 : Int32)), .val (.ref r506), .val (.ref r517), .unset] [(.ref r506)]
    refine gAstore (ls' := #[.val (.int p0), .val (.int p1), .val (.int p2), .val (.int p3), .val (.int v493), .val (.int (0 : Int32)), .val (.ref r506), .val (.ref r517), .val (.ref r506)]) W534 at_71 rfl rfl rfl ?_
    refine gAload W534 at_73 rfl rfl rfl ?_
    refine gIfnonnullYes (pc' := 89) W534 at_75 (by decide) rfl ?_
    refine gAload W534 at_89 rfl rfl rfl ?_
    refine gIfnullNo W534 at_91 rfl ?_
    refine gAload W534 at_94 rfl rfl rfl ?_
    refine gAload W534 at_96 rfl rfl rfl ?_
    have f550 := f508.keep kp512
    have f551 := f550.keep kp525
    have f552 := f551.keep kp536
    refine wVirtual (y := (⟨"java/lang/String", "equals", "(Ljava/lang/Object;)Z"⟩ : MethodName)) (z := (⟨"java/lang/String", "equals", "(Ljava/lang/Object;)Z"⟩ : MethodName)) (Wd := 0) (a := r506) (argsL := [(.ref r506)]) (rest := []) W534 at_98 (ow108 hw) (ow109 hw) (ow111 hw) (ow110 hw) (nfS (ow111 hw)) (by decide) (Cb.ct (orm_eqSame l Z a0 hw hE (r506) h535 W534.old  ) (ow112 hw) (ow7 hw) hE (by decide) (by decide)) f552 (by simp) rfl (lenOf opd8 rfl) rfl (Nat.le_of_eq rfl) (by decide) (by decide) rfl fun v546 so547 T542 h544 W543 kp545 sp548 q549 => ?_
    obtain ⟨rfl, rfl⟩ := q549
    show Go K _ T542 101 #[.val (.int p0), .val (.int p1), .val (.int p2), .val (.int p3), .val (.int v493), .val (.int (0 : Int32)), .val (.ref r506), .val (.ref r517), .val (.ref r506)] [(.int (1 : Int32))]
    refine gIfNo W543 at_101 ((if0 _ _).trans (feq (by decide)).1) rfl ?_
    refine gIconst (z := (1 : Int32)) W543 at_104 rfl rfl ?_
    refine gGoto (pc' := 109) W543 at_105 (by decide) rfl ?_
    exact wRetI (so := []) (t := .boolean) W543 at_109 (by simp) rfl (by decide) (by decide) (fun _ q => nomatch q) ⟨rfl, rfl⟩
  · refine gIfNo W at_8 ((if0 _ _).trans (feq c497).1) rfl ?_
    refine gIconst (z := (1 : Int32)) W at_11 rfl rfl ?_
    refine gGoto (pc' := 16) W at_12 (by decide) rfl ?_
    refine gIstore (ls' := #[.val (.int p0), .val (.int p1), .val (.int p2), .val (.int p3), .val (.int v493), .val (.int (1 : Int32)), .unset, .unset, .unset]) W at_16 rfl rfl ?_
    refine gIload W at_18 rfl rfl ?_
    refine gIfNo W at_20 ((if0 _ _).trans (feq (by decide)).1) rfl ?_
    refine gAconstNull W at_23 rfl ?_
    refine gAstore (ls' := #[.val (.int p0), .val (.int p1), .val (.int p2), .val (.int p3), .val (.int v493), .val (.int (1 : Int32)), .val .null, .unset, .unset]) W at_24 rfl rfl rfl ?_
    refine gGoto (pc' := 39) W at_26 (by decide) rfl ?_
    refine gAload W at_39 rfl rfl rfl ?_
    refine wStatic (y := (⟨"com/example/tallykeep/tallykeep/core/LedgerException", "conflict", "(Ljava/lang/String;)Lcom/example/tallykeep/tallykeep/core/LedgerException;"⟩ : MethodName)) (Wd := 0) (argsL := [.null]) (rest := []) W at_41 (ow34 hw) (ow35 hw) (ow36 hw) (ow37 hw) (by decide) (Cb.ctK (orm_cfn l Z a0 hw hE (c) (us) (sn) h W.old hMK hlt SUA rus SSE rsn SK ) (ow37 hw) (ow36 hw) hE hMK hFK (by decide) (by decide)) (by simp) rfl (lenOf opd5 rfl) rfl (Nat.le_of_eq rfl) (by decide) (by decide) rfl fun v557 so558 T553 h555 W554 kp556 sp559 q560 => ?_
    obtain ⟨r561, rfl, rfl, f562, f563, f564, f565⟩ := q560
    show Go K _ T553 44 #[.val (.int p0), .val (.int p1), .val (.int p2), .val (.int p3), .val (.int v493), .val (.int (1 : Int32)), .val .null, .unset, .unset] [(.ref r561)]
    refine gAstore (ls' := #[.val (.int p0), .val (.int p1), .val (.int p2), .val (.int p3), .val (.int v493), .val (.int (1 : Int32)), .val .null, .val (.ref r561), .unset]) W554 at_44 rfl rfl rfl ?_
    refine gAload W554 at_46 rfl rfl rfl ?_
    refine gIfnonnullYes (pc' := 53) W554 at_48 (by decide) rfl ?_
    refine gAload W554 at_53 rfl rfl rfl ?_
    refine wVirtual (y := (⟨"com/example/tallykeep/tallykeep/core/LedgerException", "kind", "()Lcom/example/tallykeep/tallykeep/core/LedgerException$Kind;"⟩ : MethodName)) (z := (⟨"com/example/tallykeep/tallykeep/core/LedgerException", "kind", "()Lcom/example/tallykeep/tallykeep/core/LedgerException$Kind;"⟩ : MethodName)) (Wd := 0) (a := r561) (argsL := []) (rest := []) W554 at_55 (ow96 hw) (ow97 hw) (ow99 hw) (ow98 hw) (nfS (ow99 hw)) (by decide) (Cb.ct (orm_kind l Z a0 hw hE (r561) (c) h555 W554.old f564 ) (ow100 hw) (ow36 hw) hE (by decide) (by decide)) f563 (by simp) rfl (lenOf opd6 rfl) rfl (Nat.le_of_eq rfl) (by decide) (by decide) rfl fun v570 so571 T566 h568 W567 kp569 sp572 q573 => ?_
    obtain ⟨rfl, rfl⟩ := q573
    show Go K _ T566 58 #[.val (.int p0), .val (.int p1), .val (.int p2), .val (.int p3), .val (.int v493), .val (.int (1 : Int32)), .val .null, .val (.ref r561), .unset] [(.ref c)]
    refine wGetS W567 at_58 (ow101 hw) Via.refl SK rfl fun T574 W575 => ?_
    refine gAcmp (pc' := 66) (same := true) W575 at_61 rfl rfl (decide_eq_true rfl) (by decide) rfl ?_
    refine gAload W575 at_66 rfl rfl rfl ?_
    have f576 := f565.keep kp569 nin0
    have f585 := f563.keep kp569
    refine wVirtualUp (y := (⟨"com/example/tallykeep/tallykeep/core/LedgerException", "getMessage", "()Ljava/lang/String;"⟩ : MethodName)) (z := (⟨"java/lang/Throwable", "getMessage", "()Ljava/lang/String;"⟩ : MethodName)) (owner := "java/lang/Throwable") (Wd := 0) (a := r561) (argsL := []) (rest := []) W575 at_68 (ow102 hw) (ow103 hw) (ow104 hw) (ow106 hw) (ow105 hw) (by decide) (Cb.ct (orm_gmn l Z a0 hw hE (r561) h568 W575.old f576 ) (ow107 hw) (ow55 hw) hE (by decide) (by decide)) f585 (by simp) rfl (lenOf opd7 rfl) rfl (Nat.le_of_eq rfl) (by decide) (by decide) rfl fun v581 so582 T577 h579 W578 kp580 sp583 q584 => ?_
    obtain ⟨rfl, rfl⟩ := q584
    show Go K _ T577 71 #[.val (.int p0), .val (.int p1), .val (.int p2), .val (.int p3), .val (.int v493), .val (.int (1 : Int32)), .val .null, .val (.ref r561), .unset] [.null]
    refine gAstore (ls' := #[.val (.int p0), .val (.int p1), .val (.int p2), .val (.int p3), .val (.int v493), .val (.int (1 : Int32)), .val .null, .val (.ref r561), .val .null]) W578 at_71 rfl rfl rfl ?_
    refine gAload W578 at_73 rfl rfl rfl ?_
    refine gIfnonnullNo W578 at_75 rfl ?_
    refine gAload W578 at_78 rfl rfl rfl ?_
    refine gIfnonnullNo W578 at_80 rfl ?_
    refine gIconst (z := (1 : Int32)) W578 at_83 rfl rfl ?_
    refine gGoto (pc' := 88) W578 at_84 (by decide) rfl ?_
    exact wRetI (so := []) (t := .boolean) W578 at_88 (by simp) rfl (by decide) (by decide) (fun _ q => nomatch q) ⟨rfl, rfl⟩
set_option maxRecDepth 65536 in
set_option maxHeartbeats 40000000 in
theorem comes_1 {Post : Tables → Env → Array Value → State → Outcome → State → Prop} (hpost : ∀ tb e args s v u, (limb_1_1.after args s (.returned v) u = true ∧ limb_1_2.after args s (.returned v) u = true ∧ True) → FramedW s (.returned v) u (Jvm.fieldLocs frame_1_writes args s ++ Jvm.arrayLocs frame_1_arrays args s ++ Jvm.staticLocs frame_1_statics s) 24 6656 → Post tb e args s (.returned v) u) :
    ArmFor flags0 classFile x code maxLocals ret World_1 tables_1 room_1 Calls_1 rest_1 Pre_1 Post := by
  intro l hfl _ _ p e ha hc hk s m args below hf hA hF happ hP
  obtain ⟨hcalls, hrest, hpre⟩ := hP
  obtain ⟨-, -, -, hnamed, -, -, -, hat⟩ := (Spec.applies_iff hf).mp happ
  obtain ⟨hg, hn⟩ := and_e (Cond.before_iff.mp (show (Jvm.Cond.and given_1 narrow_1).before args s = true from hpre))
  obtain ⟨hcount, hg0⟩ := and_e hg
  obtain ⟨hi0, hg1⟩ := and_e hg0
  obtain ⟨hi1, hg2⟩ := and_e hg1
  obtain ⟨hi2, hg3⟩ := and_e hg2
  have hi3 := hg3
  obtain ⟨w0, w1, w2, w3, rfl⟩ : ∃ w0 w1 w2 w3 : Value, args = #[w0, w1, w2, w3] := by
    have hs : args.size = 4 := by simpa [Cond.value, given_1] using hcount
    obtain ⟨L⟩ := args
    match L, hs with
    | [w0, w1, w2, w3], _ => exact ⟨w0, w1, w2, w3, rfl⟩
  have hw := fun d (hd : d ∈ tables_1) => atoms_spec (ws := Jvm.Cond.code x code maxLocals ret :: tables_1) hat d (List.mem_cons_of_mem _ hd)
  obtain ⟨hsets, hown0⟩ := atoms_of _ (rest_1_c_eq ▸ (show rest_1_c.before _ s = true from hrest))
  obtain ⟨i0, ei0⟩ := is_v hi0
  obtain rfl : w0 = (.int i0) := Option.some.inj ei0
  obtain ⟨i1, ei1⟩ := is_v hi1
  obtain rfl : w1 = (.int i1) := Option.some.inj ei1
  obtain ⟨i2, ei2⟩ := is_v hi2
  obtain rfl : w2 = (.int i2) := Option.some.inj ei2
  obtain ⟨i3, ei3⟩ := is_v hi3
  obtain rfl : w3 = (.int i3) := Option.some.inj ei3
  have n5 := not_v (Cond.before_iff.mp (hsets _ (List.mem_of_getElem? (i := 2) rfl)))
  obtain ⟨iz, ez⟩ := is_v (Cond.before_iff.mp (hsets _ (List.mem_of_getElem? (i := 1) rfl)))
  have SC : Sta s s.heap "java/lang/String" "COMPACT_STRINGS" "Z" (.int iz) := Sta.start ez (Or.inl (hsets _ (List.mem_of_getElem? (i := 0) rfl)))
  have hz : ¬ (iz = (0 : Int32)) := gotF (Cond.eq_ints ez (Term.int_eval (0))) n5
  have hfit : Fit s := fun {y c} hc i hi => by
    obtain ⟨ha, rfl⟩ := Array.getElem?_eq_some_iff.mp hc
    have q := List.all_eq_true.mp ((Array.all_eq_true_iff_forall_mem.mp hF) _ (Array.getElem_mem ha)) i (List.mem_range.mpr hi)
    simpa [Array.getElem?_eq_getElem hi] using q
  have hMK : s.vm.MethodsKnown := MethodsKnown_of_tablesKnown hcalls.2.1
  have hlt : l.stackTraces = true := by rw [Launch.stackTraces, hfl]; decide
  obtain ⟨us, eus, rus⟩ := isR_v (Cond.before_iff.mp (hsets _ (List.mem_of_getElem? (i := 16) rfl)))
  have SUA : Sta s s.heap "java/lang/Throwable" "UNASSIGNED_STACK" "[Ljava/lang/StackTraceElement;" us := Sta.start eus (Or.inl (hsets _ (List.mem_of_getElem? (i := 15) rfl)))
  obtain ⟨sn, esn, rsn⟩ := isR_v (Cond.before_iff.mp (hsets _ (List.mem_of_getElem? (i := 21) rfl)))
  have SSE : Sta s s.heap "java/lang/Throwable" "SUPPRESSED_SENTINEL" "Ljava/util/List;" sn := Sta.start esn (Or.inl (hsets _ (List.mem_of_getElem? (i := 20) rfl)))
  obtain ⟨cc, ec⟩ := exa_v hn
  have SK : Sta s s.heap "com/example/tallykeep/tallykeep/core/LedgerException$Kind" "CONFLICT" "Lcom/example/tallykeep/tallykeep/core/LedgerException$Kind;" (.ref cc) := Sta.start ec (Or.inr ⟨(ow41 hw), (ow42 hw)⟩)
  have hE : EW s #[(.int i0), (.int i1), (.int i2), (.int i3)] consts_1 := (EW.cons (ow113 hw) (by decide) EW.nil)
  have hcw : Jvm.Lit.compactW.before _ s = true := (hsets _ (List.mem_of_getElem? (i := 2) rfl))
  have hCH : CHv s consts_1 s.vm s.heap := CHv.start hE (fun q hq => (hcalls.2.2.1 : constsHeld consts_1 s) q hq) hcw (owS hw _ (by simp [Bundle.stringAtoms])) (hws' hw)
  obtain ⟨n, o, h1, h2, h3, v, L, so, rfl, hQ, -, hL, -, hq⟩ := orm_law l s _ hw hE i0 i1 i2 i3 iz cc us sn s.heap (Old.start s) SC hz hMK hlt SUA rus SSE rsn SK tables_1 p e ha hc hk s m _ below hf ((Spec.applies_iff_loose hf).mp happ).1 ⟨rfl, State.Warmed39.refl s, rfl, hCH, fun _ q => nomatch q⟩ (FramesKnown_of_framesKnown hcalls.1 hf)
  obtain ⟨rfl, -⟩ := hQ
  refine ⟨n, _, h1, h2, h3, hpost _ _ _ _ _ _ ⟨Cond.after_iff.mpr rfl, Cond.after_iff.mpr (eq_i res_at (Term.int_eval (1)) rfl), trivial⟩ ⟨hq.1, hq.2.1, hq.2.2.1, (hq.2.2.2.sift fun y hy => Or.inr ?_).mono (by decide) (by decide)⟩⟩
  rcases hL y hy with z | z
  · cases z
  · exact z
theorem main_1_1 : Claimed_1_1 := comes_1 fun _ _ _ _ _ _ h hF => ⟨h.1, hF⟩
theorem main_1_2 : Claimed_1_2 := comes_1 fun _ _ _ _ _ _ h hF => ⟨h.2.1, hF⟩
end Jvm.Pilot.@@N@@
namespace Jvm.Pilot.@@N@@
open Jvm Jvm.ClassFile Sem Op Lib Jvm.Free Jvm.Stand Jvm.Pilot.@@N@@.Jvm.D
/-! MADE BY PROGRAM (witnessworld.py) out of the Statement's table words and the real class files: 37 classes; the members and pool entries that the words name. The judged class is class 1, her method 1. -/
namespace start1
open Jvm.ClassFile
def u (s : String) : CpInfo := .utf8 (stringToUtf16 s)
/-- a pool by its gaps: so many unusable entries, then the entry; so many at the end -/
def gap : Nat → List CpInfo → List CpInfo
  | 0, r => r
  | n + 1, r => .unusable :: gap n r
def poolList (es : List (Nat × CpInfo)) (last : Nat) : List CpInfo := es.foldr (fun e r => gap e.1 (e.2 :: r)) (gap last [])
def pool (es : List (Nat × CpInfo)) (last : Nat) : Array CpInfo := ⟨poolList es last⟩
def fileOf (pool : Array CpInfo) (this : Nat) (attrs : Array Attribute := #[]) (ms : Array MethodInfo := #[]) (fl : Nat := 33) (sup : Nat := 0) (ifs : Array Nat := #[]) (fds : Array FieldInfo := #[]) : ClassFile where
  minorVersion := 0
  majorVersion := 65
  constantPool := pool
  accessFlags := fl
  thisClass := this
  superClass := sup
  interfaces := ifs
  fields := fds
  methods := ms
  attributes := attrs
def plain (name : String) (sup : Option ClassId) : Class where
  name := name
  kind := .ordinary
  loader := none
  accessFlags := 33
  super := sup
  interfaces := #[]
  cf := none
  fields := #[]
  methods := #[]
  instanceTypes := #[]
  staticTypes := #[]
  resolved := #[]
  callSites := []
  init := .initialized
  statics := none
  mirror := none

def pool0 : Array CpInfo := pool [(5, u "<init>"), (0, u "()V"), (1, .class_ 10), (1, u "java/lang/Object")] 113

def k0c0 : Code := { maxStack := 0, maxLocals := 1, code := object_method_1_code, exceptionTable := #[], attributes := #[] }
def k0m0 : Method := { name := "<init>", desc := "()V", sig := { parameters := [], returnType := none }, accessFlags := 1, code := some k0c0 }
/-- java/lang/Object -/
def k0 : Class := { plain "java/lang/Object" none with
  accessFlags := 33
  interfaces := #[]
  cf := some (fileOf pool0 8 #[] #[{ accessFlags := 1, nameIndex := 5, descriptorIndex := 6, attributes := #[] }] 33 0 #[] #[])
  fields := #[]
  methods := #[k0m0]
  instanceTypes := #[]
  staticTypes := #[]
  resolved := Array.replicate 124 none
  statics := none }

def pool1 : Array CpInfo := pool [(2, .class_ 4), (1, u "java/lang/Object"), (0, u "<init>"), (0, u "()V"), (0, .methodref 8 9), (0, .class_ 10), (0, .nameAndType 11 12), (0, u "com/example/tallykeep/tallykeep/core/LedgerExceptionConflictPinLaw"), (0, u "make"), (0, u "(IIII)Ljava/lang/String;"), (0, .methodref 14 15), (0, .class_ 16), (0, .nameAndType 17 18), (0, u "com/example/tallykeep/tallykeep/core/LedgerException"), (0, u "conflict"), (0, u "(Ljava/lang/String;)Lcom/example/tallykeep/tallykeep/core/LedgerException;"), (0, .methodref 14 20), (0, .nameAndType 21 22), (0, u "kind"), (0, u "()Lcom/example/tallykeep/tallykeep/core/LedgerException$Kind;"), (0, .fieldref 24 25), (0, .class_ 26), (0, .nameAndType 27 28), (0, u "com/example/tallykeep/tallykeep/core/LedgerException$Kind"), (0, u "CONFLICT"), (0, u "Lcom/example/tallykeep/tallykeep/core/LedgerException$Kind;"), (0, .methodref 14 30), (0, .nameAndType 31 32), (0, u "getMessage"), (0, u "()Ljava/lang/String;"), (0, .methodref 34 35), (0, .class_ 36), (0, .nameAndType 37 38), (0, u "java/lang/String"), (0, u "equals"), (0, u "(Ljava/lang/Object;)Z"), (0, .methodref 34 40), (0, .nameAndType 5 41), (0, u "([C)V"), (2, u "law"), (0, u "(IIII)Z")] 5

def k1m0 : Method := { name := "<init>", desc := "()V", sig := { parameters := [], returnType := none }, accessFlags := 1, code := none }
def k1c1 : Code := { maxStack := 4, maxLocals := 9, code := code, exceptionTable := #[], attributes := #[] }
def k1m1 : Method := { name := "law", desc := "(IIII)Z", sig := { parameters := [.int, .int, .int, .int], returnType := some .boolean }, accessFlags := 9, code := some k1c1 }
def k1c2 : Code := { maxStack := 3, maxLocals := 8, code := method_3_code, exceptionTable := #[], attributes := #[] }
def k1m2 : Method := { name := "make", desc := "(IIII)Ljava/lang/String;", sig := { parameters := [.int, .int, .int, .int], returnType := some (.object "java/lang/String") }, accessFlags := 10, code := some k1c2 }
/-- com/example/tallykeep/tallykeep/core/LedgerExceptionConflictPinLaw -/
def k1 : Class := { plain "com/example/tallykeep/tallykeep/core/LedgerExceptionConflictPinLaw" (some 0) with
  accessFlags := 49
  interfaces := #[]
  cf := some (fileOf pool1 8 #[] #[{ accessFlags := 1, nameIndex := 5, descriptorIndex := 6, attributes := #[] }, { accessFlags := 9, nameIndex := 44, descriptorIndex := 45, attributes := #[] }, { accessFlags := 10, nameIndex := 11, descriptorIndex := 12, attributes := #[] }] 49 2 #[] #[])
  fields := #[]
  methods := #[k1m0, k1m1, k1m2]
  instanceTypes := #[]
  staticTypes := #[]
  resolved := Array.replicate 51 none
  statics := none }

def pool2 : Array CpInfo := pool [(1, .class_ 2), (0, u "java/io/Serializable"), (0, .class_ 4), (0, u "java/lang/Object")] 2

/-- java/io/Serializable -/
def k2 : Class := { plain "java/io/Serializable" (some 0) with
  accessFlags := 1537
  interfaces := #[]
  cf := some (fileOf pool2 1 #[] #[] 1537 3 #[] #[])
  fields := #[]
  methods := #[]
  instanceTypes := #[]
  staticTypes := #[]
  resolved := Array.replicate 7 none
  statics := none }

def pool3 : Array CpInfo := pool [(1, .class_ 2), (0, u "java/lang/Comparable"), (0, .class_ 4), (0, u "java/lang/Object")] 7

/-- java/lang/Comparable -/
def k3 : Class := { plain "java/lang/Comparable" (some 0) with
  accessFlags := 1537
  interfaces := #[]
  cf := some (fileOf pool3 1 #[] #[] 1537 3 #[] #[])
  fields := #[]
  methods := #[]
  instanceTypes := #[]
  staticTypes := #[]
  resolved := Array.replicate 12 none
  statics := none }

def pool4 : Array CpInfo := pool [(2, .class_ 4), (1, u "java/lang/CharSequence"), (42, .class_ 48), (0, u "java/lang/CharSequence$1CodePointIterator"), (10, .class_ 60), (0, u "java/lang/CharSequence$1CharIterator"), (5, .class_ 67), (0, u "java/lang/Object")] 63

/-- java/lang/CharSequence -/
def k4 : Class := { plain "java/lang/CharSequence" (some 0) with
  accessFlags := 1537
  interfaces := #[]
  cf := some (fileOf pool4 2 #[.nestMembers #[47, 59]] #[] 1537 66 #[] #[])
  fields := #[]
  methods := #[]
  instanceTypes := #[]
  staticTypes := #[]
  resolved := Array.replicate 131 none
  statics := none }

def pool5 : Array CpInfo := pool [(1, .class_ 2), (0, u "java/lang/constant/Constable"), (0, .class_ 4), (0, u "java/lang/Object")] 6

/-- java/lang/constant/Constable -/
def k5 : Class := { plain "java/lang/constant/Constable" (some 0) with
  accessFlags := 1537
  interfaces := #[]
  cf := some (fileOf pool5 1 #[] #[] 1537 3 #[] #[])
  fields := #[]
  methods := #[]
  instanceTypes := #[]
  staticTypes := #[]
  resolved := Array.replicate 11 none
  statics := none }

def pool6 : Array CpInfo := pool [(1, .class_ 2), (0, u "java/lang/constant/ConstantDesc"), (0, .class_ 4), (0, u "java/lang/Object")] 32

/-- java/lang/constant/ConstantDesc -/
def k6 : Class := { plain "java/lang/constant/ConstantDesc" (some 0) with
  accessFlags := 1537
  interfaces := #[]
  cf := some (fileOf pool6 1 #[] #[] 1537 3 #[] #[])
  fields := #[]
  methods := #[]
  instanceTypes := #[]
  staticTypes := #[]
  resolved := Array.replicate 37 none
  statics := none }

def pool7 : Array CpInfo := pool [(1, .methodref 2 3), (0, .class_ 4), (0, .nameAndType 5 6), (0, u "java/lang/Object"), (0, u "<init>"), (0, u "()V"), (0, .string 8), (0, u ""), (0, .fieldref 10 11), (0, .class_ 12), (0, .nameAndType 13 14), (0, u "java/lang/String"), (0, u "value"), (0, u "[B"), (0, .fieldref 10 16), (0, .nameAndType 17 18), (0, u "coder"), (0, u "B"), (2, u "hash"), (0, u "I"), (2, u "hashIsZero"), (0, u "Z"), (0, .methodref 10 28), (0, .nameAndType 5 29), (0, u "([CIILjava/lang/Void;)V"), (8, .fieldref 10 39), (0, .nameAndType 40 26), (0, u "COMPACT_STRINGS"), (1, .class_ 44), (1, u "java/lang/StringUTF16"), (0, u "compress"), (1, .methodref 42 48), (0, .nameAndType 49 50), (0, u "coderFromArrayLen"), (0, u "([BI)B"), (126, .methodref 42 178), (0, .nameAndType 45 179), (0, u "([CII)[B"), (363, u "equals"), (29, u "(Ljava/lang/Object;)Z"), (1, .class_ 576), (0, u "java/lang/CharSequence"), (22, u "CASE_INSENSITIVE_ORDER"), (0, u "Ljava/util/Comparator;"), (409, u "([C)V"), (90, u "serialPersistentFields"), (0, u "[Ljava/io/ObjectStreamField;"), (0, .class_ 1104), (0, u "java/lang/String$CaseInsensitiveComparator"), (1, .class_ 1107), (0, u "java/io/Serializable"), (0, .class_ 1109), (0, u "java/lang/Comparable"), (0, .class_ 1111), (0, u "java/lang/constant/Constable"), (0, .class_ 1113), (0, u "java/lang/constant/ConstantDesc"), (2, u "serialVersionUID"), (0, u "J"), (3, u "REPL"), (0, u "C"), (2, u "LATIN1"), (1, u "UTF16")] 323

def k7m0 : Method := { name := "<init>", desc := "()V", sig := { parameters := [], returnType := none }, accessFlags := 1, code := none }
def k7c1 : Code := { maxStack := 5, maxLocals := 2, code := jdk_42_method_3_code, exceptionTable := #[], attributes := #[] }
def k7m1 : Method := { name := "<init>", desc := "([C)V", sig := { parameters := [(.array .char)], returnType := none }, accessFlags := 1, code := some k7c1 }
def k7c2 : Code := { maxStack := 2, maxLocals := 3, code := jdk_42_method_66_code, exceptionTable := #[], attributes := #[] }
def k7m2 : Method := { name := "equals", desc := "(Ljava/lang/Object;)Z", sig := { parameters := [(.object "java/lang/Object")], returnType := some .boolean }, accessFlags := 1, code := some k7c2 }
def k7c3 : Code := { maxStack := 4, maxLocals := 6, code := jdk_42_method_149_code, exceptionTable := #[], attributes := #[] }
def k7m3 : Method := { name := "<init>", desc := "([CIILjava/lang/Void;)V", sig := { parameters := [(.array .char), .int, .int, (.object "java/lang/Void")], returnType := none }, accessFlags := 2, code := some k7c3 }
/-- java/lang/String -/
def k7 : Class := { plain "java/lang/String" (some 0) with
  accessFlags := 49
  interfaces := #[2, 3, 4, 5, 6]
  cf := some (fileOf pool7 10 #[.nestMembers #[1103]] #[{ accessFlags := 1, nameIndex := 5, descriptorIndex := 6, attributes := #[] }, { accessFlags := 1, nameIndex := 5, descriptorIndex := 1010, attributes := #[] }, { accessFlags := 1, nameIndex := 543, descriptorIndex := 573, attributes := #[] }, { accessFlags := 2, nameIndex := 5, descriptorIndex := 29, attributes := #[] }] 49 2 #[1106, 1108, 575, 1110, 1112] #[{ accessFlags := 18, nameIndex := 13, descriptorIndex := 14, attributes := #[] }, { accessFlags := 18, nameIndex := 17, descriptorIndex := 18, attributes := #[] }, { accessFlags := 2, nameIndex := 21, descriptorIndex := 22, attributes := #[] }, { accessFlags := 2, nameIndex := 25, descriptorIndex := 26, attributes := #[] }, { accessFlags := 26, nameIndex := 1116, descriptorIndex := 1117, attributes := #[] }, { accessFlags := 24, nameIndex := 40, descriptorIndex := 26, attributes := #[] }, { accessFlags := 26, nameIndex := 1101, descriptorIndex := 1102, attributes := #[] }, { accessFlags := 26, nameIndex := 1121, descriptorIndex := 1122, attributes := #[] }, { accessFlags := 25, nameIndex := 599, descriptorIndex := 600, attributes := #[] }, { accessFlags := 24, nameIndex := 1125, descriptorIndex := 18, attributes := #[] }, { accessFlags := 24, nameIndex := 1127, descriptorIndex := 18, attributes := #[] }])
  fields := #[{ name := "value", type := (.array .byte), accessFlags := 18, slot := 0, constantValue := 0 }, { name := "coder", type := .byte, accessFlags := 18, slot := 1, constantValue := 0 }, { name := "hash", type := .int, accessFlags := 2, slot := 2, constantValue := 0 }, { name := "hashIsZero", type := .boolean, accessFlags := 2, slot := 3, constantValue := 0 }, { name := "serialVersionUID", type := .long, accessFlags := 26, slot := 0, constantValue := 0 }, { name := "COMPACT_STRINGS", type := .boolean, accessFlags := 24, slot := 1, constantValue := 0 }, { name := "serialPersistentFields", type := (.array (.object "java/io/ObjectStreamField")), accessFlags := 26, slot := 2, constantValue := 0 }, { name := "REPL", type := .char, accessFlags := 26, slot := 3, constantValue := 0 }, { name := "CASE_INSENSITIVE_ORDER", type := (.object "java/util/Comparator"), accessFlags := 25, slot := 4, constantValue := 0 }, { name := "LATIN1", type := .byte, accessFlags := 24, slot := 5, constantValue := 0 }, { name := "UTF16", type := .byte, accessFlags := 24, slot := 6, constantValue := 0 }]
  methods := #[k7m0, k7m1, k7m2, k7m3]
  instanceTypes := #[(.array .byte), .byte, .int, .boolean]
  staticTypes := #[.long, .boolean, (.array (.object "java/io/ObjectStreamField")), .char, (.object "java/util/Comparator"), .byte, .byte]
  resolved := Array.replicate 1451 none
  statics := some 0 }

def pool8 : Array CpInfo := pool [(6, .class_ 8), (1, u "java/lang/Object"), (0, u "<init>"), (0, u "()V"), (1, .class_ 14), (1, u "java/lang/StringUTF16"), (31, u "$assertionsDisabled"), (0, u "Z"), (13, u "HI_BYTE_SHIFT"), (0, u "I"), (2, u "LO_BYTE_SHIFT"), (49, .methodref 12 116), (0, .nameAndType 117 118), (0, u "compress"), (0, u "([CI[BII)I"), (3, u "([CII)[B"), (138, u "coderFromArrayLen"), (0, u "([BI)B"), (106, .class_ 371), (1, u "java/lang/StringUTF16$LinesSpliterator"), (58, u "MAX_LENGTH"), (196, .class_ 628), (0, u "java/lang/StringUTF16$CodePointsSpliterator"), (0, .class_ 630), (0, u "java/lang/StringUTF16$CharsSpliterator")] 4

def k8m0 : Method := { name := "<init>", desc := "()V", sig := { parameters := [], returnType := none }, accessFlags := 0, code := none }
def k8c1 : Code := { maxStack := 2, maxLocals := 2, code := jdk_52_method_15_code, exceptionTable := #[], attributes := #[] }
def k8m1 : Method := { name := "coderFromArrayLen", desc := "([BI)B", sig := { parameters := [(.array .byte), .int], returnType := some .byte }, accessFlags := 8, code := some k8c1 }
def k8c2 : Code := { maxStack := 5, maxLocals := 6, code := jdk_52_method_16_code, exceptionTable := #[], attributes := #[] }
def k8m2 : Method := { name := "compress", desc := "([CII)[B", sig := { parameters := [(.array .char), .int, .int], returnType := some (.array .byte) }, accessFlags := 9, code := some k8c2 }
def k8c3 : Code := { maxStack := 3, maxLocals := 7, code := jdk_52_method_21_code, exceptionTable := #[], attributes := #[] }
def k8m3 : Method := { name := "compress", desc := "([CI[BII)I", sig := { parameters := [(.array .char), .int, (.array .byte), .int, .int], returnType := some .int }, accessFlags := 9, code := some k8c3 }
/-- java/lang/StringUTF16 -/
def k8 : Class := { plain "java/lang/StringUTF16" (some 0) with
  accessFlags := 48
  interfaces := #[]
  cf := some (fileOf pool8 12 #[.nestMembers #[627, 629, 369]] #[{ accessFlags := 0, nameIndex := 9, descriptorIndex := 10, attributes := #[] }, { accessFlags := 8, nameIndex := 261, descriptorIndex := 262, attributes := #[] }, { accessFlags := 9, nameIndex := 117, descriptorIndex := 122, attributes := #[] }, { accessFlags := 9, nameIndex := 117, descriptorIndex := 118, attributes := #[] }] 48 6 #[] #[{ accessFlags := 26, nameIndex := 61, descriptorIndex := 62, attributes := #[] }, { accessFlags := 26, nameIndex := 65, descriptorIndex := 62, attributes := #[] }, { accessFlags := 24, nameIndex := 430, descriptorIndex := 62, attributes := #[] }, { accessFlags := 4120, nameIndex := 46, descriptorIndex := 47, attributes := #[] }])
  fields := #[{ name := "HI_BYTE_SHIFT", type := .int, accessFlags := 26, slot := 0, constantValue := 0 }, { name := "LO_BYTE_SHIFT", type := .int, accessFlags := 26, slot := 1, constantValue := 0 }, { name := "MAX_LENGTH", type := .int, accessFlags := 24, slot := 2, constantValue := 0 }, { name := "$assertionsDisabled", type := .boolean, accessFlags := 4120, slot := 3, constantValue := 0 }]
  methods := #[k8m0, k8m1, k8m2, k8m3]
  instanceTypes := #[]
  staticTypes := #[.int, .int, .int, .boolean]
  resolved := Array.replicate 635 none
  statics := none }

def pool9 : Array CpInfo := pool [(1, .methodref 2 3), (0, .class_ 4), (0, .nameAndType 5 6), (0, u "java/lang/Object"), (0, u "<init>"), (0, u "()V"), (0, .fieldref 8 9), (0, .class_ 10), (0, .nameAndType 11 12), (0, u "java/lang/Throwable"), (0, u "cause"), (0, u "Ljava/lang/Throwable;"), (0, .fieldref 8 14), (0, .nameAndType 15 16), (0, u "UNASSIGNED_STACK"), (0, u "[Ljava/lang/StackTraceElement;"), (0, .fieldref 8 18), (0, .nameAndType 19 16), (0, u "stackTrace"), (0, .fieldref 8 21), (0, .nameAndType 22 23), (0, u "SUPPRESSED_SENTINEL"), (0, u "Ljava/util/List;"), (0, .fieldref 8 25), (0, .nameAndType 26 23), (0, u "suppressedExceptions"), (0, .methodref 8 28), (0, .nameAndType 29 30), (0, u "fillInStackTrace"), (0, u "()Ljava/lang/Throwable;"), (0, .fieldref 8 32), (0, .nameAndType 33 34), (0, u "detailMessage"), (0, u "Ljava/lang/String;"), (3, u "()Ljava/lang/String;"), (2, u "getMessage"), (51, .class_ 94), (0, u "java/lang/Throwable$WrappedPrintStream"), (6, .class_ 103), (1, u "java/lang/Throwable$PrintStreamOrWriter"), (61, u "$assertionsDisabled"), (0, u "Z"), (26, .class_ 194), (0, u "java/lang/Throwable$WrappedPrintWriter"), (3, .fieldref 8 199), (0, .nameAndType 200 201), (0, u "backtrace"), (0, u "Ljava/lang/Object;"), (0, .methodref 8 203), (0, .nameAndType 29 204), (0, u "(I)Ljava/lang/Throwable;"), (6, u "depth"), (0, u "I"), (10, u "(Ljava/lang/String;)V"), (45, .class_ 271), (1, u "java/lang/Throwable$SentinelHolder"), (32, u "EMPTY_THROWABLE_ARRAY"), (0, u "[Ljava/lang/Throwable;"), (12, .class_ 319), (0, u "java/io/Serializable"), (0, u "serialVersionUID"), (0, u "J"), (5, u "NULL_CAUSE_MESSAGE"), (0, u "SELF_SUPPRESSION_MESSAGE"), (0, u "CAUSE_CAPTION"), (0, u "SUPPRESSED_CAPTION")] 73

def k9c0 : Code := { maxStack := 2, maxLocals := 1, code := jdk_78_method_1_code, exceptionTable := #[], attributes := #[] }
def k9m0 : Method := { name := "<init>", desc := "()V", sig := { parameters := [], returnType := none }, accessFlags := 1, code := some k9c0 }
def k9c1 : Code := { maxStack := 2, maxLocals := 2, code := jdk_78_method_2_code, exceptionTable := #[], attributes := #[] }
def k9m1 : Method := { name := "<init>", desc := "(Ljava/lang/String;)V", sig := { parameters := [(.object "java/lang/String")], returnType := none }, accessFlags := 1, code := some k9c1 }
def k9c2 : Code := { maxStack := 1, maxLocals := 1, code := jdk_78_method_6_code, exceptionTable := #[], attributes := #[] }
def k9m2 : Method := { name := "getMessage", desc := "()Ljava/lang/String;", sig := { parameters := [], returnType := some (.object "java/lang/String") }, accessFlags := 1, code := some k9c2 }
def k9c3 : Code := { maxStack := 2, maxLocals := 1, code := ⟨#[0x2a, 0xb4, 0x00, 0x11, 0xc7, 0x00, 0x0a, 0x2a, 0xb4, 0x00, 0xc6, 0xc6, 0x00, 0x10, 0x2a, 0x03, 0xb6, 0x00, 0xca, 0x57, 0x2a, 0xb2, 0x00, 0x0d, 0xb5, 0x00, 0x11, 0x2a, 0xb0]⟩, exceptionTable := #[], attributes := #[] }
def k9m3 : Method := { name := "fillInStackTrace", desc := "()Ljava/lang/Throwable;", sig := { parameters := [], returnType := some (.object "java/lang/Throwable") }, accessFlags := 33, code := some k9c3 }
def k9m4 : Method := { name := "fillInStackTrace", desc := "(I)Ljava/lang/Throwable;", sig := { parameters := [.int], returnType := some (.object "java/lang/Throwable") }, accessFlags := 258, code := none }
/-- java/lang/Throwable -/
def k9 : Class := { plain "java/lang/Throwable" (some 0) with
  accessFlags := 33
  interfaces := #[2]
  cf := some (fileOf pool9 8 #[.nestMembers #[193, 93, 101, 269]] #[{ accessFlags := 1, nameIndex := 5, descriptorIndex := 6, attributes := #[] }, { accessFlags := 1, nameIndex := 5, descriptorIndex := 223, attributes := #[] }, { accessFlags := 1, nameIndex := 41, descriptorIndex := 38, attributes := #[] }, { accessFlags := 33, nameIndex := 29, descriptorIndex := 30, attributes := #[] }, { accessFlags := 258, nameIndex := 29, descriptorIndex := 204, attributes := #[] }] 33 2 #[318] #[{ accessFlags := 26, nameIndex := 320, descriptorIndex := 321, attributes := #[] }, { accessFlags := 130, nameIndex := 200, descriptorIndex := 201, attributes := #[] }, { accessFlags := 2, nameIndex := 33, descriptorIndex := 34, attributes := #[] }, { accessFlags := 26, nameIndex := 15, descriptorIndex := 16, attributes := #[] }, { accessFlags := 2, nameIndex := 11, descriptorIndex := 12, attributes := #[] }, { accessFlags := 2, nameIndex := 19, descriptorIndex := 16, attributes := #[] }, { accessFlags := 130, nameIndex := 211, descriptorIndex := 212, attributes := #[] }, { accessFlags := 26, nameIndex := 22, descriptorIndex := 23, attributes := #[] }, { accessFlags := 2, nameIndex := 26, descriptorIndex := 23, attributes := #[] }, { accessFlags := 26, nameIndex := 327, descriptorIndex := 34, attributes := #[] }, { accessFlags := 26, nameIndex := 328, descriptorIndex := 34, attributes := #[] }, { accessFlags := 26, nameIndex := 329, descriptorIndex := 34, attributes := #[] }, { accessFlags := 26, nameIndex := 330, descriptorIndex := 34, attributes := #[] }, { accessFlags := 26, nameIndex := 304, descriptorIndex := 305, attributes := #[] }, { accessFlags := 4120, nameIndex := 165, descriptorIndex := 166, attributes := #[] }])
  fields := #[{ name := "serialVersionUID", type := .long, accessFlags := 26, slot := 0, constantValue := 0 }, { name := "backtrace", type := (.object "java/lang/Object"), accessFlags := 130, slot := 0, constantValue := 0 }, { name := "detailMessage", type := (.object "java/lang/String"), accessFlags := 2, slot := 1, constantValue := 0 }, { name := "UNASSIGNED_STACK", type := (.array (.object "java/lang/StackTraceElement")), accessFlags := 26, slot := 1, constantValue := 0 }, { name := "cause", type := (.object "java/lang/Throwable"), accessFlags := 2, slot := 2, constantValue := 0 }, { name := "stackTrace", type := (.array (.object "java/lang/StackTraceElement")), accessFlags := 2, slot := 3, constantValue := 0 }, { name := "depth", type := .int, accessFlags := 130, slot := 4, constantValue := 0 }, { name := "SUPPRESSED_SENTINEL", type := (.object "java/util/List"), accessFlags := 26, slot := 2, constantValue := 0 }, { name := "suppressedExceptions", type := (.object "java/util/List"), accessFlags := 2, slot := 5, constantValue := 0 }, { name := "NULL_CAUSE_MESSAGE", type := (.object "java/lang/String"), accessFlags := 26, slot := 3, constantValue := 0 }, { name := "SELF_SUPPRESSION_MESSAGE", type := (.object "java/lang/String"), accessFlags := 26, slot := 4, constantValue := 0 }, { name := "CAUSE_CAPTION", type := (.object "java/lang/String"), accessFlags := 26, slot := 5, constantValue := 0 }, { name := "SUPPRESSED_CAPTION", type := (.object "java/lang/String"), accessFlags := 26, slot := 6, constantValue := 0 }, { name := "EMPTY_THROWABLE_ARRAY", type := (.array (.object "java/lang/Throwable")), accessFlags := 26, slot := 7, constantValue := 0 }, { name := "$assertionsDisabled", type := .boolean, accessFlags := 4120, slot := 8, constantValue := 0 }]
  methods := #[k9m0, k9m1, k9m2, k9m3, k9m4]
  instanceTypes := #[(.object "java/lang/Object"), (.object "java/lang/String"), (.object "java/lang/Throwable"), (.array (.object "java/lang/StackTraceElement")), .int, (.object "java/util/List")]
  staticTypes := #[.long, (.array (.object "java/lang/StackTraceElement")), (.object "java/util/List"), (.object "java/lang/String"), (.object "java/lang/String"), (.object "java/lang/String"), (.object "java/lang/String"), (.array (.object "java/lang/Throwable")), .boolean]
  resolved := Array.replicate 404 none
  statics := some 1 }

def pool10 : Array CpInfo := pool [(2, .class_ 4), (1, u "java/lang/Throwable"), (0, u "<init>"), (0, u "()V"), (0, .methodref 2 8), (0, .nameAndType 5 9), (0, u "(Ljava/lang/String;)V"), (9, .class_ 20), (0, u "java/lang/Exception"), (0, u "serialVersionUID"), (0, u "J")] 17

def k10m0 : Method := { name := "<init>", desc := "()V", sig := { parameters := [], returnType := none }, accessFlags := 1, code := none }
def k10c1 : Code := { maxStack := 2, maxLocals := 2, code := jdk_59_method_2_code, exceptionTable := #[], attributes := #[] }
def k10m1 : Method := { name := "<init>", desc := "(Ljava/lang/String;)V", sig := { parameters := [(.object "java/lang/String")], returnType := none }, accessFlags := 1, code := some k10c1 }
/-- java/lang/Exception -/
def k10 : Class := { plain "java/lang/Exception" (some 9) with
  accessFlags := 33
  interfaces := #[]
  cf := some (fileOf pool10 19 #[] #[{ accessFlags := 1, nameIndex := 5, descriptorIndex := 6, attributes := #[] }, { accessFlags := 1, nameIndex := 5, descriptorIndex := 9, attributes := #[] }] 33 2 #[] #[{ accessFlags := 24, nameIndex := 21, descriptorIndex := 22, attributes := #[] }])
  fields := #[{ name := "serialVersionUID", type := .long, accessFlags := 24, slot := 0, constantValue := 0 }]
  methods := #[k10m0, k10m1]
  instanceTypes := #[(.object "java/lang/Object"), (.object "java/lang/String"), (.object "java/lang/Throwable"), (.array (.object "java/lang/StackTraceElement")), .int, (.object "java/util/List")]
  staticTypes := #[.long]
  resolved := Array.replicate 40 none
  statics := none }

def pool11 : Array CpInfo := pool [(1, .methodref 2 3), (0, .class_ 4), (0, .nameAndType 5 6), (0, u "java/lang/Exception"), (0, u "<init>"), (0, u "(Ljava/lang/String;)V"), (0, .fieldref 8 9), (0, .class_ 10), (0, .nameAndType 11 12), (0, u "com/example/tallykeep/tallykeep/core/LedgerException"), (0, u "kind"), (0, u "Lcom/example/tallykeep/tallykeep/core/LedgerException$Kind;"), (1, .class_ 16), (1, u "com/example/tallykeep/tallykeep/core/LedgerException$Kind"), (1, .methodref 8 19), (0, .nameAndType 5 20), (0, u "(Lcom/example/tallykeep/tallykeep/core/LedgerException$Kind;Ljava/lang/String;)V"), (0, .fieldref 14 22), (0, .nameAndType 23 12), (0, u "CONFLICT"), (0, u "serialVersionUID"), (0, u "J"), (6, u "(Ljava/lang/String;)Lcom/example/tallykeep/tallykeep/core/LedgerException;"), (0, u "conflict"), (0, u "()Lcom/example/tallykeep/tallykeep/core/LedgerException$Kind;")] 5

def k11c0 : Code := { maxStack := 2, maxLocals := 3, code := prog_16_method_1_code, exceptionTable := #[], attributes := #[] }
def k11m0 : Method := { name := "<init>", desc := "(Lcom/example/tallykeep/tallykeep/core/LedgerException$Kind;Ljava/lang/String;)V", sig := { parameters := [(.object "com/example/tallykeep/tallykeep/core/LedgerException$Kind"), (.object "java/lang/String")], returnType := none }, accessFlags := 2, code := some k11c0 }
def k11c1 : Code := { maxStack := 4, maxLocals := 1, code := prog_16_method_3_code, exceptionTable := #[], attributes := #[] }
def k11m1 : Method := { name := "conflict", desc := "(Ljava/lang/String;)Lcom/example/tallykeep/tallykeep/core/LedgerException;", sig := { parameters := [(.object "java/lang/String")], returnType := some (.object "com/example/tallykeep/tallykeep/core/LedgerException") }, accessFlags := 9, code := some k11c1 }
def k11c2 : Code := { maxStack := 1, maxLocals := 1, code := prog_16_method_4_code, exceptionTable := #[], attributes := #[] }
def k11m2 : Method := { name := "kind", desc := "()Lcom/example/tallykeep/tallykeep/core/LedgerException$Kind;", sig := { parameters := [], returnType := some (.object "com/example/tallykeep/tallykeep/core/LedgerException$Kind") }, accessFlags := 1, code := some k11c2 }
/-- com/example/tallykeep/tallykeep/core/LedgerException -/
def k11 : Class := { plain "com/example/tallykeep/tallykeep/core/LedgerException" (some 10) with
  accessFlags := 49
  interfaces := #[]
  cf := some (fileOf pool11 8 #[.nestMembers #[14]] #[{ accessFlags := 2, nameIndex := 5, descriptorIndex := 20, attributes := #[] }, { accessFlags := 9, nameIndex := 33, descriptorIndex := 32, attributes := #[] }, { accessFlags := 1, nameIndex := 11, descriptorIndex := 34, attributes := #[] }] 49 2 #[] #[{ accessFlags := 26, nameIndex := 24, descriptorIndex := 25, attributes := #[] }, { accessFlags := 18, nameIndex := 11, descriptorIndex := 12, attributes := #[] }])
  fields := #[{ name := "serialVersionUID", type := .long, accessFlags := 26, slot := 0, constantValue := 0 }, { name := "kind", type := (.object "com/example/tallykeep/tallykeep/core/LedgerException$Kind"), accessFlags := 18, slot := 6, constantValue := 0 }]
  methods := #[k11m0, k11m1, k11m2]
  instanceTypes := #[(.object "java/lang/Object"), (.object "java/lang/String"), (.object "java/lang/Throwable"), (.array (.object "java/lang/StackTraceElement")), .int, (.object "java/util/List"), (.object "com/example/tallykeep/tallykeep/core/LedgerException$Kind")]
  staticTypes := #[.long]
  resolved := Array.replicate 40 none
  statics := none }

def pool12 : Array CpInfo := pool [(2, .class_ 4), (1, u "java/lang/Enum"), (0, u "name"), (0, u "Ljava/lang/String;"), (2, u "ordinal"), (0, u "I"), (1, .class_ 14), (1, u "java/lang/Object"), (4, u "hash"), (86, .class_ 108), (1, u "java/lang/Enum$EnumDesc"), (2, .class_ 112), (0, u "java/lang/constant/Constable"), (0, .class_ 114), (0, u "java/lang/Comparable"), (0, .class_ 116), (0, u "java/io/Serializable")] 87

/-- java/lang/Enum -/
def k12 : Class := { plain "java/lang/Enum" (some 0) with
  accessFlags := 1057
  interfaces := #[5, 3, 2]
  cf := some (fileOf pool12 2 #[.nestMembers #[106]] #[] 1057 12 #[111, 113, 115] #[{ accessFlags := 18, nameIndex := 5, descriptorIndex := 6, attributes := #[] }, { accessFlags := 18, nameIndex := 9, descriptorIndex := 10, attributes := #[] }, { accessFlags := 2, nameIndex := 19, descriptorIndex := 10, attributes := #[] }])
  fields := #[{ name := "name", type := (.object "java/lang/String"), accessFlags := 18, slot := 0, constantValue := 0 }, { name := "ordinal", type := .int, accessFlags := 18, slot := 1, constantValue := 0 }, { name := "hash", type := .int, accessFlags := 2, slot := 2, constantValue := 0 }]
  methods := #[]
  instanceTypes := #[(.object "java/lang/String"), .int, .int]
  staticTypes := #[]
  resolved := Array.replicate 204 none
  statics := none }

def pool13 : Array CpInfo := pool [(1, .class_ 2), (0, u "com/example/tallykeep/tallykeep/core/LedgerException$Kind"), (2, u "INVALID"), (0, u "Lcom/example/tallykeep/tallykeep/core/LedgerException$Kind;"), (2, u "CONFLICT"), (2, u "$VALUES"), (0, u "[Lcom/example/tallykeep/tallykeep/core/LedgerException$Kind;"), (6, .class_ 22), (1, u "java/lang/Enum"), (25, .class_ 49), (0, u "com/example/tallykeep/tallykeep/core/LedgerException")] 2

/-- com/example/tallykeep/tallykeep/core/LedgerException$Kind -/
def k13 : Class := { plain "com/example/tallykeep/tallykeep/core/LedgerException$Kind" (some 12) with
  accessFlags := 16433
  interfaces := #[]
  cf := some (fileOf pool13 1 #[.nestHost 48] #[] 16433 20 #[] #[{ accessFlags := 16409, nameIndex := 5, descriptorIndex := 6, attributes := #[] }, { accessFlags := 16409, nameIndex := 9, descriptorIndex := 6, attributes := #[] }, { accessFlags := 4122, nameIndex := 12, descriptorIndex := 13, attributes := #[] }])
  fields := #[{ name := "INVALID", type := (.object "com/example/tallykeep/tallykeep/core/LedgerException$Kind"), accessFlags := 16409, slot := 0, constantValue := 0 }, { name := "CONFLICT", type := (.object "com/example/tallykeep/tallykeep/core/LedgerException$Kind"), accessFlags := 16409, slot := 1, constantValue := 0 }, { name := "$VALUES", type := (.array (.object "com/example/tallykeep/tallykeep/core/LedgerException$Kind")), accessFlags := 4122, slot := 2, constantValue := 0 }]
  methods := #[]
  instanceTypes := #[(.object "java/lang/String"), .int, .int]
  staticTypes := #[(.object "com/example/tallykeep/tallykeep/core/LedgerException$Kind"), (.object "com/example/tallykeep/tallykeep/core/LedgerException$Kind"), (.array (.object "com/example/tallykeep/tallykeep/core/LedgerException$Kind"))]
  resolved := Array.replicate 52 none
  statics := some 2 }

def pool14 : Array CpInfo := pool [(4, .class_ 6), (1, u "java/lang/Object"), (0, u "<init>"), (0, u "()V"), (5, .class_ 16), (1, u "java/lang/StringLatin1"), (104, u "$assertionsDisabled"), (0, u "Z"), (98, .class_ 223), (1, u "java/lang/StringLatin1$LinesSpliterator"), (166, .class_ 391), (0, u "java/lang/StringLatin1$CharsSpliterator")] 3

def k14m0 : Method := { name := "<init>", desc := "()V", sig := { parameters := [], returnType := none }, accessFlags := 0, code := none }
/-- java/lang/StringLatin1 -/
def k14 : Class := { plain "java/lang/StringLatin1" (some 0) with
  accessFlags := 48
  interfaces := #[]
  cf := some (fileOf pool14 14 #[.nestMembers #[390, 221]] #[{ accessFlags := 0, nameIndex := 7, descriptorIndex := 8, attributes := #[] }] 48 4 #[] #[{ accessFlags := 4120, nameIndex := 121, descriptorIndex := 122, attributes := #[] }])
  fields := #[{ name := "$assertionsDisabled", type := .boolean, accessFlags := 4120, slot := 0, constantValue := 0 }]
  methods := #[k14m0]
  instanceTypes := #[]
  staticTypes := #[.boolean]
  resolved := Array.replicate 395 none
  statics := none }

def pool15 : Array CpInfo := pool [(2, .class_ 4), (1, u "java/lang/Object"), (0, u "<init>"), (0, u "()V"), (17, .class_ 26), (1, u "jdk/internal/util/Preconditions"), (28, .class_ 56), (0, u "jdk/internal/util/Preconditions$4"), (57, .class_ 115), (0, u "jdk/internal/util/Preconditions$1"), (7, u "SIOOBE_FORMATTER"), (0, u "Ljava/util/function/BiFunction;"), (0, .class_ 126), (0, u "jdk/internal/util/Preconditions$2"), (3, u "AIOOBE_FORMATTER"), (0, .class_ 132), (0, u "jdk/internal/util/Preconditions$3"), (3, u "IOOBE_FORMATTER")] 57

def k15m0 : Method := { name := "<init>", desc := "()V", sig := { parameters := [], returnType := none }, accessFlags := 1, code := none }
/-- jdk/internal/util/Preconditions -/
def k15 : Class := { plain "jdk/internal/util/Preconditions" (some 0) with
  accessFlags := 33
  interfaces := #[]
  cf := some (fileOf pool15 24 #[.nestMembers #[55, 131, 125, 114]] #[{ accessFlags := 1, nameIndex := 5, descriptorIndex := 6, attributes := #[] }] 33 2 #[] #[{ accessFlags := 25, nameIndex := 123, descriptorIndex := 124, attributes := #[] }, { accessFlags := 25, nameIndex := 130, descriptorIndex := 124, attributes := #[] }, { accessFlags := 25, nameIndex := 136, descriptorIndex := 124, attributes := #[] }])
  fields := #[{ name := "SIOOBE_FORMATTER", type := (.object "java/util/function/BiFunction"), accessFlags := 25, slot := 0, constantValue := 0 }, { name := "AIOOBE_FORMATTER", type := (.object "java/util/function/BiFunction"), accessFlags := 25, slot := 1, constantValue := 0 }, { name := "IOOBE_FORMATTER", type := (.object "java/util/function/BiFunction"), accessFlags := 25, slot := 2, constantValue := 0 }]
  methods := #[k15m0]
  instanceTypes := #[]
  staticTypes := #[(.object "java/util/function/BiFunction"), (.object "java/util/function/BiFunction"), (.object "java/util/function/BiFunction")]
  resolved := Array.replicate 194 none
  statics := some 3 }

def pool16 : Array CpInfo := pool [(9, u "<init>"), (6, .class_ 18), (1, u "java/lang/Object"), (0, u "()V"), (1, .class_ 23), (1, u "jdk/internal/util/ArraysSupport"), (0, u "LOG2_ARRAY_LONG_INDEX_SCALE"), (0, u "I"), (2, u "U"), (0, u "Ljdk/internal/misc/Unsafe;"), (8, u "BIG_ENDIAN"), (0, u "Z"), (8, u "LOG2_BYTE_BIT_SIZE"), (4, u "LOG2_ARRAY_INT_INDEX_SCALE"), (54, u "JLA"), (0, u "Ljdk/internal/access/JavaLangAccess;"), (11, u "LOG2_ARRAY_BOOLEAN_INDEX_SCALE"), (9, u "LOG2_ARRAY_BYTE_INDEX_SCALE"), (5, u "LOG2_ARRAY_CHAR_INDEX_SCALE"), (5, u "LOG2_ARRAY_SHORT_INDEX_SCALE"), (18, u "LOG2_ARRAY_FLOAT_INDEX_SCALE"), (24, u "LOG2_ARRAY_DOUBLE_INDEX_SCALE"), (89, u "T_BOOLEAN"), (2, u "T_CHAR"), (1, u "T_FLOAT"), (1, u "T_DOUBLE"), (1, u "T_BYTE"), (1, u "T_SHORT"), (1, u "T_INT"), (1, u "T_LONG"), (1, u "SOFT_MAX_ARRAY_LENGTH")] 83

def k16m0 : Method := { name := "<init>", desc := "()V", sig := { parameters := [], returnType := none }, accessFlags := 2, code := none }
/-- jdk/internal/util/ArraysSupport -/
def k16 : Class := { plain "jdk/internal/util/ArraysSupport" (some 0) with
  accessFlags := 33
  interfaces := #[]
  cf := some (fileOf pool16 21 #[] #[{ accessFlags := 2, nameIndex := 9, descriptorIndex := 19, attributes := #[] }] 33 16 #[] #[{ accessFlags := 24, nameIndex := 28, descriptorIndex := 29, attributes := #[] }, { accessFlags := 26, nameIndex := 38, descriptorIndex := 39, attributes := #[] }, { accessFlags := 25, nameIndex := 121, descriptorIndex := 25, attributes := #[] }, { accessFlags := 25, nameIndex := 131, descriptorIndex := 25, attributes := #[] }, { accessFlags := 25, nameIndex := 137, descriptorIndex := 25, attributes := #[] }, { accessFlags := 25, nameIndex := 143, descriptorIndex := 25, attributes := #[] }, { accessFlags := 25, nameIndex := 53, descriptorIndex := 25, attributes := #[] }, { accessFlags := 25, nameIndex := 24, descriptorIndex := 25, attributes := #[] }, { accessFlags := 25, nameIndex := 162, descriptorIndex := 25, attributes := #[] }, { accessFlags := 25, nameIndex := 187, descriptorIndex := 25, attributes := #[] }, { accessFlags := 26, nameIndex := 48, descriptorIndex := 25, attributes := #[] }, { accessFlags := 25, nameIndex := 277, descriptorIndex := 25, attributes := #[] }, { accessFlags := 25, nameIndex := 280, descriptorIndex := 25, attributes := #[] }, { accessFlags := 25, nameIndex := 282, descriptorIndex := 25, attributes := #[] }, { accessFlags := 25, nameIndex := 284, descriptorIndex := 25, attributes := #[] }, { accessFlags := 25, nameIndex := 286, descriptorIndex := 25, attributes := #[] }, { accessFlags := 25, nameIndex := 288, descriptorIndex := 25, attributes := #[] }, { accessFlags := 25, nameIndex := 290, descriptorIndex := 25, attributes := #[] }, { accessFlags := 25, nameIndex := 292, descriptorIndex := 25, attributes := #[] }, { accessFlags := 26, nameIndex := 108, descriptorIndex := 109, attributes := #[] }, { accessFlags := 25, nameIndex := 294, descriptorIndex := 25, attributes := #[] }])
  fields := #[{ name := "U", type := (.object "jdk/internal/misc/Unsafe"), accessFlags := 24, slot := 0, constantValue := 0 }, { name := "BIG_ENDIAN", type := .boolean, accessFlags := 26, slot := 1, constantValue := 0 }, { name := "LOG2_ARRAY_BOOLEAN_INDEX_SCALE", type := .int, accessFlags := 25, slot := 2, constantValue := 0 }, { name := "LOG2_ARRAY_BYTE_INDEX_SCALE", type := .int, accessFlags := 25, slot := 3, constantValue := 0 }, { name := "LOG2_ARRAY_CHAR_INDEX_SCALE", type := .int, accessFlags := 25, slot := 4, constantValue := 0 }, { name := "LOG2_ARRAY_SHORT_INDEX_SCALE", type := .int, accessFlags := 25, slot := 5, constantValue := 0 }, { name := "LOG2_ARRAY_INT_INDEX_SCALE", type := .int, accessFlags := 25, slot := 6, constantValue := 0 }, { name := "LOG2_ARRAY_LONG_INDEX_SCALE", type := .int, accessFlags := 25, slot := 7, constantValue := 0 }, { name := "LOG2_ARRAY_FLOAT_INDEX_SCALE", type := .int, accessFlags := 25, slot := 8, constantValue := 0 }, { name := "LOG2_ARRAY_DOUBLE_INDEX_SCALE", type := .int, accessFlags := 25, slot := 9, constantValue := 0 }, { name := "LOG2_BYTE_BIT_SIZE", type := .int, accessFlags := 26, slot := 10, constantValue := 0 }, { name := "T_BOOLEAN", type := .int, accessFlags := 25, slot := 11, constantValue := 0 }, { name := "T_CHAR", type := .int, accessFlags := 25, slot := 12, constantValue := 0 }, { name := "T_FLOAT", type := .int, accessFlags := 25, slot := 13, constantValue := 0 }, { name := "T_DOUBLE", type := .int, accessFlags := 25, slot := 14, constantValue := 0 }, { name := "T_BYTE", type := .int, accessFlags := 25, slot := 15, constantValue := 0 }, { name := "T_SHORT", type := .int, accessFlags := 25, slot := 16, constantValue := 0 }, { name := "T_INT", type := .int, accessFlags := 25, slot := 17, constantValue := 0 }, { name := "T_LONG", type := .int, accessFlags := 25, slot := 18, constantValue := 0 }, { name := "JLA", type := (.object "jdk/internal/access/JavaLangAccess"), accessFlags := 26, slot := 19, constantValue := 0 }, { name := "SOFT_MAX_ARRAY_LENGTH", type := .int, accessFlags := 25, slot := 20, constantValue := 0 }]
  methods := #[k16m0]
  instanceTypes := #[]
  staticTypes := #[(.object "jdk/internal/misc/Unsafe"), .boolean, .int, .int, .int, .int, .int, .int, .int, .int, .int, .int, .int, .int, .int, .int, .int, .int, .int, (.object "jdk/internal/access/JavaLangAccess"), .int]
  resolved := Array.replicate 378 none
  statics := none }

def pool17 : Array CpInfo := pool [(2, .class_ 4), (1, u "java/lang/Object"), (0, u "<init>"), (0, u "()V"), (12, .class_ 20), (0, u "java/util/Collections"), (63, u "r"), (0, u "Ljava/util/Random;"), (80, .class_ 167), (0, u "java/util/Collections$UnmodifiableCollection"), (6, .class_ 175), (0, u "java/util/Collections$UnmodifiableSequencedCollection"), (6, .class_ 183), (0, u "java/util/Collections$UnmodifiableSet"), (6, .class_ 191), (0, u "java/util/Collections$UnmodifiableSequencedSet"), (6, .class_ 199), (0, u "java/util/Collections$UnmodifiableSortedSet"), (6, .class_ 207), (0, u "java/util/Collections$UnmodifiableNavigableSet"), (4, .class_ 213), (0, u "java/util/Collections$UnmodifiableList"), (1, .class_ 216), (0, u "java/util/Collections$UnmodifiableRandomAccessList"), (6, .class_ 224), (0, u "java/util/Collections$UnmodifiableMap"), (6, .class_ 232), (0, u "java/util/Collections$UnmodifiableSequencedMap"), (4, .class_ 238), (0, u "java/util/Collections$UnmodifiableSortedMap"), (6, .class_ 246), (0, u "java/util/Collections$UnmodifiableNavigableMap"), (3, .class_ 251), (0, u "java/util/Collections$SynchronizedCollection"), (4, .class_ 257), (0, u "java/util/Collections$SynchronizedSet"), (4, .class_ 263), (0, u "java/util/Collections$SynchronizedSortedSet"), (1, .class_ 266), (0, u "java/util/Collections$SynchronizedNavigableSet"), (1, .class_ 269), (0, u "java/util/Collections$SynchronizedRandomAccessList"), (1, .class_ 272), (0, u "java/util/Collections$SynchronizedList"), (5, .class_ 279), (0, u "java/util/Collections$SynchronizedMap"), (1, .class_ 282), (0, u "java/util/Collections$SynchronizedSortedMap"), (1, .class_ 285), (0, u "java/util/Collections$SynchronizedNavigableMap"), (1, .class_ 288), (0, u "java/util/Collections$CheckedCollection"), (11, .class_ 301), (0, u "java/util/Collections$CheckedQueue"), (3, .class_ 306), (0, u "java/util/Collections$CheckedSet"), (3, .class_ 311), (0, u "java/util/Collections$CheckedSortedSet"), (3, .class_ 316), (0, u "java/util/Collections$CheckedNavigableSet"), (3, .class_ 321), (0, u "java/util/Collections$CheckedRandomAccessList"), (3, .class_ 326), (0, u "java/util/Collections$CheckedList"), (1, .class_ 329), (0, u "java/util/Collections$CheckedMap"), (3, .class_ 334), (0, u "java/util/Collections$CheckedSortedMap"), (3, .class_ 339), (0, u "java/util/Collections$CheckedNavigableMap"), (4, .class_ 346), (1, u "java/util/Collections$EmptyIterator"), (3, .class_ 352), (1, u "java/util/Collections$EmptyListIterator"), (2, .class_ 357), (1, u "java/util/Collections$EmptyEnumeration"), (4, u "EMPTY_SET"), (0, u "Ljava/util/Set;"), (6, u "EMPTY_LIST"), (0, u "Ljava/util/List;"), (2, u "EMPTY_MAP"), (0, u "Ljava/util/Map;"), (4, .class_ 381), (0, u "java/util/Collections$SingletonSet"), (2, .class_ 385), (0, u "java/util/Collections$1"), (1, .class_ 388), (0, u "java/util/Collections$2"), (1, .class_ 391), (0, u "java/util/Collections$SingletonList"), (1, .class_ 394), (0, u "java/util/Collections$SingletonMap"), (22, .class_ 418), (0, u "java/util/Collections$CopiesList"), (4, .class_ 425), (1, u "java/util/Collections$ReverseComparator"), (8, .class_ 435), (0, u "java/util/Collections$ReverseComparator2"), (6, .class_ 443), (0, u "java/util/Collections$3"), (25, .class_ 470), (0, u "java/util/Collections$SetFromMap"), (2, .class_ 474), (0, u "java/util/Collections$SequencedSetFromMap"), (3, .class_ 479), (0, u "java/util/Collections$AsLIFOQueue"), (11, .class_ 492), (0, u "java/util/Collections$EmptySet"), (1, .class_ 495), (0, u "java/util/Collections$EmptyList"), (1, .class_ 498), (0, u "java/util/Collections$EmptyMap"), (1, u "BINARYSEARCH_THRESHOLD"), (0, u "I"), (2, u "REVERSE_THRESHOLD"), (1, u "SHUFFLE_THRESHOLD"), (1, u "FILL_THRESHOLD"), (1, u "ROTATE_THRESHOLD"), (1, u "COPY_THRESHOLD"), (1, u "REPLACEALL_THRESHOLD"), (1, u "INDEXOFSUBLIST_THRESHOLD"), (333, .class_ 851), (0, u "java/util/Collections$CheckedMap$CheckedEntrySet"), (0, .class_ 853), (0, u "java/util/Collections$CheckedMap$CheckedEntrySet$CheckedEntry"), (0, .class_ 855), (0, u "java/util/Collections$CheckedMap$CheckedEntrySet$1"), (0, .class_ 857), (0, u "java/util/Collections$CheckedList$1"), (0, .class_ 859), (0, u "java/util/Collections$CheckedCollection$1"), (0, .class_ 861), (0, u "java/util/Collections$UnmodifiableNavigableMap$EmptyNavigableMap"), (0, .class_ 863), (0, u "java/util/Collections$UnmodifiableMap$UnmodifiableEntrySet"), (0, .class_ 865), (0, u "java/util/Collections$UnmodifiableMap$UnmodifiableEntrySet$UnmodifiableEntry"), (0, .class_ 867), (0, u "java/util/Collections$UnmodifiableMap$UnmodifiableEntrySet$UnmodifiableEntrySetSpliterator"), (0, .class_ 869), (0, u "java/util/Collections$UnmodifiableMap$UnmodifiableEntrySet$1"), (0, .class_ 871), (0, u "java/util/Collections$UnmodifiableList$1"), (0, .class_ 873), (0, u "java/util/Collections$UnmodifiableNavigableSet$EmptyNavigableSet"), (0, .class_ 875), (0, u "java/util/Collections$UnmodifiableCollection$1")] 57

def k17m0 : Method := { name := "<init>", desc := "()V", sig := { parameters := [], returnType := none }, accessFlags := 2, code := none }
/-- java/util/Collections -/
def k17 : Class := { plain "java/util/Collections" (some 0) with
  accessFlags := 33
  interfaces := #[]
  cf := some (fileOf pool17 19 #[.nestMembers #[478, 473, 469, 434, 423, 417, 393, 390, 380, 497, 494, 491, 355, 350, 344, 338, 333, 328, 850, 852, 854, 320, 325, 856, 315, 310, 305, 300, 287, 858, 284, 281, 278, 268, 271, 265, 262, 256, 250, 245, 860, 237, 231, 223, 862, 864, 866, 868, 215, 212, 870, 206, 872, 198, 190, 182, 174, 166, 874, 442, 387, 384]] #[{ accessFlags := 2, nameIndex := 5, descriptorIndex := 6, attributes := #[] }] 33 2 #[] #[{ accessFlags := 26, nameIndex := 500, descriptorIndex := 501, attributes := #[] }, { accessFlags := 26, nameIndex := 504, descriptorIndex := 501, attributes := #[] }, { accessFlags := 26, nameIndex := 506, descriptorIndex := 501, attributes := #[] }, { accessFlags := 26, nameIndex := 508, descriptorIndex := 501, attributes := #[] }, { accessFlags := 26, nameIndex := 510, descriptorIndex := 501, attributes := #[] }, { accessFlags := 26, nameIndex := 512, descriptorIndex := 501, attributes := #[] }, { accessFlags := 26, nameIndex := 514, descriptorIndex := 501, attributes := #[] }, { accessFlags := 26, nameIndex := 516, descriptorIndex := 501, attributes := #[] }, { accessFlags := 10, nameIndex := 84, descriptorIndex := 85, attributes := #[] }, { accessFlags := 25, nameIndex := 362, descriptorIndex := 363, attributes := #[] }, { accessFlags := 25, nameIndex := 370, descriptorIndex := 371, attributes := #[] }, { accessFlags := 25, nameIndex := 374, descriptorIndex := 375, attributes := #[] }])
  fields := #[{ name := "BINARYSEARCH_THRESHOLD", type := .int, accessFlags := 26, slot := 0, constantValue := 0 }, { name := "REVERSE_THRESHOLD", type := .int, accessFlags := 26, slot := 1, constantValue := 0 }, { name := "SHUFFLE_THRESHOLD", type := .int, accessFlags := 26, slot := 2, constantValue := 0 }, { name := "FILL_THRESHOLD", type := .int, accessFlags := 26, slot := 3, constantValue := 0 }, { name := "ROTATE_THRESHOLD", type := .int, accessFlags := 26, slot := 4, constantValue := 0 }, { name := "COPY_THRESHOLD", type := .int, accessFlags := 26, slot := 5, constantValue := 0 }, { name := "REPLACEALL_THRESHOLD", type := .int, accessFlags := 26, slot := 6, constantValue := 0 }, { name := "INDEXOFSUBLIST_THRESHOLD", type := .int, accessFlags := 26, slot := 7, constantValue := 0 }, { name := "r", type := (.object "java/util/Random"), accessFlags := 10, slot := 8, constantValue := 0 }, { name := "EMPTY_SET", type := (.object "java/util/Set"), accessFlags := 25, slot := 9, constantValue := 0 }, { name := "EMPTY_LIST", type := (.object "java/util/List"), accessFlags := 25, slot := 10, constantValue := 0 }, { name := "EMPTY_MAP", type := (.object "java/util/Map"), accessFlags := 25, slot := 11, constantValue := 0 }]
  methods := #[k17m0]
  instanceTypes := #[]
  staticTypes := #[.int, .int, .int, .int, .int, .int, .int, .int, (.object "java/util/Random"), (.object "java/util/Set"), (.object "java/util/List"), (.object "java/util/Map")]
  resolved := Array.replicate 933 none
  statics := some 4 }

def pool18 : Array CpInfo := pool [(8, .class_ 10), (1, u "java/lang/Iterable"), (24, .class_ 36), (0, u "java/lang/Object")] 25

/-- java/lang/Iterable -/
def k18 : Class := { plain "java/lang/Iterable" (some 0) with
  accessFlags := 1537
  interfaces := #[]
  cf := some (fileOf pool18 8 #[] #[] 1537 35 #[] #[])
  fields := #[]
  methods := #[]
  instanceTypes := #[]
  staticTypes := #[]
  resolved := Array.replicate 62 none
  statics := none }

def pool19 : Array CpInfo := pool [(10, .class_ 12), (1, u "java/util/Collection"), (47, .class_ 61), (0, u "java/lang/Object"), (0, .class_ 63), (0, u "java/lang/Iterable")] 51

/-- java/util/Collection -/
def k19 : Class := { plain "java/util/Collection" (some 0) with
  accessFlags := 1537
  interfaces := #[18]
  cf := some (fileOf pool19 10 #[] #[] 1537 60 #[62] #[])
  fields := #[]
  methods := #[]
  instanceTypes := #[]
  staticTypes := #[]
  resolved := Array.replicate 115 none
  statics := none }

def pool20 : Array CpInfo := pool [(2, .class_ 4), (1, u "java/lang/Object"), (0, u "<init>"), (0, u "()V"), (1, .class_ 10), (1, u "java/util/AbstractCollection"), (66, .class_ 78), (0, u "java/util/Collection")] 81

def k20m0 : Method := { name := "<init>", desc := "()V", sig := { parameters := [], returnType := none }, accessFlags := 4, code := none }
/-- java/util/AbstractCollection -/
def k20 : Class := { plain "java/util/AbstractCollection" (some 0) with
  accessFlags := 1057
  interfaces := #[19]
  cf := some (fileOf pool20 8 #[] #[{ accessFlags := 4, nameIndex := 5, descriptorIndex := 6, attributes := #[] }] 1057 2 #[77] #[])
  fields := #[]
  methods := #[k20m0]
  instanceTypes := #[]
  staticTypes := #[]
  resolved := Array.replicate 160 none
  statics := none }

def pool21 : Array CpInfo := pool [(8, .class_ 10), (1, u "java/util/SequencedCollection"), (15, .class_ 27), (0, u "java/lang/Object"), (0, .class_ 29), (0, u "java/util/Collection")] 27

/-- java/util/SequencedCollection -/
def k21 : Class := { plain "java/util/SequencedCollection" (some 0) with
  accessFlags := 1537
  interfaces := #[19]
  cf := some (fileOf pool21 8 #[] #[] 1537 26 #[28] #[])
  fields := #[]
  methods := #[]
  instanceTypes := #[]
  staticTypes := #[]
  resolved := Array.replicate 57 none
  statics := none }

def pool22 : Array CpInfo := pool [(8, .class_ 10), (1, u "java/util/List"), (92, .class_ 104), (0, u "java/lang/Object"), (15, .class_ 121), (0, u "java/util/SequencedCollection")] 129

/-- java/util/List -/
def k22 : Class := { plain "java/util/List" (some 0) with
  accessFlags := 1537
  interfaces := #[21]
  cf := some (fileOf pool22 8 #[] #[] 1537 103 #[120] #[])
  fields := #[]
  methods := #[]
  instanceTypes := #[]
  staticTypes := #[]
  resolved := Array.replicate 251 none
  statics := none }

def pool23 : Array CpInfo := pool [(2, .class_ 4), (1, u "java/util/AbstractCollection"), (0, u "<init>"), (0, u "()V"), (1, .class_ 10), (1, u "java/util/AbstractList"), (0, u "modCount"), (0, u "I"), (64, .class_ 78), (0, u "java/util/AbstractList$Itr"), (3, .class_ 83), (0, u "java/util/AbstractList$ListItr"), (9, .class_ 94), (0, u "java/util/AbstractList$RandomAccessSubList"), (3, .class_ 99), (0, u "java/util/AbstractList$SubList"), (33, .class_ 134), (0, u "java/util/List"), (73, .class_ 209), (0, u "java/util/AbstractList$SubList$1"), (0, .class_ 211), (0, u "java/util/AbstractList$RandomAccessSpliterator")] 6

def k23m0 : Method := { name := "<init>", desc := "()V", sig := { parameters := [], returnType := none }, accessFlags := 4, code := none }
/-- java/util/AbstractList -/
def k23 : Class := { plain "java/util/AbstractList" (some 20) with
  accessFlags := 1057
  interfaces := #[22]
  cf := some (fileOf pool23 8 #[.nestMembers #[93, 98, 208, 210, 82, 77]] #[{ accessFlags := 4, nameIndex := 5, descriptorIndex := 6, attributes := #[] }] 1057 2 #[133] #[{ accessFlags := 132, nameIndex := 11, descriptorIndex := 12, attributes := #[] }])
  fields := #[{ name := "modCount", type := .int, accessFlags := 132, slot := 0, constantValue := 0 }]
  methods := #[k23m0]
  instanceTypes := #[.int]
  staticTypes := #[]
  resolved := Array.replicate 218 none
  statics := none }

def pool24 : Array CpInfo := pool [(1, .class_ 2), (0, u "java/util/RandomAccess"), (0, .class_ 4), (0, u "java/lang/Object")] 2

/-- java/util/RandomAccess -/
def k24 : Class := { plain "java/util/RandomAccess" (some 0) with
  accessFlags := 1537
  interfaces := #[]
  cf := some (fileOf pool24 1 #[] #[] 1537 3 #[] #[])
  fields := #[]
  methods := #[]
  instanceTypes := #[]
  staticTypes := #[]
  resolved := Array.replicate 7 none
  statics := none }

def pool25 : Array CpInfo := pool [(2, .class_ 4), (1, u "java/util/AbstractList"), (0, u "<init>"), (0, u "()V"), (1, .class_ 10), (1, u "java/util/Collections"), (54, .class_ 66), (0, u "java/util/Collections$EmptyList"), (0, .class_ 68), (0, u "java/util/RandomAccess"), (0, .class_ 70), (0, u "java/io/Serializable"), (0, u "serialVersionUID"), (0, u "J")] 77

def k25m0 : Method := { name := "<init>", desc := "()V", sig := { parameters := [], returnType := none }, accessFlags := 2, code := none }
/-- java/util/Collections$EmptyList -/
def k25 : Class := { plain "java/util/Collections$EmptyList" (some 23) with
  accessFlags := 32
  interfaces := #[24, 2]
  cf := some (fileOf pool25 65 #[.nestHost 8] #[{ accessFlags := 2, nameIndex := 5, descriptorIndex := 6, attributes := #[] }] 32 2 #[67, 69] #[{ accessFlags := 26, nameIndex := 71, descriptorIndex := 72, attributes := #[] }])
  fields := #[{ name := "serialVersionUID", type := .long, accessFlags := 26, slot := 0, constantValue := 0 }]
  methods := #[k25m0]
  instanceTypes := #[.int]
  staticTypes := #[.long]
  resolved := Array.replicate 150 none
  statics := none }

def pool26 : Array CpInfo := pool [(2, .class_ 4), (1, u "java/lang/StackTraceElement"), (0, u "<init>"), (2, .class_ 10), (1, u "java/lang/Object"), (0, u "()V"), (2, u "format"), (0, u "B"), (2, u "classLoaderName"), (0, u "Ljava/lang/String;"), (2, u "moduleName"), (2, u "moduleVersion"), (12, u "declaringClass"), (4, u "methodName"), (2, u "fileName"), (2, u "lineNumber"), (0, u "I"), (65, u "declaringClassObject"), (0, u "Ljava/lang/Class;"), (33, .class_ 153), (1, u "java/lang/StackTraceElement$HashedModules"), (17, .class_ 172), (0, u "java/io/Serializable"), (0, u "NATIVE_METHOD"), (1, u "UNKNOWN_SOURCE"), (2, u "BUILTIN_CLASS_LOADER"), (1, u "JDK_NON_UPGRADEABLE_MODULE"), (1, u "serialVersionUID"), (0, u "J")] 51

def k26m0 : Method := { name := "<init>", desc := "()V", sig := { parameters := [], returnType := none }, accessFlags := 2, code := none }
/-- java/lang/StackTraceElement -/
def k26 : Class := { plain "java/lang/StackTraceElement" (some 0) with
  accessFlags := 49
  interfaces := #[2]
  cf := some (fileOf pool26 2 #[.nestMembers #[151]] #[{ accessFlags := 2, nameIndex := 5, descriptorIndex := 11, attributes := #[] }] 49 8 #[171] #[{ accessFlags := 26, nameIndex := 173, descriptorIndex := 19, attributes := #[] }, { accessFlags := 26, nameIndex := 175, descriptorIndex := 19, attributes := #[] }, { accessFlags := 130, nameIndex := 116, descriptorIndex := 117, attributes := #[] }, { accessFlags := 2, nameIndex := 18, descriptorIndex := 19, attributes := #[] }, { accessFlags := 2, nameIndex := 22, descriptorIndex := 19, attributes := #[] }, { accessFlags := 2, nameIndex := 25, descriptorIndex := 19, attributes := #[] }, { accessFlags := 2, nameIndex := 38, descriptorIndex := 19, attributes := #[] }, { accessFlags := 2, nameIndex := 43, descriptorIndex := 19, attributes := #[] }, { accessFlags := 2, nameIndex := 46, descriptorIndex := 19, attributes := #[] }, { accessFlags := 2, nameIndex := 49, descriptorIndex := 50, attributes := #[] }, { accessFlags := 2, nameIndex := 14, descriptorIndex := 15, attributes := #[] }, { accessFlags := 26, nameIndex := 178, descriptorIndex := 15, attributes := #[] }, { accessFlags := 26, nameIndex := 180, descriptorIndex := 15, attributes := #[] }, { accessFlags := 26, nameIndex := 182, descriptorIndex := 183, attributes := #[] }])
  fields := #[{ name := "NATIVE_METHOD", type := (.object "java/lang/String"), accessFlags := 26, slot := 0, constantValue := 0 }, { name := "UNKNOWN_SOURCE", type := (.object "java/lang/String"), accessFlags := 26, slot := 1, constantValue := 0 }, { name := "declaringClassObject", type := (.object "java/lang/Class"), accessFlags := 130, slot := 0, constantValue := 0 }, { name := "classLoaderName", type := (.object "java/lang/String"), accessFlags := 2, slot := 1, constantValue := 0 }, { name := "moduleName", type := (.object "java/lang/String"), accessFlags := 2, slot := 2, constantValue := 0 }, { name := "moduleVersion", type := (.object "java/lang/String"), accessFlags := 2, slot := 3, constantValue := 0 }, { name := "declaringClass", type := (.object "java/lang/String"), accessFlags := 2, slot := 4, constantValue := 0 }, { name := "methodName", type := (.object "java/lang/String"), accessFlags := 2, slot := 5, constantValue := 0 }, { name := "fileName", type := (.object "java/lang/String"), accessFlags := 2, slot := 6, constantValue := 0 }, { name := "lineNumber", type := .int, accessFlags := 2, slot := 7, constantValue := 0 }, { name := "format", type := .byte, accessFlags := 2, slot := 8, constantValue := 0 }, { name := "BUILTIN_CLASS_LOADER", type := .byte, accessFlags := 26, slot := 2, constantValue := 0 }, { name := "JDK_NON_UPGRADEABLE_MODULE", type := .byte, accessFlags := 26, slot := 3, constantValue := 0 }, { name := "serialVersionUID", type := .long, accessFlags := 26, slot := 4, constantValue := 0 }]
  methods := #[k26m0]
  instanceTypes := #[(.object "java/lang/Class"), (.object "java/lang/String"), (.object "java/lang/String"), (.object "java/lang/String"), (.object "java/lang/String"), (.object "java/lang/String"), (.object "java/lang/String"), .int, .byte]
  staticTypes := #[(.object "java/lang/String"), (.object "java/lang/String"), .byte, .byte, .long]
  resolved := Array.replicate 235 none
  statics := none }

def pool27 : Array CpInfo := pool [(1, u "java/lang/Cloneable"), (0, .class_ 1), (0, u "java/lang/Object"), (0, .class_ 3)] 3

/-- java/lang/Cloneable -/
def k27 : Class := { plain "java/lang/Cloneable" (some 0) with
  accessFlags := 1537
  interfaces := #[]
  cf := some (fileOf pool27 2 #[] #[] 1537 4 #[] #[])
  fields := #[]
  methods := #[]
  instanceTypes := #[]
  staticTypes := #[]
  resolved := Array.replicate 8 none
  statics := none }

/-- the primitive byte -/
def k28 : Class := { plain "byte" none with kind := .primitive 'B', accessFlags := 0x411 }
/-- [B -/
def k29 : Class := { plain "[B" (some 0) with kind := .array 28 .byte, interfaces := #[27, 2], accessFlags := 1041 }

/-- the primitive char -/
def k30 : Class := { plain "char" none with kind := .primitive 'C', accessFlags := 0x411 }
/-- [C -/
def k31 : Class := { plain "[C" (some 0) with kind := .array 30 .char, interfaces := #[27, 2], accessFlags := 1041 }

/-- the primitive int -/
def k32 : Class := { plain "int" none with kind := .primitive 'I', accessFlags := 0x411 }
/-- [I -/
def k33 : Class := { plain "[I" (some 0) with kind := .array 32 .int, interfaces := #[27, 2], accessFlags := 1041 }

/-- [Ljava/lang/Object; -/
def k34 : Class := { plain "[Ljava/lang/Object;" (some 0) with kind := .array 0 (.object "java/lang/Object"), interfaces := #[27, 2], accessFlags := 1041 }

/-- [Ljava/lang/StackTraceElement; -/
def k35 : Class := { plain "[Ljava/lang/StackTraceElement;" (some 0) with kind := .array 26 (.object "java/lang/StackTraceElement"), interfaces := #[27, 2], accessFlags := 1041 }

/-- [Ljava/lang/Throwable; -/
def k36 : Class := { plain "[Ljava/lang/Throwable;" (some 0) with kind := .array 9 (.object "java/lang/Throwable"), interfaces := #[27, 2], accessFlags := 1041 }

def heap : Heap := #[{ cls := 7, slots := #[.long 0, .int 1, .null, .int 0, .null, .int 0, .int 0], vm := .statics 7 },
  { cls := 9, slots := #[.long 0, .ref 6, .ref 7, .null, .null, .null, .null, .ref 8, .int 1], vm := .statics 9 },
  { cls := 13, slots := #[.null, .ref 5, .null], vm := .statics 13 },
  { cls := 15, slots := #[.null, .null, .null], vm := .statics 15 },
  { cls := 17, slots := #[.int 0, .int 0, .int 0, .int 0, .int 0, .int 0, .int 0, .int 0, .null, .null, .ref 7, .null], vm := .statics 17 },
  { cls := 13, slots := #[.null, .int 0, .int 0], vm := .none },
  { cls := 35, slots := #[], vm := .none },
  { cls := 25, slots := #[.int 0], vm := .none },
  { cls := 36, slots := #[], vm := .none }]
def classes : Array Class := #[k0, k1, k2, k3, k4, k5, k6, k7, k8, k9, k10, k11, k12, k13, k14, k15, k16, k17, k18, k19, k20, k21, k22, k23, k24, k25, k26, k27, k28, k29, k30, k31, k32, k33, k34, k35, k36]
def interned : List (Array UInt16 × Addr) := []
def slotsUsed : Nat := 38
def theMethod : MethodId := ⟨1, 1⟩
def args0 : Array Value := #[.int 5, .int 5, .int 5, .int 5]
def aboutOver (below : List Frame) : State where
  vm := { classes := classes, interned := interned.toArray }
  heap := heap
  slotsUsed := slotsUsed
  threads := #[{ frames := .invoking theMethod args0 :: below }]
def below0 : List Frame := [.native { method := ⟨0, 0⟩, args := #[] }]
def about1 : State := aboutOver below0
def p0 : Program := .bare "" "" ""
def e0 : Env := launch0.env 0 0 0
theorem w_frames : about1.frames = Frame.invoking theMethod args0 :: below0 := rfl
set_option maxRecDepth 65536 in
theorem w_args : argsFit about1.vm theMethod args0 = true := by decide +kernel
set_option maxRecDepth 65536 in
theorem w_heap : heapFits about1 = true := by decide +kernel
set_option maxRecDepth 65536 in
theorem w_runnable : about1.curStatus? = some .runnable := by decide +kernel
set_option maxRecDepth 65536 in
theorem w_alone : about1.alone = true := by decide +kernel
set_option maxRecDepth 65536 in
theorem w_named : about1.methodNamed? x = some theMethod := by decide +kernel
set_option maxRecDepth 65536 in
theorem w_hears : about1.hears theMethod below0 = true := by decide +kernel
set_option maxRecDepth 65536 in
theorem w_ripe : about1.ripe theMethod args0 below0 = true := by decide +kernel
theorem w_running : about1.status = .running := rfl
set_option maxRecDepth 65536 in
theorem w_room : about1.hasRoom e0.platform room_1 = true :=
  launch0.hasRoom_least _ room_1 (by decide +kernel) (by decide +kernel) (by decide +kernel) (by decide +kernel) (by decide +kernel) (by decide +kernel)
theorem allAtoms_all (ts : List Jvm.Cond) (a : Array Jvm.Value) (st : Jvm.State) : (allAtoms ts).before a st = ts.all (fun c => c.before a st) := by
  induction ts with
  | nil => rfl
  | cons c t ih =>
    show (Jvm.Cond.and c (allAtoms t)).before a st = _
    rw [Jvm.Cond.before_and, ih, List.all_cons]
def words1 : List Jvm.Cond := Jvm.Cond.code x code maxLocals ret :: tables_1
/-- a 'code' word, met by the world's own term for the bytes: nothing is compared byte by byte -/
theorem code_word {y : MethodName} {bytes : ByteArray} {mx : Nat} {rt : Option FieldType} {a : Array Value} {s : State} {m : MethodId} {meth : Method} {c : Code} (h1 : s.methodNamed? y = some m) (h2 : s.vm.method? m = some meth) (h3 : meth.code = some c) (h4 : c.code = bytes)
    (h5 : (c.maxLocals == mx && c.exceptionTable.isEmpty && decide (c.maxStack ≤ mostOperands) && decide (meth.sig.returnType = rt) && !meth.locks && decide (parseMethodDescriptor y.desc = some meth.sig)) = true) : (Jvm.Cond.code y bytes mx rt).before a s = true := by
  simp only [Bool.and_eq_true, beq_iff_eq, Bool.not_eq_true', decide_eq_true_eq] at h5
  obtain ⟨⟨⟨⟨⟨g1, g2⟩, g3⟩, g4⟩, g5⟩, g6⟩ := h5
  simp [Cond.before, Cond.holds, Cond.value, h1, h2, h3, h4, g1, g2, g3, g4, g5, g6]
def isCode : Jvm.Cond → Bool
  | .code _ _ _ _ => true
  | _ => false
theorem all_split {L : List Jvm.Cond} {P : Jvm.Cond → Bool} (h1 : L.all (fun c => isCode c || P c) = true) (h2 : ∀ c ∈ L.filter isCode, P c = true) : L.all P = true := by
  refine List.all_eq_true.mpr fun c hc => ?_
  have h := List.all_eq_true.mp h1 c hc
  rcases Bool.eq_false_or_eq_true (isCode c) with hi | hi
  · exact h2 c (List.mem_filter.mpr ⟨hc, hi⟩)
  · simpa [hi] using h
set_option maxRecDepth 65536 in
theorem w_c0 : (Jvm.Cond.code x code maxLocals ret).before args0 about1 = true := code_word (m := ⟨1, 1⟩) (meth := k1m1) (c := k1c1) (by decide +kernel) rfl rfl rfl (by decide +kernel)
set_option maxRecDepth 65536 in
theorem w_c1 : (Jvm.Cond.code ({ cls := "com/example/tallykeep/tallykeep/core/LedgerExceptionConflictPinLaw", name := "make", desc := "(IIII)Ljava/lang/String;" } : Jvm.MethodName) method_3_code (8 : Nat) (Option.some (Jvm.ClassFile.FieldType.object "java/lang/String"))).before args0 about1 = true := code_word (m := ⟨1, 2⟩) (meth := k1m2) (c := k1c2) (by decide +kernel) rfl rfl rfl (by decide +kernel)
set_option maxRecDepth 65536 in
theorem w_c2 : (Jvm.Cond.code ({ cls := "java/lang/String", name := "<init>", desc := "([C)V" } : Jvm.MethodName) jdk_42_method_3_code (2 : Nat) (Option.none : Option Jvm.ClassFile.FieldType)).before args0 about1 = true := code_word (m := ⟨7, 1⟩) (meth := k7m1) (c := k7c1) (by decide +kernel) rfl rfl rfl (by decide +kernel)
set_option maxRecDepth 65536 in
theorem w_c3 : (Jvm.Cond.code ({ cls := "java/lang/String", name := "<init>", desc := "([CIILjava/lang/Void;)V" } : Jvm.MethodName) jdk_42_method_149_code (6 : Nat) (Option.none : Option Jvm.ClassFile.FieldType)).before args0 about1 = true := code_word (m := ⟨7, 3⟩) (meth := k7m3) (c := k7c3) (by decide +kernel) rfl rfl rfl (by decide +kernel)
set_option maxRecDepth 65536 in
theorem w_c4 : (Jvm.Cond.code ({ cls := "java/lang/Object", name := "<init>", desc := "()V" } : Jvm.MethodName) object_method_1_code (1 : Nat) (Option.none : Option Jvm.ClassFile.FieldType)).before args0 about1 = true := code_word (m := ⟨0, 0⟩) (meth := k0m0) (c := k0c0) (by decide +kernel) rfl rfl rfl (by decide +kernel)
set_option maxRecDepth 65536 in
theorem w_c5 : (Jvm.Cond.code ({ cls := "java/lang/StringUTF16", name := "compress", desc := "([CII)[B" } : Jvm.MethodName) jdk_52_method_16_code (6 : Nat) (Option.some (Jvm.ClassFile.FieldType.array Jvm.ClassFile.FieldType.byte))).before args0 about1 = true := code_word (m := ⟨8, 2⟩) (meth := k8m2) (c := k8c2) (by decide +kernel) rfl rfl rfl (by decide +kernel)
set_option maxRecDepth 65536 in
theorem w_c6 : (Jvm.Cond.code ({ cls := "java/lang/StringUTF16", name := "compress", desc := "([CI[BII)I" } : Jvm.MethodName) jdk_52_method_21_code (7 : Nat) (Option.some Jvm.ClassFile.FieldType.int)).before args0 about1 = true := code_word (m := ⟨8, 3⟩) (meth := k8m3) (c := k8c3) (by decide +kernel) rfl rfl rfl (by decide +kernel)
set_option maxRecDepth 65536 in
theorem w_c7 : (Jvm.Cond.code ({ cls := "java/lang/StringUTF16", name := "coderFromArrayLen", desc := "([BI)B" } : Jvm.MethodName) jdk_52_method_15_code (2 : Nat) (Option.some Jvm.ClassFile.FieldType.byte)).before args0 about1 = true := code_word (m := ⟨8, 1⟩) (meth := k8m1) (c := k8c1) (by decide +kernel) rfl rfl rfl (by decide +kernel)
set_option maxRecDepth 65536 in
theorem w_c8 : (Jvm.Cond.code ({ cls := "com/example/tallykeep/tallykeep/core/LedgerException", name := "conflict", desc := "(Ljava/lang/String;)Lcom/example/tallykeep/tallykeep/core/LedgerException;" } : Jvm.MethodName) prog_16_method_3_code (1 : Nat) (Option.some (Jvm.ClassFile.FieldType.object "com/example/tallykeep/tallykeep/core/LedgerException"))).before args0 about1 = true := code_word (m := ⟨11, 1⟩) (meth := k11m1) (c := k11c1) (by decide +kernel) rfl rfl rfl (by decide +kernel)
set_option maxRecDepth 65536 in
theorem w_c9 : (Jvm.Cond.code ({ cls := "com/example/tallykeep/tallykeep/core/LedgerException", name := "<init>", desc := "(Lcom/example/tallykeep/tallykeep/core/LedgerException$Kind;Ljava/lang/String;)V" } : Jvm.MethodName) prog_16_method_1_code (3 : Nat) (Option.none : Option Jvm.ClassFile.FieldType)).before args0 about1 = true := code_word (m := ⟨11, 0⟩) (meth := k11m0) (c := k11c0) (by decide +kernel) rfl rfl rfl (by decide +kernel)
set_option maxRecDepth 65536 in
theorem w_c10 : (Jvm.Cond.code ({ cls := "java/lang/Exception", name := "<init>", desc := "(Ljava/lang/String;)V" } : Jvm.MethodName) jdk_59_method_2_code (2 : Nat) (Option.none : Option Jvm.ClassFile.FieldType)).before args0 about1 = true := code_word (m := ⟨10, 1⟩) (meth := k10m1) (c := k10c1) (by decide +kernel) rfl rfl rfl (by decide +kernel)
set_option maxRecDepth 65536 in
theorem w_c11 : (Jvm.Cond.code ({ cls := "java/lang/Throwable", name := "<init>", desc := "(Ljava/lang/String;)V" } : Jvm.MethodName) jdk_78_method_2_code (2 : Nat) (Option.none : Option Jvm.ClassFile.FieldType)).before args0 about1 = true := code_word (m := ⟨9, 1⟩) (meth := k9m1) (c := k9c1) (by decide +kernel) rfl rfl rfl (by decide +kernel)
set_option maxRecDepth 65536 in
theorem w_c12 : (Jvm.Cond.code ({ cls := "java/lang/Throwable", name := "<init>", desc := "()V" } : Jvm.MethodName) jdk_78_method_1_code (1 : Nat) (Option.none : Option Jvm.ClassFile.FieldType)).before args0 about1 = true := code_word (m := ⟨9, 0⟩) (meth := k9m0) (c := k9c0) (by decide +kernel) rfl rfl rfl (by decide +kernel)
set_option maxRecDepth 65536 in
theorem w_c13 : (Jvm.Cond.code ({ cls := "com/example/tallykeep/tallykeep/core/LedgerException", name := "kind", desc := "()Lcom/example/tallykeep/tallykeep/core/LedgerException$Kind;" } : Jvm.MethodName) prog_16_method_4_code (1 : Nat) (Option.some (Jvm.ClassFile.FieldType.object "com/example/tallykeep/tallykeep/core/LedgerException$Kind"))).before args0 about1 = true := code_word (m := ⟨11, 2⟩) (meth := k11m2) (c := k11c2) (by decide +kernel) rfl rfl rfl (by decide +kernel)
set_option maxRecDepth 65536 in
theorem w_c14 : (Jvm.Cond.code ({ cls := "java/lang/Throwable", name := "getMessage", desc := "()Ljava/lang/String;" } : Jvm.MethodName) jdk_78_method_6_code (1 : Nat) (Option.some (Jvm.ClassFile.FieldType.object "java/lang/String"))).before args0 about1 = true := code_word (m := ⟨9, 2⟩) (meth := k9m2) (c := k9c2) (by decide +kernel) rfl rfl rfl (by decide +kernel)
set_option maxRecDepth 65536 in
theorem w_c15 : (Jvm.Cond.code ({ cls := "java/lang/String", name := "equals", desc := "(Ljava/lang/Object;)Z" } : Jvm.MethodName) jdk_42_method_66_code (3 : Nat) (Option.some Jvm.ClassFile.FieldType.boolean)).before args0 about1 = true := code_word (m := ⟨7, 2⟩) (meth := k7m2) (c := k7c2) (by decide +kernel) rfl rfl rfl (by decide +kernel)
def codes1 : List Jvm.Cond := [Jvm.Cond.code x code maxLocals ret, Jvm.Cond.code ({ cls := "com/example/tallykeep/tallykeep/core/LedgerExceptionConflictPinLaw", name := "make", desc := "(IIII)Ljava/lang/String;" } : Jvm.MethodName) method_3_code (8 : Nat) (Option.some (Jvm.ClassFile.FieldType.object "java/lang/String")), Jvm.Cond.code ({ cls := "java/lang/String", name := "<init>", desc := "([C)V" } : Jvm.MethodName) jdk_42_method_3_code (2 : Nat) (Option.none : Option Jvm.ClassFile.FieldType), Jvm.Cond.code ({ cls := "java/lang/String", name := "<init>", desc := "([CIILjava/lang/Void;)V" } : Jvm.MethodName) jdk_42_method_149_code (6 : Nat) (Option.none : Option Jvm.ClassFile.FieldType), Jvm.Cond.code ({ cls := "java/lang/Object", name := "<init>", desc := "()V" } : Jvm.MethodName) object_method_1_code (1 : Nat) (Option.none : Option Jvm.ClassFile.FieldType), Jvm.Cond.code ({ cls := "java/lang/StringUTF16", name := "compress", desc := "([CII)[B" } : Jvm.MethodName) jdk_52_method_16_code (6 : Nat) (Option.some (Jvm.ClassFile.FieldType.array Jvm.ClassFile.FieldType.byte)), Jvm.Cond.code ({ cls := "java/lang/StringUTF16", name := "compress", desc := "([CI[BII)I" } : Jvm.MethodName) jdk_52_method_21_code (7 : Nat) (Option.some Jvm.ClassFile.FieldType.int), Jvm.Cond.code ({ cls := "java/lang/StringUTF16", name := "coderFromArrayLen", desc := "([BI)B" } : Jvm.MethodName) jdk_52_method_15_code (2 : Nat) (Option.some Jvm.ClassFile.FieldType.byte), Jvm.Cond.code ({ cls := "com/example/tallykeep/tallykeep/core/LedgerException", name := "conflict", desc := "(Ljava/lang/String;)Lcom/example/tallykeep/tallykeep/core/LedgerException;" } : Jvm.MethodName) prog_16_method_3_code (1 : Nat) (Option.some (Jvm.ClassFile.FieldType.object "com/example/tallykeep/tallykeep/core/LedgerException")), Jvm.Cond.code ({ cls := "com/example/tallykeep/tallykeep/core/LedgerException", name := "<init>", desc := "(Lcom/example/tallykeep/tallykeep/core/LedgerException$Kind;Ljava/lang/String;)V" } : Jvm.MethodName) prog_16_method_1_code (3 : Nat) (Option.none : Option Jvm.ClassFile.FieldType), Jvm.Cond.code ({ cls := "java/lang/Exception", name := "<init>", desc := "(Ljava/lang/String;)V" } : Jvm.MethodName) jdk_59_method_2_code (2 : Nat) (Option.none : Option Jvm.ClassFile.FieldType), Jvm.Cond.code ({ cls := "java/lang/Throwable", name := "<init>", desc := "(Ljava/lang/String;)V" } : Jvm.MethodName) jdk_78_method_2_code (2 : Nat) (Option.none : Option Jvm.ClassFile.FieldType), Jvm.Cond.code ({ cls := "java/lang/Throwable", name := "<init>", desc := "()V" } : Jvm.MethodName) jdk_78_method_1_code (1 : Nat) (Option.none : Option Jvm.ClassFile.FieldType), Jvm.Cond.code ({ cls := "com/example/tallykeep/tallykeep/core/LedgerException", name := "kind", desc := "()Lcom/example/tallykeep/tallykeep/core/LedgerException$Kind;" } : Jvm.MethodName) prog_16_method_4_code (1 : Nat) (Option.some (Jvm.ClassFile.FieldType.object "com/example/tallykeep/tallykeep/core/LedgerException$Kind")), Jvm.Cond.code ({ cls := "java/lang/Throwable", name := "getMessage", desc := "()Ljava/lang/String;" } : Jvm.MethodName) jdk_78_method_6_code (1 : Nat) (Option.some (Jvm.ClassFile.FieldType.object "java/lang/String")), Jvm.Cond.code ({ cls := "java/lang/String", name := "equals", desc := "(Ljava/lang/Object;)Z" } : Jvm.MethodName) jdk_42_method_66_code (3 : Nat) (Option.some Jvm.ClassFile.FieldType.boolean)]
set_option maxRecDepth 65536 in
theorem codes_eq : words1.filter isCode = codes1 := rfl
theorem w_codes : ∀ c ∈ words1.filter isCode, c.before args0 about1 = true := by
  rw [codes_eq]
  intro c hc
  simp only [codes1, List.mem_cons, List.not_mem_nil, or_false] at hc
  rcases hc with rfl | rfl | rfl | rfl | rfl | rfl | rfl | rfl | rfl | rfl | rfl | rfl | rfl | rfl | rfl | rfl
  · exact w_c0
  · exact w_c1
  · exact w_c2
  · exact w_c3
  · exact w_c4
  · exact w_c5
  · exact w_c6
  · exact w_c7
  · exact w_c8
  · exact w_c9
  · exact w_c10
  · exact w_c11
  · exact w_c12
  · exact w_c13
  · exact w_c14
  · exact w_c15
set_option maxRecDepth 65536 in
theorem w_t1 : (words1.take 24).all (fun c => isCode c || c.before args0 about1) = true := by decide +kernel
set_option maxRecDepth 65536 in
theorem w_t2 : ((words1.drop 24).take 24).all (fun c => isCode c || c.before args0 about1) = true := by decide +kernel
set_option maxRecDepth 65536 in
theorem w_t3 : (((words1.drop 24).drop 24).take 24).all (fun c => isCode c || c.before args0 about1) = true := by decide +kernel
set_option maxRecDepth 65536 in
theorem w_t4 : ((((words1.drop 24).drop 24).drop 24).take 24).all (fun c => isCode c || c.before args0 about1) = true := by decide +kernel
set_option maxRecDepth 65536 in
theorem w_t5 : ((((words1.drop 24).drop 24).drop 24).drop 24).all (fun c => isCode c || c.before args0 about1) = true := by decide +kernel
theorem w_tables : (allAtoms (Jvm.Cond.code x code maxLocals ret :: tables_1)).before args0 about1 = true := by
  rw [allAtoms_all]
  show words1.all (fun c => c.before args0 about1) = true
  refine all_split ?_ w_codes
  rw [← List.take_append_drop 24 words1, List.all_append, w_t1, ← List.take_append_drop 24 (words1.drop 24), List.all_append, w_t2, ← List.take_append_drop 24 ((words1.drop 24).drop 24), List.all_append, w_t3, ← List.take_append_drop 24 (((words1.drop 24).drop 24).drop 24), List.all_append, w_t4, w_t5]
  rfl
set_option maxRecDepth 65536 in
theorem w_rest : rest_1_c.before args0 about1 = true := by decide +kernel
set_option maxRecDepth 65536 in
theorem w_case : (Jvm.Cond.and given_1 narrow_1).before args0 about1 = true := by decide +kernel
set_option maxRecDepth 65536 in
theorem w_consts : constsHeld consts_1 about1 := Jvm.Lit.constsHeldB_iff.mp (by decide +kernel)
theorem w_applies : (headSpec (Jvm.Cond.code x code maxLocals ret :: tables_1) room_1).applies x e0.platform about1 = true :=
  (Spec.applies_iff w_frames).mpr ⟨w_running, w_runnable, w_alone, w_named, w_hears, w_ripe, w_room, w_tables⟩
theorem atStart : AtStart classFile x code maxLocals ret World_1 tables_1 room_1 Calls_1 rest_1 Pre_1 launch0 p0 e0 about1 theMethod args0 below0 :=
  ⟨lists_1, trivial, launch0.admits_env _ _ _, launch0.least_env, fairChoices_fair.cas, fairChoices_fair.clock, w_frames, w_args, w_heap, w_applies, ⟨(by decide +kernel : framesKnown about1 = true), ⟨(by decide +kernel : tablesKnown about1 = true), ⟨w_consts, trivial⟩⟩⟩, w_rest, w_case⟩
end start1
theorem witness_1 : WitnessClaimed_1 := ⟨start1.p0, start1.e0, start1.about1, start1.theMethod, start1.args0, start1.below0, start1.atStart⟩
end Jvm.Pilot.@@N@@
