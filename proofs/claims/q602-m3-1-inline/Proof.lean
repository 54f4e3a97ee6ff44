import JvmDerived
import JvmDerived.Pilot.@@N@@Statement
import JvmDerived.Pilot.@@N@@Code
set_option linter.unusedVariables false
set_option linter.unusedSimpArgs false
namespace Jvm.Own
open Jvm Sem ClassFile Op Lib Jvm.Stand Jvm.Free Jvm.LawKit Jvm.RoadKit Bundle
/-- the moving data of a walk: program, environment, the start, the method, its arguments, the frames below, the method's record, its code -/
abbrev Cx : Type := Program × Env × State × MethodId × Array Value × List Frame × Method × Code
/-- from here the run ends as P says -/
def Go (K : Cx) (P : Outcome → State → Prop) (T : State) (pc : Nat) (ls : Array Slot) (st : List Value) : Prop :=
  ∃ o U, Steps K.1.tables K.2.1 K.2.2.2.2.2.1 (T.setTop (mkF K.2.2.2.1 pc ls st)) U ∧ U.status = .running ∧ Ended U K.2.2.2.2.2.1 o ∧ P o U
/-- where a walk stands: over its start re-tabled; heap h; sf: the cells that it may write -/
def Wk (l : Launch) (Z : State) (EL : List (String × Nat)) (own nm : String) (cd : ByteArray) (ml : Nat) (ret : Option FieldType) (R : Room) (ws : List Addr) (h0 : Heap) (K : Cx) (sf : List Addr) (T : State) (h : Heap) (cells slots : Nat) : Prop :=
  ∃ (vm0 : Vm) (locs : List Loc) (k0 : Nat), Stand K.1 l K.2.1 R (K.2.2.1.setVm vm0) K.2.2.2.1 K.2.2.2.2.1 K.2.2.2.2.2.1 K.2.2.2.2.2.2.1 K.2.2.2.2.2.2.2 T locs cells slots ∧ T.heap = h ∧ K.1.tables.exec = Jvm.exec ∧
    (K.2.2.2.2.2.2.2.code = cd ∧ K.2.2.2.2.2.2.2.maxLocals = ml ∧ K.2.2.2.2.2.2.1.sig.returnType = ret ∧ K.2.2.2.2.2.2.1.locks = false ∧ K.2.2.2.2.2.2.1.name = nm) ∧ K.2.2.1.heap = h0 ∧
    Z.Warmed39 vm0 ∧ vm0.findClass own = some K.2.2.2.1.cls ∧ K.2.2.1.Since vm0 k0 ∧ k0 ≤ h.size ∧ (∀ x ∈ locs, x.base ∈ ws ∨ h0.size ≤ x.base) ∧ CHr Z EL K.2.2.1.vm h0 vm0 h ∧ Old Z Z.heap.size h ∧ (∃ a0, EW Z a0 EL) ∧
    (∀ x ∈ ws, Z.heap.size ≤ x) ∧ Z.heap.size ≤ h0.size ∧ ∀ x ∈ sf, Safe Z EL vm0 h x ∧ x < h.size ∧ (x ∈ ws ∨ h0.size ≤ x)
/-- what a contract promises at the end -/
def Pst (Z : State) (EL : List (String × Nat)) (ws : List Addr) (s : State) (kc ks : Nat) (Q : Option Value → Heap → List Addr → Prop) (o : Outcome) (U : State) : Prop :=
  ∃ v L so, o = .returned v ∧ Q v U.heap so ∧ (∀ x ∈ so, Safe Z EL U.vm U.heap x ∧ s.heap.size ≤ x ∧ x < U.heap.size) ∧ (∀ x ∈ L, x.base ∈ ws ∨ s.heap.size ≤ x.base) ∧ CHr Z EL s.vm s.heap U.vm U.heap ∧ ReturnedEndW s o U L kc ks
/-- a body's contract: from the heap h and the arguments as', whatever is booked said, ws writable -/
def Ct (l : Launch) (Z : State) (EL : List (String × Nat)) (y : MethodName) (cd : ByteArray) (ml : Nat) (ret : Option FieldType) (rm : Room) (as' : Array Value) (h : Heap) (ws : List Addr) (Q : Option Value → Heap → List Addr → Prop) : Prop :=
  ∀ wl, MetFree l y (head1 (Cond.code y cd ml ret :: wl) rm) (fun a U => a = as' ∧ Z.Warmed39 U.vm ∧ U.heap = h ∧ CHv Z EL U.vm h ∧ ∀ x ∈ ws, Safe Z EL U.vm h x ∧ x < h.size) (fun _ _ _ _ _ => True) (fun _ U o U' => Pst Z EL ws U rm.cells rm.slots Q o U')
section Basics
variable {l : Launch} {Z : State} {EL : List (String × Nat)} {own nm : String} {cd : ByteArray} {ml : Nat} {ret : Option FieldType} {R : Room} {ws : List Addr} {h0 : Heap} {K : Cx} {sf : List Addr} {T : State} {h h' : Heap} {cells slots : Nat} {P : Outcome → State → Prop} {pc pc' : Nat} {ls : Array Slot} {st : List Value} {a0 : Array Value}
theorem Go.stp {T' : State} {pc' : Nat} {ls' : Array Slot} {st' : List Value} (f : ∀ t, Steps K.1.tables K.2.1 K.2.2.2.2.2.1 (T'.setTop (mkF K.2.2.2.1 pc' ls' st')) t → Steps K.1.tables K.2.1 K.2.2.2.2.2.1 (T.setTop (mkF K.2.2.2.1 pc ls st)) t) (k : Go K P T' pc' ls' st') : Go K P T pc ls st := by
  obtain ⟨o, U, r, q⟩ := k; exact ⟨o, U, f _ r, q⟩
theorem Go.top {v v' : Value} (e : v = v') (k : Go K P T pc ls (v' :: st)) : Go K P T pc ls (v :: st) := e ▸ k
theorem Wk.heapEq (W : Wk l Z EL own nm cd ml ret R ws h0 K sf T h cells slots) : T.heap = h := by obtain ⟨_, _, _, _, e, _⟩ := W; exact e
theorem Wk.old (W : Wk l Z EL own nm cd ml ret R ws h0 K sf T h cells slots) : Old Z Z.heap.size h := by obtain ⟨_, _, _, _, _, _, _, _, _, _, _, _, _, _, q, _⟩ := W; exact q
theorem Wk.grow (W : Wk l Z EL own nm cd ml ret R ws h0 K sf T h cells slots) : h0.size ≤ h.size := by obtain ⟨_, _, _, _, _, _, _, _, _, _, _, _, _, q, _⟩ := W; exact q.2.1
theorem Wk.lt (W : Wk l Z EL own nm cd ml ret R ws h0 K sf T h cells slots) {x : Addr} (hx : x ∈ sf) : x < h.size := by obtain ⟨_, _, _, _, _, _, _, _, _, _, _, _, _, _, _, _, _, _, q⟩ := W; exact (q x hx).2.1
theorem Wk.mono (W : Wk l Z EL own nm cd ml ret R ws h0 K sf T h cells slots) {cells' slots' : Nat} (hc : cells ≤ cells') (hn : slots ≤ slots') : Wk l Z EL own nm cd ml ret R ws h0 K sf T h cells' slots' := by
  obtain ⟨vm0, locs, k0, X, r⟩ := W; exact ⟨vm0, locs, k0, X.mono hc hn, r⟩
theorem Wk.less (W : Wk l Z EL own nm cd ml ret R ws h0 K sf T h cells slots) {sf' : List Addr} (hs : ∀ x ∈ sf', x ∈ sf) : Wk l Z EL own nm cd ml ret R ws h0 K sf' T h cells slots := by
  obtain ⟨vm0, locs, k0, X, e, hx, hc, e0, hZ, hown, hS, hk, hL, hC, hO, hE, hw, hz, hs'⟩ := W
  exact ⟨vm0, locs, k0, X, e, hx, hc, e0, hZ, hown, hS, hk, hL, hC, hO, hE, hw, hz, fun x q => hs' x (hs x q)⟩
/-- an object whose class is neither String nor byte[] is booked nowhere -/
theorem Wk.addE (W : Wk l Z EL own nm cd ml ret R ws h0 K sf T h cells slots) {x : Addr} {C : String} (E : Exa Z h x C) (h1 : C ≠ "java/lang/String") (h2 : C ≠ "[B") (hp : x ∈ ws ∨ h0.size ≤ x) : Wk l Z EL own nm cd ml ret R ws h0 K (x :: sf) T h cells slots := by
  obtain ⟨vm0, locs, k0, X, e, hx, hc, e0, hZ, hown, hS, hk, hL, hC, hO, hE, hw, hz, hs⟩ := W
  exact ⟨vm0, locs, k0, X, e, hx, hc, e0, hZ, hown, hS, hk, hL, hC, hO, hE, hw, hz, fun y hy => by
    rcases List.mem_cons.mp hy with rfl | hy
    · exact ⟨Safe.exa hZ.alike E h1 h2, E.lt, hp⟩
    · exact hs y hy⟩
theorem all1 {α : Type} {P : α → Prop} {y : α} {L : List α} (q : P y) (r : ∀ x ∈ L, P x) : ∀ x ∈ y :: L, P x := fun x hx => (List.mem_cons.mp hx).elim (fun e => e ▸ q) (r x)
theorem alln {α : Type} {P : α → Prop} : ∀ x ∈ ([] : List α), P x := fun _ q => nomatch q
theorem keep_of {s U : State} {L : List Loc} {k n : Nat} {ws : List Addr} (hs : s.sameButNew U L k n) (hL : ∀ x ∈ L, x.base ∈ ws ∨ s.heap.size ≤ x.base) : Keep s.heap U.heap ws := by
  obtain ⟨-, q2, -, -, -, q6⟩ := hs
  refine ⟨q2, fun x c hx hn => ?_, fun x c hx => ?_⟩
  · obtain ⟨c', r1, r2, r3, r4⟩ := q6 x c hx
    have hlt := (Array.getElem?_eq_some_iff.mp hx).1
    have e1 : c'.slots = c.slots := Array.ext_getElem? fun i => r4 i fun hm => by
      rcases hL _ hm with z | z
      · exact hn z
      · exact absurd hlt (Nat.not_lt.mpr z)
    have e2 : c' = c := by rw [r2, e1]
    rw [r1, e2]
  · obtain ⟨c', r1, r2, r3, -⟩ := q6 x c hx
    exact ⟨c', r1, by rw [r2], by rw [r2], r3⟩
/-- entering a body -/
theorem Ct.mk {y : MethodName} (own nm : String) (h1 : y.cls = own) (h2 : y.name = nm) {rm : Room} {as' : Array Value} {Q : Option Value → Heap → List Addr → Prop} (pn : plainFor y = true) (hO : Old Z Z.heap.size h) (hE : EW Z a0 EL) (hw : ∀ x ∈ ws, Z.heap.size ≤ x)
    (k : ∀ (K : Cx) (T : State), Wk l Z EL own nm cd ml ret rm ws h K ws T h 0 0 → Go K (Pst Z EL ws K.2.2.1 rm.cells rm.slots Q) T 0 (entryFrame K.2.2.2.1 as' ml).locals []) : Ct l Z EL y cd ml ret rm as' h ws Q := by
  subst h1 h2
  intro wl
  refine MetFree.of_bodySF pn hisR ?_
  intro p e s m args below meth c s₁ Bd hml hP hK
  obtain ⟨rfl, hZ, hh, hCH, hsf⟩ := hP
  have X0 := Stand.of_body Bd
  have hes : s₁.heap = h := by rw [← hh, Bd.state]; rfl
  have hvm : s₁.vm = s.vm := by rw [Bd.state]; rfl
  have hn := name_of_methodNamed Bd.named Bd.method
  obtain ⟨o, U, r1, r2, r3, r4⟩ := k (p, e, s, m, args, below, meth, c) s₁ ⟨s.vm, [], 0, X0, hes, Bd.exec, ⟨Bd.bytes, hml, Bd.returns, Bd.notSynchronized, hn.1⟩, hh, hZ, findClass_of_methodNamed Bd.named, (State.WarmedH.refl s).since 0, Nat.zero_le _, (fun x q => nomatch q), by rw [← hh] at hCH ⊢; exact CHr.refl hCH, hO, ⟨a0, hE⟩, hw, hO.1 ▸ hO.2.1, fun x q => ⟨(hsf x q).1, (hsf x q).2, Or.inl q⟩⟩
  refine ⟨U, o, ?_, r2, r3, r4⟩
  have ef : entryFrame m args ml = mkF m 0 (entryFrame m args ml).locals [] := rfl
  rw [ef]; exact r1
end Basics
section Pure
variable {l : Launch} {Z : State} {EL : List (String × Nat)} {own nm : String} {cd : ByteArray} {ml : Nat} {ret : Option FieldType} {R : Room} {ws : List Addr} {h0 : Heap} {K : Cx} {sf : List Addr} {T : State} {h h' : Heap} {cells slots : Nat} {P : Outcome → State → Prop} {pc pc' : Nat} {ls : Array Slot} {st : List Value} {a0 : Array Value}
theorem gAloadN (W : Wk l Z EL own nm cd ml ret R ws h0 K sf T h cells slots) {i : Fin 4} {v : Value} (hd : decode cd pc = .ok (.aload_n i, 1)) (hl : ls[i.val]? = some (.val v)) (hv : v.isRef = true) (hp : pc + 1 = pc') (k : Go K P T pc' ls (v :: st)) : Go K P T pc ls st := by
  obtain ⟨vm0, locs, k0, X, e, hx, ⟨hc, -⟩, -⟩ := W
  subst hp
  exact Go.stp (fun t r => XS.aloadN X.here hx rfl (hb hc hd) hl hv r) k
theorem gAload (W : Wk l Z EL own nm cd ml ret R ws h0 K sf T h cells slots) {i : Nat} {v : Value} (hd : decode cd pc = .ok (.aload i, 2)) (hl : ls[i]? = some (.val v)) (hv : v.isRef = true) (hp : pc + 2 = pc') (k : Go K P T pc' ls (v :: st)) : Go K P T pc ls st := by
  obtain ⟨vm0, locs, k0, X, e, hx, ⟨hc, -⟩, -⟩ := W
  subst hp
  exact Go.stp (fun t r => XS.aload X.here hx rfl (hb hc hd) hl hv r) k
theorem gIloadN (W : Wk l Z EL own nm cd ml ret R ws h0 K sf T h cells slots) {i : Fin 4} {v : Int32} (hd : decode cd pc = .ok (.iload_n i, 1)) (hl : ls[i.val]? = some (.val (.int v))) (hp : pc + 1 = pc') (k : Go K P T pc' ls (.int v :: st)) : Go K P T pc ls st := by
  obtain ⟨vm0, locs, k0, X, e, hx, ⟨hc, -⟩, -⟩ := W
  subst hp
  exact Go.stp (fun t r => XS.iloadN X.here hx rfl (hb hc hd) hl r) k
theorem gIload (W : Wk l Z EL own nm cd ml ret R ws h0 K sf T h cells slots) {i : Nat} {v : Int32} (hd : decode cd pc = .ok (.iload i, 2)) (hl : ls[i]? = some (.val (.int v))) (hp : pc + 2 = pc') (k : Go K P T pc' ls (.int v :: st)) : Go K P T pc ls st := by
  obtain ⟨vm0, locs, k0, X, e, hx, ⟨hc, -⟩, -⟩ := W
  subst hp
  exact Go.stp (fun t r => XS.iload X.here hx rfl (hb hc hd) hl r) k
theorem gLloadN (W : Wk l Z EL own nm cd ml ret R ws h0 K sf T h cells slots) {i : Fin 4} {v : Int64} (hd : decode cd pc = .ok (.lload_n i, 1)) (hl : ls[i.val]? = some (.val (.long v))) (hp : pc + 1 = pc') (k : Go K P T pc' ls (.long v :: st)) : Go K P T pc ls st := by
  obtain ⟨vm0, locs, k0, X, e, hx, ⟨hc, -⟩, -⟩ := W
  subst hp
  exact Go.stp (fun t r => XS.lloadN X.here hx rfl (hb hc hd) hl r) k
theorem gLload (W : Wk l Z EL own nm cd ml ret R ws h0 K sf T h cells slots) {i : Nat} {v : Int64} (hd : decode cd pc = .ok (.lload i, 2)) (hl : ls[i]? = some (.val (.long v))) (hp : pc + 2 = pc') (k : Go K P T pc' ls (.long v :: st)) : Go K P T pc ls st := by
  obtain ⟨vm0, locs, k0, X, e, hx, ⟨hc, -⟩, -⟩ := W
  subst hp
  exact Go.stp (fun t r => XS.lload X.here hx rfl (hb hc hd) hl r) k
theorem gIconst (W : Wk l Z EL own nm cd ml ret R ws h0 K sf T h cells slots) {i : Int} {z : Int32} (hd : decode cd pc = .ok (.iconst i, 1)) (hz : Int32.ofInt i = z) (hp : pc + 1 = pc') (k : Go K P T pc' ls (.int z :: st)) : Go K P T pc ls st := by
  obtain ⟨vm0, locs, k0, X, e, hx, ⟨hc, -⟩, -⟩ := W
  subst hp
  exact Go.stp (fun t r => XS.iconst X.here hx rfl (hb hc hd) <| hz ▸ r) k
theorem gBipush (W : Wk l Z EL own nm cd ml ret R ws h0 K sf T h cells slots) {i : Int} {z : Int32} (hd : decode cd pc = .ok (.bipush i, 2)) (hz : (Int8.ofInt i).toInt32 = z) (hp : pc + 2 = pc') (k : Go K P T pc' ls (.int z :: st)) : Go K P T pc ls st := by
  obtain ⟨vm0, locs, k0, X, e, hx, ⟨hc, -⟩, -⟩ := W
  subst hp
  exact Go.stp (fun t r => XS.bipush X.here hx rfl (hb hc hd) <| hz ▸ r) k
theorem gSipush (W : Wk l Z EL own nm cd ml ret R ws h0 K sf T h cells slots) {i : Int} {z : Int32} (hd : decode cd pc = .ok (.sipush i, 3)) (hz : (Int16.ofInt i).toInt32 = z) (hp : pc + 3 = pc') (k : Go K P T pc' ls (.int z :: st)) : Go K P T pc ls st := by
  obtain ⟨vm0, locs, k0, X, e, hx, ⟨hc, -⟩, -⟩ := W
  subst hp
  exact Go.stp (fun t r => XS.sipush X.here hx rfl (hb hc hd) <| hz ▸ r) k
theorem gAconstNull (W : Wk l Z EL own nm cd ml ret R ws h0 K sf T h cells slots)  (hd : decode cd pc = .ok (.aconst_null, 1))  (hp : pc + 1 = pc') (k : Go K P T pc' ls (.null :: st)) : Go K P T pc ls st := by
  obtain ⟨vm0, locs, k0, X, e, hx, ⟨hc, -⟩, -⟩ := W
  subst hp
  exact Go.stp (fun t r => XS.aconstNull X.here hx rfl (hb hc hd) r) k
theorem gLconst (W : Wk l Z EL own nm cd ml ret R ws h0 K sf T h cells slots) {i : Fin 2} {z : Int64} (hd : decode cd pc = .ok (.lconst i, 1)) (hz : (Int64.ofNat i.val) = z) (hp : pc + 1 = pc') (k : Go K P T pc' ls (.long z :: st)) : Go K P T pc ls st := by
  obtain ⟨vm0, locs, k0, X, e, hx, ⟨hc, -⟩, -⟩ := W
  subst hp
  exact Go.stp (fun t r => XS.lconst X.here hx rfl (hb hc hd) <| hz ▸ r) k
theorem gIadd (W : Wk l Z EL own nm cd ml ret R ws h0 K sf T h cells slots) {x y z : Int32} (hd : decode cd pc = .ok (.iadd, 1)) (hz : x + y = z) (hp : pc + 1 = pc') (k : Go K P T pc' ls (.int z :: st)) : Go K P T pc ls (.int y :: .int x :: st) := by
  obtain ⟨vm0, locs, k0, X, e, hx, ⟨hc, -⟩, -⟩ := W
  subst hp
  exact Go.stp (fun t r => XS.iadd X.here hx rfl (hb hc hd) rfl <| hz ▸ r) k
theorem gIsub (W : Wk l Z EL own nm cd ml ret R ws h0 K sf T h cells slots) {x y z : Int32} (hd : decode cd pc = .ok (.isub, 1)) (hz : x - y = z) (hp : pc + 1 = pc') (k : Go K P T pc' ls (.int z :: st)) : Go K P T pc ls (.int y :: .int x :: st) := by
  obtain ⟨vm0, locs, k0, X, e, hx, ⟨hc, -⟩, -⟩ := W
  subst hp
  exact Go.stp (fun t r => XS.isub X.here hx rfl (hb hc hd) rfl <| hz ▸ r) k
theorem gImul (W : Wk l Z EL own nm cd ml ret R ws h0 K sf T h cells slots) {x y z : Int32} (hd : decode cd pc = .ok (.imul, 1)) (hz : x * y = z) (hp : pc + 1 = pc') (k : Go K P T pc' ls (.int z :: st)) : Go K P T pc ls (.int y :: .int x :: st) := by
  obtain ⟨vm0, locs, k0, X, e, hx, ⟨hc, -⟩, -⟩ := W
  subst hp
  exact Go.stp (fun t r => XS.imul X.here hx rfl (hb hc hd) rfl <| hz ▸ r) k
theorem gIand (W : Wk l Z EL own nm cd ml ret R ws h0 K sf T h cells slots) {x y z : Int32} (hd : decode cd pc = .ok (.iand, 1)) (hz : x &&& y = z) (hp : pc + 1 = pc') (k : Go K P T pc' ls (.int z :: st)) : Go K P T pc ls (.int y :: .int x :: st) := by
  obtain ⟨vm0, locs, k0, X, e, hx, ⟨hc, -⟩, -⟩ := W
  subst hp
  exact Go.stp (fun t r => XS.iand X.here hx rfl (hb hc hd) rfl <| hz ▸ r) k
theorem gIor (W : Wk l Z EL own nm cd ml ret R ws h0 K sf T h cells slots) {x y z : Int32} (hd : decode cd pc = .ok (.ior, 1)) (hz : x ||| y = z) (hp : pc + 1 = pc') (k : Go K P T pc' ls (.int z :: st)) : Go K P T pc ls (.int y :: .int x :: st) := by
  obtain ⟨vm0, locs, k0, X, e, hx, ⟨hc, -⟩, -⟩ := W
  subst hp
  exact Go.stp (fun t r => XS.ior X.here hx rfl (hb hc hd) rfl <| hz ▸ r) k
theorem gIxor (W : Wk l Z EL own nm cd ml ret R ws h0 K sf T h cells slots) {x y z : Int32} (hd : decode cd pc = .ok (.ixor, 1)) (hz : x ^^^ y = z) (hp : pc + 1 = pc') (k : Go K P T pc' ls (.int z :: st)) : Go K P T pc ls (.int y :: .int x :: st) := by
  obtain ⟨vm0, locs, k0, X, e, hx, ⟨hc, -⟩, -⟩ := W
  subst hp
  exact Go.stp (fun t r => XS.ixor X.here hx rfl (hb hc hd) rfl <| hz ▸ r) k
theorem gIshl (W : Wk l Z EL own nm cd ml ret R ws h0 K sf T h cells slots) {x y z : Int32} (hd : decode cd pc = .ok (.ishl, 1)) (hz : x <<< (y &&& 31) = z) (hp : pc + 1 = pc') (k : Go K P T pc' ls (.int z :: st)) : Go K P T pc ls (.int y :: .int x :: st) := by
  obtain ⟨vm0, locs, k0, X, e, hx, ⟨hc, -⟩, -⟩ := W
  subst hp
  exact Go.stp (fun t r => XS.ishl X.here hx rfl (hb hc hd) rfl <| hz ▸ r) k
theorem gIshr (W : Wk l Z EL own nm cd ml ret R ws h0 K sf T h cells slots) {x y z : Int32} (hd : decode cd pc = .ok (.ishr, 1)) (hz : x >>> (y &&& 31) = z) (hp : pc + 1 = pc') (k : Go K P T pc' ls (.int z :: st)) : Go K P T pc ls (.int y :: .int x :: st) := by
  obtain ⟨vm0, locs, k0, X, e, hx, ⟨hc, -⟩, -⟩ := W
  subst hp
  exact Go.stp (fun t r => XS.ishr X.here hx rfl (hb hc hd) rfl <| hz ▸ r) k
theorem gIushr (W : Wk l Z EL own nm cd ml ret R ws h0 K sf T h cells slots) {x y z : Int32} (hd : decode cd pc = .ok (.iushr, 1)) (hz : (x.toUInt32 >>> (y &&& 31).toUInt32).toInt32 = z) (hp : pc + 1 = pc') (k : Go K P T pc' ls (.int z :: st)) : Go K P T pc ls (.int y :: .int x :: st) := by
  obtain ⟨vm0, locs, k0, X, e, hx, ⟨hc, -⟩, -⟩ := W
  subst hp
  exact Go.stp (fun t r => XS.iushr X.here hx rfl (hb hc hd) rfl <| hz ▸ r) k
theorem gIdiv (W : Wk l Z EL own nm cd ml ret R ws h0 K sf T h cells slots) {x y z : Int32} (hd : decode cd pc = .ok (.idiv, 1)) (hy : y ≠ 0) (hz : x / y = z) (hp : pc + 1 = pc') (k : Go K P T pc' ls (.int z :: st)) : Go K P T pc ls (.int y :: .int x :: st) := by
  obtain ⟨vm0, locs, k0, X, e, hx, ⟨hc, -⟩, -⟩ := W
  subst hp
  exact Go.stp (fun t r => XS.idiv X.here hx rfl (hb hc hd) rfl hy <| hz ▸ r) k
theorem gIrem (W : Wk l Z EL own nm cd ml ret R ws h0 K sf T h cells slots) {x y z : Int32} (hd : decode cd pc = .ok (.irem, 1)) (hy : y ≠ 0) (hz : x % y = z) (hp : pc + 1 = pc') (k : Go K P T pc' ls (.int z :: st)) : Go K P T pc ls (.int y :: .int x :: st) := by
  obtain ⟨vm0, locs, k0, X, e, hx, ⟨hc, -⟩, -⟩ := W
  subst hp
  exact Go.stp (fun t r => iremM X hx rfl (hb hc hd) rfl hy <| hz ▸ r) k
theorem gIneg (W : Wk l Z EL own nm cd ml ret R ws h0 K sf T h cells slots) {x z : Int32} (hd : decode cd pc = .ok (.ineg, 1)) (hz : -x = z) (hp : pc + 1 = pc') (k : Go K P T pc' ls (.int z :: st)) : Go K P T pc ls (.int x :: st) := by
  obtain ⟨vm0, locs, k0, X, e, hx, ⟨hc, -⟩, -⟩ := W
  subst hp
  exact Go.stp (fun t r => XS.ineg X.here hx rfl (hb hc hd) rfl <| hz ▸ r) k
theorem gI2B (W : Wk l Z EL own nm cd ml ret R ws h0 K sf T h cells slots) {x z : Int32} (hd : decode cd pc = .ok (.i2b, 1)) (hz : x.toInt8.toInt32 = z) (hp : pc + 1 = pc') (k : Go K P T pc' ls (.int z :: st)) : Go K P T pc ls (.int x :: st) := by
  obtain ⟨vm0, locs, k0, X, e, hx, ⟨hc, -⟩, -⟩ := W
  subst hp
  exact Go.stp (fun t r => XS.i2b X.here hx rfl (hb hc hd) rfl <| hz ▸ r) k
theorem gI2C (W : Wk l Z EL own nm cd ml ret R ws h0 K sf T h cells slots) {x z : Int32} (hd : decode cd pc = .ok (.i2c, 1)) (hz : x.toUInt32.toUInt16.toUInt32.toInt32 = z) (hp : pc + 1 = pc') (k : Go K P T pc' ls (.int z :: st)) : Go K P T pc ls (.int x :: st) := by
  obtain ⟨vm0, locs, k0, X, e, hx, ⟨hc, -⟩, -⟩ := W
  subst hp
  exact Go.stp (fun t r => XS.i2c X.here hx rfl (hb hc hd) rfl <| hz ▸ r) k
theorem gI2S (W : Wk l Z EL own nm cd ml ret R ws h0 K sf T h cells slots) {x z : Int32} (hd : decode cd pc = .ok (.i2s, 1)) (hz : x.toInt16.toInt32 = z) (hp : pc + 1 = pc') (k : Go K P T pc' ls (.int z :: st)) : Go K P T pc ls (.int x :: st) := by
  obtain ⟨vm0, locs, k0, X, e, hx, ⟨hc, -⟩, -⟩ := W
  subst hp
  exact Go.stp (fun t r => XS.i2s X.here hx rfl (hb hc hd) rfl <| hz ▸ r) k
theorem gI2L (W : Wk l Z EL own nm cd ml ret R ws h0 K sf T h cells slots) {x : Int32} {z : Int64} (hd : decode cd pc = .ok (.i2l, 1)) (hz : x.toInt64 = z) (hp : pc + 1 = pc') (k : Go K P T pc' ls (.long z :: st)) : Go K P T pc ls (.int x :: st) := by
  obtain ⟨vm0, locs, k0, X, e, hx, ⟨hc, -⟩, -⟩ := W
  subst hp
  exact Go.stp (fun t r => XS.i2l X.here hx rfl (hb hc hd) rfl <| hz ▸ r) k
theorem gL2I (W : Wk l Z EL own nm cd ml ret R ws h0 K sf T h cells slots) {x : Int64} {z : Int32} (hd : decode cd pc = .ok (.l2i, 1)) (hz : x.toInt32 = z) (hp : pc + 1 = pc') (k : Go K P T pc' ls (.int z :: st)) : Go K P T pc ls (.long x :: st) := by
  obtain ⟨vm0, locs, k0, X, e, hx, ⟨hc, -⟩, -⟩ := W
  subst hp
  exact Go.stp (fun t r => XS.l2i X.here hx rfl (hb hc hd) rfl <| hz ▸ r) k
theorem gLadd (W : Wk l Z EL own nm cd ml ret R ws h0 K sf T h cells slots) {x y z : Int64} (hd : decode cd pc = .ok (.ladd, 1)) (hz : x + y = z) (hp : pc + 1 = pc') (k : Go K P T pc' ls (.long z :: st)) : Go K P T pc ls (.long y :: .long x :: st) := by
  obtain ⟨vm0, locs, k0, X, e, hx, ⟨hc, -⟩, -⟩ := W
  subst hp
  exact Go.stp (fun t r => XS.ladd X.here hx rfl (hb hc hd) rfl <| hz ▸ r) k
theorem gLsub (W : Wk l Z EL own nm cd ml ret R ws h0 K sf T h cells slots) {x y z : Int64} (hd : decode cd pc = .ok (.lsub, 1)) (hz : x - y = z) (hp : pc + 1 = pc') (k : Go K P T pc' ls (.long z :: st)) : Go K P T pc ls (.long y :: .long x :: st) := by
  obtain ⟨vm0, locs, k0, X, e, hx, ⟨hc, -⟩, -⟩ := W
  subst hp
  exact Go.stp (fun t r => XS.lsub X.here hx rfl (hb hc hd) rfl <| hz ▸ r) k
theorem gLmul (W : Wk l Z EL own nm cd ml ret R ws h0 K sf T h cells slots) {x y z : Int64} (hd : decode cd pc = .ok (.lmul, 1)) (hz : x * y = z) (hp : pc + 1 = pc') (k : Go K P T pc' ls (.long z :: st)) : Go K P T pc ls (.long y :: .long x :: st) := by
  obtain ⟨vm0, locs, k0, X, e, hx, ⟨hc, -⟩, -⟩ := W
  subst hp
  exact Go.stp (fun t r => XS.lmul X.here hx rfl (hb hc hd) rfl <| hz ▸ r) k
theorem gLand (W : Wk l Z EL own nm cd ml ret R ws h0 K sf T h cells slots) {x y z : Int64} (hd : decode cd pc = .ok (.land, 1)) (hz : x &&& y = z) (hp : pc + 1 = pc') (k : Go K P T pc' ls (.long z :: st)) : Go K P T pc ls (.long y :: .long x :: st) := by
  obtain ⟨vm0, locs, k0, X, e, hx, ⟨hc, -⟩, -⟩ := W
  subst hp
  exact Go.stp (fun t r => XS.land X.here hx rfl (hb hc hd) rfl <| hz ▸ r) k
theorem gLor (W : Wk l Z EL own nm cd ml ret R ws h0 K sf T h cells slots) {x y z : Int64} (hd : decode cd pc = .ok (.lor, 1)) (hz : x ||| y = z) (hp : pc + 1 = pc') (k : Go K P T pc' ls (.long z :: st)) : Go K P T pc ls (.long y :: .long x :: st) := by
  obtain ⟨vm0, locs, k0, X, e, hx, ⟨hc, -⟩, -⟩ := W
  subst hp
  exact Go.stp (fun t r => XS.lor X.here hx rfl (hb hc hd) rfl <| hz ▸ r) k
theorem gLxor (W : Wk l Z EL own nm cd ml ret R ws h0 K sf T h cells slots) {x y z : Int64} (hd : decode cd pc = .ok (.lxor, 1)) (hz : x ^^^ y = z) (hp : pc + 1 = pc') (k : Go K P T pc' ls (.long z :: st)) : Go K P T pc ls (.long y :: .long x :: st) := by
  obtain ⟨vm0, locs, k0, X, e, hx, ⟨hc, -⟩, -⟩ := W
  subst hp
  exact Go.stp (fun t r => XS.lxor X.here hx rfl (hb hc hd) rfl <| hz ▸ r) k
theorem gLshl (W : Wk l Z EL own nm cd ml ret R ws h0 K sf T h cells slots) {x z : Int64} {y : Int32} (hd : decode cd pc = .ok (.lshl, 1)) (hz : x <<< (y &&& 0x3f).toInt64 = z) (hp : pc + 1 = pc') (k : Go K P T pc' ls (.long z :: st)) : Go K P T pc ls (.int y :: .long x :: st) := by
  obtain ⟨vm0, locs, k0, X, e, hx, ⟨hc, -⟩, -⟩ := W
  subst hp
  exact Go.stp (fun t r => XS.lshl X.here hx rfl (hb hc hd) rfl <| hz ▸ r) k
theorem gLshr (W : Wk l Z EL own nm cd ml ret R ws h0 K sf T h cells slots) {x z : Int64} {y : Int32} (hd : decode cd pc = .ok (.lshr, 1)) (hz : x >>> (y &&& 0x3f).toInt64 = z) (hp : pc + 1 = pc') (k : Go K P T pc' ls (.long z :: st)) : Go K P T pc ls (.int y :: .long x :: st) := by
  obtain ⟨vm0, locs, k0, X, e, hx, ⟨hc, -⟩, -⟩ := W
  subst hp
  exact Go.stp (fun t r => XS.lshr X.here hx rfl (hb hc hd) rfl <| hz ▸ r) k
theorem gLushr (W : Wk l Z EL own nm cd ml ret R ws h0 K sf T h cells slots) {x z : Int64} {y : Int32} (hd : decode cd pc = .ok (.lushr, 1)) (hz : (x.toUInt64 >>> (y &&& 0x3f).toInt64.toUInt64).toInt64 = z) (hp : pc + 1 = pc') (k : Go K P T pc' ls (.long z :: st)) : Go K P T pc ls (.int y :: .long x :: st) := by
  obtain ⟨vm0, locs, k0, X, e, hx, ⟨hc, -⟩, -⟩ := W
  subst hp
  exact Go.stp (fun t r => XS.lushr X.here hx rfl (hb hc hd) rfl <| hz ▸ r) k
theorem gLcmp (W : Wk l Z EL own nm cd ml ret R ws h0 K sf T h cells slots) {x y : Int64} {z : Int32} (hd : decode cd pc = .ok (.lcmp, 1)) (hz : lcmpW x y = z) (hp : pc + 1 = pc') (k : Go K P T pc' ls (.int z :: st)) : Go K P T pc ls (.long y :: .long x :: st) := by
  obtain ⟨vm0, locs, k0, X, e, hx, ⟨hc, -⟩, -⟩ := W
  subst hp
  exact Go.stp (fun t r => XS.lcmp X.here hx rfl (hb hc hd) rfl (by subst hz; exact r)) k
theorem gDup (W : Wk l Z EL own nm cd ml ret R ws h0 K sf T h cells slots) {x : Value} (hd : decode cd pc = .ok (.dup, 1)) (hc1 : x.category = 1) (hp : pc + 1 = pc') (k : Go K P T pc' ls (x :: x :: st)) : Go K P T pc ls (x :: st) := by
  obtain ⟨vm0, locs, k0, X, e, hx, ⟨hc, -⟩, -⟩ := W
  subst hp
  exact Go.stp (fun t r => XS.dup X.here hx rfl (hb hc hd) rfl hc1 r) k
theorem gPop (W : Wk l Z EL own nm cd ml ret R ws h0 K sf T h cells slots) {x : Value} (hd : decode cd pc = .ok (.pop, 1)) (hc1 : x.category = 1) (hp : pc + 1 = pc') (k : Go K P T pc' ls st) : Go K P T pc ls (x :: st) := by
  obtain ⟨vm0, locs, k0, X, e, hx, ⟨hc, -⟩, -⟩ := W
  subst hp
  exact Go.stp (fun t r => XS.pop X.here hx rfl (hb hc hd) rfl hc1 r) k
theorem gIstoreN (W : Wk l Z EL own nm cd ml ret R ws h0 K sf T h cells slots) {i : Fin 4} {x : Int32} {ls' : Array Slot} (hd : decode cd pc = .ok (.istore_n i, 1)) (hl : storeLocals ls i.val (.int x) = some ls') (hp : pc + 1 = pc') (k : Go K P T pc' ls' st) : Go K P T pc ls (.int x :: st) := by
  obtain ⟨vm0, locs, k0, X, e, hx, ⟨hc, -⟩, -⟩ := W
  subst hp
  exact Go.stp (fun t r => XS.istoreN X.here hx rfl (hb hc hd) rfl hl r) k
theorem gIstore (W : Wk l Z EL own nm cd ml ret R ws h0 K sf T h cells slots) {i : Nat} {x : Int32} {ls' : Array Slot} (hd : decode cd pc = .ok (.istore i, 2)) (hl : storeLocals ls i (.int x) = some ls') (hp : pc + 2 = pc') (k : Go K P T pc' ls' st) : Go K P T pc ls (.int x :: st) := by
  obtain ⟨vm0, locs, k0, X, e, hx, ⟨hc, -⟩, -⟩ := W
  subst hp
  exact Go.stp (fun t r => XS.istore X.here hx rfl (hb hc hd) rfl hl r) k
theorem gAstoreN (W : Wk l Z EL own nm cd ml ret R ws h0 K sf T h cells slots) {i : Fin 4} {x : Value} {ls' : Array Slot} (hd : decode cd pc = .ok (.astore_n i, 1)) (hv : x.isRef = true) (hl : storeLocals ls i.val x = some ls') (hp : pc + 1 = pc') (k : Go K P T pc' ls' st) : Go K P T pc ls (x :: st) := by
  obtain ⟨vm0, locs, k0, X, e, hx, ⟨hc, -⟩, -⟩ := W
  subst hp
  exact Go.stp (fun t r => XS.astoreN X.here hx rfl (hb hc hd) rfl hv hl r) k
theorem gAstore (W : Wk l Z EL own nm cd ml ret R ws h0 K sf T h cells slots) {i : Nat} {x : Value} {ls' : Array Slot} (hd : decode cd pc = .ok (.astore i, 2)) (hv : x.isRef = true) (hl : storeLocals ls i x = some ls') (hp : pc + 2 = pc') (k : Go K P T pc' ls' st) : Go K P T pc ls (x :: st) := by
  obtain ⟨vm0, locs, k0, X, e, hx, ⟨hc, -⟩, -⟩ := W
  subst hp
  exact Go.stp (fun t r => XS.astore X.here hx rfl (hb hc hd) rfl hv hl r) k
theorem gLstoreN (W : Wk l Z EL own nm cd ml ret R ws h0 K sf T h cells slots) {i : Fin 4} {x : Int64} {ls' : Array Slot} (hd : decode cd pc = .ok (.lstore_n i, 1)) (hl : storeLocals ls i.val (.long x) = some ls') (hp : pc + 1 = pc') (k : Go K P T pc' ls' st) : Go K P T pc ls (.long x :: st) := by
  obtain ⟨vm0, locs, k0, X, e, hx, ⟨hc, -⟩, -⟩ := W
  subst hp
  exact Go.stp (fun t r => XS.lstoreN X.here hx rfl (hb hc hd) rfl hl r) k
theorem gLstore (W : Wk l Z EL own nm cd ml ret R ws h0 K sf T h cells slots) {i : Nat} {x : Int64} {ls' : Array Slot} (hd : decode cd pc = .ok (.lstore i, 2)) (hl : storeLocals ls i (.long x) = some ls') (hp : pc + 2 = pc') (k : Go K P T pc' ls' st) : Go K P T pc ls (.long x :: st) := by
  obtain ⟨vm0, locs, k0, X, e, hx, ⟨hc, -⟩, -⟩ := W
  subst hp
  exact Go.stp (fun t r => XS.lstore X.here hx rfl (hb hc hd) rfl hl r) k
theorem gIinc (W : Wk l Z EL own nm cd ml ret R ws h0 K sf T h cells slots) {i : Nat} {c0 : Int} {x z : Int32} {ls' : Array Slot} (hd : decode cd pc = .ok (.iinc i c0, 3)) (hl : ls[i]? = some (.val (.int x))) (hz : x + Int32.ofInt c0 = z) (hl2 : storeLocals ls i (.int z) = some ls') (hp : pc + 3 = pc') (k : Go K P T pc' ls' st) : Go K P T pc ls st := by
  obtain ⟨vm0, locs, k0, X, e, hx, ⟨hc, -⟩, -⟩ := W
  subst hp
  exact Go.stp (fun t r => XS.iinc X.here hx rfl (hb hc hd) hl (hz ▸ hl2) r) k
theorem gGoto (W : Wk l Z EL own nm cd ml ret R ws h0 K sf T h cells slots) {o : Int} (hd : decode cd pc = .ok (.goto o, 3)) (ho : 0 ≤ (pc : Int) + o) (hp : ((pc : Int) + o).toNat = pc') (k : Go K P T pc' ls st) : Go K P T pc ls st := by
  obtain ⟨vm0, locs, k0, X, e, hx, ⟨hc, -⟩, -⟩ := W
  exact Go.stp (fun t r => XS.goto X.here hx rfl (pc0 := pc) rfl (hb hc hd) ho hp r) k
theorem gIfYes (W : Wk l Z EL own nm cd ml ret R ws h0 K sf T h cells slots) {cn : ClassFile.Cond} {o : Int} {x : Int32} (hd : decode cd pc = .ok (.ifCond cn o, 3)) (hq : ifCond.holds cn x = true) (ho : 0 ≤ (pc : Int) + o) (hp : ((pc : Int) + o).toNat = pc') (k : Go K P T pc' ls st) : Go K P T pc ls (.int x :: st) := by
  obtain ⟨vm0, locs, k0, X, e, hx, ⟨hc, -⟩, -⟩ := W
  exact Go.stp (fun t r => XS.ifYes X.here hx rfl (pc0 := pc) rfl (hb hc hd) rfl hq ho hp r) k
theorem gIfNo (W : Wk l Z EL own nm cd ml ret R ws h0 K sf T h cells slots) {cn : ClassFile.Cond} {o : Int} {x : Int32} (hd : decode cd pc = .ok (.ifCond cn o, 3)) (hq : ifCond.holds cn x = false) (hp : pc + 3 = pc') (k : Go K P T pc' ls st) : Go K P T pc ls (.int x :: st) := by
  obtain ⟨vm0, locs, k0, X, e, hx, ⟨hc, -⟩, -⟩ := W
  subst hp
  exact Go.stp (fun t r => XS.ifNo X.here hx rfl (hb hc hd) rfl hq r) k
theorem gIcmpYes (W : Wk l Z EL own nm cd ml ret R ws h0 K sf T h cells slots) {cn : ClassFile.Cond} {o : Int} {x y : Int32} (hd : decode cd pc = .ok (.if_icmp cn o, 3)) (hq : if_icmp.holds cn x y = true) (ho : 0 ≤ (pc : Int) + o) (hp : ((pc : Int) + o).toNat = pc') (k : Go K P T pc' ls st) : Go K P T pc ls (.int y :: .int x :: st) := by
  obtain ⟨vm0, locs, k0, X, e, hx, ⟨hc, -⟩, -⟩ := W
  exact Go.stp (fun t r => XS.icmpYes X.here hx rfl (pc0 := pc) rfl (hb hc hd) rfl hq ho hp r) k
theorem gIcmpNo (W : Wk l Z EL own nm cd ml ret R ws h0 K sf T h cells slots) {cn : ClassFile.Cond} {o : Int} {x y : Int32} (hd : decode cd pc = .ok (.if_icmp cn o, 3)) (hq : if_icmp.holds cn x y = false) (hp : pc + 3 = pc') (k : Go K P T pc' ls st) : Go K P T pc ls (.int y :: .int x :: st) := by
  obtain ⟨vm0, locs, k0, X, e, hx, ⟨hc, -⟩, -⟩ := W
  subst hp
  exact Go.stp (fun t r => XS.icmpNo X.here hx rfl (hb hc hd) rfl hq r) k
theorem gIfnullYes (W : Wk l Z EL own nm cd ml ret R ws h0 K sf T h cells slots) {o : Int} (hd : decode cd pc = .ok (.ifnull o, 3)) (ho : 0 ≤ (pc : Int) + o) (hp : ((pc : Int) + o).toNat = pc') (k : Go K P T pc' ls st) : Go K P T pc ls (.null :: st) := by
  obtain ⟨vm0, locs, k0, X, e, hx, ⟨hc, -⟩, -⟩ := W
  exact Go.stp (fun t r => XS.ifnullYes X.here hx rfl (pc0 := pc) rfl (hb hc hd) rfl ho hp r) k
theorem gIfnullNo (W : Wk l Z EL own nm cd ml ret R ws h0 K sf T h cells slots) {o : Int} {b : Addr} (hd : decode cd pc = .ok (.ifnull o, 3))  (hp : pc + 3 = pc') (k : Go K P T pc' ls st) : Go K P T pc ls (.ref b :: st) := by
  obtain ⟨vm0, locs, k0, X, e, hx, ⟨hc, -⟩, -⟩ := W
  subst hp
  exact Go.stp (fun t r => XS.ifnullNo X.here hx rfl (hb hc hd) rfl r) k
theorem gIfnonnullYes (W : Wk l Z EL own nm cd ml ret R ws h0 K sf T h cells slots) {o : Int} {b : Addr} (hd : decode cd pc = .ok (.ifnonnull o, 3)) (ho : 0 ≤ (pc : Int) + o) (hp : ((pc : Int) + o).toNat = pc') (k : Go K P T pc' ls st) : Go K P T pc ls (.ref b :: st) := by
  obtain ⟨vm0, locs, k0, X, e, hx, ⟨hc, -⟩, -⟩ := W
  exact Go.stp (fun t r => XS.ifnonnullYes X.here hx rfl (pc0 := pc) rfl (hb hc hd) rfl ho hp r) k
theorem gIfnonnullNo (W : Wk l Z EL own nm cd ml ret R ws h0 K sf T h cells slots) {o : Int} (hd : decode cd pc = .ok (.ifnonnull o, 3))  (hp : pc + 3 = pc') (k : Go K P T pc' ls st) : Go K P T pc ls (.null :: st) := by
  obtain ⟨vm0, locs, k0, X, e, hx, ⟨hc, -⟩, -⟩ := W
  subst hp
  exact Go.stp (fun t r => XS.ifnonnullNo X.here hx rfl (hb hc hd) rfl r) k
theorem gAcmp (W : Wk l Z EL own nm cd ml ret R ws h0 K sf T h cells slots) {cn : ACond} {o : Int} {x y : Value} {same : Bool} (hd : decode cd pc = .ok (.if_acmp cn o, 3)) (h1 : x.isRef = true) (h2 : y.isRef = true) (hq : decide (x = y) = same) (ho : 0 ≤ (pc : Int) + o) (hp : pc' = if acV cn same = true then ((pc : Int) + o).toNat else pc + 3) (k : Go K P T pc' ls st) : Go K P T pc ls (y :: x :: st) := by
  obtain ⟨vm0, locs, k0, X, e, hx, ⟨hc, -⟩, -⟩ := W
  exact Go.stp (fun t r => acmp X hx rfl h1 h2 (pc0 := pc) rfl (hb hc hd) rfl hq ho hp r) k
end Pure
section Laws
variable {l : Launch} {Z : State} {EL : List (String × Nat)} {own nm : String} {cd : ByteArray} {ml : Nat} {ret : Option FieldType} {R : Room} {ws : List Addr} {h0 : Heap} {K : Cx} {sf : List Addr} {T : State} {h h' : Heap} {cells slots : Nat} {P : Outcome → State → Prop} {pc pc' : Nat} {ls : Array Slot} {st : List Value} {a0 : Array Value}
/-- getfield -/
theorem wGetF (W : Wk l Z EL own nm cd ml ret R ws h0 K sf T h cells slots) {R0 O n d : String} {index : Nat} (hd : decode cd pc = .ok (.getfield index, 3)) (w : (Cond.fieldLink own index R0 n d).before a0 Z = true) (via : Via Z R0 O n d) {a : Addr} {v : Value} (F : Fld Z h a O n d v) (hp : pc + 3 = pc')
    (k : ∀ T', Wk l Z EL own nm cd ml ret R ws h0 K sf T' h cells slots → Go K P T' pc' ls (v :: st)) : Go K P T pc ls (.ref a :: st) := by
  obtain ⟨vm0, locs, k0, X, e, hx, hc, e0, hZ, hown, r⟩ := W
  subst hp
  obtain ⟨T', X', e', f⟩ := getF X hx hZ hown (host := "") (Or.inl w) via e F (g := mkF K.2.2.2.1 pc ls (.ref a :: st)) rfl rfl (hb hc.1 hd)
  exact Go.stp f (k T' ⟨vm0, locs, k0, X', e', hx, hc, e0, hZ, hown, r⟩)
/-- getstatic, of a static that stands as at the law's start -/
theorem wGetS (W : Wk l Z EL own nm cd ml ret R ws h0 K sf T h cells slots) {R0 O n d : String} {index : Nat} (hd : decode cd pc = .ok (.getstatic index, 3)) (w : (Cond.fieldLink own index R0 n d).before a0 Z = true) (via : Via Z R0 O n d) {v : Value} (F : Sta Z Z.heap O n d v) (hp : pc + 3 = pc')
    (k : ∀ T', Wk l Z EL own nm cd ml ret R ws h0 K sf T' h cells slots → Go K P T' pc' ls (v :: st)) : Go K P T pc ls st := by
  have hO := W.old
  obtain ⟨vm0, locs, k0, X, e, hx, hc, e0, hZ, hown, r⟩ := W
  subst hp
  obtain ⟨T', X', e', f⟩ := getS X hx hZ hown w via (host := "") e (Sta.ext hO.2 F) (g := mkF K.2.2.2.1 pc ls st) rfl (hb hc.1 hd)
  exact Go.stp f (k T' ⟨vm0, locs, k0, X', e', hx, hc, e0, hZ, hown, r⟩)
/-- checkcast that holds -/
theorem wCast (W : Wk l Z EL own nm cd ml ret R ws h0 K sf T h cells slots) {C : String} {index : Nat} (hd : decode cd pc = .ok (.checkcast index, 3)) (w : (Cond.classLink own index C).before a0 Z = true) {a : Addr} (F : Ins Z h a C true) (hp : pc + 3 = pc')
    (k : ∀ T', Wk l Z EL own nm cd ml ret R ws h0 K sf T' h cells slots → Go K P T' pc' ls (.ref a :: st)) : Go K P T pc ls (.ref a :: st) := by
  obtain ⟨vm0, locs, k0, X, e, hx, hc, e0, hZ, hown, r⟩ := W
  subst hp
  obtain ⟨T', X', e', f⟩ := castY X hx hZ hown w e F (g := mkF K.2.2.2.1 pc ls (.ref a :: st)) rfl rfl (hb hc.1 hd)
  exact Go.stp f (k T' ⟨vm0, locs, k0, X', e', hx, hc, e0, hZ, hown, r⟩)
/-- instanceof that holds -/
theorem wInst (W : Wk l Z EL own nm cd ml ret R ws h0 K sf T h cells slots) {C : String} {index : Nat} (hd : decode cd pc = .ok (.instanceof index, 3)) (w : (Cond.classLink own index C).before a0 Z = true) {a : Addr} (F : Ins Z h a C true) (hp : pc + 3 = pc')
    (k : ∀ T', Wk l Z EL own nm cd ml ret R ws h0 K sf T' h cells slots → Go K P T' pc' ls (.int 1 :: st)) : Go K P T pc ls (.ref a :: st) := by
  obtain ⟨vm0, locs, k0, X, e, hx, hc, e0, hZ, hown, r⟩ := W
  subst hp
  obtain ⟨T', X', e', f⟩ := instY X hx hZ hown w e F (g := mkF K.2.2.2.1 pc ls (.ref a :: st)) rfl rfl (hb hc.1 hd)
  exact Go.stp f (k T' ⟨vm0, locs, k0, X', e', hx, hc, e0, hZ, hown, r⟩)
theorem wExt {vm0 : Vm} {s : State} (hC : CHr Z EL s.vm h0 vm0 h) (hs : ∀ x ∈ sf, Safe Z EL vm0 h x ∧ x < h.size ∧ (x ∈ ws ∨ h0.size ≤ x)) (E : Ext h h') :
    CHr Z EL s.vm h0 vm0 h' ∧ ∀ x ∈ sf, Safe Z EL vm0 h' x ∧ x < h'.size ∧ (x ∈ ws ∨ h0.size ≤ x) :=
  ⟨hC.trans (CHr.ext E hC.1), fun x q => ⟨Safe.ext E hC.1 (hs x q).1, Nat.lt_of_lt_of_le (hs x q).2.1 E.1, (hs x q).2.2⟩⟩
/-- new -/
theorem wNewO (W : Wk l Z EL own nm cd ml ret R ws h0 K sf T h cells slots) {C : String} {index n : Nat} (hd : decode cd pc = .ok (.new index, 3)) (w : (Cond.classLink own index C).before a0 Z = true) (wi : (Cond.instantiable C n).before a0 Z = true) (wz : (Cond.initialized C).before a0 Z = true) (hc' : cells + 1 ≤ R.cells) (hl : slots + n ≤ R.slots) (hp : pc + 3 = pc')
    (k : ∀ T' h' a, Wk l Z EL own nm cd ml ret R ws h0 K (a :: sf) T' h' (cells + 1) (slots + n) → Ext h h' → a = h.size → Exa Z h' a C → (∀ {O nm d : String} {ty : FieldType}, Laid Z a0 C O nm d → parseFieldDescriptor d = some ty → Fld Z h' a O nm d (defaultValue ty)) → Go K P T' pc' ls (.ref a :: st)) : Go K P T pc ls st := by
  have hg := W.grow
  obtain ⟨vm0, locs, k0, X, e, hx, hc, e0, hZ, hown, hS, hk, hL, hC, hO, hE, hw, hz, hs⟩ := W
  subst hp
  obtain ⟨T', h', X', e', E, A, D, -, f⟩ := newO X hx hZ hown w wi wz e (g := mkF K.2.2.2.1 pc ls st) rfl (hb hc.1 hd) hc' hl
  obtain ⟨hC', hs'⟩ := wExt (s := K.2.2.1) hC hs E
  refine Go.stp f (k T' h' h.size ⟨vm0, locs, k0, X', e', hx, hc, e0, hZ, hown, hS, Nat.le_trans hk E.1, hL, hC', hO.ext E, hE, hw, hz, fun x q => ?_⟩ E rfl A D)
  rcases List.mem_cons.mp q with rfl | q
  · exact ⟨Safe.ext E hC.1 (Safe.new (Nat.le_refl _)), A.lt, Or.inr hg⟩
  · exact hs' x q
/-- newarray -/
theorem wNewP (W : Wk l Z EL own nm cd ml ret R ws h0 K sf T h cells slots) {aty : ArrayType} (hd : decode cd pc = .ok (.newarray aty, 2)) (w : (Cond.arrayClass (newarray.typeOf aty)).before a0 Z = true) {n : Int32} (hn : ¬ n < 0) {cap : Nat} (hcap : n.toNatClampNeg ≤ cap) (hbig : cap * 8 ≤ 536870912) (hc' : cells + 1 ≤ R.cells) (hl : slots + cap ≤ R.slots) (hp : pc + 2 = pc')
    (k : ∀ T' h' a cA, Wk l Z EL own nm cd ml ret R ws h0 K (a :: sf) T' h' (cells + 1) (slots + cap) → Ext h h' → a = h.size → (∀ m : Nat, Arv Z h' a cA (newarray.typeOf aty) n (List.replicate m (defaultValue (newarray.typeOf aty))) (defaultValue (newarray.typeOf aty))) → Go K P T' pc' ls (.ref a :: st)) : Go K P T pc ls (.int n :: st) := by
  have hg := W.grow
  obtain ⟨vm0, locs, k0, X, e, hx, hc, e0, hZ, hown, hS, hk, hL, hC, hO, hE, hw, hz, hs⟩ := W
  subst hp
  obtain ⟨T', h', cA, X', e', E, A, f⟩ := newP X hx hZ w e (g := mkF K.2.2.2.1 pc ls (.int n :: st)) rfl (hb hc.1 hd) rfl hn hcap hbig hc' hl
  obtain ⟨hC', hs'⟩ := wExt (s := K.2.2.1) hC hs E
  have F := Arv.new A hn
  refine Go.stp f (k T' h' h.size cA ⟨vm0, locs, k0, X', e', hx, hc, e0, hZ, hown, hS, Nat.le_trans hk E.1, hL, hC', hO.ext E, hE, hw, hz, fun x q => ?_⟩ E rfl (fun m => F.pad (pad_rep [] _ m)))
  rcases List.mem_cons.mp q with rfl | q
  · exact ⟨Safe.ext E hC.1 (Safe.new (Nat.le_refl _)), A.lt, Or.inr hg⟩
  · exact hs' x q
/-- anewarray -/
theorem wNewR (W : Wk l Z EL own nm cd ml ret R ws h0 K sf T h cells slots) {C : String} {index : Nat} (hd : decode cd pc = .ok (.anewarray index, 3)) (w : (Cond.classLink own index C).before a0 Z = true) (w2 : (Cond.arrayOver (.object C)).before a0 Z = true) {n : Int32} (hn : ¬ n < 0) {cap : Nat} (hcap : n.toNatClampNeg ≤ cap) (hbig : cap * 8 ≤ 536870912) (hc' : cells + 1 ≤ R.cells) (hl : slots + cap ≤ R.slots) (hp : pc + 3 = pc')
    (k : ∀ T' h' a cA, Wk l Z EL own nm cd ml ret R ws h0 K (a :: sf) T' h' (cells + 1) (slots + cap) → Ext h h' → a = h.size → (∀ m : Nat, Arv Z h' a cA (.object C) n (List.replicate m .null) .null) → Ovr Z cA C → Go K P T' pc' ls (.ref a :: st)) : Go K P T pc ls (.int n :: st) := by
  have hg := W.grow
  obtain ⟨vm0, locs, k0, X, e, hx, hc, e0, hZ, hown, hS, hk, hL, hC, hO, hE, hw, hz, hs⟩ := W
  subst hp
  obtain ⟨T', h', cA, X', e', E, A, Ov, f⟩ := newR X hx hZ hown w w2 e (g := mkF K.2.2.2.1 pc ls (.int n :: st)) rfl (hb hc.1 hd) rfl hn hcap hbig hc' hl
  obtain ⟨hC', hs'⟩ := wExt (s := K.2.2.1) hC hs E
  have F := Arv.new A hn
  refine Go.stp f (k T' h' h.size cA ⟨vm0, locs, k0, X', e', hx, hc, e0, hZ, hown, hS, Nat.le_trans hk E.1, hL, hC', hO.ext E, hE, hw, hz, fun x q => ?_⟩ E rfl (fun m => F.pad (pad_rep [] _ m)) Ov)
  rcases List.mem_cons.mp q with rfl | q
  · exact ⟨Safe.ext E hC.1 (Safe.new (Nat.le_refl _)), A.lt, Or.inr hg⟩
  · exact hs' x q
theorem wWr {vm0 : Vm} {s : State} {a : Addr} {sl : Nat} {v : Value} {locs : List Loc} (hC : CHr Z EL s.vm h0 vm0 h) (hs : ∀ x ∈ sf, Safe Z EL vm0 h x ∧ x < h.size ∧ (x ∈ ws ∨ h0.size ≤ x)) (hL : ∀ x ∈ locs, x.base ∈ ws ∨ h0.size ≤ x.base) (hO : Old Z Z.heap.size h) (hw : ∀ x ∈ ws, Z.heap.size ≤ x) (hz : Z.heap.size ≤ h0.size) (ha : a ∈ sf) (Wr' : Wr h h' a sl v) :
    CHr Z EL s.vm h0 vm0 h' ∧ (∀ x ∈ sf, Safe Z EL vm0 h' x ∧ x < h'.size ∧ (x ∈ ws ∨ h0.size ≤ x)) ∧ (∀ x ∈ locs ++ [⟨a, sl⟩], x.base ∈ ws ∨ h0.size ≤ x.base) ∧ Old Z Z.heap.size h' := by
  obtain ⟨s1, s2, s3⟩ := hs a ha
  refine ⟨hC.trans (CHr.wr Wr' s1 hC.1), fun x q => ⟨Safe.wr Wr' s1 hC.1 (hs x q).1, by rw [Wr'.size]; exact (hs x q).2.1, (hs x q).2.2⟩, fun x q => ?_, hO.wr Wr' ?_⟩
  · rcases List.mem_append.mp q with q | q
    · exact hL x q
    · cases List.mem_singleton.mp q; exact s3
  · rcases s3 with z | z
    · exact hw a z
    · exact Nat.le_trans hz z
/-- putfield -/
theorem wPutF (W : Wk l Z EL own nm cd ml ret R ws h0 K sf T h cells slots) {R0 O n d C : String} {index kk : Nat} {ty : FieldType} (hd : decode cd pc = .ok (.putfield index, 3)) (w : (Cond.fieldLink own index R0 n d).before a0 Z = true) (via : Via Z R0 O n d) {a : Addr} {v old : Value} (ha : a ∈ sf) (F : Fld Z h a O n d old) (E : Exa Z h a C)
    (L : (Cond.lays C O n d).before a0 Z = true ∨ ((Cond.laysFinal C O n d).before a0 Z = true ∧ own = O ∧ nm = "<init>")) (wi : (Cond.instantiable C kk).before a0 Z = true) (hty : parseFieldDescriptor d = some ty) (hn : narrow ty v = v) (hf : fits ty v = true) (hp : pc + 3 = pc')
    (k : ∀ T' h', Wk l Z EL own nm cd ml ret R ws h0 K sf T' h' cells slots → Wr h h' a (Jvm.RoadKit.slotOf Z O n d) v → Go K P T' pc' ls st) : Go K P T pc ls (v :: .ref a :: st) := by
  obtain ⟨vm0, locs, k0, X, e, hx, hc, e0, hZ, hown, hS, hk, hL, hC, hO, hE, hw, hz, hs⟩ := W
  subst hp
  obtain ⟨T', h', X', e', Wr', f⟩ := putF X hx hZ hown (host := "") (Or.inl w) via e F E (L.imp id fun q => ⟨q.1, q.2.1, hc.2.2.2.2.trans q.2.2⟩) wi hty hn hf (g := mkF K.2.2.2.1 pc ls (v :: .ref a :: st)) rfl rfl (hb hc.1 hd)
  obtain ⟨hC', hs', hL', hO'⟩ := wWr (s := K.2.2.1) hC hs hL hO hw hz ha Wr'
  exact Go.stp f (k T' h' ⟨vm0, _, k0, X', e', hx, hc, e0, hZ, hown, hS, by rw [Wr'.size]; exact hk, hL', hC', hO', hE, hw, hz, hs'⟩ Wr')
/-- castore -/
theorem wStC (W : Wk l Z EL own nm cd ml ret R ws h0 K sf T h cells slots) (hd : decode cd pc = .ok (.castore, 1)) {a : Addr} (ha : a ∈ sf) {kA : ClassId} {z j x y : Int32} {vs : List Value} {dv : Value} (A : Arv Z h a kA .char z vs dv) (hj : ¬ j < 0 ∧ j < z) (hy : nar .char x = y) (i : Nat) (hi : j.toNatClampNeg = i) (hil : i < vs.length) (hp : pc + 1 = pc')
    (k : ∀ T' h', Wk l Z EL own nm cd ml ret R ws h0 K sf T' h' cells slots → Wr h h' a j.toNatClampNeg (.int y) → Arv Z h' a kA .char z (vs.set i (.int y)) dv → Go K P T' pc' ls st) : Go K P T pc ls (.int x :: .int j :: .ref a :: st) := by
  obtain ⟨vm0, locs, k0, X, e, hx, hc, e0, hZ, hown, hS, hk, hL, hC, hO, hE, hw, hz, hs⟩ := W
  subst hp hy
  obtain ⟨cl, A1, A2, A3, A4, A5, A6⟩ := A
  obtain ⟨T', h', X', e', Wr', f⟩ := stC X hx hZ e A1 (inb_of A3 hj) (g := mkF K.2.2.2.1 pc ls (.int x :: .int j :: .ref a :: st)) rfl rfl (hb hc.1 hd)
  obtain ⟨hC', hs', hL', hO'⟩ := wWr (s := K.2.2.1) hC hs hL hO hw hz ha Wr'
  exact Go.stp f (k T' h' ⟨vm0, _, k0, X', e', hx, hc, e0, hZ, hown, hS, by rw [Wr'.size]; exact hk, hL', hC', hO', hE, hw, hz, hs'⟩ Wr' (Arv.set A1 A2 A3 A4 A5 A6 (fits_nar_char x) Wr' i hi hil))
/-- bastore into a byte[] -/
theorem wStB (W : Wk l Z EL own nm cd ml ret R ws h0 K sf T h cells slots) (hd : decode cd pc = .ok (.bastore, 1)) {a : Addr} (ha : a ∈ sf) {kA : ClassId} {z j x y : Int32} {vs : List Value} {dv : Value} (A : Arv Z h a kA .byte z vs dv) (hj : ¬ j < 0 ∧ j < z) (hy : x.toInt8.toInt32 = y) (i : Nat) (hi : j.toNatClampNeg = i) (hil : i < vs.length) (hp : pc + 1 = pc')
    (k : ∀ T' h', Wk l Z EL own nm cd ml ret R ws h0 K sf T' h' cells slots → Wr h h' a j.toNatClampNeg (.int y) → Arv Z h' a kA .byte z (vs.set i (.int y)) dv → Go K P T' pc' ls st) : Go K P T pc ls (.int x :: .int j :: .ref a :: st) := by
  obtain ⟨vm0, locs, k0, X, e, hx, hc, e0, hZ, hown, hS, hk, hL, hC, hO, hE, hw, hz, hs⟩ := W
  subst hp hy
  obtain ⟨cl, A1, A2, A3, A4, A5, A6⟩ := A
  obtain ⟨T', h', X', e', Wr', f⟩ := stB X hx hZ e A1 (inb_of A3 hj) (g := mkF K.2.2.2.1 pc ls (.int x :: .int j :: .ref a :: st)) rfl rfl (hb hc.1 hd)
  obtain ⟨hC', hs', hL', hO'⟩ := wWr (s := K.2.2.1) hC hs hL hO hw hz ha Wr'
  exact Go.stp f (k T' h' ⟨vm0, _, k0, X', e', hx, hc, e0, hZ, hown, hS, by rw [Wr'.size]; exact hk, hL', hC', hO', hE, hw, hz, hs'⟩ Wr' (Arv.set A1 A2 A3 A4 A5 A6 (fits_nar_byte x) Wr' i hi hil))
/-- arraylength -/
theorem wLen (W : Wk l Z EL own nm cd ml ret R ws h0 K sf T h cells slots) (hd : decode cd pc = .ok (.arraylength, 1)) {a : Addr} {kA : ClassId} {ty : FieldType} {z : Int32} {vs : List Value} {dv : Value} (A : Arv Z h a kA ty z vs dv) (hp : pc + 1 = pc')
    (k : Go K P T pc' ls (.int z :: st)) : Go K P T pc ls (.ref a :: st) := by
  obtain ⟨vm0, locs, k0, X, e, hx, hc, e0, hZ, r⟩ := W
  subst hp
  obtain ⟨cl, A1, A2, A3, A4, -⟩ := A
  refine Go.stp (fun t q => ?_) k
  have ez : cl.slots.size.toInt32 = z := len_of A3 A4
  exact X.arraylength hx (by rw [e]; exact A1.1) (State.isArrayOf_alike hZ.alike A1.2.1) (g := mkF K.2.2.2.1 pc ls (.ref a :: st)) rfl rfl (hb hc.1 hd) _ (by rw [ez]; exact q)
/-- caload -/
theorem wLdC (W : Wk l Z EL own nm cd ml ret R ws h0 K sf T h cells slots) (hd : decode cd pc = .ok (.caload, 1)) {a : Addr} {kA : ClassId} {z j : Int32} {vs : List Value} {v dv : Value} (A : Arv Z h a kA .char z vs dv) (hj : ¬ j < 0 ∧ j < z) (hv : vs.getD j.toNatClampNeg dv = v) (hp : pc + 1 = pc')
    (k : Go K P T pc' ls (v :: st)) : Go K P T pc ls (.int j :: .ref a :: st) := by
  obtain ⟨vm0, locs, k0, X, e, hx, hc, e0, hZ, r⟩ := W
  subst hp
  obtain ⟨cl, A1, A2, A3, A4, A5, -⟩ := A
  exact Go.stp (fun t q => X.caload hx (by rw [e]; exact A1.1) (State.isArrayOf_alike hZ.alike A1.2.1) A1.2.2 (inb_of A3 hj) (A5.at (inb_of A3 hj) hv) (g := mkF K.2.2.2.1 pc ls (.int j :: .ref a :: st)) rfl rfl (hb hc.1 hd) _ q) k
/-- baload of a byte[] -/
theorem wLdB (W : Wk l Z EL own nm cd ml ret R ws h0 K sf T h cells slots) (hd : decode cd pc = .ok (.baload, 1)) {a : Addr} {kA : ClassId} {z j : Int32} {vs : List Value} {v dv : Value} (A : Arv Z h a kA .byte z vs dv) (hj : ¬ j < 0 ∧ j < z) (hv : vs.getD j.toNatClampNeg dv = v) (hp : pc + 1 = pc')
    (k : Go K P T pc' ls (v :: st)) : Go K P T pc ls (.int j :: .ref a :: st) := by
  obtain ⟨vm0, locs, k0, X, e, hx, hc, e0, hZ, r⟩ := W
  subst hp
  obtain ⟨cl, A1, A2, A3, A4, A5, -⟩ := A
  exact Go.stp (fun t q => X.baloadBytes hx (by rw [e]; exact A1.1) (State.isArrayOf_alike hZ.alike A1.2.1) A1.2.2 (inb_of A3 hj) (A5.at (inb_of A3 hj) hv) (g := mkF K.2.2.2.1 pc ls (.int j :: .ref a :: st)) rfl rfl (hb hc.1 hd) _ q) k
/-- Object.<init> -/
theorem wInitO (W : Wk l Z EL own nm cd ml ret R ws h0 K sf T h cells slots) {index : Nat} (hd : decode cd pc = .ok (.invokespecial index, 3)) (w1 : (Cond.methodLink own index Lib.objectInit).before a0 Z = true) (w2 : (Cond.instanceMethod Lib.objectInit).before a0 Z = true) (w3 : (Cond.code Lib.objectInit ⟨#[0xb1]⟩ 1 none).before a0 Z = true) {a : Addr} (hsz : ls.size = ml) (hf : 1 ≤ R.frames) (Wd : Nat) (hW : (st.map fun v => v.category).sum ≤ Wd) (hl : Wd + 12 ≤ R.locals) (hp : pc + 3 = pc')
    (k : ∀ T', Wk l Z EL own nm cd ml ret R ws h0 K sf T' h cells slots → Go K P T' pc' ls st) : Go K P T pc ls (.ref a :: st) := by
  obtain ⟨vm0, locs, k0, X, e, hx, hc, e0, hZ, hown, r⟩ := W
  subst hp
  obtain ⟨T', X', e', f⟩ := initO X hx hZ hown w1 w2 w3 e (g := mkF K.2.2.2.1 pc ls (.ref a :: st)) rfl (hsz.trans hc.2.1.symm) rfl (hb hc.1 hd) hf (W := Wd) (by show 2 * 0 + _ ≤ _; omega) hl
  exact Go.stp f (k T' ⟨vm0, locs, k0, X', e', hx, hc, e0, hZ, hown, r⟩)
/-- ldc of a String constant of EL, read -/
theorem wLdcS (W : Wk l Z EL own nm cd ml ret R ws h0 K sf T h cells slots) {text : String} {index : Nat} (hd : decode cd pc = .ok (.ldc index, 2)) (w : (Cond.stringLink own index text).before a0 Z = true) (wS : ∀ a ∈ Bundle.stringAtoms, a.before a0 Z = true) (hEL : EW Z a0 EL) (hmem : (own, index) ∈ EL)
    {vs : List Value} {z : Int32} (ht : (∀ c ∈ text.toList, c.toNat < 256) ∧ text.toList.map (fun c => Value.int (Jvm.Lit.byteI c.toNat.toUInt16)) = vs) (hz' : ¬ z < 0) (hl : z.toNatClampNeg = vs.length) {n : Nat} (hn : 4 * text.toList.length ≤ n) (hbig : n ≤ 536870912) (hc' : cells + 2 ≤ R.cells) (hl' : slots + (n + 4) ≤ R.slots) (hp : pc + 2 = pc')
    (k : ∀ T' h' a b kb, Wk l Z EL own nm cd ml ret R ws h0 K sf T' h' (cells + 2) (slots + (n + 4)) → Ext h h' → Exa Z h' a "java/lang/String" → Fld Z h' a "java/lang/String" "coder" "B" (.int 0) → Fld Z h' a "java/lang/String" "value" "[B" (.ref b) → Arv Z h' b kb .byte z vs (.int 0) → (∀ x ∈ sf, x ≠ a ∧ x ≠ b) → Go K P T' pc' ls (.ref a :: st)) : Go K P T pc ls st := by
  obtain ⟨vm0, locs, k0, X, e, hx, hc, e0, hZ, hown, hS, hk, hL, hC, hO, hE, hw, hz, hs⟩ := W
  subst hp
  obtain ⟨a, T', h', k1, b, kb, X', e', E, hS', hk', hW', hown', A, F1, F2, A2, -, -, hC', -, hne, f⟩ := ldcCH X hx hZ hown w wS e hS hk hEL hmem hC.1 ht hz' hl (g := mkF K.2.2.2.1 pc ls st) rfl (hb hc.1 hd) hn hbig hc' hl'
  have hs' : ∀ x ∈ sf, Safe Z EL T'.vm h' x ∧ x < h'.size ∧ (x ∈ ws ∨ h0.size ≤ x) := fun x q => ⟨hC'.safe (hs x q).2.1 (hs x q).1, Nat.lt_of_lt_of_le (hs x q).2.1 E.1, (hs x q).2.2⟩
  exact Go.stp f (k T' h' a b kb ⟨T'.vm, locs, k1, X', e', hx, hc, e0, hW', hown', hS', hk', hL, hC.trans hC', hO.ext E, hE, hw, hz, hs'⟩ E A F1 F2 A2 fun x q => hne x (hs' x q).1)
/-- ldc of an int -/
theorem wLdcI (W : Wk l Z EL own nm cd ml ret R ws h0 K sf T h cells slots) {index : Nat} {v : Int32} (hd : decode cd pc = .ok (.ldc index, 2)) (w : (Cond.constant own index v).before a0 Z = true) (hp : pc + 2 = pc') (k : Go K P T pc' ls (.int v :: st)) : Go K P T pc ls st := by
  obtain ⟨vm0, locs, k0, X, e, hx, hc, e0, hZ, hown, r⟩ := W
  subst hp
  exact Go.stp (fun t q => X.ldcInt hx hown (mv (s := K.2.2.1.setVm vm0) hZ w) (g := mkF K.2.2.2.1 pc ls st) rfl (hb hc.1 hd) _ q) k
/-- ldc2_w of a long -/
theorem wLdcL (W : Wk l Z EL own nm cd ml ret R ws h0 K sf T h cells slots) {index : Nat} {v : Int64} (hd : decode cd pc = .ok (.ldc2_w index, 3)) (w : (Cond.constantLong own index v).before a0 Z = true) (hp : pc + 3 = pc') (k : Go K P T pc' ls (.long v :: st)) : Go K P T pc ls st := by
  obtain ⟨vm0, locs, k0, X, e, hx, hc, e0, hZ, hown, r⟩ := W
  subst hp
  exact Go.stp (fun t q => X.ldc2Long hx hown (mv (s := K.2.2.1.setVm vm0) hZ w) (g := mkF K.2.2.2.1 pc ls st) rfl (hb hc.1 hd) _ q) k
/-- ldc of any String constant, unread -/
theorem wLdcO (W : Wk l Z EL own nm cd ml ret R ws h0 K sf T h cells slots) {text : String} {index : Nat} (hd : decode cd pc = .ok (.ldc index, 2)) (w : (Cond.stringLink own index text).before a0 Z = true) (wS : ∀ a ∈ Bundle.stringAtoms, a.before a0 Z = true) (hEL : EW Z a0 EL) {n : Nat} (hn : 4 * text.toList.length ≤ n) (hbig : n ≤ 536870912) (hc' : cells + 2 ≤ R.cells) (hl' : slots + (n + 4) ≤ R.slots) (hp : pc + 2 = pc')
    (k : ∀ T' h' a, Wk l Z EL own nm cd ml ret R ws h0 K sf T' h' (cells + 2) (slots + (n + 4)) → Ext h h' → Go K P T' pc' ls (.ref a :: st)) : Go K P T pc ls st := by
  obtain ⟨vm0, locs, k0, X, e, hx, hc, e0, hZ, hown, hS, hk, hL, hC, hO, hE, hw, hz, hs⟩ := W
  subst hp
  obtain ⟨a, T', h', k1, X', e', E, hS', hk', hW', hown', hC', -, f⟩ := ldcOH X hx hZ hown w wS e hS hk hEL hC.1 (g := mkF K.2.2.2.1 pc ls st) rfl (hb hc.1 hd) hn hbig hc' hl'
  have hs' : ∀ x ∈ sf, Safe Z EL T'.vm h' x ∧ x < h'.size ∧ (x ∈ ws ∨ h0.size ≤ x) := fun x q => ⟨hC'.safe (hs x q).2.1 (hs x q).1, Nat.lt_of_lt_of_le (hs x q).2.1 E.1, (hs x q).2.2⟩
  exact Go.stp f (k T' h' a ⟨T'.vm, locs, k1, X', e', hx, hc, e0, hW', hown', hS', hk', hL, hC.trans hC', hO.ext E, hE, hw, hz, hs'⟩ E)
end Laws
section Calls
variable {l : Launch} {Z : State} {EL : List (String × Nat)} {own nm : String} {cd : ByteArray} {ml : Nat} {ret : Option FieldType} {R : Room} {ws : List Addr} {h0 : Heap} {K : Cx} {sf : List Addr} {T : State} {h h' : Heap} {cells slots : Nat} {P : Outcome → State → Prop} {pc pc' : Nat} {ls : Array Slot} {st : List Value} {a0 : Array Value}
/-- a callee's payment, whatever has been interned -/
def Cb (l : Launch) (Z : State) (EL : List (String × Nat)) (R : Room) (K : Cx) (y : MethodName) (len Wd kc ks : Nat) (as' : Array Value) (h : Heap) (wsc : List Addr) (Q : Option Value → Heap → List Addr → Prop) : Prop :=
  ∀ vm0, Z.Warmed39 vm0 → CHv Z EL vm0 h → (∀ x ∈ wsc, Safe Z EL vm0 h x ∧ x < h.size) → BackS l R K.1 K.2.1 K.2.2.2.2.2.1 (K.2.2.1.setVm vm0) K.2.2.2.2.1 y len Wd (fun A a => a = as' ∧ A.U.heap = h ∧ A.cells + kc ≤ R.cells ∧ A.slots + ks ≤ R.slots)
    (fun A _ v B => ∃ L so, Q v B.U.heap so ∧ (∀ x ∈ so, Safe Z EL B.U.vm B.U.heap x ∧ h.size ≤ x ∧ x < B.U.heap.size) ∧ (∀ x ∈ L, x.base ∈ wsc ∨ h.size ≤ x.base) ∧ Keep h B.U.heap wsc ∧ B.locs = A.locs ++ L ∧ B.cells = A.cells + kc ∧ B.slots = A.slots + ks ∧ CHr Z EL vm0 h B.U.vm B.U.heap)
/-- by a body's contract -/
theorem Cb.ct {y : MethodName} {bytes : ByteArray} {maxL : Nat} {rt : Option FieldType} {rm : Room} {len Wd : Nat} {as' : Array Value} {wsc : List Addr} {Q : Option Value → Heap → List Addr → Prop} (C : Ct l Z EL y bytes maxL rt rm as' h wsc Q) (wc : (Cond.code y bytes maxL rt).before a0 Z = true) (wz : (Cond.initialized y.cls).before a0 Z = true) (hEL : EW Z a0 EL) (hf : rm.frames + 1 ≤ R.frames) (hl : Wd + (maxL + 11) + rm.locals ≤ R.locals) :
    Cb l Z EL R K y len Wd rm.cells rm.slots as' h wsc Q := by
  intro vm0 hZ H hsafe
  refine BackS.of_freeW (bytes := bytes) (maxL := maxL) (ret := rt) (E := fun _ first o t L k n => k = rm.cells ∧ n = rm.slots ∧ ∃ v so, o = .returned v ∧ Q v t.heap so ∧ (∀ x ∈ so, Safe Z EL t.vm t.heap x ∧ first.heap.size ≤ x ∧ x < t.heap.size) ∧ (∀ x ∈ L, x.base ∈ wsc ∨ first.heap.size ≤ x.base) ∧ CHr Z EL first.vm first.heap t.vm t.heap) (C []) hf hl
    (fun m meth c A a Y hp => have hU : Z.Warmed39 A.U.vm := wtrans (s := K.2.2.1.setVm vm0) hZ Y.warmed
      ⟨by show (Cond.and _ .tt).before a A.U = true; rw [Cond.before_and, mv hU wc]; rfl, mv hU wc, mv hU wz, hp.2.2.1, hp.2.2.2⟩)
    (fun m meth c A a g mk Y hp => ⟨hp.1, wtrans (s := K.2.2.1.setVm vm0) hZ Y.warmed, hp.2.1, (CHv.at Y hZ hEL H).1, fun x q => ⟨(CHv.at Y hZ hEL H).safe (hsafe x q).2 (hsafe x q).1, (hsafe x q).2⟩⟩) (fun _ _ _ _ _ _ _ _ _ => trivial)
    (fun _ first o t ⟨v, L, so, h1, h2, h3, h4, h5, h6⟩ => ⟨L, _, _, h6, rfl, rfl, v, so, h1, h2, h3, h4, h5⟩)
    (fun m meth c A a g mk v t L k n Y hp _ hret ⟨e1, e2, v', so, e3, e4, e5, e6, e7⟩ => ?_)
  cases e3; subst e1 e2
  have eh : (A.U.calling g mk a).heap = h := hp.2.1
  have ke := keep_of (ws := wsc) hret.2.2.2 (by simpa using e6)
  rw [eh] at ke e5 e6 e7
  exact ⟨L, so, e4, e5, e6, ke, rfl, rfl, rfl, (CHv.at Y hZ hEL H).trans e7⟩
/-- by a payer that interns nothing -/
theorem Cb.bk {y : MethodName} {len Wd kc ks : Nat} {as' : Array Value} {wsc : List Addr} {Q : Option Value → Heap → List Addr → Prop} {Qb : Option Value → Heap → List Loc → Prop}
    (B : ∀ vm0, Z.Warmed39 vm0 → Back l R K.1 K.2.1 K.2.2.2.2.2.1 (K.2.2.1.setVm vm0) K.2.2.2.2.1 y len Wd (fun A a => a = as' ∧ A.U.heap = h ∧ A.cells + kc ≤ R.cells ∧ A.slots + ks ≤ R.slots) (fun A _ v B => ∃ L, Qb v B.U.heap L ∧ B.locs = A.locs ++ L ∧ B.cells = A.cells + kc ∧ B.slots = A.slots + ks))
    (hEL : EW Z a0 EL) (hq : ∀ v h' L, Qb v h' L → Q v h' [] ∧ Keep h h' wsc ∧ ∀ x ∈ L, x.base ∈ wsc ∨ h.size ≤ x.base) : Cb l Z EL R K y len Wd kc ks as' h wsc Q := by
  intro vm0 hZ H hsafe m meth c A g ig mk a X hg hsize hdg hW hn hp
  obtain ⟨v, B', X', ⟨L, q1, q2, q3, q4⟩, st⟩ := B vm0 hZ m meth c A g ig mk a X hg hsize hdg hW hn hp
  obtain ⟨r1, r2, r3⟩ := hq v _ L q1
  have hgr : A.U.heap.size ≤ B'.U.heap.size := by rw [hp.2.1]; exact r2.1
  refine ⟨v, B', X'.retabled X'.warmed.wide, X'.warmed.since _, hgr, ⟨L, [], r1, (fun x q => nomatch q), r3, r2, q2, q3, q4, ?_⟩, st⟩
  have C1 := CHr.keep r2 (fun x q => (hsafe x q).1) H
  exact C1.trans (CHv.at X' hZ hEL C1.1)
theorem Cb.mono {y : MethodName} {len Wd kc ks kc' ks' : Nat} {as' : Array Value} {wsc : List Addr} {Q : Option Value → Heap → List Addr → Prop} (C : Cb l Z EL R K y len Wd kc ks as' h wsc Q) (h1 : kc ≤ kc') (h2 : ks ≤ ks') : Cb l Z EL R K y len Wd kc' ks' as' h wsc Q := by
  intro vm0 hZ H hs m meth c A g ig mk a X hg hsz hd hW hn hp
  obtain ⟨v, B, X', hS, hgr, ⟨L, so, q1, q2, q3, q4, q5, q6, q7, q8⟩, st⟩ := C vm0 hZ H hs m meth c A g ig mk a X hg hsz hd hW hn ⟨hp.1, hp.2.1, Nat.le_trans (Nat.add_le_add_left h1 _) hp.2.2.1, Nat.le_trans (Nat.add_le_add_left h2 _) hp.2.2.2⟩
  refine ⟨v, ⟨B.U, B.locs, A.cells + kc', A.slots + ks'⟩, ?_, hS, hgr, ⟨L, so, q1, q2, q3, q4, q5, rfl, rfl, q8⟩, st⟩
  exact X'.mono (by rw [q6]; exact Nat.add_le_add_left h1 _) (by rw [q7]; exact Nat.add_le_add_left h2 _)
theorem Cb.weak {y : MethodName} {len Wd kc ks : Nat} {as' : Array Value} {wsc : List Addr} {Q Q' : Option Value → Heap → List Addr → Prop} (C : Cb l Z EL R K y len Wd kc ks as' h wsc Q) (f : ∀ v h' so, Q v h' so → Q' v h' so) : Cb l Z EL R K y len Wd kc ks as' h wsc Q' := by
  intro vm0 hZ H hs m meth c A g ig mk a X hg hsz hd hW hn hp
  obtain ⟨v, B, X', hS, hgr, ⟨L, so, q1, r⟩, st⟩ := C vm0 hZ H hs m meth c A g ig mk a X hg hsz hd hW hn hp
  exact ⟨v, B, X', hS, hgr, ⟨L, so, f _ _ _ q1, r⟩, st⟩
theorem wAfter {vm0 : Vm} {s : State} {wsc so : List Addr} {vm1 : Vm} {locs L : List Loc} (hC : CHr Z EL s.vm h0 vm0 h) (hs : ∀ x ∈ sf, Safe Z EL vm0 h x ∧ x < h.size ∧ (x ∈ ws ∨ h0.size ≤ x)) (hL : ∀ x ∈ locs, x.base ∈ ws ∨ h0.size ≤ x.base) (hO : Old Z Z.heap.size h) (hw : ∀ x ∈ ws, Z.heap.size ≤ x) (hz : Z.heap.size ≤ h0.size) (hws : ∀ x ∈ wsc, x ∈ sf)
    (q2 : ∀ x ∈ so, Safe Z EL vm1 h' x ∧ h.size ≤ x ∧ x < h'.size) (q3 : ∀ x ∈ L, x.base ∈ wsc ∨ h.size ≤ x.base) (q4 : Keep h h' wsc) (q8 : CHr Z EL vm0 h vm1 h') :
    CHr Z EL s.vm h0 vm1 h' ∧ (∀ x ∈ so ++ sf, Safe Z EL vm1 h' x ∧ x < h'.size ∧ (x ∈ ws ∨ h0.size ≤ x)) ∧ (∀ x ∈ locs ++ L, x.base ∈ ws ∨ h0.size ≤ x.base) ∧ Old Z Z.heap.size h' := by
  have hgr : h0.size ≤ h.size := hC.2.1
  refine ⟨hC.trans q8, fun x q => ?_, fun x q => ?_, hO.keep q4 fun x q => ?_⟩
  · rcases List.mem_append.mp q with q | q
    · exact ⟨(q2 x q).1, (q2 x q).2.2, Or.inr (Nat.le_trans hgr (q2 x q).2.1)⟩
    · exact ⟨q8.safe (hs x q).2.1 (hs x q).1, Nat.lt_of_lt_of_le (hs x q).2.1 q4.1, (hs x q).2.2⟩
  · rcases List.mem_append.mp q with q | q
    · exact hL x q
    · rcases q3 x q with q | q
      · exact (hs _ (hws _ q)).2.2
      · exact Or.inr (Nat.le_trans hgr q)
  · rcases (hs _ (hws _ q)).2.2 with z | z
    · exact hw _ z
    · exact Nat.le_trans hz z
/-- invokestatic -/
theorem wStatic (W : Wk l Z EL own nm cd ml ret R ws h0 K sf T h cells slots) {y : MethodName} {index : Nat} (hd : decode cd pc = .ok (.invokestatic index, 3)) (w1 : (Cond.methodLink own index y).before a0 Z = true) (w2 : (Cond.static y).before a0 Z = true) (wz : (Cond.initialized y.cls).before a0 Z = true) {bytes : ByteArray} {maxL : Nat} {rt : Option FieldType} (wc : (Cond.code y bytes maxL rt).before a0 Z = true) (hy : y.cls ≠ "java/lang/invoke/MethodHandle" ∧ y.cls ≠ "java/lang/invoke/VarHandle")
    {Wd kc ks : Nat} {argsL rest : List Value} {wsc : List Addr} {Q : Option Value → Heap → List Addr → Prop} (C : Cb l Z EL R K y 3 Wd kc ks argsL.toArray h wsc Q) (hws : ∀ x ∈ wsc, x ∈ sf) (hsz : ls.size = ml) (hlen : ∀ sig, parseMethodDescriptor y.desc = some sig → argsL.length = sig.parameters.length) (hst : st = argsL.reverse ++ rest) (hW : (rest.map fun v => v.category).sum ≤ Wd) (hc' : cells + kc ≤ R.cells) (hl' : slots + ks ≤ R.slots) (hp : pc + 3 = pc')
    (k : ∀ v so T' h', Wk l Z EL own nm cd ml ret R ws h0 K (so ++ sf) T' h' (cells + kc) (slots + ks) → Keep h h' wsc → (∀ x ∈ so, h.size ≤ x ∧ x < h'.size) → Q v h' so → Go K P T' pc' ls (v.toList ++ rest)) : Go K P T pc ls st := by
  obtain ⟨vm0, locs, k0, X, e, hx, hc, e0, hZ, hown, hS, hk, hL, hC, hO, hE, hw, hz, hs⟩ := W
  subst hp
  obtain ⟨v, vm₁, B, -, X', hS', hgr, ⟨L, so, q1, q2, q3, q4, q5, q6, q7, q8⟩, f⟩ := callSS X hx (y := y) hown (mvT hZ w1) (mvT hZ w2) (mvT hZ wz) (mvT hZ wc) hy (C vm0 hZ hC.1 fun x q => ⟨(hs x (hws x q)).1, (hs x (hws x q)).2.1⟩) (g := mkF K.2.2.2.1 pc ls st) rfl (hsz.trans hc.2.1.symm) hlen hst (by show 2 * 0 + _ ≤ _; omega) (hb hc.1 hd) (fun _ _ => ⟨rfl, e, hc', hl'⟩)
  obtain ⟨X2, hS2, hZ2, hown2⟩ := rebS (Z := Z) (own := own) (n1 := h.size) hS hk X' hS' (by rw [← e]; exact hgr) hZ hown
  obtain ⟨a1, a2, a3, a4⟩ := wAfter (s := K.2.2.1) hC hs hL hO hw hz hws q2 q3 q4 q8
  rw [q5, q6, q7] at X2
  obtain ⟨o, U, r, q⟩ := k v so B.U B.U.heap ⟨B.U.vm, _, _, X2, rfl, hx, hc, e0, hZ2, hown2, hS2, Nat.le_refl _, a3, a1, a4, hE, hw, hz, a2⟩ q4 (fun x z => ⟨(q2 x z).2.1, (q2 x z).2.2⟩) q1
  exact ⟨o, U, f.trans r, q⟩
/-- invokespecial of a constructor -/
theorem wSpecial (W : Wk l Z EL own nm cd ml ret R ws h0 K sf T h cells slots) {y : MethodName} {index : Nat} (hd : decode cd pc = .ok (.invokespecial index, 3)) (hy1 : y.name = "<init>") (w1 : (Cond.methodLink own index y).before a0 Z = true) (w2 : (Cond.instanceMethod y).before a0 Z = true) {bytes : ByteArray} {maxL : Nat} (wc : (Cond.code y bytes maxL none).before a0 Z = true) (hy : y.cls ≠ "java/lang/invoke/MethodHandle" ∧ y.cls ≠ "java/lang/invoke/VarHandle")
    {Wd kc ks : Nat} {a : Addr} {argsL rest : List Value} {wsc : List Addr} {Q : Option Value → Heap → List Addr → Prop} (C : Cb l Z EL R K y 3 Wd kc ks (.ref a :: argsL).toArray h wsc Q) (hws : ∀ x ∈ wsc, x ∈ sf) (hsz : ls.size = ml) (hlen : ∀ sig, parseMethodDescriptor y.desc = some sig → argsL.length = sig.parameters.length) (hst : st = argsL.reverse ++ .ref a :: rest) (hW : (rest.map fun v => v.category).sum ≤ Wd) (hc' : cells + kc ≤ R.cells) (hl' : slots + ks ≤ R.slots) (hp : pc + 3 = pc')
    (k : ∀ v so T' h', Wk l Z EL own nm cd ml ret R ws h0 K (so ++ sf) T' h' (cells + kc) (slots + ks) → Keep h h' wsc → (∀ x ∈ so, h.size ≤ x ∧ x < h'.size) → Q v h' so → Go K P T' pc' ls (v.toList ++ rest)) : Go K P T pc ls st := by
  obtain ⟨vm0, locs, k0, X, e, hx, hc, e0, hZ, hown, hS, hk, hL, hC, hO, hE, hw, hz, hs⟩ := W
  subst hp
  obtain ⟨v, vm₁, B, -, X', hS', hgr, ⟨L, so, q1, q2, q3, q4, q5, q6, q7, q8⟩, f⟩ := X.specialBackS hx (y := y) hy1 hown (mvT hZ w1) (mvT hZ w2) (mvT hZ wc) hy (C vm0 hZ hC.1 fun x q => ⟨(hs x (hws x q)).1, (hs x (hws x q)).2.1⟩) (g := mkF K.2.2.2.1 pc ls st) rfl (hsz.trans hc.2.1.symm) (Steps.refl _) hlen hst (by show 2 * 0 + _ ≤ _; omega) (hb hc.1 hd) (fun _ _ => ⟨rfl, e, hc', hl'⟩)
  obtain ⟨X2, hS2, hZ2, hown2⟩ := rebS (Z := Z) (own := own) (n1 := h.size) hS hk X' hS' (by rw [← e]; exact hgr) hZ hown
  obtain ⟨a1, a2, a3, a4⟩ := wAfter (s := K.2.2.1) hC hs hL hO hw hz hws q2 q3 q4 q8
  rw [q5, q6, q7] at X2
  obtain ⟨o, U, r, q⟩ := k v so B.U B.U.heap ⟨B.U.vm, _, _, X2, rfl, hx, hc, e0, hZ2, hown2, hS2, Nat.le_refl _, a3, a1, a4, hE, hw, hz, a2⟩ q4 (fun x z => ⟨(q2 x z).2.1, (q2 x z).2.2⟩) q1
  exact ⟨o, U, f.trans r, q⟩
/-- invokevirtual on an object of exactly the class C -/
theorem wVirtual (W : Wk l Z EL own nm cd ml ret R ws h0 K sf T h cells slots) {C : String} {y z : MethodName} {index : Nat} (hd : decode cd pc = .ok (.invokevirtual index, 3)) (w1 : (Cond.methodLink own index y).before a0 Z = true) (w2 : (Cond.declares y).before a0 Z = true) (w3 : (Cond.selects C y z).before a0 Z = true) (w4 : (Cond.instanceMethod z).before a0 Z = true) (nf : ∀ s : State, Z.Warmed39 s.vm → NotFace s y) (hy : y.cls ≠ "java/lang/invoke/MethodHandle" ∧ y.cls ≠ "java/lang/invoke/VarHandle")
    {Wd kc ks : Nat} {a : Addr} {argsL rest : List Value} {wsc : List Addr} {Q : Option Value → Heap → List Addr → Prop} (Cc : Cb l Z EL R K z 3 Wd kc ks (.ref a :: argsL).toArray h wsc Q) (E : Exa Z h a C) (hws : ∀ x ∈ wsc, x ∈ sf) (hsz : ls.size = ml) (hlen : ∀ sig, parseMethodDescriptor y.desc = some sig → argsL.length = sig.parameters.length) (hst : st = argsL.reverse ++ .ref a :: rest) (hW : (rest.map fun v => v.category).sum ≤ Wd) (hc' : cells + kc ≤ R.cells) (hl' : slots + ks ≤ R.slots) (hp : pc + 3 = pc')
    (k : ∀ v so T' h', Wk l Z EL own nm cd ml ret R ws h0 K (so ++ sf) T' h' (cells + kc) (slots + ks) → Keep h h' wsc → (∀ x ∈ so, h.size ≤ x ∧ x < h'.size) → Q v h' so → Go K P T' pc' ls (v.toList ++ rest)) : Go K P T pc ls st := by
  obtain ⟨vm0, locs, k0, X, e, hx, hc, e0, hZ, hown, hS, hk, hL, hC, hO, hE, hw, hz, hs⟩ := W
  subst hp
  obtain ⟨cB, kB, i1, i2, i3⟩ := isOf (s := K.2.2.1.setVm vm0) hZ e E
  obtain ⟨v, vm₁, B, -, X', hS', hgr, ⟨L, so, q1, q2, q3, q4, q5, q6, q7, q8⟩, f⟩ := X.virtualBackS hx (y := y) (z := z) hown (mvT hZ w1) (mvT hZ w2) (nf (K.2.2.1.setVm vm0) hZ) (mvT hZ w3) (mvT hZ w4) hy (Cc vm0 hZ hC.1 fun x q => ⟨(hs x (hws x q)).1, (hs x (hws x q)).2.1⟩) i1 i3 (g := mkF K.2.2.2.1 pc ls st) rfl (hsz.trans hc.2.1.symm) (Steps.refl _) hlen hst (by show 2 * 0 + _ ≤ _; omega) (hb hc.1 hd) (fun _ _ => ⟨rfl, e, hc', hl'⟩)
  obtain ⟨X2, hS2, hZ2, hown2⟩ := rebS (Z := Z) (own := own) (n1 := h.size) hS hk X' hS' (by rw [← e]; exact hgr) hZ hown
  obtain ⟨a1, a2, a3, a4⟩ := wAfter (s := K.2.2.1) hC hs hL hO hw hz hws q2 q3 q4 q8
  rw [q5, q6, q7] at X2
  obtain ⟨o, U, r, q⟩ := k v so B.U B.U.heap ⟨B.U.vm, _, _, X2, rfl, hx, hc, e0, hZ2, hown2, hS2, Nat.le_refl _, a3, a1, a4, hE, hw, hz, a2⟩ q4 (fun x z => ⟨(q2 x z).2.1, (q2 x z).2.2⟩) q1
  exact ⟨o, U, f.trans r, q⟩
/-- invokeinterface on an object of exactly the class C -/
theorem wFace (W : Wk l Z EL own nm cd ml ret R ws h0 K sf T h cells slots) {C : String} {xi y : MethodName} {index count : Nat} (hd : decode cd pc = .ok (.invokeinterface index count, 5)) (w1 : (Cond.methodLink own index xi).before a0 Z = true) (w2 : (Cond.declares xi).before a0 Z = true) (w3 : (Cond.interfaceMethod xi.cls xi.cls xi.name xi.desc).before a0 Z = true) (w4 : (Cond.selects C xi y).before a0 Z = true) (w5 : (Cond.instanceMethod y).before a0 Z = true) (w6 : (Cond.publicMethod y).before a0 Z = true) (w7 : (Cond.unhidden C xi.name xi.desc).before a0 Z = true) (w8 : (Cond.castable C xi.cls).before a0 Z = true) (hy : xi.cls ≠ "java/lang/invoke/MethodHandle" ∧ xi.cls ≠ "java/lang/invoke/VarHandle")
    {Wd kc ks : Nat} {a : Addr} {argsL rest : List Value} {wsc : List Addr} {Q : Option Value → Heap → List Addr → Prop} (Cc : Cb l Z EL R K y 5 Wd kc ks (.ref a :: argsL).toArray h wsc Q) (E : Exa Z h a C) (hws : ∀ x ∈ wsc, x ∈ sf) (hsz : ls.size = ml) (hlen : ∀ sig, parseMethodDescriptor xi.desc = some sig → argsL.length = sig.parameters.length) (hst : st = argsL.reverse ++ .ref a :: rest) (hW : (rest.map fun v => v.category).sum ≤ Wd) (hc' : cells + kc ≤ R.cells) (hl' : slots + ks ≤ R.slots) (hp : pc + 5 = pc')
    (k : ∀ v so T' h', Wk l Z EL own nm cd ml ret R ws h0 K (so ++ sf) T' h' (cells + kc) (slots + ks) → Keep h h' wsc → (∀ x ∈ so, h.size ≤ x ∧ x < h'.size) → Q v h' so → Go K P T' pc' ls (v.toList ++ rest)) : Go K P T pc ls st := by
  obtain ⟨vm0, locs, k0, X, e, hx, hc, e0, hZ, hown, hS, hk, hL, hC, hO, hE, hw, hz, hs⟩ := W
  subst hp
  obtain ⟨cB, kB, i1, i2, i3⟩ := isOf (s := K.2.2.1.setVm vm0) hZ e E
  obtain ⟨v, vm₁, B, -, X', hS', hgr, ⟨L, so, q1, q2, q3, q4, q5, q6, q7, q8⟩, f⟩ := X.interfaceBackS hx (xi := xi) (y := y) hown (mvT hZ w1) (mvT hZ w2) (mvT hZ w3 (by simp [Cond.onTables, Cond.keepsFace, Cond.faceAtom, hy.1, hy.2])) (mvT hZ w4) (mvT hZ w5) (mvT hZ w6) (mvT hZ w7) (mvT hZ w8) hy (Cc vm0 hZ hC.1 fun x q => ⟨(hs x (hws x q)).1, (hs x (hws x q)).2.1⟩) i1 i2 i3 (g := mkF K.2.2.2.1 pc ls st) rfl (hsz.trans hc.2.1.symm) (Steps.refl _) hlen hst (by show 2 * 0 + _ ≤ _; omega) (hb hc.1 hd) (fun _ _ => ⟨rfl, e, hc', hl'⟩)
  obtain ⟨X2, hS2, hZ2, hown2⟩ := rebS (Z := Z) (own := own) (n1 := h.size) hS hk X' hS' (by rw [← e]; exact hgr) hZ hown
  obtain ⟨a1, a2, a3, a4⟩ := wAfter (s := K.2.2.1) hC hs hL hO hw hz hws q2 q3 q4 q8
  rw [q5, q6, q7] at X2
  obtain ⟨o, U, r, q⟩ := k v so B.U B.U.heap ⟨B.U.vm, _, _, X2, rfl, hx, hc, e0, hZ2, hown2, hS2, Nat.le_refl _, a3, a1, a4, hE, hw, hz, a2⟩ q4 (fun x z => ⟨(q2 x z).2.1, (q2 x z).2.2⟩) q1
  exact ⟨o, U, f.trans r, q⟩
theorem nfS {C : String} {y : MethodName} (w3 : (Cond.selects C y y).before a0 Z = true) : ∀ s : State, Z.Warmed39 s.vm → NotFace s y := fun s hZ => notFace_of_selects (args := #[]) (mvT hZ w3)
/-- the end: P's post out of the walk's last standing -/
theorem wEnd {kc ks : Nat} {v : Option Value} {Q : Option Value → Heap → List Addr → Prop} {so : List Addr} (W : Wk l Z EL own nm cd ml ret R ws h0 K sf T h cells slots) (hv : ret = none → v = none) (hk : cells ≤ kc) (hn : slots ≤ ks) (hso : ∀ x ∈ so, x ∈ sf ∧ h0.size ≤ x) (q : Q v h so)
    (stp : ∀ (vm0 : Vm) (locs : List Loc) (fs : List Frame), Stand K.1 l K.2.1 R (K.2.2.1.setVm vm0) K.2.2.2.1 K.2.2.2.2.1 K.2.2.2.2.2.1 K.2.2.2.2.2.2.1 K.2.2.2.2.2.2.2 T locs cells slots → K.1.tables.exec = Jvm.exec → K.2.2.2.2.2.2.2.code = cd → K.2.2.2.2.2.2.1.sig.returnType = ret →
      (∀ (f : JFrame) (acts : List Action), f.method = K.2.2.2.1 → f.locked = none → f.entered = [] → (doReturn K.2.1 (T.setTop f) acts v).1 = T.setFrames fs) → Steps K.1.tables K.2.1 K.2.2.2.2.2.1 (T.setTop (mkF K.2.2.2.1 pc ls st)) (T.setFrames fs)) :
    Go K (Pst Z EL ws K.2.2.1 kc ks Q) T pc ls st := by
  obtain ⟨vm0, locs, k0, X, e, hx, hc, e0, hZ, hown, hS, hk0, hL, hC, hO, ⟨a0, hE⟩, hw, hz, hs⟩ := W
  have hlk := hc.2.2.2.1
  obtain ⟨fs, f1, f2, f3, f4⟩ := X.leaveW hS (by rw [e]; exact hk0) (v := v) (fun q => hv (hc.2.2.1.symm.trans q)) hlk
  have hend := CHv.at X hZ hE hC.1
  refine ⟨.returned v, T.setFrames fs, stp vm0 locs fs X hx hc.1 hc.2.2.1 f1, f2, f3, v, locs, so, rfl, ?_, fun x z => ?_, ?_, ?_, ?_⟩
  · show Q v T.heap so
    rw [e]; exact q
  · show Safe Z EL T.vm T.heap x ∧ _ ∧ x < T.heap.size
    rw [e, e0]
    exact ⟨hend.safe (hs x (hso x z).1).2.1 (hs x (hso x z).1).1, (hso x z).2, (hs x (hso x z).1).2.1⟩
  · rw [e0]; exact hL
  · show CHr Z EL K.2.2.1.vm K.2.2.1.heap T.vm T.heap
    rw [e, e0]; exact hC.trans hend
  · obtain ⟨g1, g2, g3, g4⟩ := f4
    exact ⟨g1, g2, g3, g4.mono hk hn⟩
/-- return -/
theorem wRet0 {kc ks : Nat} {Q : Option Value → Heap → List Addr → Prop} {so : List Addr} (W : Wk l Z EL own nm cd ml none R ws h0 K sf T h cells slots) (hd : decode cd pc = .ok (.return_, 1)) (hk : cells ≤ kc) (hn : slots ≤ ks) (hso : ∀ x ∈ so, x ∈ sf ∧ h0.size ≤ x) (q : Q none h so) : Go K (Pst Z EL ws K.2.2.1 kc ks Q) T pc ls [] :=
  wEnd W (fun _ => rfl) hk hn hso q fun vm0 locs fs X hx hc hr f => X.returnOut hx hr (hb hc hd) f
/-- ireturn, of an int, a boolean, a byte, a char, a short -/
theorem wRetI {t : FieldType} {z : Int32} {kc ks : Nat} {Q : Option Value → Heap → List Addr → Prop} {so : List Addr} (W : Wk l Z EL own nm cd ml (some t) R ws h0 K sf T h cells slots) (hd : decode cd pc = .ok (.ireturn, 1)) (ht : t = .int ∨ t = .boolean ∨ t = .byte ∨ t = .char ∨ t = .short) (hnr : narrow t (.int z) = .int z) (hk : cells ≤ kc) (hn : slots ≤ ks) (hso : ∀ x ∈ so, x ∈ sf ∧ h0.size ≤ x) (q : Q (some (.int z)) h so) : Go K (Pst Z EL ws K.2.2.1 kc ks Q) T pc ls (.int z :: st) :=
  wEnd W (fun q => nomatch q) hk hn hso q fun vm0 locs fs X hx hc hr f => retOut X hx hr hnr (Or.inl ⟨rfl, ht, z, rfl⟩) (hb hc hd) f
/-- areturn -/
theorem wRetA {t : FieldType} {w : Value} {kc ks : Nat} {Q : Option Value → Heap → List Addr → Prop} {so : List Addr} (W : Wk l Z EL own nm cd ml (some t) R ws h0 K sf T h cells slots) (hd : decode cd pc = .ok (.areturn, 1)) (ht : t.isReference = true) (hw : w.isRef = true) (hnr : narrow t w = w) (hk : cells ≤ kc) (hn : slots ≤ ks) (hso : ∀ x ∈ so, x ∈ sf ∧ h0.size ≤ x) (q : Q (some w) h so) : Go K (Pst Z EL ws K.2.2.1 kc ks Q) T pc ls (w :: st) :=
  wEnd W (fun q => nomatch q) hk hn hso q fun vm0 locs fs X hx hc hr f => retOut X hx hr hnr (Or.inr (Or.inr (Or.inr (Or.inr ⟨rfl, ht, hw⟩)))) (hb hc hd) f
/-- lreturn -/
theorem wRetL {z : Int64} {kc ks : Nat} {Q : Option Value → Heap → List Addr → Prop} {so : List Addr} (W : Wk l Z EL own nm cd ml (some .long) R ws h0 K sf T h cells slots) (hd : decode cd pc = .ok (.lreturn, 1)) (hk : cells ≤ kc) (hn : slots ≤ ks) (hso : ∀ x ∈ so, x ∈ sf ∧ h0.size ≤ x) (q : Q (some (.long z)) h so) : Go K (Pst Z EL ws K.2.2.1 kc ks Q) T pc ls (.long z :: st) :=
  wEnd W (fun q => nomatch q) hk hn hso q fun vm0 locs fs X hx hc hr f => retOut X hx hr rfl (Or.inr (Or.inl ⟨rfl, rfl, z, rfl⟩)) (hb hc hd) f
end Calls
section Ints
/-- a term that is said to equal a long -/
theorem eqL_v {args : Array Value} {first s : State} {o : Option Outcome} {idx : List Nat} {t : Term} {n : Int64} (h : (Cond.eq t (.long n)).value args first o s idx = some true) : t.eval args first o idx s = some (.long n) := by
  cases ht : t.eval args first o idx s with
  | none => simp [Cond.value, Term.eval, ht] at h
  | some x => cases x <;> simp [Cond.value, Term.eval, ht] at h ⊢; exact h
theorem nar_char (x : Int32) : nar .char x = x.toUInt32.toUInt16.toUInt32.toInt32 := rfl
theorem ch255 {p v w : Int32} (e : p &&& 255 = v) (e2 : v.toUInt32.toUInt16.toUInt32.toInt32 = w) : ¬ w < 0 ∧ ¬ 255 < w ∧ nar .char w = w := by
  subst e e2
  rw [i2c_mask]
  have q := c_and p 255 (by decide)
  refine ⟨?_, ?_, ?_⟩
  · rw [Int32.lt_iff_toInt_lt]; simp only [Int32.reduceToInt]; omega
  · rw [Int32.lt_iff_toInt_lt]; have h : (255 : Int32).toInt = 255 := by decide
    omega
  · rw [nar_char, i2c_mask]
theorem i32_of {v : Int32} {n : Int} (w : Int32) (hw : w.toInt = n) (h : v.toInt = n) : v = w := Int32.toInt_inj.mp (h.trans hw.symm)
theorem and3 {x v : Int32} (e : x &&& 3 = v) : v = 0 ∨ v = 1 ∨ v = 2 ∨ v = 3 := by
  subst e
  have q := c_and x 3 (by decide)
  have h3 : (3 : Int32).toInt = 3 := by decide
  rw [h3] at q
  have : (x &&& 3).toInt = 0 ∨ (x &&& 3).toInt = 1 ∨ (x &&& 3).toInt = 2 ∨ (x &&& 3).toInt = 3 := by omega
  rcases this with h | h | h | h
  · exact Or.inl (i32_of 0 (by decide) h)
  · exact Or.inr (Or.inl (i32_of 1 (by decide) h))
  · exact Or.inr (Or.inr (Or.inl (i32_of 2 (by decide) h)))
  · exact Or.inr (Or.inr (Or.inr (i32_of 3 (by decide) h)))
theorem and7 {x v : Int32} (e : x &&& 7 = v) : v = 0 ∨ v = 1 ∨ v = 2 ∨ v = 3 ∨ v = 4 ∨ v = 5 ∨ v = 6 ∨ v = 7 := by
  subst e
  have q := c_and x 7 (by decide)
  have h7 : (7 : Int32).toInt = 7 := by decide
  rw [h7] at q
  have : (x &&& 7).toInt = 0 ∨ (x &&& 7).toInt = 1 ∨ (x &&& 7).toInt = 2 ∨ (x &&& 7).toInt = 3 ∨ (x &&& 7).toInt = 4 ∨ (x &&& 7).toInt = 5 ∨ (x &&& 7).toInt = 6 ∨ (x &&& 7).toInt = 7 := by omega
  rcases this with h | h | h | h | h | h | h | h
  · exact Or.inl (i32_of 0 (by decide) h)
  · exact Or.inr (Or.inl (i32_of 1 (by decide) h))
  · exact Or.inr (Or.inr (Or.inl (i32_of 2 (by decide) h)))
  · exact Or.inr (Or.inr (Or.inr (Or.inl (i32_of 3 (by decide) h))))
  · exact Or.inr (Or.inr (Or.inr (Or.inr (Or.inl (i32_of 4 (by decide) h)))))
  · exact Or.inr (Or.inr (Or.inr (Or.inr (Or.inr (Or.inl (i32_of 5 (by decide) h))))))
  · exact Or.inr (Or.inr (Or.inr (Or.inr (Or.inr (Or.inr (Or.inl (i32_of 6 (by decide) h)))))))
  · exact Or.inr (Or.inr (Or.inr (Or.inr (Or.inr (Or.inr (Or.inr (i32_of 7 (by decide) h)))))))
theorem ch16 {p v w : Int32} (e : p &&& 65535 = v) (e2 : v.toUInt32.toUInt16.toUInt32.toInt32 = w) : (¬ w < 0 ∧ ¬ 65535 < w) ∧ nar .char w = w := by
  have q := c_i2c v
  rw [e2] at q
  have q2 := c_i2c w
  refine ⟨⟨?_, ?_⟩, ?_⟩
  · rw [Int32.lt_iff_toInt_lt]; have : (0 : Int32).toInt = 0 := by decide
    omega
  · rw [Int32.lt_iff_toInt_lt]; have : (65535 : Int32).toInt = 65535 := by decide
    omega
  · rw [nar_char]; apply Int32.toInt_inj.mp; omega
/-- an int from 0 to 255 -/
def B8 (x : Int32) : Prop := ¬ x < 0 ∧ ¬ 255 < x
theorem B8.toInt {x : Int32} (h : B8 x) : 0 ≤ x.toInt ∧ x.toInt ≤ 255 := by
  obtain ⟨h1, h2⟩ := h
  rw [Int32.lt_iff_toInt_lt] at h1 h2
  have a : (0 : Int32).toInt = 0 := by decide
  have b : (255 : Int32).toInt = 255 := by decide
  omega
theorem B8.of {x : Int32} (h : 0 ≤ x.toInt ∧ x.toInt ≤ 255) : B8 x := by
  refine ⟨?_, ?_⟩ <;> rw [Int32.lt_iff_toInt_lt]
  · have a : (0 : Int32).toInt = 0 := by decide
    omega
  · have b : (255 : Int32).toInt = 255 := by decide
    omega
theorem B8.and {p v : Int32} (e : p &&& 255 = v) : B8 v := by
  subst e; have q := c_and p 255 (by decide)
  have b : (255 : Int32).toInt = 255 := by decide
  exact B8.of (by omega)
theorem B8.mask {x : Int32} (h : B8 x) : x &&& 255 = x := by
  have q := c_mask x 255 8 (by decide) (by decide)
  have r := h.toInt
  apply Int32.toInt_inj.mp
  rw [q]; simp only [Nat.reducePow]; omega
theorem B8.i2c {c v : Int32} (h : B8 c) (e : c.toUInt32.toUInt16.toUInt32.toInt32 = v) : v = c := by
  rw [← h.mask, i2c_mask, h.mask] at e; exact e.symm
theorem B8.i2c' {c : Int32} (h : B8 c) : c.toUInt32.toUInt16.toUInt32.toInt32 = c := h.i2c rfl
theorem B8.nar {c : Int32} (h : B8 c) : nar .char c = c := h.i2c'
theorem B8.xor {x y v : Int32} (hx : B8 x) (hy : B8 y) (e : x ^^^ y = v) : B8 v := by
  subst e
  have e1 : x ^^^ y = (x ^^^ y) &&& 255 := by
    have h1 := hx.mask; have h2 := hy.mask
    rw [← Int32.toBitVec_inj] at h1 h2 ⊢
    simp only [Int32.toBitVec_and, Int32.toBitVec_xor] at h1 h2 ⊢
    rw [← h1, ← h2]
    ext i hi
    simp only [BitVec.getElem_and, BitVec.getElem_xor]
    cases (x.toBitVec[i]) <;> cases (y.toBitVec[i]) <;> cases ((255 : Int32).toBitVec[i]) <;> rfl
  exact B8.and e1.symm
theorem and31 {p v : Int32} (e : p &&& 2147483647 = v) : 0 ≤ v.toInt := by
  subst e; exact (c_and p 2147483647 (by decide)).1
/-- the remainder of a non-negative int by a positive constant -/
theorem rem_lt {v r y : Int32} {d : Int} (h : 0 ≤ v.toInt) (e : v % y = r) (hy : y.toInt = d) (hd : 0 < d) : 0 ≤ r.toInt ∧ r.toInt < d := by
  subst e
  have q := (c_irem v y d hy).1 h
  rw [q]; exact ⟨Int.emod_nonneg _ (by omega), Int.emod_lt_of_pos _ hd⟩
theorem lt_i {x y : Int32} : x < y ↔ x.toInt < y.toInt := Int32.lt_iff_toInt_lt
theorem xor_self {x y : Int32} (h : x = x ^^^ y) : y = 0 := by
  have h2 : x ^^^ x = x ^^^ (x ^^^ y) := congrArg (fun t => x ^^^ t) h
  rw [Int32.xor_self, ← Int32.xor_assoc, Int32.xor_self, Int32.zero_xor] at h2
  exact h2.symm
end Ints
section Refs0
variable {l : Launch} {Z : State} {EL : List (String × Nat)} {own nm : String} {cd : ByteArray} {ml : Nat} {ret : Option FieldType} {R : Room} {ws : List Addr} {h0 : Heap} {K : Cx} {sf : List Addr} {T : State} {h h' : Heap} {cells slots : Nat} {P : Outcome → State → Prop} {pc pc' : Nat} {ls : Array Slot} {st : List Value} {a0 : Array Value}
/-- checkcast of null -/
theorem wCastN (W : Wk l Z EL own nm cd ml ret R ws h0 K sf T h cells slots) {index : Nat} (hd : decode cd pc = .ok (.checkcast index, 3)) (hp : pc + 3 = pc')
    (k : Go K P T pc' ls (.null :: st)) : Go K P T pc ls (.null :: st) := by
  obtain ⟨vm0, locs, k0, X, e, hx, hc, r⟩ := W
  subst hp
  exact Go.stp (fun t q => X.checkcastNull hx (g := mkF K.2.2.2.1 pc ls (.null :: st)) rfl rfl (hb hc.1 hd) _ q) k
end Refs0
section Refs
variable {Z : State} {h h' : Heap} {v : Value} {C : String} {ws : List Addr}
/-- null, or an object of exactly the class C -/
def RefS (Z : State) (h : Heap) (v : Value) (C : String) : Prop := v = .null ∨ ∃ r, v = .ref r ∧ Exa Z h r C
theorem RefS.isRef (F : RefS Z h v C) : v.isRef = true := by rcases F with rfl | ⟨r, rfl, -⟩ <;> rfl
theorem RefS.ext (F : RefS Z h v C) (E : Ext h h') : RefS Z h' v C := F.imp id fun ⟨r, q, A⟩ => ⟨r, q, A.ext E⟩
theorem RefS.wr {a : Addr} {sl : Nat} {u : Value} (F : RefS Z h v C) (W : Wr h h' a sl u) : RefS Z h' v C := F.imp id fun ⟨r, q, A⟩ => ⟨r, q, A.wr W⟩
theorem RefS.keep (F : RefS Z h v C) (K : Keep h h' ws) : RefS Z h' v C := F.imp id fun ⟨r, q, A⟩ => ⟨r, q, A.keep K⟩
theorem RefS.of {r : Addr} (A : Exa Z h r C) : RefS Z h (.ref r) C := Or.inr ⟨r, rfl, A⟩
theorem RefS.null : RefS Z h .null C := Or.inl rfl
theorem catR (hv : v.isRef = true) : v.category = 1 := by rcases ref_cases hv with rfl | ⟨r, rfl⟩ <;> rfl
/-- what 'x == null ? y : x' gives -/
def selV (x y : Value) : Value := match x with | .null => y | v => v
theorem RefS.sel {u : Value} (F : RefS Z h v C) (G : RefS Z h u C) : RefS Z h (selV v u) C := by
  rcases F with rfl | ⟨r, rfl, A⟩
  · exact G
  · exact Or.inr ⟨r, rfl, A⟩
theorem narR {t : FieldType} (hv : v.isRef = true) (ht : t.isReference = true := by rfl) : narrow t v = v := by
  rcases ref_cases hv with rfl | ⟨r, rfl⟩ <;> cases t <;> rfl
theorem fitR {t : FieldType} (hv : v.isRef = true) (ht : t.isReference = true := by rfl) : fits t v = true := by
  rcases ref_cases hv with rfl | ⟨r, rfl⟩ <;> cases t <;> first | rfl | cases ht
end Refs
section Refs2
variable {l : Launch} {Z : State} {EL : List (String × Nat)} {own nm : String} {cd : ByteArray} {ml : Nat} {ret : Option FieldType} {R : Room} {ws : List Addr} {h0 : Heap} {K : Cx} {sf : List Addr} {T : State} {h h' : Heap} {cells slots : Nat} {P : Outcome → State → Prop} {pc pc' : Nat} {ls : Array Slot} {st : List Value} {a0 : Array Value}
/-- checkcast of null or of an object of that very class -/
theorem wCastR (W : Wk l Z EL own nm cd ml ret R ws h0 K sf T h cells slots) {C : String} {index : Nat} (hd : decode cd pc = .ok (.checkcast index, 3)) (w : (Cond.classLink own index C).before a0 Z = true) {v : Value} (F : RefS Z h v C) (hp : pc + 3 = pc')
    (k : ∀ T', Wk l Z EL own nm cd ml ret R ws h0 K sf T' h cells slots → Go K P T' pc' ls (v :: st)) : Go K P T pc ls (v :: st) := by
  rcases F with rfl | ⟨r, rfl, A⟩
  · exact wCastN W hd hp (k T W)
  · exact wCast W hd w (Ins.self A) hp k
end Refs2
section More
variable {l : Launch} {Z : State} {EL : List (String × Nat)} {own nm : String} {cd : ByteArray} {ml : Nat} {ret : Option FieldType} {R : Room} {ws : List Addr} {h0 : Heap} {K : Cx} {sf : List Addr} {T : State} {h h' : Heap} {cells slots : Nat} {P : Outcome → State → Prop} {pc pc' : Nat} {ls : Array Slot} {st : List Value} {a0 : Array Value}
/-- clone of an array -/
theorem wClone (W : Wk l Z EL own nm cd ml ret R ws h0 K sf T h cells slots) {ad : String} {index : Nat} (hd : decode cd pc = .ok (.invokevirtual index, 3)) (w1 : (Cond.methodLink own index ⟨ad, "clone", "()Ljava/lang/Object;"⟩).before a0 Z = true) (w2 : (Cond.sameMethod ad "java/lang/Object" "clone" "()Ljava/lang/Object;").before a0 Z = true) (w3 : (Cond.native ⟨"java/lang/Object", "clone", "()Ljava/lang/Object;"⟩).before a0 Z = true) (w4 : (Cond.instanceMethod ⟨"java/lang/Object", "clone", "()Ljava/lang/Object;"⟩).before a0 Z = true) (w5 : (Cond.selects ad ⟨ad, "clone", "()Ljava/lang/Object;"⟩ ⟨"java/lang/Object", "clone", "()Ljava/lang/Object;"⟩).before a0 Z = true) (w6 : (Cond.castable ad "java/lang/Cloneable").before a0 Z = true)
    {a : Addr} {kA : ClassId} {ty : FieldType} {z : Int32} {vs : List Value} {dv : Value} (F : Arv Z h a kA ty z vs dv) (E : Exa Z h a ad) (hsz : ls.size = ml) (hf : 1 ≤ R.frames) (Wd : Nat) (hW : (st.map fun v => v.category).sum ≤ Wd) (hl : Wd + 14 ≤ R.locals) (cap : Nat) (hcap : z.toNatClampNeg ≤ cap) (hc' : cells + 1 ≤ R.cells) (hsl : slots + cap ≤ R.slots) (hp : pc + 3 = pc')
    (k : ∀ T' h' a', Wk l Z EL own nm cd ml ret R ws h0 K (a' :: sf) T' h' (cells + 1) (slots + cap) → Ext h h' → a' = h.size → Arv Z h' a' kA ty z vs dv → Exa Z h' a' ad → Go K P T' pc' ls (.ref a' :: st)) : Go K P T pc ls (.ref a :: st) := by
  have hg := W.grow
  obtain ⟨vm0, locs, k0, X, e, hx, hc, e0, hZ, hown, hS, hk, hL, hC, hO, hE, hw, hz, hs⟩ := W
  subst hp
  obtain ⟨T', h', X', e', Ex, A, E', f⟩ := cloneH X hx hZ hown w1 w2 w3 w4 w5 w6 e F.arh E (g := mkF K.2.2.2.1 pc ls (.ref a :: st)) rfl (hsz.trans hc.2.1.symm) rfl (hb hc.1 hd) hf (W := Wd) (by show 2 * 0 + _ ≤ _; omega) hl hcap hc' hsl
  obtain ⟨hC', hs'⟩ := wExt (s := K.2.2.1) hC hs Ex
  refine Go.stp f (k T' h' h.size ⟨vm0, locs, k0, X', e', hx, hc, e0, hZ, hown, hS, Nat.le_trans hk Ex.1, hL, hC', hO.ext Ex, hE, hw, hz, fun x q => ?_⟩ Ex rfl A E')
  rcases List.mem_cons.mp q with rfl | q
  · exact ⟨Safe.ext Ex hC.1 (Safe.new (Nat.le_refl _)), E'.lt, Or.inr hg⟩
  · exact hs' x q
/-- aaload -/
theorem wLdA (W : Wk l Z EL own nm cd ml ret R ws h0 K sf T h cells slots) (hd : decode cd pc = .ok (.aaload, 1)) {a : Addr} {kA : ClassId} {ty : FieldType} (ht : ty.isReference = true) {z j : Int32} {vs : List Value} {v dv : Value} (A : Arv Z h a kA ty z vs dv) (hj : ¬ j < 0 ∧ j < z) (hv : vs.getD j.toNatClampNeg dv = v) (hp : pc + 1 = pc')
    (k : Go K P T pc' ls (v :: st)) : Go K P T pc ls (.int j :: .ref a :: st) := by
  obtain ⟨vm0, locs, k0, X, e, hx, hc, e0, hZ, r⟩ := W
  subst hp
  obtain ⟨cl, A1, A2, A3, A4, A5, -⟩ := A
  exact Go.stp (fun t q => X.aaload hx (by rw [e]; exact A1.1) (State.isArrayOf_alike hZ.alike A1.2.1) ht A1.2.2 (inb_of A3 hj) (A5.at (inb_of A3 hj) hv) (g := mkF K.2.2.2.1 pc ls (.int j :: .ref a :: st)) rfl rfl (hb hc.1 hd) _ q) k
/-- the places that a step may have written: at a cell b alone, where all others are kept -/
theorem locsAt {p : Program} {e : Env} {s : State} {m : MethodId} {args : Array Value} {below : List Frame} {meth : Method} {c : Code} {T' : State} {locs L : List Loc} {b : Addr} (X : Stand p l e R s m args below meth c T locs cells slots) (X' : Stand p l e R s m args below meth c T' L cells slots) (Ke : Keep T.heap T'.heap [b]) (n : Nat) (hn : ∀ c, T.heap[b]? = some c → c.slots.size ≤ n) :
    Stand p l e R s m args below meth c T' (locs ++ (List.range n).map fun i => (⟨b, i⟩ : Loc)) cells slots := by
  refine ⟨X'.admits, X'.cas, X'.clock, X'.frames, X'.room, X'.hears, X'.method, X'.code, X'.here, X'.tail, X'.warmed, X'.limits, X'.bytes, ?_⟩
  obtain ⟨p1, p2, p3, p4, p5, p6⟩ := X'.same
  obtain ⟨-, -, -, -, -, r6⟩ := X.same
  refine ⟨p1, p2, p3, p4, p5, fun a c hc => ?_⟩
  obtain ⟨c', q1, q2, q3, -⟩ := p6 a c hc
  refine ⟨c', q1, q2, q3, fun i hi => ?_⟩
  obtain ⟨c1, s1, s2, s3, s4⟩ := r6 a c hc
  by_cases hab : a = b
  · subst hab
    by_cases hlt : i < n
    · exact absurd (List.mem_append_right _ (List.mem_map.mpr ⟨i, List.mem_range.mpr hlt, rfl⟩)) hi
    · have hc1 : c1.slots.size ≤ n := hn c1 s1
      rw [Array.getElem?_eq_none (by omega), Array.getElem?_eq_none (by omega)]
  · have hk := Ke.2.1 a c1 s1 (by simp [hab])
    have : c' = c1 := Option.some.inj (q1.symm.trans hk)
    rw [this]
    exact s4 i (fun hm => hi (List.mem_append_left _ hm))
/-- System.arraycopy of numbers, between two arrays of one kind -/
theorem wCopy (W : Wk l Z EL own nm cd ml ret R ws h0 K sf T h cells slots) {index : Nat} (hd : decode cd pc = .ok (.invokestatic index, 3)) (w1 : (Cond.methodLink own index Jvm.Stand.acN).before a0 Z = true) (w2 : (Cond.native Jvm.Stand.acN).before a0 Z = true) (w3 : (Cond.static Jvm.Stand.acN).before a0 Z = true) (w4 : (Cond.initialized "java/lang/System").before a0 Z = true)
    {a b : Addr} (hb' : b ∈ sf) {k k' : ClassId} {ty : FieldType} {z z' sp dp nn : Int32} {vs vd us : List Value} {dv dd : Value} (A : Arv Z h a k ty z vs dv) (B : Arv Z h b k' ty z' vd dd) (hty : refKind ty = false) (h1 : ¬ sp < 0) (h2 : ¬ dp < 0) (h3 : ¬ nn < 0) (zN zN' spN dpN nN : Nat) (e1 : z.toNatClampNeg = zN) (e2 : z'.toNatClampNeg = zN') (e3 : sp.toNatClampNeg = spN) (e4 : dp.toNatClampNeg = dpN) (e5 : nn.toNatClampNeg = nN) (h4 : spN + nN ≤ zN) (h5 : dpN + nN ≤ zN')
    (hus : us = (List.range nN).map fun i => vs.getD (spN + i) dv) (hl : dpN + nN ≤ vd.length) (hsz : ls.size = ml) (hf : 1 ≤ R.frames) (Wd : Nat) (hW : (st.map fun v => v.category).sum ≤ Wd) (hlo : Wd + (nativeFrameWords "java/lang/System" "arraycopy" 5 + 11) ≤ R.locals) (hp : pc + 3 = pc')
    (kk : ∀ T' h', Wk l Z EL own nm cd ml ret R ws h0 K sf T' h' cells slots → Keep h h' [b] → Arv Z h' b k' ty z' (vd.take dpN ++ us ++ vd.drop (dpN + nN)) dd → Go K P T' pc' ls st) : Go K P T pc ls (.int nn :: .int dp :: .ref b :: .int sp :: .ref a :: st) := by
  subst e1 e2 e3 e4 e5
  obtain ⟨vm0, locs, k0, X, e, hx, hc, e0, hZ, hown, hS, hk, hL, hC, hO, hE, hw, hz, hs⟩ := W
  subst hp
  obtain ⟨T', h', L, X', e', -, Ke, B', f⟩ := cpA X hx hZ hown w1 w2 w3 w4 e A B (Or.inl ⟨rfl, hty⟩) h1 h2 h3 h4 h5 hus hl (n0 := 0) (fun _ _ => Nat.zero_le _) (Nat.zero_le _) (g := mkF K.2.2.2.1 pc ls (.int nn :: .int dp :: .ref b :: .int sp :: .ref a :: st)) rfl (hsz.trans hc.2.1.symm) rfl (hb hc.1 hd) hf (W := Wd) (by show 2 * 0 + _ ≤ _; omega) hlo
  obtain ⟨s1, s2, s3⟩ := hs b hb'
  obtain ⟨cl, B1, -, B3, -⟩ := B
  have X2 := locsAt X X' (by rw [e, e']; exact Ke) z'.toNatClampNeg (fun c hc => by rw [e] at hc; cases hc.symm.trans B1.1; exact Nat.le_of_eq B3)
  have C1 : CHr Z EL vm0 h vm0 h' := CHr.keep Ke (fun x q => by cases List.mem_singleton.mp q; exact s1) hC.1
  obtain ⟨a1, a2, a3, a4⟩ := wAfter (s := K.2.2.1) (so := []) (wsc := [b]) (L := (List.range z'.toNatClampNeg).map fun i => (⟨b, i⟩ : Loc)) hC hs hL hO hw hz (fun x q => by cases List.mem_singleton.mp q; exact hb') (fun x q => nomatch q) (fun x q => Or.inl (by obtain ⟨i, -, rfl⟩ := List.mem_map.mp q; exact List.mem_singleton.mpr rfl)) Ke C1
  exact Go.stp f (kk T' h' ⟨vm0, _, k0, X2, e', hx, hc, e0, hZ, hown, hS, Nat.le_trans hk Ke.1, a3, a1, a4, hE, hw, hz, a2⟩ Ke B')
end More
section Starts
/-- a term that is said to equal an int -/
theorem eqI_v {args : Array Value} {first s : State} {o : Option Outcome} {idx : List Nat} {t : Term} {n : Int32} (h : (Cond.eq t (.int n)).value args first o s idx = some true) : t.eval args first o idx s = some (.int n) := by
  cases ht : t.eval args first o idx s with
  | none => simp [Cond.value, Term.eval, ht] at h
  | some x => cases x <;> simp [Cond.value, Term.eval, ht] at h ⊢; exact h
/-- a term that is said to equal one that is an object -/
theorem eqR_v {args : Array Value} {first s : State} {o : Option Outcome} {idx : List Nat} {t u : Term} {r : Addr} (h : (Cond.eq t u).value args first o s idx = some true) (hu : u.eval args first o idx s = some (.ref r)) : t.eval args first o idx s = some (.ref r) := by
  cases ht : t.eval args first o idx s with
  | none => simp [Cond.value, ht] at h
  | some x => cases x <;> simp [Cond.value, hu, ht] at h ⊢; exact h
theorem arvStart {Z : State} {args : Array Value} {t : Term} {a : Addr} {ty : FieldType} {z : Int32} {vs : List Value} {dv : Value} (hf : Fit Z) (ev : t.eval args Z none [] Z = some (.ref a)) (hx : (Cond.arrayOf t ty).value args Z none Z [] = some true) (hlen : (Cond.eq (Term.length t) (.int z)).value args Z none Z [] = some true) (hz : ¬ z < 0) (hl : z.toNatClampNeg = vs.length) (H : ∀ cl, Z.heap[a]? = some cl → HasL cl 0 vs) : ∃ k, Arv Z Z.heap a k ty z vs dv := by
  obtain ⟨c, A⟩ := Arr.start ev hx
  have hL := eqI_v hlen
  simp only [Term.eval, ev, Option.bind_eq_bind, Option.bind_some] at hL
  obtain ⟨cl, hc, h2⟩ := Option.bind_eq_some_iff.mp hL
  by_cases hn : cl.slots.size < 2147483648
  · rw [if_pos hn] at h2
    have e1 : Z.heap[a]? = some cl := (State.arrayAt?_spec hc).1
    have e2 : cl.slots.size.toInt32 = z := by have q := Option.some.inj h2; injection q
    have e3 : cl = c := Option.some.inj (e1.symm.trans A.1)
    subst e3
    exact ⟨_, Arv.start hf A hn e2 hz hl (H _ A.1)⟩
  · rw [if_neg hn] at h2; cases h2
/-- an element, read -/
theorem elem_h {Z : State} {args : Array Value} {t : Term} {a : Addr} {j : Int32} {v : Value} {cl : Cell} (ev : t.eval args Z none [] Z = some (.ref a)) (he : (Term.elem t (.int j)).eval args Z none [] Z = some v) (hc : Z.heap[a]? = some cl) (i : Nat) (hi : j.toNatClampNeg = i) : cl.slots[i]? = some v := hi ▸ (elem_in he ev (Term.int_eval j) hc).2
end Starts
end Jvm.Own
namespace Jvm.Own
open Jvm Sem ClassFile Op Lib Jvm.Stand Jvm.Free Jvm.LawKit Jvm.RoadKit Bundle
section Own3
variable {l : Launch} {Z : State} {EL : List (String × Nat)} {own nm : String} {cd : ByteArray} {ml : Nat} {ret : Option FieldType} {R : Room} {ws : List Addr} {h0 : Heap} {K : Cx} {sf : List Addr} {T : State} {h h' : Heap} {cells slots : Nat} {P : Outcome → State → Prop} {pc pc' : Nat} {ls : Array Slot} {st : List Value} {a0 : Array Value}
theorem selSelf {D : String} {y : MethodName} (hy : y.cls ≠ "java/lang/invoke/MethodHandle" ∧ y.cls ≠ "java/lang/invoke/VarHandle") (w2 : (Cond.instanceMethod y).before a0 Z = true) (w3 : (Cond.selects D y y).before a0 Z = true) (w4 : (Cond.privateMethod y).before a0 Z = true) : (Cond.selects y.cls y y).before a0 Z = true := by
  obtain ⟨mk, methM, hnamed, hmethM, -, -⟩ := Cond.instanceMethod_spec w2
  obtain ⟨c2, r2, m2, -, -, q3, -, kP, hkP, hkPi⟩ := Cond.selects_spec w3
  cases hnamed.symm.trans q3
  have hcn := findClass_of_methodNamed hnamed
  have hf := State.methodFound?_of_named hnamed hy
  have hsel : selectMethod {} Z.vm mk.cls mk = .method mk := selectMethod_private hmethM (Cond.privateMethod_at w4 mk methM hnamed hmethM)
  simp [Cond.before, Cond.holds, Cond.value, hcn, hf, hnamed, hsel, hkP, hkPi]
theorem sameSelf {D : String} {x y z : MethodName} (hy : y.cls ≠ "java/lang/invoke/MethodHandle" ∧ y.cls ≠ "java/lang/invoke/VarHandle") (w2 : (Cond.instanceMethod y).before a0 Z = true) (w3 : (Cond.selects D x z).before a0 Z = true) (hz : z.cls = y.cls) : (Cond.sameMethod y.cls y.cls y.name y.desc).before a0 Z = true := by
  obtain ⟨mk, methM, hnamed, hmethM, -, -⟩ := Cond.instanceMethod_spec w2
  obtain ⟨c2, r2, m2, -, -, q3, -, kP, hkP, hkPi⟩ := Cond.selects_spec w3
  have hcn := findClass_of_methodNamed hnamed
  have hcz := findClass_of_methodNamed q3
  rw [hz] at hcz
  have e : m2.cls = mk.cls := Option.some.inj (hcz.symm.trans hcn)
  rw [e] at hkP
  have hf := State.methodFound?_of_named hnamed hy
  have hn' : Z.methodNamed? ⟨y.cls, y.name, y.desc⟩ = some mk := hnamed
  simp [Cond.before, Cond.holds, Cond.value, hcn, hf, hn', hkP, hkPi]
theorem nfC {D : String} {x z y : MethodName} (w3 : (Cond.selects D x z).before a0 Z = true) (hz : z.cls = y.cls) : ∀ s : State, Z.Warmed39 s.vm → NotFace s y := fun s hZ r0 h0 => by
  obtain ⟨c2, r2, m2, q1, q2, q3, q4, kP, hkP, hkPi⟩ := Cond.selects_spec (show (Cond.selects D x z).before #[] s = true from mvT hZ w3)
  have e1 := findClass_of_methodNamed h0
  have e2 := findClass_of_methodNamed q3
  rw [hz] at e2
  have e : m2.cls = r0.cls := Option.some.inj (e2.symm.trans e1)
  exact ⟨kP, by rw [← e]; exact hkP, hkPi⟩
/-- an array's list, said otherwise -/
theorem arvL {a : Addr} {k : ClassId} {ty : FieldType} {z : Int32} {vs vs' : List Value} {d : Value} (A : Arv Z h a k ty z vs d) (e : vs = vs') : Arv Z h a k ty z vs' d := by subst e; exact A
/-- invokevirtual of a private method -/
theorem wPrivate (W : Wk l Z EL own nm cd ml ret R ws h0 K sf T h cells slots) {C D : String} {y : MethodName} {index : Nat} (hd : decode cd pc = .ok (.invokevirtual index, 3)) (w1 : (Cond.methodLink own index y).before a0 Z = true) (w2 : (Cond.instanceMethod y).before a0 Z = true) (w3 : (Cond.selects D y y).before a0 Z = true) (w4 : (Cond.privateMethod y).before a0 Z = true) {bytes : ByteArray} {maxL : Nat} {rt : Option FieldType} (wc : (Cond.code y bytes maxL rt).before a0 Z = true) (hy : y.cls ≠ "java/lang/invoke/MethodHandle" ∧ y.cls ≠ "java/lang/invoke/VarHandle")
    {Wd kc ks : Nat} {a : Addr} {argsL rest : List Value} {wsc : List Addr} {Q : Option Value → Heap → List Addr → Prop} (Cc : Cb l Z EL R K y 3 Wd kc ks (.ref a :: argsL).toArray h wsc Q) (E : Exa Z h a C) (hws : ∀ x ∈ wsc, x ∈ sf) (hsz : ls.size = ml) (hlen : ∀ sig, parseMethodDescriptor y.desc = some sig → argsL.length = sig.parameters.length) (hst : st = argsL.reverse ++ .ref a :: rest) (hW : (rest.map fun v => v.category).sum ≤ Wd) (hc' : cells + kc ≤ R.cells) (hl' : slots + ks ≤ R.slots) (hp : pc + 3 = pc')
    (k : ∀ v so T' h', Wk l Z EL own nm cd ml ret R ws h0 K (so ++ sf) T' h' (cells + kc) (slots + ks) → Keep h h' wsc → (∀ x ∈ so, h.size ≤ x ∧ x < h'.size) → Q v h' so → Go K P T' pc' ls (v.toList ++ rest)) : Go K P T pc ls st := by
  have w5 := selSelf hy w2 w3 w4
  obtain ⟨vm0, locs, k0, X, e, hx, hc, e0, hZ, hown, hS, hk, hL, hC, hO, hE, hw, hz, hs⟩ := W
  subst hp
  obtain ⟨cB, kB, i1, i2, cell, i4, i5, i6⟩ := isOf (s := K.2.2.1.setVm vm0) hZ e E
  obtain ⟨v, vm₁, B, -, X', hS', hgr, ⟨L, so, q1, q2, q3, q4, q5, q6, q7, q8⟩, f⟩ := X.privateBackS hx (y := y) hown (mvT hZ w1) (mvT hZ w2) (mvT hZ w5) (Cond.privateMethod_at (args := #[]) (mvT hZ w4)) (mvT hZ wc) hy (Cc vm0 hZ hC.1 fun x q => ⟨(hs x (hws x q)).1, (hs x (hws x q)).2.1⟩) (g := mkF K.2.2.2.1 pc ls st) rfl (hsz.trans hc.2.1.symm) (Steps.refl _) i4 (fun q z => by rw [z] at i6; cases i6) hlen hst (by show 2 * 0 + _ ≤ _; omega) (hb hc.1 hd) (fun _ _ => ⟨rfl, e, hc', hl'⟩)
  obtain ⟨X2, hS2, hZ2, hown2⟩ := rebS (Z := Z) (own := own) (n1 := h.size) hS hk X' hS' (by rw [← e]; exact hgr) hZ hown
  obtain ⟨a1, a2, a3, a4⟩ := wAfter (s := K.2.2.1) hC hs hL hO hw hz hws q2 q3 q4 q8
  rw [q5, q6, q7] at X2
  obtain ⟨o, U, r, q⟩ := k v so B.U B.U.heap ⟨B.U.vm, _, _, X2, rfl, hx, hc, e0, hZ2, hown2, hS2, Nat.le_refl _, a3, a1, a4, hE, hw, hz, a2⟩ q4 (fun x z => ⟨(q2 x z).2.1, (q2 x z).2.2⟩) q1
  exact ⟨o, U, f.trans r, q⟩
/-- invokespecial of the superclass's method -/
theorem wSuper (W : Wk l Z EL own nm cd ml ret R ws h0 K sf T h cells slots) {C D : String} {x y z : MethodName} {index : Nat} (hd : decode cd pc = .ok (.invokespecial index, 3)) (w1 : (Cond.methodLink own index y).before a0 Z = true) (w2 : (Cond.instanceMethod y).before a0 Z = true) (w3 : (Cond.selects D x z).before a0 Z = true) (hzc : z.cls = y.cls) (w4 : (Cond.superclass own y.cls).before a0 Z = true) (hn : y.name ≠ "<init>") {bytes : ByteArray} {maxL : Nat} {rt : Option FieldType} (wc : (Cond.code y bytes maxL rt).before a0 Z = true) (hy : y.cls ≠ "java/lang/invoke/MethodHandle" ∧ y.cls ≠ "java/lang/invoke/VarHandle")
    {Wd kc ks : Nat} {a : Addr} {argsL rest : List Value} {wsc : List Addr} {Q : Option Value → Heap → List Addr → Prop} (Cc : Cb l Z EL R K y 3 Wd kc ks (.ref a :: argsL).toArray h wsc Q) (E : Exa Z h a C) (hws : ∀ x ∈ wsc, x ∈ sf) (hsz : ls.size = ml) (hlen : ∀ sig, parseMethodDescriptor y.desc = some sig → argsL.length = sig.parameters.length) (hst : st = argsL.reverse ++ .ref a :: rest) (hW : (rest.map fun v => v.category).sum ≤ Wd) (hc' : cells + kc ≤ R.cells) (hl' : slots + ks ≤ R.slots) (hp : pc + 3 = pc')
    (k : ∀ v so T' h', Wk l Z EL own nm cd ml ret R ws h0 K (so ++ sf) T' h' (cells + kc) (slots + ks) → Keep h h' wsc → (∀ x ∈ so, h.size ≤ x ∧ x < h'.size) → Q v h' so → Go K P T' pc' ls (v.toList ++ rest)) : Go K P T pc ls st := by
  have w5 := sameSelf hy w2 w3 hzc
  obtain ⟨vm0, locs, k0, X, e, hx, hc, e0, hZ, hown, hS, hk, hL, hC, hO, hE, hw, hz, hs⟩ := W
  subst hp
  obtain ⟨v, vm₁, B, -, X', hS', hgr, ⟨L, so, q1, q2, q3, q4, q5, q6, q7, q8⟩, f⟩ := superBackS X hx hZ (y := y) hown w1 w5 w2 w4 hn (Cc vm0 hZ hC.1 fun x q => ⟨(hs x (hws x q)).1, (hs x (hws x q)).2.1⟩) e (Ins.self E) (g := mkF K.2.2.2.1 pc ls st) rfl (hsz.trans hc.2.1.symm) wc hlen hst (by show 2 * 0 + _ ≤ _; omega) (hb hc.1 hd) (fun _ _ => ⟨rfl, e, hc', hl'⟩)
  obtain ⟨X2, hS2, hZ2, hown2⟩ := rebS (Z := Z) (own := own) (n1 := h.size) hS hk X' hS' (by rw [← e]; exact hgr) hZ hown
  obtain ⟨a1, a2, a3, a4⟩ := wAfter (s := K.2.2.1) hC hs hL hO hw hz hws q2 q3 q4 q8
  rw [q5, q6, q7] at X2
  obtain ⟨o, U, r, q⟩ := k v so B.U B.U.heap ⟨B.U.vm, _, _, X2, rfl, hx, hc, e0, hZ2, hown2, hS2, Nat.le_refl _, a3, a1, a4, hE, hw, hz, a2⟩ q4 (fun x z => ⟨(q2 x z).2.1, (q2 x z).2.2⟩) q1
  exact ⟨o, U, f.trans r, q⟩
/-- newarray, and the array's class -/
theorem wNewE (W : Wk l Z EL own nm cd ml ret R ws h0 K sf T h cells slots) {aty : ArrayType} (hd : decode cd pc = .ok (.newarray aty, 2)) (w : (Cond.arrayClass (newarray.typeOf aty)).before a0 Z = true) {n : Int32} (hn : ¬ n < 0) {cap : Nat} (hcap : n.toNatClampNeg ≤ cap) (hbig : cap * 8 ≤ 536870912) (hc' : cells + 1 ≤ R.cells) (hl : slots + cap ≤ R.slots) {ad : String} (had : "[" ++ (newarray.typeOf aty).toString = ad) (hp : pc + 2 = pc')
    (k : ∀ T' h' a cA, Wk l Z EL own nm cd ml ret R ws h0 K (a :: sf) T' h' (cells + 1) (slots + cap) → Ext h h' → a = h.size → (∀ m : Nat, Arv Z h' a cA (newarray.typeOf aty) n (List.replicate m (defaultValue (newarray.typeOf aty))) (defaultValue (newarray.typeOf aty))) → Exa Z h' a ad → Go K P T' pc' ls (.ref a :: st)) : Go K P T pc ls (.int n :: st) := by
  have hg := W.grow
  obtain ⟨vm0, locs, k0, X, e, hx, hc, e0, hZ, hown, hS, hk, hL, hC, hO, hE, hw, hz, hs⟩ := W
  subst hp
  obtain ⟨T', h', cA, X', e', E, A, A2, f⟩ := newPE X hx hZ w e (g := mkF K.2.2.2.1 pc ls (.int n :: st)) rfl (hb hc.1 hd) rfl hn hcap hbig hc' hl had
  obtain ⟨hC', hs'⟩ := wExt (s := K.2.2.1) hC hs E
  have F := Arv.new A hn
  refine Go.stp f (k T' h' h.size cA ⟨vm0, locs, k0, X', e', hx, hc, e0, hZ, hown, hS, Nat.le_trans hk E.1, hL, hC', hO.ext E, hE, hw, hz, fun x q => ?_⟩ E rfl (fun m => F.pad (pad_rep [] _ m)) A2)
  rcases List.mem_cons.mp q with rfl | q
  · exact ⟨Safe.ext E hC.1 (Safe.new (Nat.le_refl _)), A.lt, Or.inr hg⟩
  · exact hs' x q
end Own3
end Jvm.Own
namespace Jvm.Pilot.@@N@@
open Jvm Jvm.ClassFile Sem Op Lib Jvm.Free Jvm.Stand Jvm.LawKit Jvm.RoadKit Bundle Jvm.Own Jvm.Pilot.@@N@@.Jvm.D
theorem owS {a0 : Array Value} {Z : State} (hw : ∀ d ∈ tables_1, d.before a0 Z = true) : ∀ a ∈ Bundle.stringAtoms, a.before a0 Z = true := fun d hd => hw d ((by decide +kernel : ∀ d ∈ Bundle.stringAtoms, d ∈ tables_1) d hd)
theorem hws' {a0 : Array Value} {Z : State} (hw : ∀ d ∈ tables_1, d.before a0 Z = true) : (Jvm.Cond.instantiable "java/lang/String" 4).before a0 Z = true := owS hw _ (by simp [Bundle.stringAtoms, Bundle.sN])
theorem ofNat_toInt {i : Nat} (h : i < 2 ^ 31) : (Int32.ofNat i).toInt = i := Int32.toInt_ofNat_small h
theorem ofNat_nn {i : Nat} (h : i < 2 ^ 31) : ¬ Int32.ofNat i < 0 := by
  rw [lt_i, ofNat_toInt h]; have : (0 : Int32).toInt = 0 := by decide
  omega
theorem ofNat_lt {i j : Nat} (hi : i < 2 ^ 31) (hj : j < 2 ^ 31) : Int32.ofNat i < Int32.ofNat j ↔ i < j := by rw [lt_i, ofNat_toInt hi, ofNat_toInt hj]; omega
theorem lt_big {n : Nat} (h : n ≤ 4000) : Int32.ofNat n < 1073741823 := by
  rw [lt_i, ofNat_toInt (by omega)]
  have q : (1073741823 : Int32).toInt = 1073741823 := by decide
  omega
theorem ofNat_ne0 {n : Nat} (h0 : 0 < n) (h : n ≤ 4000) : ¬ Int32.ofNat n = 0 := fun e => by
  have q := congrArg Int32.toInt e
  rw [ofNat_toInt (by omega)] at q
  have z : (0 : Int32).toInt = 0 := by decide
  omega
theorem ofNat_clamp {i : Nat} (h : i < 2 ^ 31) : (Int32.ofNat i).toNatClampNeg = i := by rw [Int32.toNatClampNeg, ofNat_toInt h]; omega
theorem ofNat_succ {i : Nat} (h : i + 1 < 2 ^ 31) : Int32.ofNat i + Int32.ofInt 1 = Int32.ofNat (i + 1) := by
  apply Int32.toInt_inj.mp
  have q := c_iadd (Int32.ofNat i) (Int32.ofInt 1)
  have r := rng32 (Int32.ofNat i + Int32.ofInt 1)
  have e : (Int32.ofInt 1).toInt = 1 := by decide
  rw [ofNat_toInt (by omega), e] at q
  rw [ofNat_toInt h]; omega
theorem ofNat_inb {i n : Nat} (h : i < n) (hn : n < 2 ^ 31) : ¬ Int32.ofNat i < 0 ∧ Int32.ofNat i < Int32.ofNat n := ⟨ofNat_nn (by omega), (ofNat_lt (by omega) hn).mpr h⟩
theorem shl1 {i : Nat} (h : 2 * i < 2 ^ 31) : Int32.ofNat i <<< ((1 : Int32) &&& 31) = Int32.ofNat (2 * i) := by
  apply Int32.toInt_inj.mp
  have q := c_ishl (Int32.ofNat i) 1 1 (by decide)
  have r := rng32 (Int32.ofNat i <<< ((1 : Int32) &&& 31))
  rw [ofNat_toInt (by omega)] at q
  rw [ofNat_toInt h]; omega
theorem coder1 {n : Nat} (h0 : 0 < n) (hn : n ≤ 4000) {d q : Int32} (e : Int32.ofNat n - Int32.ofNat (2 * n) = d) (e2 : (d.toUInt32 >>> ((31 : Int32) &&& 31).toUInt32).toInt32 = q) : q.toInt8.toInt32 = 1 := by
  subst e
  have s := c_isub (Int32.ofNat n) (Int32.ofNat (2 * n))
  have r := rng32 (Int32.ofNat n - Int32.ofNat (2 * n))
  rw [ofNat_toInt (by omega), ofNat_toInt (by omega)] at s
  have u := c_iushr (Int32.ofNat n - Int32.ofNat (2 * n)) 31 31 (by decide) (by decide)
  rw [e2] at u
  have hq : q.toInt = 1 := by rw [u]; simp only [Nat.reducePow]; omega
  have : q = 1 := i32_of 1 (by decide) hq
  rw [this]; decide
theorem set_get {vs : List Value} {i j : Nat} {v d : Value} : (vs.set i v).getD j d = if i = j ∧ i < vs.length then v else vs.getD j d := by
  simp only [List.getD_eq_getElem?_getD, List.getElem?_set]
  by_cases h : i = j
  · subst h; by_cases h2 : i < vs.length <;> simp [h2]
  · simp [h]
theorem map_getD (cs : List Int32) (i : Nat) (h : i < cs.length) (d : Value) : (cs.map Value.int).getD i d = .int (cs.getD i 0) := by
  simp [List.getD_eq_getElem?_getD, h]
theorem rep_get {n : Nat} (j : Nat) : (List.replicate n (Value.int 0)).getD j (.int 0) = .int 0 := by
  by_cases h : j < n <;> simp [List.getD_eq_getElem?_getD, h]
/-- a char -/

def ones : List Value := (List.range 100).map fun j => .int (Int32.ofNat (48 + j % 10))
def tens : List Value := (List.range 100).map fun j => .int (Int32.ofNat (48 + j / 10))
theorem ones_at {j : Nat} (h : j < 100) : ones.getD j (.int 0) = .int (Int32.ofNat (48 + j % 10)) := by simp [ones, List.getD_eq_getElem?_getD, h]
theorem tens_at {j : Nat} (h : j < 100) : tens.getD j (.int 0) = .int (Int32.ofNat (48 + j / 10)) := by simp [tens, List.getD_eq_getElem?_getD, h]
theorem ofNat_pred {n m : Nat} (h : m + 1 = n) (hn : n < 2 ^ 31) : Int32.ofNat n + Int32.ofInt (-1) = Int32.ofNat m := by
  subst h
  apply Int32.toInt_inj.mp
  rw [Int32.toInt_add, ofNat_toInt hn, ofNat_toInt (by omega)]
  have e : (Int32.ofInt (-1)).toInt = -1 := by decide
  rw [e, Int.bmod_def]; simp only [Nat.reducePow]; split <;> omega
theorem byte_id {k : Nat} (h : k ≤ 127) : (Int32.ofNat k).toInt8.toInt32 = Int32.ofNat k := by
  apply Int32.toInt_inj.mp
  rw [Int8.toInt_toInt32, Int32.toInt_toInt8, ofNat_toInt (by omega), Int.bmod_def]; simp only [Nat.reducePow]; split <;> omega
def dg (v : Nat) : List Value := if v < 10 then [.int (Int32.ofNat (48 + v % 10))] else if v < 100 then [.int (Int32.ofNat (48 + v / 10)), .int (Int32.ofNat (48 + v % 10))] else if v < 1000 then [.int (Int32.ofNat (48 + v / 100 % 10)), .int (Int32.ofNat (48 + v % 100 / 10)), .int (Int32.ofNat (48 + v % 100 % 10))] else [.int (Int32.ofNat (48 + v / 100 / 10)), .int (Int32.ofNat (48 + v / 100 % 10)), .int (Int32.ofNat (48 + v % 100 / 10)), .int (Int32.ofNat (48 + v % 100 % 10))]
def dlen (v : Nat) : Nat := if v < 10 then 1 else if v < 100 then 2 else if v < 1000 then 3 else 4
theorem div_neg100 {v : Nat} (hv : v ≤ 9999) : -Int32.ofNat v / 100 = -Int32.ofNat (v / 100) := by
  apply Int32.toInt_inj.mp
  have h1 : (-Int32.ofNat v).toInt = -(v : Int) := by rw [Int32.toInt_neg, ofNat_toInt (by omega), Int.bmod_def]; simp only [Nat.reducePow]; split <;> omega
  have h2 : (-Int32.ofNat (v / 100)).toInt = -((v / 100 : Nat) : Int) := by rw [Int32.toInt_neg, ofNat_toInt (by omega), Int.bmod_def]; simp only [Nat.reducePow]; split <;> omega
  have h3 : (100 : Int32).toInt = 100 := by decide
  rw [Int32.toInt_div, h1, h2, h3, Int.neg_tdiv]
  have h4 : (v : Int).tdiv 100 = ((v / 100 : Nat) : Int) := by rw [Int.tdiv_eq_ediv_of_nonneg (by omega)]; omega
  rw [h4, Int.bmod_def]; simp only [Nat.reducePow]; split <;> omega
theorem rem_neg100 {v : Nat} (hv : v ≤ 9999) : -Int32.ofNat (v / 100) * 100 - -Int32.ofNat v = Int32.ofNat (v % 100) := by
  apply Int32.toInt_inj.mp
  have h1 : (-Int32.ofNat v).toInt = -(v : Int) := by rw [Int32.toInt_neg, ofNat_toInt (by omega), Int.bmod_def]; simp only [Nat.reducePow]; split <;> omega
  have h2 : (-Int32.ofNat (v / 100)).toInt = -((v / 100 : Nat) : Int) := by rw [Int32.toInt_neg, ofNat_toInt (by omega), Int.bmod_def]; simp only [Nat.reducePow]; split <;> omega
  have h3 : (100 : Int32).toInt = 100 := by decide
  have h5 : (-Int32.ofNat (v / 100) * 100).toInt = -((v / 100 : Nat) : Int) * 100 := by rw [Int32.toInt_mul, h2, h3, Int.bmod_def]; simp only [Nat.reducePow]; split <;> omega
  rw [Int32.toInt_sub, h5, h1, ofNat_toInt (by omega), Int.bmod_def]; simp only [Nat.reducePow]; split <;> omega
theorem dlen_or (v : Nat) : (v < 10 ∧ dlen v = 1) ∨ (10 ≤ v ∧ v < 100 ∧ dlen v = 2) ∨ (100 ≤ v ∧ v < 1000 ∧ dlen v = 3) ∨ (1000 ≤ v ∧ dlen v = 4) := by
  unfold dlen; split
  · exact Or.inl ⟨by omega, rfl⟩
  · split
    · exact Or.inr (Or.inl ⟨by omega, by omega, rfl⟩)
    · split
      · exact Or.inr (Or.inr (Or.inl ⟨by omega, by omega, rfl⟩))
      · exact Or.inr (Or.inr (Or.inr ⟨by omega, rfl⟩))
theorem setFirst {vs : List Value} {i : Nat} {a : Value} (h : i < vs.length) : vs.set i a = vs.take i ++ (a :: vs.drop (i + 1)) := by
  rw [List.set_eq_take_append_cons_drop, if_pos h]
theorem setNext {vs X : List Value} {i : Nat} {a : Value} (h : i < vs.length) : (vs.take (i + 1) ++ X).set i a = vs.take i ++ (a :: X) := by
  rw [setFirst (by rw [List.length_append, List.length_take]; omega)]
  rw [List.take_append_of_le_length (by rw [List.length_take]; omega), List.take_take, List.drop_append_of_le_length (by rw [List.length_take]; omega)]
  simp
theorem dig1 {vs : List Value} {v e : Nat} (hv : v < 10) (he : 1 ≤ e) (hl : e ≤ vs.length) : (vs.set (e - 1) (.int (Int32.ofNat (48 + (v % 10))))) = vs.take (e - dlen v) ++ dg v ++ vs.drop e := by
  obtain ⟨i, rfl⟩ : ∃ i, e = i + 1 := ⟨e - 1, by omega⟩
  have e1 : dlen v = 1 := by have q := dlen_or v; omega
  have e2 : dg v = [.int (Int32.ofNat (48 + (v % 10)))] := by simp [dg, hv]
  rw [e1, e2]
  rw [show i + 1 - 1 = i from by omega]
  rw [setFirst (by omega)]
  simp
theorem dig2 {vs : List Value} {v e : Nat} (hv : 10 ≤ v ∧ v < 100) (he : 2 ≤ e) (hl : e ≤ vs.length) : ((vs.set (e - 1) (.int (Int32.ofNat (48 + (v % 10))))).set (e - 2) (.int (Int32.ofNat (48 + (v / 10))))) = vs.take (e - dlen v) ++ dg v ++ vs.drop e := by
  obtain ⟨i, rfl⟩ : ∃ i, e = i + 2 := ⟨e - 2, by omega⟩
  have e1 : dlen v = 2 := by have q := dlen_or v; omega
  have e2 : dg v = [.int (Int32.ofNat (48 + (v / 10))), .int (Int32.ofNat (48 + (v % 10)))] := by simp [dg, show ¬ v < 10 from by omega, hv.2]
  rw [e1, e2]
  rw [show i + 2 - 1 = i + 1 from by omega]
  rw [show i + 2 - 2 = i from by omega]
  rw [setFirst (i := i + 1) (by omega)]
  rw [setNext (i := i) (by omega)]
  simp
theorem dig3 {vs : List Value} {v e : Nat} (hv : 100 ≤ v ∧ v < 1000) (he : 3 ≤ e) (hl : e ≤ vs.length) : (((vs.set (e - 1) (.int (Int32.ofNat (48 + (v % 100 % 10))))).set (e - 2) (.int (Int32.ofNat (48 + (v % 100 / 10))))).set (e - 3) (.int (Int32.ofNat (48 + (v / 100 % 10))))) = vs.take (e - dlen v) ++ dg v ++ vs.drop e := by
  obtain ⟨i, rfl⟩ : ∃ i, e = i + 3 := ⟨e - 3, by omega⟩
  have e1 : dlen v = 3 := by have q := dlen_or v; omega
  have e2 : dg v = [.int (Int32.ofNat (48 + (v / 100 % 10))), .int (Int32.ofNat (48 + (v % 100 / 10))), .int (Int32.ofNat (48 + (v % 100 % 10)))] := by simp [dg, show ¬ v < 10 from by omega, show ¬ v < 100 from by omega, hv.2]
  rw [e1, e2]
  rw [show i + 3 - 1 = i + 2 from by omega]
  rw [show i + 3 - 2 = i + 1 from by omega]
  rw [show i + 3 - 3 = i from by omega]
  rw [setFirst (i := i + 2) (by omega)]
  rw [setNext (i := i + 1) (by omega)]
  rw [setNext (i := i) (by omega)]
  simp
theorem dig4 {vs : List Value} {v e : Nat} (hv : 1000 ≤ v) (he : 4 ≤ e) (hl : e ≤ vs.length) : ((((vs.set (e - 1) (.int (Int32.ofNat (48 + (v % 100 % 10))))).set (e - 2) (.int (Int32.ofNat (48 + (v % 100 / 10))))).set (e - 3) (.int (Int32.ofNat (48 + (v / 100 % 10))))).set (e - 4) (.int (Int32.ofNat (48 + (v / 100 / 10))))) = vs.take (e - dlen v) ++ dg v ++ vs.drop e := by
  obtain ⟨i, rfl⟩ : ∃ i, e = i + 4 := ⟨e - 4, by omega⟩
  have e1 : dlen v = 4 := by have q := dlen_or v; omega
  have e2 : dg v = [.int (Int32.ofNat (48 + (v / 100 / 10))), .int (Int32.ofNat (48 + (v / 100 % 10))), .int (Int32.ofNat (48 + (v % 100 / 10))), .int (Int32.ofNat (48 + (v % 100 % 10)))] := by simp [dg, show ¬ v < 10 from by omega, show ¬ v < 100 from by omega, show ¬ v < 1000 from by omega]
  rw [e1, e2]
  rw [show i + 4 - 1 = i + 3 from by omega]
  rw [show i + 4 - 2 = i + 2 from by omega]
  rw [show i + 4 - 3 = i + 1 from by omega]
  rw [show i + 4 - 4 = i from by omega]
  rw [setFirst (i := i + 3) (by omega)]
  rw [setNext (i := i + 2) (by omega)]
  rw [setNext (i := i + 1) (by omega)]
  rw [setNext (i := i) (by omega)]
  simp
theorem dlen_pos (v : Nat) : 0 < dlen v := by unfold dlen; split; omega; split; omega; split <;> omega
theorem lt_neg {c : Int32} {P v : Nat} (hc : c.toInt = -(P : Int)) (hv : v ≤ 99999) : -Int32.ofNat v < c ↔ P < v := by
  rw [lt_i, hc, Int32.toInt_neg, ofNat_toInt (by omega)]
  have e : (-(v : Int)).bmod (2 ^ 32) = -(v : Int) := by rw [Int.bmod_def]; simp only [Nat.reducePow]; split <;> omega
  rw [e]; omega
theorem neg_lt {c : Int32} {P v : Nat} (hc : c.toInt = -(P : Int)) (hv : v ≤ 99999) : c < -Int32.ofNat v ↔ v < P := by
  rw [lt_i, hc, Int32.toInt_neg, ofNat_toInt (by omega)]
  have e : (-(v : Int)).bmod (2 ^ 32) = -(v : Int) := by rw [Int.bmod_def]; simp only [Nat.reducePow]; split <;> omega
  rw [e]; omega

theorem shr0' (x : Int32) : x >>> ((0 : Int32) &&& 31) = x := by simp
theorem shl0' (x : Int32) : x <<< ((0 : Int32) &&& 31) = x := by simp
theorem ofNat_add {a b : Nat} : Int32.ofNat a + Int32.ofNat b = Int32.ofNat (a + b) := by rw [Int32.ofNat_add]
theorem range_self {us : List Value} {n : Nat} (hn : us.length = n) (d : Value) : us = (List.range n).map fun i => us.getD (0 + i) d := by
  subst hn
  apply List.ext_getElem
  · simp
  · intro i h1 h2
    simp [List.getD_eq_getElem?_getD, h1]
theorem ofNat_room {m M : Nat} (h : m ≤ M) (hM : M ≤ 4000) : ¬ (0 : Int32) < Int32.ofNat m - Int32.ofNat M := by
  rw [lt_i, Int32.toInt_sub, ofNat_toInt (by omega), ofNat_toInt (by omega)]
  have : (0 : Int32).toInt = 0 := by decide
  rw [this, Int.bmod_def]; simp only [Nat.reducePow]; split <;> omega
theorem range_take {us : List Value} {n : Nat} (hn : n ≤ us.length) (d : Value) : us.take n = (List.range n).map fun i => us.getD (0 + i) d := by
  apply List.ext_getElem
  · simp only [List.length_take, List.length_map, List.length_range]; omega
  · intro i h1 h2
    have h3 : i < us.length := by rw [List.length_take] at h1; omega
    simp [List.getD_eq_getElem?_getD, h3]
theorem ofNat_inj {a b : Nat} (ha : a < 2 ^ 31) (hb : b < 2 ^ 31) (h : Int32.ofNat a = Int32.ofNat b) : a = b := by
  have q := congrArg Int32.toInt h
  rw [ofNat_toInt ha, ofNat_toInt hb] at q
  omega
theorem ofNat_ltc {i P : Nat} {c : Int32} (hc : c.toInt = P) (hi : i < 2 ^ 31) : Int32.ofNat i < c ↔ i < P := by rw [lt_i, hc, ofNat_toInt hi]; omega
theorem ltc_ofNat {i P : Nat} {c : Int32} (hc : c.toInt = P) (hi : i < 2 ^ 31) : c < Int32.ofNat i ↔ P < i := by rw [lt_i, hc, ofNat_toInt hi]; omega
theorem ofNat_ne {n : Nat} (h0 : 0 < n) (h : n < 2 ^ 31) : ¬ Int32.ofNat n = 0 := fun e => by
  have q := congrArg Int32.toInt e
  rw [ofNat_toInt h] at q
  have z : (0 : Int32).toInt = 0 := by decide
  omega
theorem ofNat_sub1 {n : Nat} (h0 : 0 < n) (h : n < 2 ^ 31) : Int32.ofNat n - 1 = Int32.ofNat (n - 1) := by
  apply Int32.toInt_inj.mp
  rw [Int32.toInt_sub, ofNat_toInt h, ofNat_toInt (by omega), show (1 : Int32).toInt = 1 from by decide, Int.bmod_def]; simp only [Nat.reducePow]; split <;> omega
theorem natOf {r : Int32} {d : Nat} (h : 0 ≤ r.toInt ∧ r.toInt < d) : ∃ n : Nat, n < d ∧ r = Int32.ofNat n := by
  have q := rng32 r
  refine ⟨r.toInt.toNat, by omega, ?_⟩
  apply Int32.toInt_inj.mp
  rw [ofNat_toInt (by omega)]; omega
theorem div_n {n P : Nat} {c : Int32} (hc : c.toInt = P) (hc1 : c ≠ -1) (hn : n < 2 ^ 31) : Int32.ofNat n / c = Int32.ofNat (n / P) := by
  apply Int32.toInt_inj.mp
  rw [(c_idiv (Int32.ofNat n) c P hc hc1).1 (by rw [ofNat_toInt hn]; omega), ofNat_toInt hn, ofNat_toInt (Nat.lt_of_le_of_lt (Nat.div_le_self _ _) hn)]; rfl
theorem rem_n {n P : Nat} {c : Int32} (hc : c.toInt = P) (hn : n < 2 ^ 31) : Int32.ofNat n % c = Int32.ofNat (n % P) := by
  apply Int32.toInt_inj.mp
  rw [(c_irem (Int32.ofNat n) c P hc).1 (by rw [ofNat_toInt hn]; omega), ofNat_toInt hn, ofNat_toInt (Nat.lt_of_le_of_lt (Nat.mod_le _ _) hn)]; rfl
theorem ushr16 {n : Nat} (hn : n < 2 ^ 31) : ((Int32.ofNat n).toUInt32 >>> ((16 : Int32) &&& 31).toUInt32).toInt32 = Int32.ofNat (n / 65536) := by
  apply Int32.toInt_inj.mp
  rw [c_iushr (Int32.ofNat n) 16 16 (by decide) (by decide), ofNat_toInt hn, ofNat_toInt (by omega)]
  simp only [Nat.reducePow]; omega
theorem ushr8 {n : Nat} (hn : n < 2 ^ 31) : ((Int32.ofNat n).toUInt32 >>> ((8 : Int32) &&& 31).toUInt32).toInt32 = Int32.ofNat (n / 256) := by
  apply Int32.toInt_inj.mp
  rw [c_iushr (Int32.ofNat n) 8 8 (by decide) (by decide), ofNat_toInt hn, ofNat_toInt (by omega)]
  simp only [Nat.reducePow]; omega
theorem mask8 {n : Nat} (hn : n < 2 ^ 31) : Int32.ofNat n &&& 255 = Int32.ofNat (n % 256) := by
  apply Int32.toInt_inj.mp
  rw [c_mask (Int32.ofNat n) 255 8 (by decide) (by decide), ofNat_toInt hn, ofNat_toInt (by omega)]; simp only [Nat.reducePow]; omega
theorem b8_of {c : Nat} (h : c ≤ 127) : B8 (Int32.ofNat c) := B8.of (by rw [ofNat_toInt (by omega)]; omega)
def bf (c : Nat) (P : List Value) : List Value := P ++ List.replicate (c - P.length) (Value.int 0)
theorem bf_len {c : Nat} {P : List Value} (h : P.length ≤ c) : (bf c P).length = c := by rw [bf, List.length_append, List.length_replicate]; omega
theorem bf_take {c n : Nat} {P : List Value} (hn : P.length = n) : (bf c P).take n = P := by subst hn; rw [bf]; exact List.take_left
theorem bf_put {c i n : Nat} {P us : List Value} (hi : P.length = i) (hn : us.length = n) : (bf c P).take i ++ us ++ (bf c P).drop (i + n) = bf c (P ++ us) := by
  subst hi hn
  have h1 : (bf c P).take P.length = P := bf_take rfl
  have h2 : (bf c P).drop (P.length + us.length) = List.replicate (c - P.length - us.length) (Value.int 0) := by
    rw [bf, List.drop_length_add_append, List.drop_replicate]
  rw [h1, h2, bf, List.length_append, Nat.sub_sub]
theorem bf_set {c i : Nat} {P : List Value} {x : Value} (hi : P.length = i) (hc : i < c) : (bf c P).set i x = bf c (P ++ [x]) := by
  rw [setFirst (by rw [bf_len (by omega)]; exact hc), ← bf_put (c := c) (us := [x]) (n := 1) hi rfl]; simp
theorem dg_len (v : Nat) : (dg v).length = dlen v := by
  unfold dg dlen; split
  · rfl
  · split
    · rfl
    · split <;> rfl
theorem dle {v : Nat} (h : v ≤ 999) : dlen v ≤ 3 := by have q := dlen_or v; omega
/-- a char from 0 to 127 -/
def Ch (x : Value) : Prop := ∃ c : Nat, c ≤ 127 ∧ x = .int (Int32.ofNat c)
theorem ch_app {a b : List Value} (h1 : ∀ x ∈ a, Ch x) (h2 : ∀ x ∈ b, Ch x) : ∀ x ∈ a ++ b, Ch x := fun x hx => (List.mem_append.mp hx).elim (h1 x) (h2 x)
theorem dg_ch {v : Nat} (hv : v ≤ 9999) : ∀ x ∈ dg v, Ch x := by
  intro x hx
  unfold dg at hx
  split at hx
  · exact ⟨_, by omega, List.mem_singleton.mp hx⟩
  · split at hx
    · simp only [List.mem_cons, List.not_mem_nil, or_false] at hx
      rcases hx with q | q <;> exact ⟨_, by omega, q⟩
    · split at hx
      · simp only [List.mem_cons, List.not_mem_nil, or_false] at hx
        rcases hx with q | q | q <;> exact ⟨_, by omega, q⟩
      · simp only [List.mem_cons, List.not_mem_nil, or_false] at hx
        rcases hx with q | q | q | q <;> exact ⟨_, by omega, q⟩
theorem atc {n k : Nat} {us cs : List Value} (hn : us.length = n) (hcs : cs.take n = us) (hus : ∀ x ∈ us, Ch x) (hk : k < n) : ∃ c : Nat, c ≤ 127 ∧ us.getD k (.int 0) = .int (Int32.ofNat c) ∧ cs.getD k (.int 0) = .int (Int32.ofNat c) := by
  have hk' : k < us.length := by omega
  obtain ⟨c, h1, h2⟩ := hus us[k] (List.getElem_mem hk')
  have e1 : us.getD k (.int 0) = .int (Int32.ofNat c) := by rw [List.getD_eq_getElem?_getD, List.getElem?_eq_getElem hk', Option.getD_some, h2]
  refine ⟨c, h1, e1, ?_⟩
  rw [← e1, ← hcs]
  simp [List.getD_eq_getElem?_getD, List.getElem?_take, hk]
theorem set3 {cs : List Value} {p : Nat} {x y z : Value} (h : p + 3 ≤ cs.length) : ((cs.set p x).set (p + 1) y).set (p + 2) z = cs.take p ++ [x, y, z] ++ cs.drop (p + 3) := by
  rw [List.set_comm x y (show p ≠ p + 1 from by omega), List.set_comm x z (show p ≠ p + 2 from by omega), List.set_comm y z (show p + 1 ≠ p + 2 from by omega), setFirst (i := p + 2) (by omega), setNext (i := p + 1) (by omega), setNext (i := p) (by omega)]; simp
theorem set2 {cs : List Value} {p : Nat} {x y : Value} (h : p + 2 ≤ cs.length) : (cs.set p x).set (p + 1) y = cs.take p ++ [x, y] ++ cs.drop (p + 2) := by
  rw [List.set_comm x y (show p ≠ p + 1 from by omega), setFirst (i := p + 1) (by omega), setNext (i := p) (by omega)]; simp
theorem set1 {cs : List Value} {p : Nat} {x : Value} (h : p + 1 ≤ cs.length) : cs.set p x = cs.take p ++ [x] ++ cs.drop (p + 1) := by
  rw [setFirst (by omega)]; simp
theorem put1 {cs : List Value} {p v : Nat} (hv : v < 10) (h : p + 1 ≤ cs.length) : cs.set p (.int (Int32.ofNat (48 + v))) = cs.take p ++ dg v ++ cs.drop (p + dlen v) := by
  have e1 : dlen v = 1 := by have q := dlen_or v; omega
  have e2 : dg v = [.int (Int32.ofNat (48 + v))] := by unfold dg; rw [if_pos hv, Nat.mod_eq_of_lt hv]
  rw [e1, e2, set1 h]
theorem put2 {cs : List Value} {p v : Nat} (hv : 10 ≤ v ∧ v < 100) (h : p + 2 ≤ cs.length) : (cs.set p (.int (Int32.ofNat (48 + v / 10)))).set (p + 1) (.int (Int32.ofNat (48 + v % 10))) = cs.take p ++ dg v ++ cs.drop (p + dlen v) := by
  have e1 : dlen v = 2 := by have q := dlen_or v; omega
  have e2 : dg v = [.int (Int32.ofNat (48 + v / 10)), .int (Int32.ofNat (48 + v % 10))] := by unfold dg; rw [if_neg (by omega), if_pos hv.2]
  rw [e1, e2, set2 h]
theorem put3 {cs : List Value} {p v : Nat} (hv : 100 ≤ v ∧ v < 1000) (h : p + 3 ≤ cs.length) : ((cs.set p (.int (Int32.ofNat (48 + v / 100)))).set (p + 1) (.int (Int32.ofNat (48 + v / 10 % 10)))).set (p + 2) (.int (Int32.ofNat (48 + v % 10))) = cs.take p ++ dg v ++ cs.drop (p + dlen v) := by
  have e1 : dlen v = 3 := by have q := dlen_or v; omega
  have a1 : v / 100 % 10 = v / 100 := by omega
  have a2 : v % 100 / 10 = v / 10 % 10 := by omega
  have a3 : v % 100 % 10 = v % 10 := by omega
  have e2 : dg v = [.int (Int32.ofNat (48 + v / 100)), .int (Int32.ofNat (48 + v / 10 % 10)), .int (Int32.ofNat (48 + v % 10))] := by unfold dg; rw [if_neg (by omega), if_neg (by omega), if_pos hv.2, a1, a2, a3]
  rw [e1, e2, set3 h]
theorem grown {P : List Value} {m : Nat} (hP : P.length = m - 4) (hm : 4 ≤ m ∧ m ≤ 20) : ((bf 16 P ++ List.replicate 18 (Value.int 0)).take (m - dlen 8080) ++ dg 8080 ++ (bf 16 P ++ List.replicate 18 (Value.int 0)).drop m).take m = P ++ dg 8080 := by
  have e : dlen 8080 = 4 := rfl
  have e2 : (dg 8080).length = 4 := rfl
  have h1 : (bf 16 P ++ List.replicate 18 (Value.int 0)).take (m - dlen 8080) = P := by
    rw [e, List.take_append_of_le_length (by rw [bf_len (by omega)]; omega)]; exact bf_take hP
  rw [h1, List.take_append_of_le_length (by rw [List.length_append, hP, e2]; omega)]
  exact List.take_of_length_le (by rw [List.length_append, hP, e2]; omega)
theorem grown_len {P : List Value} {m : Nat} (hP : P.length ≤ 16) (hm : 4 ≤ m ∧ m ≤ 20) : ((bf 16 P ++ List.replicate 18 (Value.int 0)).take (m - dlen 8080) ++ dg 8080 ++ (bf 16 P ++ List.replicate 18 (Value.int 0)).drop m).length = 34 := by
  have e : dlen 8080 = 4 := rfl
  have e2 : (dg 8080).length = 4 := rfl
  rw [List.length_append, List.length_append, List.length_take, List.length_drop, List.length_append, bf_len hP, List.length_replicate, e, e2]; omega

def p1 : List Value := [.int 49, .int 48, .int 46]
def p2 (H : Nat) : List Value := p1 ++ dg H
def p3 (H : Nat) : List Value := p2 H ++ [Value.int 46]
def p4 (H M : Nat) : List Value := p3 H ++ dg M
def p5 (H M : Nat) : List Value := p4 H M ++ [Value.int 46]
def p6 (H M L : Nat) : List Value := p5 H M ++ dg L
def p7 (H M L : Nat) : List Value := p6 H M L ++ [Value.int 58]
def p8 (H M L : Nat) : List Value := p7 H M L ++ dg 8080
theorem p2_len {H : Nat} : (p2 H).length = 3 + dlen H := by rw [p2, List.length_append, dg_len]; rfl
theorem p3_len {H : Nat} : (p3 H).length = 4 + dlen H := by rw [p3, List.length_append, p2_len, List.length_singleton]; omega
theorem p4_len {H M : Nat} : (p4 H M).length = 4 + dlen H + dlen M := by rw [p4, List.length_append, p3_len, dg_len]
theorem p5_len {H M : Nat} : (p5 H M).length = 5 + dlen H + dlen M := by rw [p5, List.length_append, p4_len, List.length_singleton]; omega
theorem p6_len {H M L : Nat} : (p6 H M L).length = 5 + dlen H + dlen M + dlen L := by rw [p6, List.length_append, p5_len, dg_len]
theorem p7_len {H M L : Nat} : (p7 H M L).length = 6 + dlen H + dlen M + dlen L := by rw [p7, List.length_append, p6_len, List.length_singleton]; omega
theorem p8_len {H M L : Nat} : (p8 H M L).length = 10 + dlen H + dlen M + dlen L := by rw [p8, List.length_append, p7_len, dg_len, show dlen 8080 = 4 from rfl]; omega
def tx (N : Nat) : List Value := p8 (N / 65536) (N / 256 % 256) (N % 256)
def tl (N : Nat) : Nat := 10 + dlen (N / 65536) + dlen (N / 256 % 256) + dlen (N % 256)
theorem tx_len (N : Nat) : (tx N).length = tl N := p8_len
theorem tx_ch {N : Nat} (h : N ≤ 16777215) : ∀ x ∈ tx N, Ch x := by
  have e1 : ∀ x ∈ p1, Ch x := all1 ⟨49, by decide, rfl⟩ (all1 ⟨48, by decide, rfl⟩ (all1 ⟨46, by decide, rfl⟩ alln))
  have s46 : ∀ x ∈ [Value.int 46], Ch x := all1 ⟨46, by decide, rfl⟩ alln
  have s58 : ∀ x ∈ [Value.int 58], Ch x := all1 ⟨58, by decide, rfl⟩ alln
  have e2 : ∀ x ∈ p2 (N / 65536), Ch x := ch_app e1 (dg_ch (by omega))
  have e3 : ∀ x ∈ p3 (N / 65536), Ch x := ch_app e2 s46
  have e4 : ∀ x ∈ p4 (N / 65536) (N / 256 % 256), Ch x := ch_app e3 (dg_ch (by omega))
  have e5 : ∀ x ∈ p5 (N / 65536) (N / 256 % 256), Ch x := ch_app e4 s46
  have e6 : ∀ x ∈ p6 (N / 65536) (N / 256 % 256) (N % 256), Ch x := ch_app e5 (dg_ch (by omega))
  have e7 : ∀ x ∈ p7 (N / 65536) (N / 256 % 256) (N % 256), Ch x := ch_app e6 s58
  exact ch_app e7 (dg_ch (by decide))
theorem tail8 (P : List Value) : ((((P ++ [Value.int 56]) ++ [Value.int 48]) ++ [Value.int 56]) ++ [Value.int 48]) = P ++ dg 8080 := by
  rw [show dg 8080 = [Value.int 56, Value.int 48, Value.int 56, Value.int 48] from rfl]; simp
theorem ones_num : ∀ r, r < 100 → (48 : Int32) + Int32.ofNat r % 10 = Int32.ofNat (48 + r % 10) := by decide +kernel
theorem tens_num : ∀ r, r < 100 → (48 : Int32) + Int32.ofNat r / 10 = Int32.ofNat (48 + r / 10) := by decide +kernel
/-- a table of digits, as it stands at the start -/
theorem digTable {Z : State} {a : Array Value} {name : String} {rhs : Term} {F : Nat → Nat} (hf : Fit Z) (w1 : (Jvm.Cond.exactly (Term.static "java/lang/Integer" name "[B") "[B").before a Z = true) (w2 : (Jvm.Cond.eq (Term.length (Term.static "java/lang/Integer" name "[B")) (Term.int 100)).before a Z = true)
    (w3 : (Jvm.Cond.all (Term.static "java/lang/Integer" name "[B") (Jvm.Cond.eq (Term.elem (Term.static "java/lang/Integer" name "[B") (Term.index 0)) rhs)).before a Z = true) (w4 : (Jvm.Cond.initializedFor "java/lang/Integer" name "[B").before a Z = true) (wA : (Jvm.Cond.arrayClass .byte).before a Z = true)
    (hrhs : ∀ r, r < 100 → rhs.eval a Z none [r] Z = some (.int (Int32.ofNat (F r)))) :
    ∃ d k, Sta Z Z.heap "java/lang/Integer" name "[B" (.ref d) ∧ Arv Z Z.heap d k .byte (100 : Int32) ((List.range 100).map fun r => .int (Int32.ofNat (F r))) (.int 0) := by
  obtain ⟨d, cB, D, kB, hev, hfcB, hcellD, hkB, hstatD, hclsD, -⟩ := Cond.exactly_spec w1
  have hevAll : ∀ idx, (Term.static "java/lang/Integer" name "[B").eval a Z none idx Z = some (.ref d) := fun idx => by
    have : (Term.static "java/lang/Integer" name "[B").eval a Z none idx Z = (Term.static "java/lang/Integer" name "[B").eval a Z none [] Z := by simp only [Term.eval]
    rw [this]; exact hev
  have hl := Cond.eq_int w2 rfl
  obtain ⟨d', D', hev', harrAt, hlen⟩ := Term.length_spec hl
  cases hev.symm.trans hev'
  obtain ⟨hcellD', hknD, -, -⟩ := State.arrayAt?_spec harrAt
  cases hcellD.symm.trans hcellD'
  have h31 : D.slots.size < 2 ^ 31 := Jvm.Free.SBG.length_lt hev harrAt hl
  have hsz : D.slots.size = 100 := by
    have h2 : Int32.ofNat D.slots.size = Int32.ofNat 100 := by injection hlen with q; exact q.symm
    exact ofNat_inj h31 (by decide) h2
  obtain ⟨cB', kB', comp, hnameB, hkB', hkindB⟩ := Cond.arrayClass_spec wA
  have eBA : ("[" ++ FieldType.toString .byte) = "[B" := by decide
  rw [eBA] at hnameB
  cases hfcB.symm.trans hnameB
  cases hkB.symm.trans hkB'
  have hA : Arr Z Z.heap d D .byte := ⟨hcellD, ⟨(fun q h => by rw [h] at hstatD; cases hstatD), kB, (by rw [hclsD]; exact hkB), comp, hkindB⟩, hknD⟩
  have hsl : ∀ r, r < 100 → D.slots[r]? = some (.int (Int32.ofNat (F r))) := fun r hr => by
    have h := Cond.all_elim (hevAll []) harrAt (Cond.before_iff.mp w3) r (by omega)
    have eL : (Term.elem (Term.static "java/lang/Integer" name "[B") (.index 0)).eval a Z none [r] Z = D.slots[r]? := Jvm.Free.SBG.elem_at (ix := .index 0) (hevAll [r]) harrAt (by omega) (by omega) rfl
    rw [← eL]
    exact Cond.eq_int (by simpa [Cond.holds] using h) (hrhs r hr)
  have Hs : Has D ((List.range 100).map fun r => .int (Int32.ofNat (F r))) (.int 0) := fun k hk => by
    rw [hsl k (by omega)]; simp [List.getD_eq_getElem?_getD, show k < 100 from by omega]
  refine ⟨d, D.cls, Sta.start hev (Or.inl w4), D, hA, rfl, by rw [hsz]; decide, by decide, Hs, fun j hj => ?_⟩
  have e1 : (Nat.toInt32 j).toNatClampNeg = j := by simp only [Int32.toNatClampNeg, len_toInt (Nat.lt_trans hj h31)]; rfl
  exact elem_fits (j := Nat.toInt32 j) hf hA (idx_in hj h31) (by rw [e1]; exact Hs j hj)
theorem opn0 : plainName "java/lang/AbstractStringBuilder" = true := by first | (simp [plainName, overriddenIn]; done) | decide +kernel
theorem d13_0 : decode jdk_68_method_2_code 0 = .ok (.aload_n 0, 1) := by decide +kernel
theorem d13_1 : decode jdk_68_method_2_code 1 = .ok (.invokespecial 3, 3) := by decide +kernel
theorem ow76 {a0 : Array Value} {Z : State} (hw : ∀ d ∈ tables_1, d.before a0 Z = true) : (Jvm.Cond.methodLink "java/lang/AbstractStringBuilder" (3 : Nat) ({ cls := "java/lang/Object", name := "<init>", desc := "()V" } : Jvm.MethodName)).before a0 Z = true := hw _ (List.mem_of_getElem? (i := 76) rfl)
theorem ow25 {a0 : Array Value} {Z : State} (hw : ∀ d ∈ tables_1, d.before a0 Z = true) : (Jvm.Cond.instanceMethod ({ cls := "java/lang/Object", name := "<init>", desc := "()V" } : Jvm.MethodName)).before a0 Z = true := hw _ (List.mem_of_getElem? (i := 25) rfl)
theorem ow26 {a0 : Array Value} {Z : State} (hw : ∀ d ∈ tables_1, d.before a0 Z = true) : (Jvm.Cond.code ({ cls := "java/lang/Object", name := "<init>", desc := "()V" } : Jvm.MethodName) object_method_1_code (1 : Nat) (Option.none : Option Jvm.ClassFile.FieldType)).before a0 Z = true := hw _ (List.mem_of_getElem? (i := 26) rfl)
theorem d13_4 : decode jdk_68_method_2_code 4 = .ok (.getstatic 18, 3) := by decide +kernel
theorem ow77 {a0 : Array Value} {Z : State} (hw : ∀ d ∈ tables_1, d.before a0 Z = true) : (Jvm.Cond.fieldLink "java/lang/AbstractStringBuilder" (18 : Nat) "java/lang/String" "COMPACT_STRINGS" "Z").before a0 Z = true := hw _ (List.mem_of_getElem? (i := 77) rfl)
theorem d13_7 : decode jdk_68_method_2_code 7 = .ok (.ifCond .eq 18, 3) := by decide +kernel
theorem d13_10 : decode jdk_68_method_2_code 10 = .ok (.aload_n 0, 1) := by decide +kernel
theorem d13_11 : decode jdk_68_method_2_code 11 = .ok (.iload_n 1, 1) := by decide +kernel
theorem d13_12 : decode jdk_68_method_2_code 12 = .ok (.newarray .byte, 2) := by decide +kernel
theorem ow79 {a0 : Array Value} {Z : State} (hw : ∀ d ∈ tables_1, d.before a0 Z = true) : (Jvm.Cond.arrayClass Jvm.ClassFile.FieldType.byte).before a0 Z = true := hw _ (List.mem_of_getElem? (i := 79) rfl)
theorem d13_14 : decode jdk_68_method_2_code 14 = .ok (.putfield 15, 3) := by decide +kernel
theorem ow81 {a0 : Array Value} {Z : State} (hw : ∀ d ∈ tables_1, d.before a0 Z = true) : (Jvm.Cond.lays "java/lang/StringBuilder" "java/lang/AbstractStringBuilder" "value" "[B").before a0 Z = true := hw _ (List.mem_of_getElem? (i := 81) rfl)
theorem ow80 {a0 : Array Value} {Z : State} (hw : ∀ d ∈ tables_1, d.before a0 Z = true) : (Jvm.Cond.fieldLink "java/lang/AbstractStringBuilder" (15 : Nat) "java/lang/AbstractStringBuilder" "value" "[B").before a0 Z = true := hw _ (List.mem_of_getElem? (i := 80) rfl)
theorem ow65 {a0 : Array Value} {Z : State} (hw : ∀ d ∈ tables_1, d.before a0 Z = true) : (Jvm.Cond.instantiable "java/lang/StringBuilder" (4 : Nat)).before a0 Z = true := hw _ (List.mem_of_getElem? (i := 65) rfl)
theorem d13_17 : decode jdk_68_method_2_code 17 = .ok (.aload_n 0, 1) := by decide +kernel
theorem d13_18 : decode jdk_68_method_2_code 18 = .ok (.iconst 0, 1) := by decide +kernel
theorem d13_19 : decode jdk_68_method_2_code 19 = .ok (.putfield 22, 3) := by decide +kernel
theorem ow83 {a0 : Array Value} {Z : State} (hw : ∀ d ∈ tables_1, d.before a0 Z = true) : (Jvm.Cond.lays "java/lang/StringBuilder" "java/lang/AbstractStringBuilder" "coder" "B").before a0 Z = true := hw _ (List.mem_of_getElem? (i := 83) rfl)
theorem ow82 {a0 : Array Value} {Z : State} (hw : ∀ d ∈ tables_1, d.before a0 Z = true) : (Jvm.Cond.fieldLink "java/lang/AbstractStringBuilder" (22 : Nat) "java/lang/AbstractStringBuilder" "coder" "B").before a0 Z = true := hw _ (List.mem_of_getElem? (i := 82) rfl)
theorem d13_22 : decode jdk_68_method_2_code 22 = .ok (.goto 16, 3) := by decide +kernel
theorem d13_38 : decode jdk_68_method_2_code 38 = .ok (.return_, 1) := by decide +kernel
theorem ow114 {a0 : Array Value} {Z : State} (hw : ∀ d ∈ tables_1, d.before a0 Z = true) : (Jvm.Cond.lays "java/lang/StringBuilder" "java/lang/AbstractStringBuilder" "count" "I").before a0 Z = true := hw _ (List.mem_of_getElem? (i := 114) rfl)
theorem oef_ors_i1 (m_ : MethodId) (a : Addr)  : (entryFrame m_ #[(.ref a), (.int (16 : Int32))] 2).locals = #[.val (.ref a), .val (.int (16 : Int32))] := by first | (simp [entryFrame, argsToLocals, Value.category]; done) | rfl
set_option maxRecDepth 65536 in
set_option maxHeartbeats 40000000 in
theorem ors_i1 (l : Launch) (Z : State) (a0 : Array Value) (hw : ∀ d ∈ tables_1, d.before a0 Z = true) (hE : EW Z a0 consts_1) (a : Addr) (z : Int32) (h : Heap) (hO : Old Z Z.heap.size h) (SC : (Sta Z Z.heap "java/lang/String" "COMPACT_STRINGS" "Z" (.int z))) (hz : (¬ z = 0)) (qE : Exa Z h a "java/lang/StringBuilder") (qV : Fld Z h a "java/lang/AbstractStringBuilder" "value" "[B" .null) (qC : Fld Z h a "java/lang/AbstractStringBuilder" "coder" "B" (.int (0 : Int32))) (qN : Fld Z h a "java/lang/AbstractStringBuilder" "count" "I" (.int (0 : Int32))) (ge_a : Z.heap.size ≤ a) :
    Ct l Z consts_1 (⟨"java/lang/AbstractStringBuilder", "<init>", "(I)V"⟩ : MethodName) jdk_68_method_2_code 2 (Option.none : Option Jvm.ClassFile.FieldType) ⟨1, 1, 16, 14⟩ #[(.ref a), (.int (16 : Int32))] h [a] (fun rv' hp' so' => ∃ t : Addr, ∃ kb : ClassId, rv' = none ∧ so' = [t] ∧ (h.size ≤ t) ∧ Exa Z hp' a "java/lang/StringBuilder" ∧ Fld Z hp' a "java/lang/AbstractStringBuilder" "value" "[B" (.ref t) ∧ Fld Z hp' a "java/lang/AbstractStringBuilder" "coder" "B" (.int (0 : Int32)) ∧ Fld Z hp' a "java/lang/AbstractStringBuilder" "count" "I" (.int (0 : Int32)) ∧ Arv Z hp' t kb .byte (16 : Int32) (List.replicate 16 (.int 0)) (.int 0) ∧ Exa Z hp' t "[B") := by
  refine Ct.mk "java/lang/AbstractStringBuilder" "<init>" rfl rfl (a0 := a0) (plainFor_of_name opn0) hO hE (fun x q => by simp at q; subst q; exact ge_a) ?_
  intro K T W
  rw [oef_ors_i1]
  refine gAloadN W d13_0 rfl rfl rfl ?_
  refine wInitO W d13_1 (ow76 hw) (ow25 hw) (ow26 hw) rfl (by decide) 0 (Nat.le_of_eq rfl) (by decide) rfl fun T1 W2 => ?_
  refine wGetS W2 d13_4 (ow77 hw) Via.refl SC rfl fun T3 W4 => ?_
  refine gIfNo W4 d13_7 ((if0 _ _).trans (feq hz).1) rfl ?_
  refine gAloadN W4 d13_10 rfl rfl rfl ?_
  refine gIloadN W4 d13_11 rfl rfl ?_
  refine wNewE (cap := 16) (ad := "[B") W4 d13_12 (ow79 hw) (by decide) (by decide) (by decide) (by decide) (by decide) (by decide) rfl fun T5 h7 a8 k9 W6 E10 g11 A12 E13 => ?_
  have f14 : Arv Z h7 a8 k9 .byte (16 : Int32) (List.replicate 16 (.int 0)) (.int 0) := A12 16
  have f15 := qV.ext E10
  have f16 := qE.ext E10
  refine wPutF (ty := .array .byte) W6 d13_14 (ow80 hw) Via.refl (by simp) f15 f16 (Or.inl (ow81 hw)) (ow65 hw) (by decide) rfl rfl rfl fun T17 h19 W18 wr20 => ?_
  have f21 := Fld.same wr20 f15
  refine gAloadN W18 d13_17 rfl rfl rfl ?_
  refine gIconst (z := (0 : Int32)) W18 d13_18 rfl rfl ?_
  have f22 := qC.ext E10
  have f23 := f22.other wr20 (Or.inr (slot_ne (t := .byte) (t' := .array .byte) (Or.inl (ow83 hw)) (Or.inl (ow81 hw)) (by decide) (by decide) (by decide)))
  have f24 := f16.wr wr20
  refine wPutF (ty := .byte) W18 d13_19 (ow82 hw) Via.refl (by simp) f23 f24 (Or.inl (ow83 hw)) (ow65 hw) (by decide) rfl (by decide) rfl fun T25 h27 W26 wr28 => ?_
  have f29 := Fld.same wr28 f23
  refine gGoto (pc' := 38) W26 d13_22 (by decide) rfl ?_
  have f30 := f24.wr wr28
  have f31 := f21.other wr28 (Or.inr (slot_ne (t := .array .byte) (t' := .byte) (Or.inl (ow81 hw)) (Or.inl (ow83 hw)) (by decide) (by decide) (by decide)))
  have f32 := qN.ext E10
  have f33 := f32.other wr20 (Or.inr (slot_ne (t := .int) (t' := .array .byte) (Or.inl (ow114 hw)) (Or.inl (ow81 hw)) (by decide) (by decide) (by decide)))
  have f34 := f33.other wr28 (Or.inr (slot_ne (t := .int) (t' := .byte) (Or.inl (ow114 hw)) (Or.inl (ow83 hw)) (by decide) (by decide) (by decide)))
  have ne35 : a ≠ a8 := Nat.ne_of_lt (Nat.lt_of_lt_of_le qE.lt (Nat.le_of_eq g11.symm))
  have f36 := f14.other wr20 (Ne.symm ne35)
  have f37 := f36.other wr28 (Ne.symm ne35)
  have f38 := E13.wr wr20
  have f39 := f38.wr wr28
  exact wRet0 (so := [a8]) W26 d13_38 (by decide) (by decide) (all1 ⟨by simp, (Nat.le_of_eq g11.symm)⟩ alln) ⟨a8, k9, rfl, rfl, (Nat.le_of_eq g11.symm), f30, f31, f29, f34, f37, f39⟩
theorem opn1 : plainName "java/lang/StringBuilder" = true := by first | (simp [plainName, overriddenIn]; done) | decide +kernel
theorem d12_0 : decode jdk_67_method_1_code 0 = .ok (.aload_n 0, 1) := by decide +kernel
theorem d12_1 : decode jdk_67_method_1_code 1 = .ok (.bipush 16, 2) := by decide +kernel
theorem d12_3 : decode jdk_67_method_1_code 3 = .ok (.invokespecial 1, 3) := by decide +kernel
theorem ow70 {a0 : Array Value} {Z : State} (hw : ∀ d ∈ tables_1, d.before a0 Z = true) : (Jvm.Cond.methodLink "java/lang/StringBuilder" (1 : Nat) ({ cls := "java/lang/AbstractStringBuilder", name := "<init>", desc := "(I)V" } : Jvm.MethodName)).before a0 Z = true := hw _ (List.mem_of_getElem? (i := 70) rfl)
theorem ow74 {a0 : Array Value} {Z : State} (hw : ∀ d ∈ tables_1, d.before a0 Z = true) : (Jvm.Cond.initialized "java/lang/AbstractStringBuilder").before a0 Z = true := hw _ (List.mem_of_getElem? (i := 74) rfl)
theorem ow75 {a0 : Array Value} {Z : State} (hw : ∀ d ∈ tables_1, d.before a0 Z = true) : (Jvm.Cond.code ({ cls := "java/lang/AbstractStringBuilder", name := "<init>", desc := "(I)V" } : Jvm.MethodName) jdk_68_method_2_code (2 : Nat) (Option.none : Option Jvm.ClassFile.FieldType)).before a0 Z = true := hw _ (List.mem_of_getElem? (i := 75) rfl)
theorem opd0 : parseMethodDescriptor "(I)V" = some ⟨[.int], none⟩ := by decide +kernel
theorem ow71 {a0 : Array Value} {Z : State} (hw : ∀ d ∈ tables_1, d.before a0 Z = true) : (Jvm.Cond.instanceMethod ({ cls := "java/lang/AbstractStringBuilder", name := "<init>", desc := "(I)V" } : Jvm.MethodName)).before a0 Z = true := hw _ (List.mem_of_getElem? (i := 71) rfl)
theorem d12_6 : decode jdk_67_method_1_code 6 = .ok (.return_, 1) := by decide +kernel
theorem oef_ors_i0 (m_ : MethodId) (a : Addr)  : (entryFrame m_ #[(.ref a)] 1).locals = #[.val (.ref a)] := by first | (simp [entryFrame, argsToLocals, Value.category]; done) | rfl
set_option maxRecDepth 65536 in
set_option maxHeartbeats 40000000 in
theorem ors_i0 (l : Launch) (Z : State) (a0 : Array Value) (hw : ∀ d ∈ tables_1, d.before a0 Z = true) (hE : EW Z a0 consts_1) (a : Addr) (z : Int32) (h : Heap) (hO : Old Z Z.heap.size h) (SC : (Sta Z Z.heap "java/lang/String" "COMPACT_STRINGS" "Z" (.int z))) (hz : (¬ z = 0)) (qE : Exa Z h a "java/lang/StringBuilder") (qV : Fld Z h a "java/lang/AbstractStringBuilder" "value" "[B" .null) (qC : Fld Z h a "java/lang/AbstractStringBuilder" "coder" "B" (.int (0 : Int32))) (qN : Fld Z h a "java/lang/AbstractStringBuilder" "count" "I" (.int (0 : Int32))) (ge_a : Z.heap.size ≤ a) :
    Ct l Z consts_1 (⟨"java/lang/StringBuilder", "<init>", "()V"⟩ : MethodName) jdk_67_method_1_code 1 (Option.none : Option Jvm.ClassFile.FieldType) ⟨2, 1, 16, 30⟩ #[(.ref a)] h [a] (fun rv' hp' so' => ∃ t : Addr, ∃ kb : ClassId, rv' = none ∧ so' = [t] ∧ (h.size ≤ t) ∧ Exa Z hp' a "java/lang/StringBuilder" ∧ Fld Z hp' a "java/lang/AbstractStringBuilder" "value" "[B" (.ref t) ∧ Fld Z hp' a "java/lang/AbstractStringBuilder" "coder" "B" (.int (0 : Int32)) ∧ Fld Z hp' a "java/lang/AbstractStringBuilder" "count" "I" (.int (0 : Int32)) ∧ Arv Z hp' t kb .byte (16 : Int32) (List.replicate 16 (.int 0)) (.int 0) ∧ Exa Z hp' t "[B") := by
  refine Ct.mk "java/lang/StringBuilder" "<init>" rfl rfl (a0 := a0) (plainFor_of_name opn1) hO hE (fun x q => by simp at q; subst q; exact ge_a) ?_
  intro K T W
  rw [oef_ors_i0]
  refine gAloadN W d12_0 rfl rfl rfl ?_
  refine gBipush (z := (16 : Int32)) W d12_1 rfl rfl ?_
  refine wSpecial (y := (⟨"java/lang/AbstractStringBuilder", "<init>", "(I)V"⟩ : MethodName)) (Wd := 0) (a := a) (argsL := [(.int (16 : Int32))]) (rest := []) W d12_3 rfl (ow70 hw) (ow71 hw) (ow75 hw) (by decide) (Cb.ct (ors_i1 l Z a0 hw hE (a) (z) h W.old SC hz qE qV qC qN ge_a) (ow75 hw) (ow74 hw) hE (by decide) (by decide)) (by simp) rfl (lenOf opd0 rfl) rfl (Nat.le_of_eq rfl) (by decide) (by decide) rfl fun v44 so45 T40 h42 W41 kp43 sp46 q47 => ?_
  obtain ⟨t48, kb49, rfl, rfl, f50, f51, f52, f53, f54, f55, f56⟩ := q47
  show Go K _ T40 6 #[.val (.ref a)] []
  exact wRet0 (so := [t48]) W41 d12_6 (by decide) (by decide) (all1 ⟨by simp, f50⟩ alln) ⟨t48, kb49, rfl, rfl, f50, f51, f52, f53, f54, f55, f56⟩
theorem opn2 : plainName "java/lang/String" = true := by first | (simp [plainName, overriddenIn]; done) | decide +kernel
theorem d17_0 : decode jdk_42_method_152_code 0 = .ok (.getstatic 38, 3) := by decide +kernel
theorem ow111 {a0 : Array Value} {Z : State} (hw : ∀ d ∈ tables_1, d.before a0 Z = true) : (Jvm.Cond.fieldLink "java/lang/String" (38 : Nat) "java/lang/String" "COMPACT_STRINGS" "Z").before a0 Z = true := hw _ (List.mem_of_getElem? (i := 111) rfl)
theorem d17_3 : decode jdk_42_method_152_code 3 = .ok (.ifCond .eq 10, 3) := by decide +kernel
theorem d17_6 : decode jdk_42_method_152_code 6 = .ok (.aload_n 0, 1) := by decide +kernel
theorem d17_7 : decode jdk_42_method_152_code 7 = .ok (.getfield 15, 3) := by decide +kernel
theorem ow112 {a0 : Array Value} {Z : State} (hw : ∀ d ∈ tables_1, d.before a0 Z = true) : (Jvm.Cond.fieldLink "java/lang/String" (15 : Nat) "java/lang/String" "coder" "B").before a0 Z = true := hw _ (List.mem_of_getElem? (i := 112) rfl)
theorem d17_10 : decode jdk_42_method_152_code 10 = .ok (.goto 4, 3) := by decide +kernel
theorem d17_14 : decode jdk_42_method_152_code 14 = .ok (.ireturn, 1) := by decide +kernel
theorem oef_ors_co (m_ : MethodId) (s : Addr)  : (entryFrame m_ #[(.ref s)] 1).locals = #[.val (.ref s)] := by first | (simp [entryFrame, argsToLocals, Value.category]; done) | rfl
set_option maxRecDepth 65536 in
set_option maxHeartbeats 40000000 in
theorem ors_co (l : Launch) (Z : State) (a0 : Array Value) (hw : ∀ d ∈ tables_1, d.before a0 Z = true) (hE : EW Z a0 consts_1) (s : Addr) (z : Int32) (h : Heap) (hO : Old Z Z.heap.size h) (SC : (Sta Z Z.heap "java/lang/String" "COMPACT_STRINGS" "Z" (.int z))) (hz : (¬ z = 0)) (q2 : Fld Z h s "java/lang/String" "coder" "B" (.int (0 : Int32)))  :
    Ct l Z consts_1 (⟨"java/lang/String", "coder", "()B"⟩ : MethodName) jdk_42_method_152_code 1 (Option.some Jvm.ClassFile.FieldType.byte) ⟨0, 0, 0, 0⟩ #[(.ref s)] h [] (fun rv' hp' so' => rv' = some (.int (0 : Int32)) ∧ so' = []) := by
  refine Ct.mk "java/lang/String" "coder" rfl rfl (a0 := a0) (plainFor_of_name opn2) hO hE (fun x q => nomatch q) ?_
  intro K T W
  rw [oef_ors_co]
  refine wGetS W d17_0 (ow111 hw) Via.refl SC rfl fun T57 W58 => ?_
  refine gIfNo W58 d17_3 ((if0 _ _).trans (feq hz).1) rfl ?_
  refine gAloadN W58 d17_6 rfl rfl rfl ?_
  refine wGetF W58 d17_7 (ow112 hw) Via.refl q2 rfl fun T59 W60 => ?_
  refine gGoto (pc' := 14) W60 d17_10 (by decide) rfl ?_
  exact wRetI (so := []) (t := .byte) W60 d17_14 (by simp) rfl (by decide) (by decide) (fun _ q => nomatch q) ⟨rfl, rfl⟩
theorem d16_0 : decode jdk_42_method_54_code 0 = .ok (.aload_n 0, 1) := by decide +kernel
theorem d16_1 : decode jdk_42_method_54_code 1 = .ok (.getfield 9, 3) := by decide +kernel
theorem ow105 {a0 : Array Value} {Z : State} (hw : ∀ d ∈ tables_1, d.before a0 Z = true) : (Jvm.Cond.fieldLink "java/lang/String" (9 : Nat) "java/lang/String" "value" "[B").before a0 Z = true := hw _ (List.mem_of_getElem? (i := 105) rfl)
theorem d16_4 : decode jdk_42_method_54_code 4 = .ok (.arraylength, 1) := by decide +kernel
theorem d16_5 : decode jdk_42_method_54_code 5 = .ok (.aload_n 0, 1) := by decide +kernel
theorem d16_6 : decode jdk_42_method_54_code 6 = .ok (.invokevirtual 335, 3) := by decide +kernel
theorem ow78 {a0 : Array Value} {Z : State} (hw : ∀ d ∈ tables_1, d.before a0 Z = true) : (Jvm.Cond.initialized "java/lang/String").before a0 Z = true := hw _ (List.mem_of_getElem? (i := 78) rfl)
theorem ow110 {a0 : Array Value} {Z : State} (hw : ∀ d ∈ tables_1, d.before a0 Z = true) : (Jvm.Cond.code ({ cls := "java/lang/String", name := "coder", desc := "()B" } : Jvm.MethodName) jdk_42_method_152_code (1 : Nat) (Option.some Jvm.ClassFile.FieldType.byte)).before a0 Z = true := hw _ (List.mem_of_getElem? (i := 110) rfl)
theorem opd1 : parseMethodDescriptor "()B" = some ⟨[], some (.byte)⟩ := by decide +kernel
theorem ow106 {a0 : Array Value} {Z : State} (hw : ∀ d ∈ tables_1, d.before a0 Z = true) : (Jvm.Cond.methodLink "java/lang/String" (335 : Nat) ({ cls := "java/lang/String", name := "coder", desc := "()B" } : Jvm.MethodName)).before a0 Z = true := hw _ (List.mem_of_getElem? (i := 106) rfl)
theorem ow107 {a0 : Array Value} {Z : State} (hw : ∀ d ∈ tables_1, d.before a0 Z = true) : (Jvm.Cond.declares ({ cls := "java/lang/String", name := "coder", desc := "()B" } : Jvm.MethodName)).before a0 Z = true := hw _ (List.mem_of_getElem? (i := 107) rfl)
theorem ow109 {a0 : Array Value} {Z : State} (hw : ∀ d ∈ tables_1, d.before a0 Z = true) : (Jvm.Cond.selects "java/lang/String" ({ cls := "java/lang/String", name := "coder", desc := "()B" } : Jvm.MethodName) ({ cls := "java/lang/String", name := "coder", desc := "()B" } : Jvm.MethodName)).before a0 Z = true := hw _ (List.mem_of_getElem? (i := 109) rfl)
theorem ow108 {a0 : Array Value} {Z : State} (hw : ∀ d ∈ tables_1, d.before a0 Z = true) : (Jvm.Cond.instanceMethod ({ cls := "java/lang/String", name := "coder", desc := "()B" } : Jvm.MethodName)).before a0 Z = true := hw _ (List.mem_of_getElem? (i := 108) rfl)
theorem d16_9 : decode jdk_42_method_54_code 9 = .ok (.ishr, 1) := by decide +kernel
theorem d16_10 : decode jdk_42_method_54_code 10 = .ok (.ireturn, 1) := by decide +kernel
theorem oef_ors_ln (m_ : MethodId) (s : Addr)  : (entryFrame m_ #[(.ref s)] 1).locals = #[.val (.ref s)] := by first | (simp [entryFrame, argsToLocals, Value.category]; done) | rfl
set_option maxRecDepth 65536 in
set_option maxHeartbeats 40000000 in
theorem ors_ln (l : Launch) (Z : State) (a0 : Array Value) (hw : ∀ d ∈ tables_1, d.before a0 Z = true) (hE : EW Z a0 consts_1) (s : Addr) (u : Addr) (ku : ClassId) (n : Nat) (us : List Value) (z : Int32) (h : Heap) (hO : Old Z Z.heap.size h) (SC : (Sta Z Z.heap "java/lang/String" "COMPACT_STRINGS" "Z" (.int z))) (hz : (¬ z = 0)) (q2 : Exa Z h s "java/lang/String") (q3 : Fld Z h s "java/lang/String" "value" "[B" (.ref u)) (q4 : Fld Z h s "java/lang/String" "coder" "B" (.int (0 : Int32))) (q5 : Arv Z h u ku .byte (Int32.ofNat n) us (.int 0))  :
    Ct l Z consts_1 (⟨"java/lang/String", "length", "()I"⟩ : MethodName) jdk_42_method_54_code 1 (Option.some Jvm.ClassFile.FieldType.int) ⟨1, 0, 0, 14⟩ #[(.ref s)] h [] (fun rv' hp' so' => rv' = some (.int (Int32.ofNat n)) ∧ so' = []) := by
  refine Ct.mk "java/lang/String" "length" rfl rfl (a0 := a0) (plainFor_of_name opn2) hO hE (fun x q => nomatch q) ?_
  intro K T W
  rw [oef_ors_ln]
  refine gAloadN W d16_0 rfl rfl rfl ?_
  refine wGetF W d16_1 (ow105 hw) Via.refl q3 rfl fun T61 W62 => ?_
  refine wLen W62 d16_4 q5 rfl ?_
  refine gAloadN W62 d16_5 rfl rfl rfl ?_
  refine wVirtual (y := (⟨"java/lang/String", "coder", "()B"⟩ : MethodName)) (z := (⟨"java/lang/String", "coder", "()B"⟩ : MethodName)) (Wd := 1) (a := s) (argsL := []) (rest := [(.int (Int32.ofNat n))]) W62 d16_6 (ow106 hw) (ow107 hw) (ow109 hw) (ow108 hw) (nfS (ow109 hw)) (by decide) (Cb.ct (ors_co l Z a0 hw hE (s) (z) h W62.old SC hz q4 ) (ow110 hw) (ow78 hw) hE (by decide) (by decide)) q2 (by simp) rfl (lenOf opd1 rfl) rfl (Nat.le_of_eq rfl) (by decide) (by decide) rfl fun v67 so68 T63 h65 W64 kp66 sp69 q70 => ?_
  obtain ⟨rfl, rfl⟩ := q70
  show Go K _ T63 9 #[.val (.ref s)] [(.int (0 : Int32)), (.int (Int32.ofNat n))]
  refine gIshr (z := (Int32.ofNat n)) W64 d16_9 (shr0' _) rfl ?_
  exact wRetI (so := []) (t := .int) W64 d16_10 (by simp) rfl (by decide) (by decide) (fun _ q => nomatch q) ⟨rfl, rfl⟩
theorem d18_0 : decode jdk_68_method_9_code 0 = .ok (.aload_n 0, 1) := by decide +kernel
theorem d18_1 : decode jdk_68_method_9_code 1 = .ok (.getfield 15, 3) := by decide +kernel
theorem d18_4 : decode jdk_68_method_9_code 4 = .ok (.arraylength, 1) := by decide +kernel
theorem d18_5 : decode jdk_68_method_9_code 5 = .ok (.aload_n 0, 1) := by decide +kernel
theorem d18_6 : decode jdk_68_method_9_code 6 = .ok (.getfield 22, 3) := by decide +kernel
theorem d18_9 : decode jdk_68_method_9_code 9 = .ok (.ishr, 1) := by decide +kernel
theorem d18_10 : decode jdk_68_method_9_code 10 = .ok (.istore_n 2, 1) := by decide +kernel
theorem d18_11 : decode jdk_68_method_9_code 11 = .ok (.iload_n 1, 1) := by decide +kernel
theorem d18_12 : decode jdk_68_method_9_code 12 = .ok (.iload_n 2, 1) := by decide +kernel
theorem d18_13 : decode jdk_68_method_9_code 13 = .ok (.isub, 1) := by decide +kernel
theorem d18_14 : decode jdk_68_method_9_code 14 = .ok (.ifCond .le 24, 3) := by decide +kernel
theorem d18_38 : decode jdk_68_method_9_code 38 = .ok (.return_, 1) := by decide +kernel
theorem oef_ors_en (m_ : MethodId) (a : Addr) (m : Int32)  : (entryFrame m_ #[(.ref a), (.int m)] 3).locals = #[.val (.ref a), .val (.int m), .unset] := by first | (simp [entryFrame, argsToLocals, Value.category]; done) | rfl
set_option maxRecDepth 65536 in
set_option maxHeartbeats 40000000 in
theorem ors_en (l : Launch) (Z : State) (a0 : Array Value) (hw : ∀ d ∈ tables_1, d.before a0 Z = true) (hE : EW Z a0 consts_1) (a : Addr) (t : Addr) (kb : ClassId) (M : Nat) (vs : List Value) (m : Int32) (h : Heap) (hO : Old Z Z.heap.size h) (q0 : Exa Z h a "java/lang/StringBuilder") (q1 : Fld Z h a "java/lang/AbstractStringBuilder" "value" "[B" (.ref t)) (q2 : Fld Z h a "java/lang/AbstractStringBuilder" "coder" "B" (.int (0 : Int32))) (q3 : Arv Z h t kb .byte (Int32.ofNat M) vs (.int 0)) (hm : (¬ (0 : Int32) < m - Int32.ofNat M))  :
    Ct l Z consts_1 (⟨"java/lang/AbstractStringBuilder", "ensureCapacityInternal", "(I)V"⟩ : MethodName) jdk_68_method_9_code 3 (Option.none : Option Jvm.ClassFile.FieldType) ⟨0, 0, 0, 0⟩ #[(.ref a), (.int m)] h [] (fun rv' hp' so' => rv' = none ∧ so' = []) := by
  refine Ct.mk "java/lang/AbstractStringBuilder" "ensureCapacityInternal" rfl rfl (a0 := a0) (plainFor_of_name opn0) hO hE (fun x q => nomatch q) ?_
  intro K T W
  rw [oef_ors_en]
  refine gAloadN W d18_0 rfl rfl rfl ?_
  refine wGetF W d18_1 (ow80 hw) Via.refl q1 rfl fun T71 W72 => ?_
  refine wLen W72 d18_4 q3 rfl ?_
  refine gAloadN W72 d18_5 rfl rfl rfl ?_
  refine wGetF W72 d18_6 (ow82 hw) Via.refl q2 rfl fun T73 W74 => ?_
  refine gIshr (z := (Int32.ofNat M)) W74 d18_9 (shr0' _) rfl ?_
  refine gIstoreN (ls' := #[.val (.ref a), .val (.int m), .val (.int (Int32.ofNat M))]) W74 d18_10 rfl rfl ?_
  refine gIloadN W74 d18_11 rfl rfl ?_
  refine gIloadN W74 d18_12 rfl rfl ?_
  obtain ⟨v75, e76⟩ : ∃ v : Int32, m - (Int32.ofNat M) = v := ⟨_, rfl⟩
  refine gIsub W74 d18_13 e76 rfl ?_
  refine gIfYes (pc' := 38) W74 d18_14 ((if0 _ _).trans (flt (by rw [← e76]; exact hm)).2.2.2) (by decide) rfl ?_
  exact wRet0 (so := []) W74 d18_38 (by decide) (by decide) (fun _ q => nomatch q) ⟨rfl, rfl⟩
theorem d20_0 : decode jdk_68_method_71_code 0 = .ok (.getstatic 18, 3) := by decide +kernel
theorem d20_3 : decode jdk_68_method_71_code 3 = .ok (.ifCond .eq 18, 3) := by decide +kernel
theorem d20_6 : decode jdk_68_method_71_code 6 = .ok (.aload_n 0, 1) := by decide +kernel
theorem d20_7 : decode jdk_68_method_71_code 7 = .ok (.getfield 22, 3) := by decide +kernel
theorem d20_10 : decode jdk_68_method_71_code 10 = .ok (.aload_n 1, 1) := by decide +kernel
theorem d20_11 : decode jdk_68_method_71_code 11 = .ok (.invokevirtual 40, 3) := by decide +kernel
theorem ow130 {a0 : Array Value} {Z : State} (hw : ∀ d ∈ tables_1, d.before a0 Z = true) : (Jvm.Cond.methodLink "java/lang/AbstractStringBuilder" (40 : Nat) ({ cls := "java/lang/String", name := "coder", desc := "()B" } : Jvm.MethodName)).before a0 Z = true := hw _ (List.mem_of_getElem? (i := 130) rfl)
theorem d20_14 : decode jdk_68_method_71_code 14 = .ok (.if_icmp .eq 7, 3) := by decide +kernel
theorem d20_21 : decode jdk_68_method_71_code 21 = .ok (.return_, 1) := by decide +kernel
theorem oef_ors_nf (m_ : MethodId) (a : Addr) (s : Addr)  : (entryFrame m_ #[(.ref a), (.ref s)] 2).locals = #[.val (.ref a), .val (.ref s)] := by first | (simp [entryFrame, argsToLocals, Value.category]; done) | rfl
set_option maxRecDepth 65536 in
set_option maxHeartbeats 40000000 in
theorem ors_nf (l : Launch) (Z : State) (a0 : Array Value) (hw : ∀ d ∈ tables_1, d.before a0 Z = true) (hE : EW Z a0 consts_1) (a : Addr) (s : Addr) (z : Int32) (h : Heap) (hO : Old Z Z.heap.size h) (SC : (Sta Z Z.heap "java/lang/String" "COMPACT_STRINGS" "Z" (.int z))) (hz : (¬ z = 0)) (q2 : Fld Z h a "java/lang/AbstractStringBuilder" "coder" "B" (.int (0 : Int32))) (q3 : Exa Z h s "java/lang/String") (q4 : Fld Z h s "java/lang/String" "coder" "B" (.int (0 : Int32)))  :
    Ct l Z consts_1 (⟨"java/lang/AbstractStringBuilder", "inflateIfNeededFor", "(Ljava/lang/String;)V"⟩ : MethodName) jdk_68_method_71_code 2 (Option.none : Option Jvm.ClassFile.FieldType) ⟨1, 0, 0, 14⟩ #[(.ref a), (.ref s)] h [] (fun rv' hp' so' => rv' = none ∧ so' = []) := by
  refine Ct.mk "java/lang/AbstractStringBuilder" "inflateIfNeededFor" rfl rfl (a0 := a0) (plainFor_of_name opn0) hO hE (fun x q => nomatch q) ?_
  intro K T W
  rw [oef_ors_nf]
  refine wGetS W d20_0 (ow77 hw) Via.refl SC rfl fun T77 W78 => ?_
  refine gIfNo W78 d20_3 ((if0 _ _).trans (feq hz).1) rfl ?_
  refine gAloadN W78 d20_6 rfl rfl rfl ?_
  refine wGetF W78 d20_7 (ow82 hw) Via.refl q2 rfl fun T79 W80 => ?_
  refine gAloadN W80 d20_10 rfl rfl rfl ?_
  refine wVirtual (y := (⟨"java/lang/String", "coder", "()B"⟩ : MethodName)) (z := (⟨"java/lang/String", "coder", "()B"⟩ : MethodName)) (Wd := 1) (a := s) (argsL := []) (rest := [(.int (0 : Int32))]) W80 d20_11 (ow130 hw) (ow107 hw) (ow109 hw) (ow108 hw) (nfS (ow109 hw)) (by decide) (Cb.ct (ors_co l Z a0 hw hE (s) (z) h W80.old SC hz q4 ) (ow110 hw) (ow78 hw) hE (by decide) (by decide)) q3 (by simp) rfl (lenOf opd1 rfl) rfl (Nat.le_of_eq rfl) (by decide) (by decide) rfl fun v85 so86 T81 h83 W82 kp84 sp87 q88 => ?_
  obtain ⟨rfl, rfl⟩ := q88
  show Go K _ T81 14 #[.val (.ref a), .val (.ref s)] [(.int (0 : Int32)), (.int (0 : Int32))]
  refine gIcmpYes (pc' := 21) W82 d20_14 (teq rfl).1 (by decide) rfl ?_
  exact wRet0 (so := []) W82 d20_21 (by decide) (by decide) (fun _ q => nomatch q) ⟨rfl, rfl⟩
theorem d21_0 : decode jdk_42_method_147_code 0 = .ok (.aload_n 0, 1) := by decide +kernel
theorem d21_1 : decode jdk_42_method_147_code 1 = .ok (.invokevirtual 335, 3) := by decide +kernel
theorem d21_4 : decode jdk_42_method_147_code 4 = .ok (.iload_n 3, 1) := by decide +kernel
theorem d21_5 : decode jdk_42_method_147_code 5 = .ok (.if_icmp .ne 23, 3) := by decide +kernel
theorem d21_8 : decode jdk_42_method_147_code 8 = .ok (.aload_n 0, 1) := by decide +kernel
theorem d21_9 : decode jdk_42_method_147_code 9 = .ok (.getfield 9, 3) := by decide +kernel
theorem d21_12 : decode jdk_42_method_147_code 12 = .ok (.iconst 0, 1) := by decide +kernel
theorem d21_13 : decode jdk_42_method_147_code 13 = .ok (.aload_n 1, 1) := by decide +kernel
theorem d21_14 : decode jdk_42_method_147_code 14 = .ok (.iload_n 2, 1) := by decide +kernel
theorem d21_15 : decode jdk_42_method_147_code 15 = .ok (.iload_n 3, 1) := by decide +kernel
theorem d21_16 : decode jdk_42_method_147_code 16 = .ok (.ishl, 1) := by decide +kernel
theorem d21_17 : decode jdk_42_method_147_code 17 = .ok (.aload_n 0, 1) := by decide +kernel
theorem d21_18 : decode jdk_42_method_147_code 18 = .ok (.getfield 9, 3) := by decide +kernel
theorem d21_21 : decode jdk_42_method_147_code 21 = .ok (.arraylength, 1) := by decide +kernel
theorem d21_22 : decode jdk_42_method_147_code 22 = .ok (.invokestatic 212, 3) := by decide +kernel
theorem ow136 {a0 : Array Value} {Z : State} (hw : ∀ d ∈ tables_1, d.before a0 Z = true) : (Jvm.Cond.methodLink "java/lang/String" (212 : Nat) ({ cls := "java/lang/System", name := "arraycopy", desc := "(Ljava/lang/Object;ILjava/lang/Object;II)V" } : Jvm.MethodName)).before a0 Z = true := hw _ (List.mem_of_getElem? (i := 136) rfl)
theorem ow139 {a0 : Array Value} {Z : State} (hw : ∀ d ∈ tables_1, d.before a0 Z = true) : (Jvm.Cond.native ({ cls := "java/lang/System", name := "arraycopy", desc := "(Ljava/lang/Object;ILjava/lang/Object;II)V" } : Jvm.MethodName)).before a0 Z = true := hw _ (List.mem_of_getElem? (i := 139) rfl)
theorem ow137 {a0 : Array Value} {Z : State} (hw : ∀ d ∈ tables_1, d.before a0 Z = true) : (Jvm.Cond.static ({ cls := "java/lang/System", name := "arraycopy", desc := "(Ljava/lang/Object;ILjava/lang/Object;II)V" } : Jvm.MethodName)).before a0 Z = true := hw _ (List.mem_of_getElem? (i := 137) rfl)
theorem ow138 {a0 : Array Value} {Z : State} (hw : ∀ d ∈ tables_1, d.before a0 Z = true) : (Jvm.Cond.initialized "java/lang/System").before a0 Z = true := hw _ (List.mem_of_getElem? (i := 138) rfl)
theorem d21_25 : decode jdk_42_method_147_code 25 = .ok (.goto 18, 3) := by decide +kernel
theorem d21_43 : decode jdk_42_method_147_code 43 = .ok (.return_, 1) := by decide +kernel
theorem oef_ors_gb (m_ : MethodId) (s : Addr) (t : Addr) (y0_ : Int32)  : (entryFrame m_ #[(.ref s), (.ref t), (.int y0_), (.int (0 : Int32))] 4).locals = #[.val (.ref s), .val (.ref t), .val (.int y0_), .val (.int (0 : Int32))] := by first | (simp [entryFrame, argsToLocals, Value.category]; done) | rfl
set_option maxRecDepth 65536 in
set_option maxHeartbeats 40000000 in
theorem ors_gb (l : Launch) (Z : State) (a0 : Array Value) (hw : ∀ d ∈ tables_1, d.before a0 Z = true) (hE : EW Z a0 consts_1) (s : Addr) (u : Addr) (ku : ClassId) (n : Nat) (us : List Value) (t : Addr) (kb : ClassId) (M : Nat) (vs : List Value) (i : Nat) (z : Int32) (h : Heap) (hO : Old Z Z.heap.size h) (SC : (Sta Z Z.heap "java/lang/String" "COMPACT_STRINGS" "Z" (.int z))) (hz : (¬ z = 0)) (q2 : Exa Z h s "java/lang/String") (q3 : Fld Z h s "java/lang/String" "value" "[B" (.ref u)) (q4 : Fld Z h s "java/lang/String" "coder" "B" (.int (0 : Int32))) (q5 : Arv Z h u ku .byte (Int32.ofNat n) us (.int 0)) (q6 : Arv Z h t kb .byte (Int32.ofNat M) vs (.int 0)) (hn : (us.length = n)) (hM : (vs.length = M)) (hi : (i + n ≤ M)) (hM4 : (M ≤ 4000)) (nut : (u ≠ t)) (ge_t : Z.heap.size ≤ t) :
    Ct l Z consts_1 (⟨"java/lang/String", "getBytes", "([BIB)V"⟩ : MethodName) jdk_42_method_147_code 4 (Option.none : Option Jvm.ClassFile.FieldType) ⟨1, 0, 0, 60⟩ #[(.ref s), (.ref t), (.int (Int32.ofNat i)), (.int (0 : Int32))] h [t] (fun rv' hp' so' => rv' = none ∧ so' = [] ∧ Arv Z hp' t kb .byte (Int32.ofNat M) (vs.take i ++ us ++ vs.drop (i + n)) (.int 0)) := by
  refine Ct.mk "java/lang/String" "getBytes" rfl rfl (a0 := a0) (plainFor_of_name opn2) hO hE (fun x q => by simp at q; subst q; exact ge_t) ?_
  intro K T W
  rw [oef_ors_gb]
  refine gAloadN W d21_0 rfl rfl rfl ?_
  refine wVirtual (y := (⟨"java/lang/String", "coder", "()B"⟩ : MethodName)) (z := (⟨"java/lang/String", "coder", "()B"⟩ : MethodName)) (Wd := 0) (a := s) (argsL := []) (rest := []) W d21_1 (ow106 hw) (ow107 hw) (ow109 hw) (ow108 hw) (nfS (ow109 hw)) (by decide) (Cb.ct (ors_co l Z a0 hw hE (s) (z) h W.old SC hz q4 ) (ow110 hw) (ow78 hw) hE (by decide) (by decide)) q2 (by simp) rfl (lenOf opd1 rfl) rfl (Nat.le_of_eq rfl) (by decide) (by decide) rfl fun v93 so94 T89 h91 W90 kp92 sp95 q96 => ?_
  obtain ⟨rfl, rfl⟩ := q96
  show Go K _ T89 4 #[.val (.ref s), .val (.ref t), .val (.int (Int32.ofNat i)), .val (.int (0 : Int32))] [(.int (0 : Int32))]
  refine gIloadN W90 d21_4 rfl rfl ?_
  refine gIcmpNo W90 d21_5 (teq rfl).2 rfl ?_
  refine gAloadN W90 d21_8 rfl rfl rfl ?_
  have f97 := q3.keep kp92 nin0
  refine wGetF W90 d21_9 (ow105 hw) Via.refl f97 rfl fun T98 W99 => ?_
  refine gIconst (z := (0 : Int32)) W99 d21_12 rfl rfl ?_
  refine gAloadN W99 d21_13 rfl rfl rfl ?_
  refine gIloadN W99 d21_14 rfl rfl ?_
  refine gIloadN W99 d21_15 rfl rfl ?_
  refine gIshl (z := (Int32.ofNat i)) W99 d21_16 (shl0' _) rfl ?_
  refine gAloadN W99 d21_17 rfl rfl rfl ?_
  refine wGetF W99 d21_18 (ow105 hw) Via.refl f97 rfl fun T100 W101 => ?_
  have f102 := q5.keep kp92 nin0
  refine wLen W101 d21_21 f102 rfl ?_
  have f103 := q6.keep kp92 nin0
  refine wCopy (us := us) W101 d21_22 (ow136 hw) (ow139 hw) (ow137 hw) (ow138 hw) (by simp) f102 f103 rfl (by decide) (ofNat_nn (by omega)) (ofNat_nn (by omega)) n M 0 i n (ofNat_clamp (by omega)) (ofNat_clamp (by omega)) (by decide) (ofNat_clamp (by omega)) (ofNat_clamp (by omega)) (by omega) (by omega) (range_self hn _) (by omega) rfl (by decide) 0 (Nat.le_of_eq rfl) (by decide) rfl fun T104 h106 W105 kp107 A108 => ?_
  have f109 : Arv Z h106 t kb .byte (Int32.ofNat M) (vs.take i ++ us ++ vs.drop (i + n)) (.int 0) := A108
  refine gGoto (pc' := 43) W105 d21_25 (by decide) rfl ?_
  exact wRet0 (so := []) W105 d21_43 (by decide) (by decide) (fun _ q => nomatch q) ⟨rfl, rfl, f109⟩
theorem d19_0 : decode jdk_68_method_73_code 0 = .ok (.aload_n 0, 1) := by decide +kernel
theorem d19_1 : decode jdk_68_method_73_code 1 = .ok (.aload_n 2, 1) := by decide +kernel
theorem d19_2 : decode jdk_68_method_73_code 2 = .ok (.invokevirtual 397, 3) := by decide +kernel
theorem ow129 {a0 : Array Value} {Z : State} (hw : ∀ d ∈ tables_1, d.before a0 Z = true) : (Jvm.Cond.code ({ cls := "java/lang/AbstractStringBuilder", name := "inflateIfNeededFor", desc := "(Ljava/lang/String;)V" } : Jvm.MethodName) jdk_68_method_71_code (2 : Nat) (Option.none : Option Jvm.ClassFile.FieldType)).before a0 Z = true := hw _ (List.mem_of_getElem? (i := 129) rfl)
theorem opd2 : parseMethodDescriptor "(Ljava/lang/String;)V" = some ⟨[.object "java/lang/String"], none⟩ := by decide +kernel
theorem ow125 {a0 : Array Value} {Z : State} (hw : ∀ d ∈ tables_1, d.before a0 Z = true) : (Jvm.Cond.methodLink "java/lang/AbstractStringBuilder" (397 : Nat) ({ cls := "java/lang/AbstractStringBuilder", name := "inflateIfNeededFor", desc := "(Ljava/lang/String;)V" } : Jvm.MethodName)).before a0 Z = true := hw _ (List.mem_of_getElem? (i := 125) rfl)
theorem ow126 {a0 : Array Value} {Z : State} (hw : ∀ d ∈ tables_1, d.before a0 Z = true) : (Jvm.Cond.instanceMethod ({ cls := "java/lang/AbstractStringBuilder", name := "inflateIfNeededFor", desc := "(Ljava/lang/String;)V" } : Jvm.MethodName)).before a0 Z = true := hw _ (List.mem_of_getElem? (i := 126) rfl)
theorem ow128 {a0 : Array Value} {Z : State} (hw : ∀ d ∈ tables_1, d.before a0 Z = true) : (Jvm.Cond.selects "java/lang/StringBuilder" ({ cls := "java/lang/AbstractStringBuilder", name := "inflateIfNeededFor", desc := "(Ljava/lang/String;)V" } : Jvm.MethodName) ({ cls := "java/lang/AbstractStringBuilder", name := "inflateIfNeededFor", desc := "(Ljava/lang/String;)V" } : Jvm.MethodName)).before a0 Z = true := hw _ (List.mem_of_getElem? (i := 128) rfl)
theorem ow127 {a0 : Array Value} {Z : State} (hw : ∀ d ∈ tables_1, d.before a0 Z = true) : (Jvm.Cond.privateMethod ({ cls := "java/lang/AbstractStringBuilder", name := "inflateIfNeededFor", desc := "(Ljava/lang/String;)V" } : Jvm.MethodName)).before a0 Z = true := hw _ (List.mem_of_getElem? (i := 127) rfl)
theorem d19_5 : decode jdk_68_method_73_code 5 = .ok (.aload_n 2, 1) := by decide +kernel
theorem d19_6 : decode jdk_68_method_73_code 6 = .ok (.aload_n 0, 1) := by decide +kernel
theorem d19_7 : decode jdk_68_method_73_code 7 = .ok (.getfield 15, 3) := by decide +kernel
theorem d19_10 : decode jdk_68_method_73_code 10 = .ok (.iload_n 1, 1) := by decide +kernel
theorem d19_11 : decode jdk_68_method_73_code 11 = .ok (.aload_n 0, 1) := by decide +kernel
theorem d19_12 : decode jdk_68_method_73_code 12 = .ok (.getfield 22, 3) := by decide +kernel
theorem d19_15 : decode jdk_68_method_73_code 15 = .ok (.invokevirtual 399, 3) := by decide +kernel
theorem ow135 {a0 : Array Value} {Z : State} (hw : ∀ d ∈ tables_1, d.before a0 Z = true) : (Jvm.Cond.code ({ cls := "java/lang/String", name := "getBytes", desc := "([BIB)V" } : Jvm.MethodName) jdk_42_method_147_code (4 : Nat) (Option.none : Option Jvm.ClassFile.FieldType)).before a0 Z = true := hw _ (List.mem_of_getElem? (i := 135) rfl)
theorem opd3 : parseMethodDescriptor "([BIB)V" = some ⟨[.array .byte, .int, .byte], none⟩ := by decide +kernel
theorem ow131 {a0 : Array Value} {Z : State} (hw : ∀ d ∈ tables_1, d.before a0 Z = true) : (Jvm.Cond.methodLink "java/lang/AbstractStringBuilder" (399 : Nat) ({ cls := "java/lang/String", name := "getBytes", desc := "([BIB)V" } : Jvm.MethodName)).before a0 Z = true := hw _ (List.mem_of_getElem? (i := 131) rfl)
theorem ow132 {a0 : Array Value} {Z : State} (hw : ∀ d ∈ tables_1, d.before a0 Z = true) : (Jvm.Cond.declares ({ cls := "java/lang/String", name := "getBytes", desc := "([BIB)V" } : Jvm.MethodName)).before a0 Z = true := hw _ (List.mem_of_getElem? (i := 132) rfl)
theorem ow134 {a0 : Array Value} {Z : State} (hw : ∀ d ∈ tables_1, d.before a0 Z = true) : (Jvm.Cond.selects "java/lang/String" ({ cls := "java/lang/String", name := "getBytes", desc := "([BIB)V" } : Jvm.MethodName) ({ cls := "java/lang/String", name := "getBytes", desc := "([BIB)V" } : Jvm.MethodName)).before a0 Z = true := hw _ (List.mem_of_getElem? (i := 134) rfl)
theorem ow133 {a0 : Array Value} {Z : State} (hw : ∀ d ∈ tables_1, d.before a0 Z = true) : (Jvm.Cond.instanceMethod ({ cls := "java/lang/String", name := "getBytes", desc := "([BIB)V" } : Jvm.MethodName)).before a0 Z = true := hw _ (List.mem_of_getElem? (i := 133) rfl)
theorem d19_18 : decode jdk_68_method_73_code 18 = .ok (.return_, 1) := by decide +kernel
theorem oef_ors_ps (m_ : MethodId) (a : Addr) (y0_ : Int32) (s : Addr)  : (entryFrame m_ #[(.ref a), (.int y0_), (.ref s)] 3).locals = #[.val (.ref a), .val (.int y0_), .val (.ref s)] := by first | (simp [entryFrame, argsToLocals, Value.category]; done) | rfl
set_option maxRecDepth 65536 in
set_option maxHeartbeats 40000000 in
theorem ors_ps (l : Launch) (Z : State) (a0 : Array Value) (hw : ∀ d ∈ tables_1, d.before a0 Z = true) (hE : EW Z a0 consts_1) (a : Addr) (t : Addr) (kb : ClassId) (M : Nat) (vs : List Value) (s : Addr) (u : Addr) (ku : ClassId) (n : Nat) (us : List Value) (i : Nat) (z : Int32) (h : Heap) (hO : Old Z Z.heap.size h) (SC : (Sta Z Z.heap "java/lang/String" "COMPACT_STRINGS" "Z" (.int z))) (hz : (¬ z = 0)) (q2 : Exa Z h a "java/lang/StringBuilder") (q3 : Fld Z h a "java/lang/AbstractStringBuilder" "value" "[B" (.ref t)) (q4 : Fld Z h a "java/lang/AbstractStringBuilder" "coder" "B" (.int (0 : Int32))) (q5 : Arv Z h t kb .byte (Int32.ofNat M) vs (.int 0)) (q6 : Exa Z h s "java/lang/String") (q7 : Fld Z h s "java/lang/String" "value" "[B" (.ref u)) (q8 : Fld Z h s "java/lang/String" "coder" "B" (.int (0 : Int32))) (q9 : Arv Z h u ku .byte (Int32.ofNat n) us (.int 0)) (hn : (us.length = n)) (hM : (vs.length = M)) (hi : (i + n ≤ M)) (hM4 : (M ≤ 4000)) (nut : (u ≠ t)) (ge_t : Z.heap.size ≤ t) :
    Ct l Z consts_1 (⟨"java/lang/AbstractStringBuilder", "putStringAt", "(ILjava/lang/String;)V"⟩ : MethodName) jdk_68_method_73_code 3 (Option.none : Option Jvm.ClassFile.FieldType) ⟨2, 0, 0, 80⟩ #[(.ref a), (.int (Int32.ofNat i)), (.ref s)] h [t] (fun rv' hp' so' => rv' = none ∧ so' = [] ∧ Arv Z hp' t kb .byte (Int32.ofNat M) (vs.take i ++ us ++ vs.drop (i + n)) (.int 0)) := by
  refine Ct.mk "java/lang/AbstractStringBuilder" "putStringAt" rfl rfl (a0 := a0) (plainFor_of_name opn0) hO hE (fun x q => by simp at q; subst q; exact ge_t) ?_
  intro K T W
  rw [oef_ors_ps]
  refine gAloadN W d19_0 rfl rfl rfl ?_
  refine gAloadN W d19_1 rfl rfl rfl ?_
  refine wPrivate (y := (⟨"java/lang/AbstractStringBuilder", "inflateIfNeededFor", "(Ljava/lang/String;)V"⟩ : MethodName)) (Wd := 0) (a := a) (argsL := [(.ref s)]) (rest := []) W d19_2 (ow125 hw) (ow126 hw) (ow128 hw) (ow127 hw) (ow129 hw) (by decide) (Cb.ct (ors_nf l Z a0 hw hE (a) (s) (z) h W.old SC hz q4 q6 q8 ) (ow129 hw) (ow74 hw) hE (by decide) (by decide)) q2 (by simp) rfl (lenOf opd2 rfl) rfl (Nat.le_of_eq rfl) (by decide) (by decide) rfl fun v114 so115 T110 h112 W111 kp113 sp116 q117 => ?_
  obtain ⟨rfl, rfl⟩ := q117
  show Go K _ T110 5 #[.val (.ref a), .val (.int (Int32.ofNat i)), .val (.ref s)] []
  refine gAloadN W111 d19_5 rfl rfl rfl ?_
  refine gAloadN W111 d19_6 rfl rfl rfl ?_
  have f118 := q3.keep kp113 nin0
  refine wGetF W111 d19_7 (ow80 hw) Via.refl f118 rfl fun T119 W120 => ?_
  refine gIloadN W120 d19_10 rfl rfl ?_
  refine gAloadN W120 d19_11 rfl rfl rfl ?_
  have f121 := q4.keep kp113 nin0
  refine wGetF W120 d19_12 (ow82 hw) Via.refl f121 rfl fun T122 W123 => ?_
  have f124 := q6.keep kp113
  have f125 := q7.keep kp113 nin0
  have f126 := q8.keep kp113 nin0
  have f127 := q9.keep kp113 nin0
  have f128 := q5.keep kp113 nin0
  refine wVirtual (y := (⟨"java/lang/String", "getBytes", "([BIB)V"⟩ : MethodName)) (z := (⟨"java/lang/String", "getBytes", "([BIB)V"⟩ : MethodName)) (Wd := 0) (a := s) (argsL := [(.ref t), (.int (Int32.ofNat i)), (.int (0 : Int32))]) (rest := []) W123 d19_15 (ow131 hw) (ow132 hw) (ow134 hw) (ow133 hw) (nfS (ow134 hw)) (by decide) (Cb.ct (ors_gb l Z a0 hw hE (s) (u) (ku) (n) (us) (t) (kb) (M) (vs) (i) (z) h112 W123.old SC hz f124 f125 f126 f127 f128 hn hM hi hM4 nut ge_t) (ow135 hw) (ow78 hw) hE (by decide) (by decide)) f124 (by simp) rfl (lenOf opd3 rfl) rfl (Nat.le_of_eq rfl) (by decide) (by decide) rfl fun v133 so134 T129 h131 W130 kp132 sp135 q136 => ?_
  obtain ⟨rfl, rfl, f137⟩ := q136
  show Go K _ T129 18 #[.val (.ref a), .val (.int (Int32.ofNat i)), .val (.ref s)] []
  exact wRet0 (so := []) W130 d19_18 (by decide) (by decide) (fun _ q => nomatch q) ⟨rfl, rfl, f137⟩
theorem d15_0 : decode jdk_68_method_22_code 0 = .ok (.aload_n 1, 1) := by decide +kernel
theorem d15_1 : decode jdk_68_method_22_code 1 = .ok (.ifnonnull 8, 3) := by decide +kernel
theorem d15_9 : decode jdk_68_method_22_code 9 = .ok (.aload_n 1, 1) := by decide +kernel
theorem d15_10 : decode jdk_68_method_22_code 10 = .ok (.invokevirtual 32, 3) := by decide +kernel
theorem ow104 {a0 : Array Value} {Z : State} (hw : ∀ d ∈ tables_1, d.before a0 Z = true) : (Jvm.Cond.code ({ cls := "java/lang/String", name := "length", desc := "()I" } : Jvm.MethodName) jdk_42_method_54_code (1 : Nat) (Option.some Jvm.ClassFile.FieldType.int)).before a0 Z = true := hw _ (List.mem_of_getElem? (i := 104) rfl)
theorem opd4 : parseMethodDescriptor "()I" = some ⟨[], some (.int)⟩ := by decide +kernel
theorem ow100 {a0 : Array Value} {Z : State} (hw : ∀ d ∈ tables_1, d.before a0 Z = true) : (Jvm.Cond.methodLink "java/lang/AbstractStringBuilder" (32 : Nat) ({ cls := "java/lang/String", name := "length", desc := "()I" } : Jvm.MethodName)).before a0 Z = true := hw _ (List.mem_of_getElem? (i := 100) rfl)
theorem ow101 {a0 : Array Value} {Z : State} (hw : ∀ d ∈ tables_1, d.before a0 Z = true) : (Jvm.Cond.declares ({ cls := "java/lang/String", name := "length", desc := "()I" } : Jvm.MethodName)).before a0 Z = true := hw _ (List.mem_of_getElem? (i := 101) rfl)
theorem ow103 {a0 : Array Value} {Z : State} (hw : ∀ d ∈ tables_1, d.before a0 Z = true) : (Jvm.Cond.selects "java/lang/String" ({ cls := "java/lang/String", name := "length", desc := "()I" } : Jvm.MethodName) ({ cls := "java/lang/String", name := "length", desc := "()I" } : Jvm.MethodName)).before a0 Z = true := hw _ (List.mem_of_getElem? (i := 103) rfl)
theorem ow102 {a0 : Array Value} {Z : State} (hw : ∀ d ∈ tables_1, d.before a0 Z = true) : (Jvm.Cond.instanceMethod ({ cls := "java/lang/String", name := "length", desc := "()I" } : Jvm.MethodName)).before a0 Z = true := hw _ (List.mem_of_getElem? (i := 102) rfl)
theorem d15_13 : decode jdk_68_method_22_code 13 = .ok (.istore_n 2, 1) := by decide +kernel
theorem d15_14 : decode jdk_68_method_22_code 14 = .ok (.aload_n 0, 1) := by decide +kernel
theorem d15_15 : decode jdk_68_method_22_code 15 = .ok (.aload_n 0, 1) := by decide +kernel
theorem d15_16 : decode jdk_68_method_22_code 16 = .ok (.getfield 79, 3) := by decide +kernel
theorem ow113 {a0 : Array Value} {Z : State} (hw : ∀ d ∈ tables_1, d.before a0 Z = true) : (Jvm.Cond.fieldLink "java/lang/AbstractStringBuilder" (79 : Nat) "java/lang/AbstractStringBuilder" "count" "I").before a0 Z = true := hw _ (List.mem_of_getElem? (i := 113) rfl)
theorem d15_19 : decode jdk_68_method_22_code 19 = .ok (.iload_n 2, 1) := by decide +kernel
theorem d15_20 : decode jdk_68_method_22_code 20 = .ok (.iadd, 1) := by decide +kernel
theorem d15_21 : decode jdk_68_method_22_code 21 = .ok (.invokevirtual 100, 3) := by decide +kernel
theorem ow119 {a0 : Array Value} {Z : State} (hw : ∀ d ∈ tables_1, d.before a0 Z = true) : (Jvm.Cond.code ({ cls := "java/lang/AbstractStringBuilder", name := "ensureCapacityInternal", desc := "(I)V" } : Jvm.MethodName) jdk_68_method_9_code (3 : Nat) (Option.none : Option Jvm.ClassFile.FieldType)).before a0 Z = true := hw _ (List.mem_of_getElem? (i := 119) rfl)
theorem ow115 {a0 : Array Value} {Z : State} (hw : ∀ d ∈ tables_1, d.before a0 Z = true) : (Jvm.Cond.methodLink "java/lang/AbstractStringBuilder" (100 : Nat) ({ cls := "java/lang/AbstractStringBuilder", name := "ensureCapacityInternal", desc := "(I)V" } : Jvm.MethodName)).before a0 Z = true := hw _ (List.mem_of_getElem? (i := 115) rfl)
theorem ow116 {a0 : Array Value} {Z : State} (hw : ∀ d ∈ tables_1, d.before a0 Z = true) : (Jvm.Cond.instanceMethod ({ cls := "java/lang/AbstractStringBuilder", name := "ensureCapacityInternal", desc := "(I)V" } : Jvm.MethodName)).before a0 Z = true := hw _ (List.mem_of_getElem? (i := 116) rfl)
theorem ow118 {a0 : Array Value} {Z : State} (hw : ∀ d ∈ tables_1, d.before a0 Z = true) : (Jvm.Cond.selects "java/lang/StringBuilder" ({ cls := "java/lang/AbstractStringBuilder", name := "ensureCapacityInternal", desc := "(I)V" } : Jvm.MethodName) ({ cls := "java/lang/AbstractStringBuilder", name := "ensureCapacityInternal", desc := "(I)V" } : Jvm.MethodName)).before a0 Z = true := hw _ (List.mem_of_getElem? (i := 118) rfl)
theorem ow117 {a0 : Array Value} {Z : State} (hw : ∀ d ∈ tables_1, d.before a0 Z = true) : (Jvm.Cond.privateMethod ({ cls := "java/lang/AbstractStringBuilder", name := "ensureCapacityInternal", desc := "(I)V" } : Jvm.MethodName)).before a0 Z = true := hw _ (List.mem_of_getElem? (i := 117) rfl)
theorem d15_24 : decode jdk_68_method_22_code 24 = .ok (.aload_n 0, 1) := by decide +kernel
theorem d15_25 : decode jdk_68_method_22_code 25 = .ok (.aload_n 0, 1) := by decide +kernel
theorem d15_26 : decode jdk_68_method_22_code 26 = .ok (.getfield 79, 3) := by decide +kernel
theorem d15_29 : decode jdk_68_method_22_code 29 = .ok (.aload_n 1, 1) := by decide +kernel
theorem d15_30 : decode jdk_68_method_22_code 30 = .ok (.invokevirtual 208, 3) := by decide +kernel
theorem ow124 {a0 : Array Value} {Z : State} (hw : ∀ d ∈ tables_1, d.before a0 Z = true) : (Jvm.Cond.code ({ cls := "java/lang/AbstractStringBuilder", name := "putStringAt", desc := "(ILjava/lang/String;)V" } : Jvm.MethodName) jdk_68_method_73_code (3 : Nat) (Option.none : Option Jvm.ClassFile.FieldType)).before a0 Z = true := hw _ (List.mem_of_getElem? (i := 124) rfl)
theorem opd5 : parseMethodDescriptor "(ILjava/lang/String;)V" = some ⟨[.int, .object "java/lang/String"], none⟩ := by decide +kernel
theorem ow120 {a0 : Array Value} {Z : State} (hw : ∀ d ∈ tables_1, d.before a0 Z = true) : (Jvm.Cond.methodLink "java/lang/AbstractStringBuilder" (208 : Nat) ({ cls := "java/lang/AbstractStringBuilder", name := "putStringAt", desc := "(ILjava/lang/String;)V" } : Jvm.MethodName)).before a0 Z = true := hw _ (List.mem_of_getElem? (i := 120) rfl)
theorem ow121 {a0 : Array Value} {Z : State} (hw : ∀ d ∈ tables_1, d.before a0 Z = true) : (Jvm.Cond.instanceMethod ({ cls := "java/lang/AbstractStringBuilder", name := "putStringAt", desc := "(ILjava/lang/String;)V" } : Jvm.MethodName)).before a0 Z = true := hw _ (List.mem_of_getElem? (i := 121) rfl)
theorem ow123 {a0 : Array Value} {Z : State} (hw : ∀ d ∈ tables_1, d.before a0 Z = true) : (Jvm.Cond.selects "java/lang/StringBuilder" ({ cls := "java/lang/AbstractStringBuilder", name := "putStringAt", desc := "(ILjava/lang/String;)V" } : Jvm.MethodName) ({ cls := "java/lang/AbstractStringBuilder", name := "putStringAt", desc := "(ILjava/lang/String;)V" } : Jvm.MethodName)).before a0 Z = true := hw _ (List.mem_of_getElem? (i := 123) rfl)
theorem ow122 {a0 : Array Value} {Z : State} (hw : ∀ d ∈ tables_1, d.before a0 Z = true) : (Jvm.Cond.privateMethod ({ cls := "java/lang/AbstractStringBuilder", name := "putStringAt", desc := "(ILjava/lang/String;)V" } : Jvm.MethodName)).before a0 Z = true := hw _ (List.mem_of_getElem? (i := 122) rfl)
theorem d15_33 : decode jdk_68_method_22_code 33 = .ok (.aload_n 0, 1) := by decide +kernel
theorem d15_34 : decode jdk_68_method_22_code 34 = .ok (.dup, 1) := by decide +kernel
theorem d15_35 : decode jdk_68_method_22_code 35 = .ok (.getfield 79, 3) := by decide +kernel
theorem d15_38 : decode jdk_68_method_22_code 38 = .ok (.iload_n 2, 1) := by decide +kernel
theorem d15_39 : decode jdk_68_method_22_code 39 = .ok (.iadd, 1) := by decide +kernel
theorem d15_40 : decode jdk_68_method_22_code 40 = .ok (.putfield 79, 3) := by decide +kernel
theorem d15_43 : decode jdk_68_method_22_code 43 = .ok (.aload_n 0, 1) := by decide +kernel
theorem d15_44 : decode jdk_68_method_22_code 44 = .ok (.areturn, 1) := by decide +kernel
theorem oef_ors_a1 (m_ : MethodId) (a : Addr) (s : Addr)  : (entryFrame m_ #[(.ref a), (.ref s)] 3).locals = #[.val (.ref a), .val (.ref s), .unset] := by first | (simp [entryFrame, argsToLocals, Value.category]; done) | rfl
set_option maxRecDepth 65536 in
set_option maxHeartbeats 40000000 in
theorem ors_a1 (l : Launch) (Z : State) (a0 : Array Value) (hw : ∀ d ∈ tables_1, d.before a0 Z = true) (hE : EW Z a0 consts_1) (a : Addr) (t : Addr) (kb : ClassId) (M : Nat) (vs : List Value) (s : Addr) (u : Addr) (ku : ClassId) (n : Nat) (us : List Value) (i : Nat) (z : Int32) (h : Heap) (hO : Old Z Z.heap.size h) (SC : (Sta Z Z.heap "java/lang/String" "COMPACT_STRINGS" "Z" (.int z))) (hz : (¬ z = 0)) (q2 : Exa Z h a "java/lang/StringBuilder") (q3 : Fld Z h a "java/lang/AbstractStringBuilder" "value" "[B" (.ref t)) (q4 : Fld Z h a "java/lang/AbstractStringBuilder" "coder" "B" (.int (0 : Int32))) (q5 : Arv Z h t kb .byte (Int32.ofNat M) vs (.int 0)) (q6 : Fld Z h a "java/lang/AbstractStringBuilder" "count" "I" (.int (Int32.ofNat i))) (q7 : Exa Z h s "java/lang/String") (q8 : Fld Z h s "java/lang/String" "value" "[B" (.ref u)) (q9 : Fld Z h s "java/lang/String" "coder" "B" (.int (0 : Int32))) (q10 : Arv Z h u ku .byte (Int32.ofNat n) us (.int 0)) (hn : (us.length = n)) (hM : (vs.length = M)) (hi : (i + n ≤ M)) (hM4 : (M ≤ 4000)) (nut : (u ≠ t)) (ge_a : Z.heap.size ≤ a) (ge_t : Z.heap.size ≤ t) :
    Ct l Z consts_1 (⟨"java/lang/AbstractStringBuilder", "append", "(Ljava/lang/String;)Ljava/lang/AbstractStringBuilder;"⟩ : MethodName) jdk_68_method_22_code 3 (Option.some (Jvm.ClassFile.FieldType.object "java/lang/AbstractStringBuilder")) ⟨3, 0, 0, 105⟩ #[(.ref a), (.ref s)] h [a, t] (fun rv' hp' so' => rv' = some (.ref a) ∧ so' = [] ∧ Exa Z hp' a "java/lang/StringBuilder" ∧ Fld Z hp' a "java/lang/AbstractStringBuilder" "value" "[B" (.ref t) ∧ Fld Z hp' a "java/lang/AbstractStringBuilder" "coder" "B" (.int (0 : Int32)) ∧ Fld Z hp' a "java/lang/AbstractStringBuilder" "count" "I" (.int (Int32.ofNat (i + n))) ∧ Arv Z hp' t kb .byte (Int32.ofNat M) (vs.take i ++ us ++ vs.drop (i + n)) (.int 0)) := by
  refine Ct.mk "java/lang/AbstractStringBuilder" "append" rfl rfl (a0 := a0) (plainFor_of_name opn0) hO hE (fun x q => by simp at q; rcases q with rfl | rfl <;> assumption) ?_
  intro K T W
  rw [oef_ors_a1]
  refine gAloadN W d15_0 rfl rfl rfl ?_
  refine gIfnonnullYes (pc' := 9) W d15_1 (by decide) rfl ?_
  refine gAloadN W d15_9 rfl rfl rfl ?_
  refine wVirtual (y := (⟨"java/lang/String", "length", "()I"⟩ : MethodName)) (z := (⟨"java/lang/String", "length", "()I"⟩ : MethodName)) (Wd := 0) (a := s) (argsL := []) (rest := []) W d15_10 (ow100 hw) (ow101 hw) (ow103 hw) (ow102 hw) (nfS (ow103 hw)) (by decide) (Cb.ct (ors_ln l Z a0 hw hE (s) (u) (ku) (n) (us) (z) h W.old SC hz q7 q8 q9 q10 ) (ow104 hw) (ow78 hw) hE (by decide) (by decide)) q7 (by simp) rfl (lenOf opd4 rfl) rfl (Nat.le_of_eq rfl) (by decide) (by decide) rfl fun v142 so143 T138 h140 W139 kp141 sp144 q145 => ?_
  obtain ⟨rfl, rfl⟩ := q145
  show Go K _ T138 13 #[.val (.ref a), .val (.ref s), .unset] [(.int (Int32.ofNat n))]
  refine gIstoreN (ls' := #[.val (.ref a), .val (.ref s), .val (.int (Int32.ofNat n))]) W139 d15_13 rfl rfl ?_
  refine gAloadN W139 d15_14 rfl rfl rfl ?_
  refine gAloadN W139 d15_15 rfl rfl rfl ?_
  have f146 := q6.keep kp141 nin0
  refine wGetF W139 d15_16 (ow113 hw) Via.refl f146 rfl fun T147 W148 => ?_
  refine gIloadN W148 d15_19 rfl rfl ?_
  refine gIadd (z := (Int32.ofNat (i + n))) W148 d15_20 ofNat_add rfl ?_
  have f149 := q2.keep kp141
  have f150 := q3.keep kp141 nin0
  have f151 := q4.keep kp141 nin0
  have f152 := q5.keep kp141 nin0
  refine wPrivate (y := (⟨"java/lang/AbstractStringBuilder", "ensureCapacityInternal", "(I)V"⟩ : MethodName)) (Wd := 0) (a := a) (argsL := [(.int (Int32.ofNat (i + n)))]) (rest := []) W148 d15_21 (ow115 hw) (ow116 hw) (ow118 hw) (ow117 hw) (ow119 hw) (by decide) (Cb.ct (ors_en l Z a0 hw hE (a) (t) (kb) (M) (vs) ((Int32.ofNat (i + n))) h140 W148.old f149 f150 f151 f152 (ofNat_room (by omega) (by omega)) ) (ow119 hw) (ow74 hw) hE (by decide) (by decide)) f149 (by simp) rfl (lenOf opd0 rfl) rfl (Nat.le_of_eq rfl) (by decide) (by decide) rfl fun v157 so158 T153 h155 W154 kp156 sp159 q160 => ?_
  obtain ⟨rfl, rfl⟩ := q160
  show Go K _ T153 24 #[.val (.ref a), .val (.ref s), .val (.int (Int32.ofNat n))] []
  refine gAloadN W154 d15_24 rfl rfl rfl ?_
  refine gAloadN W154 d15_25 rfl rfl rfl ?_
  have f161 := f146.keep kp156 nin0
  refine wGetF W154 d15_26 (ow113 hw) Via.refl f161 rfl fun T162 W163 => ?_
  refine gAloadN W163 d15_29 rfl rfl rfl ?_
  have f164 := f149.keep kp156
  have f165 := f150.keep kp156 nin0
  have f166 := f151.keep kp156 nin0
  have f167 := f152.keep kp156 nin0
  have f168 := q7.keep kp141
  have f169 := f168.keep kp156
  have f170 := q8.keep kp141 nin0
  have f171 := f170.keep kp156 nin0
  have f172 := q9.keep kp141 nin0
  have f173 := f172.keep kp156 nin0
  have f174 := q10.keep kp141 nin0
  have f175 := f174.keep kp156 nin0
  refine wPrivate (y := (⟨"java/lang/AbstractStringBuilder", "putStringAt", "(ILjava/lang/String;)V"⟩ : MethodName)) (Wd := 0) (a := a) (argsL := [(.int (Int32.ofNat i)), (.ref s)]) (rest := []) W163 d15_30 (ow120 hw) (ow121 hw) (ow123 hw) (ow122 hw) (ow124 hw) (by decide) (Cb.ct (ors_ps l Z a0 hw hE (a) (t) (kb) (M) (vs) (s) (u) (ku) (n) (us) (i) (z) h155 W163.old SC hz f164 f165 f166 f167 f169 f171 f173 f175 hn hM hi hM4 nut ge_t) (ow124 hw) (ow74 hw) hE (by decide) (by decide)) f164 (by simp) rfl (lenOf opd5 rfl) rfl (Nat.le_of_eq rfl) (by decide) (by decide) rfl fun v180 so181 T176 h178 W177 kp179 sp182 q183 => ?_
  obtain ⟨rfl, rfl, f184⟩ := q183
  show Go K _ T176 33 #[.val (.ref a), .val (.ref s), .val (.int (Int32.ofNat n))] []
  refine gAloadN W177 d15_33 rfl rfl rfl ?_
  refine gDup W177 d15_34 rfl rfl ?_
  have f185 := f161.keep kp179 (ninS (Exa.neArv q2 q5 (ow65 hw)) nin0)
  refine wGetF W177 d15_35 (ow113 hw) Via.refl f185 rfl fun T186 W187 => ?_
  refine gIloadN W187 d15_38 rfl rfl ?_
  refine gIadd (z := (Int32.ofNat (i + n))) W187 d15_39 ofNat_add rfl ?_
  have f188 := f164.keep kp179
  refine wPutF (ty := .int) W187 d15_40 (ow113 hw) Via.refl (by simp) f185 f188 (Or.inl (ow114 hw)) (ow65 hw) (by decide) rfl rfl rfl fun T189 h191 W190 wr192 => ?_
  have f193 := Fld.same wr192 f185
  refine gAloadN W190 d15_43 rfl rfl rfl ?_
  have f194 := f188.wr wr192
  have f195 := f165.keep kp179 (ninS (Exa.neArv q2 q5 (ow65 hw)) nin0)
  have f196 := f195.other wr192 (Or.inr (slot_ne (t := .array .byte) (t' := .int) (Or.inl (ow81 hw)) (Or.inl (ow114 hw)) (by decide) (by decide) (by decide)))
  have f197 := f166.keep kp179 (ninS (Exa.neArv q2 q5 (ow65 hw)) nin0)
  have f198 := f197.other wr192 (Or.inr (slot_ne (t := .byte) (t' := .int) (Or.inl (ow83 hw)) (Or.inl (ow114 hw)) (by decide) (by decide) (by decide)))
  have f199 := f184.other wr192 (Ne.symm (Exa.neArv q2 q5 (ow65 hw)))
  exact wRetA (so := []) (t := .object "java/lang/AbstractStringBuilder") W190 d15_44 rfl rfl rfl (by decide) (by decide) (fun _ q => nomatch q) ⟨rfl, rfl, f194, f196, f198, f193, f199⟩
theorem d14_0 : decode jdk_67_method_7_code 0 = .ok (.aload_n 0, 1) := by decide +kernel
theorem d14_1 : decode jdk_67_method_7_code 1 = .ok (.aload_n 1, 1) := by decide +kernel
theorem d14_2 : decode jdk_67_method_7_code 2 = .ok (.invokespecial 29, 3) := by decide +kernel
theorem ow95 {a0 : Array Value} {Z : State} (hw : ∀ d ∈ tables_1, d.before a0 Z = true) : (Jvm.Cond.methodLink "java/lang/StringBuilder" (29 : Nat) ({ cls := "java/lang/AbstractStringBuilder", name := "append", desc := "(Ljava/lang/String;)Ljava/lang/AbstractStringBuilder;" } : Jvm.MethodName)).before a0 Z = true := hw _ (List.mem_of_getElem? (i := 95) rfl)
theorem ow99 {a0 : Array Value} {Z : State} (hw : ∀ d ∈ tables_1, d.before a0 Z = true) : (Jvm.Cond.code ({ cls := "java/lang/AbstractStringBuilder", name := "append", desc := "(Ljava/lang/String;)Ljava/lang/AbstractStringBuilder;" } : Jvm.MethodName) jdk_68_method_22_code (3 : Nat) (Option.some (Jvm.ClassFile.FieldType.object "java/lang/AbstractStringBuilder"))).before a0 Z = true := hw _ (List.mem_of_getElem? (i := 99) rfl)
theorem opd6 : parseMethodDescriptor "(Ljava/lang/String;)Ljava/lang/AbstractStringBuilder;" = some ⟨[.object "java/lang/String"], some (.object "java/lang/AbstractStringBuilder")⟩ := by decide +kernel
theorem ow96 {a0 : Array Value} {Z : State} (hw : ∀ d ∈ tables_1, d.before a0 Z = true) : (Jvm.Cond.instanceMethod ({ cls := "java/lang/AbstractStringBuilder", name := "append", desc := "(Ljava/lang/String;)Ljava/lang/AbstractStringBuilder;" } : Jvm.MethodName)).before a0 Z = true := hw _ (List.mem_of_getElem? (i := 96) rfl)
theorem ow97 {a0 : Array Value} {Z : State} (hw : ∀ d ∈ tables_1, d.before a0 Z = true) : (Jvm.Cond.superclass "java/lang/StringBuilder" "java/lang/AbstractStringBuilder").before a0 Z = true := hw _ (List.mem_of_getElem? (i := 97) rfl)
theorem d14_5 : decode jdk_67_method_7_code 5 = .ok (.pop, 1) := by decide +kernel
theorem d14_6 : decode jdk_67_method_7_code 6 = .ok (.aload_n 0, 1) := by decide +kernel
theorem d14_7 : decode jdk_67_method_7_code 7 = .ok (.areturn, 1) := by decide +kernel
theorem oef_ors_a0 (m_ : MethodId) (a : Addr) (s : Addr)  : (entryFrame m_ #[(.ref a), (.ref s)] 2).locals = #[.val (.ref a), .val (.ref s)] := by first | (simp [entryFrame, argsToLocals, Value.category]; done) | rfl
set_option maxRecDepth 65536 in
set_option maxHeartbeats 40000000 in
theorem ors_a0 (l : Launch) (Z : State) (a0 : Array Value) (hw : ∀ d ∈ tables_1, d.before a0 Z = true) (hE : EW Z a0 consts_1) (a : Addr) (t : Addr) (kb : ClassId) (M : Nat) (vs : List Value) (s : Addr) (u : Addr) (ku : ClassId) (n : Nat) (us : List Value) (i : Nat) (z : Int32) (h : Heap) (hO : Old Z Z.heap.size h) (SC : (Sta Z Z.heap "java/lang/String" "COMPACT_STRINGS" "Z" (.int z))) (hz : (¬ z = 0)) (q2 : Exa Z h a "java/lang/StringBuilder") (q3 : Fld Z h a "java/lang/AbstractStringBuilder" "value" "[B" (.ref t)) (q4 : Fld Z h a "java/lang/AbstractStringBuilder" "coder" "B" (.int (0 : Int32))) (q5 : Arv Z h t kb .byte (Int32.ofNat M) vs (.int 0)) (q6 : Fld Z h a "java/lang/AbstractStringBuilder" "count" "I" (.int (Int32.ofNat i))) (q7 : Exa Z h s "java/lang/String") (q8 : Fld Z h s "java/lang/String" "value" "[B" (.ref u)) (q9 : Fld Z h s "java/lang/String" "coder" "B" (.int (0 : Int32))) (q10 : Arv Z h u ku .byte (Int32.ofNat n) us (.int 0)) (hn : (us.length = n)) (hM : (vs.length = M)) (hi : (i + n ≤ M)) (hM4 : (M ≤ 4000)) (nut : (u ≠ t)) (ge_a : Z.heap.size ≤ a) (ge_t : Z.heap.size ≤ t) :
    Ct l Z consts_1 (⟨"java/lang/StringBuilder", "append", "(Ljava/lang/String;)Ljava/lang/StringBuilder;"⟩ : MethodName) jdk_67_method_7_code 2 (Option.some (Jvm.ClassFile.FieldType.object "java/lang/StringBuilder")) ⟨4, 0, 0, 125⟩ #[(.ref a), (.ref s)] h [a, t] (fun rv' hp' so' => rv' = some (.ref a) ∧ so' = [] ∧ Exa Z hp' a "java/lang/StringBuilder" ∧ Fld Z hp' a "java/lang/AbstractStringBuilder" "value" "[B" (.ref t) ∧ Fld Z hp' a "java/lang/AbstractStringBuilder" "coder" "B" (.int (0 : Int32)) ∧ Fld Z hp' a "java/lang/AbstractStringBuilder" "count" "I" (.int (Int32.ofNat (i + n))) ∧ Arv Z hp' t kb .byte (Int32.ofNat M) (vs.take i ++ us ++ vs.drop (i + n)) (.int 0)) := by
  refine Ct.mk "java/lang/StringBuilder" "append" rfl rfl (a0 := a0) (plainFor_of_name opn1) hO hE (fun x q => by simp at q; rcases q with rfl | rfl <;> assumption) ?_
  intro K T W
  rw [oef_ors_a0]
  refine gAloadN W d14_0 rfl rfl rfl ?_
  refine gAloadN W d14_1 rfl rfl rfl ?_
  refine wSuper (x := (⟨"java/lang/AbstractStringBuilder", "ensureCapacityInternal", "(I)V"⟩ : MethodName)) (y := (⟨"java/lang/AbstractStringBuilder", "append", "(Ljava/lang/String;)Ljava/lang/AbstractStringBuilder;"⟩ : MethodName)) (z := (⟨"java/lang/AbstractStringBuilder", "ensureCapacityInternal", "(I)V"⟩ : MethodName)) (Wd := 0) (a := a) (argsL := [(.ref s)]) (rest := []) W d14_2 (ow95 hw) (ow96 hw) (ow118 hw) rfl (ow97 hw) (by decide) (ow99 hw) (by decide) (Cb.ct (ors_a1 l Z a0 hw hE (a) (t) (kb) (M) (vs) (s) (u) (ku) (n) (us) (i) (z) h W.old SC hz q2 q3 q4 q5 q6 q7 q8 q9 q10 hn hM hi hM4 nut ge_a ge_t) (ow99 hw) (ow74 hw) hE (by decide) (by decide)) q2 (by simp) rfl (lenOf opd6 rfl) rfl (Nat.le_of_eq rfl) (by decide) (by decide) rfl fun v204 so205 T200 h202 W201 kp203 sp206 q207 => ?_
  obtain ⟨rfl, rfl, f208, f209, f210, f211, f212⟩ := q207
  show Go K _ T200 5 #[.val (.ref a), .val (.ref s)] [(.ref a)]
  refine gPop W201 d14_5 rfl rfl ?_
  refine gAloadN W201 d14_6 rfl rfl rfl ?_
  exact wRetA (so := []) (t := .object "java/lang/StringBuilder") W201 d14_7 rfl rfl rfl (by decide) (by decide) (fun _ q => nomatch q) ⟨rfl, rfl, f208, f209, f210, f211, f212⟩
theorem opn3 : plainName "java/lang/Integer" = true := by first | (simp [plainName, overriddenIn]; done) | decide +kernel
theorem d24_0 : decode jdk_33_method_13_code 0 = .ok (.iconst 1, 1) := by decide +kernel
theorem d24_1 : decode jdk_33_method_13_code 1 = .ok (.istore_n 1, 1) := by decide +kernel
theorem d24_2 : decode jdk_33_method_13_code 2 = .ok (.iload_n 0, 1) := by decide +kernel
theorem d24_3 : decode jdk_33_method_13_code 3 = .ok (.ifCond .lt 8, 3) := by decide +kernel
theorem d24_6 : decode jdk_33_method_13_code 6 = .ok (.iconst 0, 1) := by decide +kernel
theorem d24_7 : decode jdk_33_method_13_code 7 = .ok (.istore_n 1, 1) := by decide +kernel
theorem d24_8 : decode jdk_33_method_13_code 8 = .ok (.iload_n 0, 1) := by decide +kernel
theorem d24_9 : decode jdk_33_method_13_code 9 = .ok (.ineg, 1) := by decide +kernel
theorem d24_10 : decode jdk_33_method_13_code 10 = .ok (.istore_n 0, 1) := by decide +kernel
theorem d24_11 : decode jdk_33_method_13_code 11 = .ok (.bipush (-10), 2) := by decide +kernel
theorem d24_13 : decode jdk_33_method_13_code 13 = .ok (.istore_n 2, 1) := by decide +kernel
theorem d24_14 : decode jdk_33_method_13_code 14 = .ok (.iconst 1, 1) := by decide +kernel
theorem d24_15 : decode jdk_33_method_13_code 15 = .ok (.istore_n 3, 1) := by decide +kernel
theorem d24_16 : decode jdk_33_method_13_code 16 = .ok (.iload_n 3, 1) := by decide +kernel
theorem d24_17 : decode jdk_33_method_13_code 17 = .ok (.bipush 10, 2) := by decide +kernel
theorem d24_19 : decode jdk_33_method_13_code 19 = .ok (.if_icmp .ge 23, 3) := by decide +kernel
theorem d24_22 : decode jdk_33_method_13_code 22 = .ok (.iload_n 0, 1) := by decide +kernel
theorem d24_23 : decode jdk_33_method_13_code 23 = .ok (.iload_n 2, 1) := by decide +kernel
theorem d24_24 : decode jdk_33_method_13_code 24 = .ok (.if_icmp .le 7, 3) := by decide +kernel
theorem d24_27 : decode jdk_33_method_13_code 27 = .ok (.iload_n 3, 1) := by decide +kernel
theorem d24_28 : decode jdk_33_method_13_code 28 = .ok (.iload_n 1, 1) := by decide +kernel
theorem d24_29 : decode jdk_33_method_13_code 29 = .ok (.iadd, 1) := by decide +kernel
theorem d24_30 : decode jdk_33_method_13_code 30 = .ok (.ireturn, 1) := by decide +kernel
theorem d24_31 : decode jdk_33_method_13_code 31 = .ok (.bipush 10, 2) := by decide +kernel
theorem d24_33 : decode jdk_33_method_13_code 33 = .ok (.iload_n 2, 1) := by decide +kernel
theorem d24_34 : decode jdk_33_method_13_code 34 = .ok (.imul, 1) := by decide +kernel
theorem d24_35 : decode jdk_33_method_13_code 35 = .ok (.istore_n 2, 1) := by decide +kernel
theorem d24_36 : decode jdk_33_method_13_code 36 = .ok (.iinc 3 1, 3) := by decide +kernel
theorem d24_39 : decode jdk_33_method_13_code 39 = .ok (.goto (-23), 3) := by decide +kernel
theorem oef_ors_ss (m_ : MethodId) (y0_ : Int32)  : (entryFrame m_ #[(.int y0_)] 4).locals = #[.val (.int y0_), .unset, .unset, .unset] := by first | (simp [entryFrame, argsToLocals, Value.category]; done) | rfl
set_option maxRecDepth 65536 in
set_option maxHeartbeats 40000000 in
theorem ors_ss (l : Launch) (Z : State) (a0 : Array Value) (hw : ∀ d ∈ tables_1, d.before a0 Z = true) (hE : EW Z a0 consts_1) (v : Nat) (h : Heap) (hO : Old Z Z.heap.size h) (hv : (v ≤ 9999))  :
    Ct l Z consts_1 (⟨"java/lang/Integer", "stringSize", "(I)I"⟩ : MethodName) jdk_33_method_13_code 4 (Option.some Jvm.ClassFile.FieldType.int) ⟨0, 0, 0, 0⟩ #[(.int (Int32.ofNat v))] h [] (fun rv' hp' so' => rv' = some (.int (Int32.ofNat (dlen v))) ∧ so' = []) := by
  refine Ct.mk "java/lang/Integer" "stringSize" rfl rfl (a0 := a0) (plainFor_of_name opn3) hO hE (fun x q => nomatch q) ?_
  intro K T W
  rw [oef_ors_ss]
  refine gIconst (z := (1 : Int32)) W d24_0 rfl rfl ?_
  refine gIstoreN (ls' := #[.val (.int (Int32.ofNat v)), .val (.int (1 : Int32)), .unset, .unset]) W d24_1 rfl rfl ?_
  refine gIloadN W d24_2 rfl rfl ?_
  refine gIfNo W d24_3 ((if0 _ _).trans (flt (ofNat_nn (by omega))).1) rfl ?_
  refine gIconst (z := (0 : Int32)) W d24_6 rfl rfl ?_
  refine gIstoreN (ls' := #[.val (.int (Int32.ofNat v)), .val (.int (0 : Int32)), .unset, .unset]) W d24_7 rfl rfl ?_
  refine gIloadN W d24_8 rfl rfl ?_
  refine gIneg (z := (-Int32.ofNat v)) W d24_9 rfl rfl ?_
  refine gIstoreN (ls' := #[.val (.int (-Int32.ofNat v)), .val (.int (0 : Int32)), .unset, .unset]) W d24_10 rfl rfl ?_
  refine gBipush (z := (-10 : Int32)) W d24_11 rfl rfl ?_
  refine gIstoreN (ls' := #[.val (.int (-Int32.ofNat v)), .val (.int (0 : Int32)), .val (.int (-10 : Int32)), .unset]) W d24_13 rfl rfl ?_
  refine gIconst (z := (1 : Int32)) W d24_14 rfl rfl ?_
  refine gIstoreN (ls' := #[.val (.int (-Int32.ofNat v)), .val (.int (0 : Int32)), .val (.int (-10 : Int32)), .val (.int (1 : Int32))]) W d24_15 rfl rfl ?_
  refine gIloadN W d24_16 rfl rfl ?_
  refine gBipush (z := (10 : Int32)) W d24_17 rfl rfl ?_
  refine gIcmpNo W d24_19 (tlt (by decide)).2.1 rfl ?_
  refine gIloadN W d24_22 rfl rfl ?_
  refine gIloadN W d24_23 rfl rfl ?_
  by_cases d1 : v < 10
  · refine gIcmpNo W d24_24 (tlt ((neg_lt (P := 10) (by decide) (by omega)).mpr d1)).2.2.2 rfl ?_
    refine gIloadN W d24_27 rfl rfl ?_
    refine gIloadN W d24_28 rfl rfl ?_
    refine gIadd (z := (1 : Int32)) W d24_29 (by decide) rfl ?_
    have ek : dlen v = 1 := by simp [dlen, d1]
    rw [← show Int32.ofNat (dlen v) = (1 : Int32) from by rw [ek]; rfl]
    exact wRetI (so := []) (t := .int) W d24_30 (by simp) rfl (by decide) (by decide) (fun _ q => nomatch q) ⟨rfl, rfl⟩
  · refine gIcmpYes (pc' := 31) W d24_24 (flt (fun q => d1 ((neg_lt (P := 10) (by decide) (by omega)).mp q))).2.2.2 (by decide) rfl ?_
    refine gBipush (z := (10 : Int32)) W d24_31 rfl rfl ?_
    refine gIloadN W d24_33 rfl rfl ?_
    refine gImul (z := (-100 : Int32)) W d24_34 (by decide) rfl ?_
    refine gIstoreN (ls' := #[.val (.int (-Int32.ofNat v)), .val (.int (0 : Int32)), .val (.int (-100 : Int32)), .val (.int (1 : Int32))]) W d24_35 rfl rfl ?_
    refine gIinc (z := (2 : Int32)) (ls' := #[.val (.int (-Int32.ofNat v)), .val (.int (0 : Int32)), .val (.int (-100 : Int32)), .val (.int (2 : Int32))]) W d24_36 rfl (by decide) rfl rfl ?_
    refine gGoto (pc' := 16) W d24_39 (by decide) rfl ?_
    refine gIloadN W d24_16 rfl rfl ?_
    refine gBipush (z := (10 : Int32)) W d24_17 rfl rfl ?_
    refine gIcmpNo W d24_19 (tlt (by decide)).2.1 rfl ?_
    refine gIloadN W d24_22 rfl rfl ?_
    refine gIloadN W d24_23 rfl rfl ?_
    by_cases d2 : v < 100
    · refine gIcmpNo W d24_24 (tlt ((neg_lt (P := 100) (by decide) (by omega)).mpr d2)).2.2.2 rfl ?_
      refine gIloadN W d24_27 rfl rfl ?_
      refine gIloadN W d24_28 rfl rfl ?_
      refine gIadd (z := (2 : Int32)) W d24_29 (by decide) rfl ?_
      have ek : dlen v = 2 := by simp [dlen, d1, d2]
      rw [← show Int32.ofNat (dlen v) = (2 : Int32) from by rw [ek]; rfl]
      exact wRetI (so := []) (t := .int) W d24_30 (by simp) rfl (by decide) (by decide) (fun _ q => nomatch q) ⟨rfl, rfl⟩
    · refine gIcmpYes (pc' := 31) W d24_24 (flt (fun q => d2 ((neg_lt (P := 100) (by decide) (by omega)).mp q))).2.2.2 (by decide) rfl ?_
      refine gBipush (z := (10 : Int32)) W d24_31 rfl rfl ?_
      refine gIloadN W d24_33 rfl rfl ?_
      refine gImul (z := (-1000 : Int32)) W d24_34 (by decide) rfl ?_
      refine gIstoreN (ls' := #[.val (.int (-Int32.ofNat v)), .val (.int (0 : Int32)), .val (.int (-1000 : Int32)), .val (.int (2 : Int32))]) W d24_35 rfl rfl ?_
      refine gIinc (z := (3 : Int32)) (ls' := #[.val (.int (-Int32.ofNat v)), .val (.int (0 : Int32)), .val (.int (-1000 : Int32)), .val (.int (3 : Int32))]) W d24_36 rfl (by decide) rfl rfl ?_
      refine gGoto (pc' := 16) W d24_39 (by decide) rfl ?_
      refine gIloadN W d24_16 rfl rfl ?_
      refine gBipush (z := (10 : Int32)) W d24_17 rfl rfl ?_
      refine gIcmpNo W d24_19 (tlt (by decide)).2.1 rfl ?_
      refine gIloadN W d24_22 rfl rfl ?_
      refine gIloadN W d24_23 rfl rfl ?_
      by_cases d3 : v < 1000
      · refine gIcmpNo W d24_24 (tlt ((neg_lt (P := 1000) (by decide) (by omega)).mpr d3)).2.2.2 rfl ?_
        refine gIloadN W d24_27 rfl rfl ?_
        refine gIloadN W d24_28 rfl rfl ?_
        refine gIadd (z := (3 : Int32)) W d24_29 (by decide) rfl ?_
        have ek : dlen v = 3 := by simp [dlen, d1, d2, d3]
        rw [← show Int32.ofNat (dlen v) = (3 : Int32) from by rw [ek]; rfl]
        exact wRetI (so := []) (t := .int) W d24_30 (by simp) rfl (by decide) (by decide) (fun _ q => nomatch q) ⟨rfl, rfl⟩
      · refine gIcmpYes (pc' := 31) W d24_24 (flt (fun q => d3 ((neg_lt (P := 1000) (by decide) (by omega)).mp q))).2.2.2 (by decide) rfl ?_
        refine gBipush (z := (10 : Int32)) W d24_31 rfl rfl ?_
        refine gIloadN W d24_33 rfl rfl ?_
        refine gImul (z := (-10000 : Int32)) W d24_34 (by decide) rfl ?_
        refine gIstoreN (ls' := #[.val (.int (-Int32.ofNat v)), .val (.int (0 : Int32)), .val (.int (-10000 : Int32)), .val (.int (3 : Int32))]) W d24_35 rfl rfl ?_
        refine gIinc (z := (4 : Int32)) (ls' := #[.val (.int (-Int32.ofNat v)), .val (.int (0 : Int32)), .val (.int (-10000 : Int32)), .val (.int (4 : Int32))]) W d24_36 rfl (by decide) rfl rfl ?_
        refine gGoto (pc' := 16) W d24_39 (by decide) rfl ?_
        refine gIloadN W d24_16 rfl rfl ?_
        refine gBipush (z := (10 : Int32)) W d24_17 rfl rfl ?_
        refine gIcmpNo W d24_19 (tlt (by decide)).2.1 rfl ?_
        refine gIloadN W d24_22 rfl rfl ?_
        refine gIloadN W d24_23 rfl rfl ?_
        refine gIcmpNo W d24_24 (tlt ((neg_lt (P := 10000) (by decide) (by omega)).mpr (by omega))).2.2.2 rfl ?_
        refine gIloadN W d24_27 rfl rfl ?_
        refine gIloadN W d24_28 rfl rfl ?_
        refine gIadd (z := (4 : Int32)) W d24_29 (by decide) rfl ?_
        have ek : dlen v = 4 := by simp [dlen, d1, d2, d3]
        rw [← show Int32.ofNat (dlen v) = (4 : Int32) from by rw [ek]; rfl]
        exact wRetI (so := []) (t := .int) W d24_30 (by simp) rfl (by decide) (by decide) (fun _ q => nomatch q) ⟨rfl, rfl⟩
theorem d26_0 : decode jdk_33_method_12_code 0 = .ok (.iload_n 1, 1) := by decide +kernel
theorem d26_1 : decode jdk_33_method_12_code 1 = .ok (.istore 5, 2) := by decide +kernel
theorem d26_3 : decode jdk_33_method_12_code 3 = .ok (.iload_n 0, 1) := by decide +kernel
theorem d26_4 : decode jdk_33_method_12_code 4 = .ok (.ifCond .ge 7, 3) := by decide +kernel
theorem d26_11 : decode jdk_33_method_12_code 11 = .ok (.iconst 0, 1) := by decide +kernel
theorem d26_12 : decode jdk_33_method_12_code 12 = .ok (.istore 6, 2) := by decide +kernel
theorem d26_14 : decode jdk_33_method_12_code 14 = .ok (.iload 6, 2) := by decide +kernel
theorem d26_16 : decode jdk_33_method_12_code 16 = .ok (.ifCond .ne 6, 3) := by decide +kernel
theorem d26_19 : decode jdk_33_method_12_code 19 = .ok (.iload_n 0, 1) := by decide +kernel
theorem d26_20 : decode jdk_33_method_12_code 20 = .ok (.ineg, 1) := by decide +kernel
theorem d26_21 : decode jdk_33_method_12_code 21 = .ok (.istore_n 0, 1) := by decide +kernel
theorem d26_22 : decode jdk_33_method_12_code 22 = .ok (.iload_n 0, 1) := by decide +kernel
theorem d26_23 : decode jdk_33_method_12_code 23 = .ok (.bipush (-100), 2) := by decide +kernel
theorem d26_25 : decode jdk_33_method_12_code 25 = .ok (.if_icmp .gt 47, 3) := by decide +kernel
theorem d26_72 : decode jdk_33_method_12_code 72 = .ok (.aload_n 2, 1) := by decide +kernel
theorem d26_73 : decode jdk_33_method_12_code 73 = .ok (.iinc 5 (-1), 3) := by decide +kernel
theorem d26_76 : decode jdk_33_method_12_code 76 = .ok (.iload 5, 2) := by decide +kernel
theorem d26_78 : decode jdk_33_method_12_code 78 = .ok (.getstatic 83, 3) := by decide +kernel
theorem ow161 {a0 : Array Value} {Z : State} (hw : ∀ d ∈ tables_1, d.before a0 Z = true) : (Jvm.Cond.fieldLink "java/lang/Integer" (83 : Nat) "java/lang/Integer" "DigitOnes" "[B").before a0 Z = true := hw _ (List.mem_of_getElem? (i := 161) rfl)
theorem d26_81 : decode jdk_33_method_12_code 81 = .ok (.iload_n 0, 1) := by decide +kernel
theorem d26_82 : decode jdk_33_method_12_code 82 = .ok (.ineg, 1) := by decide +kernel
theorem d26_83 : decode jdk_33_method_12_code 83 = .ok (.baload, 1) := by decide +kernel
theorem d26_84 : decode jdk_33_method_12_code 84 = .ok (.bastore, 1) := by decide +kernel
theorem d26_85 : decode jdk_33_method_12_code 85 = .ok (.iload_n 0, 1) := by decide +kernel
theorem d26_86 : decode jdk_33_method_12_code 86 = .ok (.bipush (-9), 2) := by decide +kernel
theorem d26_88 : decode jdk_33_method_12_code 88 = .ok (.if_icmp .ge 16, 3) := by decide +kernel
theorem d26_104 : decode jdk_33_method_12_code 104 = .ok (.iload 6, 2) := by decide +kernel
theorem d26_106 : decode jdk_33_method_12_code 106 = .ok (.ifCond .eq 12, 3) := by decide +kernel
theorem d26_118 : decode jdk_33_method_12_code 118 = .ok (.iload 5, 2) := by decide +kernel
theorem d26_120 : decode jdk_33_method_12_code 120 = .ok (.ireturn, 1) := by decide +kernel
theorem d26_91 : decode jdk_33_method_12_code 91 = .ok (.aload_n 2, 1) := by decide +kernel
theorem d26_92 : decode jdk_33_method_12_code 92 = .ok (.iinc 5 (-1), 3) := by decide +kernel
theorem d26_95 : decode jdk_33_method_12_code 95 = .ok (.iload 5, 2) := by decide +kernel
theorem d26_97 : decode jdk_33_method_12_code 97 = .ok (.getstatic 87, 3) := by decide +kernel
theorem ow164 {a0 : Array Value} {Z : State} (hw : ∀ d ∈ tables_1, d.before a0 Z = true) : (Jvm.Cond.fieldLink "java/lang/Integer" (87 : Nat) "java/lang/Integer" "DigitTens" "[B").before a0 Z = true := hw _ (List.mem_of_getElem? (i := 164) rfl)
theorem d26_100 : decode jdk_33_method_12_code 100 = .ok (.iload_n 0, 1) := by decide +kernel
theorem d26_101 : decode jdk_33_method_12_code 101 = .ok (.ineg, 1) := by decide +kernel
theorem d26_102 : decode jdk_33_method_12_code 102 = .ok (.baload, 1) := by decide +kernel
theorem d26_103 : decode jdk_33_method_12_code 103 = .ok (.bastore, 1) := by decide +kernel
theorem d26_28 : decode jdk_33_method_12_code 28 = .ok (.iload_n 0, 1) := by decide +kernel
theorem d26_29 : decode jdk_33_method_12_code 29 = .ok (.bipush 100, 2) := by decide +kernel
theorem d26_31 : decode jdk_33_method_12_code 31 = .ok (.idiv, 1) := by decide +kernel
theorem d26_32 : decode jdk_33_method_12_code 32 = .ok (.istore_n 3, 1) := by decide +kernel
theorem d26_33 : decode jdk_33_method_12_code 33 = .ok (.iload_n 3, 1) := by decide +kernel
theorem d26_34 : decode jdk_33_method_12_code 34 = .ok (.bipush 100, 2) := by decide +kernel
theorem d26_36 : decode jdk_33_method_12_code 36 = .ok (.imul, 1) := by decide +kernel
theorem d26_37 : decode jdk_33_method_12_code 37 = .ok (.iload_n 0, 1) := by decide +kernel
theorem d26_38 : decode jdk_33_method_12_code 38 = .ok (.isub, 1) := by decide +kernel
theorem d26_39 : decode jdk_33_method_12_code 39 = .ok (.istore 4, 2) := by decide +kernel
theorem d26_41 : decode jdk_33_method_12_code 41 = .ok (.iload_n 3, 1) := by decide +kernel
theorem d26_42 : decode jdk_33_method_12_code 42 = .ok (.istore_n 0, 1) := by decide +kernel
theorem d26_43 : decode jdk_33_method_12_code 43 = .ok (.aload_n 2, 1) := by decide +kernel
theorem d26_44 : decode jdk_33_method_12_code 44 = .ok (.iinc 5 (-1), 3) := by decide +kernel
theorem d26_47 : decode jdk_33_method_12_code 47 = .ok (.iload 5, 2) := by decide +kernel
theorem d26_49 : decode jdk_33_method_12_code 49 = .ok (.getstatic 83, 3) := by decide +kernel
theorem d26_52 : decode jdk_33_method_12_code 52 = .ok (.iload 4, 2) := by decide +kernel
theorem d26_54 : decode jdk_33_method_12_code 54 = .ok (.baload, 1) := by decide +kernel
theorem d26_55 : decode jdk_33_method_12_code 55 = .ok (.bastore, 1) := by decide +kernel
theorem d26_56 : decode jdk_33_method_12_code 56 = .ok (.aload_n 2, 1) := by decide +kernel
theorem d26_57 : decode jdk_33_method_12_code 57 = .ok (.iinc 5 (-1), 3) := by decide +kernel
theorem d26_60 : decode jdk_33_method_12_code 60 = .ok (.iload 5, 2) := by decide +kernel
theorem d26_62 : decode jdk_33_method_12_code 62 = .ok (.getstatic 87, 3) := by decide +kernel
theorem d26_65 : decode jdk_33_method_12_code 65 = .ok (.iload 4, 2) := by decide +kernel
theorem d26_67 : decode jdk_33_method_12_code 67 = .ok (.baload, 1) := by decide +kernel
theorem d26_68 : decode jdk_33_method_12_code 68 = .ok (.bastore, 1) := by decide +kernel
theorem d26_69 : decode jdk_33_method_12_code 69 = .ok (.goto (-47), 3) := by decide +kernel
theorem oef_ors_gc (m_ : MethodId) (y0_ : Int32) (y1_ : Int32) (t : Addr)  : (entryFrame m_ #[(.int y0_), (.int y1_), (.ref t)] 7).locals = #[.val (.int y0_), .val (.int y1_), .val (.ref t), .unset, .unset, .unset, .unset] := by first | (simp [entryFrame, argsToLocals, Value.category]; done) | rfl
set_option maxRecDepth 65536 in
set_option maxHeartbeats 40000000 in
theorem ors_gc (l : Launch) (Z : State) (a0 : Array Value) (hw : ∀ d ∈ tables_1, d.before a0 Z = true) (hE : EW Z a0 consts_1) (v : Nat) (e : Nat) (t : Addr) (kb : ClassId) (M : Nat) (vs : List Value) (d1 : Addr) (k1 : ClassId) (d2 : Addr) (k2 : ClassId) (h : Heap) (hO : Old Z Z.heap.size h) (SO : (Sta Z Z.heap "java/lang/Integer" "DigitOnes" "[B" (.ref d1))) (AO : (Arv Z Z.heap d1 k1 .byte (100 : Int32) ones (.int 0))) (SE : (Sta Z Z.heap "java/lang/Integer" "DigitTens" "[B" (.ref d2))) (AE : (Arv Z Z.heap d2 k2 .byte (100 : Int32) tens (.int 0))) (qt : Arv Z h t kb .byte (Int32.ofNat M) vs (.int 0)) (hv : (v ≤ 9999)) (he : (dlen v ≤ e)) (heM : (e ≤ M)) (hM : (M ≤ 4000)) (hvs : (vs.length = M)) (ge_t : Z.heap.size ≤ t) :
    Ct l Z consts_1 (⟨"java/lang/Integer", "getChars", "(II[B)I"⟩ : MethodName) jdk_33_method_12_code 7 (Option.some Jvm.ClassFile.FieldType.int) ⟨0, 0, 0, 0⟩ #[(.int (Int32.ofNat v)), (.int (Int32.ofNat e)), (.ref t)] h [t] (fun rv' hp' so' => rv' = some (.int (Int32.ofNat (e - dlen v))) ∧ so' = [] ∧ Arv Z hp' t kb .byte (Int32.ofNat M) (vs.take (e - dlen v) ++ dg v ++ vs.drop e) (.int 0)) := by
  refine Ct.mk "java/lang/Integer" "getChars" rfl rfl (a0 := a0) (plainFor_of_name opn3) hO hE (fun x q => by simp at q; subst q; exact ge_t) ?_
  intro K T W
  rw [oef_ors_gc]
  have hd1 := dlen_or v
  refine gIloadN W d26_0 rfl rfl ?_
  refine gIstore (ls' := #[.val (.int (Int32.ofNat v)), .val (.int (Int32.ofNat e)), .val (.ref t), .unset, .unset, .val (.int (Int32.ofNat e)), .unset]) W d26_1 rfl rfl ?_
  refine gIloadN W d26_3 rfl rfl ?_
  refine gIfYes (pc' := 11) W d26_4 ((if0 _ _).trans (flt (ofNat_nn (by omega))).2.1) (by decide) rfl ?_
  refine gIconst (z := (0 : Int32)) W d26_11 rfl rfl ?_
  refine gIstore (ls' := #[.val (.int (Int32.ofNat v)), .val (.int (Int32.ofNat e)), .val (.ref t), .unset, .unset, .val (.int (Int32.ofNat e)), .val (.int (0 : Int32))]) W d26_12 rfl rfl ?_
  refine gIload W d26_14 rfl rfl ?_
  refine gIfNo W d26_16 ((if0 _ _).trans (teq rfl).2) rfl ?_
  refine gIloadN W d26_19 rfl rfl ?_
  refine gIneg (z := (-Int32.ofNat v)) W d26_20 rfl rfl ?_
  refine gIstoreN (ls' := #[.val (.int (-Int32.ofNat v)), .val (.int (Int32.ofNat e)), .val (.ref t), .unset, .unset, .val (.int (Int32.ofNat e)), .val (.int (0 : Int32))]) W d26_21 rfl rfl ?_
  refine gIloadN W d26_22 rfl rfl ?_
  refine gBipush (z := (-100 : Int32)) W d26_23 rfl rfl ?_
  by_cases big : v < 100
  · refine gIcmpYes (pc' := 72) W d26_25 (tlt ((neg_lt (P := 100) (by decide) (by omega)).mpr big)).2.2.1 (by decide) rfl ?_
    refine gAloadN W d26_72 rfl rfl rfl ?_
    refine gIinc (z := (Int32.ofNat (e - 1))) (ls' := #[.val (.int (-Int32.ofNat v)), .val (.int (Int32.ofNat e)), .val (.ref t), .unset, .unset, .val (.int (Int32.ofNat (e - 1))), .val (.int (0 : Int32))]) W d26_73 rfl (ofNat_pred (n := e - 0) (m := e - 1) (by omega) (by omega)) rfl rfl ?_
    refine gIload W d26_76 rfl rfl ?_
    refine wGetS W d26_78 (ow161 hw) Via.refl SO rfl fun T213 W214 => ?_
    have f215 := AO.ext W214.old.2
    refine gIloadN W214 d26_81 rfl rfl ?_
    refine gIneg (z := (Int32.ofNat (v))) W214 d26_82 (by simp) rfl ?_
    refine wLdB (v := (.int (Int32.ofNat (48 + (v % 10))))) W214 d26_83 f215 (ofNat_inb (n := 100) (by omega) (by omega)) (by rw [ofNat_clamp (by omega)]; exact ones_at (by omega)) rfl ?_
    refine wStB (y := (Int32.ofNat (48 + (v % 10)))) W214 d26_84 (by simp) qt (ofNat_inb (by omega) (by omega)) (byte_id (by omega)) (e - 1) (ofNat_clamp (by omega)) (by first | omega | (simp only [List.length_set]; omega)) rfl fun T216 h218 W217 wr219 A220 => ?_
    refine gIloadN W217 d26_85 rfl rfl ?_
    refine gBipush (z := (-9 : Int32)) W217 d26_86 rfl rfl ?_
    by_cases l0 : v < 10
    · refine gIcmpYes (pc' := 104) W217 d26_88 (flt (fun q => absurd ((lt_neg (P := 9) (by decide) (by omega)).mp q) (by omega))).2.1 (by decide) rfl ?_
      refine gIload W217 d26_104 rfl rfl ?_
      refine gIfYes (pc' := 118) W217 d26_106 ((if0 _ _).trans (teq rfl).1) (by decide) rfl ?_
      refine gIload W217 d26_118 rfl rfl ?_
      have ek : dlen v = 1 := by omega
      have f221 : Arv Z h218 t kb .byte (Int32.ofNat M) (vs.take (e - dlen v) ++ dg v ++ vs.drop e) (.int 0) := by rw [← dig1 (vs := vs) (v := v) (e := e) (by omega) (by omega) (by omega)]; exact A220
      rw [show e - 1 = e - dlen v from by rw [ek]]
      exact wRetI (so := []) (t := .int) W217 d26_120 (by simp) rfl (by decide) (by decide) (fun _ q => nomatch q) ⟨rfl, rfl, f221⟩
    · refine gIcmpNo W217 d26_88 (tlt ((lt_neg (P := 9) (by decide) (by omega)).mpr (by omega))).2.1 rfl ?_
      refine gAloadN W217 d26_91 rfl rfl rfl ?_
      refine gIinc (z := (Int32.ofNat (e - 2))) (ls' := #[.val (.int (-Int32.ofNat v)), .val (.int (Int32.ofNat e)), .val (.ref t), .unset, .unset, .val (.int (Int32.ofNat (e - 2))), .val (.int (0 : Int32))]) W217 d26_92 rfl (ofNat_pred (n := e - 1) (m := e - 2) (by omega) (by omega)) rfl rfl ?_
      refine gIload W217 d26_95 rfl rfl ?_
      refine wGetS W217 d26_97 (ow164 hw) Via.refl SE rfl fun T222 W223 => ?_
      have f224 := AE.ext W223.old.2
      refine gIloadN W223 d26_100 rfl rfl ?_
      refine gIneg (z := (Int32.ofNat (v))) W223 d26_101 (by simp) rfl ?_
      refine wLdB (v := (.int (Int32.ofNat (48 + (v / 10))))) W223 d26_102 f224 (ofNat_inb (n := 100) (by omega) (by omega)) (by rw [ofNat_clamp (by omega)]; exact tens_at (by omega)) rfl ?_
      refine wStB (y := (Int32.ofNat (48 + (v / 10)))) W223 d26_103 (by simp) A220 (ofNat_inb (by omega) (by omega)) (byte_id (by omega)) (e - 2) (ofNat_clamp (by omega)) (by first | omega | (simp only [List.length_set]; omega)) rfl fun T225 h227 W226 wr228 A229 => ?_
      refine gIload W226 d26_104 rfl rfl ?_
      refine gIfYes (pc' := 118) W226 d26_106 ((if0 _ _).trans (teq rfl).1) (by decide) rfl ?_
      refine gIload W226 d26_118 rfl rfl ?_
      have ek : dlen v = 2 := by omega
      have f230 : Arv Z h227 t kb .byte (Int32.ofNat M) (vs.take (e - dlen v) ++ dg v ++ vs.drop e) (.int 0) := by rw [← dig2 (vs := vs) (v := v) (e := e) (by omega) (by omega) (by omega)]; exact A229
      rw [show e - 2 = e - dlen v from by rw [ek]]
      exact wRetI (so := []) (t := .int) W226 d26_120 (by simp) rfl (by decide) (by decide) (fun _ q => nomatch q) ⟨rfl, rfl, f230⟩
  · refine gIcmpNo W d26_25 (flt (fun q => big ((neg_lt (P := 100) (by decide) (by omega)).mp q))).2.2.1 rfl ?_
    refine gIloadN W d26_28 rfl rfl ?_
    refine gBipush (z := (100 : Int32)) W d26_29 rfl rfl ?_
    have hv100 : 100 ≤ v := by omega
    refine gIdiv (z := (-Int32.ofNat (v / 100))) W d26_31 (by decide) (div_neg100 hv) rfl ?_
    refine gIstoreN (ls' := #[.val (.int (-Int32.ofNat v)), .val (.int (Int32.ofNat e)), .val (.ref t), .val (.int (-Int32.ofNat (v / 100))), .unset, .val (.int (Int32.ofNat e)), .val (.int (0 : Int32))]) W d26_32 rfl rfl ?_
    refine gIloadN W d26_33 rfl rfl ?_
    refine gBipush (z := (100 : Int32)) W d26_34 rfl rfl ?_
    refine gImul (z := (-Int32.ofNat (v / 100) * 100)) W d26_36 rfl rfl ?_
    refine gIloadN W d26_37 rfl rfl ?_
    refine gIsub (z := (Int32.ofNat (v % 100))) W d26_38 (rem_neg100 hv) rfl ?_
    refine gIstore (ls' := #[.val (.int (-Int32.ofNat v)), .val (.int (Int32.ofNat e)), .val (.ref t), .val (.int (-Int32.ofNat (v / 100))), .val (.int (Int32.ofNat (v % 100))), .val (.int (Int32.ofNat e)), .val (.int (0 : Int32))]) W d26_39 rfl rfl ?_
    refine gIloadN W d26_41 rfl rfl ?_
    refine gIstoreN (ls' := #[.val (.int (-Int32.ofNat (v / 100))), .val (.int (Int32.ofNat e)), .val (.ref t), .val (.int (-Int32.ofNat (v / 100))), .val (.int (Int32.ofNat (v % 100))), .val (.int (Int32.ofNat e)), .val (.int (0 : Int32))]) W d26_42 rfl rfl ?_
    refine gAloadN W d26_43 rfl rfl rfl ?_
    refine gIinc (z := (Int32.ofNat (e - 1))) (ls' := #[.val (.int (-Int32.ofNat (v / 100))), .val (.int (Int32.ofNat e)), .val (.ref t), .val (.int (-Int32.ofNat (v / 100))), .val (.int (Int32.ofNat (v % 100))), .val (.int (Int32.ofNat (e - 1))), .val (.int (0 : Int32))]) W d26_44 rfl (ofNat_pred (n := e - 0) (m := e - 1) (by omega) (by omega)) rfl rfl ?_
    refine gIload W d26_47 rfl rfl ?_
    refine wGetS W d26_49 (ow161 hw) Via.refl SO rfl fun T231 W232 => ?_
    have f233 := AO.ext W232.old.2
    refine gIload W232 d26_52 rfl rfl ?_
    refine wLdB (v := (.int (Int32.ofNat (48 + (v % 100 % 10))))) W232 d26_54 f233 (ofNat_inb (n := 100) (by omega) (by omega)) (by rw [ofNat_clamp (by omega)]; exact ones_at (by omega)) rfl ?_
    refine wStB (y := (Int32.ofNat (48 + (v % 100 % 10)))) W232 d26_55 (by simp) qt (ofNat_inb (by omega) (by omega)) (byte_id (by omega)) (e - 1) (ofNat_clamp (by omega)) (by first | omega | (simp only [List.length_set]; omega)) rfl fun T234 h236 W235 wr237 A238 => ?_
    refine gAloadN W235 d26_56 rfl rfl rfl ?_
    refine gIinc (z := (Int32.ofNat (e - 2))) (ls' := #[.val (.int (-Int32.ofNat (v / 100))), .val (.int (Int32.ofNat e)), .val (.ref t), .val (.int (-Int32.ofNat (v / 100))), .val (.int (Int32.ofNat (v % 100))), .val (.int (Int32.ofNat (e - 2))), .val (.int (0 : Int32))]) W235 d26_57 rfl (ofNat_pred (n := e - 1) (m := e - 2) (by omega) (by omega)) rfl rfl ?_
    refine gIload W235 d26_60 rfl rfl ?_
    refine wGetS W235 d26_62 (ow164 hw) Via.refl SE rfl fun T239 W240 => ?_
    have f241 := AE.ext W240.old.2
    refine gIload W240 d26_65 rfl rfl ?_
    refine wLdB (v := (.int (Int32.ofNat (48 + (v % 100 / 10))))) W240 d26_67 f241 (ofNat_inb (n := 100) (by omega) (by omega)) (by rw [ofNat_clamp (by omega)]; exact tens_at (by omega)) rfl ?_
    refine wStB (y := (Int32.ofNat (48 + (v % 100 / 10)))) W240 d26_68 (by simp) A238 (ofNat_inb (by omega) (by omega)) (byte_id (by omega)) (e - 2) (ofNat_clamp (by omega)) (by first | omega | (simp only [List.length_set]; omega)) rfl fun T242 h244 W243 wr245 A246 => ?_
    refine gGoto (pc' := 22) W243 d26_69 (by decide) rfl ?_
    refine gIloadN W243 d26_22 rfl rfl ?_
    refine gBipush (z := (-100 : Int32)) W243 d26_23 rfl rfl ?_
    refine gIcmpYes (pc' := 72) W243 d26_25 (tlt ((neg_lt (P := 100) (by decide) (by omega)).mpr (by omega))).2.2.1 (by decide) rfl ?_
    refine gAloadN W243 d26_72 rfl rfl rfl ?_
    refine gIinc (z := (Int32.ofNat (e - 3))) (ls' := #[.val (.int (-Int32.ofNat (v / 100))), .val (.int (Int32.ofNat e)), .val (.ref t), .val (.int (-Int32.ofNat (v / 100))), .val (.int (Int32.ofNat (v % 100))), .val (.int (Int32.ofNat (e - 3))), .val (.int (0 : Int32))]) W243 d26_73 rfl (ofNat_pred (n := e - 2) (m := e - 3) (by omega) (by omega)) rfl rfl ?_
    refine gIload W243 d26_76 rfl rfl ?_
    refine wGetS W243 d26_78 (ow161 hw) Via.refl SO rfl fun T247 W248 => ?_
    have f249 := AO.ext W248.old.2
    refine gIloadN W248 d26_81 rfl rfl ?_
    refine gIneg (z := (Int32.ofNat (v / 100))) W248 d26_82 (by simp) rfl ?_
    refine wLdB (v := (.int (Int32.ofNat (48 + (v / 100 % 10))))) W248 d26_83 f249 (ofNat_inb (n := 100) (by omega) (by omega)) (by rw [ofNat_clamp (by omega)]; exact ones_at (by omega)) rfl ?_
    refine wStB (y := (Int32.ofNat (48 + (v / 100 % 10)))) W248 d26_84 (by simp) A246 (ofNat_inb (by omega) (by omega)) (byte_id (by omega)) (e - 3) (ofNat_clamp (by omega)) (by first | omega | (simp only [List.length_set]; omega)) rfl fun T250 h252 W251 wr253 A254 => ?_
    refine gIloadN W251 d26_85 rfl rfl ?_
    refine gBipush (z := (-9 : Int32)) W251 d26_86 rfl rfl ?_
    by_cases l2 : v / 100 < 10
    · refine gIcmpYes (pc' := 104) W251 d26_88 (flt (fun q => absurd ((lt_neg (P := 9) (by decide) (by omega)).mp q) (by omega))).2.1 (by decide) rfl ?_
      refine gIload W251 d26_104 rfl rfl ?_
      refine gIfYes (pc' := 118) W251 d26_106 ((if0 _ _).trans (teq rfl).1) (by decide) rfl ?_
      refine gIload W251 d26_118 rfl rfl ?_
      have ek : dlen v = 3 := by omega
      have f255 : Arv Z h252 t kb .byte (Int32.ofNat M) (vs.take (e - dlen v) ++ dg v ++ vs.drop e) (.int 0) := by rw [← dig3 (vs := vs) (v := v) (e := e) (by omega) (by omega) (by omega)]; exact A254
      rw [show e - 3 = e - dlen v from by rw [ek]]
      exact wRetI (so := []) (t := .int) W251 d26_120 (by simp) rfl (by decide) (by decide) (fun _ q => nomatch q) ⟨rfl, rfl, f255⟩
    · refine gIcmpNo W251 d26_88 (tlt ((lt_neg (P := 9) (by decide) (by omega)).mpr (by omega))).2.1 rfl ?_
      refine gAloadN W251 d26_91 rfl rfl rfl ?_
      refine gIinc (z := (Int32.ofNat (e - 4))) (ls' := #[.val (.int (-Int32.ofNat (v / 100))), .val (.int (Int32.ofNat e)), .val (.ref t), .val (.int (-Int32.ofNat (v / 100))), .val (.int (Int32.ofNat (v % 100))), .val (.int (Int32.ofNat (e - 4))), .val (.int (0 : Int32))]) W251 d26_92 rfl (ofNat_pred (n := e - 3) (m := e - 4) (by omega) (by omega)) rfl rfl ?_
      refine gIload W251 d26_95 rfl rfl ?_
      refine wGetS W251 d26_97 (ow164 hw) Via.refl SE rfl fun T256 W257 => ?_
      have f258 := AE.ext W257.old.2
      refine gIloadN W257 d26_100 rfl rfl ?_
      refine gIneg (z := (Int32.ofNat (v / 100))) W257 d26_101 (by simp) rfl ?_
      refine wLdB (v := (.int (Int32.ofNat (48 + (v / 100 / 10))))) W257 d26_102 f258 (ofNat_inb (n := 100) (by omega) (by omega)) (by rw [ofNat_clamp (by omega)]; exact tens_at (by omega)) rfl ?_
      refine wStB (y := (Int32.ofNat (48 + (v / 100 / 10)))) W257 d26_103 (by simp) A254 (ofNat_inb (by omega) (by omega)) (byte_id (by omega)) (e - 4) (ofNat_clamp (by omega)) (by first | omega | (simp only [List.length_set]; omega)) rfl fun T259 h261 W260 wr262 A263 => ?_
      refine gIload W260 d26_104 rfl rfl ?_
      refine gIfYes (pc' := 118) W260 d26_106 ((if0 _ _).trans (teq rfl).1) (by decide) rfl ?_
      refine gIload W260 d26_118 rfl rfl ?_
      have ek : dlen v = 4 := by omega
      have f264 : Arv Z h261 t kb .byte (Int32.ofNat M) (vs.take (e - dlen v) ++ dg v ++ vs.drop e) (.int 0) := by rw [← dig4 (vs := vs) (v := v) (e := e) (by omega) (by omega) (by omega)]; exact A263
      rw [show e - 4 = e - dlen v from by rw [ek]]
      exact wRetI (so := []) (t := .int) W260 d26_120 (by simp) rfl (by decide) (by decide) (fun _ q => nomatch q) ⟨rfl, rfl, f264⟩
theorem d25_0 : decode jdk_68_method_68_code 0 = .ok (.getstatic 18, 3) := by decide +kernel
theorem d25_3 : decode jdk_68_method_68_code 3 = .ok (.ifCond .eq 14, 3) := by decide +kernel
theorem d25_6 : decode jdk_68_method_68_code 6 = .ok (.aload_n 0, 1) := by decide +kernel
theorem d25_7 : decode jdk_68_method_68_code 7 = .ok (.getfield 22, 3) := by decide +kernel
theorem d25_10 : decode jdk_68_method_68_code 10 = .ok (.ifCond .ne 7, 3) := by decide +kernel
theorem d25_13 : decode jdk_68_method_68_code 13 = .ok (.iconst 1, 1) := by decide +kernel
theorem d25_14 : decode jdk_68_method_68_code 14 = .ok (.goto 4, 3) := by decide +kernel
theorem d25_18 : decode jdk_68_method_68_code 18 = .ok (.ireturn, 1) := by decide +kernel
theorem oef_ors_il (m_ : MethodId) (a : Addr)  : (entryFrame m_ #[(.ref a)] 1).locals = #[.val (.ref a)] := by first | (simp [entryFrame, argsToLocals, Value.category]; done) | rfl
set_option maxRecDepth 65536 in
set_option maxHeartbeats 40000000 in
theorem ors_il (l : Launch) (Z : State) (a0 : Array Value) (hw : ∀ d ∈ tables_1, d.before a0 Z = true) (hE : EW Z a0 consts_1) (a : Addr) (z : Int32) (h : Heap) (hO : Old Z Z.heap.size h) (SC : (Sta Z Z.heap "java/lang/String" "COMPACT_STRINGS" "Z" (.int z))) (hz : (¬ z = 0)) (q2 : Fld Z h a "java/lang/AbstractStringBuilder" "coder" "B" (.int (0 : Int32)))  :
    Ct l Z consts_1 (⟨"java/lang/AbstractStringBuilder", "isLatin1", "()Z"⟩ : MethodName) jdk_68_method_68_code 1 (Option.some Jvm.ClassFile.FieldType.boolean) ⟨0, 0, 0, 0⟩ #[(.ref a)] h [] (fun rv' hp' so' => rv' = some (.int (1 : Int32)) ∧ so' = []) := by
  refine Ct.mk "java/lang/AbstractStringBuilder" "isLatin1" rfl rfl (a0 := a0) (plainFor_of_name opn0) hO hE (fun x q => nomatch q) ?_
  intro K T W
  rw [oef_ors_il]
  refine wGetS W d25_0 (ow77 hw) Via.refl SC rfl fun T265 W266 => ?_
  refine gIfNo W266 d25_3 ((if0 _ _).trans (feq hz).1) rfl ?_
  refine gAloadN W266 d25_6 rfl rfl rfl ?_
  refine wGetF W266 d25_7 (ow82 hw) Via.refl q2 rfl fun T267 W268 => ?_
  refine gIfNo W268 d25_10 ((if0 _ _).trans (teq rfl).2) rfl ?_
  refine gIconst (z := (1 : Int32)) W268 d25_13 rfl rfl ?_
  refine gGoto (pc' := 18) W268 d25_14 (by decide) rfl ?_
  exact wRetI (so := []) (t := .boolean) W268 d25_18 (by simp) rfl (by decide) (by decide) (fun _ q => nomatch q) ⟨rfl, rfl⟩
theorem d23_0 : decode jdk_68_method_32_code 0 = .ok (.aload_n 0, 1) := by decide +kernel
theorem d23_1 : decode jdk_68_method_32_code 1 = .ok (.getfield 79, 3) := by decide +kernel
theorem d23_4 : decode jdk_68_method_32_code 4 = .ok (.istore_n 2, 1) := by decide +kernel
theorem d23_5 : decode jdk_68_method_32_code 5 = .ok (.iload_n 2, 1) := by decide +kernel
theorem d23_6 : decode jdk_68_method_32_code 6 = .ok (.iload_n 1, 1) := by decide +kernel
theorem d23_7 : decode jdk_68_method_32_code 7 = .ok (.invokestatic 245, 3) := by decide +kernel
theorem ow149 {a0 : Array Value} {Z : State} (hw : ∀ d ∈ tables_1, d.before a0 Z = true) : (Jvm.Cond.methodLink "java/lang/AbstractStringBuilder" (245 : Nat) ({ cls := "java/lang/Integer", name := "stringSize", desc := "(I)I" } : Jvm.MethodName)).before a0 Z = true := hw _ (List.mem_of_getElem? (i := 149) rfl)
theorem ow151 {a0 : Array Value} {Z : State} (hw : ∀ d ∈ tables_1, d.before a0 Z = true) : (Jvm.Cond.initialized "java/lang/Integer").before a0 Z = true := hw _ (List.mem_of_getElem? (i := 151) rfl)
theorem ow152 {a0 : Array Value} {Z : State} (hw : ∀ d ∈ tables_1, d.before a0 Z = true) : (Jvm.Cond.code ({ cls := "java/lang/Integer", name := "stringSize", desc := "(I)I" } : Jvm.MethodName) jdk_33_method_13_code (4 : Nat) (Option.some Jvm.ClassFile.FieldType.int)).before a0 Z = true := hw _ (List.mem_of_getElem? (i := 152) rfl)
theorem opd7 : parseMethodDescriptor "(I)I" = some ⟨[.int], some (.int)⟩ := by decide +kernel
theorem ow150 {a0 : Array Value} {Z : State} (hw : ∀ d ∈ tables_1, d.before a0 Z = true) : (Jvm.Cond.static ({ cls := "java/lang/Integer", name := "stringSize", desc := "(I)I" } : Jvm.MethodName)).before a0 Z = true := hw _ (List.mem_of_getElem? (i := 150) rfl)
theorem d23_10 : decode jdk_68_method_32_code 10 = .ok (.iadd, 1) := by decide +kernel
theorem d23_11 : decode jdk_68_method_32_code 11 = .ok (.istore_n 3, 1) := by decide +kernel
theorem d23_12 : decode jdk_68_method_32_code 12 = .ok (.aload_n 0, 1) := by decide +kernel
theorem d23_13 : decode jdk_68_method_32_code 13 = .ok (.iload_n 3, 1) := by decide +kernel
theorem d23_14 : decode jdk_68_method_32_code 14 = .ok (.invokevirtual 100, 3) := by decide +kernel
theorem d23_17 : decode jdk_68_method_32_code 17 = .ok (.aload_n 0, 1) := by decide +kernel
theorem d23_18 : decode jdk_68_method_32_code 18 = .ok (.invokevirtual 83, 3) := by decide +kernel
theorem ow157 {a0 : Array Value} {Z : State} (hw : ∀ d ∈ tables_1, d.before a0 Z = true) : (Jvm.Cond.code ({ cls := "java/lang/AbstractStringBuilder", name := "isLatin1", desc := "()Z" } : Jvm.MethodName) jdk_68_method_68_code (1 : Nat) (Option.some Jvm.ClassFile.FieldType.boolean)).before a0 Z = true := hw _ (List.mem_of_getElem? (i := 157) rfl)
theorem opd8 : parseMethodDescriptor "()Z" = some ⟨[], some (.boolean)⟩ := by decide +kernel
theorem ow153 {a0 : Array Value} {Z : State} (hw : ∀ d ∈ tables_1, d.before a0 Z = true) : (Jvm.Cond.methodLink "java/lang/AbstractStringBuilder" (83 : Nat) ({ cls := "java/lang/AbstractStringBuilder", name := "isLatin1", desc := "()Z" } : Jvm.MethodName)).before a0 Z = true := hw _ (List.mem_of_getElem? (i := 153) rfl)
theorem ow154 {a0 : Array Value} {Z : State} (hw : ∀ d ∈ tables_1, d.before a0 Z = true) : (Jvm.Cond.declares ({ cls := "java/lang/AbstractStringBuilder", name := "isLatin1", desc := "()Z" } : Jvm.MethodName)).before a0 Z = true := hw _ (List.mem_of_getElem? (i := 154) rfl)
theorem ow156 {a0 : Array Value} {Z : State} (hw : ∀ d ∈ tables_1, d.before a0 Z = true) : (Jvm.Cond.selects "java/lang/StringBuilder" ({ cls := "java/lang/AbstractStringBuilder", name := "isLatin1", desc := "()Z" } : Jvm.MethodName) ({ cls := "java/lang/AbstractStringBuilder", name := "isLatin1", desc := "()Z" } : Jvm.MethodName)).before a0 Z = true := hw _ (List.mem_of_getElem? (i := 156) rfl)
theorem ow155 {a0 : Array Value} {Z : State} (hw : ∀ d ∈ tables_1, d.before a0 Z = true) : (Jvm.Cond.instanceMethod ({ cls := "java/lang/AbstractStringBuilder", name := "isLatin1", desc := "()Z" } : Jvm.MethodName)).before a0 Z = true := hw _ (List.mem_of_getElem? (i := 155) rfl)
theorem d23_21 : decode jdk_68_method_32_code 21 = .ok (.ifCond .eq 16, 3) := by decide +kernel
theorem d23_24 : decode jdk_68_method_32_code 24 = .ok (.iload_n 1, 1) := by decide +kernel
theorem d23_25 : decode jdk_68_method_32_code 25 = .ok (.iload_n 3, 1) := by decide +kernel
theorem d23_26 : decode jdk_68_method_32_code 26 = .ok (.aload_n 0, 1) := by decide +kernel
theorem d23_27 : decode jdk_68_method_32_code 27 = .ok (.getfield 15, 3) := by decide +kernel
theorem d23_30 : decode jdk_68_method_32_code 30 = .ok (.invokestatic 248, 3) := by decide +kernel
theorem ow158 {a0 : Array Value} {Z : State} (hw : ∀ d ∈ tables_1, d.before a0 Z = true) : (Jvm.Cond.methodLink "java/lang/AbstractStringBuilder" (248 : Nat) ({ cls := "java/lang/Integer", name := "getChars", desc := "(II[B)I" } : Jvm.MethodName)).before a0 Z = true := hw _ (List.mem_of_getElem? (i := 158) rfl)
theorem ow160 {a0 : Array Value} {Z : State} (hw : ∀ d ∈ tables_1, d.before a0 Z = true) : (Jvm.Cond.code ({ cls := "java/lang/Integer", name := "getChars", desc := "(II[B)I" } : Jvm.MethodName) jdk_33_method_12_code (7 : Nat) (Option.some Jvm.ClassFile.FieldType.int)).before a0 Z = true := hw _ (List.mem_of_getElem? (i := 160) rfl)
theorem opd9 : parseMethodDescriptor "(II[B)I" = some ⟨[.int, .int, .array .byte], some (.int)⟩ := by decide +kernel
theorem ow159 {a0 : Array Value} {Z : State} (hw : ∀ d ∈ tables_1, d.before a0 Z = true) : (Jvm.Cond.static ({ cls := "java/lang/Integer", name := "getChars", desc := "(II[B)I" } : Jvm.MethodName)).before a0 Z = true := hw _ (List.mem_of_getElem? (i := 159) rfl)
theorem d23_33 : decode jdk_68_method_32_code 33 = .ok (.pop, 1) := by decide +kernel
theorem d23_34 : decode jdk_68_method_32_code 34 = .ok (.goto 14, 3) := by decide +kernel
theorem d23_48 : decode jdk_68_method_32_code 48 = .ok (.aload_n 0, 1) := by decide +kernel
theorem d23_49 : decode jdk_68_method_32_code 49 = .ok (.iload_n 3, 1) := by decide +kernel
theorem d23_50 : decode jdk_68_method_32_code 50 = .ok (.putfield 79, 3) := by decide +kernel
theorem d23_53 : decode jdk_68_method_32_code 53 = .ok (.aload_n 0, 1) := by decide +kernel
theorem d23_54 : decode jdk_68_method_32_code 54 = .ok (.areturn, 1) := by decide +kernel
theorem oef_ors_ai (m_ : MethodId) (a : Addr) (y0_ : Int32)  : (entryFrame m_ #[(.ref a), (.int y0_)] 4).locals = #[.val (.ref a), .val (.int y0_), .unset, .unset] := by first | (simp [entryFrame, argsToLocals, Value.category]; done) | rfl
set_option maxRecDepth 65536 in
set_option maxHeartbeats 40000000 in
theorem ors_ai (l : Launch) (Z : State) (a0 : Array Value) (hw : ∀ d ∈ tables_1, d.before a0 Z = true) (hE : EW Z a0 consts_1) (a : Addr) (t : Addr) (kb : ClassId) (M : Nat) (vs : List Value) (v : Nat) (i : Nat) (z : Int32) (d1 : Addr) (k1 : ClassId) (d2 : Addr) (k2 : ClassId) (h : Heap) (hO : Old Z Z.heap.size h) (SC : (Sta Z Z.heap "java/lang/String" "COMPACT_STRINGS" "Z" (.int z))) (hz : (¬ z = 0)) (q2 : Exa Z h a "java/lang/StringBuilder") (q3 : Fld Z h a "java/lang/AbstractStringBuilder" "value" "[B" (.ref t)) (q4 : Fld Z h a "java/lang/AbstractStringBuilder" "coder" "B" (.int (0 : Int32))) (q5 : Arv Z h t kb .byte (Int32.ofNat M) vs (.int 0)) (q6 : Fld Z h a "java/lang/AbstractStringBuilder" "count" "I" (.int (Int32.ofNat i))) (SO : (Sta Z Z.heap "java/lang/Integer" "DigitOnes" "[B" (.ref d1))) (AO : (Arv Z Z.heap d1 k1 .byte (100 : Int32) ones (.int 0))) (SE : (Sta Z Z.heap "java/lang/Integer" "DigitTens" "[B" (.ref d2))) (AE : (Arv Z Z.heap d2 k2 .byte (100 : Int32) tens (.int 0))) (hv : (v ≤ 9999)) (hvs : (vs.length = M)) (hi : (i + dlen v ≤ M)) (hM : (M ≤ 4000)) (ge_a : Z.heap.size ≤ a) (ge_t : Z.heap.size ≤ t) :
    Ct l Z consts_1 (⟨"java/lang/AbstractStringBuilder", "append", "(I)Ljava/lang/AbstractStringBuilder;"⟩ : MethodName) jdk_68_method_32_code 4 (Option.some (Jvm.ClassFile.FieldType.object "java/lang/AbstractStringBuilder")) ⟨2, 0, 0, 60⟩ #[(.ref a), (.int (Int32.ofNat v))] h [a, t] (fun rv' hp' so' => rv' = some (.ref a) ∧ so' = [] ∧ Exa Z hp' a "java/lang/StringBuilder" ∧ Fld Z hp' a "java/lang/AbstractStringBuilder" "value" "[B" (.ref t) ∧ Fld Z hp' a "java/lang/AbstractStringBuilder" "coder" "B" (.int (0 : Int32)) ∧ Fld Z hp' a "java/lang/AbstractStringBuilder" "count" "I" (.int (Int32.ofNat (i + dlen v))) ∧ Arv Z hp' t kb .byte (Int32.ofNat M) (vs.take i ++ dg v ++ vs.drop (i + dlen v)) (.int 0)) := by
  refine Ct.mk "java/lang/AbstractStringBuilder" "append" rfl rfl (a0 := a0) (plainFor_of_name opn0) hO hE (fun x q => by simp at q; rcases q with rfl | rfl <;> assumption) ?_
  intro K T W
  rw [oef_ors_ai]
  refine gAloadN W d23_0 rfl rfl rfl ?_
  refine wGetF W d23_1 (ow113 hw) Via.refl q6 rfl fun T269 W270 => ?_
  refine gIstoreN (ls' := #[.val (.ref a), .val (.int (Int32.ofNat v)), .val (.int (Int32.ofNat i)), .unset]) W270 d23_4 rfl rfl ?_
  refine gIloadN W270 d23_5 rfl rfl ?_
  refine gIloadN W270 d23_6 rfl rfl ?_
  refine wStatic (y := (⟨"java/lang/Integer", "stringSize", "(I)I"⟩ : MethodName)) (Wd := 1) (argsL := [(.int (Int32.ofNat v))]) (rest := [(.int (Int32.ofNat i))]) W270 d23_7 (ow149 hw) (ow150 hw) (ow151 hw) (ow152 hw) (by decide) (Cb.ct (ors_ss l Z a0 hw hE (v) h W270.old hv ) (ow152 hw) (ow151 hw) hE (by decide) (by decide)) (by simp) rfl (lenOf opd7 rfl) rfl (Nat.le_of_eq rfl) (by decide) (by decide) rfl fun v275 so276 T271 h273 W272 kp274 sp277 q278 => ?_
  obtain ⟨rfl, rfl⟩ := q278
  show Go K _ T271 10 #[.val (.ref a), .val (.int (Int32.ofNat v)), .val (.int (Int32.ofNat i)), .unset] [(.int (Int32.ofNat (dlen v))), (.int (Int32.ofNat i))]
  refine gIadd (z := (Int32.ofNat (i + dlen v))) W272 d23_10 ofNat_add rfl ?_
  refine gIstoreN (ls' := #[.val (.ref a), .val (.int (Int32.ofNat v)), .val (.int (Int32.ofNat i)), .val (.int (Int32.ofNat (i + dlen v)))]) W272 d23_11 rfl rfl ?_
  refine gAloadN W272 d23_12 rfl rfl rfl ?_
  refine gIloadN W272 d23_13 rfl rfl ?_
  have f279 := q2.keep kp274
  have f280 := q3.keep kp274 nin0
  have f281 := q4.keep kp274 nin0
  have f282 := q5.keep kp274 nin0
  refine wPrivate (y := (⟨"java/lang/AbstractStringBuilder", "ensureCapacityInternal", "(I)V"⟩ : MethodName)) (Wd := 0) (a := a) (argsL := [(.int (Int32.ofNat (i + dlen v)))]) (rest := []) W272 d23_14 (ow115 hw) (ow116 hw) (ow118 hw) (ow117 hw) (ow119 hw) (by decide) (Cb.ct (ors_en l Z a0 hw hE (a) (t) (kb) (M) (vs) ((Int32.ofNat (i + dlen v))) h273 W272.old f279 f280 f281 f282 (ofNat_room hi hM) ) (ow119 hw) (ow74 hw) hE (by decide) (by decide)) f279 (by simp) rfl (lenOf opd0 rfl) rfl (Nat.le_of_eq rfl) (by decide) (by decide) rfl fun v287 so288 T283 h285 W284 kp286 sp289 q290 => ?_
  obtain ⟨rfl, rfl⟩ := q290
  show Go K _ T283 17 #[.val (.ref a), .val (.int (Int32.ofNat v)), .val (.int (Int32.ofNat i)), .val (.int (Int32.ofNat (i + dlen v)))] []
  refine gAloadN W284 d23_17 rfl rfl rfl ?_
  have f291 := f281.keep kp286 nin0
  have f300 := f279.keep kp286
  refine wVirtual (y := (⟨"java/lang/AbstractStringBuilder", "isLatin1", "()Z"⟩ : MethodName)) (z := (⟨"java/lang/AbstractStringBuilder", "isLatin1", "()Z"⟩ : MethodName)) (Wd := 0) (a := a) (argsL := []) (rest := []) W284 d23_18 (ow153 hw) (ow154 hw) (ow156 hw) (ow155 hw) (nfS (ow156 hw)) (by decide) (Cb.ct (ors_il l Z a0 hw hE (a) (z) h285 W284.old SC hz f291 ) (ow157 hw) (ow74 hw) hE (by decide) (by decide)) f300 (by simp) rfl (lenOf opd8 rfl) rfl (Nat.le_of_eq rfl) (by decide) (by decide) rfl fun v296 so297 T292 h294 W293 kp295 sp298 q299 => ?_
  obtain ⟨rfl, rfl⟩ := q299
  show Go K _ T292 21 #[.val (.ref a), .val (.int (Int32.ofNat v)), .val (.int (Int32.ofNat i)), .val (.int (Int32.ofNat (i + dlen v)))] [(.int (1 : Int32))]
  refine gIfNo W293 d23_21 ((if0 _ _).trans (feq (by decide)).1) rfl ?_
  refine gIloadN W293 d23_24 rfl rfl ?_
  refine gIloadN W293 d23_25 rfl rfl ?_
  refine gAloadN W293 d23_26 rfl rfl rfl ?_
  have f301 := f280.keep kp286 nin0
  have f302 := f301.keep kp295 nin0
  refine wGetF W293 d23_27 (ow80 hw) Via.refl f302 rfl fun T303 W304 => ?_
  have f305 := f282.keep kp286 nin0
  have f306 := f305.keep kp295 nin0
  refine wStatic (y := (⟨"java/lang/Integer", "getChars", "(II[B)I"⟩ : MethodName)) (Wd := 0) (argsL := [(.int (Int32.ofNat v)), (.int (Int32.ofNat (i + dlen v))), (.ref t)]) (rest := []) W304 d23_30 (ow158 hw) (ow159 hw) (ow151 hw) (ow160 hw) (by decide) (Cb.ct (ors_gc l Z a0 hw hE (v) ((i + dlen v)) (t) (kb) (M) (vs) (d1) (k1) (d2) (k2) h294 W304.old SO AO SE AE f306 hv (by omega) hi hM hvs ge_t) (ow160 hw) (ow151 hw) hE (by decide) (by decide)) (by simp) rfl (lenOf opd9 rfl) rfl (Nat.le_of_eq rfl) (by decide) (by decide) rfl fun v311 so312 T307 h309 W308 kp310 sp313 q314 => ?_
  obtain ⟨rfl, rfl, f315⟩ := q314
  show Go K _ T307 33 #[.val (.ref a), .val (.int (Int32.ofNat v)), .val (.int (Int32.ofNat i)), .val (.int (Int32.ofNat (i + dlen v)))] [(.int (Int32.ofNat ((i + dlen v) - dlen v)))]
  have f316 : Arv Z h309 t kb .byte (Int32.ofNat M) (vs.take i ++ dg v ++ vs.drop (i + dlen v)) (.int 0) := by rw [show vs.take i = vs.take (i + dlen v - dlen v) from by rw [Nat.add_sub_cancel]]; exact f315
  refine gPop W308 d23_33 rfl rfl ?_
  refine gGoto (pc' := 48) W308 d23_34 (by decide) rfl ?_
  refine gAloadN W308 d23_48 rfl rfl rfl ?_
  refine gIloadN W308 d23_49 rfl rfl ?_
  have f317 := q6.keep kp274 nin0
  have f318 := f317.keep kp286 nin0
  have f319 := f318.keep kp295 nin0
  have f320 := f319.keep kp310 (ninS (Exa.neArv q2 q5 (ow65 hw)) nin0)
  have f321 := f300.keep kp295
  have f322 := f321.keep kp310
  refine wPutF (ty := .int) W308 d23_50 (ow113 hw) Via.refl (by simp) f320 f322 (Or.inl (ow114 hw)) (ow65 hw) (by decide) rfl rfl rfl fun T323 h325 W324 wr326 => ?_
  have f327 := Fld.same wr326 f320
  refine gAloadN W324 d23_53 rfl rfl rfl ?_
  have f328 := f322.wr wr326
  have f329 := f302.keep kp310 (ninS (Exa.neArv q2 q5 (ow65 hw)) nin0)
  have f330 := f329.other wr326 (Or.inr (slot_ne (t := .array .byte) (t' := .int) (Or.inl (ow81 hw)) (Or.inl (ow114 hw)) (by decide) (by decide) (by decide)))
  have f331 := f291.keep kp295 nin0
  have f332 := f331.keep kp310 (ninS (Exa.neArv q2 q5 (ow65 hw)) nin0)
  have f333 := f332.other wr326 (Or.inr (slot_ne (t := .byte) (t' := .int) (Or.inl (ow83 hw)) (Or.inl (ow114 hw)) (by decide) (by decide) (by decide)))
  have f334 := f316.other wr326 (Ne.symm (Exa.neArv q2 q5 (ow65 hw)))
  exact wRetA (so := []) (t := .object "java/lang/AbstractStringBuilder") W324 d23_54 rfl rfl rfl (by decide) (by decide) (fun _ q => nomatch q) ⟨rfl, rfl, f328, f330, f333, f327, f334⟩
theorem d22_0 : decode jdk_67_method_15_code 0 = .ok (.aload_n 0, 1) := by decide +kernel
theorem d22_1 : decode jdk_67_method_15_code 1 = .ok (.iload_n 1, 1) := by decide +kernel
theorem d22_2 : decode jdk_67_method_15_code 2 = .ok (.invokespecial 53, 3) := by decide +kernel
theorem ow145 {a0 : Array Value} {Z : State} (hw : ∀ d ∈ tables_1, d.before a0 Z = true) : (Jvm.Cond.methodLink "java/lang/StringBuilder" (53 : Nat) ({ cls := "java/lang/AbstractStringBuilder", name := "append", desc := "(I)Ljava/lang/AbstractStringBuilder;" } : Jvm.MethodName)).before a0 Z = true := hw _ (List.mem_of_getElem? (i := 145) rfl)
theorem ow148 {a0 : Array Value} {Z : State} (hw : ∀ d ∈ tables_1, d.before a0 Z = true) : (Jvm.Cond.code ({ cls := "java/lang/AbstractStringBuilder", name := "append", desc := "(I)Ljava/lang/AbstractStringBuilder;" } : Jvm.MethodName) jdk_68_method_32_code (4 : Nat) (Option.some (Jvm.ClassFile.FieldType.object "java/lang/AbstractStringBuilder"))).before a0 Z = true := hw _ (List.mem_of_getElem? (i := 148) rfl)
theorem opd10 : parseMethodDescriptor "(I)Ljava/lang/AbstractStringBuilder;" = some ⟨[.int], some (.object "java/lang/AbstractStringBuilder")⟩ := by decide +kernel
theorem ow146 {a0 : Array Value} {Z : State} (hw : ∀ d ∈ tables_1, d.before a0 Z = true) : (Jvm.Cond.instanceMethod ({ cls := "java/lang/AbstractStringBuilder", name := "append", desc := "(I)Ljava/lang/AbstractStringBuilder;" } : Jvm.MethodName)).before a0 Z = true := hw _ (List.mem_of_getElem? (i := 146) rfl)
theorem d22_5 : decode jdk_67_method_15_code 5 = .ok (.pop, 1) := by decide +kernel
theorem d22_6 : decode jdk_67_method_15_code 6 = .ok (.aload_n 0, 1) := by decide +kernel
theorem d22_7 : decode jdk_67_method_15_code 7 = .ok (.areturn, 1) := by decide +kernel
theorem oef_ors_bi (m_ : MethodId) (a : Addr) (y0_ : Int32)  : (entryFrame m_ #[(.ref a), (.int y0_)] 2).locals = #[.val (.ref a), .val (.int y0_)] := by first | (simp [entryFrame, argsToLocals, Value.category]; done) | rfl
set_option maxRecDepth 65536 in
set_option maxHeartbeats 40000000 in
theorem ors_bi (l : Launch) (Z : State) (a0 : Array Value) (hw : ∀ d ∈ tables_1, d.before a0 Z = true) (hE : EW Z a0 consts_1) (a : Addr) (t : Addr) (kb : ClassId) (M : Nat) (vs : List Value) (v : Nat) (i : Nat) (z : Int32) (d1 : Addr) (k1 : ClassId) (d2 : Addr) (k2 : ClassId) (h : Heap) (hO : Old Z Z.heap.size h) (SC : (Sta Z Z.heap "java/lang/String" "COMPACT_STRINGS" "Z" (.int z))) (hz : (¬ z = 0)) (q2 : Exa Z h a "java/lang/StringBuilder") (q3 : Fld Z h a "java/lang/AbstractStringBuilder" "value" "[B" (.ref t)) (q4 : Fld Z h a "java/lang/AbstractStringBuilder" "coder" "B" (.int (0 : Int32))) (q5 : Arv Z h t kb .byte (Int32.ofNat M) vs (.int 0)) (q6 : Fld Z h a "java/lang/AbstractStringBuilder" "count" "I" (.int (Int32.ofNat i))) (SO : (Sta Z Z.heap "java/lang/Integer" "DigitOnes" "[B" (.ref d1))) (AO : (Arv Z Z.heap d1 k1 .byte (100 : Int32) ones (.int 0))) (SE : (Sta Z Z.heap "java/lang/Integer" "DigitTens" "[B" (.ref d2))) (AE : (Arv Z Z.heap d2 k2 .byte (100 : Int32) tens (.int 0))) (hv : (v ≤ 9999)) (hvs : (vs.length = M)) (hi : (i + dlen v ≤ M)) (hM : (M ≤ 4000)) (ge_a : Z.heap.size ≤ a) (ge_t : Z.heap.size ≤ t) :
    Ct l Z consts_1 (⟨"java/lang/StringBuilder", "append", "(I)Ljava/lang/StringBuilder;"⟩ : MethodName) jdk_67_method_15_code 2 (Option.some (Jvm.ClassFile.FieldType.object "java/lang/StringBuilder")) ⟨3, 0, 0, 80⟩ #[(.ref a), (.int (Int32.ofNat v))] h [a, t] (fun rv' hp' so' => rv' = some (.ref a) ∧ so' = [] ∧ Exa Z hp' a "java/lang/StringBuilder" ∧ Fld Z hp' a "java/lang/AbstractStringBuilder" "value" "[B" (.ref t) ∧ Fld Z hp' a "java/lang/AbstractStringBuilder" "coder" "B" (.int (0 : Int32)) ∧ Fld Z hp' a "java/lang/AbstractStringBuilder" "count" "I" (.int (Int32.ofNat (i + dlen v))) ∧ Arv Z hp' t kb .byte (Int32.ofNat M) (vs.take i ++ dg v ++ vs.drop (i + dlen v)) (.int 0)) := by
  refine Ct.mk "java/lang/StringBuilder" "append" rfl rfl (a0 := a0) (plainFor_of_name opn1) hO hE (fun x q => by simp at q; rcases q with rfl | rfl <;> assumption) ?_
  intro K T W
  rw [oef_ors_bi]
  refine gAloadN W d22_0 rfl rfl rfl ?_
  refine gIloadN W d22_1 rfl rfl ?_
  refine wSuper (x := (⟨"java/lang/AbstractStringBuilder", "ensureCapacityInternal", "(I)V"⟩ : MethodName)) (y := (⟨"java/lang/AbstractStringBuilder", "append", "(I)Ljava/lang/AbstractStringBuilder;"⟩ : MethodName)) (z := (⟨"java/lang/AbstractStringBuilder", "ensureCapacityInternal", "(I)V"⟩ : MethodName)) (Wd := 0) (a := a) (argsL := [(.int (Int32.ofNat v))]) (rest := []) W d22_2 (ow145 hw) (ow146 hw) (ow118 hw) rfl (ow97 hw) (by decide) (ow148 hw) (by decide) (Cb.ct (ors_ai l Z a0 hw hE (a) (t) (kb) (M) (vs) (v) (i) (z) (d1) (k1) (d2) (k2) h W.old SC hz q2 q3 q4 q5 q6 SO AO SE AE hv hvs hi hM ge_a ge_t) (ow148 hw) (ow74 hw) hE (by decide) (by decide)) q2 (by simp) rfl (lenOf opd10 rfl) rfl (Nat.le_of_eq rfl) (by decide) (by decide) rfl fun v339 so340 T335 h337 W336 kp338 sp341 q342 => ?_
  obtain ⟨rfl, rfl, f343, f344, f345, f346, f347⟩ := q342
  show Go K _ T335 5 #[.val (.ref a), .val (.int (Int32.ofNat v))] [(.ref a)]
  refine gPop W336 d22_5 rfl rfl ?_
  refine gAloadN W336 d22_6 rfl rfl rfl ?_
  exact wRetA (so := []) (t := .object "java/lang/StringBuilder") W336 d22_7 rfl rfl rfl (by decide) (by decide) (fun _ q => nomatch q) ⟨rfl, rfl, f343, f344, f345, f346, f347⟩
-- CUT
theorem d36_0 : decode jdk_29_method_69_code 0 = .ok (.iload_n 0, 1) := by decide +kernel
theorem d36_1 : decode jdk_29_method_69_code 1 = .ok (.iload_n 1, 1) := by decide +kernel
theorem d36_2 : decode jdk_29_method_69_code 2 = .ok (.if_icmp .gt 7, 3) := by decide +kernel
theorem d36_5 : decode jdk_29_method_69_code 5 = .ok (.iload_n 0, 1) := by decide +kernel
theorem d36_6 : decode jdk_29_method_69_code 6 = .ok (.goto 4, 3) := by decide +kernel
theorem d36_10 : decode jdk_29_method_69_code 10 = .ok (.ireturn, 1) := by decide +kernel
theorem oef_ors_mn (m_ : MethodId) (y0_ : Int32)  : (entryFrame m_ #[(.int y0_), (.int (34 : Int32))] 2).locals = #[.val (.int y0_), .val (.int (34 : Int32))] := by first | (simp [entryFrame, argsToLocals, Value.category]; done) | rfl
set_option maxRecDepth 65536 in
set_option maxHeartbeats 40000000 in
theorem ors_mn (l : Launch) (Z : State) (a0 : Array Value) (hw : ∀ d ∈ tables_1, d.before a0 Z = true) (hE : EW Z a0 consts_1)  (h : Heap) (hO : Old Z Z.heap.size h)   :
    Ct l Z consts_1 (⟨"java/lang/Math", "min", "(II)I"⟩ : MethodName) jdk_29_method_69_code 2 (Option.some Jvm.ClassFile.FieldType.int) ⟨0, 0, 0, 0⟩ #[(.int (Int32.ofNat 16)), (.int (34 : Int32))] h [] (fun rv' hp' so' => rv' = some (.int (Int32.ofNat 16)) ∧ so' = []) := by
  refine Ct.mk "java/lang/Math" "min" rfl rfl (a0 := a0) (by decide +kernel) hO hE (fun x q => nomatch q) ?_
  intro K T W
  rw [oef_ors_mn]
  refine gIloadN W d36_0 rfl rfl ?_
  refine gIloadN W d36_1 rfl rfl ?_
  refine gIcmpNo W d36_2 (flt (by decide)).2.2.1 rfl ?_
  refine gIloadN W d36_5 rfl rfl ?_
  refine gGoto (pc' := 10) W d36_6 (by decide) rfl ?_
  exact wRetI (so := []) (t := .int) W d36_10 (by simp) rfl (by decide) (by decide) (fun _ q => nomatch q) ⟨rfl, rfl⟩
theorem opn4 : plainName "java/util/Arrays" = true := by first | (simp [plainName, overriddenIn]; done) | decide +kernel
theorem d47_0 : decode jdk_65_method_121_code 0 = .ok (.iload_n 1, 1) := by decide +kernel
theorem d47_1 : decode jdk_65_method_121_code 1 = .ok (.aload_n 0, 1) := by decide +kernel
theorem d47_2 : decode jdk_65_method_121_code 2 = .ok (.arraylength, 1) := by decide +kernel
theorem d47_3 : decode jdk_65_method_121_code 3 = .ok (.if_icmp .ne 11, 3) := by decide +kernel
theorem d47_14 : decode jdk_65_method_121_code 14 = .ok (.iload_n 1, 1) := by decide +kernel
theorem d47_15 : decode jdk_65_method_121_code 15 = .ok (.newarray .byte, 2) := by decide +kernel
theorem d47_17 : decode jdk_65_method_121_code 17 = .ok (.astore_n 2, 1) := by decide +kernel
theorem d47_18 : decode jdk_65_method_121_code 18 = .ok (.aload_n 0, 1) := by decide +kernel
theorem d47_19 : decode jdk_65_method_121_code 19 = .ok (.iconst 0, 1) := by decide +kernel
theorem d47_20 : decode jdk_65_method_121_code 20 = .ok (.aload_n 2, 1) := by decide +kernel
theorem d47_21 : decode jdk_65_method_121_code 21 = .ok (.iconst 0, 1) := by decide +kernel
theorem d47_22 : decode jdk_65_method_121_code 22 = .ok (.aload_n 0, 1) := by decide +kernel
theorem d47_23 : decode jdk_65_method_121_code 23 = .ok (.arraylength, 1) := by decide +kernel
theorem d47_24 : decode jdk_65_method_121_code 24 = .ok (.iload_n 1, 1) := by decide +kernel
theorem d47_25 : decode jdk_65_method_121_code 25 = .ok (.invokestatic 304, 3) := by decide +kernel
theorem ow203 {a0 : Array Value} {Z : State} (hw : ∀ d ∈ tables_1, d.before a0 Z = true) : (Jvm.Cond.methodLink "java/util/Arrays" (304 : Nat) ({ cls := "java/lang/Math", name := "min", desc := "(II)I" } : Jvm.MethodName)).before a0 Z = true := hw _ (List.mem_of_getElem? (i := 203) rfl)
theorem ow205 {a0 : Array Value} {Z : State} (hw : ∀ d ∈ tables_1, d.before a0 Z = true) : (Jvm.Cond.initialized "java/lang/Math").before a0 Z = true := hw _ (List.mem_of_getElem? (i := 205) rfl)
theorem ow206 {a0 : Array Value} {Z : State} (hw : ∀ d ∈ tables_1, d.before a0 Z = true) : (Jvm.Cond.code ({ cls := "java/lang/Math", name := "min", desc := "(II)I" } : Jvm.MethodName) jdk_29_method_69_code (2 : Nat) (Option.some Jvm.ClassFile.FieldType.int)).before a0 Z = true := hw _ (List.mem_of_getElem? (i := 206) rfl)
theorem opd11 : parseMethodDescriptor "(II)I" = some ⟨[.int, .int], some (.int)⟩ := by decide +kernel
theorem ow204 {a0 : Array Value} {Z : State} (hw : ∀ d ∈ tables_1, d.before a0 Z = true) : (Jvm.Cond.static ({ cls := "java/lang/Math", name := "min", desc := "(II)I" } : Jvm.MethodName)).before a0 Z = true := hw _ (List.mem_of_getElem? (i := 204) rfl)
theorem d47_28 : decode jdk_65_method_121_code 28 = .ok (.invokestatic 150, 3) := by decide +kernel
theorem ow207 {a0 : Array Value} {Z : State} (hw : ∀ d ∈ tables_1, d.before a0 Z = true) : (Jvm.Cond.methodLink "java/util/Arrays" (150 : Nat) ({ cls := "java/lang/System", name := "arraycopy", desc := "(Ljava/lang/Object;ILjava/lang/Object;II)V" } : Jvm.MethodName)).before a0 Z = true := hw _ (List.mem_of_getElem? (i := 207) rfl)
theorem d47_31 : decode jdk_65_method_121_code 31 = .ok (.aload_n 2, 1) := by decide +kernel
theorem d47_32 : decode jdk_65_method_121_code 32 = .ok (.areturn, 1) := by decide +kernel
theorem oef_ors_cpo (m_ : MethodId) (t : Addr)  : (entryFrame m_ #[(.ref t), (.int (34 : Int32))] 3).locals = #[.val (.ref t), .val (.int (34 : Int32)), .unset] := by first | (simp [entryFrame, argsToLocals, Value.category]; done) | rfl
set_option maxRecDepth 65536 in
set_option maxHeartbeats 40000000 in
theorem ors_cpo (l : Launch) (Z : State) (a0 : Array Value) (hw : ∀ d ∈ tables_1, d.before a0 Z = true) (hE : EW Z a0 consts_1) (t : Addr) (kb : ClassId) (vs : List Value) (h : Heap) (hO : Old Z Z.heap.size h) (qt : Arv Z h t kb .byte (Int32.ofNat 16) vs (.int 0)) (hvs : (vs.length = 16))  :
    Ct l Z consts_1 (⟨"java/util/Arrays", "copyOf", "([BI)[B"⟩ : MethodName) jdk_65_method_121_code 3 (Option.some (Jvm.ClassFile.FieldType.array Jvm.ClassFile.FieldType.byte)) ⟨1, 1, 34, 60⟩ #[(.ref t), (.int (34 : Int32))] h [] (fun rv' hp' so' => ∃ r : Addr, ∃ kr : ClassId, rv' = some (.ref r) ∧ so' = [r] ∧ (h.size ≤ r) ∧ Arv Z hp' r kr .byte (Int32.ofNat 34) (vs ++ List.replicate 18 (Value.int 0)) (.int 0) ∧ Exa Z hp' r "[B") := by
  refine Ct.mk "java/util/Arrays" "copyOf" rfl rfl (a0 := a0) (plainFor_of_name opn4) hO hE (fun x q => nomatch q) ?_
  intro K T W
  rw [oef_ors_cpo]
  refine gIloadN W d47_0 rfl rfl ?_
  refine gAloadN W d47_1 rfl rfl rfl ?_
  refine wLen W d47_2 qt rfl ?_
  refine gIcmpYes (pc' := 14) W d47_3 (feq (by decide)).2 (by decide) rfl ?_
  refine gIloadN W d47_14 rfl rfl ?_
  refine wNewE (cap := 34) (ad := "[B") W d47_15 (ow79 hw) (by decide) (by decide) (by decide) (by decide) (by decide) (by decide) rfl fun T348 h350 a351 k352 W349 E353 g354 A355 E356 => ?_
  have f357 : Arv Z h350 a351 k352 .byte (34 : Int32) (List.replicate 34 (.int 0)) (.int 0) := A355 34
  refine gAstoreN (ls' := #[.val (.ref t), .val (.int (34 : Int32)), .val (.ref a351)]) W349 d47_17 rfl rfl rfl ?_
  refine gAloadN W349 d47_18 rfl rfl rfl ?_
  refine gIconst (z := (0 : Int32)) W349 d47_19 rfl rfl ?_
  refine gAloadN W349 d47_20 rfl rfl rfl ?_
  refine gIconst (z := (0 : Int32)) W349 d47_21 rfl rfl ?_
  refine gAloadN W349 d47_22 rfl rfl rfl ?_
  have f358 := qt.ext E353
  refine wLen W349 d47_23 f358 rfl ?_
  refine gIloadN W349 d47_24 rfl rfl ?_
  refine wStatic (y := (⟨"java/lang/Math", "min", "(II)I"⟩ : MethodName)) (Wd := 4) (argsL := [(.int (Int32.ofNat 16)), (.int (34 : Int32))]) (rest := [(.int (0 : Int32)), (.ref a351), (.int (0 : Int32)), (.ref t)]) W349 d47_25 (ow203 hw) (ow204 hw) (ow205 hw) (ow206 hw) (by decide) (Cb.ct (ors_mn l Z a0 hw hE  h350 W349.old  ) (ow206 hw) (ow205 hw) hE (by decide) (by decide)) (by simp) rfl (lenOf opd11 rfl) rfl (Nat.le_of_eq rfl) (by decide) (by decide) rfl fun v363 so364 T359 h361 W360 kp362 sp365 q366 => ?_
  obtain ⟨rfl, rfl⟩ := q366
  show Go K _ T359 28 #[.val (.ref t), .val (.int (34 : Int32)), .val (.ref a351)] [(.int (Int32.ofNat 16)), (.int (0 : Int32)), (.ref a351), (.int (0 : Int32)), (.ref t)]
  have f367 := f358.keep kp362 nin0
  have f368 := f357.keep kp362 nin0
  refine wCopy (us := vs) W360 d47_28 (ow207 hw) (ow139 hw) (ow137 hw) (ow138 hw) (by simp) f367 f368 rfl (by decide) (by decide) (by decide) 16 34 0 0 16 (by decide) (by decide) (by decide) (by decide) (by decide) (by decide) (by decide) (range_self hvs _) (by decide) rfl (by decide) 0 (Nat.le_of_eq rfl) (by decide) rfl fun T369 h371 W370 kp372 A373 => ?_
  have f374 : Arv Z h371 a351 k352 .byte (34 : Int32) ((List.replicate 34 (Value.int 0)).take 0 ++ vs ++ (List.replicate 34 (Value.int 0)).drop (0 + 16)) (.int 0) := A373
  have f375 : Arv Z h371 a351 k352 .byte (Int32.ofNat 34) (vs ++ List.replicate 18 (Value.int 0)) (.int 0) := f374
  refine gAloadN W370 d47_31 rfl rfl rfl ?_
  have f376 := E356.keep kp362
  have f377 := f376.keep kp372
  exact wRetA (so := [a351]) (t := .array .byte) W370 d47_32 rfl rfl rfl (by decide) (by decide) (all1 ⟨by simp, (Nat.le_of_eq g354.symm)⟩ alln) ⟨a351, k352, rfl, rfl, (Nat.le_of_eq g354.symm), f375, f377⟩
theorem d46_0 : decode jdk_29_method_65_code 0 = .ok (.iload_n 0, 1) := by decide +kernel
theorem d46_1 : decode jdk_29_method_65_code 1 = .ok (.iload_n 1, 1) := by decide +kernel
theorem d46_2 : decode jdk_29_method_65_code 2 = .ok (.if_icmp .lt 7, 3) := by decide +kernel
theorem d46_9 : decode jdk_29_method_65_code 9 = .ok (.iload_n 1, 1) := by decide +kernel
theorem d46_10 : decode jdk_29_method_65_code 10 = .ok (.ireturn, 1) := by decide +kernel
theorem oef_ors_mx17 (m_ : MethodId)   : (entryFrame m_ #[(.int (1 : Int32)), (.int (18 : Int32))] 2).locals = #[.val (.int (1 : Int32)), .val (.int (18 : Int32))] := by first | (simp [entryFrame, argsToLocals, Value.category]; done) | rfl
set_option maxRecDepth 65536 in
set_option maxHeartbeats 40000000 in
theorem ors_mx17 (l : Launch) (Z : State) (a0 : Array Value) (hw : ∀ d ∈ tables_1, d.before a0 Z = true) (hE : EW Z a0 consts_1)  (h : Heap) (hO : Old Z Z.heap.size h)   :
    Ct l Z consts_1 (⟨"java/lang/Math", "max", "(II)I"⟩ : MethodName) jdk_29_method_65_code 2 (Option.some Jvm.ClassFile.FieldType.int) ⟨0, 0, 0, 0⟩ #[(.int (1 : Int32)), (.int (18 : Int32))] h [] (fun rv' hp' so' => rv' = some (.int (18 : Int32)) ∧ so' = []) := by
  refine Ct.mk "java/lang/Math" "max" rfl rfl (a0 := a0) (by decide +kernel) hO hE (fun x q => nomatch q) ?_
  intro K T W
  rw [oef_ors_mx17]
  refine gIloadN W d46_0 rfl rfl ?_
  refine gIloadN W d46_1 rfl rfl ?_
  refine gIcmpYes (pc' := 9) W d46_2 (tlt (by decide)).1 (by decide) rfl ?_
  refine gIloadN W d46_9 rfl rfl ?_
  exact wRetI (so := []) (t := .int) W d46_10 (by simp) rfl (by decide) (by decide) (fun _ q => nomatch q) ⟨rfl, rfl⟩
theorem opn5 : plainName "jdk/internal/util/ArraysSupport" = true := by first | (simp [plainName, overriddenIn]; done) | decide +kernel
theorem d45_0 : decode jdk_48_method_27_code 0 = .ok (.iload_n 0, 1) := by decide +kernel
theorem d45_1 : decode jdk_48_method_27_code 1 = .ok (.iload_n 1, 1) := by decide +kernel
theorem d45_2 : decode jdk_48_method_27_code 2 = .ok (.iload_n 2, 1) := by decide +kernel
theorem d45_3 : decode jdk_48_method_27_code 3 = .ok (.invokestatic 194, 3) := by decide +kernel
theorem ow250 {a0 : Array Value} {Z : State} (hw : ∀ d ∈ tables_1, d.before a0 Z = true) : (Jvm.Cond.methodLink "jdk/internal/util/ArraysSupport" (194 : Nat) ({ cls := "java/lang/Math", name := "max", desc := "(II)I" } : Jvm.MethodName)).before a0 Z = true := hw _ (List.mem_of_getElem? (i := 250) rfl)
theorem ow252 {a0 : Array Value} {Z : State} (hw : ∀ d ∈ tables_1, d.before a0 Z = true) : (Jvm.Cond.code ({ cls := "java/lang/Math", name := "max", desc := "(II)I" } : Jvm.MethodName) jdk_29_method_65_code (2 : Nat) (Option.some Jvm.ClassFile.FieldType.int)).before a0 Z = true := hw _ (List.mem_of_getElem? (i := 252) rfl)
theorem ow251 {a0 : Array Value} {Z : State} (hw : ∀ d ∈ tables_1, d.before a0 Z = true) : (Jvm.Cond.static ({ cls := "java/lang/Math", name := "max", desc := "(II)I" } : Jvm.MethodName)).before a0 Z = true := hw _ (List.mem_of_getElem? (i := 251) rfl)
theorem d45_6 : decode jdk_48_method_27_code 6 = .ok (.iadd, 1) := by decide +kernel
theorem d45_7 : decode jdk_48_method_27_code 7 = .ok (.istore_n 3, 1) := by decide +kernel
theorem d45_8 : decode jdk_48_method_27_code 8 = .ok (.iconst 0, 1) := by decide +kernel
theorem d45_9 : decode jdk_48_method_27_code 9 = .ok (.iload_n 3, 1) := by decide +kernel
theorem d45_10 : decode jdk_48_method_27_code 10 = .ok (.if_icmp .ge 11, 3) := by decide +kernel
theorem d45_13 : decode jdk_48_method_27_code 13 = .ok (.iload_n 3, 1) := by decide +kernel
theorem d45_14 : decode jdk_48_method_27_code 14 = .ok (.ldc 200, 2) := by decide +kernel
theorem ow253 {a0 : Array Value} {Z : State} (hw : ∀ d ∈ tables_1, d.before a0 Z = true) : (Jvm.Cond.constant "jdk/internal/util/ArraysSupport" (200 : Nat) (2147483639 : Int32)).before a0 Z = true := hw _ (List.mem_of_getElem? (i := 253) rfl)
theorem d45_16 : decode jdk_48_method_27_code 16 = .ok (.if_icmp .gt 5, 3) := by decide +kernel
theorem d45_19 : decode jdk_48_method_27_code 19 = .ok (.iload_n 3, 1) := by decide +kernel
theorem d45_20 : decode jdk_48_method_27_code 20 = .ok (.ireturn, 1) := by decide +kernel
theorem oef_ors_nl17 (m_ : MethodId) (y0_ : Int32)  : (entryFrame m_ #[(.int y0_), (.int (1 : Int32)), (.int (18 : Int32))] 4).locals = #[.val (.int y0_), .val (.int (1 : Int32)), .val (.int (18 : Int32)), .unset] := by first | (simp [entryFrame, argsToLocals, Value.category]; done) | rfl
set_option maxRecDepth 65536 in
set_option maxHeartbeats 40000000 in
theorem ors_nl17 (l : Launch) (Z : State) (a0 : Array Value) (hw : ∀ d ∈ tables_1, d.before a0 Z = true) (hE : EW Z a0 consts_1)  (h : Heap) (hO : Old Z Z.heap.size h)   :
    Ct l Z consts_1 (⟨"jdk/internal/util/ArraysSupport", "newLength", "(III)I"⟩ : MethodName) jdk_48_method_27_code 4 (Option.some Jvm.ClassFile.FieldType.int) ⟨1, 0, 0, 20⟩ #[(.int (Int32.ofNat 16)), (.int (1 : Int32)), (.int (18 : Int32))] h [] (fun rv' hp' so' => rv' = some (.int (34 : Int32)) ∧ so' = []) := by
  refine Ct.mk "jdk/internal/util/ArraysSupport" "newLength" rfl rfl (a0 := a0) (plainFor_of_name opn5) hO hE (fun x q => nomatch q) ?_
  intro K T W
  rw [oef_ors_nl17]
  refine gIloadN W d45_0 rfl rfl ?_
  refine gIloadN W d45_1 rfl rfl ?_
  refine gIloadN W d45_2 rfl rfl ?_
  refine wStatic (y := (⟨"java/lang/Math", "max", "(II)I"⟩ : MethodName)) (Wd := 1) (argsL := [(.int (1 : Int32)), (.int (18 : Int32))]) (rest := [(.int (Int32.ofNat 16))]) W d45_3 (ow250 hw) (ow251 hw) (ow205 hw) (ow252 hw) (by decide) (Cb.ct (ors_mx17 l Z a0 hw hE  h W.old  ) (ow252 hw) (ow205 hw) hE (by decide) (by decide)) (by simp) rfl (lenOf opd11 rfl) rfl (Nat.le_of_eq rfl) (by decide) (by decide) rfl fun v382 so383 T378 h380 W379 kp381 sp384 q385 => ?_
  obtain ⟨rfl, rfl⟩ := q385
  show Go K _ T378 6 #[.val (.int (Int32.ofNat 16)), .val (.int (1 : Int32)), .val (.int (18 : Int32)), .unset] [(.int (18 : Int32)), (.int (Int32.ofNat 16))]
  refine gIadd (z := (34 : Int32)) W379 d45_6 (by decide) rfl ?_
  refine gIstoreN (ls' := #[.val (.int (Int32.ofNat 16)), .val (.int (1 : Int32)), .val (.int (18 : Int32)), .val (.int (34 : Int32))]) W379 d45_7 rfl rfl ?_
  refine gIconst (z := (0 : Int32)) W379 d45_8 rfl rfl ?_
  refine gIloadN W379 d45_9 rfl rfl ?_
  refine gIcmpNo W379 d45_10 (tlt (by decide)).2.1 rfl ?_
  refine gIloadN W379 d45_13 rfl rfl ?_
  refine wLdcI (v := (2147483639 : Int32)) W379 d45_14 (ow253 hw) rfl ?_
  refine gIcmpNo W379 d45_16 (flt (by decide)).2.2.1 rfl ?_
  refine gIloadN W379 d45_19 rfl rfl ?_
  exact wRetI (so := []) (t := .int) W379 d45_20 (by simp) rfl (by decide) (by decide) (fun _ q => nomatch q) ⟨rfl, rfl⟩
theorem d44_0 : decode jdk_68_method_10_code 0 = .ok (.aload_n 0, 1) := by decide +kernel
theorem d44_1 : decode jdk_68_method_10_code 1 = .ok (.getfield 15, 3) := by decide +kernel
theorem d44_4 : decode jdk_68_method_10_code 4 = .ok (.arraylength, 1) := by decide +kernel
theorem d44_5 : decode jdk_68_method_10_code 5 = .ok (.istore_n 2, 1) := by decide +kernel
theorem d44_6 : decode jdk_68_method_10_code 6 = .ok (.iload_n 1, 1) := by decide +kernel
theorem d44_7 : decode jdk_68_method_10_code 7 = .ok (.aload_n 0, 1) := by decide +kernel
theorem d44_8 : decode jdk_68_method_10_code 8 = .ok (.getfield 22, 3) := by decide +kernel
theorem d44_11 : decode jdk_68_method_10_code 11 = .ok (.ishl, 1) := by decide +kernel
theorem d44_12 : decode jdk_68_method_10_code 12 = .ok (.istore_n 3, 1) := by decide +kernel
theorem d44_13 : decode jdk_68_method_10_code 13 = .ok (.iload_n 3, 1) := by decide +kernel
theorem d44_14 : decode jdk_68_method_10_code 14 = .ok (.iload_n 2, 1) := by decide +kernel
theorem d44_15 : decode jdk_68_method_10_code 15 = .ok (.isub, 1) := by decide +kernel
theorem d44_16 : decode jdk_68_method_10_code 16 = .ok (.istore 4, 2) := by decide +kernel
theorem d44_18 : decode jdk_68_method_10_code 18 = .ok (.iload_n 2, 1) := by decide +kernel
theorem d44_19 : decode jdk_68_method_10_code 19 = .ok (.iload 4, 2) := by decide +kernel
theorem d44_21 : decode jdk_68_method_10_code 21 = .ok (.iload_n 2, 1) := by decide +kernel
theorem d44_22 : decode jdk_68_method_10_code 22 = .ok (.iconst 2, 1) := by decide +kernel
theorem d44_23 : decode jdk_68_method_10_code 23 = .ok (.aload_n 0, 1) := by decide +kernel
theorem d44_24 : decode jdk_68_method_10_code 24 = .ok (.getfield 22, 3) := by decide +kernel
theorem d44_27 : decode jdk_68_method_10_code 27 = .ok (.ishl, 1) := by decide +kernel
theorem d44_28 : decode jdk_68_method_10_code 28 = .ok (.iadd, 1) := by decide +kernel
theorem d44_29 : decode jdk_68_method_10_code 29 = .ok (.invokestatic 114, 3) := by decide +kernel
theorem ow246 {a0 : Array Value} {Z : State} (hw : ∀ d ∈ tables_1, d.before a0 Z = true) : (Jvm.Cond.methodLink "java/lang/AbstractStringBuilder" (114 : Nat) ({ cls := "jdk/internal/util/ArraysSupport", name := "newLength", desc := "(III)I" } : Jvm.MethodName)).before a0 Z = true := hw _ (List.mem_of_getElem? (i := 246) rfl)
theorem ow248 {a0 : Array Value} {Z : State} (hw : ∀ d ∈ tables_1, d.before a0 Z = true) : (Jvm.Cond.initialized "jdk/internal/util/ArraysSupport").before a0 Z = true := hw _ (List.mem_of_getElem? (i := 248) rfl)
theorem ow249 {a0 : Array Value} {Z : State} (hw : ∀ d ∈ tables_1, d.before a0 Z = true) : (Jvm.Cond.code ({ cls := "jdk/internal/util/ArraysSupport", name := "newLength", desc := "(III)I" } : Jvm.MethodName) jdk_48_method_27_code (4 : Nat) (Option.some Jvm.ClassFile.FieldType.int)).before a0 Z = true := hw _ (List.mem_of_getElem? (i := 249) rfl)
theorem opd12 : parseMethodDescriptor "(III)I" = some ⟨[.int, .int, .int], some (.int)⟩ := by decide +kernel
theorem ow247 {a0 : Array Value} {Z : State} (hw : ∀ d ∈ tables_1, d.before a0 Z = true) : (Jvm.Cond.static ({ cls := "jdk/internal/util/ArraysSupport", name := "newLength", desc := "(III)I" } : Jvm.MethodName)).before a0 Z = true := hw _ (List.mem_of_getElem? (i := 247) rfl)
theorem d44_32 : decode jdk_68_method_10_code 32 = .ok (.istore 5, 2) := by decide +kernel
theorem d44_34 : decode jdk_68_method_10_code 34 = .ok (.iload 5, 2) := by decide +kernel
theorem d44_36 : decode jdk_68_method_10_code 36 = .ok (.ldc 39, 2) := by decide +kernel
theorem ow254 {a0 : Array Value} {Z : State} (hw : ∀ d ∈ tables_1, d.before a0 Z = true) : (Jvm.Cond.constant "java/lang/AbstractStringBuilder" (39 : Nat) (2147483647 : Int32)).before a0 Z = true := hw _ (List.mem_of_getElem? (i := 254) rfl)
theorem d44_38 : decode jdk_68_method_10_code 38 = .ok (.if_icmp .ne 13, 3) := by decide +kernel
theorem d44_51 : decode jdk_68_method_10_code 51 = .ok (.iload 5, 2) := by decide +kernel
theorem d44_53 : decode jdk_68_method_10_code 53 = .ok (.aload_n 0, 1) := by decide +kernel
theorem d44_54 : decode jdk_68_method_10_code 54 = .ok (.getfield 22, 3) := by decide +kernel
theorem d44_57 : decode jdk_68_method_10_code 57 = .ok (.ishr, 1) := by decide +kernel
theorem d44_58 : decode jdk_68_method_10_code 58 = .ok (.ireturn, 1) := by decide +kernel
theorem oef_ors_nc17 (m_ : MethodId) (a : Addr)  : (entryFrame m_ #[(.ref a), (.int (17 : Int32))] 6).locals = #[.val (.ref a), .val (.int (17 : Int32)), .unset, .unset, .unset, .unset] := by first | (simp [entryFrame, argsToLocals, Value.category]; done) | rfl
set_option maxRecDepth 65536 in
set_option maxHeartbeats 40000000 in
theorem ors_nc17 (l : Launch) (Z : State) (a0 : Array Value) (hw : ∀ d ∈ tables_1, d.before a0 Z = true) (hE : EW Z a0 consts_1) (a : Addr) (t : Addr) (kb : ClassId) (vs : List Value) (h : Heap) (hO : Old Z Z.heap.size h) (q0 : Exa Z h a "java/lang/StringBuilder") (q1 : Fld Z h a "java/lang/AbstractStringBuilder" "value" "[B" (.ref t)) (q2 : Fld Z h a "java/lang/AbstractStringBuilder" "coder" "B" (.int (0 : Int32))) (q3 : Arv Z h t kb .byte (Int32.ofNat 16) vs (.int 0))  :
    Ct l Z consts_1 (⟨"java/lang/AbstractStringBuilder", "newCapacity", "(I)I"⟩ : MethodName) jdk_68_method_10_code 6 (Option.some Jvm.ClassFile.FieldType.int) ⟨2, 0, 0, 45⟩ #[(.ref a), (.int (17 : Int32))] h [] (fun rv' hp' so' => rv' = some (.int (34 : Int32)) ∧ so' = []) := by
  refine Ct.mk "java/lang/AbstractStringBuilder" "newCapacity" rfl rfl (a0 := a0) (plainFor_of_name opn0) hO hE (fun x q => nomatch q) ?_
  intro K T W
  rw [oef_ors_nc17]
  refine gAloadN W d44_0 rfl rfl rfl ?_
  refine wGetF W d44_1 (ow80 hw) Via.refl q1 rfl fun T386 W387 => ?_
  refine wLen W387 d44_4 q3 rfl ?_
  refine gIstoreN (ls' := #[.val (.ref a), .val (.int (17 : Int32)), .val (.int (Int32.ofNat 16)), .unset, .unset, .unset]) W387 d44_5 rfl rfl ?_
  refine gIloadN W387 d44_6 rfl rfl ?_
  refine gAloadN W387 d44_7 rfl rfl rfl ?_
  refine wGetF W387 d44_8 (ow82 hw) Via.refl q2 rfl fun T388 W389 => ?_
  refine gIshl (z := (17 : Int32)) W389 d44_11 (by decide) rfl ?_
  refine gIstoreN (ls' := #[.val (.ref a), .val (.int (17 : Int32)), .val (.int (Int32.ofNat 16)), .val (.int (17 : Int32)), .unset, .unset]) W389 d44_12 rfl rfl ?_
  refine gIloadN W389 d44_13 rfl rfl ?_
  refine gIloadN W389 d44_14 rfl rfl ?_
  refine gIsub (z := (1 : Int32)) W389 d44_15 (by decide) rfl ?_
  refine gIstore (ls' := #[.val (.ref a), .val (.int (17 : Int32)), .val (.int (Int32.ofNat 16)), .val (.int (17 : Int32)), .val (.int (1 : Int32)), .unset]) W389 d44_16 rfl rfl ?_
  refine gIloadN W389 d44_18 rfl rfl ?_
  refine gIload W389 d44_19 rfl rfl ?_
  refine gIloadN W389 d44_21 rfl rfl ?_
  refine gIconst (z := (2 : Int32)) W389 d44_22 rfl rfl ?_
  refine gAloadN W389 d44_23 rfl rfl rfl ?_
  refine wGetF W389 d44_24 (ow82 hw) Via.refl q2 rfl fun T390 W391 => ?_
  refine gIshl (z := (2 : Int32)) W391 d44_27 (by decide) rfl ?_
  refine gIadd (z := (18 : Int32)) W391 d44_28 (by decide) rfl ?_
  refine wStatic (y := (⟨"jdk/internal/util/ArraysSupport", "newLength", "(III)I"⟩ : MethodName)) (Wd := 0) (argsL := [(.int (Int32.ofNat 16)), (.int (1 : Int32)), (.int (18 : Int32))]) (rest := []) W391 d44_29 (ow246 hw) (ow247 hw) (ow248 hw) (ow249 hw) (by decide) (Cb.ct (ors_nl17 l Z a0 hw hE  h W391.old  ) (ow249 hw) (ow248 hw) hE (by decide) (by decide)) (by simp) rfl (lenOf opd12 rfl) rfl (Nat.le_of_eq rfl) (by decide) (by decide) rfl fun v396 so397 T392 h394 W393 kp395 sp398 q399 => ?_
  obtain ⟨rfl, rfl⟩ := q399
  show Go K _ T392 32 #[.val (.ref a), .val (.int (17 : Int32)), .val (.int (Int32.ofNat 16)), .val (.int (17 : Int32)), .val (.int (1 : Int32)), .unset] [(.int (34 : Int32))]
  refine gIstore (ls' := #[.val (.ref a), .val (.int (17 : Int32)), .val (.int (Int32.ofNat 16)), .val (.int (17 : Int32)), .val (.int (1 : Int32)), .val (.int (34 : Int32))]) W393 d44_32 rfl rfl ?_
  refine gIload W393 d44_34 rfl rfl ?_
  refine wLdcI (v := (2147483647 : Int32)) W393 d44_36 (ow254 hw) rfl ?_
  refine gIcmpYes (pc' := 51) W393 d44_38 (feq (by decide)).2 (by decide) rfl ?_
  refine gIload W393 d44_51 rfl rfl ?_
  refine gAloadN W393 d44_53 rfl rfl rfl ?_
  have f400 := q2.keep kp395 nin0
  refine wGetF W393 d44_54 (ow82 hw) Via.refl f400 rfl fun T401 W402 => ?_
  refine gIshr (z := (34 : Int32)) W402 d44_57 (by decide) rfl ?_
  exact wRetI (so := []) (t := .int) W402 d44_58 (by simp) rfl (by decide) (by decide) (fun _ q => nomatch q) ⟨rfl, rfl⟩
theorem d18_17 : decode jdk_68_method_9_code 17 = .ok (.aload_n 0, 1) := by decide +kernel
theorem d18_18 : decode jdk_68_method_9_code 18 = .ok (.aload_n 0, 1) := by decide +kernel
theorem d18_19 : decode jdk_68_method_9_code 19 = .ok (.getfield 15, 3) := by decide +kernel
theorem d18_22 : decode jdk_68_method_9_code 22 = .ok (.aload_n 0, 1) := by decide +kernel
theorem d18_23 : decode jdk_68_method_9_code 23 = .ok (.iload_n 1, 1) := by decide +kernel
theorem d18_24 : decode jdk_68_method_9_code 24 = .ok (.invokevirtual 104, 3) := by decide +kernel
theorem ow245 {a0 : Array Value} {Z : State} (hw : ∀ d ∈ tables_1, d.before a0 Z = true) : (Jvm.Cond.code ({ cls := "java/lang/AbstractStringBuilder", name := "newCapacity", desc := "(I)I" } : Jvm.MethodName) jdk_68_method_10_code (6 : Nat) (Option.some Jvm.ClassFile.FieldType.int)).before a0 Z = true := hw _ (List.mem_of_getElem? (i := 245) rfl)
theorem ow241 {a0 : Array Value} {Z : State} (hw : ∀ d ∈ tables_1, d.before a0 Z = true) : (Jvm.Cond.methodLink "java/lang/AbstractStringBuilder" (104 : Nat) ({ cls := "java/lang/AbstractStringBuilder", name := "newCapacity", desc := "(I)I" } : Jvm.MethodName)).before a0 Z = true := hw _ (List.mem_of_getElem? (i := 241) rfl)
theorem ow242 {a0 : Array Value} {Z : State} (hw : ∀ d ∈ tables_1, d.before a0 Z = true) : (Jvm.Cond.instanceMethod ({ cls := "java/lang/AbstractStringBuilder", name := "newCapacity", desc := "(I)I" } : Jvm.MethodName)).before a0 Z = true := hw _ (List.mem_of_getElem? (i := 242) rfl)
theorem ow244 {a0 : Array Value} {Z : State} (hw : ∀ d ∈ tables_1, d.before a0 Z = true) : (Jvm.Cond.selects "java/lang/StringBuilder" ({ cls := "java/lang/AbstractStringBuilder", name := "newCapacity", desc := "(I)I" } : Jvm.MethodName) ({ cls := "java/lang/AbstractStringBuilder", name := "newCapacity", desc := "(I)I" } : Jvm.MethodName)).before a0 Z = true := hw _ (List.mem_of_getElem? (i := 244) rfl)
theorem ow243 {a0 : Array Value} {Z : State} (hw : ∀ d ∈ tables_1, d.before a0 Z = true) : (Jvm.Cond.privateMethod ({ cls := "java/lang/AbstractStringBuilder", name := "newCapacity", desc := "(I)I" } : Jvm.MethodName)).before a0 Z = true := hw _ (List.mem_of_getElem? (i := 243) rfl)
theorem d18_27 : decode jdk_68_method_9_code 27 = .ok (.aload_n 0, 1) := by decide +kernel
theorem d18_28 : decode jdk_68_method_9_code 28 = .ok (.getfield 22, 3) := by decide +kernel
theorem d18_31 : decode jdk_68_method_9_code 31 = .ok (.ishl, 1) := by decide +kernel
theorem d18_32 : decode jdk_68_method_9_code 32 = .ok (.invokestatic 108, 3) := by decide +kernel
theorem ow255 {a0 : Array Value} {Z : State} (hw : ∀ d ∈ tables_1, d.before a0 Z = true) : (Jvm.Cond.methodLink "java/lang/AbstractStringBuilder" (108 : Nat) ({ cls := "java/util/Arrays", name := "copyOf", desc := "([BI)[B" } : Jvm.MethodName)).before a0 Z = true := hw _ (List.mem_of_getElem? (i := 255) rfl)
theorem ow195 {a0 : Array Value} {Z : State} (hw : ∀ d ∈ tables_1, d.before a0 Z = true) : (Jvm.Cond.initialized "java/util/Arrays").before a0 Z = true := hw _ (List.mem_of_getElem? (i := 195) rfl)
theorem ow257 {a0 : Array Value} {Z : State} (hw : ∀ d ∈ tables_1, d.before a0 Z = true) : (Jvm.Cond.code ({ cls := "java/util/Arrays", name := "copyOf", desc := "([BI)[B" } : Jvm.MethodName) jdk_65_method_121_code (3 : Nat) (Option.some (Jvm.ClassFile.FieldType.array Jvm.ClassFile.FieldType.byte))).before a0 Z = true := hw _ (List.mem_of_getElem? (i := 257) rfl)
theorem opd13 : parseMethodDescriptor "([BI)[B" = some ⟨[.array .byte, .int], some (.array .byte)⟩ := by decide +kernel
theorem ow256 {a0 : Array Value} {Z : State} (hw : ∀ d ∈ tables_1, d.before a0 Z = true) : (Jvm.Cond.static ({ cls := "java/util/Arrays", name := "copyOf", desc := "([BI)[B" } : Jvm.MethodName)).before a0 Z = true := hw _ (List.mem_of_getElem? (i := 256) rfl)
theorem d18_35 : decode jdk_68_method_9_code 35 = .ok (.putfield 15, 3) := by decide +kernel
theorem oef_ors_eg17 (m_ : MethodId) (a : Addr)  : (entryFrame m_ #[(.ref a), (.int (17 : Int32))] 3).locals = #[.val (.ref a), .val (.int (17 : Int32)), .unset] := by first | (simp [entryFrame, argsToLocals, Value.category]; done) | rfl
set_option maxRecDepth 65536 in
set_option maxHeartbeats 40000000 in
theorem ors_eg17 (l : Launch) (Z : State) (a0 : Array Value) (hw : ∀ d ∈ tables_1, d.before a0 Z = true) (hE : EW Z a0 consts_1) (a : Addr) (t : Addr) (kb : ClassId) (vs : List Value) (c : Int32) (h : Heap) (hO : Old Z Z.heap.size h) (q0 : Exa Z h a "java/lang/StringBuilder") (q1 : Fld Z h a "java/lang/AbstractStringBuilder" "value" "[B" (.ref t)) (q2 : Fld Z h a "java/lang/AbstractStringBuilder" "coder" "B" (.int (0 : Int32))) (q3 : Arv Z h t kb .byte (Int32.ofNat 16) vs (.int 0)) (q4 : Fld Z h a "java/lang/AbstractStringBuilder" "count" "I" (.int c)) (hvs : (vs.length = 16)) (ge_a : Z.heap.size ≤ a) :
    Ct l Z consts_1 (⟨"java/lang/AbstractStringBuilder", "ensureCapacityInternal", "(I)V"⟩ : MethodName) jdk_68_method_9_code 3 (Option.none : Option Jvm.ClassFile.FieldType) ⟨3, 1, 34, 85⟩ #[(.ref a), (.int (17 : Int32))] h [a] (fun rv' hp' so' => ∃ r : Addr, ∃ kr : ClassId, rv' = none ∧ so' = [r] ∧ (h.size ≤ r) ∧ Exa Z hp' a "java/lang/StringBuilder" ∧ Fld Z hp' a "java/lang/AbstractStringBuilder" "value" "[B" (.ref r) ∧ Fld Z hp' a "java/lang/AbstractStringBuilder" "coder" "B" (.int (0 : Int32)) ∧ Fld Z hp' a "java/lang/AbstractStringBuilder" "count" "I" (.int c) ∧ Arv Z hp' r kr .byte (Int32.ofNat 34) (vs ++ List.replicate 18 (Value.int 0)) (.int 0) ∧ Exa Z hp' r "[B") := by
  refine Ct.mk "java/lang/AbstractStringBuilder" "ensureCapacityInternal" rfl rfl (a0 := a0) (plainFor_of_name opn0) hO hE (fun x q => by simp at q; subst q; exact ge_a) ?_
  intro K T W
  rw [oef_ors_eg17]
  refine gAloadN W d18_0 rfl rfl rfl ?_
  refine wGetF W d18_1 (ow80 hw) Via.refl q1 rfl fun T403 W404 => ?_
  refine wLen W404 d18_4 q3 rfl ?_
  refine gAloadN W404 d18_5 rfl rfl rfl ?_
  refine wGetF W404 d18_6 (ow82 hw) Via.refl q2 rfl fun T405 W406 => ?_
  refine gIshr (z := (16 : Int32)) W406 d18_9 (by decide) rfl ?_
  refine gIstoreN (ls' := #[.val (.ref a), .val (.int (17 : Int32)), .val (.int (16 : Int32))]) W406 d18_10 rfl rfl ?_
  refine gIloadN W406 d18_11 rfl rfl ?_
  refine gIloadN W406 d18_12 rfl rfl ?_
  refine gIsub (z := (1 : Int32)) W406 d18_13 (by decide) rfl ?_
  refine gIfNo W406 d18_14 ((if0 _ _).trans (tlt (by decide)).2.2.2) rfl ?_
  refine gAloadN W406 d18_17 rfl rfl rfl ?_
  refine gAloadN W406 d18_18 rfl rfl rfl ?_
  refine wGetF W406 d18_19 (ow80 hw) Via.refl q1 rfl fun T407 W408 => ?_
  refine gAloadN W408 d18_22 rfl rfl rfl ?_
  refine gIloadN W408 d18_23 rfl rfl ?_
  refine wPrivate (y := (⟨"java/lang/AbstractStringBuilder", "newCapacity", "(I)I"⟩ : MethodName)) (Wd := 2) (a := a) (argsL := [(.int (17 : Int32))]) (rest := [(.ref t), (.ref a)]) W408 d18_24 (ow241 hw) (ow242 hw) (ow244 hw) (ow243 hw) (ow245 hw) (by decide) (Cb.ct (ors_nc17 l Z a0 hw hE (a) (t) (kb) (vs) h W408.old q0 q1 q2 q3 ) (ow245 hw) (ow74 hw) hE (by decide) (by decide)) q0 (by simp) rfl (lenOf opd7 rfl) rfl (Nat.le_of_eq rfl) (by decide) (by decide) rfl fun v413 so414 T409 h411 W410 kp412 sp415 q416 => ?_
  obtain ⟨rfl, rfl⟩ := q416
  show Go K _ T409 27 #[.val (.ref a), .val (.int (17 : Int32)), .val (.int (16 : Int32))] [(.int (34 : Int32)), (.ref t), (.ref a)]
  refine gAloadN W410 d18_27 rfl rfl rfl ?_
  have f417 := q2.keep kp412 nin0
  refine wGetF W410 d18_28 (ow82 hw) Via.refl f417 rfl fun T418 W419 => ?_
  refine gIshl (z := (34 : Int32)) W419 d18_31 (by decide) rfl ?_
  have f420 := q3.keep kp412 nin0
  refine wStatic (y := (⟨"java/util/Arrays", "copyOf", "([BI)[B"⟩ : MethodName)) (Wd := 1) (argsL := [(.ref t), (.int (34 : Int32))]) (rest := [(.ref a)]) W419 d18_32 (ow255 hw) (ow256 hw) (ow195 hw) (ow257 hw) (by decide) (Cb.ct (ors_cpo l Z a0 hw hE (t) (kb) (vs) h411 W419.old f420 hvs ) (ow257 hw) (ow195 hw) hE (by decide) (by decide)) (by simp) rfl (lenOf opd13 rfl) rfl (Nat.le_of_eq rfl) (by decide) (by decide) rfl fun v425 so426 T421 h423 W422 kp424 sp427 q428 => ?_
  obtain ⟨r429, kr430, rfl, rfl, f431, f432, f433⟩ := q428
  show Go K _ T421 35 #[.val (.ref a), .val (.int (17 : Int32)), .val (.int (16 : Int32))] [(.ref r429), (.ref a)]
  have f434 := q1.keep kp412 nin0
  have f435 := f434.keep kp424 nin0
  have f436 := q0.keep kp412
  have f437 := f436.keep kp424
  refine wPutF (ty := .array .byte) W422 d18_35 (ow80 hw) Via.refl (by simp) f435 f437 (Or.inl (ow81 hw)) (ow65 hw) (by decide) rfl rfl rfl fun T438 h440 W439 wr441 => ?_
  have f442 := Fld.same wr441 f435
  have f443 := f437.wr wr441
  have f444 := f417.keep kp424 nin0
  have f445 := f444.other wr441 (Or.inr (slot_ne (t := .byte) (t' := .array .byte) (Or.inl (ow83 hw)) (Or.inl (ow81 hw)) (by decide) (by decide) (by decide)))
  have f446 := q4.keep kp412 nin0
  have f447 := f446.keep kp424 nin0
  have f448 := f447.other wr441 (Or.inr (slot_ne (t := .int) (t' := .array .byte) (Or.inl (ow114 hw)) (Or.inl (ow81 hw)) (by decide) (by decide) (by decide)))
  have ne449 : a ≠ r429 := Nat.ne_of_lt (Nat.lt_of_lt_of_le f436.lt f431)
  have f450 := f432.other wr441 (Ne.symm ne449)
  have f451 := f433.wr wr441
  exact wRet0 (so := [r429]) W439 d18_38 (by decide) (by decide) (all1 ⟨by simp, (Nat.le_trans W410.grow f431)⟩ alln) ⟨r429, kr430, rfl, rfl, (Nat.le_trans W410.grow f431), f443, f442, f445, f448, f450, f451⟩
theorem oef_ors_ag17 (m_ : MethodId) (a : Addr)  : (entryFrame m_ #[(.ref a), (.int (8080 : Int32))] 4).locals = #[.val (.ref a), .val (.int (8080 : Int32)), .unset, .unset] := by first | (simp [entryFrame, argsToLocals, Value.category]; done) | rfl
set_option maxRecDepth 65536 in
set_option maxHeartbeats 40000000 in
theorem ors_ag17 (l : Launch) (Z : State) (a0 : Array Value) (hw : ∀ d ∈ tables_1, d.before a0 Z = true) (hE : EW Z a0 consts_1) (a : Addr) (t : Addr) (kb : ClassId) (vs : List Value) (d1 : Addr) (k1 : ClassId) (d2 : Addr) (k2 : ClassId) (z : Int32) (h : Heap) (hO : Old Z Z.heap.size h) (SC : (Sta Z Z.heap "java/lang/String" "COMPACT_STRINGS" "Z" (.int z))) (hz : (¬ z = 0)) (q2 : Exa Z h a "java/lang/StringBuilder") (q3 : Fld Z h a "java/lang/AbstractStringBuilder" "value" "[B" (.ref t)) (q4 : Fld Z h a "java/lang/AbstractStringBuilder" "coder" "B" (.int (0 : Int32))) (q5 : Arv Z h t kb .byte (Int32.ofNat 16) vs (.int 0)) (q6 : Fld Z h a "java/lang/AbstractStringBuilder" "count" "I" (.int (13 : Int32))) (SO : (Sta Z Z.heap "java/lang/Integer" "DigitOnes" "[B" (.ref d1))) (AO : (Arv Z Z.heap d1 k1 .byte (100 : Int32) ones (.int 0))) (SE : (Sta Z Z.heap "java/lang/Integer" "DigitTens" "[B" (.ref d2))) (AE : (Arv Z Z.heap d2 k2 .byte (100 : Int32) tens (.int 0))) (hvs : (vs.length = 16)) (ge_a : Z.heap.size ≤ a) :
    Ct l Z consts_1 (⟨"java/lang/AbstractStringBuilder", "append", "(I)Ljava/lang/AbstractStringBuilder;"⟩ : MethodName) jdk_68_method_32_code 4 (Option.some (Jvm.ClassFile.FieldType.object "java/lang/AbstractStringBuilder")) ⟨4, 1, 34, 105⟩ #[(.ref a), (.int (8080 : Int32))] h [a] (fun rv' hp' so' => ∃ r : Addr, ∃ kr : ClassId, rv' = some (.ref a) ∧ so' = [r] ∧ (h.size ≤ r) ∧ Exa Z hp' a "java/lang/StringBuilder" ∧ Fld Z hp' a "java/lang/AbstractStringBuilder" "value" "[B" (.ref r) ∧ Fld Z hp' a "java/lang/AbstractStringBuilder" "coder" "B" (.int (0 : Int32)) ∧ Fld Z hp' a "java/lang/AbstractStringBuilder" "count" "I" (.int (17 : Int32)) ∧ Arv Z hp' r kr .byte (Int32.ofNat 34) ((vs ++ List.replicate 18 (Value.int 0)).take (17 - dlen 8080) ++ dg 8080 ++ (vs ++ List.replicate 18 (Value.int 0)).drop 17) (.int 0) ∧ Exa Z hp' r "[B") := by
  refine Ct.mk "java/lang/AbstractStringBuilder" "append" rfl rfl (a0 := a0) (plainFor_of_name opn0) hO hE (fun x q => by simp at q; subst q; exact ge_a) ?_
  intro K T W
  rw [oef_ors_ag17]
  refine gAloadN W d23_0 rfl rfl rfl ?_
  refine wGetF W d23_1 (ow113 hw) Via.refl q6 rfl fun T452 W453 => ?_
  refine gIstoreN (ls' := #[.val (.ref a), .val (.int (8080 : Int32)), .val (.int (13 : Int32)), .unset]) W453 d23_4 rfl rfl ?_
  refine gIloadN W453 d23_5 rfl rfl ?_
  refine gIloadN W453 d23_6 rfl rfl ?_
  refine wStatic (y := (⟨"java/lang/Integer", "stringSize", "(I)I"⟩ : MethodName)) (Wd := 1) (argsL := [(.int (8080 : Int32))]) (rest := [(.int (13 : Int32))]) W453 d23_7 (ow149 hw) (ow150 hw) (ow151 hw) (ow152 hw) (by decide) (Cb.ct (ors_ss l Z a0 hw hE (8080) h W453.old (by decide) ) (ow152 hw) (ow151 hw) hE (by decide) (by decide)) (by simp) rfl (lenOf opd7 rfl) rfl (Nat.le_of_eq rfl) (by decide) (by decide) rfl fun v458 so459 T454 h456 W455 kp457 sp460 q461 => ?_
  obtain ⟨rfl, rfl⟩ := q461
  show Go K _ T454 10 #[.val (.ref a), .val (.int (8080 : Int32)), .val (.int (13 : Int32)), .unset] [(.int (Int32.ofNat (dlen 8080))), (.int (13 : Int32))]
  refine gIadd (z := (17 : Int32)) W455 d23_10 (by decide) rfl ?_
  refine gIstoreN (ls' := #[.val (.ref a), .val (.int (8080 : Int32)), .val (.int (13 : Int32)), .val (.int (17 : Int32))]) W455 d23_11 rfl rfl ?_
  refine gAloadN W455 d23_12 rfl rfl rfl ?_
  refine gIloadN W455 d23_13 rfl rfl ?_
  have f462 := q2.keep kp457
  have f463 := q3.keep kp457 nin0
  have f464 := q4.keep kp457 nin0
  have f465 := q5.keep kp457 nin0
  have f466 := q6.keep kp457 nin0
  refine wPrivate (y := (⟨"java/lang/AbstractStringBuilder", "ensureCapacityInternal", "(I)V"⟩ : MethodName)) (Wd := 0) (a := a) (argsL := [(.int (17 : Int32))]) (rest := []) W455 d23_14 (ow115 hw) (ow116 hw) (ow118 hw) (ow117 hw) (ow119 hw) (by decide) (Cb.ct (ors_eg17 l Z a0 hw hE (a) (t) (kb) (vs) ((13 : Int32)) h456 W455.old f462 f463 f464 f465 f466 hvs ge_a) (ow119 hw) (ow74 hw) hE (by decide) (by decide)) f462 (by simp) rfl (lenOf opd0 rfl) rfl (Nat.le_of_eq rfl) (by decide) (by decide) rfl fun v471 so472 T467 h469 W468 kp470 sp473 q474 => ?_
  obtain ⟨r475, kr476, rfl, rfl, f477, f478, f479, f480, f481, f482, f483⟩ := q474
  show Go K _ T467 17 #[.val (.ref a), .val (.int (8080 : Int32)), .val (.int (13 : Int32)), .val (.int (17 : Int32))] []
  refine gAloadN W468 d23_17 rfl rfl rfl ?_
  refine wVirtual (y := (⟨"java/lang/AbstractStringBuilder", "isLatin1", "()Z"⟩ : MethodName)) (z := (⟨"java/lang/AbstractStringBuilder", "isLatin1", "()Z"⟩ : MethodName)) (Wd := 0) (a := a) (argsL := []) (rest := []) W468 d23_18 (ow153 hw) (ow154 hw) (ow156 hw) (ow155 hw) (nfS (ow156 hw)) (by decide) (Cb.ct (ors_il l Z a0 hw hE (a) (z) h469 W468.old SC hz f480 ) (ow157 hw) (ow74 hw) hE (by decide) (by decide)) f478 (by simp) rfl (lenOf opd8 rfl) rfl (Nat.le_of_eq rfl) (by decide) (by decide) rfl fun v488 so489 T484 h486 W485 kp487 sp490 q491 => ?_
  obtain ⟨rfl, rfl⟩ := q491
  show Go K _ T484 21 #[.val (.ref a), .val (.int (8080 : Int32)), .val (.int (13 : Int32)), .val (.int (17 : Int32))] [(.int (1 : Int32))]
  refine gIfNo W485 d23_21 ((if0 _ _).trans (feq (by decide)).1) rfl ?_
  refine gIloadN W485 d23_24 rfl rfl ?_
  refine gIloadN W485 d23_25 rfl rfl ?_
  refine gAloadN W485 d23_26 rfl rfl rfl ?_
  have f492 := f479.keep kp487 nin0
  refine wGetF W485 d23_27 (ow80 hw) Via.refl f492 rfl fun T493 W494 => ?_
  have f495 := f482.keep kp487 nin0
  refine wStatic (y := (⟨"java/lang/Integer", "getChars", "(II[B)I"⟩ : MethodName)) (Wd := 0) (argsL := [(.int (8080 : Int32)), (.int (17 : Int32)), (.ref r475)]) (rest := []) W494 d23_30 (ow158 hw) (ow159 hw) (ow151 hw) (ow160 hw) (by decide) (Cb.ct (ors_gc l Z a0 hw hE (8080) (17) (r475) (kr476) (34) ((vs ++ List.replicate 18 (Value.int 0))) (d1) (k1) (d2) (k2) h486 W494.old SO AO SE AE f495 (by decide) (by decide) (by decide) (by decide) (by simp [hvs]) (Nat.le_trans W455.old.2.1 f477)) (ow160 hw) (ow151 hw) hE (by decide) (by decide)) (by simp) rfl (lenOf opd9 rfl) rfl (Nat.le_of_eq rfl) (by decide) (by decide) rfl fun v500 so501 T496 h498 W497 kp499 sp502 q503 => ?_
  obtain ⟨rfl, rfl, f504⟩ := q503
  show Go K _ T496 33 #[.val (.ref a), .val (.int (8080 : Int32)), .val (.int (13 : Int32)), .val (.int (17 : Int32))] [(.int (Int32.ofNat (17 - dlen 8080)))]
  refine gPop W497 d23_33 rfl rfl ?_
  refine gGoto (pc' := 48) W497 d23_34 (by decide) rfl ?_
  refine gAloadN W497 d23_48 rfl rfl rfl ?_
  refine gIloadN W497 d23_49 rfl rfl ?_
  have f505 := f481.keep kp487 nin0
  have ne506 : a ≠ r475 := Nat.ne_of_lt (Nat.lt_of_lt_of_le f462.lt f477)
  have f507 := f505.keep kp499 (ninS ne506 nin0)
  have f508 := f478.keep kp487
  have f509 := f508.keep kp499
  refine wPutF (ty := .int) W497 d23_50 (ow113 hw) Via.refl (by simp) f507 f509 (Or.inl (ow114 hw)) (ow65 hw) (by decide) rfl rfl rfl fun T510 h512 W511 wr513 => ?_
  have f514 := Fld.same wr513 f507
  refine gAloadN W511 d23_53 rfl rfl rfl ?_
  have f515 := f509.wr wr513
  have f516 := f492.keep kp499 (ninS ne506 nin0)
  have f517 := f516.other wr513 (Or.inr (slot_ne (t := .array .byte) (t' := .int) (Or.inl (ow81 hw)) (Or.inl (ow114 hw)) (by decide) (by decide) (by decide)))
  have f518 := f480.keep kp487 nin0
  have f519 := f518.keep kp499 (ninS ne506 nin0)
  have f520 := f519.other wr513 (Or.inr (slot_ne (t := .byte) (t' := .int) (Or.inl (ow83 hw)) (Or.inl (ow114 hw)) (by decide) (by decide) (by decide)))
  have f521 := f504.other wr513 (Ne.symm ne506)
  have f522 := f483.keep kp487
  have f523 := f522.keep kp499
  have f524 := f523.wr wr513
  exact wRetA (so := [r475]) (t := .object "java/lang/AbstractStringBuilder") W511 d23_54 rfl rfl rfl (by decide) (by decide) (all1 ⟨by simp, (Nat.le_trans W455.grow f477)⟩ alln) ⟨r475, kr476, rfl, rfl, (Nat.le_trans W455.grow f477), f515, f517, f520, f514, f521, f524⟩
theorem oef_ors_bg17 (m_ : MethodId) (a : Addr)  : (entryFrame m_ #[(.ref a), (.int (8080 : Int32))] 2).locals = #[.val (.ref a), .val (.int (8080 : Int32))] := by first | (simp [entryFrame, argsToLocals, Value.category]; done) | rfl
set_option maxRecDepth 65536 in
set_option maxHeartbeats 40000000 in
theorem ors_bg17 (l : Launch) (Z : State) (a0 : Array Value) (hw : ∀ d ∈ tables_1, d.before a0 Z = true) (hE : EW Z a0 consts_1) (a : Addr) (t : Addr) (kb : ClassId) (vs : List Value) (d1 : Addr) (k1 : ClassId) (d2 : Addr) (k2 : ClassId) (z : Int32) (h : Heap) (hO : Old Z Z.heap.size h) (SC : (Sta Z Z.heap "java/lang/String" "COMPACT_STRINGS" "Z" (.int z))) (hz : (¬ z = 0)) (q2 : Exa Z h a "java/lang/StringBuilder") (q3 : Fld Z h a "java/lang/AbstractStringBuilder" "value" "[B" (.ref t)) (q4 : Fld Z h a "java/lang/AbstractStringBuilder" "coder" "B" (.int (0 : Int32))) (q5 : Arv Z h t kb .byte (Int32.ofNat 16) vs (.int 0)) (q6 : Fld Z h a "java/lang/AbstractStringBuilder" "count" "I" (.int (13 : Int32))) (SO : (Sta Z Z.heap "java/lang/Integer" "DigitOnes" "[B" (.ref d1))) (AO : (Arv Z Z.heap d1 k1 .byte (100 : Int32) ones (.int 0))) (SE : (Sta Z Z.heap "java/lang/Integer" "DigitTens" "[B" (.ref d2))) (AE : (Arv Z Z.heap d2 k2 .byte (100 : Int32) tens (.int 0))) (hvs : (vs.length = 16)) (ge_a : Z.heap.size ≤ a) :
    Ct l Z consts_1 (⟨"java/lang/StringBuilder", "append", "(I)Ljava/lang/StringBuilder;"⟩ : MethodName) jdk_67_method_15_code 2 (Option.some (Jvm.ClassFile.FieldType.object "java/lang/StringBuilder")) ⟨5, 1, 34, 125⟩ #[(.ref a), (.int (8080 : Int32))] h [a] (fun rv' hp' so' => ∃ r : Addr, ∃ kr : ClassId, rv' = some (.ref a) ∧ so' = [r] ∧ (h.size ≤ r) ∧ Exa Z hp' a "java/lang/StringBuilder" ∧ Fld Z hp' a "java/lang/AbstractStringBuilder" "value" "[B" (.ref r) ∧ Fld Z hp' a "java/lang/AbstractStringBuilder" "coder" "B" (.int (0 : Int32)) ∧ Fld Z hp' a "java/lang/AbstractStringBuilder" "count" "I" (.int (17 : Int32)) ∧ Arv Z hp' r kr .byte (Int32.ofNat 34) ((vs ++ List.replicate 18 (Value.int 0)).take (17 - dlen 8080) ++ dg 8080 ++ (vs ++ List.replicate 18 (Value.int 0)).drop 17) (.int 0) ∧ Exa Z hp' r "[B") := by
  refine Ct.mk "java/lang/StringBuilder" "append" rfl rfl (a0 := a0) (plainFor_of_name opn1) hO hE (fun x q => by simp at q; subst q; exact ge_a) ?_
  intro K T W
  rw [oef_ors_bg17]
  refine gAloadN W d22_0 rfl rfl rfl ?_
  refine gIloadN W d22_1 rfl rfl ?_
  refine wSuper (x := (⟨"java/lang/AbstractStringBuilder", "ensureCapacityInternal", "(I)V"⟩ : MethodName)) (y := (⟨"java/lang/AbstractStringBuilder", "append", "(I)Ljava/lang/AbstractStringBuilder;"⟩ : MethodName)) (z := (⟨"java/lang/AbstractStringBuilder", "ensureCapacityInternal", "(I)V"⟩ : MethodName)) (Wd := 0) (a := a) (argsL := [(.int (8080 : Int32))]) (rest := []) W d22_2 (ow145 hw) (ow146 hw) (ow118 hw) rfl (ow97 hw) (by decide) (ow148 hw) (by decide) (Cb.ct (ors_ag17 l Z a0 hw hE (a) (t) (kb) (vs) (d1) (k1) (d2) (k2) (z) h W.old SC hz q2 q3 q4 q5 q6 SO AO SE AE hvs ge_a) (ow148 hw) (ow74 hw) hE (by decide) (by decide)) q2 (by simp) rfl (lenOf opd10 rfl) rfl (Nat.le_of_eq rfl) (by decide) (by decide) rfl fun v529 so530 T525 h527 W526 kp528 sp531 q532 => ?_
  obtain ⟨r533, kr534, rfl, rfl, f535, f536, f537, f538, f539, f540, f541⟩ := q532
  show Go K _ T525 5 #[.val (.ref a), .val (.int (8080 : Int32))] [(.ref a)]
  refine gPop W526 d22_5 rfl rfl ?_
  refine gAloadN W526 d22_6 rfl rfl rfl ?_
  exact wRetA (so := [r533]) (t := .object "java/lang/StringBuilder") W526 d22_7 rfl rfl rfl (by decide) (by decide) (all1 ⟨by simp, f535⟩ alln) ⟨r533, kr534, rfl, rfl, f535, f536, f537, f538, f539, f540, f541⟩
theorem oef_ors_mx18 (m_ : MethodId)   : (entryFrame m_ #[(.int (2 : Int32)), (.int (18 : Int32))] 2).locals = #[.val (.int (2 : Int32)), .val (.int (18 : Int32))] := by first | (simp [entryFrame, argsToLocals, Value.category]; done) | rfl
set_option maxRecDepth 65536 in
set_option maxHeartbeats 40000000 in
theorem ors_mx18 (l : Launch) (Z : State) (a0 : Array Value) (hw : ∀ d ∈ tables_1, d.before a0 Z = true) (hE : EW Z a0 consts_1)  (h : Heap) (hO : Old Z Z.heap.size h)   :
    Ct l Z consts_1 (⟨"java/lang/Math", "max", "(II)I"⟩ : MethodName) jdk_29_method_65_code 2 (Option.some Jvm.ClassFile.FieldType.int) ⟨0, 0, 0, 0⟩ #[(.int (2 : Int32)), (.int (18 : Int32))] h [] (fun rv' hp' so' => rv' = some (.int (18 : Int32)) ∧ so' = []) := by
  refine Ct.mk "java/lang/Math" "max" rfl rfl (a0 := a0) (by decide +kernel) hO hE (fun x q => nomatch q) ?_
  intro K T W
  rw [oef_ors_mx18]
  refine gIloadN W d46_0 rfl rfl ?_
  refine gIloadN W d46_1 rfl rfl ?_
  refine gIcmpYes (pc' := 9) W d46_2 (tlt (by decide)).1 (by decide) rfl ?_
  refine gIloadN W d46_9 rfl rfl ?_
  exact wRetI (so := []) (t := .int) W d46_10 (by simp) rfl (by decide) (by decide) (fun _ q => nomatch q) ⟨rfl, rfl⟩
theorem oef_ors_nl18 (m_ : MethodId) (y0_ : Int32)  : (entryFrame m_ #[(.int y0_), (.int (2 : Int32)), (.int (18 : Int32))] 4).locals = #[.val (.int y0_), .val (.int (2 : Int32)), .val (.int (18 : Int32)), .unset] := by first | (simp [entryFrame, argsToLocals, Value.category]; done) | rfl
set_option maxRecDepth 65536 in
set_option maxHeartbeats 40000000 in
theorem ors_nl18 (l : Launch) (Z : State) (a0 : Array Value) (hw : ∀ d ∈ tables_1, d.before a0 Z = true) (hE : EW Z a0 consts_1)  (h : Heap) (hO : Old Z Z.heap.size h)   :
    Ct l Z consts_1 (⟨"jdk/internal/util/ArraysSupport", "newLength", "(III)I"⟩ : MethodName) jdk_48_method_27_code 4 (Option.some Jvm.ClassFile.FieldType.int) ⟨1, 0, 0, 20⟩ #[(.int (Int32.ofNat 16)), (.int (2 : Int32)), (.int (18 : Int32))] h [] (fun rv' hp' so' => rv' = some (.int (34 : Int32)) ∧ so' = []) := by
  refine Ct.mk "jdk/internal/util/ArraysSupport" "newLength" rfl rfl (a0 := a0) (plainFor_of_name opn5) hO hE (fun x q => nomatch q) ?_
  intro K T W
  rw [oef_ors_nl18]
  refine gIloadN W d45_0 rfl rfl ?_
  refine gIloadN W d45_1 rfl rfl ?_
  refine gIloadN W d45_2 rfl rfl ?_
  refine wStatic (y := (⟨"java/lang/Math", "max", "(II)I"⟩ : MethodName)) (Wd := 1) (argsL := [(.int (2 : Int32)), (.int (18 : Int32))]) (rest := [(.int (Int32.ofNat 16))]) W d45_3 (ow250 hw) (ow251 hw) (ow205 hw) (ow252 hw) (by decide) (Cb.ct (ors_mx18 l Z a0 hw hE  h W.old  ) (ow252 hw) (ow205 hw) hE (by decide) (by decide)) (by simp) rfl (lenOf opd11 rfl) rfl (Nat.le_of_eq rfl) (by decide) (by decide) rfl fun v546 so547 T542 h544 W543 kp545 sp548 q549 => ?_
  obtain ⟨rfl, rfl⟩ := q549
  show Go K _ T542 6 #[.val (.int (Int32.ofNat 16)), .val (.int (2 : Int32)), .val (.int (18 : Int32)), .unset] [(.int (18 : Int32)), (.int (Int32.ofNat 16))]
  refine gIadd (z := (34 : Int32)) W543 d45_6 (by decide) rfl ?_
  refine gIstoreN (ls' := #[.val (.int (Int32.ofNat 16)), .val (.int (2 : Int32)), .val (.int (18 : Int32)), .val (.int (34 : Int32))]) W543 d45_7 rfl rfl ?_
  refine gIconst (z := (0 : Int32)) W543 d45_8 rfl rfl ?_
  refine gIloadN W543 d45_9 rfl rfl ?_
  refine gIcmpNo W543 d45_10 (tlt (by decide)).2.1 rfl ?_
  refine gIloadN W543 d45_13 rfl rfl ?_
  refine wLdcI (v := (2147483639 : Int32)) W543 d45_14 (ow253 hw) rfl ?_
  refine gIcmpNo W543 d45_16 (flt (by decide)).2.2.1 rfl ?_
  refine gIloadN W543 d45_19 rfl rfl ?_
  exact wRetI (so := []) (t := .int) W543 d45_20 (by simp) rfl (by decide) (by decide) (fun _ q => nomatch q) ⟨rfl, rfl⟩
theorem oef_ors_nc18 (m_ : MethodId) (a : Addr)  : (entryFrame m_ #[(.ref a), (.int (18 : Int32))] 6).locals = #[.val (.ref a), .val (.int (18 : Int32)), .unset, .unset, .unset, .unset] := by first | (simp [entryFrame, argsToLocals, Value.category]; done) | rfl
set_option maxRecDepth 65536 in
set_option maxHeartbeats 40000000 in
theorem ors_nc18 (l : Launch) (Z : State) (a0 : Array Value) (hw : ∀ d ∈ tables_1, d.before a0 Z = true) (hE : EW Z a0 consts_1) (a : Addr) (t : Addr) (kb : ClassId) (vs : List Value) (h : Heap) (hO : Old Z Z.heap.size h) (q0 : Exa Z h a "java/lang/StringBuilder") (q1 : Fld Z h a "java/lang/AbstractStringBuilder" "value" "[B" (.ref t)) (q2 : Fld Z h a "java/lang/AbstractStringBuilder" "coder" "B" (.int (0 : Int32))) (q3 : Arv Z h t kb .byte (Int32.ofNat 16) vs (.int 0))  :
    Ct l Z consts_1 (⟨"java/lang/AbstractStringBuilder", "newCapacity", "(I)I"⟩ : MethodName) jdk_68_method_10_code 6 (Option.some Jvm.ClassFile.FieldType.int) ⟨2, 0, 0, 45⟩ #[(.ref a), (.int (18 : Int32))] h [] (fun rv' hp' so' => rv' = some (.int (34 : Int32)) ∧ so' = []) := by
  refine Ct.mk "java/lang/AbstractStringBuilder" "newCapacity" rfl rfl (a0 := a0) (plainFor_of_name opn0) hO hE (fun x q => nomatch q) ?_
  intro K T W
  rw [oef_ors_nc18]
  refine gAloadN W d44_0 rfl rfl rfl ?_
  refine wGetF W d44_1 (ow80 hw) Via.refl q1 rfl fun T550 W551 => ?_
  refine wLen W551 d44_4 q3 rfl ?_
  refine gIstoreN (ls' := #[.val (.ref a), .val (.int (18 : Int32)), .val (.int (Int32.ofNat 16)), .unset, .unset, .unset]) W551 d44_5 rfl rfl ?_
  refine gIloadN W551 d44_6 rfl rfl ?_
  refine gAloadN W551 d44_7 rfl rfl rfl ?_
  refine wGetF W551 d44_8 (ow82 hw) Via.refl q2 rfl fun T552 W553 => ?_
  refine gIshl (z := (18 : Int32)) W553 d44_11 (by decide) rfl ?_
  refine gIstoreN (ls' := #[.val (.ref a), .val (.int (18 : Int32)), .val (.int (Int32.ofNat 16)), .val (.int (18 : Int32)), .unset, .unset]) W553 d44_12 rfl rfl ?_
  refine gIloadN W553 d44_13 rfl rfl ?_
  refine gIloadN W553 d44_14 rfl rfl ?_
  refine gIsub (z := (2 : Int32)) W553 d44_15 (by decide) rfl ?_
  refine gIstore (ls' := #[.val (.ref a), .val (.int (18 : Int32)), .val (.int (Int32.ofNat 16)), .val (.int (18 : Int32)), .val (.int (2 : Int32)), .unset]) W553 d44_16 rfl rfl ?_
  refine gIloadN W553 d44_18 rfl rfl ?_
  refine gIload W553 d44_19 rfl rfl ?_
  refine gIloadN W553 d44_21 rfl rfl ?_
  refine gIconst (z := (2 : Int32)) W553 d44_22 rfl rfl ?_
  refine gAloadN W553 d44_23 rfl rfl rfl ?_
  refine wGetF W553 d44_24 (ow82 hw) Via.refl q2 rfl fun T554 W555 => ?_
  refine gIshl (z := (2 : Int32)) W555 d44_27 (by decide) rfl ?_
  refine gIadd (z := (18 : Int32)) W555 d44_28 (by decide) rfl ?_
  refine wStatic (y := (⟨"jdk/internal/util/ArraysSupport", "newLength", "(III)I"⟩ : MethodName)) (Wd := 0) (argsL := [(.int (Int32.ofNat 16)), (.int (2 : Int32)), (.int (18 : Int32))]) (rest := []) W555 d44_29 (ow246 hw) (ow247 hw) (ow248 hw) (ow249 hw) (by decide) (Cb.ct (ors_nl18 l Z a0 hw hE  h W555.old  ) (ow249 hw) (ow248 hw) hE (by decide) (by decide)) (by simp) rfl (lenOf opd12 rfl) rfl (Nat.le_of_eq rfl) (by decide) (by decide) rfl fun v560 so561 T556 h558 W557 kp559 sp562 q563 => ?_
  obtain ⟨rfl, rfl⟩ := q563
  show Go K _ T556 32 #[.val (.ref a), .val (.int (18 : Int32)), .val (.int (Int32.ofNat 16)), .val (.int (18 : Int32)), .val (.int (2 : Int32)), .unset] [(.int (34 : Int32))]
  refine gIstore (ls' := #[.val (.ref a), .val (.int (18 : Int32)), .val (.int (Int32.ofNat 16)), .val (.int (18 : Int32)), .val (.int (2 : Int32)), .val (.int (34 : Int32))]) W557 d44_32 rfl rfl ?_
  refine gIload W557 d44_34 rfl rfl ?_
  refine wLdcI (v := (2147483647 : Int32)) W557 d44_36 (ow254 hw) rfl ?_
  refine gIcmpYes (pc' := 51) W557 d44_38 (feq (by decide)).2 (by decide) rfl ?_
  refine gIload W557 d44_51 rfl rfl ?_
  refine gAloadN W557 d44_53 rfl rfl rfl ?_
  have f564 := q2.keep kp559 nin0
  refine wGetF W557 d44_54 (ow82 hw) Via.refl f564 rfl fun T565 W566 => ?_
  refine gIshr (z := (34 : Int32)) W566 d44_57 (by decide) rfl ?_
  exact wRetI (so := []) (t := .int) W566 d44_58 (by simp) rfl (by decide) (by decide) (fun _ q => nomatch q) ⟨rfl, rfl⟩
theorem oef_ors_eg18 (m_ : MethodId) (a : Addr)  : (entryFrame m_ #[(.ref a), (.int (18 : Int32))] 3).locals = #[.val (.ref a), .val (.int (18 : Int32)), .unset] := by first | (simp [entryFrame, argsToLocals, Value.category]; done) | rfl
set_option maxRecDepth 65536 in
set_option maxHeartbeats 40000000 in
theorem ors_eg18 (l : Launch) (Z : State) (a0 : Array Value) (hw : ∀ d ∈ tables_1, d.before a0 Z = true) (hE : EW Z a0 consts_1) (a : Addr) (t : Addr) (kb : ClassId) (vs : List Value) (c : Int32) (h : Heap) (hO : Old Z Z.heap.size h) (q0 : Exa Z h a "java/lang/StringBuilder") (q1 : Fld Z h a "java/lang/AbstractStringBuilder" "value" "[B" (.ref t)) (q2 : Fld Z h a "java/lang/AbstractStringBuilder" "coder" "B" (.int (0 : Int32))) (q3 : Arv Z h t kb .byte (Int32.ofNat 16) vs (.int 0)) (q4 : Fld Z h a "java/lang/AbstractStringBuilder" "count" "I" (.int c)) (hvs : (vs.length = 16)) (ge_a : Z.heap.size ≤ a) :
    Ct l Z consts_1 (⟨"java/lang/AbstractStringBuilder", "ensureCapacityInternal", "(I)V"⟩ : MethodName) jdk_68_method_9_code 3 (Option.none : Option Jvm.ClassFile.FieldType) ⟨3, 1, 34, 85⟩ #[(.ref a), (.int (18 : Int32))] h [a] (fun rv' hp' so' => ∃ r : Addr, ∃ kr : ClassId, rv' = none ∧ so' = [r] ∧ (h.size ≤ r) ∧ Exa Z hp' a "java/lang/StringBuilder" ∧ Fld Z hp' a "java/lang/AbstractStringBuilder" "value" "[B" (.ref r) ∧ Fld Z hp' a "java/lang/AbstractStringBuilder" "coder" "B" (.int (0 : Int32)) ∧ Fld Z hp' a "java/lang/AbstractStringBuilder" "count" "I" (.int c) ∧ Arv Z hp' r kr .byte (Int32.ofNat 34) (vs ++ List.replicate 18 (Value.int 0)) (.int 0) ∧ Exa Z hp' r "[B") := by
  refine Ct.mk "java/lang/AbstractStringBuilder" "ensureCapacityInternal" rfl rfl (a0 := a0) (plainFor_of_name opn0) hO hE (fun x q => by simp at q; subst q; exact ge_a) ?_
  intro K T W
  rw [oef_ors_eg18]
  refine gAloadN W d18_0 rfl rfl rfl ?_
  refine wGetF W d18_1 (ow80 hw) Via.refl q1 rfl fun T567 W568 => ?_
  refine wLen W568 d18_4 q3 rfl ?_
  refine gAloadN W568 d18_5 rfl rfl rfl ?_
  refine wGetF W568 d18_6 (ow82 hw) Via.refl q2 rfl fun T569 W570 => ?_
  refine gIshr (z := (16 : Int32)) W570 d18_9 (by decide) rfl ?_
  refine gIstoreN (ls' := #[.val (.ref a), .val (.int (18 : Int32)), .val (.int (16 : Int32))]) W570 d18_10 rfl rfl ?_
  refine gIloadN W570 d18_11 rfl rfl ?_
  refine gIloadN W570 d18_12 rfl rfl ?_
  refine gIsub (z := (2 : Int32)) W570 d18_13 (by decide) rfl ?_
  refine gIfNo W570 d18_14 ((if0 _ _).trans (tlt (by decide)).2.2.2) rfl ?_
  refine gAloadN W570 d18_17 rfl rfl rfl ?_
  refine gAloadN W570 d18_18 rfl rfl rfl ?_
  refine wGetF W570 d18_19 (ow80 hw) Via.refl q1 rfl fun T571 W572 => ?_
  refine gAloadN W572 d18_22 rfl rfl rfl ?_
  refine gIloadN W572 d18_23 rfl rfl ?_
  refine wPrivate (y := (⟨"java/lang/AbstractStringBuilder", "newCapacity", "(I)I"⟩ : MethodName)) (Wd := 2) (a := a) (argsL := [(.int (18 : Int32))]) (rest := [(.ref t), (.ref a)]) W572 d18_24 (ow241 hw) (ow242 hw) (ow244 hw) (ow243 hw) (ow245 hw) (by decide) (Cb.ct (ors_nc18 l Z a0 hw hE (a) (t) (kb) (vs) h W572.old q0 q1 q2 q3 ) (ow245 hw) (ow74 hw) hE (by decide) (by decide)) q0 (by simp) rfl (lenOf opd7 rfl) rfl (Nat.le_of_eq rfl) (by decide) (by decide) rfl fun v577 so578 T573 h575 W574 kp576 sp579 q580 => ?_
  obtain ⟨rfl, rfl⟩ := q580
  show Go K _ T573 27 #[.val (.ref a), .val (.int (18 : Int32)), .val (.int (16 : Int32))] [(.int (34 : Int32)), (.ref t), (.ref a)]
  refine gAloadN W574 d18_27 rfl rfl rfl ?_
  have f581 := q2.keep kp576 nin0
  refine wGetF W574 d18_28 (ow82 hw) Via.refl f581 rfl fun T582 W583 => ?_
  refine gIshl (z := (34 : Int32)) W583 d18_31 (by decide) rfl ?_
  have f584 := q3.keep kp576 nin0
  refine wStatic (y := (⟨"java/util/Arrays", "copyOf", "([BI)[B"⟩ : MethodName)) (Wd := 1) (argsL := [(.ref t), (.int (34 : Int32))]) (rest := [(.ref a)]) W583 d18_32 (ow255 hw) (ow256 hw) (ow195 hw) (ow257 hw) (by decide) (Cb.ct (ors_cpo l Z a0 hw hE (t) (kb) (vs) h575 W583.old f584 hvs ) (ow257 hw) (ow195 hw) hE (by decide) (by decide)) (by simp) rfl (lenOf opd13 rfl) rfl (Nat.le_of_eq rfl) (by decide) (by decide) rfl fun v589 so590 T585 h587 W586 kp588 sp591 q592 => ?_
  obtain ⟨r593, kr594, rfl, rfl, f595, f596, f597⟩ := q592
  show Go K _ T585 35 #[.val (.ref a), .val (.int (18 : Int32)), .val (.int (16 : Int32))] [(.ref r593), (.ref a)]
  have f598 := q1.keep kp576 nin0
  have f599 := f598.keep kp588 nin0
  have f600 := q0.keep kp576
  have f601 := f600.keep kp588
  refine wPutF (ty := .array .byte) W586 d18_35 (ow80 hw) Via.refl (by simp) f599 f601 (Or.inl (ow81 hw)) (ow65 hw) (by decide) rfl rfl rfl fun T602 h604 W603 wr605 => ?_
  have f606 := Fld.same wr605 f599
  have f607 := f601.wr wr605
  have f608 := f581.keep kp588 nin0
  have f609 := f608.other wr605 (Or.inr (slot_ne (t := .byte) (t' := .array .byte) (Or.inl (ow83 hw)) (Or.inl (ow81 hw)) (by decide) (by decide) (by decide)))
  have f610 := q4.keep kp576 nin0
  have f611 := f610.keep kp588 nin0
  have f612 := f611.other wr605 (Or.inr (slot_ne (t := .int) (t' := .array .byte) (Or.inl (ow114 hw)) (Or.inl (ow81 hw)) (by decide) (by decide) (by decide)))
  have ne613 : a ≠ r593 := Nat.ne_of_lt (Nat.lt_of_lt_of_le f600.lt f595)
  have f614 := f596.other wr605 (Ne.symm ne613)
  have f615 := f597.wr wr605
  exact wRet0 (so := [r593]) W603 d18_38 (by decide) (by decide) (all1 ⟨by simp, (Nat.le_trans W574.grow f595)⟩ alln) ⟨r593, kr594, rfl, rfl, (Nat.le_trans W574.grow f595), f607, f606, f609, f612, f614, f615⟩
theorem oef_ors_ag18 (m_ : MethodId) (a : Addr)  : (entryFrame m_ #[(.ref a), (.int (8080 : Int32))] 4).locals = #[.val (.ref a), .val (.int (8080 : Int32)), .unset, .unset] := by first | (simp [entryFrame, argsToLocals, Value.category]; done) | rfl
set_option maxRecDepth 65536 in
set_option maxHeartbeats 40000000 in
theorem ors_ag18 (l : Launch) (Z : State) (a0 : Array Value) (hw : ∀ d ∈ tables_1, d.before a0 Z = true) (hE : EW Z a0 consts_1) (a : Addr) (t : Addr) (kb : ClassId) (vs : List Value) (d1 : Addr) (k1 : ClassId) (d2 : Addr) (k2 : ClassId) (z : Int32) (h : Heap) (hO : Old Z Z.heap.size h) (SC : (Sta Z Z.heap "java/lang/String" "COMPACT_STRINGS" "Z" (.int z))) (hz : (¬ z = 0)) (q2 : Exa Z h a "java/lang/StringBuilder") (q3 : Fld Z h a "java/lang/AbstractStringBuilder" "value" "[B" (.ref t)) (q4 : Fld Z h a "java/lang/AbstractStringBuilder" "coder" "B" (.int (0 : Int32))) (q5 : Arv Z h t kb .byte (Int32.ofNat 16) vs (.int 0)) (q6 : Fld Z h a "java/lang/AbstractStringBuilder" "count" "I" (.int (14 : Int32))) (SO : (Sta Z Z.heap "java/lang/Integer" "DigitOnes" "[B" (.ref d1))) (AO : (Arv Z Z.heap d1 k1 .byte (100 : Int32) ones (.int 0))) (SE : (Sta Z Z.heap "java/lang/Integer" "DigitTens" "[B" (.ref d2))) (AE : (Arv Z Z.heap d2 k2 .byte (100 : Int32) tens (.int 0))) (hvs : (vs.length = 16)) (ge_a : Z.heap.size ≤ a) :
    Ct l Z consts_1 (⟨"java/lang/AbstractStringBuilder", "append", "(I)Ljava/lang/AbstractStringBuilder;"⟩ : MethodName) jdk_68_method_32_code 4 (Option.some (Jvm.ClassFile.FieldType.object "java/lang/AbstractStringBuilder")) ⟨4, 1, 34, 105⟩ #[(.ref a), (.int (8080 : Int32))] h [a] (fun rv' hp' so' => ∃ r : Addr, ∃ kr : ClassId, rv' = some (.ref a) ∧ so' = [r] ∧ (h.size ≤ r) ∧ Exa Z hp' a "java/lang/StringBuilder" ∧ Fld Z hp' a "java/lang/AbstractStringBuilder" "value" "[B" (.ref r) ∧ Fld Z hp' a "java/lang/AbstractStringBuilder" "coder" "B" (.int (0 : Int32)) ∧ Fld Z hp' a "java/lang/AbstractStringBuilder" "count" "I" (.int (18 : Int32)) ∧ Arv Z hp' r kr .byte (Int32.ofNat 34) ((vs ++ List.replicate 18 (Value.int 0)).take (18 - dlen 8080) ++ dg 8080 ++ (vs ++ List.replicate 18 (Value.int 0)).drop 18) (.int 0) ∧ Exa Z hp' r "[B") := by
  refine Ct.mk "java/lang/AbstractStringBuilder" "append" rfl rfl (a0 := a0) (plainFor_of_name opn0) hO hE (fun x q => by simp at q; subst q; exact ge_a) ?_
  intro K T W
  rw [oef_ors_ag18]
  refine gAloadN W d23_0 rfl rfl rfl ?_
  refine wGetF W d23_1 (ow113 hw) Via.refl q6 rfl fun T616 W617 => ?_
  refine gIstoreN (ls' := #[.val (.ref a), .val (.int (8080 : Int32)), .val (.int (14 : Int32)), .unset]) W617 d23_4 rfl rfl ?_
  refine gIloadN W617 d23_5 rfl rfl ?_
  refine gIloadN W617 d23_6 rfl rfl ?_
  refine wStatic (y := (⟨"java/lang/Integer", "stringSize", "(I)I"⟩ : MethodName)) (Wd := 1) (argsL := [(.int (8080 : Int32))]) (rest := [(.int (14 : Int32))]) W617 d23_7 (ow149 hw) (ow150 hw) (ow151 hw) (ow152 hw) (by decide) (Cb.ct (ors_ss l Z a0 hw hE (8080) h W617.old (by decide) ) (ow152 hw) (ow151 hw) hE (by decide) (by decide)) (by simp) rfl (lenOf opd7 rfl) rfl (Nat.le_of_eq rfl) (by decide) (by decide) rfl fun v622 so623 T618 h620 W619 kp621 sp624 q625 => ?_
  obtain ⟨rfl, rfl⟩ := q625
  show Go K _ T618 10 #[.val (.ref a), .val (.int (8080 : Int32)), .val (.int (14 : Int32)), .unset] [(.int (Int32.ofNat (dlen 8080))), (.int (14 : Int32))]
  refine gIadd (z := (18 : Int32)) W619 d23_10 (by decide) rfl ?_
  refine gIstoreN (ls' := #[.val (.ref a), .val (.int (8080 : Int32)), .val (.int (14 : Int32)), .val (.int (18 : Int32))]) W619 d23_11 rfl rfl ?_
  refine gAloadN W619 d23_12 rfl rfl rfl ?_
  refine gIloadN W619 d23_13 rfl rfl ?_
  have f626 := q2.keep kp621
  have f627 := q3.keep kp621 nin0
  have f628 := q4.keep kp621 nin0
  have f629 := q5.keep kp621 nin0
  have f630 := q6.keep kp621 nin0
  refine wPrivate (y := (⟨"java/lang/AbstractStringBuilder", "ensureCapacityInternal", "(I)V"⟩ : MethodName)) (Wd := 0) (a := a) (argsL := [(.int (18 : Int32))]) (rest := []) W619 d23_14 (ow115 hw) (ow116 hw) (ow118 hw) (ow117 hw) (ow119 hw) (by decide) (Cb.ct (ors_eg18 l Z a0 hw hE (a) (t) (kb) (vs) ((14 : Int32)) h620 W619.old f626 f627 f628 f629 f630 hvs ge_a) (ow119 hw) (ow74 hw) hE (by decide) (by decide)) f626 (by simp) rfl (lenOf opd0 rfl) rfl (Nat.le_of_eq rfl) (by decide) (by decide) rfl fun v635 so636 T631 h633 W632 kp634 sp637 q638 => ?_
  obtain ⟨r639, kr640, rfl, rfl, f641, f642, f643, f644, f645, f646, f647⟩ := q638
  show Go K _ T631 17 #[.val (.ref a), .val (.int (8080 : Int32)), .val (.int (14 : Int32)), .val (.int (18 : Int32))] []
  refine gAloadN W632 d23_17 rfl rfl rfl ?_
  refine wVirtual (y := (⟨"java/lang/AbstractStringBuilder", "isLatin1", "()Z"⟩ : MethodName)) (z := (⟨"java/lang/AbstractStringBuilder", "isLatin1", "()Z"⟩ : MethodName)) (Wd := 0) (a := a) (argsL := []) (rest := []) W632 d23_18 (ow153 hw) (ow154 hw) (ow156 hw) (ow155 hw) (nfS (ow156 hw)) (by decide) (Cb.ct (ors_il l Z a0 hw hE (a) (z) h633 W632.old SC hz f644 ) (ow157 hw) (ow74 hw) hE (by decide) (by decide)) f642 (by simp) rfl (lenOf opd8 rfl) rfl (Nat.le_of_eq rfl) (by decide) (by decide) rfl fun v652 so653 T648 h650 W649 kp651 sp654 q655 => ?_
  obtain ⟨rfl, rfl⟩ := q655
  show Go K _ T648 21 #[.val (.ref a), .val (.int (8080 : Int32)), .val (.int (14 : Int32)), .val (.int (18 : Int32))] [(.int (1 : Int32))]
  refine gIfNo W649 d23_21 ((if0 _ _).trans (feq (by decide)).1) rfl ?_
  refine gIloadN W649 d23_24 rfl rfl ?_
  refine gIloadN W649 d23_25 rfl rfl ?_
  refine gAloadN W649 d23_26 rfl rfl rfl ?_
  have f656 := f643.keep kp651 nin0
  refine wGetF W649 d23_27 (ow80 hw) Via.refl f656 rfl fun T657 W658 => ?_
  have f659 := f646.keep kp651 nin0
  refine wStatic (y := (⟨"java/lang/Integer", "getChars", "(II[B)I"⟩ : MethodName)) (Wd := 0) (argsL := [(.int (8080 : Int32)), (.int (18 : Int32)), (.ref r639)]) (rest := []) W658 d23_30 (ow158 hw) (ow159 hw) (ow151 hw) (ow160 hw) (by decide) (Cb.ct (ors_gc l Z a0 hw hE (8080) (18) (r639) (kr640) (34) ((vs ++ List.replicate 18 (Value.int 0))) (d1) (k1) (d2) (k2) h650 W658.old SO AO SE AE f659 (by decide) (by decide) (by decide) (by decide) (by simp [hvs]) (Nat.le_trans W619.old.2.1 f641)) (ow160 hw) (ow151 hw) hE (by decide) (by decide)) (by simp) rfl (lenOf opd9 rfl) rfl (Nat.le_of_eq rfl) (by decide) (by decide) rfl fun v664 so665 T660 h662 W661 kp663 sp666 q667 => ?_
  obtain ⟨rfl, rfl, f668⟩ := q667
  show Go K _ T660 33 #[.val (.ref a), .val (.int (8080 : Int32)), .val (.int (14 : Int32)), .val (.int (18 : Int32))] [(.int (Int32.ofNat (18 - dlen 8080)))]
  refine gPop W661 d23_33 rfl rfl ?_
  refine gGoto (pc' := 48) W661 d23_34 (by decide) rfl ?_
  refine gAloadN W661 d23_48 rfl rfl rfl ?_
  refine gIloadN W661 d23_49 rfl rfl ?_
  have f669 := f645.keep kp651 nin0
  have ne670 : a ≠ r639 := Nat.ne_of_lt (Nat.lt_of_lt_of_le f626.lt f641)
  have f671 := f669.keep kp663 (ninS ne670 nin0)
  have f672 := f642.keep kp651
  have f673 := f672.keep kp663
  refine wPutF (ty := .int) W661 d23_50 (ow113 hw) Via.refl (by simp) f671 f673 (Or.inl (ow114 hw)) (ow65 hw) (by decide) rfl rfl rfl fun T674 h676 W675 wr677 => ?_
  have f678 := Fld.same wr677 f671
  refine gAloadN W675 d23_53 rfl rfl rfl ?_
  have f679 := f673.wr wr677
  have f680 := f656.keep kp663 (ninS ne670 nin0)
  have f681 := f680.other wr677 (Or.inr (slot_ne (t := .array .byte) (t' := .int) (Or.inl (ow81 hw)) (Or.inl (ow114 hw)) (by decide) (by decide) (by decide)))
  have f682 := f644.keep kp651 nin0
  have f683 := f682.keep kp663 (ninS ne670 nin0)
  have f684 := f683.other wr677 (Or.inr (slot_ne (t := .byte) (t' := .int) (Or.inl (ow83 hw)) (Or.inl (ow114 hw)) (by decide) (by decide) (by decide)))
  have f685 := f668.other wr677 (Ne.symm ne670)
  have f686 := f647.keep kp651
  have f687 := f686.keep kp663
  have f688 := f687.wr wr677
  exact wRetA (so := [r639]) (t := .object "java/lang/AbstractStringBuilder") W675 d23_54 rfl rfl rfl (by decide) (by decide) (all1 ⟨by simp, (Nat.le_trans W619.grow f641)⟩ alln) ⟨r639, kr640, rfl, rfl, (Nat.le_trans W619.grow f641), f679, f681, f684, f678, f685, f688⟩
theorem oef_ors_bg18 (m_ : MethodId) (a : Addr)  : (entryFrame m_ #[(.ref a), (.int (8080 : Int32))] 2).locals = #[.val (.ref a), .val (.int (8080 : Int32))] := by first | (simp [entryFrame, argsToLocals, Value.category]; done) | rfl
set_option maxRecDepth 65536 in
set_option maxHeartbeats 40000000 in
theorem ors_bg18 (l : Launch) (Z : State) (a0 : Array Value) (hw : ∀ d ∈ tables_1, d.before a0 Z = true) (hE : EW Z a0 consts_1) (a : Addr) (t : Addr) (kb : ClassId) (vs : List Value) (d1 : Addr) (k1 : ClassId) (d2 : Addr) (k2 : ClassId) (z : Int32) (h : Heap) (hO : Old Z Z.heap.size h) (SC : (Sta Z Z.heap "java/lang/String" "COMPACT_STRINGS" "Z" (.int z))) (hz : (¬ z = 0)) (q2 : Exa Z h a "java/lang/StringBuilder") (q3 : Fld Z h a "java/lang/AbstractStringBuilder" "value" "[B" (.ref t)) (q4 : Fld Z h a "java/lang/AbstractStringBuilder" "coder" "B" (.int (0 : Int32))) (q5 : Arv Z h t kb .byte (Int32.ofNat 16) vs (.int 0)) (q6 : Fld Z h a "java/lang/AbstractStringBuilder" "count" "I" (.int (14 : Int32))) (SO : (Sta Z Z.heap "java/lang/Integer" "DigitOnes" "[B" (.ref d1))) (AO : (Arv Z Z.heap d1 k1 .byte (100 : Int32) ones (.int 0))) (SE : (Sta Z Z.heap "java/lang/Integer" "DigitTens" "[B" (.ref d2))) (AE : (Arv Z Z.heap d2 k2 .byte (100 : Int32) tens (.int 0))) (hvs : (vs.length = 16)) (ge_a : Z.heap.size ≤ a) :
    Ct l Z consts_1 (⟨"java/lang/StringBuilder", "append", "(I)Ljava/lang/StringBuilder;"⟩ : MethodName) jdk_67_method_15_code 2 (Option.some (Jvm.ClassFile.FieldType.object "java/lang/StringBuilder")) ⟨5, 1, 34, 125⟩ #[(.ref a), (.int (8080 : Int32))] h [a] (fun rv' hp' so' => ∃ r : Addr, ∃ kr : ClassId, rv' = some (.ref a) ∧ so' = [r] ∧ (h.size ≤ r) ∧ Exa Z hp' a "java/lang/StringBuilder" ∧ Fld Z hp' a "java/lang/AbstractStringBuilder" "value" "[B" (.ref r) ∧ Fld Z hp' a "java/lang/AbstractStringBuilder" "coder" "B" (.int (0 : Int32)) ∧ Fld Z hp' a "java/lang/AbstractStringBuilder" "count" "I" (.int (18 : Int32)) ∧ Arv Z hp' r kr .byte (Int32.ofNat 34) ((vs ++ List.replicate 18 (Value.int 0)).take (18 - dlen 8080) ++ dg 8080 ++ (vs ++ List.replicate 18 (Value.int 0)).drop 18) (.int 0) ∧ Exa Z hp' r "[B") := by
  refine Ct.mk "java/lang/StringBuilder" "append" rfl rfl (a0 := a0) (plainFor_of_name opn1) hO hE (fun x q => by simp at q; subst q; exact ge_a) ?_
  intro K T W
  rw [oef_ors_bg18]
  refine gAloadN W d22_0 rfl rfl rfl ?_
  refine gIloadN W d22_1 rfl rfl ?_
  refine wSuper (x := (⟨"java/lang/AbstractStringBuilder", "ensureCapacityInternal", "(I)V"⟩ : MethodName)) (y := (⟨"java/lang/AbstractStringBuilder", "append", "(I)Ljava/lang/AbstractStringBuilder;"⟩ : MethodName)) (z := (⟨"java/lang/AbstractStringBuilder", "ensureCapacityInternal", "(I)V"⟩ : MethodName)) (Wd := 0) (a := a) (argsL := [(.int (8080 : Int32))]) (rest := []) W d22_2 (ow145 hw) (ow146 hw) (ow118 hw) rfl (ow97 hw) (by decide) (ow148 hw) (by decide) (Cb.ct (ors_ag18 l Z a0 hw hE (a) (t) (kb) (vs) (d1) (k1) (d2) (k2) (z) h W.old SC hz q2 q3 q4 q5 q6 SO AO SE AE hvs ge_a) (ow148 hw) (ow74 hw) hE (by decide) (by decide)) q2 (by simp) rfl (lenOf opd10 rfl) rfl (Nat.le_of_eq rfl) (by decide) (by decide) rfl fun v693 so694 T689 h691 W690 kp692 sp695 q696 => ?_
  obtain ⟨r697, kr698, rfl, rfl, f699, f700, f701, f702, f703, f704, f705⟩ := q696
  show Go K _ T689 5 #[.val (.ref a), .val (.int (8080 : Int32))] [(.ref a)]
  refine gPop W690 d22_5 rfl rfl ?_
  refine gAloadN W690 d22_6 rfl rfl rfl ?_
  exact wRetA (so := [r697]) (t := .object "java/lang/StringBuilder") W690 d22_7 rfl rfl rfl (by decide) (by decide) (all1 ⟨by simp, f699⟩ alln) ⟨r697, kr698, rfl, rfl, f699, f700, f701, f702, f703, f704, f705⟩
theorem oef_ors_mx19 (m_ : MethodId)   : (entryFrame m_ #[(.int (3 : Int32)), (.int (18 : Int32))] 2).locals = #[.val (.int (3 : Int32)), .val (.int (18 : Int32))] := by first | (simp [entryFrame, argsToLocals, Value.category]; done) | rfl
set_option maxRecDepth 65536 in
set_option maxHeartbeats 40000000 in
theorem ors_mx19 (l : Launch) (Z : State) (a0 : Array Value) (hw : ∀ d ∈ tables_1, d.before a0 Z = true) (hE : EW Z a0 consts_1)  (h : Heap) (hO : Old Z Z.heap.size h)   :
    Ct l Z consts_1 (⟨"java/lang/Math", "max", "(II)I"⟩ : MethodName) jdk_29_method_65_code 2 (Option.some Jvm.ClassFile.FieldType.int) ⟨0, 0, 0, 0⟩ #[(.int (3 : Int32)), (.int (18 : Int32))] h [] (fun rv' hp' so' => rv' = some (.int (18 : Int32)) ∧ so' = []) := by
  refine Ct.mk "java/lang/Math" "max" rfl rfl (a0 := a0) (by decide +kernel) hO hE (fun x q => nomatch q) ?_
  intro K T W
  rw [oef_ors_mx19]
  refine gIloadN W d46_0 rfl rfl ?_
  refine gIloadN W d46_1 rfl rfl ?_
  refine gIcmpYes (pc' := 9) W d46_2 (tlt (by decide)).1 (by decide) rfl ?_
  refine gIloadN W d46_9 rfl rfl ?_
  exact wRetI (so := []) (t := .int) W d46_10 (by simp) rfl (by decide) (by decide) (fun _ q => nomatch q) ⟨rfl, rfl⟩
theorem oef_ors_nl19 (m_ : MethodId) (y0_ : Int32)  : (entryFrame m_ #[(.int y0_), (.int (3 : Int32)), (.int (18 : Int32))] 4).locals = #[.val (.int y0_), .val (.int (3 : Int32)), .val (.int (18 : Int32)), .unset] := by first | (simp [entryFrame, argsToLocals, Value.category]; done) | rfl
set_option maxRecDepth 65536 in
set_option maxHeartbeats 40000000 in
theorem ors_nl19 (l : Launch) (Z : State) (a0 : Array Value) (hw : ∀ d ∈ tables_1, d.before a0 Z = true) (hE : EW Z a0 consts_1)  (h : Heap) (hO : Old Z Z.heap.size h)   :
    Ct l Z consts_1 (⟨"jdk/internal/util/ArraysSupport", "newLength", "(III)I"⟩ : MethodName) jdk_48_method_27_code 4 (Option.some Jvm.ClassFile.FieldType.int) ⟨1, 0, 0, 20⟩ #[(.int (Int32.ofNat 16)), (.int (3 : Int32)), (.int (18 : Int32))] h [] (fun rv' hp' so' => rv' = some (.int (34 : Int32)) ∧ so' = []) := by
  refine Ct.mk "jdk/internal/util/ArraysSupport" "newLength" rfl rfl (a0 := a0) (plainFor_of_name opn5) hO hE (fun x q => nomatch q) ?_
  intro K T W
  rw [oef_ors_nl19]
  refine gIloadN W d45_0 rfl rfl ?_
  refine gIloadN W d45_1 rfl rfl ?_
  refine gIloadN W d45_2 rfl rfl ?_
  refine wStatic (y := (⟨"java/lang/Math", "max", "(II)I"⟩ : MethodName)) (Wd := 1) (argsL := [(.int (3 : Int32)), (.int (18 : Int32))]) (rest := [(.int (Int32.ofNat 16))]) W d45_3 (ow250 hw) (ow251 hw) (ow205 hw) (ow252 hw) (by decide) (Cb.ct (ors_mx19 l Z a0 hw hE  h W.old  ) (ow252 hw) (ow205 hw) hE (by decide) (by decide)) (by simp) rfl (lenOf opd11 rfl) rfl (Nat.le_of_eq rfl) (by decide) (by decide) rfl fun v710 so711 T706 h708 W707 kp709 sp712 q713 => ?_
  obtain ⟨rfl, rfl⟩ := q713
  show Go K _ T706 6 #[.val (.int (Int32.ofNat 16)), .val (.int (3 : Int32)), .val (.int (18 : Int32)), .unset] [(.int (18 : Int32)), (.int (Int32.ofNat 16))]
  refine gIadd (z := (34 : Int32)) W707 d45_6 (by decide) rfl ?_
  refine gIstoreN (ls' := #[.val (.int (Int32.ofNat 16)), .val (.int (3 : Int32)), .val (.int (18 : Int32)), .val (.int (34 : Int32))]) W707 d45_7 rfl rfl ?_
  refine gIconst (z := (0 : Int32)) W707 d45_8 rfl rfl ?_
  refine gIloadN W707 d45_9 rfl rfl ?_
  refine gIcmpNo W707 d45_10 (tlt (by decide)).2.1 rfl ?_
  refine gIloadN W707 d45_13 rfl rfl ?_
  refine wLdcI (v := (2147483639 : Int32)) W707 d45_14 (ow253 hw) rfl ?_
  refine gIcmpNo W707 d45_16 (flt (by decide)).2.2.1 rfl ?_
  refine gIloadN W707 d45_19 rfl rfl ?_
  exact wRetI (so := []) (t := .int) W707 d45_20 (by simp) rfl (by decide) (by decide) (fun _ q => nomatch q) ⟨rfl, rfl⟩
theorem oef_ors_nc19 (m_ : MethodId) (a : Addr)  : (entryFrame m_ #[(.ref a), (.int (19 : Int32))] 6).locals = #[.val (.ref a), .val (.int (19 : Int32)), .unset, .unset, .unset, .unset] := by first | (simp [entryFrame, argsToLocals, Value.category]; done) | rfl
set_option maxRecDepth 65536 in
set_option maxHeartbeats 40000000 in
theorem ors_nc19 (l : Launch) (Z : State) (a0 : Array Value) (hw : ∀ d ∈ tables_1, d.before a0 Z = true) (hE : EW Z a0 consts_1) (a : Addr) (t : Addr) (kb : ClassId) (vs : List Value) (h : Heap) (hO : Old Z Z.heap.size h) (q0 : Exa Z h a "java/lang/StringBuilder") (q1 : Fld Z h a "java/lang/AbstractStringBuilder" "value" "[B" (.ref t)) (q2 : Fld Z h a "java/lang/AbstractStringBuilder" "coder" "B" (.int (0 : Int32))) (q3 : Arv Z h t kb .byte (Int32.ofNat 16) vs (.int 0))  :
    Ct l Z consts_1 (⟨"java/lang/AbstractStringBuilder", "newCapacity", "(I)I"⟩ : MethodName) jdk_68_method_10_code 6 (Option.some Jvm.ClassFile.FieldType.int) ⟨2, 0, 0, 45⟩ #[(.ref a), (.int (19 : Int32))] h [] (fun rv' hp' so' => rv' = some (.int (34 : Int32)) ∧ so' = []) := by
  refine Ct.mk "java/lang/AbstractStringBuilder" "newCapacity" rfl rfl (a0 := a0) (plainFor_of_name opn0) hO hE (fun x q => nomatch q) ?_
  intro K T W
  rw [oef_ors_nc19]
  refine gAloadN W d44_0 rfl rfl rfl ?_
  refine wGetF W d44_1 (ow80 hw) Via.refl q1 rfl fun T714 W715 => ?_
  refine wLen W715 d44_4 q3 rfl ?_
  refine gIstoreN (ls' := #[.val (.ref a), .val (.int (19 : Int32)), .val (.int (Int32.ofNat 16)), .unset, .unset, .unset]) W715 d44_5 rfl rfl ?_
  refine gIloadN W715 d44_6 rfl rfl ?_
  refine gAloadN W715 d44_7 rfl rfl rfl ?_
  refine wGetF W715 d44_8 (ow82 hw) Via.refl q2 rfl fun T716 W717 => ?_
  refine gIshl (z := (19 : Int32)) W717 d44_11 (by decide) rfl ?_
  refine gIstoreN (ls' := #[.val (.ref a), .val (.int (19 : Int32)), .val (.int (Int32.ofNat 16)), .val (.int (19 : Int32)), .unset, .unset]) W717 d44_12 rfl rfl ?_
  refine gIloadN W717 d44_13 rfl rfl ?_
  refine gIloadN W717 d44_14 rfl rfl ?_
  refine gIsub (z := (3 : Int32)) W717 d44_15 (by decide) rfl ?_
  refine gIstore (ls' := #[.val (.ref a), .val (.int (19 : Int32)), .val (.int (Int32.ofNat 16)), .val (.int (19 : Int32)), .val (.int (3 : Int32)), .unset]) W717 d44_16 rfl rfl ?_
  refine gIloadN W717 d44_18 rfl rfl ?_
  refine gIload W717 d44_19 rfl rfl ?_
  refine gIloadN W717 d44_21 rfl rfl ?_
  refine gIconst (z := (2 : Int32)) W717 d44_22 rfl rfl ?_
  refine gAloadN W717 d44_23 rfl rfl rfl ?_
  refine wGetF W717 d44_24 (ow82 hw) Via.refl q2 rfl fun T718 W719 => ?_
  refine gIshl (z := (2 : Int32)) W719 d44_27 (by decide) rfl ?_
  refine gIadd (z := (18 : Int32)) W719 d44_28 (by decide) rfl ?_
  refine wStatic (y := (⟨"jdk/internal/util/ArraysSupport", "newLength", "(III)I"⟩ : MethodName)) (Wd := 0) (argsL := [(.int (Int32.ofNat 16)), (.int (3 : Int32)), (.int (18 : Int32))]) (rest := []) W719 d44_29 (ow246 hw) (ow247 hw) (ow248 hw) (ow249 hw) (by decide) (Cb.ct (ors_nl19 l Z a0 hw hE  h W719.old  ) (ow249 hw) (ow248 hw) hE (by decide) (by decide)) (by simp) rfl (lenOf opd12 rfl) rfl (Nat.le_of_eq rfl) (by decide) (by decide) rfl fun v724 so725 T720 h722 W721 kp723 sp726 q727 => ?_
  obtain ⟨rfl, rfl⟩ := q727
  show Go K _ T720 32 #[.val (.ref a), .val (.int (19 : Int32)), .val (.int (Int32.ofNat 16)), .val (.int (19 : Int32)), .val (.int (3 : Int32)), .unset] [(.int (34 : Int32))]
  refine gIstore (ls' := #[.val (.ref a), .val (.int (19 : Int32)), .val (.int (Int32.ofNat 16)), .val (.int (19 : Int32)), .val (.int (3 : Int32)), .val (.int (34 : Int32))]) W721 d44_32 rfl rfl ?_
  refine gIload W721 d44_34 rfl rfl ?_
  refine wLdcI (v := (2147483647 : Int32)) W721 d44_36 (ow254 hw) rfl ?_
  refine gIcmpYes (pc' := 51) W721 d44_38 (feq (by decide)).2 (by decide) rfl ?_
  refine gIload W721 d44_51 rfl rfl ?_
  refine gAloadN W721 d44_53 rfl rfl rfl ?_
  have f728 := q2.keep kp723 nin0
  refine wGetF W721 d44_54 (ow82 hw) Via.refl f728 rfl fun T729 W730 => ?_
  refine gIshr (z := (34 : Int32)) W730 d44_57 (by decide) rfl ?_
  exact wRetI (so := []) (t := .int) W730 d44_58 (by simp) rfl (by decide) (by decide) (fun _ q => nomatch q) ⟨rfl, rfl⟩
theorem oef_ors_eg19 (m_ : MethodId) (a : Addr)  : (entryFrame m_ #[(.ref a), (.int (19 : Int32))] 3).locals = #[.val (.ref a), .val (.int (19 : Int32)), .unset] := by first | (simp [entryFrame, argsToLocals, Value.category]; done) | rfl
set_option maxRecDepth 65536 in
set_option maxHeartbeats 40000000 in
theorem ors_eg19 (l : Launch) (Z : State) (a0 : Array Value) (hw : ∀ d ∈ tables_1, d.before a0 Z = true) (hE : EW Z a0 consts_1) (a : Addr) (t : Addr) (kb : ClassId) (vs : List Value) (c : Int32) (h : Heap) (hO : Old Z Z.heap.size h) (q0 : Exa Z h a "java/lang/StringBuilder") (q1 : Fld Z h a "java/lang/AbstractStringBuilder" "value" "[B" (.ref t)) (q2 : Fld Z h a "java/lang/AbstractStringBuilder" "coder" "B" (.int (0 : Int32))) (q3 : Arv Z h t kb .byte (Int32.ofNat 16) vs (.int 0)) (q4 : Fld Z h a "java/lang/AbstractStringBuilder" "count" "I" (.int c)) (hvs : (vs.length = 16)) (ge_a : Z.heap.size ≤ a) :
    Ct l Z consts_1 (⟨"java/lang/AbstractStringBuilder", "ensureCapacityInternal", "(I)V"⟩ : MethodName) jdk_68_method_9_code 3 (Option.none : Option Jvm.ClassFile.FieldType) ⟨3, 1, 34, 85⟩ #[(.ref a), (.int (19 : Int32))] h [a] (fun rv' hp' so' => ∃ r : Addr, ∃ kr : ClassId, rv' = none ∧ so' = [r] ∧ (h.size ≤ r) ∧ Exa Z hp' a "java/lang/StringBuilder" ∧ Fld Z hp' a "java/lang/AbstractStringBuilder" "value" "[B" (.ref r) ∧ Fld Z hp' a "java/lang/AbstractStringBuilder" "coder" "B" (.int (0 : Int32)) ∧ Fld Z hp' a "java/lang/AbstractStringBuilder" "count" "I" (.int c) ∧ Arv Z hp' r kr .byte (Int32.ofNat 34) (vs ++ List.replicate 18 (Value.int 0)) (.int 0) ∧ Exa Z hp' r "[B") := by
  refine Ct.mk "java/lang/AbstractStringBuilder" "ensureCapacityInternal" rfl rfl (a0 := a0) (plainFor_of_name opn0) hO hE (fun x q => by simp at q; subst q; exact ge_a) ?_
  intro K T W
  rw [oef_ors_eg19]
  refine gAloadN W d18_0 rfl rfl rfl ?_
  refine wGetF W d18_1 (ow80 hw) Via.refl q1 rfl fun T731 W732 => ?_
  refine wLen W732 d18_4 q3 rfl ?_
  refine gAloadN W732 d18_5 rfl rfl rfl ?_
  refine wGetF W732 d18_6 (ow82 hw) Via.refl q2 rfl fun T733 W734 => ?_
  refine gIshr (z := (16 : Int32)) W734 d18_9 (by decide) rfl ?_
  refine gIstoreN (ls' := #[.val (.ref a), .val (.int (19 : Int32)), .val (.int (16 : Int32))]) W734 d18_10 rfl rfl ?_
  refine gIloadN W734 d18_11 rfl rfl ?_
  refine gIloadN W734 d18_12 rfl rfl ?_
  refine gIsub (z := (3 : Int32)) W734 d18_13 (by decide) rfl ?_
  refine gIfNo W734 d18_14 ((if0 _ _).trans (tlt (by decide)).2.2.2) rfl ?_
  refine gAloadN W734 d18_17 rfl rfl rfl ?_
  refine gAloadN W734 d18_18 rfl rfl rfl ?_
  refine wGetF W734 d18_19 (ow80 hw) Via.refl q1 rfl fun T735 W736 => ?_
  refine gAloadN W736 d18_22 rfl rfl rfl ?_
  refine gIloadN W736 d18_23 rfl rfl ?_
  refine wPrivate (y := (⟨"java/lang/AbstractStringBuilder", "newCapacity", "(I)I"⟩ : MethodName)) (Wd := 2) (a := a) (argsL := [(.int (19 : Int32))]) (rest := [(.ref t), (.ref a)]) W736 d18_24 (ow241 hw) (ow242 hw) (ow244 hw) (ow243 hw) (ow245 hw) (by decide) (Cb.ct (ors_nc19 l Z a0 hw hE (a) (t) (kb) (vs) h W736.old q0 q1 q2 q3 ) (ow245 hw) (ow74 hw) hE (by decide) (by decide)) q0 (by simp) rfl (lenOf opd7 rfl) rfl (Nat.le_of_eq rfl) (by decide) (by decide) rfl fun v741 so742 T737 h739 W738 kp740 sp743 q744 => ?_
  obtain ⟨rfl, rfl⟩ := q744
  show Go K _ T737 27 #[.val (.ref a), .val (.int (19 : Int32)), .val (.int (16 : Int32))] [(.int (34 : Int32)), (.ref t), (.ref a)]
  refine gAloadN W738 d18_27 rfl rfl rfl ?_
  have f745 := q2.keep kp740 nin0
  refine wGetF W738 d18_28 (ow82 hw) Via.refl f745 rfl fun T746 W747 => ?_
  refine gIshl (z := (34 : Int32)) W747 d18_31 (by decide) rfl ?_
  have f748 := q3.keep kp740 nin0
  refine wStatic (y := (⟨"java/util/Arrays", "copyOf", "([BI)[B"⟩ : MethodName)) (Wd := 1) (argsL := [(.ref t), (.int (34 : Int32))]) (rest := [(.ref a)]) W747 d18_32 (ow255 hw) (ow256 hw) (ow195 hw) (ow257 hw) (by decide) (Cb.ct (ors_cpo l Z a0 hw hE (t) (kb) (vs) h739 W747.old f748 hvs ) (ow257 hw) (ow195 hw) hE (by decide) (by decide)) (by simp) rfl (lenOf opd13 rfl) rfl (Nat.le_of_eq rfl) (by decide) (by decide) rfl fun v753 so754 T749 h751 W750 kp752 sp755 q756 => ?_
  obtain ⟨r757, kr758, rfl, rfl, f759, f760, f761⟩ := q756
  show Go K _ T749 35 #[.val (.ref a), .val (.int (19 : Int32)), .val (.int (16 : Int32))] [(.ref r757), (.ref a)]
  have f762 := q1.keep kp740 nin0
  have f763 := f762.keep kp752 nin0
  have f764 := q0.keep kp740
  have f765 := f764.keep kp752
  refine wPutF (ty := .array .byte) W750 d18_35 (ow80 hw) Via.refl (by simp) f763 f765 (Or.inl (ow81 hw)) (ow65 hw) (by decide) rfl rfl rfl fun T766 h768 W767 wr769 => ?_
  have f770 := Fld.same wr769 f763
  have f771 := f765.wr wr769
  have f772 := f745.keep kp752 nin0
  have f773 := f772.other wr769 (Or.inr (slot_ne (t := .byte) (t' := .array .byte) (Or.inl (ow83 hw)) (Or.inl (ow81 hw)) (by decide) (by decide) (by decide)))
  have f774 := q4.keep kp740 nin0
  have f775 := f774.keep kp752 nin0
  have f776 := f775.other wr769 (Or.inr (slot_ne (t := .int) (t' := .array .byte) (Or.inl (ow114 hw)) (Or.inl (ow81 hw)) (by decide) (by decide) (by decide)))
  have ne777 : a ≠ r757 := Nat.ne_of_lt (Nat.lt_of_lt_of_le f764.lt f759)
  have f778 := f760.other wr769 (Ne.symm ne777)
  have f779 := f761.wr wr769
  exact wRet0 (so := [r757]) W767 d18_38 (by decide) (by decide) (all1 ⟨by simp, (Nat.le_trans W738.grow f759)⟩ alln) ⟨r757, kr758, rfl, rfl, (Nat.le_trans W738.grow f759), f771, f770, f773, f776, f778, f779⟩
theorem oef_ors_ag19 (m_ : MethodId) (a : Addr)  : (entryFrame m_ #[(.ref a), (.int (8080 : Int32))] 4).locals = #[.val (.ref a), .val (.int (8080 : Int32)), .unset, .unset] := by first | (simp [entryFrame, argsToLocals, Value.category]; done) | rfl
set_option maxRecDepth 65536 in
set_option maxHeartbeats 40000000 in
theorem ors_ag19 (l : Launch) (Z : State) (a0 : Array Value) (hw : ∀ d ∈ tables_1, d.before a0 Z = true) (hE : EW Z a0 consts_1) (a : Addr) (t : Addr) (kb : ClassId) (vs : List Value) (d1 : Addr) (k1 : ClassId) (d2 : Addr) (k2 : ClassId) (z : Int32) (h : Heap) (hO : Old Z Z.heap.size h) (SC : (Sta Z Z.heap "java/lang/String" "COMPACT_STRINGS" "Z" (.int z))) (hz : (¬ z = 0)) (q2 : Exa Z h a "java/lang/StringBuilder") (q3 : Fld Z h a "java/lang/AbstractStringBuilder" "value" "[B" (.ref t)) (q4 : Fld Z h a "java/lang/AbstractStringBuilder" "coder" "B" (.int (0 : Int32))) (q5 : Arv Z h t kb .byte (Int32.ofNat 16) vs (.int 0)) (q6 : Fld Z h a "java/lang/AbstractStringBuilder" "count" "I" (.int (15 : Int32))) (SO : (Sta Z Z.heap "java/lang/Integer" "DigitOnes" "[B" (.ref d1))) (AO : (Arv Z Z.heap d1 k1 .byte (100 : Int32) ones (.int 0))) (SE : (Sta Z Z.heap "java/lang/Integer" "DigitTens" "[B" (.ref d2))) (AE : (Arv Z Z.heap d2 k2 .byte (100 : Int32) tens (.int 0))) (hvs : (vs.length = 16)) (ge_a : Z.heap.size ≤ a) :
    Ct l Z consts_1 (⟨"java/lang/AbstractStringBuilder", "append", "(I)Ljava/lang/AbstractStringBuilder;"⟩ : MethodName) jdk_68_method_32_code 4 (Option.some (Jvm.ClassFile.FieldType.object "java/lang/AbstractStringBuilder")) ⟨4, 1, 34, 105⟩ #[(.ref a), (.int (8080 : Int32))] h [a] (fun rv' hp' so' => ∃ r : Addr, ∃ kr : ClassId, rv' = some (.ref a) ∧ so' = [r] ∧ (h.size ≤ r) ∧ Exa Z hp' a "java/lang/StringBuilder" ∧ Fld Z hp' a "java/lang/AbstractStringBuilder" "value" "[B" (.ref r) ∧ Fld Z hp' a "java/lang/AbstractStringBuilder" "coder" "B" (.int (0 : Int32)) ∧ Fld Z hp' a "java/lang/AbstractStringBuilder" "count" "I" (.int (19 : Int32)) ∧ Arv Z hp' r kr .byte (Int32.ofNat 34) ((vs ++ List.replicate 18 (Value.int 0)).take (19 - dlen 8080) ++ dg 8080 ++ (vs ++ List.replicate 18 (Value.int 0)).drop 19) (.int 0) ∧ Exa Z hp' r "[B") := by
  refine Ct.mk "java/lang/AbstractStringBuilder" "append" rfl rfl (a0 := a0) (plainFor_of_name opn0) hO hE (fun x q => by simp at q; subst q; exact ge_a) ?_
  intro K T W
  rw [oef_ors_ag19]
  refine gAloadN W d23_0 rfl rfl rfl ?_
  refine wGetF W d23_1 (ow113 hw) Via.refl q6 rfl fun T780 W781 => ?_
  refine gIstoreN (ls' := #[.val (.ref a), .val (.int (8080 : Int32)), .val (.int (15 : Int32)), .unset]) W781 d23_4 rfl rfl ?_
  refine gIloadN W781 d23_5 rfl rfl ?_
  refine gIloadN W781 d23_6 rfl rfl ?_
  refine wStatic (y := (⟨"java/lang/Integer", "stringSize", "(I)I"⟩ : MethodName)) (Wd := 1) (argsL := [(.int (8080 : Int32))]) (rest := [(.int (15 : Int32))]) W781 d23_7 (ow149 hw) (ow150 hw) (ow151 hw) (ow152 hw) (by decide) (Cb.ct (ors_ss l Z a0 hw hE (8080) h W781.old (by decide) ) (ow152 hw) (ow151 hw) hE (by decide) (by decide)) (by simp) rfl (lenOf opd7 rfl) rfl (Nat.le_of_eq rfl) (by decide) (by decide) rfl fun v786 so787 T782 h784 W783 kp785 sp788 q789 => ?_
  obtain ⟨rfl, rfl⟩ := q789
  show Go K _ T782 10 #[.val (.ref a), .val (.int (8080 : Int32)), .val (.int (15 : Int32)), .unset] [(.int (Int32.ofNat (dlen 8080))), (.int (15 : Int32))]
  refine gIadd (z := (19 : Int32)) W783 d23_10 (by decide) rfl ?_
  refine gIstoreN (ls' := #[.val (.ref a), .val (.int (8080 : Int32)), .val (.int (15 : Int32)), .val (.int (19 : Int32))]) W783 d23_11 rfl rfl ?_
  refine gAloadN W783 d23_12 rfl rfl rfl ?_
  refine gIloadN W783 d23_13 rfl rfl ?_
  have f790 := q2.keep kp785
  have f791 := q3.keep kp785 nin0
  have f792 := q4.keep kp785 nin0
  have f793 := q5.keep kp785 nin0
  have f794 := q6.keep kp785 nin0
  refine wPrivate (y := (⟨"java/lang/AbstractStringBuilder", "ensureCapacityInternal", "(I)V"⟩ : MethodName)) (Wd := 0) (a := a) (argsL := [(.int (19 : Int32))]) (rest := []) W783 d23_14 (ow115 hw) (ow116 hw) (ow118 hw) (ow117 hw) (ow119 hw) (by decide) (Cb.ct (ors_eg19 l Z a0 hw hE (a) (t) (kb) (vs) ((15 : Int32)) h784 W783.old f790 f791 f792 f793 f794 hvs ge_a) (ow119 hw) (ow74 hw) hE (by decide) (by decide)) f790 (by simp) rfl (lenOf opd0 rfl) rfl (Nat.le_of_eq rfl) (by decide) (by decide) rfl fun v799 so800 T795 h797 W796 kp798 sp801 q802 => ?_
  obtain ⟨r803, kr804, rfl, rfl, f805, f806, f807, f808, f809, f810, f811⟩ := q802
  show Go K _ T795 17 #[.val (.ref a), .val (.int (8080 : Int32)), .val (.int (15 : Int32)), .val (.int (19 : Int32))] []
  refine gAloadN W796 d23_17 rfl rfl rfl ?_
  refine wVirtual (y := (⟨"java/lang/AbstractStringBuilder", "isLatin1", "()Z"⟩ : MethodName)) (z := (⟨"java/lang/AbstractStringBuilder", "isLatin1", "()Z"⟩ : MethodName)) (Wd := 0) (a := a) (argsL := []) (rest := []) W796 d23_18 (ow153 hw) (ow154 hw) (ow156 hw) (ow155 hw) (nfS (ow156 hw)) (by decide) (Cb.ct (ors_il l Z a0 hw hE (a) (z) h797 W796.old SC hz f808 ) (ow157 hw) (ow74 hw) hE (by decide) (by decide)) f806 (by simp) rfl (lenOf opd8 rfl) rfl (Nat.le_of_eq rfl) (by decide) (by decide) rfl fun v816 so817 T812 h814 W813 kp815 sp818 q819 => ?_
  obtain ⟨rfl, rfl⟩ := q819
  show Go K _ T812 21 #[.val (.ref a), .val (.int (8080 : Int32)), .val (.int (15 : Int32)), .val (.int (19 : Int32))] [(.int (1 : Int32))]
  refine gIfNo W813 d23_21 ((if0 _ _).trans (feq (by decide)).1) rfl ?_
  refine gIloadN W813 d23_24 rfl rfl ?_
  refine gIloadN W813 d23_25 rfl rfl ?_
  refine gAloadN W813 d23_26 rfl rfl rfl ?_
  have f820 := f807.keep kp815 nin0
  refine wGetF W813 d23_27 (ow80 hw) Via.refl f820 rfl fun T821 W822 => ?_
  have f823 := f810.keep kp815 nin0
  refine wStatic (y := (⟨"java/lang/Integer", "getChars", "(II[B)I"⟩ : MethodName)) (Wd := 0) (argsL := [(.int (8080 : Int32)), (.int (19 : Int32)), (.ref r803)]) (rest := []) W822 d23_30 (ow158 hw) (ow159 hw) (ow151 hw) (ow160 hw) (by decide) (Cb.ct (ors_gc l Z a0 hw hE (8080) (19) (r803) (kr804) (34) ((vs ++ List.replicate 18 (Value.int 0))) (d1) (k1) (d2) (k2) h814 W822.old SO AO SE AE f823 (by decide) (by decide) (by decide) (by decide) (by simp [hvs]) (Nat.le_trans W783.old.2.1 f805)) (ow160 hw) (ow151 hw) hE (by decide) (by decide)) (by simp) rfl (lenOf opd9 rfl) rfl (Nat.le_of_eq rfl) (by decide) (by decide) rfl fun v828 so829 T824 h826 W825 kp827 sp830 q831 => ?_
  obtain ⟨rfl, rfl, f832⟩ := q831
  show Go K _ T824 33 #[.val (.ref a), .val (.int (8080 : Int32)), .val (.int (15 : Int32)), .val (.int (19 : Int32))] [(.int (Int32.ofNat (19 - dlen 8080)))]
  refine gPop W825 d23_33 rfl rfl ?_
  refine gGoto (pc' := 48) W825 d23_34 (by decide) rfl ?_
  refine gAloadN W825 d23_48 rfl rfl rfl ?_
  refine gIloadN W825 d23_49 rfl rfl ?_
  have f833 := f809.keep kp815 nin0
  have ne834 : a ≠ r803 := Nat.ne_of_lt (Nat.lt_of_lt_of_le f790.lt f805)
  have f835 := f833.keep kp827 (ninS ne834 nin0)
  have f836 := f806.keep kp815
  have f837 := f836.keep kp827
  refine wPutF (ty := .int) W825 d23_50 (ow113 hw) Via.refl (by simp) f835 f837 (Or.inl (ow114 hw)) (ow65 hw) (by decide) rfl rfl rfl fun T838 h840 W839 wr841 => ?_
  have f842 := Fld.same wr841 f835
  refine gAloadN W839 d23_53 rfl rfl rfl ?_
  have f843 := f837.wr wr841
  have f844 := f820.keep kp827 (ninS ne834 nin0)
  have f845 := f844.other wr841 (Or.inr (slot_ne (t := .array .byte) (t' := .int) (Or.inl (ow81 hw)) (Or.inl (ow114 hw)) (by decide) (by decide) (by decide)))
  have f846 := f808.keep kp815 nin0
  have f847 := f846.keep kp827 (ninS ne834 nin0)
  have f848 := f847.other wr841 (Or.inr (slot_ne (t := .byte) (t' := .int) (Or.inl (ow83 hw)) (Or.inl (ow114 hw)) (by decide) (by decide) (by decide)))
  have f849 := f832.other wr841 (Ne.symm ne834)
  have f850 := f811.keep kp815
  have f851 := f850.keep kp827
  have f852 := f851.wr wr841
  exact wRetA (so := [r803]) (t := .object "java/lang/AbstractStringBuilder") W839 d23_54 rfl rfl rfl (by decide) (by decide) (all1 ⟨by simp, (Nat.le_trans W783.grow f805)⟩ alln) ⟨r803, kr804, rfl, rfl, (Nat.le_trans W783.grow f805), f843, f845, f848, f842, f849, f852⟩
theorem oef_ors_bg19 (m_ : MethodId) (a : Addr)  : (entryFrame m_ #[(.ref a), (.int (8080 : Int32))] 2).locals = #[.val (.ref a), .val (.int (8080 : Int32))] := by first | (simp [entryFrame, argsToLocals, Value.category]; done) | rfl
set_option maxRecDepth 65536 in
set_option maxHeartbeats 40000000 in
theorem ors_bg19 (l : Launch) (Z : State) (a0 : Array Value) (hw : ∀ d ∈ tables_1, d.before a0 Z = true) (hE : EW Z a0 consts_1) (a : Addr) (t : Addr) (kb : ClassId) (vs : List Value) (d1 : Addr) (k1 : ClassId) (d2 : Addr) (k2 : ClassId) (z : Int32) (h : Heap) (hO : Old Z Z.heap.size h) (SC : (Sta Z Z.heap "java/lang/String" "COMPACT_STRINGS" "Z" (.int z))) (hz : (¬ z = 0)) (q2 : Exa Z h a "java/lang/StringBuilder") (q3 : Fld Z h a "java/lang/AbstractStringBuilder" "value" "[B" (.ref t)) (q4 : Fld Z h a "java/lang/AbstractStringBuilder" "coder" "B" (.int (0 : Int32))) (q5 : Arv Z h t kb .byte (Int32.ofNat 16) vs (.int 0)) (q6 : Fld Z h a "java/lang/AbstractStringBuilder" "count" "I" (.int (15 : Int32))) (SO : (Sta Z Z.heap "java/lang/Integer" "DigitOnes" "[B" (.ref d1))) (AO : (Arv Z Z.heap d1 k1 .byte (100 : Int32) ones (.int 0))) (SE : (Sta Z Z.heap "java/lang/Integer" "DigitTens" "[B" (.ref d2))) (AE : (Arv Z Z.heap d2 k2 .byte (100 : Int32) tens (.int 0))) (hvs : (vs.length = 16)) (ge_a : Z.heap.size ≤ a) :
    Ct l Z consts_1 (⟨"java/lang/StringBuilder", "append", "(I)Ljava/lang/StringBuilder;"⟩ : MethodName) jdk_67_method_15_code 2 (Option.some (Jvm.ClassFile.FieldType.object "java/lang/StringBuilder")) ⟨5, 1, 34, 125⟩ #[(.ref a), (.int (8080 : Int32))] h [a] (fun rv' hp' so' => ∃ r : Addr, ∃ kr : ClassId, rv' = some (.ref a) ∧ so' = [r] ∧ (h.size ≤ r) ∧ Exa Z hp' a "java/lang/StringBuilder" ∧ Fld Z hp' a "java/lang/AbstractStringBuilder" "value" "[B" (.ref r) ∧ Fld Z hp' a "java/lang/AbstractStringBuilder" "coder" "B" (.int (0 : Int32)) ∧ Fld Z hp' a "java/lang/AbstractStringBuilder" "count" "I" (.int (19 : Int32)) ∧ Arv Z hp' r kr .byte (Int32.ofNat 34) ((vs ++ List.replicate 18 (Value.int 0)).take (19 - dlen 8080) ++ dg 8080 ++ (vs ++ List.replicate 18 (Value.int 0)).drop 19) (.int 0) ∧ Exa Z hp' r "[B") := by
  refine Ct.mk "java/lang/StringBuilder" "append" rfl rfl (a0 := a0) (plainFor_of_name opn1) hO hE (fun x q => by simp at q; subst q; exact ge_a) ?_
  intro K T W
  rw [oef_ors_bg19]
  refine gAloadN W d22_0 rfl rfl rfl ?_
  refine gIloadN W d22_1 rfl rfl ?_
  refine wSuper (x := (⟨"java/lang/AbstractStringBuilder", "ensureCapacityInternal", "(I)V"⟩ : MethodName)) (y := (⟨"java/lang/AbstractStringBuilder", "append", "(I)Ljava/lang/AbstractStringBuilder;"⟩ : MethodName)) (z := (⟨"java/lang/AbstractStringBuilder", "ensureCapacityInternal", "(I)V"⟩ : MethodName)) (Wd := 0) (a := a) (argsL := [(.int (8080 : Int32))]) (rest := []) W d22_2 (ow145 hw) (ow146 hw) (ow118 hw) rfl (ow97 hw) (by decide) (ow148 hw) (by decide) (Cb.ct (ors_ag19 l Z a0 hw hE (a) (t) (kb) (vs) (d1) (k1) (d2) (k2) (z) h W.old SC hz q2 q3 q4 q5 q6 SO AO SE AE hvs ge_a) (ow148 hw) (ow74 hw) hE (by decide) (by decide)) q2 (by simp) rfl (lenOf opd10 rfl) rfl (Nat.le_of_eq rfl) (by decide) (by decide) rfl fun v857 so858 T853 h855 W854 kp856 sp859 q860 => ?_
  obtain ⟨r861, kr862, rfl, rfl, f863, f864, f865, f866, f867, f868, f869⟩ := q860
  show Go K _ T853 5 #[.val (.ref a), .val (.int (8080 : Int32))] [(.ref a)]
  refine gPop W854 d22_5 rfl rfl ?_
  refine gAloadN W854 d22_6 rfl rfl rfl ?_
  exact wRetA (so := [r861]) (t := .object "java/lang/StringBuilder") W854 d22_7 rfl rfl rfl (by decide) (by decide) (all1 ⟨by simp, f863⟩ alln) ⟨r861, kr862, rfl, rfl, f863, f864, f865, f866, f867, f868, f869⟩
theorem d30_0 : decode jdk_68_method_64_code 0 = .ok (.aload_n 0, 1) := by decide +kernel
theorem d30_1 : decode jdk_68_method_64_code 1 = .ok (.getfield 15, 3) := by decide +kernel
theorem d30_4 : decode jdk_68_method_64_code 4 = .ok (.areturn, 1) := by decide +kernel
theorem oef_ors_gv (m_ : MethodId) (a : Addr)  : (entryFrame m_ #[(.ref a)] 1).locals = #[.val (.ref a)] := by first | (simp [entryFrame, argsToLocals, Value.category]; done) | rfl
set_option maxRecDepth 65536 in
set_option maxHeartbeats 40000000 in
theorem ors_gv (l : Launch) (Z : State) (a0 : Array Value) (hw : ∀ d ∈ tables_1, d.before a0 Z = true) (hE : EW Z a0 consts_1) (a : Addr) (t : Addr) (h : Heap) (hO : Old Z Z.heap.size h) (q0 : Fld Z h a "java/lang/AbstractStringBuilder" "value" "[B" (.ref t))  :
    Ct l Z consts_1 (⟨"java/lang/AbstractStringBuilder", "getValue", "()[B"⟩ : MethodName) jdk_68_method_64_code 1 (Option.some (Jvm.ClassFile.FieldType.array Jvm.ClassFile.FieldType.byte)) ⟨0, 0, 0, 0⟩ #[(.ref a)] h [] (fun rv' hp' so' => rv' = some (.ref t) ∧ so' = []) := by
  refine Ct.mk "java/lang/AbstractStringBuilder" "getValue" rfl rfl (a0 := a0) (plainFor_of_name opn0) hO hE (fun x q => nomatch q) ?_
  intro K T W
  rw [oef_ors_gv]
  refine gAloadN W d30_0 rfl rfl rfl ?_
  refine wGetF W d30_1 (ow80 hw) Via.refl q0 rfl fun T870 W871 => ?_
  exact wRetA (so := []) (t := .array .byte) W871 d30_4 rfl rfl rfl (by decide) (by decide) (fun _ q => nomatch q) ⟨rfl, rfl⟩
theorem d32_0 : decode jdk_68_method_6_code 0 = .ok (.aload_n 0, 1) := by decide +kernel
theorem d32_1 : decode jdk_68_method_6_code 1 = .ok (.getfield 79, 3) := by decide +kernel
theorem d32_4 : decode jdk_68_method_6_code 4 = .ok (.ireturn, 1) := by decide +kernel
theorem oef_ors_l0 (m_ : MethodId) (a : Addr)  : (entryFrame m_ #[(.ref a)] 1).locals = #[.val (.ref a)] := by first | (simp [entryFrame, argsToLocals, Value.category]; done) | rfl
set_option maxRecDepth 65536 in
set_option maxHeartbeats 40000000 in
theorem ors_l0 (l : Launch) (Z : State) (a0 : Array Value) (hw : ∀ d ∈ tables_1, d.before a0 Z = true) (hE : EW Z a0 consts_1) (a : Addr) (c : Int32) (h : Heap) (hO : Old Z Z.heap.size h) (q0 : Exa Z h a "java/lang/StringBuilder") (q1 : Fld Z h a "java/lang/AbstractStringBuilder" "count" "I" (.int c))  :
    Ct l Z consts_1 (⟨"java/lang/AbstractStringBuilder", "length", "()I"⟩ : MethodName) jdk_68_method_6_code 1 (Option.some Jvm.ClassFile.FieldType.int) ⟨0, 0, 0, 0⟩ #[(.ref a)] h [] (fun rv' hp' so' => rv' = some (.int c) ∧ so' = []) := by
  refine Ct.mk "java/lang/AbstractStringBuilder" "length" rfl rfl (a0 := a0) (plainFor_of_name opn0) hO hE (fun x q => nomatch q) ?_
  intro K T W
  rw [oef_ors_l0]
  refine gAloadN W d32_0 rfl rfl rfl ?_
  refine wGetF W d32_1 (ow113 hw) Via.refl q1 rfl fun T872 W873 => ?_
  exact wRetI (so := []) (t := .int) W873 d32_4 (by simp) rfl (by decide) (by decide) (fun _ q => nomatch q) ⟨rfl, rfl⟩
theorem d31_0 : decode jdk_67_method_93_code 0 = .ok (.aload_n 0, 1) := by decide +kernel
theorem d31_1 : decode jdk_67_method_93_code 1 = .ok (.invokespecial 343, 3) := by decide +kernel
theorem ow190 {a0 : Array Value} {Z : State} (hw : ∀ d ∈ tables_1, d.before a0 Z = true) : (Jvm.Cond.methodLink "java/lang/StringBuilder" (343 : Nat) ({ cls := "java/lang/AbstractStringBuilder", name := "length", desc := "()I" } : Jvm.MethodName)).before a0 Z = true := hw _ (List.mem_of_getElem? (i := 190) rfl)
theorem ow191 {a0 : Array Value} {Z : State} (hw : ∀ d ∈ tables_1, d.before a0 Z = true) : (Jvm.Cond.code ({ cls := "java/lang/AbstractStringBuilder", name := "length", desc := "()I" } : Jvm.MethodName) jdk_68_method_6_code (1 : Nat) (Option.some Jvm.ClassFile.FieldType.int)).before a0 Z = true := hw _ (List.mem_of_getElem? (i := 191) rfl)
theorem ow186 {a0 : Array Value} {Z : State} (hw : ∀ d ∈ tables_1, d.before a0 Z = true) : (Jvm.Cond.instanceMethod ({ cls := "java/lang/AbstractStringBuilder", name := "length", desc := "()I" } : Jvm.MethodName)).before a0 Z = true := hw _ (List.mem_of_getElem? (i := 186) rfl)
theorem d31_4 : decode jdk_67_method_93_code 4 = .ok (.ireturn, 1) := by decide +kernel
theorem oef_ors_l1 (m_ : MethodId) (a : Addr)  : (entryFrame m_ #[(.ref a)] 1).locals = #[.val (.ref a)] := by first | (simp [entryFrame, argsToLocals, Value.category]; done) | rfl
set_option maxRecDepth 65536 in
set_option maxHeartbeats 40000000 in
theorem ors_l1 (l : Launch) (Z : State) (a0 : Array Value) (hw : ∀ d ∈ tables_1, d.before a0 Z = true) (hE : EW Z a0 consts_1) (a : Addr) (c : Int32) (h : Heap) (hO : Old Z Z.heap.size h) (q0 : Exa Z h a "java/lang/StringBuilder") (q1 : Fld Z h a "java/lang/AbstractStringBuilder" "count" "I" (.int c))  :
    Ct l Z consts_1 (⟨"java/lang/StringBuilder", "length", "()I"⟩ : MethodName) jdk_67_method_93_code 1 (Option.some Jvm.ClassFile.FieldType.int) ⟨1, 0, 0, 14⟩ #[(.ref a)] h [] (fun rv' hp' so' => rv' = some (.int c) ∧ so' = []) := by
  refine Ct.mk "java/lang/StringBuilder" "length" rfl rfl (a0 := a0) (plainFor_of_name opn1) hO hE (fun x q => nomatch q) ?_
  intro K T W
  rw [oef_ors_l1]
  refine gAloadN W d31_0 rfl rfl rfl ?_
  refine wSuper (x := (⟨"java/lang/AbstractStringBuilder", "ensureCapacityInternal", "(I)V"⟩ : MethodName)) (y := (⟨"java/lang/AbstractStringBuilder", "length", "()I"⟩ : MethodName)) (z := (⟨"java/lang/AbstractStringBuilder", "ensureCapacityInternal", "(I)V"⟩ : MethodName)) (Wd := 0) (a := a) (argsL := []) (rest := []) W d31_1 (ow190 hw) (ow186 hw) (ow118 hw) rfl (ow97 hw) (by decide) (ow191 hw) (by decide) (Cb.ct (ors_l0 l Z a0 hw hE (a) (c) h W.old q0 q1 ) (ow191 hw) (ow74 hw) hE (by decide) (by decide)) q0 (by simp) rfl (lenOf opd4 rfl) rfl (Nat.le_of_eq rfl) (by decide) (by decide) rfl fun v878 so879 T874 h876 W875 kp877 sp880 q881 => ?_
  obtain ⟨rfl, rfl⟩ := q881
  show Go K _ T874 4 #[.val (.ref a)] [(.int c)]
  exact wRetI (so := []) (t := .int) W875 d31_4 (by simp) rfl (by decide) (by decide) (fun _ q => nomatch q) ⟨rfl, rfl⟩
theorem d36_9 : decode jdk_29_method_69_code 9 = .ok (.iload_n 1, 1) := by decide +kernel
theorem oef_ors_mg (m_ : MethodId) (y0_ : Int32) (y1_ : Int32)  : (entryFrame m_ #[(.int y0_), (.int y1_)] 2).locals = #[.val (.int y0_), .val (.int y1_)] := by first | (simp [entryFrame, argsToLocals, Value.category]; done) | rfl
set_option maxRecDepth 65536 in
set_option maxHeartbeats 40000000 in
theorem ors_mg (l : Launch) (Z : State) (a0 : Array Value) (hw : ∀ d ∈ tables_1, d.before a0 Z = true) (hE : EW Z a0 consts_1) (p : Nat) (q : Nat) (h : Heap) (hO : Old Z Z.heap.size h) (hqp : (q < p)) (hp4 : (p ≤ 4000))  :
    Ct l Z consts_1 (⟨"java/lang/Math", "min", "(II)I"⟩ : MethodName) jdk_29_method_69_code 2 (Option.some Jvm.ClassFile.FieldType.int) ⟨0, 0, 0, 0⟩ #[(.int (Int32.ofNat p)), (.int (Int32.ofNat q))] h [] (fun rv' hp' so' => rv' = some (.int (Int32.ofNat q)) ∧ so' = []) := by
  refine Ct.mk "java/lang/Math" "min" rfl rfl (a0 := a0) (by decide +kernel) hO hE (fun x q => nomatch q) ?_
  intro K T W
  rw [oef_ors_mg]
  refine gIloadN W d36_0 rfl rfl ?_
  refine gIloadN W d36_1 rfl rfl ?_
  refine gIcmpYes (pc' := 9) W d36_2 (tlt ((ofNat_lt (by omega) (by omega)).mpr hqp)).2.2.1 (by decide) rfl ?_
  refine gIloadN W d36_9 rfl rfl ?_
  exact wRetI (so := []) (t := .int) W d36_10 (by simp) rfl (by decide) (by decide) (fun _ q => nomatch q) ⟨rfl, rfl⟩
theorem d35_0 : decode jdk_65_method_131_code 0 = .ok (.iload_n 1, 1) := by decide +kernel
theorem d35_1 : decode jdk_65_method_131_code 1 = .ok (.iload_n 0, 1) := by decide +kernel
theorem d35_2 : decode jdk_65_method_131_code 2 = .ok (.if_icmp .ge 35, 3) := by decide +kernel
theorem d35_37 : decode jdk_65_method_131_code 37 = .ok (.return_, 1) := by decide +kernel
theorem oef_ors_ckl (m_ : MethodId) (y0_ : Int32)  : (entryFrame m_ #[(.int (0 : Int32)), (.int y0_)] 2).locals = #[.val (.int (0 : Int32)), .val (.int y0_)] := by first | (simp [entryFrame, argsToLocals, Value.category]; done) | rfl
set_option maxRecDepth 65536 in
set_option maxHeartbeats 40000000 in
theorem ors_ckl (l : Launch) (Z : State) (a0 : Array Value) (hw : ∀ d ∈ tables_1, d.before a0 Z = true) (hE : EW Z a0 consts_1) (n : Nat) (h : Heap) (hO : Old Z Z.heap.size h) (hn4 : (n ≤ 4000))  :
    Ct l Z consts_1 (⟨"java/util/Arrays", "checkLength", "(II)V"⟩ : MethodName) jdk_65_method_131_code 2 (Option.none : Option Jvm.ClassFile.FieldType) ⟨0, 0, 0, 0⟩ #[(.int (0 : Int32)), (.int (Int32.ofNat n))] h [] (fun rv' hp' so' => rv' = none ∧ so' = []) := by
  refine Ct.mk "java/util/Arrays" "checkLength" rfl rfl (a0 := a0) (plainFor_of_name opn4) hO hE (fun x q => nomatch q) ?_
  intro K T W
  rw [oef_ors_ckl]
  refine gIloadN W d35_0 rfl rfl ?_
  refine gIloadN W d35_1 rfl rfl ?_
  refine gIcmpYes (pc' := 37) W d35_2 (flt (ofNat_nn (by omega))).2.1 (by decide) rfl ?_
  exact wRet0 (so := []) W d35_37 (by decide) (by decide) (fun _ q => nomatch q) ⟨rfl, rfl⟩
theorem d34_0 : decode jdk_65_method_133_code 0 = .ok (.iload_n 1, 1) := by decide +kernel
theorem d34_1 : decode jdk_65_method_133_code 1 = .ok (.iload_n 2, 1) := by decide +kernel
theorem d34_2 : decode jdk_65_method_133_code 2 = .ok (.invokestatic 343, 3) := by decide +kernel
theorem ow200 {a0 : Array Value} {Z : State} (hw : ∀ d ∈ tables_1, d.before a0 Z = true) : (Jvm.Cond.methodLink "java/util/Arrays" (343 : Nat) ({ cls := "java/util/Arrays", name := "checkLength", desc := "(II)V" } : Jvm.MethodName)).before a0 Z = true := hw _ (List.mem_of_getElem? (i := 200) rfl)
theorem ow202 {a0 : Array Value} {Z : State} (hw : ∀ d ∈ tables_1, d.before a0 Z = true) : (Jvm.Cond.code ({ cls := "java/util/Arrays", name := "checkLength", desc := "(II)V" } : Jvm.MethodName) jdk_65_method_131_code (2 : Nat) (Option.none : Option Jvm.ClassFile.FieldType)).before a0 Z = true := hw _ (List.mem_of_getElem? (i := 202) rfl)
theorem opd14 : parseMethodDescriptor "(II)V" = some ⟨[.int, .int], none⟩ := by decide +kernel
theorem ow201 {a0 : Array Value} {Z : State} (hw : ∀ d ∈ tables_1, d.before a0 Z = true) : (Jvm.Cond.static ({ cls := "java/util/Arrays", name := "checkLength", desc := "(II)V" } : Jvm.MethodName)).before a0 Z = true := hw _ (List.mem_of_getElem? (i := 201) rfl)
theorem d34_5 : decode jdk_65_method_133_code 5 = .ok (.iload_n 2, 1) := by decide +kernel
theorem d34_6 : decode jdk_65_method_133_code 6 = .ok (.iload_n 1, 1) := by decide +kernel
theorem d34_7 : decode jdk_65_method_133_code 7 = .ok (.isub, 1) := by decide +kernel
theorem d34_8 : decode jdk_65_method_133_code 8 = .ok (.istore_n 3, 1) := by decide +kernel
theorem d34_9 : decode jdk_65_method_133_code 9 = .ok (.iload_n 3, 1) := by decide +kernel
theorem d34_10 : decode jdk_65_method_133_code 10 = .ok (.newarray .byte, 2) := by decide +kernel
theorem d34_12 : decode jdk_65_method_133_code 12 = .ok (.astore 4, 2) := by decide +kernel
theorem d34_14 : decode jdk_65_method_133_code 14 = .ok (.aload_n 0, 1) := by decide +kernel
theorem d34_15 : decode jdk_65_method_133_code 15 = .ok (.iload_n 1, 1) := by decide +kernel
theorem d34_16 : decode jdk_65_method_133_code 16 = .ok (.aload 4, 2) := by decide +kernel
theorem d34_18 : decode jdk_65_method_133_code 18 = .ok (.iconst 0, 1) := by decide +kernel
theorem d34_19 : decode jdk_65_method_133_code 19 = .ok (.aload_n 0, 1) := by decide +kernel
theorem d34_20 : decode jdk_65_method_133_code 20 = .ok (.arraylength, 1) := by decide +kernel
theorem d34_21 : decode jdk_65_method_133_code 21 = .ok (.iload_n 1, 1) := by decide +kernel
theorem d34_22 : decode jdk_65_method_133_code 22 = .ok (.isub, 1) := by decide +kernel
theorem d34_23 : decode jdk_65_method_133_code 23 = .ok (.iload_n 3, 1) := by decide +kernel
theorem d34_24 : decode jdk_65_method_133_code 24 = .ok (.invokestatic 304, 3) := by decide +kernel
theorem d34_27 : decode jdk_65_method_133_code 27 = .ok (.invokestatic 150, 3) := by decide +kernel
theorem d34_30 : decode jdk_65_method_133_code 30 = .ok (.aload 4, 2) := by decide +kernel
theorem d34_32 : decode jdk_65_method_133_code 32 = .ok (.areturn, 1) := by decide +kernel
theorem oef_ors_crb (m_ : MethodId) (t : Addr) (y0_ : Int32)  : (entryFrame m_ #[(.ref t), (.int (0 : Int32)), (.int y0_)] 5).locals = #[.val (.ref t), .val (.int (0 : Int32)), .val (.int y0_), .unset, .unset] := by first | (simp [entryFrame, argsToLocals, Value.category]; done) | rfl
set_option maxRecDepth 65536 in
set_option maxHeartbeats 40000000 in
theorem ors_crb (l : Launch) (Z : State) (a0 : Array Value) (hw : ∀ d ∈ tables_1, d.before a0 Z = true) (hE : EW Z a0 consts_1) (t : Addr) (kb : ClassId) (M : Nat) (vs : List Value) (n : Nat) (h : Heap) (hO : Old Z Z.heap.size h) (q0 : Arv Z h t kb .byte (Int32.ofNat M) vs (.int 0)) (hvs : (vs.length = M)) (hnM : (n < M)) (hM : (M ≤ 40))  :
    Ct l Z consts_1 (⟨"java/util/Arrays", "copyOfRangeByte", "([BII)[B"⟩ : MethodName) jdk_65_method_133_code 5 (Option.some (Jvm.ClassFile.FieldType.array Jvm.ClassFile.FieldType.byte)) ⟨1, 1, 40, 60⟩ #[(.ref t), (.int (0 : Int32)), (.int (Int32.ofNat n))] h [] (fun rv' hp' so' => ∃ r : Addr, ∃ kr : ClassId, rv' = some (.ref r) ∧ so' = [r] ∧ (h.size ≤ r) ∧ Arv Z hp' r kr .byte (Int32.ofNat n) (vs.take n) (.int 0)) := by
  refine Ct.mk "java/util/Arrays" "copyOfRangeByte" rfl rfl (a0 := a0) (plainFor_of_name opn4) hO hE (fun x q => nomatch q) ?_
  intro K T W
  rw [oef_ors_crb]
  refine gIloadN W d34_0 rfl rfl ?_
  refine gIloadN W d34_1 rfl rfl ?_
  refine wStatic (y := (⟨"java/util/Arrays", "checkLength", "(II)V"⟩ : MethodName)) (Wd := 0) (argsL := [(.int (0 : Int32)), (.int (Int32.ofNat n))]) (rest := []) W d34_2 (ow200 hw) (ow201 hw) (ow195 hw) (ow202 hw) (by decide) (Cb.ct (ors_ckl l Z a0 hw hE (n) h W.old (by omega) ) (ow202 hw) (ow195 hw) hE (by decide) (by decide)) (by simp) rfl (lenOf opd14 rfl) rfl (Nat.le_of_eq rfl) (by decide) (by decide) rfl fun v886 so887 T882 h884 W883 kp885 sp888 q889 => ?_
  obtain ⟨rfl, rfl⟩ := q889
  show Go K _ T882 5 #[.val (.ref t), .val (.int (0 : Int32)), .val (.int (Int32.ofNat n)), .unset, .unset] []
  refine gIloadN W883 d34_5 rfl rfl ?_
  refine gIloadN W883 d34_6 rfl rfl ?_
  refine gIsub (z := (Int32.ofNat n)) W883 d34_7 (Int32.sub_zero _) rfl ?_
  refine gIstoreN (ls' := #[.val (.ref t), .val (.int (0 : Int32)), .val (.int (Int32.ofNat n)), .val (.int (Int32.ofNat n)), .unset]) W883 d34_8 rfl rfl ?_
  refine gIloadN W883 d34_9 rfl rfl ?_
  refine wNewE (cap := 40) (ad := "[B") W883 d34_10 (ow79 hw) (ofNat_nn (by omega)) (by rw [ofNat_clamp (by omega)]; omega) (by decide) (by decide) (by decide) (by decide) rfl fun T890 h892 a893 k894 W891 E895 g896 A897 E898 => ?_
  have f899 : Arv Z h892 a893 k894 .byte (Int32.ofNat n) (List.replicate n (.int 0)) (.int 0) := A897 n
  refine gAstore (ls' := #[.val (.ref t), .val (.int (0 : Int32)), .val (.int (Int32.ofNat n)), .val (.int (Int32.ofNat n)), .val (.ref a893)]) W891 d34_12 rfl rfl rfl ?_
  refine gAloadN W891 d34_14 rfl rfl rfl ?_
  refine gIloadN W891 d34_15 rfl rfl ?_
  refine gAload W891 d34_16 rfl rfl rfl ?_
  refine gIconst (z := (0 : Int32)) W891 d34_18 rfl rfl ?_
  refine gAloadN W891 d34_19 rfl rfl rfl ?_
  have f900 := q0.keep kp885 nin0
  have f901 := f900.ext E895
  refine wLen W891 d34_20 f901 rfl ?_
  refine gIloadN W891 d34_21 rfl rfl ?_
  refine gIsub (z := (Int32.ofNat M)) W891 d34_22 (Int32.sub_zero _) rfl ?_
  refine gIloadN W891 d34_23 rfl rfl ?_
  refine wStatic (y := (⟨"java/lang/Math", "min", "(II)I"⟩ : MethodName)) (Wd := 4) (argsL := [(.int (Int32.ofNat M)), (.int (Int32.ofNat n))]) (rest := [(.int (0 : Int32)), (.ref a893), (.int (0 : Int32)), (.ref t)]) W891 d34_24 (ow203 hw) (ow204 hw) (ow205 hw) (ow206 hw) (by decide) (Cb.ct (ors_mg l Z a0 hw hE (M) (n) h892 W891.old hnM (by omega) ) (ow206 hw) (ow205 hw) hE (by decide) (by decide)) (by simp) rfl (lenOf opd11 rfl) rfl (Nat.le_of_eq rfl) (by decide) (by decide) rfl fun v906 so907 T902 h904 W903 kp905 sp908 q909 => ?_
  obtain ⟨rfl, rfl⟩ := q909
  show Go K _ T902 27 #[.val (.ref t), .val (.int (0 : Int32)), .val (.int (Int32.ofNat n)), .val (.int (Int32.ofNat n)), .val (.ref a893)] [(.int (Int32.ofNat n)), (.int (0 : Int32)), (.ref a893), (.int (0 : Int32)), (.ref t)]
  have f910 := f901.keep kp905 nin0
  have f911 := f899.keep kp905 nin0
  refine wCopy (us := (vs.take n)) W903 d34_27 (ow207 hw) (ow139 hw) (ow137 hw) (ow138 hw) (by simp) f910 f911 rfl (by decide) (by decide) (ofNat_nn (by omega)) M n 0 0 n (ofNat_clamp (by omega)) (ofNat_clamp (by omega)) (by decide) (by decide) (ofNat_clamp (by omega)) (by omega) (by omega) (range_take (by omega) _) (by simp) rfl (by decide) 0 (Nat.le_of_eq rfl) (by decide) rfl fun T912 h914 W913 kp915 A916 => ?_
  have f917 : Arv Z h914 a893 k894 .byte (Int32.ofNat n) ((List.replicate n (Value.int 0)).take 0 ++ vs.take n ++ (List.replicate n (Value.int 0)).drop (0 + n)) (.int 0) := A916
  have f918 : Arv Z h914 a893 k894 .byte (Int32.ofNat n) (vs.take n) (.int 0) := arvL f917 (by simp)
  refine gAload W913 d34_30 rfl rfl rfl ?_
  exact wRetA (so := [a893]) (t := .array .byte) W913 d34_32 rfl rfl rfl (by decide) (by decide) (all1 ⟨by simp, (Nat.le_trans W883.grow (Nat.le_of_eq g896.symm))⟩ alln) ⟨a893, k894, rfl, rfl, (Nat.le_trans W883.grow (Nat.le_of_eq g896.symm)), f918⟩
theorem d33_0 : decode jdk_65_method_132_code 0 = .ok (.iload_n 1, 1) := by decide +kernel
theorem d33_1 : decode jdk_65_method_132_code 1 = .ok (.ifCond .ne 9, 3) := by decide +kernel
theorem d33_4 : decode jdk_65_method_132_code 4 = .ok (.iload_n 2, 1) := by decide +kernel
theorem d33_5 : decode jdk_65_method_132_code 5 = .ok (.aload_n 0, 1) := by decide +kernel
theorem d33_6 : decode jdk_65_method_132_code 6 = .ok (.arraylength, 1) := by decide +kernel
theorem d33_7 : decode jdk_65_method_132_code 7 = .ok (.if_icmp .eq 10, 3) := by decide +kernel
theorem d33_17 : decode jdk_65_method_132_code 17 = .ok (.aload_n 0, 1) := by decide +kernel
theorem d33_18 : decode jdk_65_method_132_code 18 = .ok (.invokevirtual 310, 3) := by decide +kernel
theorem ow258 {a0 : Array Value} {Z : State} (hw : ∀ d ∈ tables_1, d.before a0 Z = true) : (Jvm.Cond.methodLink "java/util/Arrays" (310 : Nat) ({ cls := "[B", name := "clone", desc := "()Ljava/lang/Object;" } : Jvm.MethodName)).before a0 Z = true := hw _ (List.mem_of_getElem? (i := 258) rfl)
theorem ow259 {a0 : Array Value} {Z : State} (hw : ∀ d ∈ tables_1, d.before a0 Z = true) : (Jvm.Cond.sameMethod "[B" "java/lang/Object" "clone" "()Ljava/lang/Object;").before a0 Z = true := hw _ (List.mem_of_getElem? (i := 259) rfl)
theorem ow263 {a0 : Array Value} {Z : State} (hw : ∀ d ∈ tables_1, d.before a0 Z = true) : (Jvm.Cond.native ({ cls := "java/lang/Object", name := "clone", desc := "()Ljava/lang/Object;" } : Jvm.MethodName)).before a0 Z = true := hw _ (List.mem_of_getElem? (i := 263) rfl)
theorem ow261 {a0 : Array Value} {Z : State} (hw : ∀ d ∈ tables_1, d.before a0 Z = true) : (Jvm.Cond.instanceMethod ({ cls := "java/lang/Object", name := "clone", desc := "()Ljava/lang/Object;" } : Jvm.MethodName)).before a0 Z = true := hw _ (List.mem_of_getElem? (i := 261) rfl)
theorem ow262 {a0 : Array Value} {Z : State} (hw : ∀ d ∈ tables_1, d.before a0 Z = true) : (Jvm.Cond.selects "[B" ({ cls := "[B", name := "clone", desc := "()Ljava/lang/Object;" } : Jvm.MethodName) ({ cls := "java/lang/Object", name := "clone", desc := "()Ljava/lang/Object;" } : Jvm.MethodName)).before a0 Z = true := hw _ (List.mem_of_getElem? (i := 262) rfl)
theorem ow264 {a0 : Array Value} {Z : State} (hw : ∀ d ∈ tables_1, d.before a0 Z = true) : (Jvm.Cond.castable "[B" "java/lang/Cloneable").before a0 Z = true := hw _ (List.mem_of_getElem? (i := 264) rfl)
theorem d33_21 : decode jdk_65_method_132_code 21 = .ok (.checkcast 311, 3) := by decide +kernel
theorem ow265 {a0 : Array Value} {Z : State} (hw : ∀ d ∈ tables_1, d.before a0 Z = true) : (Jvm.Cond.classLink "java/util/Arrays" (311 : Nat) "[B").before a0 Z = true := hw _ (List.mem_of_getElem? (i := 265) rfl)
theorem d33_24 : decode jdk_65_method_132_code 24 = .ok (.areturn, 1) := by decide +kernel
theorem d33_10 : decode jdk_65_method_132_code 10 = .ok (.aload_n 0, 1) := by decide +kernel
theorem d33_11 : decode jdk_65_method_132_code 11 = .ok (.iload_n 1, 1) := by decide +kernel
theorem d33_12 : decode jdk_65_method_132_code 12 = .ok (.iload_n 2, 1) := by decide +kernel
theorem d33_13 : decode jdk_65_method_132_code 13 = .ok (.invokestatic 339, 3) := by decide +kernel
theorem ow197 {a0 : Array Value} {Z : State} (hw : ∀ d ∈ tables_1, d.before a0 Z = true) : (Jvm.Cond.methodLink "java/util/Arrays" (339 : Nat) ({ cls := "java/util/Arrays", name := "copyOfRangeByte", desc := "([BII)[B" } : Jvm.MethodName)).before a0 Z = true := hw _ (List.mem_of_getElem? (i := 197) rfl)
theorem ow199 {a0 : Array Value} {Z : State} (hw : ∀ d ∈ tables_1, d.before a0 Z = true) : (Jvm.Cond.code ({ cls := "java/util/Arrays", name := "copyOfRangeByte", desc := "([BII)[B" } : Jvm.MethodName) jdk_65_method_133_code (5 : Nat) (Option.some (Jvm.ClassFile.FieldType.array Jvm.ClassFile.FieldType.byte))).before a0 Z = true := hw _ (List.mem_of_getElem? (i := 199) rfl)
theorem opd15 : parseMethodDescriptor "([BII)[B" = some ⟨[.array .byte, .int, .int], some (.array .byte)⟩ := by decide +kernel
theorem ow198 {a0 : Array Value} {Z : State} (hw : ∀ d ∈ tables_1, d.before a0 Z = true) : (Jvm.Cond.static ({ cls := "java/util/Arrays", name := "copyOfRangeByte", desc := "([BII)[B" } : Jvm.MethodName)).before a0 Z = true := hw _ (List.mem_of_getElem? (i := 198) rfl)
theorem d33_16 : decode jdk_65_method_132_code 16 = .ok (.areturn, 1) := by decide +kernel
theorem oef_ors_cr (m_ : MethodId) (t : Addr) (y0_ : Int32)  : (entryFrame m_ #[(.ref t), (.int (0 : Int32)), (.int y0_)] 3).locals = #[.val (.ref t), .val (.int (0 : Int32)), .val (.int y0_)] := by first | (simp [entryFrame, argsToLocals, Value.category]; done) | rfl
set_option maxRecDepth 65536 in
set_option maxHeartbeats 40000000 in
theorem ors_cr (l : Launch) (Z : State) (a0 : Array Value) (hw : ∀ d ∈ tables_1, d.before a0 Z = true) (hE : EW Z a0 consts_1) (t : Addr) (kb : ClassId) (M : Nat) (vs : List Value) (n : Nat) (h : Heap) (hO : Old Z Z.heap.size h) (q0 : Arv Z h t kb .byte (Int32.ofNat M) vs (.int 0)) (q1 : Exa Z h t "[B") (hvs : (vs.length = M)) (hnM : (n ≤ M)) (hM : (M ≤ 40))  :
    Ct l Z consts_1 (⟨"java/util/Arrays", "copyOfRange", "([BII)[B"⟩ : MethodName) jdk_65_method_132_code 3 (Option.some (Jvm.ClassFile.FieldType.array Jvm.ClassFile.FieldType.byte)) ⟨2, 1, 40, 80⟩ #[(.ref t), (.int (0 : Int32)), (.int (Int32.ofNat n))] h [] (fun rv' hp' so' => ∃ r : Addr, ∃ kr : ClassId, rv' = some (.ref r) ∧ so' = [r] ∧ (h.size ≤ r) ∧ Arv Z hp' r kr .byte (Int32.ofNat n) (vs.take n) (.int 0)) := by
  refine Ct.mk "java/util/Arrays" "copyOfRange" rfl rfl (a0 := a0) (plainFor_of_name opn4) hO hE (fun x q => nomatch q) ?_
  intro K T W
  rw [oef_ors_cr]
  refine gIloadN W d33_0 rfl rfl ?_
  refine gIfNo W d33_1 ((if0 _ _).trans (teq (by decide)).2) rfl ?_
  refine gIloadN W d33_4 rfl rfl ?_
  refine gAloadN W d33_5 rfl rfl rfl ?_
  refine wLen W d33_6 q0 rfl ?_
  by_cases enM : n = M
  · refine gIcmpYes (pc' := 17) W d33_7 (teq (congrArg Int32.ofNat enM)).1 (by decide) rfl ?_
    refine gAloadN W d33_17 rfl rfl rfl ?_
    refine wClone W d33_18 (ow258 hw) (ow259 hw) (ow263 hw) (ow261 hw) (ow262 hw) (ow264 hw) q0 q1 rfl (by decide) 0 (Nat.le_of_eq rfl) (by decide) 40 (by rw [ofNat_clamp (by omega)]; omega) (by decide) (by decide) rfl fun T919 h921 a922 W920 E923 g924 A925 E926 => ?_
    refine wCast W920 d33_21 (ow265 hw) (Ins.self E926) rfl fun T927 W928 => ?_
    have f929 : Arv Z h921 a922 kb .byte (Int32.ofNat n) (vs.take n) (.int 0) := by rw [enM, List.take_of_length_le (Nat.le_of_eq hvs)]; exact A925
    exact wRetA (so := [a922]) (t := .array .byte) W928 d33_24 rfl rfl rfl (by decide) (by decide) (all1 ⟨by simp, (Nat.le_of_eq g924.symm)⟩ alln) ⟨a922, kb, rfl, rfl, (Nat.le_of_eq g924.symm), f929⟩
  · refine gIcmpNo W d33_7 (feq (fun q => enM (ofNat_inj (by omega) (by omega) q))).1 rfl ?_
    refine gAloadN W d33_10 rfl rfl rfl ?_
    refine gIloadN W d33_11 rfl rfl ?_
    refine gIloadN W d33_12 rfl rfl ?_
    refine wStatic (y := (⟨"java/util/Arrays", "copyOfRangeByte", "([BII)[B"⟩ : MethodName)) (Wd := 0) (argsL := [(.ref t), (.int (0 : Int32)), (.int (Int32.ofNat n))]) (rest := []) W d33_13 (ow197 hw) (ow198 hw) (ow195 hw) (ow199 hw) (by decide) (Cb.ct (ors_crb l Z a0 hw hE (t) (kb) (M) (vs) (n) h W.old q0 hvs (by omega) hM ) (ow199 hw) (ow195 hw) hE (by decide) (by decide)) (by simp) rfl (lenOf opd15 rfl) rfl (Nat.le_of_eq rfl) (by decide) (by decide) rfl fun v934 so935 T930 h932 W931 kp933 sp936 q937 => ?_
    obtain ⟨r938, kr939, rfl, rfl, f940, f941⟩ := q937
    show Go K _ T930 16 #[.val (.ref t), .val (.int (0 : Int32)), .val (.int (Int32.ofNat n))] [(.ref r938)]
    exact wRetA (so := [r938]) (t := .array .byte) W931 d33_16 rfl rfl rfl (by decide) (by decide) (all1 ⟨by simp, f940⟩ alln) ⟨r938, kr939, rfl, rfl, f940, f941⟩
theorem d29_0 : decode jdk_42_method_150_code 0 = .ok (.aload_n 0, 1) := by decide +kernel
theorem d29_1 : decode jdk_42_method_150_code 1 = .ok (.invokespecial 1, 3) := by decide +kernel
theorem ow178 {a0 : Array Value} {Z : State} (hw : ∀ d ∈ tables_1, d.before a0 Z = true) : (Jvm.Cond.methodLink "java/lang/String" (1 : Nat) ({ cls := "java/lang/Object", name := "<init>", desc := "()V" } : Jvm.MethodName)).before a0 Z = true := hw _ (List.mem_of_getElem? (i := 178) rfl)
theorem d29_4 : decode jdk_42_method_150_code 4 = .ok (.aload_n 1, 1) := by decide +kernel
theorem d29_5 : decode jdk_42_method_150_code 5 = .ok (.invokevirtual 552, 3) := by decide +kernel
theorem ow183 {a0 : Array Value} {Z : State} (hw : ∀ d ∈ tables_1, d.before a0 Z = true) : (Jvm.Cond.code ({ cls := "java/lang/AbstractStringBuilder", name := "getValue", desc := "()[B" } : Jvm.MethodName) jdk_68_method_64_code (1 : Nat) (Option.some (Jvm.ClassFile.FieldType.array Jvm.ClassFile.FieldType.byte))).before a0 Z = true := hw _ (List.mem_of_getElem? (i := 183) rfl)
theorem opd16 : parseMethodDescriptor "()[B" = some ⟨[], some (.array .byte)⟩ := by decide +kernel
theorem ow179 {a0 : Array Value} {Z : State} (hw : ∀ d ∈ tables_1, d.before a0 Z = true) : (Jvm.Cond.methodLink "java/lang/String" (552 : Nat) ({ cls := "java/lang/AbstractStringBuilder", name := "getValue", desc := "()[B" } : Jvm.MethodName)).before a0 Z = true := hw _ (List.mem_of_getElem? (i := 179) rfl)
theorem ow180 {a0 : Array Value} {Z : State} (hw : ∀ d ∈ tables_1, d.before a0 Z = true) : (Jvm.Cond.declares ({ cls := "java/lang/AbstractStringBuilder", name := "getValue", desc := "()[B" } : Jvm.MethodName)).before a0 Z = true := hw _ (List.mem_of_getElem? (i := 180) rfl)
theorem ow182 {a0 : Array Value} {Z : State} (hw : ∀ d ∈ tables_1, d.before a0 Z = true) : (Jvm.Cond.selects "java/lang/StringBuilder" ({ cls := "java/lang/AbstractStringBuilder", name := "getValue", desc := "()[B" } : Jvm.MethodName) ({ cls := "java/lang/AbstractStringBuilder", name := "getValue", desc := "()[B" } : Jvm.MethodName)).before a0 Z = true := hw _ (List.mem_of_getElem? (i := 182) rfl)
theorem ow181 {a0 : Array Value} {Z : State} (hw : ∀ d ∈ tables_1, d.before a0 Z = true) : (Jvm.Cond.instanceMethod ({ cls := "java/lang/AbstractStringBuilder", name := "getValue", desc := "()[B" } : Jvm.MethodName)).before a0 Z = true := hw _ (List.mem_of_getElem? (i := 181) rfl)
theorem d29_8 : decode jdk_42_method_150_code 8 = .ok (.astore_n 3, 1) := by decide +kernel
theorem d29_9 : decode jdk_42_method_150_code 9 = .ok (.aload_n 1, 1) := by decide +kernel
theorem d29_10 : decode jdk_42_method_150_code 10 = .ok (.invokevirtual 549, 3) := by decide +kernel
theorem ow66 {a0 : Array Value} {Z : State} (hw : ∀ d ∈ tables_1, d.before a0 Z = true) : (Jvm.Cond.initialized "java/lang/StringBuilder").before a0 Z = true := hw _ (List.mem_of_getElem? (i := 66) rfl)
theorem ow189 {a0 : Array Value} {Z : State} (hw : ∀ d ∈ tables_1, d.before a0 Z = true) : (Jvm.Cond.code ({ cls := "java/lang/StringBuilder", name := "length", desc := "()I" } : Jvm.MethodName) jdk_67_method_93_code (1 : Nat) (Option.some Jvm.ClassFile.FieldType.int)).before a0 Z = true := hw _ (List.mem_of_getElem? (i := 189) rfl)
theorem ow184 {a0 : Array Value} {Z : State} (hw : ∀ d ∈ tables_1, d.before a0 Z = true) : (Jvm.Cond.methodLink "java/lang/String" (549 : Nat) ({ cls := "java/lang/AbstractStringBuilder", name := "length", desc := "()I" } : Jvm.MethodName)).before a0 Z = true := hw _ (List.mem_of_getElem? (i := 184) rfl)
theorem ow185 {a0 : Array Value} {Z : State} (hw : ∀ d ∈ tables_1, d.before a0 Z = true) : (Jvm.Cond.declares ({ cls := "java/lang/AbstractStringBuilder", name := "length", desc := "()I" } : Jvm.MethodName)).before a0 Z = true := hw _ (List.mem_of_getElem? (i := 185) rfl)
theorem ow187 {a0 : Array Value} {Z : State} (hw : ∀ d ∈ tables_1, d.before a0 Z = true) : (Jvm.Cond.selects "java/lang/StringBuilder" ({ cls := "java/lang/AbstractStringBuilder", name := "length", desc := "()I" } : Jvm.MethodName) ({ cls := "java/lang/StringBuilder", name := "length", desc := "()I" } : Jvm.MethodName)).before a0 Z = true := hw _ (List.mem_of_getElem? (i := 187) rfl)
theorem ow188 {a0 : Array Value} {Z : State} (hw : ∀ d ∈ tables_1, d.before a0 Z = true) : (Jvm.Cond.instanceMethod ({ cls := "java/lang/StringBuilder", name := "length", desc := "()I" } : Jvm.MethodName)).before a0 Z = true := hw _ (List.mem_of_getElem? (i := 188) rfl)
theorem d29_13 : decode jdk_42_method_150_code 13 = .ok (.istore 4, 2) := by decide +kernel
theorem d29_15 : decode jdk_42_method_150_code 15 = .ok (.aload_n 1, 1) := by decide +kernel
theorem d29_16 : decode jdk_42_method_150_code 16 = .ok (.invokevirtual 1047, 3) := by decide +kernel
theorem ow192 {a0 : Array Value} {Z : State} (hw : ∀ d ∈ tables_1, d.before a0 Z = true) : (Jvm.Cond.methodLink "java/lang/String" (1047 : Nat) ({ cls := "java/lang/AbstractStringBuilder", name := "isLatin1", desc := "()Z" } : Jvm.MethodName)).before a0 Z = true := hw _ (List.mem_of_getElem? (i := 192) rfl)
theorem d29_19 : decode jdk_42_method_150_code 19 = .ok (.ifCond .eq 22, 3) := by decide +kernel
theorem d29_22 : decode jdk_42_method_150_code 22 = .ok (.aload_n 0, 1) := by decide +kernel
theorem d29_23 : decode jdk_42_method_150_code 23 = .ok (.iconst 0, 1) := by decide +kernel
theorem d29_24 : decode jdk_42_method_150_code 24 = .ok (.putfield 15, 3) := by decide +kernel
theorem ow87 {a0 : Array Value} {Z : State} (hw : ∀ d ∈ tables_1, d.before a0 Z = true) : (Jvm.Cond.laysFinal "java/lang/String" "java/lang/String" "coder" "B").before a0 Z = true := hw _ (List.mem_of_getElem? (i := 87) rfl)
theorem ow85 {a0 : Array Value} {Z : State} (hw : ∀ d ∈ tables_1, d.before a0 Z = true) : (Jvm.Cond.instantiable "java/lang/String" (4 : Nat)).before a0 Z = true := hw _ (List.mem_of_getElem? (i := 85) rfl)
theorem d29_27 : decode jdk_42_method_150_code 27 = .ok (.aload_n 0, 1) := by decide +kernel
theorem d29_28 : decode jdk_42_method_150_code 28 = .ok (.aload_n 3, 1) := by decide +kernel
theorem d29_29 : decode jdk_42_method_150_code 29 = .ok (.iconst 0, 1) := by decide +kernel
theorem d29_30 : decode jdk_42_method_150_code 30 = .ok (.iload 4, 2) := by decide +kernel
theorem d29_32 : decode jdk_42_method_150_code 32 = .ok (.invokestatic 54, 3) := by decide +kernel
theorem ow193 {a0 : Array Value} {Z : State} (hw : ∀ d ∈ tables_1, d.before a0 Z = true) : (Jvm.Cond.methodLink "java/lang/String" (54 : Nat) ({ cls := "java/util/Arrays", name := "copyOfRange", desc := "([BII)[B" } : Jvm.MethodName)).before a0 Z = true := hw _ (List.mem_of_getElem? (i := 193) rfl)
theorem ow196 {a0 : Array Value} {Z : State} (hw : ∀ d ∈ tables_1, d.before a0 Z = true) : (Jvm.Cond.code ({ cls := "java/util/Arrays", name := "copyOfRange", desc := "([BII)[B" } : Jvm.MethodName) jdk_65_method_132_code (3 : Nat) (Option.some (Jvm.ClassFile.FieldType.array Jvm.ClassFile.FieldType.byte))).before a0 Z = true := hw _ (List.mem_of_getElem? (i := 196) rfl)
theorem ow194 {a0 : Array Value} {Z : State} (hw : ∀ d ∈ tables_1, d.before a0 Z = true) : (Jvm.Cond.static ({ cls := "java/util/Arrays", name := "copyOfRange", desc := "([BII)[B" } : Jvm.MethodName)).before a0 Z = true := hw _ (List.mem_of_getElem? (i := 194) rfl)
theorem d29_35 : decode jdk_42_method_150_code 35 = .ok (.putfield 9, 3) := by decide +kernel
theorem ow86 {a0 : Array Value} {Z : State} (hw : ∀ d ∈ tables_1, d.before a0 Z = true) : (Jvm.Cond.laysFinal "java/lang/String" "java/lang/String" "value" "[B").before a0 Z = true := hw _ (List.mem_of_getElem? (i := 86) rfl)
theorem d29_38 : decode jdk_42_method_150_code 38 = .ok (.goto 59, 3) := by decide +kernel
theorem d29_97 : decode jdk_42_method_150_code 97 = .ok (.return_, 1) := by decide +kernel
theorem oef_ors_s2 (m_ : MethodId) (a : Addr) (b : Addr)  : (entryFrame m_ #[(.ref a), (.ref b), .null] 5).locals = #[.val (.ref a), .val (.ref b), .val .null, .unset, .unset] := by first | (simp [entryFrame, argsToLocals, Value.category]; done) | rfl
set_option maxRecDepth 65536 in
set_option maxHeartbeats 40000000 in
theorem ors_s2 (l : Launch) (Z : State) (a0 : Array Value) (hw : ∀ d ∈ tables_1, d.before a0 Z = true) (hE : EW Z a0 consts_1) (a : Addr) (b : Addr) (t : Addr) (kb : ClassId) (M : Nat) (vs : List Value) (n : Nat) (z : Int32) (h : Heap) (hO : Old Z Z.heap.size h) (SC : (Sta Z Z.heap "java/lang/String" "COMPACT_STRINGS" "Z" (.int z))) (hz : (¬ z = 0)) (q2 : Exa Z h a "java/lang/String") (q3 : Fld Z h a "java/lang/String" "value" "[B" .null) (q4 : Fld Z h a "java/lang/String" "coder" "B" (.int (0 : Int32))) (q5 : Exa Z h b "java/lang/StringBuilder") (q6 : Fld Z h b "java/lang/AbstractStringBuilder" "value" "[B" (.ref t)) (q7 : Fld Z h b "java/lang/AbstractStringBuilder" "coder" "B" (.int (0 : Int32))) (q8 : Fld Z h b "java/lang/AbstractStringBuilder" "count" "I" (.int (Int32.ofNat n))) (q9 : Arv Z h t kb .byte (Int32.ofNat M) vs (.int 0)) (q10 : Exa Z h t "[B") (hvs : (vs.length = M)) (hnM : (n ≤ M)) (hM : (M ≤ 40)) (ge_a : Z.heap.size ≤ a) :
    Ct l Z consts_1 (⟨"java/lang/String", "<init>", "(Ljava/lang/AbstractStringBuilder;Ljava/lang/Void;)V"⟩ : MethodName) jdk_42_method_150_code 5 (Option.none : Option Jvm.ClassFile.FieldType) ⟨3, 1, 40, 100⟩ #[(.ref a), (.ref b), .null] h [a] (fun rv' hp' so' => ∃ r : Addr, ∃ kr : ClassId, rv' = none ∧ so' = [] ∧ Exa Z hp' a "java/lang/String" ∧ Fld Z hp' a "java/lang/String" "coder" "B" (.int (0 : Int32)) ∧ Fld Z hp' a "java/lang/String" "value" "[B" (.ref r) ∧ Arv Z hp' r kr .byte (Int32.ofNat n) (vs.take n) (.int 0)) := by
  refine Ct.mk "java/lang/String" "<init>" rfl rfl (a0 := a0) (plainFor_of_name opn2) hO hE (fun x q => by simp at q; subst q; exact ge_a) ?_
  intro K T W
  rw [oef_ors_s2]
  refine gAloadN W d29_0 rfl rfl rfl ?_
  refine wInitO W d29_1 (ow178 hw) (ow25 hw) (ow26 hw) rfl (by decide) 0 (Nat.le_of_eq rfl) (by decide) rfl fun T942 W943 => ?_
  refine gAloadN W943 d29_4 rfl rfl rfl ?_
  refine wVirtual (y := (⟨"java/lang/AbstractStringBuilder", "getValue", "()[B"⟩ : MethodName)) (z := (⟨"java/lang/AbstractStringBuilder", "getValue", "()[B"⟩ : MethodName)) (Wd := 0) (a := b) (argsL := []) (rest := []) W943 d29_5 (ow179 hw) (ow180 hw) (ow182 hw) (ow181 hw) (nfS (ow182 hw)) (by decide) (Cb.ct (ors_gv l Z a0 hw hE (b) (t) h W943.old q6 ) (ow183 hw) (ow74 hw) hE (by decide) (by decide)) q5 (by simp) rfl (lenOf opd16 rfl) rfl (Nat.le_of_eq rfl) (by decide) (by decide) rfl fun v948 so949 T944 h946 W945 kp947 sp950 q951 => ?_
  obtain ⟨rfl, rfl⟩ := q951
  show Go K _ T944 8 #[.val (.ref a), .val (.ref b), .val .null, .unset, .unset] [(.ref t)]
  refine gAstoreN (ls' := #[.val (.ref a), .val (.ref b), .val .null, .val (.ref t), .unset]) W945 d29_8 rfl rfl rfl ?_
  refine gAloadN W945 d29_9 rfl rfl rfl ?_
  have f952 := q5.keep kp947
  have f953 := q8.keep kp947 nin0
  refine wVirtual (y := (⟨"java/lang/AbstractStringBuilder", "length", "()I"⟩ : MethodName)) (z := (⟨"java/lang/StringBuilder", "length", "()I"⟩ : MethodName)) (Wd := 0) (a := b) (argsL := []) (rest := []) W945 d29_10 (ow184 hw) (ow185 hw) (ow187 hw) (ow188 hw) (nfC (ow118 hw) rfl) (by decide) (Cb.ct (ors_l1 l Z a0 hw hE (b) ((Int32.ofNat n)) h946 W945.old f952 f953 ) (ow189 hw) (ow66 hw) hE (by decide) (by decide)) f952 (by simp) rfl (lenOf opd4 rfl) rfl (Nat.le_of_eq rfl) (by decide) (by decide) rfl fun v958 so959 T954 h956 W955 kp957 sp960 q961 => ?_
  obtain ⟨rfl, rfl⟩ := q961
  show Go K _ T954 13 #[.val (.ref a), .val (.ref b), .val .null, .val (.ref t), .unset] [(.int (Int32.ofNat n))]
  refine gIstore (ls' := #[.val (.ref a), .val (.ref b), .val .null, .val (.ref t), .val (.int (Int32.ofNat n))]) W955 d29_13 rfl rfl ?_
  refine gAloadN W955 d29_15 rfl rfl rfl ?_
  have f962 := q7.keep kp947 nin0
  have f963 := f962.keep kp957 nin0
  have f972 := f952.keep kp957
  refine wVirtual (y := (⟨"java/lang/AbstractStringBuilder", "isLatin1", "()Z"⟩ : MethodName)) (z := (⟨"java/lang/AbstractStringBuilder", "isLatin1", "()Z"⟩ : MethodName)) (Wd := 0) (a := b) (argsL := []) (rest := []) W955 d29_16 (ow192 hw) (ow154 hw) (ow156 hw) (ow155 hw) (nfS (ow156 hw)) (by decide) (Cb.ct (ors_il l Z a0 hw hE (b) (z) h956 W955.old SC hz f963 ) (ow157 hw) (ow74 hw) hE (by decide) (by decide)) f972 (by simp) rfl (lenOf opd8 rfl) rfl (Nat.le_of_eq rfl) (by decide) (by decide) rfl fun v968 so969 T964 h966 W965 kp967 sp970 q971 => ?_
  obtain ⟨rfl, rfl⟩ := q971
  show Go K _ T964 19 #[.val (.ref a), .val (.ref b), .val .null, .val (.ref t), .val (.int (Int32.ofNat n))] [(.int (1 : Int32))]
  refine gIfNo W965 d29_19 ((if0 _ _).trans (feq (by decide)).1) rfl ?_
  refine gAloadN W965 d29_22 rfl rfl rfl ?_
  refine gIconst (z := (0 : Int32)) W965 d29_23 rfl rfl ?_
  have f973 := q4.keep kp947 nin0
  have f974 := f973.keep kp957 nin0
  have f975 := f974.keep kp967 nin0
  have f976 := q2.keep kp947
  have f977 := f976.keep kp957
  have f978 := f977.keep kp967
  refine wPutF (ty := .byte) W965 d29_24 (ow112 hw) Via.refl (by simp) f975 f978 (Or.inr ⟨(ow87 hw), rfl, rfl⟩) (ow85 hw) (by decide) rfl (by decide) rfl fun T979 h981 W980 wr982 => ?_
  have f983 := Fld.same wr982 f975
  refine gAloadN W980 d29_27 rfl rfl rfl ?_
  refine gAloadN W980 d29_28 rfl rfl rfl ?_
  refine gIconst (z := (0 : Int32)) W980 d29_29 rfl rfl ?_
  refine gIload W980 d29_30 rfl rfl ?_
  have f984 := q9.keep kp947 nin0
  have f985 := f984.keep kp957 nin0
  have f986 := f985.keep kp967 nin0
  have f987 := f986.other wr982 (Ne.symm (Exa.neArv q2 q9 (hws' hw)))
  have f988 := q10.keep kp947
  have f989 := f988.keep kp957
  have f990 := f989.keep kp967
  have f991 := f990.wr wr982
  refine wStatic (y := (⟨"java/util/Arrays", "copyOfRange", "([BII)[B"⟩ : MethodName)) (Wd := 1) (argsL := [(.ref t), (.int (0 : Int32)), (.int (Int32.ofNat n))]) (rest := [(.ref a)]) W980 d29_32 (ow193 hw) (ow194 hw) (ow195 hw) (ow196 hw) (by decide) (Cb.ct (ors_cr l Z a0 hw hE (t) (kb) (M) (vs) (n) h981 W980.old f987 f991 hvs hnM hM ) (ow196 hw) (ow195 hw) hE (by decide) (by decide)) (by simp) rfl (lenOf opd15 rfl) rfl (Nat.le_of_eq rfl) (by decide) (by decide) rfl fun v996 so997 T992 h994 W993 kp995 sp998 q999 => ?_
  obtain ⟨r1000, kr1001, rfl, rfl, f1002, f1003⟩ := q999
  show Go K _ T992 35 #[.val (.ref a), .val (.ref b), .val .null, .val (.ref t), .val (.int (Int32.ofNat n))] [(.ref r1000), (.ref a)]
  have f1004 := q3.keep kp947 nin0
  have f1005 := f1004.keep kp957 nin0
  have f1006 := f1005.keep kp967 nin0
  have f1007 := f1006.other wr982 (Or.inr (slot_ne (t := .array .byte) (t' := .byte) (Or.inr (ow86 hw)) (Or.inr (ow87 hw)) (by decide) (by decide) (by decide)))
  have f1008 := f1007.keep kp995 nin0
  have f1009 := f978.wr wr982
  have f1010 := f1009.keep kp995
  refine wPutF (ty := .array .byte) W993 d29_35 (ow105 hw) Via.refl (by simp) f1008 f1010 (Or.inr ⟨(ow86 hw), rfl, rfl⟩) (ow85 hw) (by decide) rfl rfl rfl fun T1011 h1013 W1012 wr1014 => ?_
  have f1015 := Fld.same wr1014 f1008
  refine gGoto (pc' := 97) W1012 d29_38 (by decide) rfl ?_
  have f1016 := f1010.wr wr1014
  have f1017 := f983.keep kp995 nin0
  have f1018 := f1017.other wr1014 (Or.inr (slot_ne (t := .byte) (t' := .array .byte) (Or.inr (ow87 hw)) (Or.inr (ow86 hw)) (by decide) (by decide) (by decide)))
  have ne1019 : a ≠ r1000 := Nat.ne_of_lt (Nat.lt_of_lt_of_le f1009.lt f1002)
  have f1020 := f1003.other wr1014 (Ne.symm ne1019)
  exact wRet0 (so := []) W1012 d29_97 (by decide) (by decide) (fun _ q => nomatch q) ⟨r1000, kr1001, rfl, rfl, f1016, f1018, f1015, f1020⟩
theorem d28_0 : decode jdk_42_method_53_code 0 = .ok (.aload_n 0, 1) := by decide +kernel
theorem d28_1 : decode jdk_42_method_53_code 1 = .ok (.aload_n 1, 1) := by decide +kernel
theorem d28_2 : decode jdk_42_method_53_code 2 = .ok (.aconst_null, 1) := by decide +kernel
theorem d28_3 : decode jdk_42_method_53_code 3 = .ok (.invokespecial 489, 3) := by decide +kernel
theorem ow175 {a0 : Array Value} {Z : State} (hw : ∀ d ∈ tables_1, d.before a0 Z = true) : (Jvm.Cond.methodLink "java/lang/String" (489 : Nat) ({ cls := "java/lang/String", name := "<init>", desc := "(Ljava/lang/AbstractStringBuilder;Ljava/lang/Void;)V" } : Jvm.MethodName)).before a0 Z = true := hw _ (List.mem_of_getElem? (i := 175) rfl)
theorem ow177 {a0 : Array Value} {Z : State} (hw : ∀ d ∈ tables_1, d.before a0 Z = true) : (Jvm.Cond.code ({ cls := "java/lang/String", name := "<init>", desc := "(Ljava/lang/AbstractStringBuilder;Ljava/lang/Void;)V" } : Jvm.MethodName) jdk_42_method_150_code (5 : Nat) (Option.none : Option Jvm.ClassFile.FieldType)).before a0 Z = true := hw _ (List.mem_of_getElem? (i := 177) rfl)
theorem opd17 : parseMethodDescriptor "(Ljava/lang/AbstractStringBuilder;Ljava/lang/Void;)V" = some ⟨[.object "java/lang/AbstractStringBuilder", .object "java/lang/Void"], none⟩ := by decide +kernel
theorem ow176 {a0 : Array Value} {Z : State} (hw : ∀ d ∈ tables_1, d.before a0 Z = true) : (Jvm.Cond.instanceMethod ({ cls := "java/lang/String", name := "<init>", desc := "(Ljava/lang/AbstractStringBuilder;Ljava/lang/Void;)V" } : Jvm.MethodName)).before a0 Z = true := hw _ (List.mem_of_getElem? (i := 176) rfl)
theorem d28_6 : decode jdk_42_method_53_code 6 = .ok (.return_, 1) := by decide +kernel
theorem oef_ors_s1 (m_ : MethodId) (a : Addr) (b : Addr)  : (entryFrame m_ #[(.ref a), (.ref b)] 2).locals = #[.val (.ref a), .val (.ref b)] := by first | (simp [entryFrame, argsToLocals, Value.category]; done) | rfl
set_option maxRecDepth 65536 in
set_option maxHeartbeats 40000000 in
theorem ors_s1 (l : Launch) (Z : State) (a0 : Array Value) (hw : ∀ d ∈ tables_1, d.before a0 Z = true) (hE : EW Z a0 consts_1) (a : Addr) (b : Addr) (t : Addr) (kb : ClassId) (M : Nat) (vs : List Value) (n : Nat) (z : Int32) (h : Heap) (hO : Old Z Z.heap.size h) (SC : (Sta Z Z.heap "java/lang/String" "COMPACT_STRINGS" "Z" (.int z))) (hz : (¬ z = 0)) (q2 : Exa Z h a "java/lang/String") (q3 : Fld Z h a "java/lang/String" "value" "[B" .null) (q4 : Fld Z h a "java/lang/String" "coder" "B" (.int (0 : Int32))) (q5 : Exa Z h b "java/lang/StringBuilder") (q6 : Fld Z h b "java/lang/AbstractStringBuilder" "value" "[B" (.ref t)) (q7 : Fld Z h b "java/lang/AbstractStringBuilder" "coder" "B" (.int (0 : Int32))) (q8 : Fld Z h b "java/lang/AbstractStringBuilder" "count" "I" (.int (Int32.ofNat n))) (q9 : Arv Z h t kb .byte (Int32.ofNat M) vs (.int 0)) (q10 : Exa Z h t "[B") (hvs : (vs.length = M)) (hnM : (n ≤ M)) (hM : (M ≤ 40)) (ge_a : Z.heap.size ≤ a) :
    Ct l Z consts_1 (⟨"java/lang/String", "<init>", "(Ljava/lang/StringBuilder;)V"⟩ : MethodName) jdk_42_method_53_code 2 (Option.none : Option Jvm.ClassFile.FieldType) ⟨4, 1, 40, 120⟩ #[(.ref a), (.ref b)] h [a] (fun rv' hp' so' => ∃ r : Addr, ∃ kr : ClassId, rv' = none ∧ so' = [] ∧ Exa Z hp' a "java/lang/String" ∧ Fld Z hp' a "java/lang/String" "coder" "B" (.int (0 : Int32)) ∧ Fld Z hp' a "java/lang/String" "value" "[B" (.ref r) ∧ Arv Z hp' r kr .byte (Int32.ofNat n) (vs.take n) (.int 0)) := by
  refine Ct.mk "java/lang/String" "<init>" rfl rfl (a0 := a0) (plainFor_of_name opn2) hO hE (fun x q => by simp at q; subst q; exact ge_a) ?_
  intro K T W
  rw [oef_ors_s1]
  refine gAloadN W d28_0 rfl rfl rfl ?_
  refine gAloadN W d28_1 rfl rfl rfl ?_
  refine gAconstNull W d28_2 rfl ?_
  refine wSpecial (y := (⟨"java/lang/String", "<init>", "(Ljava/lang/AbstractStringBuilder;Ljava/lang/Void;)V"⟩ : MethodName)) (Wd := 0) (a := a) (argsL := [(.ref b), .null]) (rest := []) W d28_3 rfl (ow175 hw) (ow176 hw) (ow177 hw) (by decide) (Cb.ct (ors_s2 l Z a0 hw hE (a) (b) (t) (kb) (M) (vs) (n) (z) h W.old SC hz q2 q3 q4 q5 q6 q7 q8 q9 q10 hvs hnM hM ge_a) (ow177 hw) (ow78 hw) hE (by decide) (by decide)) (by simp) rfl (lenOf opd17 rfl) rfl (Nat.le_of_eq rfl) (by decide) (by decide) rfl fun v1025 so1026 T1021 h1023 W1022 kp1024 sp1027 q1028 => ?_
  obtain ⟨r1029, kr1030, rfl, rfl, f1031, f1032, f1033, f1034⟩ := q1028
  show Go K _ T1021 6 #[.val (.ref a), .val (.ref b)] []
  exact wRet0 (so := []) W1022 d28_6 (by decide) (by decide) (fun _ q => nomatch q) ⟨r1029, kr1030, rfl, rfl, f1031, f1032, f1033, f1034⟩
theorem d27_0 : decode jdk_67_method_42_code 0 = .ok (.new 18, 3) := by decide +kernel
theorem ow170 {a0 : Array Value} {Z : State} (hw : ∀ d ∈ tables_1, d.before a0 Z = true) : (Jvm.Cond.classLink "java/lang/StringBuilder" (18 : Nat) "java/lang/String").before a0 Z = true := hw _ (List.mem_of_getElem? (i := 170) rfl)
theorem d27_3 : decode jdk_67_method_42_code 3 = .ok (.dup, 1) := by decide +kernel
theorem d27_4 : decode jdk_67_method_42_code 4 = .ok (.aload_n 0, 1) := by decide +kernel
theorem d27_5 : decode jdk_67_method_42_code 5 = .ok (.invokespecial 137, 3) := by decide +kernel
theorem ow171 {a0 : Array Value} {Z : State} (hw : ∀ d ∈ tables_1, d.before a0 Z = true) : (Jvm.Cond.methodLink "java/lang/StringBuilder" (137 : Nat) ({ cls := "java/lang/String", name := "<init>", desc := "(Ljava/lang/StringBuilder;)V" } : Jvm.MethodName)).before a0 Z = true := hw _ (List.mem_of_getElem? (i := 171) rfl)
theorem ow174 {a0 : Array Value} {Z : State} (hw : ∀ d ∈ tables_1, d.before a0 Z = true) : (Jvm.Cond.code ({ cls := "java/lang/String", name := "<init>", desc := "(Ljava/lang/StringBuilder;)V" } : Jvm.MethodName) jdk_42_method_53_code (2 : Nat) (Option.none : Option Jvm.ClassFile.FieldType)).before a0 Z = true := hw _ (List.mem_of_getElem? (i := 174) rfl)
theorem opd18 : parseMethodDescriptor "(Ljava/lang/StringBuilder;)V" = some ⟨[.object "java/lang/StringBuilder"], none⟩ := by decide +kernel
theorem ow172 {a0 : Array Value} {Z : State} (hw : ∀ d ∈ tables_1, d.before a0 Z = true) : (Jvm.Cond.instanceMethod ({ cls := "java/lang/String", name := "<init>", desc := "(Ljava/lang/StringBuilder;)V" } : Jvm.MethodName)).before a0 Z = true := hw _ (List.mem_of_getElem? (i := 172) rfl)
theorem d27_8 : decode jdk_67_method_42_code 8 = .ok (.areturn, 1) := by decide +kernel
theorem oef_ors_ts (m_ : MethodId) (b : Addr)  : (entryFrame m_ #[(.ref b)] 1).locals = #[.val (.ref b)] := by first | (simp [entryFrame, argsToLocals, Value.category]; done) | rfl
set_option maxRecDepth 65536 in
set_option maxHeartbeats 40000000 in
theorem ors_ts (l : Launch) (Z : State) (a0 : Array Value) (hw : ∀ d ∈ tables_1, d.before a0 Z = true) (hE : EW Z a0 consts_1) (b : Addr) (t : Addr) (kb : ClassId) (M : Nat) (vs : List Value) (n : Nat) (z : Int32) (h : Heap) (hO : Old Z Z.heap.size h) (SC : (Sta Z Z.heap "java/lang/String" "COMPACT_STRINGS" "Z" (.int z))) (hz : (¬ z = 0)) (q2 : Exa Z h b "java/lang/StringBuilder") (q3 : Fld Z h b "java/lang/AbstractStringBuilder" "value" "[B" (.ref t)) (q4 : Fld Z h b "java/lang/AbstractStringBuilder" "coder" "B" (.int (0 : Int32))) (q5 : Fld Z h b "java/lang/AbstractStringBuilder" "count" "I" (.int (Int32.ofNat n))) (q6 : Arv Z h t kb .byte (Int32.ofNat M) vs (.int 0)) (q7 : Exa Z h t "[B") (hvs : (vs.length = M)) (hnM : (n ≤ M)) (hM : (M ≤ 40))  :
    Ct l Z consts_1 (⟨"java/lang/StringBuilder", "toString", "()Ljava/lang/String;"⟩ : MethodName) jdk_67_method_42_code 1 (Option.some (Jvm.ClassFile.FieldType.object "java/lang/String")) ⟨5, 2, 44, 136⟩ #[(.ref b)] h [] (fun rv' hp' so' => ∃ s : Addr, ∃ r : Addr, ∃ kr : ClassId, rv' = some (.ref s) ∧ so' = [] ∧ Exa Z hp' s "java/lang/String" ∧ Fld Z hp' s "java/lang/String" "coder" "B" (.int (0 : Int32)) ∧ Fld Z hp' s "java/lang/String" "value" "[B" (.ref r) ∧ Arv Z hp' r kr .byte (Int32.ofNat n) (vs.take n) (.int 0)) := by
  refine Ct.mk "java/lang/StringBuilder" "toString" rfl rfl (a0 := a0) (plainFor_of_name opn1) hO hE (fun x q => nomatch q) ?_
  intro K T W
  rw [oef_ors_ts]
  refine wNewO W d27_0 (ow170 hw) (ow85 hw) (ow78 hw) (by decide) (by decide) rfl fun T1035 h1037 a1038 W1036 E1039 g1040 A1041 D1042  => ?_
  have f1043 : Fld Z h1037 a1038 "java/lang/String" "value" "[B" .null := D1042 (Or.inr (ow86 hw)) (ty := .array .byte) (by decide)
  have f1044 : Fld Z h1037 a1038 "java/lang/String" "coder" "B" (.int (0 : Int32)) := D1042 (Or.inr (ow87 hw)) (ty := .byte) (by decide)
  refine gDup W1036 d27_3 rfl rfl ?_
  refine gAloadN W1036 d27_4 rfl rfl rfl ?_
  have f1045 := q2.ext E1039
  have f1046 := q3.ext E1039
  have f1047 := q4.ext E1039
  have f1048 := q5.ext E1039
  have f1049 := q6.ext E1039
  have f1050 := q7.ext E1039
  refine wSpecial (y := (⟨"java/lang/String", "<init>", "(Ljava/lang/StringBuilder;)V"⟩ : MethodName)) (Wd := 1) (a := a1038) (argsL := [(.ref b)]) (rest := [(.ref a1038)]) W1036 d27_5 rfl (ow171 hw) (ow172 hw) (ow174 hw) (by decide) (Cb.ct (ors_s1 l Z a0 hw hE (a1038) (b) (t) (kb) (M) (vs) (n) (z) h1037 W1036.old SC hz A1041 f1043 f1044 f1045 f1046 f1047 f1048 f1049 f1050 hvs hnM hM (Nat.le_trans W.old.2.1 (Nat.le_of_eq g1040.symm))) (ow174 hw) (ow78 hw) hE (by decide) (by decide)) (by simp) rfl (lenOf opd18 rfl) rfl (Nat.le_of_eq rfl) (by decide) (by decide) rfl fun v1055 so1056 T1051 h1053 W1052 kp1054 sp1057 q1058 => ?_
  obtain ⟨r1059, kr1060, rfl, rfl, f1061, f1062, f1063, f1064⟩ := q1058
  show Go K _ T1051 8 #[.val (.ref b)] [(.ref a1038)]
  exact wRetA (so := []) (t := .object "java/lang/String") W1052 d27_8 rfl rfl rfl (by decide) (by decide) (fun _ q => nomatch q) ⟨a1038, r1059, kr1060, rfl, rfl, f1061, f1062, f1063, f1064⟩
-- CUT
theorem opn6 : plainName "java/util/AbstractCollection" = true := by first | (simp [plainName, overriddenIn]; done) | decide +kernel
theorem d4_0 : decode jdk_22_method_1_code 0 = .ok (.aload_n 0, 1) := by decide +kernel
theorem d4_1 : decode jdk_22_method_1_code 1 = .ok (.invokespecial 1, 3) := by decide +kernel
theorem ow24 {a0 : Array Value} {Z : State} (hw : ∀ d ∈ tables_1, d.before a0 Z = true) : (Jvm.Cond.methodLink "java/util/AbstractCollection" (1 : Nat) ({ cls := "java/lang/Object", name := "<init>", desc := "()V" } : Jvm.MethodName)).before a0 Z = true := hw _ (List.mem_of_getElem? (i := 24) rfl)
theorem d4_4 : decode jdk_22_method_1_code 4 = .ok (.return_, 1) := by decide +kernel
theorem oef_ofl_ac (m_ : MethodId) (a : Addr)  : (entryFrame m_ #[(.ref a)] 1).locals = #[.val (.ref a)] := by first | (simp [entryFrame, argsToLocals, Value.category]; done) | rfl
set_option maxRecDepth 65536 in
set_option maxHeartbeats 40000000 in
theorem ofl_ac (l : Launch) (Z : State) (a0 : Array Value) (hw : ∀ d ∈ tables_1, d.before a0 Z = true) (hE : EW Z a0 consts_1) (a : Addr) (h : Heap) (hO : Old Z Z.heap.size h)   :
    Ct l Z consts_1 (⟨"java/util/AbstractCollection", "<init>", "()V"⟩ : MethodName) jdk_22_method_1_code 1 (Option.none : Option Jvm.ClassFile.FieldType) ⟨1, 0, 0, 14⟩ #[(.ref a)] h [] (fun rv' hp' so' => rv' = none ∧ so' = []) := by
  refine Ct.mk "java/util/AbstractCollection" "<init>" rfl rfl (a0 := a0) (plainFor_of_name opn6) hO hE (fun x q => nomatch q) ?_
  intro K T W
  rw [oef_ofl_ac]
  refine gAloadN W d4_0 rfl rfl rfl ?_
  refine wInitO W d4_1 (ow24 hw) (ow25 hw) (ow26 hw) rfl (by decide) 0 (Nat.le_of_eq rfl) (by decide) rfl fun T1065 W1066 => ?_
  exact wRet0 (so := []) W1066 d4_4 (by decide) (by decide) (fun _ q => nomatch q) ⟨rfl, rfl⟩
theorem opn7 : plainName "java/util/AbstractList" = true := by first | (simp [plainName, overriddenIn]; done) | decide +kernel
theorem d3_0 : decode jdk_39_method_1_code 0 = .ok (.aload_n 0, 1) := by decide +kernel
theorem d3_1 : decode jdk_39_method_1_code 1 = .ok (.invokespecial 1, 3) := by decide +kernel
theorem ow18 {a0 : Array Value} {Z : State} (hw : ∀ d ∈ tables_1, d.before a0 Z = true) : (Jvm.Cond.methodLink "java/util/AbstractList" (1 : Nat) ({ cls := "java/util/AbstractCollection", name := "<init>", desc := "()V" } : Jvm.MethodName)).before a0 Z = true := hw _ (List.mem_of_getElem? (i := 18) rfl)
theorem ow22 {a0 : Array Value} {Z : State} (hw : ∀ d ∈ tables_1, d.before a0 Z = true) : (Jvm.Cond.initialized "java/util/AbstractCollection").before a0 Z = true := hw _ (List.mem_of_getElem? (i := 22) rfl)
theorem ow23 {a0 : Array Value} {Z : State} (hw : ∀ d ∈ tables_1, d.before a0 Z = true) : (Jvm.Cond.code ({ cls := "java/util/AbstractCollection", name := "<init>", desc := "()V" } : Jvm.MethodName) jdk_22_method_1_code (1 : Nat) (Option.none : Option Jvm.ClassFile.FieldType)).before a0 Z = true := hw _ (List.mem_of_getElem? (i := 23) rfl)
theorem opd19 : parseMethodDescriptor "()V" = some ⟨[], none⟩ := by decide +kernel
theorem ow19 {a0 : Array Value} {Z : State} (hw : ∀ d ∈ tables_1, d.before a0 Z = true) : (Jvm.Cond.instanceMethod ({ cls := "java/util/AbstractCollection", name := "<init>", desc := "()V" } : Jvm.MethodName)).before a0 Z = true := hw _ (List.mem_of_getElem? (i := 19) rfl)
theorem d3_4 : decode jdk_39_method_1_code 4 = .ok (.aload_n 0, 1) := by decide +kernel
theorem d3_5 : decode jdk_39_method_1_code 5 = .ok (.iconst 0, 1) := by decide +kernel
theorem d3_6 : decode jdk_39_method_1_code 6 = .ok (.putfield 7, 3) := by decide +kernel
theorem ow28 {a0 : Array Value} {Z : State} (hw : ∀ d ∈ tables_1, d.before a0 Z = true) : (Jvm.Cond.lays "com/example/hasset/hasset/model/GeneratedFleet$Addresses" "java/util/AbstractList" "modCount" "I").before a0 Z = true := hw _ (List.mem_of_getElem? (i := 28) rfl)
theorem ow27 {a0 : Array Value} {Z : State} (hw : ∀ d ∈ tables_1, d.before a0 Z = true) : (Jvm.Cond.fieldLink "java/util/AbstractList" (7 : Nat) "java/util/AbstractList" "modCount" "I").before a0 Z = true := hw _ (List.mem_of_getElem? (i := 27) rfl)
theorem ow8 {a0 : Array Value} {Z : State} (hw : ∀ d ∈ tables_1, d.before a0 Z = true) : (Jvm.Cond.instantiable "com/example/hasset/hasset/model/GeneratedFleet$Addresses" (2 : Nat)).before a0 Z = true := hw _ (List.mem_of_getElem? (i := 8) rfl)
theorem d3_9 : decode jdk_39_method_1_code 9 = .ok (.return_, 1) := by decide +kernel
theorem ow30 {a0 : Array Value} {Z : State} (hw : ∀ d ∈ tables_1, d.before a0 Z = true) : (Jvm.Cond.laysFinal "com/example/hasset/hasset/model/GeneratedFleet$Addresses" "com/example/hasset/hasset/model/GeneratedFleet$Addresses" "count" "I").before a0 Z = true := hw _ (List.mem_of_getElem? (i := 30) rfl)
theorem oef_ofl_al (m_ : MethodId) (a : Addr)  : (entryFrame m_ #[(.ref a)] 1).locals = #[.val (.ref a)] := by first | (simp [entryFrame, argsToLocals, Value.category]; done) | rfl
set_option maxRecDepth 65536 in
set_option maxHeartbeats 40000000 in
theorem ofl_al (l : Launch) (Z : State) (a0 : Array Value) (hw : ∀ d ∈ tables_1, d.before a0 Z = true) (hE : EW Z a0 consts_1) (a : Addr) (h : Heap) (hO : Old Z Z.heap.size h) (q0 : Exa Z h a "com/example/hasset/hasset/model/GeneratedFleet$Addresses") (q1 : Fld Z h a "java/util/AbstractList" "modCount" "I" (.int (0 : Int32))) (q2 : Fld Z h a "com/example/hasset/hasset/model/GeneratedFleet$Addresses" "count" "I" (.int (0 : Int32))) (ge_a : Z.heap.size ≤ a) :
    Ct l Z consts_1 (⟨"java/util/AbstractList", "<init>", "()V"⟩ : MethodName) jdk_39_method_1_code 1 (Option.none : Option Jvm.ClassFile.FieldType) ⟨2, 0, 0, 28⟩ #[(.ref a)] h [a] (fun rv' hp' so' => rv' = none ∧ so' = [] ∧ Exa Z hp' a "com/example/hasset/hasset/model/GeneratedFleet$Addresses" ∧ Fld Z hp' a "com/example/hasset/hasset/model/GeneratedFleet$Addresses" "count" "I" (.int (0 : Int32))) := by
  refine Ct.mk "java/util/AbstractList" "<init>" rfl rfl (a0 := a0) (plainFor_of_name opn7) hO hE (fun x q => by simp at q; subst q; exact ge_a) ?_
  intro K T W
  rw [oef_ofl_al]
  refine gAloadN W d3_0 rfl rfl rfl ?_
  refine wSpecial (y := (⟨"java/util/AbstractCollection", "<init>", "()V"⟩ : MethodName)) (Wd := 0) (a := a) (argsL := []) (rest := []) W d3_1 rfl (ow18 hw) (ow19 hw) (ow23 hw) (by decide) (Cb.ct (ofl_ac l Z a0 hw hE (a) h W.old  ) (ow23 hw) (ow22 hw) hE (by decide) (by decide)) (by simp) rfl (lenOf opd19 rfl) rfl (Nat.le_of_eq rfl) (by decide) (by decide) rfl fun v1071 so1072 T1067 h1069 W1068 kp1070 sp1073 q1074 => ?_
  obtain ⟨rfl, rfl⟩ := q1074
  show Go K _ T1067 4 #[.val (.ref a)] []
  refine gAloadN W1068 d3_4 rfl rfl rfl ?_
  refine gIconst (z := (0 : Int32)) W1068 d3_5 rfl rfl ?_
  have f1075 := q1.keep kp1070 nin0
  have f1076 := q0.keep kp1070
  refine wPutF (ty := .int) W1068 d3_6 (ow27 hw) Via.refl (by simp) f1075 f1076 (Or.inl (ow28 hw)) (ow8 hw) (by decide) rfl rfl rfl fun T1077 h1079 W1078 wr1080 => ?_
  have f1081 := Fld.same wr1080 f1075
  have f1082 := f1076.wr wr1080
  have f1083 := q2.keep kp1070 nin0
  have f1084 := f1083.other wr1080 (Or.inr (slot_ne (t := .int) (t' := .int) (Or.inr (ow30 hw)) (Or.inl (ow28 hw)) (by decide) (by decide) (by decide)))
  exact wRet0 (so := []) W1078 d3_9 (by decide) (by decide) (fun _ q => nomatch q) ⟨rfl, rfl, f1082, f1084⟩
theorem opn8 : plainName "com/example/hasset/hasset/model/GeneratedFleet$Addresses" = true := by first | (simp [plainName, overriddenIn]; done) | decide +kernel
theorem d2_0 : decode prog_14_method_1_code 0 = .ok (.aload_n 0, 1) := by decide +kernel
theorem d2_1 : decode prog_14_method_1_code 1 = .ok (.invokespecial 1, 3) := by decide +kernel
theorem ow13 {a0 : Array Value} {Z : State} (hw : ∀ d ∈ tables_1, d.before a0 Z = true) : (Jvm.Cond.methodLink "com/example/hasset/hasset/model/GeneratedFleet$Addresses" (1 : Nat) ({ cls := "java/util/AbstractList", name := "<init>", desc := "()V" } : Jvm.MethodName)).before a0 Z = true := hw _ (List.mem_of_getElem? (i := 13) rfl)
theorem ow16 {a0 : Array Value} {Z : State} (hw : ∀ d ∈ tables_1, d.before a0 Z = true) : (Jvm.Cond.initialized "java/util/AbstractList").before a0 Z = true := hw _ (List.mem_of_getElem? (i := 16) rfl)
theorem ow17 {a0 : Array Value} {Z : State} (hw : ∀ d ∈ tables_1, d.before a0 Z = true) : (Jvm.Cond.code ({ cls := "java/util/AbstractList", name := "<init>", desc := "()V" } : Jvm.MethodName) jdk_39_method_1_code (1 : Nat) (Option.none : Option Jvm.ClassFile.FieldType)).before a0 Z = true := hw _ (List.mem_of_getElem? (i := 17) rfl)
theorem ow14 {a0 : Array Value} {Z : State} (hw : ∀ d ∈ tables_1, d.before a0 Z = true) : (Jvm.Cond.instanceMethod ({ cls := "java/util/AbstractList", name := "<init>", desc := "()V" } : Jvm.MethodName)).before a0 Z = true := hw _ (List.mem_of_getElem? (i := 14) rfl)
theorem d2_4 : decode prog_14_method_1_code 4 = .ok (.aload_n 0, 1) := by decide +kernel
theorem d2_5 : decode prog_14_method_1_code 5 = .ok (.iload_n 1, 1) := by decide +kernel
theorem d2_6 : decode prog_14_method_1_code 6 = .ok (.putfield 7, 3) := by decide +kernel
theorem ow29 {a0 : Array Value} {Z : State} (hw : ∀ d ∈ tables_1, d.before a0 Z = true) : (Jvm.Cond.fieldLink "com/example/hasset/hasset/model/GeneratedFleet$Addresses" (7 : Nat) "com/example/hasset/hasset/model/GeneratedFleet$Addresses" "count" "I").before a0 Z = true := hw _ (List.mem_of_getElem? (i := 29) rfl)
theorem d2_9 : decode prog_14_method_1_code 9 = .ok (.return_, 1) := by decide +kernel
theorem oef_ofl_ai (m_ : MethodId) (a : Addr) (c : Int32)  : (entryFrame m_ #[(.ref a), (.int c)] 2).locals = #[.val (.ref a), .val (.int c)] := by first | (simp [entryFrame, argsToLocals, Value.category]; done) | rfl
set_option maxRecDepth 65536 in
set_option maxHeartbeats 40000000 in
theorem ofl_ai (l : Launch) (Z : State) (a0 : Array Value) (hw : ∀ d ∈ tables_1, d.before a0 Z = true) (hE : EW Z a0 consts_1) (a : Addr) (c : Int32) (h : Heap) (hO : Old Z Z.heap.size h) (q0 : Exa Z h a "com/example/hasset/hasset/model/GeneratedFleet$Addresses") (q1 : Fld Z h a "java/util/AbstractList" "modCount" "I" (.int (0 : Int32))) (q2 : Fld Z h a "com/example/hasset/hasset/model/GeneratedFleet$Addresses" "count" "I" (.int (0 : Int32))) (ge_a : Z.heap.size ≤ a) :
    Ct l Z consts_1 (⟨"com/example/hasset/hasset/model/GeneratedFleet$Addresses", "<init>", "(I)V"⟩ : MethodName) prog_14_method_1_code 2 (Option.none : Option Jvm.ClassFile.FieldType) ⟨3, 0, 0, 44⟩ #[(.ref a), (.int c)] h [a] (fun rv' hp' so' => rv' = none ∧ so' = [] ∧ Exa Z hp' a "com/example/hasset/hasset/model/GeneratedFleet$Addresses" ∧ Fld Z hp' a "com/example/hasset/hasset/model/GeneratedFleet$Addresses" "count" "I" (.int c)) := by
  refine Ct.mk "com/example/hasset/hasset/model/GeneratedFleet$Addresses" "<init>" rfl rfl (a0 := a0) (plainFor_of_name opn8) hO hE (fun x q => by simp at q; subst q; exact ge_a) ?_
  intro K T W
  rw [oef_ofl_ai]
  refine gAloadN W d2_0 rfl rfl rfl ?_
  refine wSpecial (y := (⟨"java/util/AbstractList", "<init>", "()V"⟩ : MethodName)) (Wd := 0) (a := a) (argsL := []) (rest := []) W d2_1 rfl (ow13 hw) (ow14 hw) (ow17 hw) (by decide) (Cb.ct (ofl_al l Z a0 hw hE (a) h W.old q0 q1 q2 ge_a) (ow17 hw) (ow16 hw) hE (by decide) (by decide)) (by simp) rfl (lenOf opd19 rfl) rfl (Nat.le_of_eq rfl) (by decide) (by decide) rfl fun v1089 so1090 T1085 h1087 W1086 kp1088 sp1091 q1092 => ?_
  obtain ⟨rfl, rfl, f1093, f1094⟩ := q1092
  show Go K _ T1085 4 #[.val (.ref a), .val (.int c)] []
  refine gAloadN W1086 d2_4 rfl rfl rfl ?_
  refine gIloadN W1086 d2_5 rfl rfl ?_
  refine wPutF (ty := .int) W1086 d2_6 (ow29 hw) Via.refl (by simp) f1094 f1093 (Or.inr ⟨(ow30 hw), rfl, rfl⟩) (ow8 hw) (by decide) rfl rfl rfl fun T1095 h1097 W1096 wr1098 => ?_
  have f1099 := Fld.same wr1098 f1094
  have f1100 := f1093.wr wr1098
  exact wRet0 (so := []) W1096 d2_9 (by decide) (by decide) (fun _ q => nomatch q) ⟨rfl, rfl, f1100, f1099⟩
theorem opn9 : plainName "com/example/hasset/hasset/model/GeneratedFleet" = true := by first | (simp [plainName, overriddenIn]; done) | decide +kernel
theorem d1_0 : decode prog_13_method_3_code 0 = .ok (.iload_n 0, 1) := by decide +kernel
theorem d1_1 : decode prog_13_method_3_code 1 = .ok (.ifCond .lt 9, 3) := by decide +kernel
theorem d1_4 : decode prog_13_method_3_code 4 = .ok (.iload_n 0, 1) := by decide +kernel
theorem d1_5 : decode prog_13_method_3_code 5 = .ok (.ldc 9, 2) := by decide +kernel
theorem ow6 {a0 : Array Value} {Z : State} (hw : ∀ d ∈ tables_1, d.before a0 Z = true) : (Jvm.Cond.constant "com/example/hasset/hasset/model/GeneratedFleet" (9 : Nat) (16777215 : Int32)).before a0 Z = true := hw _ (List.mem_of_getElem? (i := 6) rfl)
theorem d1_7 : decode prog_13_method_3_code 7 = .ok (.if_icmp .le 40, 3) := by decide +kernel
theorem d1_47 : decode prog_13_method_3_code 47 = .ok (.new 42, 3) := by decide +kernel
theorem ow9 {a0 : Array Value} {Z : State} (hw : ∀ d ∈ tables_1, d.before a0 Z = true) : (Jvm.Cond.initialized "com/example/hasset/hasset/model/GeneratedFleet$Addresses").before a0 Z = true := hw _ (List.mem_of_getElem? (i := 9) rfl)
theorem ow7 {a0 : Array Value} {Z : State} (hw : ∀ d ∈ tables_1, d.before a0 Z = true) : (Jvm.Cond.classLink "com/example/hasset/hasset/model/GeneratedFleet" (42 : Nat) "com/example/hasset/hasset/model/GeneratedFleet$Addresses").before a0 Z = true := hw _ (List.mem_of_getElem? (i := 7) rfl)
theorem d1_50 : decode prog_13_method_3_code 50 = .ok (.dup, 1) := by decide +kernel
theorem d1_51 : decode prog_13_method_3_code 51 = .ok (.iload_n 0, 1) := by decide +kernel
theorem d1_52 : decode prog_13_method_3_code 52 = .ok (.invokespecial 44, 3) := by decide +kernel
theorem ow10 {a0 : Array Value} {Z : State} (hw : ∀ d ∈ tables_1, d.before a0 Z = true) : (Jvm.Cond.methodLink "com/example/hasset/hasset/model/GeneratedFleet" (44 : Nat) ({ cls := "com/example/hasset/hasset/model/GeneratedFleet$Addresses", name := "<init>", desc := "(I)V" } : Jvm.MethodName)).before a0 Z = true := hw _ (List.mem_of_getElem? (i := 10) rfl)
theorem ow12 {a0 : Array Value} {Z : State} (hw : ∀ d ∈ tables_1, d.before a0 Z = true) : (Jvm.Cond.code ({ cls := "com/example/hasset/hasset/model/GeneratedFleet$Addresses", name := "<init>", desc := "(I)V" } : Jvm.MethodName) prog_14_method_1_code (2 : Nat) (Option.none : Option Jvm.ClassFile.FieldType)).before a0 Z = true := hw _ (List.mem_of_getElem? (i := 12) rfl)
theorem ow11 {a0 : Array Value} {Z : State} (hw : ∀ d ∈ tables_1, d.before a0 Z = true) : (Jvm.Cond.instanceMethod ({ cls := "com/example/hasset/hasset/model/GeneratedFleet$Addresses", name := "<init>", desc := "(I)V" } : Jvm.MethodName)).before a0 Z = true := hw _ (List.mem_of_getElem? (i := 11) rfl)
theorem d1_55 : decode prog_13_method_3_code 55 = .ok (.areturn, 1) := by decide +kernel
theorem oef_ofl_ads (m_ : MethodId) (y0_ : Int32)  : (entryFrame m_ #[(.int y0_)] 1).locals = #[.val (.int y0_)] := by first | (simp [entryFrame, argsToLocals, Value.category]; done) | rfl
set_option maxRecDepth 65536 in
set_option maxHeartbeats 40000000 in
theorem ofl_ads (l : Launch) (Z : State) (a0 : Array Value) (hw : ∀ d ∈ tables_1, d.before a0 Z = true) (hE : EW Z a0 consts_1) (c : Nat) (h : Heap) (hO : Old Z Z.heap.size h) (hc : (c < 16777216))  :
    Ct l Z consts_1 (⟨"com/example/hasset/hasset/model/GeneratedFleet", "addresses", "(I)Ljava/util/List;"⟩ : MethodName) prog_13_method_3_code 1 (Option.some (Jvm.ClassFile.FieldType.object "java/util/List")) ⟨4, 1, 2, 60⟩ #[(.int (Int32.ofNat c))] h [] (fun rv' hp' so' => ∃ o : Addr, rv' = some (.ref o) ∧ so' = [] ∧ Exa Z hp' o "com/example/hasset/hasset/model/GeneratedFleet$Addresses" ∧ Fld Z hp' o "com/example/hasset/hasset/model/GeneratedFleet$Addresses" "count" "I" (.int (Int32.ofNat c))) := by
  refine Ct.mk "com/example/hasset/hasset/model/GeneratedFleet" "addresses" rfl rfl (a0 := a0) (plainFor_of_name opn9) hO hE (fun x q => nomatch q) ?_
  intro K T W
  rw [oef_ofl_ads]
  refine gIloadN W d1_0 rfl rfl ?_
  refine gIfNo W d1_1 ((if0 _ _).trans (flt (ofNat_nn (by omega))).1) rfl ?_
  refine gIloadN W d1_4 rfl rfl ?_
  refine wLdcI (v := (16777215 : Int32)) W d1_5 (ow6 hw) rfl ?_
  refine gIcmpYes (pc' := 47) W d1_7 (flt (fun q => absurd ((ltc_ofNat (P := 16777215) (by decide) (by omega)).mp q) (by omega))).2.2.2 (by decide) rfl ?_
  refine wNewO W d1_47 (ow7 hw) (ow8 hw) (ow9 hw) (by decide) (by decide) rfl fun T1101 h1103 a1104 W1102 E1105 g1106 A1107 D1108  => ?_
  have f1109 : Fld Z h1103 a1104 "java/util/AbstractList" "modCount" "I" (.int (0 : Int32)) := D1108 (Or.inl (ow28 hw)) (ty := .int) (by decide)
  have f1110 : Fld Z h1103 a1104 "com/example/hasset/hasset/model/GeneratedFleet$Addresses" "count" "I" (.int (0 : Int32)) := D1108 (Or.inr (ow30 hw)) (ty := .int) (by decide)
  refine gDup W1102 d1_50 rfl rfl ?_
  refine gIloadN W1102 d1_51 rfl rfl ?_
  refine wSpecial (y := (⟨"com/example/hasset/hasset/model/GeneratedFleet$Addresses", "<init>", "(I)V"⟩ : MethodName)) (Wd := 1) (a := a1104) (argsL := [(.int (Int32.ofNat c))]) (rest := [(.ref a1104)]) W1102 d1_52 rfl (ow10 hw) (ow11 hw) (ow12 hw) (by decide) (Cb.ct (ofl_ai l Z a0 hw hE (a1104) ((Int32.ofNat c)) h1103 W1102.old A1107 f1109 f1110 (Nat.le_trans W.old.2.1 (Nat.le_of_eq g1106.symm))) (ow12 hw) (ow9 hw) hE (by decide) (by decide)) (by simp) rfl (lenOf opd0 rfl) rfl (Nat.le_of_eq rfl) (by decide) (by decide) rfl fun v1115 so1116 T1111 h1113 W1112 kp1114 sp1117 q1118 => ?_
  obtain ⟨rfl, rfl, f1119, f1120⟩ := q1118
  show Go K _ T1111 55 #[.val (.int (Int32.ofNat c))] [(.ref a1104)]
  exact wRetA (so := []) (t := .object "java/util/List") W1112 d1_55 rfl rfl rfl (by decide) (by decide) (fun _ q => nomatch q) ⟨a1104, rfl, rfl, f1119, f1120⟩
theorem d6_0 : decode prog_14_method_3_code 0 = .ok (.aload_n 0, 1) := by decide +kernel
theorem d6_1 : decode prog_14_method_3_code 1 = .ok (.getfield 7, 3) := by decide +kernel
theorem d6_4 : decode prog_14_method_3_code 4 = .ok (.ireturn, 1) := by decide +kernel
theorem oef_ofl_sz (m_ : MethodId) (a : Addr)  : (entryFrame m_ #[(.ref a)] 1).locals = #[.val (.ref a)] := by first | (simp [entryFrame, argsToLocals, Value.category]; done) | rfl
set_option maxRecDepth 65536 in
set_option maxHeartbeats 40000000 in
theorem ofl_sz (l : Launch) (Z : State) (a0 : Array Value) (hw : ∀ d ∈ tables_1, d.before a0 Z = true) (hE : EW Z a0 consts_1) (a : Addr) (c : Int32) (h : Heap) (hO : Old Z Z.heap.size h) (q0 : Exa Z h a "com/example/hasset/hasset/model/GeneratedFleet$Addresses") (q1 : Fld Z h a "com/example/hasset/hasset/model/GeneratedFleet$Addresses" "count" "I" (.int c))  :
    Ct l Z consts_1 (⟨"com/example/hasset/hasset/model/GeneratedFleet$Addresses", "size", "()I"⟩ : MethodName) prog_14_method_3_code 1 (Option.some Jvm.ClassFile.FieldType.int) ⟨0, 0, 0, 0⟩ #[(.ref a)] h [] (fun rv' hp' so' => rv' = some (.int c) ∧ so' = []) := by
  refine Ct.mk "com/example/hasset/hasset/model/GeneratedFleet$Addresses" "size" rfl rfl (a0 := a0) (plainFor_of_name opn8) hO hE (fun x q => nomatch q) ?_
  intro K T W
  rw [oef_ofl_sz]
  refine gAloadN W d6_0 rfl rfl rfl ?_
  refine wGetF W d6_1 (ow29 hw) Via.refl q1 rfl fun T1121 W1122 => ?_
  exact wRetI (so := []) (t := .int) W1122 d6_4 (by simp) rfl (by decide) (by decide) (fun _ q => nomatch q) ⟨rfl, rfl⟩
theorem opn10 : plainName "jdk/internal/util/Preconditions" = true := by first | (simp [plainName, overriddenIn]; done) | decide +kernel
theorem d10_0 : decode jdk_41_method_11_code 0 = .ok (.iload_n 0, 1) := by decide +kernel
theorem d10_1 : decode jdk_41_method_11_code 1 = .ok (.ifCond .lt 8, 3) := by decide +kernel
theorem d10_4 : decode jdk_41_method_11_code 4 = .ok (.iload_n 0, 1) := by decide +kernel
theorem d10_5 : decode jdk_41_method_11_code 5 = .ok (.iload_n 1, 1) := by decide +kernel
theorem d10_6 : decode jdk_41_method_11_code 6 = .ok (.if_icmp .lt 10, 3) := by decide +kernel
theorem d10_16 : decode jdk_41_method_11_code 16 = .ok (.iload_n 0, 1) := by decide +kernel
theorem d10_17 : decode jdk_41_method_11_code 17 = .ok (.ireturn, 1) := by decide +kernel
theorem oef_ofl_pn (m_ : MethodId) (y0_ : Int32) (y1_ : Int32)  : (entryFrame m_ #[(.int y0_), (.int y1_), .null] 3).locals = #[.val (.int y0_), .val (.int y1_), .val .null] := by first | (simp [entryFrame, argsToLocals, Value.category]; done) | rfl
set_option maxRecDepth 65536 in
set_option maxHeartbeats 40000000 in
theorem ofl_pn (l : Launch) (Z : State) (a0 : Array Value) (hw : ∀ d ∈ tables_1, d.before a0 Z = true) (hE : EW Z a0 consts_1) (i : Nat) (m : Nat) (h : Heap) (hO : Old Z Z.heap.size h) (him : (i < m)) (hm : (m < 2 ^ 31))  :
    Ct l Z consts_1 (⟨"jdk/internal/util/Preconditions", "checkIndex", "(IILjava/util/function/BiFunction;)I"⟩ : MethodName) jdk_41_method_11_code 3 (Option.some Jvm.ClassFile.FieldType.int) ⟨0, 0, 0, 0⟩ #[(.int (Int32.ofNat i)), (.int (Int32.ofNat m)), .null] h [] (fun rv' hp' so' => rv' = some (.int (Int32.ofNat i)) ∧ so' = []) := by
  refine Ct.mk "jdk/internal/util/Preconditions" "checkIndex" rfl rfl (a0 := a0) (plainFor_of_name opn10) hO hE (fun x q => nomatch q) ?_
  intro K T W
  rw [oef_ofl_pn]
  refine gIloadN W d10_0 rfl rfl ?_
  refine gIfNo W d10_1 ((if0 _ _).trans (flt (ofNat_nn (by omega))).1) rfl ?_
  refine gIloadN W d10_4 rfl rfl ?_
  refine gIloadN W d10_5 rfl rfl ?_
  refine gIcmpYes (pc' := 16) W d10_6 (tlt ((ofNat_lt (by omega) hm).mpr him)).1 (by decide) rfl ?_
  refine gIloadN W d10_16 rfl rfl ?_
  exact wRetI (so := []) (t := .int) W d10_17 (by simp) rfl (by decide) (by decide) (fun _ q => nomatch q) ⟨rfl, rfl⟩
theorem oef_ofl_pv (m_ : MethodId) (y0_ : Int32) (y1_ : Int32) (fm : Value) (r0 : fm.isRef = true) : (entryFrame m_ #[(.int y0_), (.int y1_), fm] 3).locals = #[.val (.int y0_), .val (.int y1_), .val fm] := by rcases ref_cases r0 with rfl | ⟨_, rfl⟩ <;> rfl
set_option maxRecDepth 65536 in
set_option maxHeartbeats 40000000 in
theorem ofl_pv (l : Launch) (Z : State) (a0 : Array Value) (hw : ∀ d ∈ tables_1, d.before a0 Z = true) (hE : EW Z a0 consts_1) (i : Nat) (m : Nat) (fm : Value) (h : Heap) (hO : Old Z Z.heap.size h) (him : (i < m)) (hm : (m < 2 ^ 31)) (rf : (fm.isRef = true))  :
    Ct l Z consts_1 (⟨"jdk/internal/util/Preconditions", "checkIndex", "(IILjava/util/function/BiFunction;)I"⟩ : MethodName) jdk_41_method_11_code 3 (Option.some Jvm.ClassFile.FieldType.int) ⟨0, 0, 0, 0⟩ #[(.int (Int32.ofNat i)), (.int (Int32.ofNat m)), fm] h [] (fun rv' hp' so' => rv' = some (.int (Int32.ofNat i)) ∧ so' = []) := by
  refine Ct.mk "jdk/internal/util/Preconditions" "checkIndex" rfl rfl (a0 := a0) (plainFor_of_name opn10) hO hE (fun x q => nomatch q) ?_
  intro K T W
  rw [oef_ofl_pv _ (Int32.ofNat i) (Int32.ofNat m) fm rf]
  refine gIloadN W d10_0 rfl rfl ?_
  refine gIfNo W d10_1 ((if0 _ _).trans (flt (ofNat_nn (by omega))).1) rfl ?_
  refine gIloadN W d10_4 rfl rfl ?_
  refine gIloadN W d10_5 rfl rfl ?_
  refine gIcmpYes (pc' := 16) W d10_6 (tlt ((ofNat_lt (by omega) hm).mpr him)).1 (by decide) rfl ?_
  refine gIloadN W d10_16 rfl rfl ?_
  exact wRetI (so := []) (t := .int) W d10_17 (by simp) rfl (by decide) (by decide) (fun _ q => nomatch q) ⟨rfl, rfl⟩
theorem opn11 : plainName "java/util/Objects" = true := by first | (simp [plainName, overriddenIn]; done) | decide +kernel
theorem d9_0 : decode jdk_31_method_17_code 0 = .ok (.iload_n 0, 1) := by decide +kernel
theorem d9_1 : decode jdk_31_method_17_code 1 = .ok (.iload_n 1, 1) := by decide +kernel
theorem d9_2 : decode jdk_31_method_17_code 2 = .ok (.aconst_null, 1) := by decide +kernel
theorem d9_3 : decode jdk_31_method_17_code 3 = .ok (.invokestatic 105, 3) := by decide +kernel
theorem ow57 {a0 : Array Value} {Z : State} (hw : ∀ d ∈ tables_1, d.before a0 Z = true) : (Jvm.Cond.methodLink "java/util/Objects" (105 : Nat) ({ cls := "jdk/internal/util/Preconditions", name := "checkIndex", desc := "(IILjava/util/function/BiFunction;)I" } : Jvm.MethodName)).before a0 Z = true := hw _ (List.mem_of_getElem? (i := 57) rfl)
theorem ow59 {a0 : Array Value} {Z : State} (hw : ∀ d ∈ tables_1, d.before a0 Z = true) : (Jvm.Cond.initialized "jdk/internal/util/Preconditions").before a0 Z = true := hw _ (List.mem_of_getElem? (i := 59) rfl)
theorem ow60 {a0 : Array Value} {Z : State} (hw : ∀ d ∈ tables_1, d.before a0 Z = true) : (Jvm.Cond.code ({ cls := "jdk/internal/util/Preconditions", name := "checkIndex", desc := "(IILjava/util/function/BiFunction;)I" } : Jvm.MethodName) jdk_41_method_11_code (3 : Nat) (Option.some Jvm.ClassFile.FieldType.int)).before a0 Z = true := hw _ (List.mem_of_getElem? (i := 60) rfl)
theorem opd20 : parseMethodDescriptor "(IILjava/util/function/BiFunction;)I" = some ⟨[.int, .int, .object "java/util/function/BiFunction"], some (.int)⟩ := by decide +kernel
theorem ow58 {a0 : Array Value} {Z : State} (hw : ∀ d ∈ tables_1, d.before a0 Z = true) : (Jvm.Cond.static ({ cls := "jdk/internal/util/Preconditions", name := "checkIndex", desc := "(IILjava/util/function/BiFunction;)I" } : Jvm.MethodName)).before a0 Z = true := hw _ (List.mem_of_getElem? (i := 58) rfl)
theorem d9_6 : decode jdk_31_method_17_code 6 = .ok (.ireturn, 1) := by decide +kernel
theorem oef_ofl_oc (m_ : MethodId) (y0_ : Int32) (y1_ : Int32)  : (entryFrame m_ #[(.int y0_), (.int y1_)] 2).locals = #[.val (.int y0_), .val (.int y1_)] := by first | (simp [entryFrame, argsToLocals, Value.category]; done) | rfl
set_option maxRecDepth 65536 in
set_option maxHeartbeats 40000000 in
theorem ofl_oc (l : Launch) (Z : State) (a0 : Array Value) (hw : ∀ d ∈ tables_1, d.before a0 Z = true) (hE : EW Z a0 consts_1) (i : Nat) (m : Nat) (h : Heap) (hO : Old Z Z.heap.size h) (him : (i < m)) (hm : (m < 2 ^ 31))  :
    Ct l Z consts_1 (⟨"java/util/Objects", "checkIndex", "(II)I"⟩ : MethodName) jdk_31_method_17_code 2 (Option.some Jvm.ClassFile.FieldType.int) ⟨1, 0, 0, 16⟩ #[(.int (Int32.ofNat i)), (.int (Int32.ofNat m))] h [] (fun rv' hp' so' => rv' = some (.int (Int32.ofNat i)) ∧ so' = []) := by
  refine Ct.mk "java/util/Objects" "checkIndex" rfl rfl (a0 := a0) (plainFor_of_name opn11) hO hE (fun x q => nomatch q) ?_
  intro K T W
  rw [oef_ofl_oc]
  refine gIloadN W d9_0 rfl rfl ?_
  refine gIloadN W d9_1 rfl rfl ?_
  refine gAconstNull W d9_2 rfl ?_
  refine wStatic (y := (⟨"jdk/internal/util/Preconditions", "checkIndex", "(IILjava/util/function/BiFunction;)I"⟩ : MethodName)) (Wd := 0) (argsL := [(.int (Int32.ofNat i)), (.int (Int32.ofNat m)), .null]) (rest := []) W d9_3 (ow57 hw) (ow58 hw) (ow59 hw) (ow60 hw) (by decide) (Cb.ct (ofl_pn l Z a0 hw hE (i) (m) h W.old him hm ) (ow60 hw) (ow59 hw) hE (by decide) (by decide)) (by simp) rfl (lenOf opd20 rfl) rfl (Nat.le_of_eq rfl) (by decide) (by decide) rfl fun v1127 so1128 T1123 h1125 W1124 kp1126 sp1129 q1130 => ?_
  obtain ⟨rfl, rfl⟩ := q1130
  show Go K _ T1123 6 #[.val (.int (Int32.ofNat i)), .val (.int (Int32.ofNat m))] [(.int (Int32.ofNat i))]
  exact wRetI (so := []) (t := .int) W1124 d9_6 (by simp) rfl (by decide) (by decide) (fun _ q => nomatch q) ⟨rfl, rfl⟩
theorem d43_0 : decode jdk_42_method_155_code 0 = .ok (.iload_n 0, 1) := by decide +kernel
theorem d43_1 : decode jdk_42_method_155_code 1 = .ok (.iload_n 1, 1) := by decide +kernel
theorem d43_2 : decode jdk_42_method_155_code 2 = .ok (.getstatic 1053, 3) := by decide +kernel
theorem ow239 {a0 : Array Value} {Z : State} (hw : ∀ d ∈ tables_1, d.before a0 Z = true) : (Jvm.Cond.fieldLink "java/lang/String" (1053 : Nat) "jdk/internal/util/Preconditions" "SIOOBE_FORMATTER" "Ljava/util/function/BiFunction;").before a0 Z = true := hw _ (List.mem_of_getElem? (i := 239) rfl)
theorem d43_5 : decode jdk_42_method_155_code 5 = .ok (.invokestatic 1059, 3) := by decide +kernel
theorem ow240 {a0 : Array Value} {Z : State} (hw : ∀ d ∈ tables_1, d.before a0 Z = true) : (Jvm.Cond.methodLink "java/lang/String" (1059 : Nat) ({ cls := "jdk/internal/util/Preconditions", name := "checkIndex", desc := "(IILjava/util/function/BiFunction;)I" } : Jvm.MethodName)).before a0 Z = true := hw _ (List.mem_of_getElem? (i := 240) rfl)
theorem d43_8 : decode jdk_42_method_155_code 8 = .ok (.pop, 1) := by decide +kernel
theorem d43_9 : decode jdk_42_method_155_code 9 = .ok (.return_, 1) := by decide +kernel
theorem oef_ofl_ck (m_ : MethodId) (y0_ : Int32) (y1_ : Int32)  : (entryFrame m_ #[(.int y0_), (.int y1_)] 2).locals = #[.val (.int y0_), .val (.int y1_)] := by first | (simp [entryFrame, argsToLocals, Value.category]; done) | rfl
set_option maxRecDepth 65536 in
set_option maxHeartbeats 40000000 in
theorem ofl_ck (l : Launch) (Z : State) (a0 : Array Value) (hw : ∀ d ∈ tables_1, d.before a0 Z = true) (hE : EW Z a0 consts_1) (i : Nat) (m : Nat) (fm : Value) (h : Heap) (hO : Old Z Z.heap.size h) (him : (i < m)) (hm : (m < 2 ^ 31)) (SF : (Sta Z Z.heap "jdk/internal/util/Preconditions" "SIOOBE_FORMATTER" "Ljava/util/function/BiFunction;" fm)) (rf : (fm.isRef = true))  :
    Ct l Z consts_1 (⟨"java/lang/String", "checkIndex", "(II)V"⟩ : MethodName) jdk_42_method_155_code 2 (Option.none : Option Jvm.ClassFile.FieldType) ⟨1, 0, 0, 16⟩ #[(.int (Int32.ofNat i)), (.int (Int32.ofNat m))] h [] (fun rv' hp' so' => rv' = none ∧ so' = []) := by
  refine Ct.mk "java/lang/String" "checkIndex" rfl rfl (a0 := a0) (plainFor_of_name opn2) hO hE (fun x q => nomatch q) ?_
  intro K T W
  rw [oef_ofl_ck]
  refine gIloadN W d43_0 rfl rfl ?_
  refine gIloadN W d43_1 rfl rfl ?_
  refine wGetS W d43_2 (ow239 hw) Via.refl SF rfl fun T1131 W1132 => ?_
  refine wStatic (y := (⟨"jdk/internal/util/Preconditions", "checkIndex", "(IILjava/util/function/BiFunction;)I"⟩ : MethodName)) (Wd := 0) (argsL := [(.int (Int32.ofNat i)), (.int (Int32.ofNat m)), fm]) (rest := []) W1132 d43_5 (ow240 hw) (ow58 hw) (ow59 hw) (ow60 hw) (by decide) (Cb.ct (ofl_pv l Z a0 hw hE (i) (m) (fm) h W1132.old him hm rf ) (ow60 hw) (ow59 hw) hE (by decide) (by decide)) (by simp) rfl (lenOf opd20 rfl) rfl (Nat.le_of_eq rfl) (by decide) (by decide) rfl fun v1137 so1138 T1133 h1135 W1134 kp1136 sp1139 q1140 => ?_
  obtain ⟨rfl, rfl⟩ := q1140
  show Go K _ T1133 8 #[.val (.int (Int32.ofNat i)), .val (.int (Int32.ofNat m))] [(.int (Int32.ofNat i))]
  refine gPop W1134 d43_8 rfl rfl ?_
  exact wRet0 (so := []) W1134 d43_9 (by decide) (by decide) (fun _ q => nomatch q) ⟨rfl, rfl⟩
theorem d11_0 : decode prog_13_method_2_code 0 = .ok (.iload_n 0, 1) := by decide +kernel
theorem d11_1 : decode prog_13_method_2_code 1 = .ok (.ifCond .lt 9, 3) := by decide +kernel
theorem d11_4 : decode prog_13_method_2_code 4 = .ok (.iload_n 0, 1) := by decide +kernel
theorem d11_5 : decode prog_13_method_2_code 5 = .ok (.ldc 9, 2) := by decide +kernel
theorem d11_7 : decode prog_13_method_2_code 7 = .ok (.if_icmp .lt 40, 3) := by decide +kernel
theorem d11_47 : decode prog_13_method_2_code 47 = .ok (.iload_n 0, 1) := by decide +kernel
theorem d11_48 : decode prog_13_method_2_code 48 = .ok (.iconst 1, 1) := by decide +kernel
theorem d11_49 : decode prog_13_method_2_code 49 = .ok (.iadd, 1) := by decide +kernel
theorem d11_50 : decode prog_13_method_2_code 50 = .ok (.istore_n 1, 1) := by decide +kernel
theorem d11_51 : decode prog_13_method_2_code 51 = .ok (.iload_n 1, 1) := by decide +kernel
theorem d11_52 : decode prog_13_method_2_code 52 = .ok (.bipush 16, 2) := by decide +kernel
theorem d11_54 : decode prog_13_method_2_code 54 = .ok (.iushr, 1) := by decide +kernel
theorem d11_55 : decode prog_13_method_2_code 55 = .ok (.istore_n 2, 1) := by decide +kernel
theorem d11_56 : decode prog_13_method_2_code 56 = .ok (.iload_n 1, 1) := by decide +kernel
theorem d11_57 : decode prog_13_method_2_code 57 = .ok (.bipush 8, 2) := by decide +kernel
theorem d11_59 : decode prog_13_method_2_code 59 = .ok (.iushr, 1) := by decide +kernel
theorem d11_60 : decode prog_13_method_2_code 60 = .ok (.sipush 255, 3) := by decide +kernel
theorem d11_63 : decode prog_13_method_2_code 63 = .ok (.iand, 1) := by decide +kernel
theorem d11_64 : decode prog_13_method_2_code 64 = .ok (.istore_n 3, 1) := by decide +kernel
theorem d11_65 : decode prog_13_method_2_code 65 = .ok (.iload_n 1, 1) := by decide +kernel
theorem d11_66 : decode prog_13_method_2_code 66 = .ok (.sipush 255, 3) := by decide +kernel
theorem d11_69 : decode prog_13_method_2_code 69 = .ok (.iand, 1) := by decide +kernel
theorem d11_70 : decode prog_13_method_2_code 70 = .ok (.istore 4, 2) := by decide +kernel
theorem d11_72 : decode prog_13_method_2_code 72 = .ok (.new 12, 3) := by decide +kernel
theorem ow64 {a0 : Array Value} {Z : State} (hw : ∀ d ∈ tables_1, d.before a0 Z = true) : (Jvm.Cond.classLink "com/example/hasset/hasset/model/GeneratedFleet" (12 : Nat) "java/lang/StringBuilder").before a0 Z = true := hw _ (List.mem_of_getElem? (i := 64) rfl)
theorem d11_75 : decode prog_13_method_2_code 75 = .ok (.dup, 1) := by decide +kernel
theorem d11_76 : decode prog_13_method_2_code 76 = .ok (.invokespecial 14, 3) := by decide +kernel
theorem ow67 {a0 : Array Value} {Z : State} (hw : ∀ d ∈ tables_1, d.before a0 Z = true) : (Jvm.Cond.methodLink "com/example/hasset/hasset/model/GeneratedFleet" (14 : Nat) ({ cls := "java/lang/StringBuilder", name := "<init>", desc := "()V" } : Jvm.MethodName)).before a0 Z = true := hw _ (List.mem_of_getElem? (i := 67) rfl)
theorem ow69 {a0 : Array Value} {Z : State} (hw : ∀ d ∈ tables_1, d.before a0 Z = true) : (Jvm.Cond.code ({ cls := "java/lang/StringBuilder", name := "<init>", desc := "()V" } : Jvm.MethodName) jdk_67_method_1_code (1 : Nat) (Option.none : Option Jvm.ClassFile.FieldType)).before a0 Z = true := hw _ (List.mem_of_getElem? (i := 69) rfl)
theorem ow68 {a0 : Array Value} {Z : State} (hw : ∀ d ∈ tables_1, d.before a0 Z = true) : (Jvm.Cond.instanceMethod ({ cls := "java/lang/StringBuilder", name := "<init>", desc := "()V" } : Jvm.MethodName)).before a0 Z = true := hw _ (List.mem_of_getElem? (i := 68) rfl)
theorem d11_79 : decode prog_13_method_2_code 79 = .ok (.ldc 34, 2) := by decide +kernel
theorem ow84 {a0 : Array Value} {Z : State} (hw : ∀ d ∈ tables_1, d.before a0 Z = true) : (Jvm.Cond.stringLink "com/example/hasset/hasset/model/GeneratedFleet" (34 : Nat) "10.").before a0 Z = true := hw _ (List.mem_of_getElem? (i := 84) rfl)
theorem d11_81 : decode prog_13_method_2_code 81 = .ok (.invokevirtual 17, 3) := by decide +kernel
theorem ow94 {a0 : Array Value} {Z : State} (hw : ∀ d ∈ tables_1, d.before a0 Z = true) : (Jvm.Cond.code ({ cls := "java/lang/StringBuilder", name := "append", desc := "(Ljava/lang/String;)Ljava/lang/StringBuilder;" } : Jvm.MethodName) jdk_67_method_7_code (2 : Nat) (Option.some (Jvm.ClassFile.FieldType.object "java/lang/StringBuilder"))).before a0 Z = true := hw _ (List.mem_of_getElem? (i := 94) rfl)
theorem opd21 : parseMethodDescriptor "(Ljava/lang/String;)Ljava/lang/StringBuilder;" = some ⟨[.object "java/lang/String"], some (.object "java/lang/StringBuilder")⟩ := by decide +kernel
theorem ow90 {a0 : Array Value} {Z : State} (hw : ∀ d ∈ tables_1, d.before a0 Z = true) : (Jvm.Cond.methodLink "com/example/hasset/hasset/model/GeneratedFleet" (17 : Nat) ({ cls := "java/lang/StringBuilder", name := "append", desc := "(Ljava/lang/String;)Ljava/lang/StringBuilder;" } : Jvm.MethodName)).before a0 Z = true := hw _ (List.mem_of_getElem? (i := 90) rfl)
theorem ow91 {a0 : Array Value} {Z : State} (hw : ∀ d ∈ tables_1, d.before a0 Z = true) : (Jvm.Cond.declares ({ cls := "java/lang/StringBuilder", name := "append", desc := "(Ljava/lang/String;)Ljava/lang/StringBuilder;" } : Jvm.MethodName)).before a0 Z = true := hw _ (List.mem_of_getElem? (i := 91) rfl)
theorem ow93 {a0 : Array Value} {Z : State} (hw : ∀ d ∈ tables_1, d.before a0 Z = true) : (Jvm.Cond.selects "java/lang/StringBuilder" ({ cls := "java/lang/StringBuilder", name := "append", desc := "(Ljava/lang/String;)Ljava/lang/StringBuilder;" } : Jvm.MethodName) ({ cls := "java/lang/StringBuilder", name := "append", desc := "(Ljava/lang/String;)Ljava/lang/StringBuilder;" } : Jvm.MethodName)).before a0 Z = true := hw _ (List.mem_of_getElem? (i := 93) rfl)
theorem ow92 {a0 : Array Value} {Z : State} (hw : ∀ d ∈ tables_1, d.before a0 Z = true) : (Jvm.Cond.instanceMethod ({ cls := "java/lang/StringBuilder", name := "append", desc := "(Ljava/lang/String;)Ljava/lang/StringBuilder;" } : Jvm.MethodName)).before a0 Z = true := hw _ (List.mem_of_getElem? (i := 92) rfl)
theorem d11_84 : decode prog_13_method_2_code 84 = .ok (.iload_n 2, 1) := by decide +kernel
theorem d11_85 : decode prog_13_method_2_code 85 = .ok (.invokevirtual 21, 3) := by decide +kernel
theorem ow144 {a0 : Array Value} {Z : State} (hw : ∀ d ∈ tables_1, d.before a0 Z = true) : (Jvm.Cond.code ({ cls := "java/lang/StringBuilder", name := "append", desc := "(I)Ljava/lang/StringBuilder;" } : Jvm.MethodName) jdk_67_method_15_code (2 : Nat) (Option.some (Jvm.ClassFile.FieldType.object "java/lang/StringBuilder"))).before a0 Z = true := hw _ (List.mem_of_getElem? (i := 144) rfl)
theorem opd22 : parseMethodDescriptor "(I)Ljava/lang/StringBuilder;" = some ⟨[.int], some (.object "java/lang/StringBuilder")⟩ := by decide +kernel
theorem ow140 {a0 : Array Value} {Z : State} (hw : ∀ d ∈ tables_1, d.before a0 Z = true) : (Jvm.Cond.methodLink "com/example/hasset/hasset/model/GeneratedFleet" (21 : Nat) ({ cls := "java/lang/StringBuilder", name := "append", desc := "(I)Ljava/lang/StringBuilder;" } : Jvm.MethodName)).before a0 Z = true := hw _ (List.mem_of_getElem? (i := 140) rfl)
theorem ow141 {a0 : Array Value} {Z : State} (hw : ∀ d ∈ tables_1, d.before a0 Z = true) : (Jvm.Cond.declares ({ cls := "java/lang/StringBuilder", name := "append", desc := "(I)Ljava/lang/StringBuilder;" } : Jvm.MethodName)).before a0 Z = true := hw _ (List.mem_of_getElem? (i := 141) rfl)
theorem ow143 {a0 : Array Value} {Z : State} (hw : ∀ d ∈ tables_1, d.before a0 Z = true) : (Jvm.Cond.selects "java/lang/StringBuilder" ({ cls := "java/lang/StringBuilder", name := "append", desc := "(I)Ljava/lang/StringBuilder;" } : Jvm.MethodName) ({ cls := "java/lang/StringBuilder", name := "append", desc := "(I)Ljava/lang/StringBuilder;" } : Jvm.MethodName)).before a0 Z = true := hw _ (List.mem_of_getElem? (i := 143) rfl)
theorem ow142 {a0 : Array Value} {Z : State} (hw : ∀ d ∈ tables_1, d.before a0 Z = true) : (Jvm.Cond.instanceMethod ({ cls := "java/lang/StringBuilder", name := "append", desc := "(I)Ljava/lang/StringBuilder;" } : Jvm.MethodName)).before a0 Z = true := hw _ (List.mem_of_getElem? (i := 142) rfl)
theorem d11_88 : decode prog_13_method_2_code 88 = .ok (.ldc 36, 2) := by decide +kernel
theorem ow162 {a0 : Array Value} {Z : State} (hw : ∀ d ∈ tables_1, d.before a0 Z = true) : (Jvm.Cond.stringLink "com/example/hasset/hasset/model/GeneratedFleet" (36 : Nat) ".").before a0 Z = true := hw _ (List.mem_of_getElem? (i := 162) rfl)
theorem d11_90 : decode prog_13_method_2_code 90 = .ok (.invokevirtual 17, 3) := by decide +kernel
theorem d11_93 : decode prog_13_method_2_code 93 = .ok (.iload_n 3, 1) := by decide +kernel
theorem d11_94 : decode prog_13_method_2_code 94 = .ok (.invokevirtual 21, 3) := by decide +kernel
theorem d11_97 : decode prog_13_method_2_code 97 = .ok (.ldc 36, 2) := by decide +kernel
theorem d11_99 : decode prog_13_method_2_code 99 = .ok (.invokevirtual 17, 3) := by decide +kernel
theorem d11_102 : decode prog_13_method_2_code 102 = .ok (.iload 4, 2) := by decide +kernel
theorem d11_104 : decode prog_13_method_2_code 104 = .ok (.invokevirtual 21, 3) := by decide +kernel
theorem d11_107 : decode prog_13_method_2_code 107 = .ok (.ldc 38, 2) := by decide +kernel
theorem ow163 {a0 : Array Value} {Z : State} (hw : ∀ d ∈ tables_1, d.before a0 Z = true) : (Jvm.Cond.stringLink "com/example/hasset/hasset/model/GeneratedFleet" (38 : Nat) ":").before a0 Z = true := hw _ (List.mem_of_getElem? (i := 163) rfl)
theorem d11_109 : decode prog_13_method_2_code 109 = .ok (.invokevirtual 17, 3) := by decide +kernel
theorem d11_112 : decode prog_13_method_2_code 112 = .ok (.sipush 8080, 3) := by decide +kernel
theorem d11_115 : decode prog_13_method_2_code 115 = .ok (.invokevirtual 21, 3) := by decide +kernel
theorem d11_118 : decode prog_13_method_2_code 118 = .ok (.invokevirtual 27, 3) := by decide +kernel
theorem ow169 {a0 : Array Value} {Z : State} (hw : ∀ d ∈ tables_1, d.before a0 Z = true) : (Jvm.Cond.code ({ cls := "java/lang/StringBuilder", name := "toString", desc := "()Ljava/lang/String;" } : Jvm.MethodName) jdk_67_method_42_code (1 : Nat) (Option.some (Jvm.ClassFile.FieldType.object "java/lang/String"))).before a0 Z = true := hw _ (List.mem_of_getElem? (i := 169) rfl)
theorem opd23 : parseMethodDescriptor "()Ljava/lang/String;" = some ⟨[], some (.object "java/lang/String")⟩ := by decide +kernel
theorem ow165 {a0 : Array Value} {Z : State} (hw : ∀ d ∈ tables_1, d.before a0 Z = true) : (Jvm.Cond.methodLink "com/example/hasset/hasset/model/GeneratedFleet" (27 : Nat) ({ cls := "java/lang/StringBuilder", name := "toString", desc := "()Ljava/lang/String;" } : Jvm.MethodName)).before a0 Z = true := hw _ (List.mem_of_getElem? (i := 165) rfl)
theorem ow166 {a0 : Array Value} {Z : State} (hw : ∀ d ∈ tables_1, d.before a0 Z = true) : (Jvm.Cond.declares ({ cls := "java/lang/StringBuilder", name := "toString", desc := "()Ljava/lang/String;" } : Jvm.MethodName)).before a0 Z = true := hw _ (List.mem_of_getElem? (i := 166) rfl)
theorem ow168 {a0 : Array Value} {Z : State} (hw : ∀ d ∈ tables_1, d.before a0 Z = true) : (Jvm.Cond.selects "java/lang/StringBuilder" ({ cls := "java/lang/StringBuilder", name := "toString", desc := "()Ljava/lang/String;" } : Jvm.MethodName) ({ cls := "java/lang/StringBuilder", name := "toString", desc := "()Ljava/lang/String;" } : Jvm.MethodName)).before a0 Z = true := hw _ (List.mem_of_getElem? (i := 168) rfl)
theorem ow167 {a0 : Array Value} {Z : State} (hw : ∀ d ∈ tables_1, d.before a0 Z = true) : (Jvm.Cond.instanceMethod ({ cls := "java/lang/StringBuilder", name := "toString", desc := "()Ljava/lang/String;" } : Jvm.MethodName)).before a0 Z = true := hw _ (List.mem_of_getElem? (i := 167) rfl)
theorem d11_121 : decode prog_13_method_2_code 121 = .ok (.areturn, 1) := by decide +kernel
theorem oef_ofl_adr (m_ : MethodId) (y0_ : Int32)  : (entryFrame m_ #[(.int y0_)] 5).locals = #[.val (.int y0_), .unset, .unset, .unset, .unset] := by first | (simp [entryFrame, argsToLocals, Value.category]; done) | rfl
set_option maxRecDepth 65536 in
set_option maxHeartbeats 40000000 in
theorem ofl_adr (l : Launch) (Z : State) (a0 : Array Value) (hw : ∀ d ∈ tables_1, d.before a0 Z = true) (hE : EW Z a0 consts_1) (i : Nat) (z : Int32) (d1 : Addr) (k1 : ClassId) (d2 : Addr) (k2 : ClassId) (h : Heap) (hO : Old Z Z.heap.size h) (SC : (Sta Z Z.heap "java/lang/String" "COMPACT_STRINGS" "Z" (.int z))) (hz : (¬ z = 0)) (SO : (Sta Z Z.heap "java/lang/Integer" "DigitOnes" "[B" (.ref d1))) (AO : (Arv Z Z.heap d1 k1 .byte (100 : Int32) ones (.int 0))) (SE : (Sta Z Z.heap "java/lang/Integer" "DigitTens" "[B" (.ref d2))) (AE : (Arv Z Z.heap d2 k2 .byte (100 : Int32) tens (.int 0))) (hi : (i < 16777215))  :
    Ct l Z consts_1 (⟨"com/example/hasset/hasset/model/GeneratedFleet", "address", "(I)Ljava/lang/String;"⟩ : MethodName) prog_13_method_2_code 5 (Option.some (Jvm.ClassFile.FieldType.object "java/lang/String")) ⟨6, 13, 200, 160⟩ #[(.int (Int32.ofNat i))] h [] (fun rv' hp' so' => ∃ s : Addr, ∃ r : Addr, ∃ kr : ClassId, rv' = some (.ref s) ∧ so' = [] ∧ Exa Z hp' s "java/lang/String" ∧ Fld Z hp' s "java/lang/String" "coder" "B" (.int (0 : Int32)) ∧ Fld Z hp' s "java/lang/String" "value" "[B" (.ref r) ∧ Arv Z hp' r kr .byte (Int32.ofNat (tl (i + 1))) (tx (i + 1)) (.int 0)) := by
  refine Ct.mk "com/example/hasset/hasset/model/GeneratedFleet" "address" rfl rfl (a0 := a0) (plainFor_of_name opn9) hO hE (fun x q => nomatch q) ?_
  intro K T W
  rw [oef_ofl_adr]
  refine gIloadN W d11_0 rfl rfl ?_
  refine gIfNo W d11_1 ((if0 _ _).trans (flt (ofNat_nn (by omega))).1) rfl ?_
  refine gIloadN W d11_4 rfl rfl ?_
  refine wLdcI (v := (16777215 : Int32)) W d11_5 (ow6 hw) rfl ?_
  refine gIcmpYes (pc' := 47) W d11_7 (tlt ((ofNat_ltc (P := 16777215) (by decide) (by omega)).mpr hi)).1 (by decide) rfl ?_
  refine gIloadN W d11_47 rfl rfl ?_
  refine gIconst (z := (1 : Int32)) W d11_48 rfl rfl ?_
  refine gIadd (z := (Int32.ofNat (i + 1))) W d11_49 (ofNat_add (a := i) (b := 1)) rfl ?_
  refine gIstoreN (ls' := #[.val (.int (Int32.ofNat i)), .val (.int (Int32.ofNat (i + 1))), .unset, .unset, .unset]) W d11_50 rfl rfl ?_
  refine gIloadN W d11_51 rfl rfl ?_
  refine gBipush (z := (16 : Int32)) W d11_52 rfl rfl ?_
  refine gIushr (z := (Int32.ofNat ((i + 1) / 65536))) W d11_54 (ushr16 (by omega)) rfl ?_
  refine gIstoreN (ls' := #[.val (.int (Int32.ofNat i)), .val (.int (Int32.ofNat (i + 1))), .val (.int (Int32.ofNat ((i + 1) / 65536))), .unset, .unset]) W d11_55 rfl rfl ?_
  refine gIloadN W d11_56 rfl rfl ?_
  refine gBipush (z := (8 : Int32)) W d11_57 rfl rfl ?_
  refine gIushr (z := (Int32.ofNat ((i + 1) / 256))) W d11_59 (ushr8 (by omega)) rfl ?_
  refine gSipush (z := (255 : Int32)) W d11_60 rfl rfl ?_
  refine gIand (z := (Int32.ofNat ((i + 1) / 256 % 256))) W d11_63 (mask8 (by omega)) rfl ?_
  refine gIstoreN (ls' := #[.val (.int (Int32.ofNat i)), .val (.int (Int32.ofNat (i + 1))), .val (.int (Int32.ofNat ((i + 1) / 65536))), .val (.int (Int32.ofNat ((i + 1) / 256 % 256))), .unset]) W d11_64 rfl rfl ?_
  refine gIloadN W d11_65 rfl rfl ?_
  refine gSipush (z := (255 : Int32)) W d11_66 rfl rfl ?_
  refine gIand (z := (Int32.ofNat ((i + 1) % 256))) W d11_69 (mask8 (by omega)) rfl ?_
  refine gIstore (ls' := #[.val (.int (Int32.ofNat i)), .val (.int (Int32.ofNat (i + 1))), .val (.int (Int32.ofNat ((i + 1) / 65536))), .val (.int (Int32.ofNat ((i + 1) / 256 % 256))), .val (.int (Int32.ofNat ((i + 1) % 256)))]) W d11_70 rfl rfl ?_
  have bH := dle (v := ((i + 1) / 65536)) (by omega)
  have bM := dle (v := ((i + 1) / 256 % 256)) (by omega)
  have bL := dle (v := ((i + 1) % 256)) (by omega)
  have e4 : dlen 8080 = 4 := rfl
  refine wNewO W d11_72 (ow64 hw) (ow65 hw) (ow66 hw) (by decide) (by decide) rfl fun T1141 h1143 a1144 W1142 E1145 g1146 A1147 D1148  => ?_
  have f1149 : Fld Z h1143 a1144 "java/lang/AbstractStringBuilder" "value" "[B" .null := D1148 (Or.inl (ow81 hw)) (ty := .array .byte) (by decide)
  have f1150 : Fld Z h1143 a1144 "java/lang/AbstractStringBuilder" "coder" "B" (.int (0 : Int32)) := D1148 (Or.inl (ow83 hw)) (ty := .byte) (by decide)
  have f1151 : Fld Z h1143 a1144 "java/lang/AbstractStringBuilder" "count" "I" (.int (0 : Int32)) := D1148 (Or.inl (ow114 hw)) (ty := .int) (by decide)
  refine gDup W1142 d11_75 rfl rfl ?_
  refine wSpecial (y := (⟨"java/lang/StringBuilder", "<init>", "()V"⟩ : MethodName)) (Wd := 1) (a := a1144) (argsL := []) (rest := [(.ref a1144)]) W1142 d11_76 rfl (ow67 hw) (ow68 hw) (ow69 hw) (by decide) (Cb.ct (ors_i0 l Z a0 hw hE (a1144) (z) h1143 W1142.old SC hz A1147 f1149 f1150 f1151 (Nat.le_trans W.old.2.1 (Nat.le_of_eq g1146.symm))) (ow69 hw) (ow66 hw) hE (by decide) (by decide)) (by simp) rfl (lenOf opd19 rfl) rfl (Nat.le_of_eq rfl) (by decide) (by decide) rfl fun v1156 so1157 T1152 h1154 W1153 kp1155 sp1158 q1159 => ?_
  obtain ⟨t1160, kb1161, rfl, rfl, f1162, f1163, f1164, f1165, f1166, f1167, f1168⟩ := q1159
  show Go K _ T1152 79 #[.val (.int (Int32.ofNat i)), .val (.int (Int32.ofNat (i + 1))), .val (.int (Int32.ofNat ((i + 1) / 65536))), .val (.int (Int32.ofNat ((i + 1) / 256 % 256))), .val (.int (Int32.ofNat ((i + 1) % 256)))] [(.ref a1144)]
  have f1169 : Arv Z h1154 t1160 kb1161 .byte (Int32.ofNat 16) (bf 16 []) (.int 0) := f1167
  refine wLdcS (vs := [(.int 49), (.int 48), (.int 46)]) (z := 3) (n := 12) W1153 d11_79 (ow84 hw) (owS hw) hE (by decide) (by decide) (by decide) (by decide) (by decide) (by decide) (by decide) (by decide) rfl fun T1170 h1172 a1173 t1174 k1175 W1171 E1176 A1177 f1178 f1179 f1180 ne1181 => ?_
  have f1182 := f1163.ext E1176
  have f1183 := f1164.ext E1176
  have f1184 := f1165.ext E1176
  have f1185 := f1169.ext E1176
  have f1186 := f1166.ext E1176
  refine wVirtual (y := (⟨"java/lang/StringBuilder", "append", "(Ljava/lang/String;)Ljava/lang/StringBuilder;"⟩ : MethodName)) (z := (⟨"java/lang/StringBuilder", "append", "(Ljava/lang/String;)Ljava/lang/StringBuilder;"⟩ : MethodName)) (Wd := 0) (a := a1144) (argsL := [(.ref a1173)]) (rest := []) W1171 d11_81 (ow90 hw) (ow91 hw) (ow93 hw) (ow92 hw) (nfS (ow93 hw)) (by decide) (Cb.ct (ors_a0 l Z a0 hw hE (a1144) (t1160) (kb1161) (16) ((bf 16 [])) (a1173) (t1174) (k1175) (3) ([(Value.int 49), (Value.int 48), (Value.int 46)]) (0) (z) h1172 W1171.old SC hz f1182 f1183 f1184 f1185 f1186 A1177 f1179 f1178 f1180 rfl (bf_len (by decide)) (by omega) (by decide) (Ne.symm (ne1181 t1160 (by simp)).2) (Nat.le_trans W.old.2.1 (Nat.le_of_eq g1146.symm)) (Nat.le_trans W1142.old.2.1 f1162)) (ow94 hw) (ow66 hw) hE (by decide) (by decide)) f1182 (by simp) rfl (lenOf opd21 rfl) rfl (Nat.le_of_eq rfl) (by decide) (by decide) rfl fun v1191 so1192 T1187 h1189 W1188 kp1190 sp1193 q1194 => ?_
  obtain ⟨rfl, rfl, f1195, f1196, f1197, f1198, f1199⟩ := q1194
  show Go K _ T1187 84 #[.val (.int (Int32.ofNat i)), .val (.int (Int32.ofNat (i + 1))), .val (.int (Int32.ofNat ((i + 1) / 65536))), .val (.int (Int32.ofNat ((i + 1) / 256 % 256))), .val (.int (Int32.ofNat ((i + 1) % 256)))] [(.ref a1144)]
  have f1200 : Arv Z h1189 t1160 kb1161 .byte (Int32.ofNat 16) (bf 16 p1) (.int 0) := arvL f1199 (bf_put (c := 16) (P := []) (us := [(Value.int 49), (Value.int 48), (Value.int 46)]) (i := 0) (n := 3) rfl rfl)
  refine gIloadN W1188 d11_84 rfl rfl ?_
  refine wVirtual (y := (⟨"java/lang/StringBuilder", "append", "(I)Ljava/lang/StringBuilder;"⟩ : MethodName)) (z := (⟨"java/lang/StringBuilder", "append", "(I)Ljava/lang/StringBuilder;"⟩ : MethodName)) (Wd := 0) (a := a1144) (argsL := [(.int (Int32.ofNat ((i + 1) / 65536)))]) (rest := []) W1188 d11_85 (ow140 hw) (ow141 hw) (ow143 hw) (ow142 hw) (nfS (ow143 hw)) (by decide) (Cb.ct (ors_bi l Z a0 hw hE (a1144) (t1160) (kb1161) (16) ((bf 16 p1)) (((i + 1) / 65536)) ((0 + 3)) (z) (d1) (k1) (d2) (k2) h1189 W1188.old SC hz f1195 f1196 f1197 f1200 f1198 SO AO SE AE (by omega) (bf_len (by decide)) (by omega) (by decide) (Nat.le_trans W.old.2.1 (Nat.le_of_eq g1146.symm)) (Nat.le_trans W1142.old.2.1 f1162)) (ow144 hw) (ow66 hw) hE (by decide) (by decide)) f1195 (by simp) rfl (lenOf opd22 rfl) rfl (Nat.le_of_eq rfl) (by decide) (by decide) rfl fun v1205 so1206 T1201 h1203 W1202 kp1204 sp1207 q1208 => ?_
  obtain ⟨rfl, rfl, f1209, f1210, f1211, f1212, f1213⟩ := q1208
  show Go K _ T1201 88 #[.val (.int (Int32.ofNat i)), .val (.int (Int32.ofNat (i + 1))), .val (.int (Int32.ofNat ((i + 1) / 65536))), .val (.int (Int32.ofNat ((i + 1) / 256 % 256))), .val (.int (Int32.ofNat ((i + 1) % 256)))] [(.ref a1144)]
  have f1214 : Arv Z h1203 t1160 kb1161 .byte (Int32.ofNat 16) (bf 16 (p2 ((i + 1) / 65536))) (.int 0) := arvL f1213 (bf_put (c := 16) (P := p1) (us := dg ((i + 1) / 65536)) (i := (0 + 3)) (n := dlen ((i + 1) / 65536)) rfl (dg_len _))
  refine wLdcS (vs := [(.int 46)]) (z := 1) (n := 4) W1202 d11_88 (ow162 hw) (owS hw) hE (by decide) (by decide) (by decide) (by decide) (by decide) (by decide) (by decide) (by decide) rfl fun T1215 h1217 a1218 t1219 k1220 W1216 E1221 A1222 f1223 f1224 f1225 ne1226 => ?_
  have f1227 := f1209.ext E1221
  have f1228 := f1210.ext E1221
  have f1229 := f1211.ext E1221
  have f1230 := f1214.ext E1221
  have f1231 := f1212.ext E1221
  refine wVirtual (y := (⟨"java/lang/StringBuilder", "append", "(Ljava/lang/String;)Ljava/lang/StringBuilder;"⟩ : MethodName)) (z := (⟨"java/lang/StringBuilder", "append", "(Ljava/lang/String;)Ljava/lang/StringBuilder;"⟩ : MethodName)) (Wd := 0) (a := a1144) (argsL := [(.ref a1218)]) (rest := []) W1216 d11_90 (ow90 hw) (ow91 hw) (ow93 hw) (ow92 hw) (nfS (ow93 hw)) (by decide) (Cb.ct (ors_a0 l Z a0 hw hE (a1144) (t1160) (kb1161) (16) ((bf 16 (p2 ((i + 1) / 65536)))) (a1218) (t1219) (k1220) (1) ([(Value.int 46)]) (((0 + 3) + dlen ((i + 1) / 65536))) (z) h1217 W1216.old SC hz f1227 f1228 f1229 f1230 f1231 A1222 f1224 f1223 f1225 rfl (bf_len (by rw [show List.length (p2 ((i + 1) / 65536)) = ((0 + 3) + dlen ((i + 1) / 65536)) from (p2_len.trans (by omega))]; omega)) (by omega) (by decide) (Ne.symm (ne1226 t1160 (by simp)).2) (Nat.le_trans W.old.2.1 (Nat.le_of_eq g1146.symm)) (Nat.le_trans W1142.old.2.1 f1162)) (ow94 hw) (ow66 hw) hE (by decide) (by decide)) f1227 (by simp) rfl (lenOf opd21 rfl) rfl (Nat.le_of_eq rfl) (by decide) (by decide) rfl fun v1236 so1237 T1232 h1234 W1233 kp1235 sp1238 q1239 => ?_
  obtain ⟨rfl, rfl, f1240, f1241, f1242, f1243, f1244⟩ := q1239
  show Go K _ T1232 93 #[.val (.int (Int32.ofNat i)), .val (.int (Int32.ofNat (i + 1))), .val (.int (Int32.ofNat ((i + 1) / 65536))), .val (.int (Int32.ofNat ((i + 1) / 256 % 256))), .val (.int (Int32.ofNat ((i + 1) % 256)))] [(.ref a1144)]
  have f1245 : Arv Z h1234 t1160 kb1161 .byte (Int32.ofNat 16) (bf 16 (p3 ((i + 1) / 65536))) (.int 0) := arvL f1244 (bf_put (c := 16) (P := (p2 ((i + 1) / 65536))) (us := [(Value.int 46)]) (i := ((0 + 3) + dlen ((i + 1) / 65536))) (n := 1) (p2_len.trans (by omega)) rfl)
  refine gIloadN W1233 d11_93 rfl rfl ?_
  refine wVirtual (y := (⟨"java/lang/StringBuilder", "append", "(I)Ljava/lang/StringBuilder;"⟩ : MethodName)) (z := (⟨"java/lang/StringBuilder", "append", "(I)Ljava/lang/StringBuilder;"⟩ : MethodName)) (Wd := 0) (a := a1144) (argsL := [(.int (Int32.ofNat ((i + 1) / 256 % 256)))]) (rest := []) W1233 d11_94 (ow140 hw) (ow141 hw) (ow143 hw) (ow142 hw) (nfS (ow143 hw)) (by decide) (Cb.ct (ors_bi l Z a0 hw hE (a1144) (t1160) (kb1161) (16) ((bf 16 (p3 ((i + 1) / 65536)))) (((i + 1) / 256 % 256)) ((((0 + 3) + dlen ((i + 1) / 65536)) + 1)) (z) (d1) (k1) (d2) (k2) h1234 W1233.old SC hz f1240 f1241 f1242 f1245 f1243 SO AO SE AE (by omega) (bf_len (by rw [show List.length (p3 ((i + 1) / 65536)) = (((0 + 3) + dlen ((i + 1) / 65536)) + 1) from (p3_len.trans (by omega))]; omega)) (by omega) (by decide) (Nat.le_trans W.old.2.1 (Nat.le_of_eq g1146.symm)) (Nat.le_trans W1142.old.2.1 f1162)) (ow144 hw) (ow66 hw) hE (by decide) (by decide)) f1240 (by simp) rfl (lenOf opd22 rfl) rfl (Nat.le_of_eq rfl) (by decide) (by decide) rfl fun v1250 so1251 T1246 h1248 W1247 kp1249 sp1252 q1253 => ?_
  obtain ⟨rfl, rfl, f1254, f1255, f1256, f1257, f1258⟩ := q1253
  show Go K _ T1246 97 #[.val (.int (Int32.ofNat i)), .val (.int (Int32.ofNat (i + 1))), .val (.int (Int32.ofNat ((i + 1) / 65536))), .val (.int (Int32.ofNat ((i + 1) / 256 % 256))), .val (.int (Int32.ofNat ((i + 1) % 256)))] [(.ref a1144)]
  have f1259 : Arv Z h1248 t1160 kb1161 .byte (Int32.ofNat 16) (bf 16 (p4 ((i + 1) / 65536) ((i + 1) / 256 % 256))) (.int 0) := arvL f1258 (bf_put (c := 16) (P := (p3 ((i + 1) / 65536))) (us := dg ((i + 1) / 256 % 256)) (i := (((0 + 3) + dlen ((i + 1) / 65536)) + 1)) (n := dlen ((i + 1) / 256 % 256)) (p3_len.trans (by omega)) (dg_len _))
  refine wLdcS (vs := [(.int 46)]) (z := 1) (n := 4) W1247 d11_97 (ow162 hw) (owS hw) hE (by decide) (by decide) (by decide) (by decide) (by decide) (by decide) (by decide) (by decide) rfl fun T1260 h1262 a1263 t1264 k1265 W1261 E1266 A1267 f1268 f1269 f1270 ne1271 => ?_
  have f1272 := f1254.ext E1266
  have f1273 := f1255.ext E1266
  have f1274 := f1256.ext E1266
  have f1275 := f1259.ext E1266
  have f1276 := f1257.ext E1266
  refine wVirtual (y := (⟨"java/lang/StringBuilder", "append", "(Ljava/lang/String;)Ljava/lang/StringBuilder;"⟩ : MethodName)) (z := (⟨"java/lang/StringBuilder", "append", "(Ljava/lang/String;)Ljava/lang/StringBuilder;"⟩ : MethodName)) (Wd := 0) (a := a1144) (argsL := [(.ref a1263)]) (rest := []) W1261 d11_99 (ow90 hw) (ow91 hw) (ow93 hw) (ow92 hw) (nfS (ow93 hw)) (by decide) (Cb.ct (ors_a0 l Z a0 hw hE (a1144) (t1160) (kb1161) (16) ((bf 16 (p4 ((i + 1) / 65536) ((i + 1) / 256 % 256)))) (a1263) (t1264) (k1265) (1) ([(Value.int 46)]) (((((0 + 3) + dlen ((i + 1) / 65536)) + 1) + dlen ((i + 1) / 256 % 256))) (z) h1262 W1261.old SC hz f1272 f1273 f1274 f1275 f1276 A1267 f1269 f1268 f1270 rfl (bf_len (by rw [show List.length (p4 ((i + 1) / 65536) ((i + 1) / 256 % 256)) = ((((0 + 3) + dlen ((i + 1) / 65536)) + 1) + dlen ((i + 1) / 256 % 256)) from (p4_len.trans (by omega))]; omega)) (by omega) (by decide) (Ne.symm (ne1271 t1160 (by simp)).2) (Nat.le_trans W.old.2.1 (Nat.le_of_eq g1146.symm)) (Nat.le_trans W1142.old.2.1 f1162)) (ow94 hw) (ow66 hw) hE (by decide) (by decide)) f1272 (by simp) rfl (lenOf opd21 rfl) rfl (Nat.le_of_eq rfl) (by decide) (by decide) rfl fun v1281 so1282 T1277 h1279 W1278 kp1280 sp1283 q1284 => ?_
  obtain ⟨rfl, rfl, f1285, f1286, f1287, f1288, f1289⟩ := q1284
  show Go K _ T1277 102 #[.val (.int (Int32.ofNat i)), .val (.int (Int32.ofNat (i + 1))), .val (.int (Int32.ofNat ((i + 1) / 65536))), .val (.int (Int32.ofNat ((i + 1) / 256 % 256))), .val (.int (Int32.ofNat ((i + 1) % 256)))] [(.ref a1144)]
  have f1290 : Arv Z h1279 t1160 kb1161 .byte (Int32.ofNat 16) (bf 16 (p5 ((i + 1) / 65536) ((i + 1) / 256 % 256))) (.int 0) := arvL f1289 (bf_put (c := 16) (P := (p4 ((i + 1) / 65536) ((i + 1) / 256 % 256))) (us := [(Value.int 46)]) (i := ((((0 + 3) + dlen ((i + 1) / 65536)) + 1) + dlen ((i + 1) / 256 % 256))) (n := 1) (p4_len.trans (by omega)) rfl)
  refine gIload W1278 d11_102 rfl rfl ?_
  refine wVirtual (y := (⟨"java/lang/StringBuilder", "append", "(I)Ljava/lang/StringBuilder;"⟩ : MethodName)) (z := (⟨"java/lang/StringBuilder", "append", "(I)Ljava/lang/StringBuilder;"⟩ : MethodName)) (Wd := 0) (a := a1144) (argsL := [(.int (Int32.ofNat ((i + 1) % 256)))]) (rest := []) W1278 d11_104 (ow140 hw) (ow141 hw) (ow143 hw) (ow142 hw) (nfS (ow143 hw)) (by decide) (Cb.ct (ors_bi l Z a0 hw hE (a1144) (t1160) (kb1161) (16) ((bf 16 (p5 ((i + 1) / 65536) ((i + 1) / 256 % 256)))) (((i + 1) % 256)) ((((((0 + 3) + dlen ((i + 1) / 65536)) + 1) + dlen ((i + 1) / 256 % 256)) + 1)) (z) (d1) (k1) (d2) (k2) h1279 W1278.old SC hz f1285 f1286 f1287 f1290 f1288 SO AO SE AE (by omega) (bf_len (by rw [show List.length (p5 ((i + 1) / 65536) ((i + 1) / 256 % 256)) = (((((0 + 3) + dlen ((i + 1) / 65536)) + 1) + dlen ((i + 1) / 256 % 256)) + 1) from (p5_len.trans (by omega))]; omega)) (by omega) (by decide) (Nat.le_trans W.old.2.1 (Nat.le_of_eq g1146.symm)) (Nat.le_trans W1142.old.2.1 f1162)) (ow144 hw) (ow66 hw) hE (by decide) (by decide)) f1285 (by simp) rfl (lenOf opd22 rfl) rfl (Nat.le_of_eq rfl) (by decide) (by decide) rfl fun v1295 so1296 T1291 h1293 W1292 kp1294 sp1297 q1298 => ?_
  obtain ⟨rfl, rfl, f1299, f1300, f1301, f1302, f1303⟩ := q1298
  show Go K _ T1291 107 #[.val (.int (Int32.ofNat i)), .val (.int (Int32.ofNat (i + 1))), .val (.int (Int32.ofNat ((i + 1) / 65536))), .val (.int (Int32.ofNat ((i + 1) / 256 % 256))), .val (.int (Int32.ofNat ((i + 1) % 256)))] [(.ref a1144)]
  have f1304 : Arv Z h1293 t1160 kb1161 .byte (Int32.ofNat 16) (bf 16 (p6 ((i + 1) / 65536) ((i + 1) / 256 % 256) ((i + 1) % 256))) (.int 0) := arvL f1303 (bf_put (c := 16) (P := (p5 ((i + 1) / 65536) ((i + 1) / 256 % 256))) (us := dg ((i + 1) % 256)) (i := (((((0 + 3) + dlen ((i + 1) / 65536)) + 1) + dlen ((i + 1) / 256 % 256)) + 1)) (n := dlen ((i + 1) % 256)) (p5_len.trans (by omega)) (dg_len _))
  refine wLdcS (vs := [(.int 58)]) (z := 1) (n := 4) W1292 d11_107 (ow163 hw) (owS hw) hE (by decide) (by decide) (by decide) (by decide) (by decide) (by decide) (by decide) (by decide) rfl fun T1305 h1307 a1308 t1309 k1310 W1306 E1311 A1312 f1313 f1314 f1315 ne1316 => ?_
  have f1317 := f1299.ext E1311
  have f1318 := f1300.ext E1311
  have f1319 := f1301.ext E1311
  have f1320 := f1304.ext E1311
  have f1321 := f1302.ext E1311
  refine wVirtual (y := (⟨"java/lang/StringBuilder", "append", "(Ljava/lang/String;)Ljava/lang/StringBuilder;"⟩ : MethodName)) (z := (⟨"java/lang/StringBuilder", "append", "(Ljava/lang/String;)Ljava/lang/StringBuilder;"⟩ : MethodName)) (Wd := 0) (a := a1144) (argsL := [(.ref a1308)]) (rest := []) W1306 d11_109 (ow90 hw) (ow91 hw) (ow93 hw) (ow92 hw) (nfS (ow93 hw)) (by decide) (Cb.ct (ors_a0 l Z a0 hw hE (a1144) (t1160) (kb1161) (16) ((bf 16 (p6 ((i + 1) / 65536) ((i + 1) / 256 % 256) ((i + 1) % 256)))) (a1308) (t1309) (k1310) (1) ([(Value.int 58)]) (((((((0 + 3) + dlen ((i + 1) / 65536)) + 1) + dlen ((i + 1) / 256 % 256)) + 1) + dlen ((i + 1) % 256))) (z) h1307 W1306.old SC hz f1317 f1318 f1319 f1320 f1321 A1312 f1314 f1313 f1315 rfl (bf_len (by rw [show List.length (p6 ((i + 1) / 65536) ((i + 1) / 256 % 256) ((i + 1) % 256)) = ((((((0 + 3) + dlen ((i + 1) / 65536)) + 1) + dlen ((i + 1) / 256 % 256)) + 1) + dlen ((i + 1) % 256)) from (p6_len.trans (by omega))]; omega)) (by omega) (by decide) (Ne.symm (ne1316 t1160 (by simp)).2) (Nat.le_trans W.old.2.1 (Nat.le_of_eq g1146.symm)) (Nat.le_trans W1142.old.2.1 f1162)) (ow94 hw) (ow66 hw) hE (by decide) (by decide)) f1317 (by simp) rfl (lenOf opd21 rfl) rfl (Nat.le_of_eq rfl) (by decide) (by decide) rfl fun v1326 so1327 T1322 h1324 W1323 kp1325 sp1328 q1329 => ?_
  obtain ⟨rfl, rfl, f1330, f1331, f1332, f1333, f1334⟩ := q1329
  show Go K _ T1322 112 #[.val (.int (Int32.ofNat i)), .val (.int (Int32.ofNat (i + 1))), .val (.int (Int32.ofNat ((i + 1) / 65536))), .val (.int (Int32.ofNat ((i + 1) / 256 % 256))), .val (.int (Int32.ofNat ((i + 1) % 256)))] [(.ref a1144)]
  have f1335 : Arv Z h1324 t1160 kb1161 .byte (Int32.ofNat 16) (bf 16 (p7 ((i + 1) / 65536) ((i + 1) / 256 % 256) ((i + 1) % 256))) (.int 0) := arvL f1334 (bf_put (c := 16) (P := (p6 ((i + 1) / 65536) ((i + 1) / 256 % 256) ((i + 1) % 256))) (us := [(Value.int 58)]) (i := ((((((0 + 3) + dlen ((i + 1) / 65536)) + 1) + dlen ((i + 1) / 256 % 256)) + 1) + dlen ((i + 1) % 256))) (n := 1) (p6_len.trans (by omega)) rfl)
  refine gSipush (z := (8080 : Int32)) W1323 d11_112 rfl rfl ?_
  have e7 : List.length (p7 ((i + 1) / 65536) ((i + 1) / 256 % 256) ((i + 1) % 256)) = (((((((0 + 3) + dlen ((i + 1) / 65536)) + 1) + dlen ((i + 1) / 256 % 256)) + 1) + dlen ((i + 1) % 256)) + 1) := (p7_len.trans (by omega))
  by_cases g0 : (((((((0 + 3) + dlen ((i + 1) / 65536)) + 1) + dlen ((i + 1) / 256 % 256)) + 1) + dlen ((i + 1) % 256)) + 1) + dlen 8080 ≤ 16
  · refine wVirtual (y := (⟨"java/lang/StringBuilder", "append", "(I)Ljava/lang/StringBuilder;"⟩ : MethodName)) (z := (⟨"java/lang/StringBuilder", "append", "(I)Ljava/lang/StringBuilder;"⟩ : MethodName)) (Wd := 0) (a := a1144) (argsL := [(.int (8080 : Int32))]) (rest := []) W1323 d11_115 (ow140 hw) (ow141 hw) (ow143 hw) (ow142 hw) (nfS (ow143 hw)) (by decide) (Cb.ct (ors_bi l Z a0 hw hE (a1144) (t1160) (kb1161) (16) ((bf 16 (p7 ((i + 1) / 65536) ((i + 1) / 256 % 256) ((i + 1) % 256)))) (8080) ((((((((0 + 3) + dlen ((i + 1) / 65536)) + 1) + dlen ((i + 1) / 256 % 256)) + 1) + dlen ((i + 1) % 256)) + 1)) (z) (d1) (k1) (d2) (k2) h1324 W1323.old SC hz f1330 f1331 f1332 f1335 f1333 SO AO SE AE (by omega) (bf_len (by rw [show List.length (p7 ((i + 1) / 65536) ((i + 1) / 256 % 256) ((i + 1) % 256)) = (((((((0 + 3) + dlen ((i + 1) / 65536)) + 1) + dlen ((i + 1) / 256 % 256)) + 1) + dlen ((i + 1) % 256)) + 1) from (p7_len.trans (by omega))]; omega)) (by omega) (by decide) (Nat.le_trans W.old.2.1 (Nat.le_of_eq g1146.symm)) (Nat.le_trans W1142.old.2.1 f1162)) (ow144 hw) (ow66 hw) hE (by decide) (by decide)) f1330 (by simp) rfl (lenOf opd22 rfl) rfl (Nat.le_of_eq rfl) (by decide) (by decide) rfl fun v1340 so1341 T1336 h1338 W1337 kp1339 sp1342 q1343 => ?_
    obtain ⟨rfl, rfl, f1344, f1345, f1346, f1347, f1348⟩ := q1343
    show Go K _ T1336 118 #[.val (.int (Int32.ofNat i)), .val (.int (Int32.ofNat (i + 1))), .val (.int (Int32.ofNat ((i + 1) / 65536))), .val (.int (Int32.ofNat ((i + 1) / 256 % 256))), .val (.int (Int32.ofNat ((i + 1) % 256)))] [(.ref a1144)]
    have f1349 : Arv Z h1338 t1160 kb1161 .byte (Int32.ofNat 16) (bf 16 (p8 ((i + 1) / 65536) ((i + 1) / 256 % 256) ((i + 1) % 256))) (.int 0) := arvL f1348 (bf_put (c := 16) (P := (p7 ((i + 1) / 65536) ((i + 1) / 256 % 256) ((i + 1) % 256))) (us := dg 8080) (i := (((((((0 + 3) + dlen ((i + 1) / 65536)) + 1) + dlen ((i + 1) / 256 % 256)) + 1) + dlen ((i + 1) % 256)) + 1)) (n := dlen 8080) (p7_len.trans (by omega)) (dg_len _))
    have f1350 := f1168.ext E1176
    have f1351 := f1350.keep kp1190
    have f1352 := f1351.keep kp1204
    have f1353 := f1352.ext E1221
    have f1354 := f1353.keep kp1235
    have f1355 := f1354.keep kp1249
    have f1356 := f1355.ext E1266
    have f1357 := f1356.keep kp1280
    have f1358 := f1357.keep kp1294
    have f1359 := f1358.ext E1311
    have f1360 := f1359.keep kp1325
    have f1361 := f1360.keep kp1339
    refine wVirtual (y := (⟨"java/lang/StringBuilder", "toString", "()Ljava/lang/String;"⟩ : MethodName)) (z := (⟨"java/lang/StringBuilder", "toString", "()Ljava/lang/String;"⟩ : MethodName)) (Wd := 0) (a := a1144) (argsL := []) (rest := []) W1337 d11_118 (ow165 hw) (ow166 hw) (ow168 hw) (ow167 hw) (nfS (ow168 hw)) (by decide) (Cb.ct (ors_ts l Z a0 hw hE (a1144) (t1160) (kb1161) (16) ((bf 16 (p8 ((i + 1) / 65536) ((i + 1) / 256 % 256) ((i + 1) % 256)))) (((((((((0 + 3) + dlen ((i + 1) / 65536)) + 1) + dlen ((i + 1) / 256 % 256)) + 1) + dlen ((i + 1) % 256)) + 1) + dlen 8080)) (z) h1338 W1337.old SC hz f1344 f1345 f1346 f1347 f1349 f1361 (bf_len (by rw [p8_len]; omega)) g0 (by decide) ) (ow169 hw) (ow66 hw) hE (by decide) (by decide)) f1344 (by simp) rfl (lenOf opd23 rfl) rfl (Nat.le_of_eq rfl) (by decide) (by decide) rfl fun v1366 so1367 T1362 h1364 W1363 kp1365 sp1368 q1369 => ?_
    obtain ⟨s1370, r1371, kr1372, rfl, rfl, f1373, f1374, f1375, f1376⟩ := q1369
    show Go K _ T1362 121 #[.val (.int (Int32.ofNat i)), .val (.int (Int32.ofNat (i + 1))), .val (.int (Int32.ofNat ((i + 1) / 65536))), .val (.int (Int32.ofNat ((i + 1) / 256 % 256))), .val (.int (Int32.ofNat ((i + 1) % 256)))] [(.ref s1370)]
    have en : ((((((((0 + 3) + dlen ((i + 1) / 65536)) + 1) + dlen ((i + 1) / 256 % 256)) + 1) + dlen ((i + 1) % 256)) + 1) + dlen 8080) = tl (i + 1) := by unfold tl; omega
    have f1377 : Arv Z h1364 r1371 kr1372 .byte (Int32.ofNat (tl (i + 1))) (tx (i + 1)) (.int 0) := by rw [← en]; exact arvL f1376 (bf_take (by rw [p8_len]; omega))
    exact wRetA (so := []) (t := .object "java/lang/String") W1363 d11_121 rfl rfl rfl (by decide) (by decide) (fun _ q => nomatch q) ⟨s1370, r1371, kr1372, rfl, rfl, f1373, f1374, f1375, f1377⟩
  · have g1 : (((((((0 + 3) + dlen ((i + 1) / 65536)) + 1) + dlen ((i + 1) / 256 % 256)) + 1) + dlen ((i + 1) % 256)) + 1) = 13 ∨ (((((((0 + 3) + dlen ((i + 1) / 65536)) + 1) + dlen ((i + 1) / 256 % 256)) + 1) + dlen ((i + 1) % 256)) + 1) = 14 ∨ (((((((0 + 3) + dlen ((i + 1) / 65536)) + 1) + dlen ((i + 1) / 256 % 256)) + 1) + dlen ((i + 1) % 256)) + 1) = 15 := by omega
    rcases g1 with g | g | g
    · have f1378 : Fld Z h1324 a1144 "java/lang/AbstractStringBuilder" "count" "I" (.int (13 : Int32)) := by have q := f1333; rw [g] at q; exact q
      refine wVirtual (y := (⟨"java/lang/StringBuilder", "append", "(I)Ljava/lang/StringBuilder;"⟩ : MethodName)) (z := (⟨"java/lang/StringBuilder", "append", "(I)Ljava/lang/StringBuilder;"⟩ : MethodName)) (Wd := 0) (a := a1144) (argsL := [(.int (8080 : Int32))]) (rest := []) W1323 d11_115 (ow140 hw) (ow141 hw) (ow143 hw) (ow142 hw) (nfS (ow143 hw)) (by decide) (Cb.ct (ors_bg17 l Z a0 hw hE (a1144) (t1160) (kb1161) ((bf 16 (p7 ((i + 1) / 65536) ((i + 1) / 256 % 256) ((i + 1) % 256)))) (d1) (k1) (d2) (k2) (z) h1324 W1323.old SC hz f1330 f1331 f1332 f1335 f1378 SO AO SE AE (bf_len (by omega)) (Nat.le_trans W.old.2.1 (Nat.le_of_eq g1146.symm))) (ow144 hw) (ow66 hw) hE (by decide) (by decide)) f1330 (by simp) rfl (lenOf opd22 rfl) rfl (Nat.le_of_eq rfl) (by decide) (by decide) rfl fun v1383 so1384 T1379 h1381 W1380 kp1382 sp1385 q1386 => ?_
      obtain ⟨r1387, kr1388, rfl, rfl, f1389, f1390, f1391, f1392, f1393, f1394, f1395⟩ := q1386
      show Go K _ T1379 118 #[.val (.int (Int32.ofNat i)), .val (.int (Int32.ofNat (i + 1))), .val (.int (Int32.ofNat ((i + 1) / 65536))), .val (.int (Int32.ofNat ((i + 1) / 256 % 256))), .val (.int (Int32.ofNat ((i + 1) % 256)))] [(.ref a1144)]
      refine wVirtual (y := (⟨"java/lang/StringBuilder", "toString", "()Ljava/lang/String;"⟩ : MethodName)) (z := (⟨"java/lang/StringBuilder", "toString", "()Ljava/lang/String;"⟩ : MethodName)) (Wd := 0) (a := a1144) (argsL := []) (rest := []) W1380 d11_118 (ow165 hw) (ow166 hw) (ow168 hw) (ow167 hw) (nfS (ow168 hw)) (by decide) (Cb.ct (ors_ts l Z a0 hw hE (a1144) (r1387) (kr1388) (34) ((((bf 16 (p7 ((i + 1) / 65536) ((i + 1) / 256 % 256) ((i + 1) % 256))) ++ List.replicate 18 (Value.int 0)).take (17 - dlen 8080) ++ dg 8080 ++ ((bf 16 (p7 ((i + 1) / 65536) ((i + 1) / 256 % 256) ((i + 1) % 256))) ++ List.replicate 18 (Value.int 0)).drop 17)) (17) (z) h1381 W1380.old SC hz f1390 f1391 f1392 f1393 f1394 f1395 (grown_len (by omega) (by decide)) (by decide) (by decide) ) (ow169 hw) (ow66 hw) hE (by decide) (by decide)) f1390 (by simp) rfl (lenOf opd23 rfl) rfl (Nat.le_of_eq rfl) (by decide) (by decide) rfl fun v1400 so1401 T1396 h1398 W1397 kp1399 sp1402 q1403 => ?_
      obtain ⟨s1404, r1405, kr1406, rfl, rfl, f1407, f1408, f1409, f1410⟩ := q1403
      show Go K _ T1396 121 #[.val (.int (Int32.ofNat i)), .val (.int (Int32.ofNat (i + 1))), .val (.int (Int32.ofNat ((i + 1) / 65536))), .val (.int (Int32.ofNat ((i + 1) / 256 % 256))), .val (.int (Int32.ofNat ((i + 1) % 256)))] [(.ref s1404)]
      have en : 17 = tl (i + 1) := by unfold tl; omega
      have f1411 : Arv Z h1398 r1405 kr1406 .byte (Int32.ofNat (tl (i + 1))) (tx (i + 1)) (.int 0) := by rw [← en]; exact arvL f1410 (grown (by omega) (by decide))
      exact wRetA (so := []) (t := .object "java/lang/String") W1397 d11_121 rfl rfl rfl (by decide) (by decide) (fun _ q => nomatch q) ⟨s1404, r1405, kr1406, rfl, rfl, f1407, f1408, f1409, f1411⟩
    · have f1412 : Fld Z h1324 a1144 "java/lang/AbstractStringBuilder" "count" "I" (.int (14 : Int32)) := by have q := f1333; rw [g] at q; exact q
      refine wVirtual (y := (⟨"java/lang/StringBuilder", "append", "(I)Ljava/lang/StringBuilder;"⟩ : MethodName)) (z := (⟨"java/lang/StringBuilder", "append", "(I)Ljava/lang/StringBuilder;"⟩ : MethodName)) (Wd := 0) (a := a1144) (argsL := [(.int (8080 : Int32))]) (rest := []) W1323 d11_115 (ow140 hw) (ow141 hw) (ow143 hw) (ow142 hw) (nfS (ow143 hw)) (by decide) (Cb.ct (ors_bg18 l Z a0 hw hE (a1144) (t1160) (kb1161) ((bf 16 (p7 ((i + 1) / 65536) ((i + 1) / 256 % 256) ((i + 1) % 256)))) (d1) (k1) (d2) (k2) (z) h1324 W1323.old SC hz f1330 f1331 f1332 f1335 f1412 SO AO SE AE (bf_len (by omega)) (Nat.le_trans W.old.2.1 (Nat.le_of_eq g1146.symm))) (ow144 hw) (ow66 hw) hE (by decide) (by decide)) f1330 (by simp) rfl (lenOf opd22 rfl) rfl (Nat.le_of_eq rfl) (by decide) (by decide) rfl fun v1417 so1418 T1413 h1415 W1414 kp1416 sp1419 q1420 => ?_
      obtain ⟨r1421, kr1422, rfl, rfl, f1423, f1424, f1425, f1426, f1427, f1428, f1429⟩ := q1420
      show Go K _ T1413 118 #[.val (.int (Int32.ofNat i)), .val (.int (Int32.ofNat (i + 1))), .val (.int (Int32.ofNat ((i + 1) / 65536))), .val (.int (Int32.ofNat ((i + 1) / 256 % 256))), .val (.int (Int32.ofNat ((i + 1) % 256)))] [(.ref a1144)]
      refine wVirtual (y := (⟨"java/lang/StringBuilder", "toString", "()Ljava/lang/String;"⟩ : MethodName)) (z := (⟨"java/lang/StringBuilder", "toString", "()Ljava/lang/String;"⟩ : MethodName)) (Wd := 0) (a := a1144) (argsL := []) (rest := []) W1414 d11_118 (ow165 hw) (ow166 hw) (ow168 hw) (ow167 hw) (nfS (ow168 hw)) (by decide) (Cb.ct (ors_ts l Z a0 hw hE (a1144) (r1421) (kr1422) (34) ((((bf 16 (p7 ((i + 1) / 65536) ((i + 1) / 256 % 256) ((i + 1) % 256))) ++ List.replicate 18 (Value.int 0)).take (18 - dlen 8080) ++ dg 8080 ++ ((bf 16 (p7 ((i + 1) / 65536) ((i + 1) / 256 % 256) ((i + 1) % 256))) ++ List.replicate 18 (Value.int 0)).drop 18)) (18) (z) h1415 W1414.old SC hz f1424 f1425 f1426 f1427 f1428 f1429 (grown_len (by omega) (by decide)) (by decide) (by decide) ) (ow169 hw) (ow66 hw) hE (by decide) (by decide)) f1424 (by simp) rfl (lenOf opd23 rfl) rfl (Nat.le_of_eq rfl) (by decide) (by decide) rfl fun v1434 so1435 T1430 h1432 W1431 kp1433 sp1436 q1437 => ?_
      obtain ⟨s1438, r1439, kr1440, rfl, rfl, f1441, f1442, f1443, f1444⟩ := q1437
      show Go K _ T1430 121 #[.val (.int (Int32.ofNat i)), .val (.int (Int32.ofNat (i + 1))), .val (.int (Int32.ofNat ((i + 1) / 65536))), .val (.int (Int32.ofNat ((i + 1) / 256 % 256))), .val (.int (Int32.ofNat ((i + 1) % 256)))] [(.ref s1438)]
      have en : 18 = tl (i + 1) := by unfold tl; omega
      have f1445 : Arv Z h1432 r1439 kr1440 .byte (Int32.ofNat (tl (i + 1))) (tx (i + 1)) (.int 0) := by rw [← en]; exact arvL f1444 (grown (by omega) (by decide))
      exact wRetA (so := []) (t := .object "java/lang/String") W1431 d11_121 rfl rfl rfl (by decide) (by decide) (fun _ q => nomatch q) ⟨s1438, r1439, kr1440, rfl, rfl, f1441, f1442, f1443, f1445⟩
    · have f1446 : Fld Z h1324 a1144 "java/lang/AbstractStringBuilder" "count" "I" (.int (15 : Int32)) := by have q := f1333; rw [g] at q; exact q
      refine wVirtual (y := (⟨"java/lang/StringBuilder", "append", "(I)Ljava/lang/StringBuilder;"⟩ : MethodName)) (z := (⟨"java/lang/StringBuilder", "append", "(I)Ljava/lang/StringBuilder;"⟩ : MethodName)) (Wd := 0) (a := a1144) (argsL := [(.int (8080 : Int32))]) (rest := []) W1323 d11_115 (ow140 hw) (ow141 hw) (ow143 hw) (ow142 hw) (nfS (ow143 hw)) (by decide) (Cb.ct (ors_bg19 l Z a0 hw hE (a1144) (t1160) (kb1161) ((bf 16 (p7 ((i + 1) / 65536) ((i + 1) / 256 % 256) ((i + 1) % 256)))) (d1) (k1) (d2) (k2) (z) h1324 W1323.old SC hz f1330 f1331 f1332 f1335 f1446 SO AO SE AE (bf_len (by omega)) (Nat.le_trans W.old.2.1 (Nat.le_of_eq g1146.symm))) (ow144 hw) (ow66 hw) hE (by decide) (by decide)) f1330 (by simp) rfl (lenOf opd22 rfl) rfl (Nat.le_of_eq rfl) (by decide) (by decide) rfl fun v1451 so1452 T1447 h1449 W1448 kp1450 sp1453 q1454 => ?_
      obtain ⟨r1455, kr1456, rfl, rfl, f1457, f1458, f1459, f1460, f1461, f1462, f1463⟩ := q1454
      show Go K _ T1447 118 #[.val (.int (Int32.ofNat i)), .val (.int (Int32.ofNat (i + 1))), .val (.int (Int32.ofNat ((i + 1) / 65536))), .val (.int (Int32.ofNat ((i + 1) / 256 % 256))), .val (.int (Int32.ofNat ((i + 1) % 256)))] [(.ref a1144)]
      refine wVirtual (y := (⟨"java/lang/StringBuilder", "toString", "()Ljava/lang/String;"⟩ : MethodName)) (z := (⟨"java/lang/StringBuilder", "toString", "()Ljava/lang/String;"⟩ : MethodName)) (Wd := 0) (a := a1144) (argsL := []) (rest := []) W1448 d11_118 (ow165 hw) (ow166 hw) (ow168 hw) (ow167 hw) (nfS (ow168 hw)) (by decide) (Cb.ct (ors_ts l Z a0 hw hE (a1144) (r1455) (kr1456) (34) ((((bf 16 (p7 ((i + 1) / 65536) ((i + 1) / 256 % 256) ((i + 1) % 256))) ++ List.replicate 18 (Value.int 0)).take (19 - dlen 8080) ++ dg 8080 ++ ((bf 16 (p7 ((i + 1) / 65536) ((i + 1) / 256 % 256) ((i + 1) % 256))) ++ List.replicate 18 (Value.int 0)).drop 19)) (19) (z) h1449 W1448.old SC hz f1458 f1459 f1460 f1461 f1462 f1463 (grown_len (by omega) (by decide)) (by decide) (by decide) ) (ow169 hw) (ow66 hw) hE (by decide) (by decide)) f1458 (by simp) rfl (lenOf opd23 rfl) rfl (Nat.le_of_eq rfl) (by decide) (by decide) rfl fun v1468 so1469 T1464 h1466 W1465 kp1467 sp1470 q1471 => ?_
      obtain ⟨s1472, r1473, kr1474, rfl, rfl, f1475, f1476, f1477, f1478⟩ := q1471
      show Go K _ T1464 121 #[.val (.int (Int32.ofNat i)), .val (.int (Int32.ofNat (i + 1))), .val (.int (Int32.ofNat ((i + 1) / 65536))), .val (.int (Int32.ofNat ((i + 1) / 256 % 256))), .val (.int (Int32.ofNat ((i + 1) % 256)))] [(.ref s1472)]
      have en : 19 = tl (i + 1) := by unfold tl; omega
      have f1479 : Arv Z h1466 r1473 kr1474 .byte (Int32.ofNat (tl (i + 1))) (tx (i + 1)) (.int 0) := by rw [← en]; exact arvL f1478 (grown (by omega) (by decide))
      exact wRetA (so := []) (t := .object "java/lang/String") W1465 d11_121 rfl rfl rfl (by decide) (by decide) (fun _ q => nomatch q) ⟨s1472, r1473, kr1474, rfl, rfl, f1475, f1476, f1477, f1479⟩
-- CUT
theorem d8_0 : decode prog_14_method_2_code 0 = .ok (.iload_n 1, 1) := by decide +kernel
theorem d8_1 : decode prog_14_method_2_code 1 = .ok (.aload_n 0, 1) := by decide +kernel
theorem d8_2 : decode prog_14_method_2_code 2 = .ok (.getfield 7, 3) := by decide +kernel
theorem d8_5 : decode prog_14_method_2_code 5 = .ok (.invokestatic 13, 3) := by decide +kernel
theorem ow53 {a0 : Array Value} {Z : State} (hw : ∀ d ∈ tables_1, d.before a0 Z = true) : (Jvm.Cond.methodLink "com/example/hasset/hasset/model/GeneratedFleet$Addresses" (13 : Nat) ({ cls := "java/util/Objects", name := "checkIndex", desc := "(II)I" } : Jvm.MethodName)).before a0 Z = true := hw _ (List.mem_of_getElem? (i := 53) rfl)
theorem ow55 {a0 : Array Value} {Z : State} (hw : ∀ d ∈ tables_1, d.before a0 Z = true) : (Jvm.Cond.initialized "java/util/Objects").before a0 Z = true := hw _ (List.mem_of_getElem? (i := 55) rfl)
theorem ow56 {a0 : Array Value} {Z : State} (hw : ∀ d ∈ tables_1, d.before a0 Z = true) : (Jvm.Cond.code ({ cls := "java/util/Objects", name := "checkIndex", desc := "(II)I" } : Jvm.MethodName) jdk_31_method_17_code (2 : Nat) (Option.some Jvm.ClassFile.FieldType.int)).before a0 Z = true := hw _ (List.mem_of_getElem? (i := 56) rfl)
theorem ow54 {a0 : Array Value} {Z : State} (hw : ∀ d ∈ tables_1, d.before a0 Z = true) : (Jvm.Cond.static ({ cls := "java/util/Objects", name := "checkIndex", desc := "(II)I" } : Jvm.MethodName)).before a0 Z = true := hw _ (List.mem_of_getElem? (i := 54) rfl)
theorem d8_8 : decode prog_14_method_2_code 8 = .ok (.invokestatic 19, 3) := by decide +kernel
theorem ow61 {a0 : Array Value} {Z : State} (hw : ∀ d ∈ tables_1, d.before a0 Z = true) : (Jvm.Cond.methodLink "com/example/hasset/hasset/model/GeneratedFleet$Addresses" (19 : Nat) ({ cls := "com/example/hasset/hasset/model/GeneratedFleet", name := "address", desc := "(I)Ljava/lang/String;" } : Jvm.MethodName)).before a0 Z = true := hw _ (List.mem_of_getElem? (i := 61) rfl)
theorem ow4 {a0 : Array Value} {Z : State} (hw : ∀ d ∈ tables_1, d.before a0 Z = true) : (Jvm.Cond.initialized "com/example/hasset/hasset/model/GeneratedFleet").before a0 Z = true := hw _ (List.mem_of_getElem? (i := 4) rfl)
theorem ow63 {a0 : Array Value} {Z : State} (hw : ∀ d ∈ tables_1, d.before a0 Z = true) : (Jvm.Cond.code ({ cls := "com/example/hasset/hasset/model/GeneratedFleet", name := "address", desc := "(I)Ljava/lang/String;" } : Jvm.MethodName) prog_13_method_2_code (5 : Nat) (Option.some (Jvm.ClassFile.FieldType.object "java/lang/String"))).before a0 Z = true := hw _ (List.mem_of_getElem? (i := 63) rfl)
theorem opd24 : parseMethodDescriptor "(I)Ljava/lang/String;" = some ⟨[.int], some (.object "java/lang/String")⟩ := by decide +kernel
theorem ow62 {a0 : Array Value} {Z : State} (hw : ∀ d ∈ tables_1, d.before a0 Z = true) : (Jvm.Cond.static ({ cls := "com/example/hasset/hasset/model/GeneratedFleet", name := "address", desc := "(I)Ljava/lang/String;" } : Jvm.MethodName)).before a0 Z = true := hw _ (List.mem_of_getElem? (i := 62) rfl)
theorem d8_11 : decode prog_14_method_2_code 11 = .ok (.areturn, 1) := by decide +kernel
theorem oef_ofl_gs (m_ : MethodId) (o : Addr) (y0_ : Int32)  : (entryFrame m_ #[(.ref o), (.int y0_)] 2).locals = #[.val (.ref o), .val (.int y0_)] := by first | (simp [entryFrame, argsToLocals, Value.category]; done) | rfl
set_option maxRecDepth 65536 in
set_option maxHeartbeats 40000000 in
theorem ofl_gs (l : Launch) (Z : State) (a0 : Array Value) (hw : ∀ d ∈ tables_1, d.before a0 Z = true) (hE : EW Z a0 consts_1) (o : Addr) (c : Nat) (i : Nat) (z : Int32) (d1 : Addr) (k1 : ClassId) (d2 : Addr) (k2 : ClassId) (h : Heap) (hO : Old Z Z.heap.size h) (SC : (Sta Z Z.heap "java/lang/String" "COMPACT_STRINGS" "Z" (.int z))) (hz : (¬ z = 0)) (SO : (Sta Z Z.heap "java/lang/Integer" "DigitOnes" "[B" (.ref d1))) (AO : (Arv Z Z.heap d1 k1 .byte (100 : Int32) ones (.int 0))) (SE : (Sta Z Z.heap "java/lang/Integer" "DigitTens" "[B" (.ref d2))) (AE : (Arv Z Z.heap d2 k2 .byte (100 : Int32) tens (.int 0))) (q6 : Exa Z h o "com/example/hasset/hasset/model/GeneratedFleet$Addresses") (q7 : Fld Z h o "com/example/hasset/hasset/model/GeneratedFleet$Addresses" "count" "I" (.int (Int32.ofNat c))) (hic : (i < c)) (hc : (c < 16777216))  :
    Ct l Z consts_1 (⟨"com/example/hasset/hasset/model/GeneratedFleet$Addresses", "get", "(I)Ljava/lang/String;"⟩ : MethodName) prog_14_method_2_code 2 (Option.some (Jvm.ClassFile.FieldType.object "java/lang/String")) ⟨7, 13, 200, 180⟩ #[(.ref o), (.int (Int32.ofNat i))] h [] (fun rv' hp' so' => ∃ s : Addr, ∃ r : Addr, ∃ kr : ClassId, rv' = some (.ref s) ∧ so' = [] ∧ Exa Z hp' s "java/lang/String" ∧ Fld Z hp' s "java/lang/String" "coder" "B" (.int (0 : Int32)) ∧ Fld Z hp' s "java/lang/String" "value" "[B" (.ref r) ∧ Arv Z hp' r kr .byte (Int32.ofNat (tl (i + 1))) (tx (i + 1)) (.int 0)) := by
  refine Ct.mk "com/example/hasset/hasset/model/GeneratedFleet$Addresses" "get" rfl rfl (a0 := a0) (plainFor_of_name opn8) hO hE (fun x q => nomatch q) ?_
  intro K T W
  rw [oef_ofl_gs]
  refine gIloadN W d8_0 rfl rfl ?_
  refine gAloadN W d8_1 rfl rfl rfl ?_
  refine wGetF W d8_2 (ow29 hw) Via.refl q7 rfl fun T1480 W1481 => ?_
  refine wStatic (y := (⟨"java/util/Objects", "checkIndex", "(II)I"⟩ : MethodName)) (Wd := 0) (argsL := [(.int (Int32.ofNat i)), (.int (Int32.ofNat c))]) (rest := []) W1481 d8_5 (ow53 hw) (ow54 hw) (ow55 hw) (ow56 hw) (by decide) (Cb.ct (ofl_oc l Z a0 hw hE (i) (c) h W1481.old hic (by omega) ) (ow56 hw) (ow55 hw) hE (by decide) (by decide)) (by simp) rfl (lenOf opd11 rfl) rfl (Nat.le_of_eq rfl) (by decide) (by decide) rfl fun v1486 so1487 T1482 h1484 W1483 kp1485 sp1488 q1489 => ?_
  obtain ⟨rfl, rfl⟩ := q1489
  show Go K _ T1482 8 #[.val (.ref o), .val (.int (Int32.ofNat i))] [(.int (Int32.ofNat i))]
  refine wStatic (y := (⟨"com/example/hasset/hasset/model/GeneratedFleet", "address", "(I)Ljava/lang/String;"⟩ : MethodName)) (Wd := 0) (argsL := [(.int (Int32.ofNat i))]) (rest := []) W1483 d8_8 (ow61 hw) (ow62 hw) (ow4 hw) (ow63 hw) (by decide) (Cb.ct (ofl_adr l Z a0 hw hE (i) (z) (d1) (k1) (d2) (k2) h1484 W1483.old SC hz SO AO SE AE (by omega) ) (ow63 hw) (ow4 hw) hE (by decide) (by decide)) (by simp) rfl (lenOf opd24 rfl) rfl (Nat.le_of_eq rfl) (by decide) (by decide) rfl fun v1494 so1495 T1490 h1492 W1491 kp1493 sp1496 q1497 => ?_
  obtain ⟨s1498, r1499, kr1500, rfl, rfl, f1501, f1502, f1503, f1504⟩ := q1497
  show Go K _ T1490 11 #[.val (.ref o), .val (.int (Int32.ofNat i))] [(.ref s1498)]
  exact wRetA (so := []) (t := .object "java/lang/String") W1491 d8_11 rfl rfl rfl (by decide) (by decide) (fun _ q => nomatch q) ⟨s1498, r1499, kr1500, rfl, rfl, f1501, f1502, f1503, f1504⟩
theorem d7_0 : decode prog_14_method_4_code 0 = .ok (.aload_n 0, 1) := by decide +kernel
theorem d7_1 : decode prog_14_method_4_code 1 = .ok (.iload_n 1, 1) := by decide +kernel
theorem d7_2 : decode prog_14_method_4_code 2 = .ok (.invokevirtual 25, 3) := by decide +kernel
theorem ow52 {a0 : Array Value} {Z : State} (hw : ∀ d ∈ tables_1, d.before a0 Z = true) : (Jvm.Cond.code ({ cls := "com/example/hasset/hasset/model/GeneratedFleet$Addresses", name := "get", desc := "(I)Ljava/lang/String;" } : Jvm.MethodName) prog_14_method_2_code (2 : Nat) (Option.some (Jvm.ClassFile.FieldType.object "java/lang/String"))).before a0 Z = true := hw _ (List.mem_of_getElem? (i := 52) rfl)
theorem ow48 {a0 : Array Value} {Z : State} (hw : ∀ d ∈ tables_1, d.before a0 Z = true) : (Jvm.Cond.methodLink "com/example/hasset/hasset/model/GeneratedFleet$Addresses" (25 : Nat) ({ cls := "com/example/hasset/hasset/model/GeneratedFleet$Addresses", name := "get", desc := "(I)Ljava/lang/String;" } : Jvm.MethodName)).before a0 Z = true := hw _ (List.mem_of_getElem? (i := 48) rfl)
theorem ow49 {a0 : Array Value} {Z : State} (hw : ∀ d ∈ tables_1, d.before a0 Z = true) : (Jvm.Cond.declares ({ cls := "com/example/hasset/hasset/model/GeneratedFleet$Addresses", name := "get", desc := "(I)Ljava/lang/String;" } : Jvm.MethodName)).before a0 Z = true := hw _ (List.mem_of_getElem? (i := 49) rfl)
theorem ow51 {a0 : Array Value} {Z : State} (hw : ∀ d ∈ tables_1, d.before a0 Z = true) : (Jvm.Cond.selects "com/example/hasset/hasset/model/GeneratedFleet$Addresses" ({ cls := "com/example/hasset/hasset/model/GeneratedFleet$Addresses", name := "get", desc := "(I)Ljava/lang/String;" } : Jvm.MethodName) ({ cls := "com/example/hasset/hasset/model/GeneratedFleet$Addresses", name := "get", desc := "(I)Ljava/lang/String;" } : Jvm.MethodName)).before a0 Z = true := hw _ (List.mem_of_getElem? (i := 51) rfl)
theorem ow50 {a0 : Array Value} {Z : State} (hw : ∀ d ∈ tables_1, d.before a0 Z = true) : (Jvm.Cond.instanceMethod ({ cls := "com/example/hasset/hasset/model/GeneratedFleet$Addresses", name := "get", desc := "(I)Ljava/lang/String;" } : Jvm.MethodName)).before a0 Z = true := hw _ (List.mem_of_getElem? (i := 50) rfl)
theorem d7_5 : decode prog_14_method_4_code 5 = .ok (.areturn, 1) := by decide +kernel
theorem oef_ofl_go (m_ : MethodId) (o : Addr) (y0_ : Int32)  : (entryFrame m_ #[(.ref o), (.int y0_)] 2).locals = #[.val (.ref o), .val (.int y0_)] := by first | (simp [entryFrame, argsToLocals, Value.category]; done) | rfl
set_option maxRecDepth 65536 in
set_option maxHeartbeats 40000000 in
theorem ofl_go (l : Launch) (Z : State) (a0 : Array Value) (hw : ∀ d ∈ tables_1, d.before a0 Z = true) (hE : EW Z a0 consts_1) (o : Addr) (c : Nat) (i : Nat) (z : Int32) (d1 : Addr) (k1 : ClassId) (d2 : Addr) (k2 : ClassId) (h : Heap) (hO : Old Z Z.heap.size h) (SC : (Sta Z Z.heap "java/lang/String" "COMPACT_STRINGS" "Z" (.int z))) (hz : (¬ z = 0)) (SO : (Sta Z Z.heap "java/lang/Integer" "DigitOnes" "[B" (.ref d1))) (AO : (Arv Z Z.heap d1 k1 .byte (100 : Int32) ones (.int 0))) (SE : (Sta Z Z.heap "java/lang/Integer" "DigitTens" "[B" (.ref d2))) (AE : (Arv Z Z.heap d2 k2 .byte (100 : Int32) tens (.int 0))) (q6 : Exa Z h o "com/example/hasset/hasset/model/GeneratedFleet$Addresses") (q7 : Fld Z h o "com/example/hasset/hasset/model/GeneratedFleet$Addresses" "count" "I" (.int (Int32.ofNat c))) (hic : (i < c)) (hc : (c < 16777216))  :
    Ct l Z consts_1 (⟨"com/example/hasset/hasset/model/GeneratedFleet$Addresses", "get", "(I)Ljava/lang/Object;"⟩ : MethodName) prog_14_method_4_code 2 (Option.some (Jvm.ClassFile.FieldType.object "java/lang/Object")) ⟨8, 13, 200, 196⟩ #[(.ref o), (.int (Int32.ofNat i))] h [] (fun rv' hp' so' => ∃ s : Addr, ∃ r : Addr, ∃ kr : ClassId, rv' = some (.ref s) ∧ so' = [] ∧ Exa Z hp' s "java/lang/String" ∧ Fld Z hp' s "java/lang/String" "coder" "B" (.int (0 : Int32)) ∧ Fld Z hp' s "java/lang/String" "value" "[B" (.ref r) ∧ Arv Z hp' r kr .byte (Int32.ofNat (tl (i + 1))) (tx (i + 1)) (.int 0)) := by
  refine Ct.mk "com/example/hasset/hasset/model/GeneratedFleet$Addresses" "get" rfl rfl (a0 := a0) (plainFor_of_name opn8) hO hE (fun x q => nomatch q) ?_
  intro K T W
  rw [oef_ofl_go]
  refine gAloadN W d7_0 rfl rfl rfl ?_
  refine gIloadN W d7_1 rfl rfl ?_
  refine wVirtual (y := (⟨"com/example/hasset/hasset/model/GeneratedFleet$Addresses", "get", "(I)Ljava/lang/String;"⟩ : MethodName)) (z := (⟨"com/example/hasset/hasset/model/GeneratedFleet$Addresses", "get", "(I)Ljava/lang/String;"⟩ : MethodName)) (Wd := 0) (a := o) (argsL := [(.int (Int32.ofNat i))]) (rest := []) W d7_2 (ow48 hw) (ow49 hw) (ow51 hw) (ow50 hw) (nfS (ow51 hw)) (by decide) (Cb.ct (ofl_gs l Z a0 hw hE (o) (c) (i) (z) (d1) (k1) (d2) (k2) h W.old SC hz SO AO SE AE q6 q7 hic hc ) (ow52 hw) (ow9 hw) hE (by decide) (by decide)) q6 (by simp) rfl (lenOf opd24 rfl) rfl (Nat.le_of_eq rfl) (by decide) (by decide) rfl fun v1509 so1510 T1505 h1507 W1506 kp1508 sp1511 q1512 => ?_
  obtain ⟨s1513, r1514, kr1515, rfl, rfl, f1516, f1517, f1518, f1519⟩ := q1512
  show Go K _ T1505 5 #[.val (.ref o), .val (.int (Int32.ofNat i))] [(.ref s1513)]
  exact wRetA (so := []) (t := .object "java/lang/Object") W1506 d7_5 rfl rfl rfl (by decide) (by decide) (fun _ q => nomatch q) ⟨s1513, r1514, kr1515, rfl, rfl, f1516, f1517, f1518, f1519⟩
theorem d41_0 : decode jdk_42_method_154_code 0 = .ok (.getstatic 38, 3) := by decide +kernel
theorem d41_3 : decode jdk_42_method_154_code 3 = .ok (.ifCond .eq 14, 3) := by decide +kernel
theorem d41_6 : decode jdk_42_method_154_code 6 = .ok (.aload_n 0, 1) := by decide +kernel
theorem d41_7 : decode jdk_42_method_154_code 7 = .ok (.getfield 15, 3) := by decide +kernel
theorem d41_10 : decode jdk_42_method_154_code 10 = .ok (.ifCond .ne 7, 3) := by decide +kernel
theorem d41_13 : decode jdk_42_method_154_code 13 = .ok (.iconst 1, 1) := by decide +kernel
theorem d41_14 : decode jdk_42_method_154_code 14 = .ok (.goto 4, 3) := by decide +kernel
theorem d41_18 : decode jdk_42_method_154_code 18 = .ok (.ireturn, 1) := by decide +kernel
theorem oef_ofl_il (m_ : MethodId) (s : Addr)  : (entryFrame m_ #[(.ref s)] 1).locals = #[.val (.ref s)] := by first | (simp [entryFrame, argsToLocals, Value.category]; done) | rfl
set_option maxRecDepth 65536 in
set_option maxHeartbeats 40000000 in
theorem ofl_il (l : Launch) (Z : State) (a0 : Array Value) (hw : ∀ d ∈ tables_1, d.before a0 Z = true) (hE : EW Z a0 consts_1) (s : Addr) (z : Int32) (h : Heap) (hO : Old Z Z.heap.size h) (SC : (Sta Z Z.heap "java/lang/String" "COMPACT_STRINGS" "Z" (.int z))) (hz : (¬ z = 0)) (q2 : Fld Z h s "java/lang/String" "coder" "B" (.int (0 : Int32)))  :
    Ct l Z consts_1 (⟨"java/lang/String", "isLatin1", "()Z"⟩ : MethodName) jdk_42_method_154_code 1 (Option.some Jvm.ClassFile.FieldType.boolean) ⟨0, 0, 0, 0⟩ #[(.ref s)] h [] (fun rv' hp' so' => rv' = some (.int (1 : Int32)) ∧ so' = []) := by
  refine Ct.mk "java/lang/String" "isLatin1" rfl rfl (a0 := a0) (plainFor_of_name opn2) hO hE (fun x q => nomatch q) ?_
  intro K T W
  rw [oef_ofl_il]
  refine wGetS W d41_0 (ow111 hw) Via.refl SC rfl fun T1520 W1521 => ?_
  refine gIfNo W1521 d41_3 ((if0 _ _).trans (feq hz).1) rfl ?_
  refine gAloadN W1521 d41_6 rfl rfl rfl ?_
  refine wGetF W1521 d41_7 (ow112 hw) Via.refl q2 rfl fun T1522 W1523 => ?_
  refine gIfNo W1523 d41_10 ((if0 _ _).trans (teq rfl).2) rfl ?_
  refine gIconst (z := (1 : Int32)) W1523 d41_13 rfl rfl ?_
  refine gGoto (pc' := 18) W1523 d41_14 (by decide) rfl ?_
  exact wRetI (so := []) (t := .boolean) W1523 d41_18 (by simp) rfl (by decide) (by decide) (fun _ q => nomatch q) ⟨rfl, rfl⟩
theorem opn12 : plainName "java/lang/StringLatin1" = true := by first | (simp [plainName, overriddenIn]; done) | decide +kernel
theorem d42_0 : decode jdk_43_method_2_code 0 = .ok (.iload_n 1, 1) := by decide +kernel
theorem d42_1 : decode jdk_43_method_2_code 1 = .ok (.aload_n 0, 1) := by decide +kernel
theorem d42_2 : decode jdk_43_method_2_code 2 = .ok (.arraylength, 1) := by decide +kernel
theorem d42_3 : decode jdk_43_method_2_code 3 = .ok (.invokestatic 9, 3) := by decide +kernel
theorem ow236 {a0 : Array Value} {Z : State} (hw : ∀ d ∈ tables_1, d.before a0 Z = true) : (Jvm.Cond.methodLink "java/lang/StringLatin1" (9 : Nat) ({ cls := "java/lang/String", name := "checkIndex", desc := "(II)V" } : Jvm.MethodName)).before a0 Z = true := hw _ (List.mem_of_getElem? (i := 236) rfl)
theorem ow238 {a0 : Array Value} {Z : State} (hw : ∀ d ∈ tables_1, d.before a0 Z = true) : (Jvm.Cond.code ({ cls := "java/lang/String", name := "checkIndex", desc := "(II)V" } : Jvm.MethodName) jdk_42_method_155_code (2 : Nat) (Option.none : Option Jvm.ClassFile.FieldType)).before a0 Z = true := hw _ (List.mem_of_getElem? (i := 238) rfl)
theorem ow237 {a0 : Array Value} {Z : State} (hw : ∀ d ∈ tables_1, d.before a0 Z = true) : (Jvm.Cond.static ({ cls := "java/lang/String", name := "checkIndex", desc := "(II)V" } : Jvm.MethodName)).before a0 Z = true := hw _ (List.mem_of_getElem? (i := 237) rfl)
theorem d42_6 : decode jdk_43_method_2_code 6 = .ok (.aload_n 0, 1) := by decide +kernel
theorem d42_7 : decode jdk_43_method_2_code 7 = .ok (.iload_n 1, 1) := by decide +kernel
theorem d42_8 : decode jdk_43_method_2_code 8 = .ok (.baload, 1) := by decide +kernel
theorem d42_9 : decode jdk_43_method_2_code 9 = .ok (.sipush 255, 3) := by decide +kernel
theorem d42_12 : decode jdk_43_method_2_code 12 = .ok (.iand, 1) := by decide +kernel
theorem d42_13 : decode jdk_43_method_2_code 13 = .ok (.i2c, 1) := by decide +kernel
theorem d42_14 : decode jdk_43_method_2_code 14 = .ok (.ireturn, 1) := by decide +kernel
theorem oef_ofl_lc (m_ : MethodId) (u : Addr) (y0_ : Int32)  : (entryFrame m_ #[(.ref u), (.int y0_)] 2).locals = #[.val (.ref u), .val (.int y0_)] := by first | (simp [entryFrame, argsToLocals, Value.category]; done) | rfl
set_option maxRecDepth 65536 in
set_option maxHeartbeats 40000000 in
theorem ofl_lc (l : Launch) (Z : State) (a0 : Array Value) (hw : ∀ d ∈ tables_1, d.before a0 Z = true) (hE : EW Z a0 consts_1) (u : Addr) (ku : ClassId) (n : Nat) (us : List Value) (k : Nat) (c : Nat) (fm : Value) (h : Heap) (hO : Old Z Z.heap.size h) (q0 : Arv Z h u ku .byte (Int32.ofNat n) us (.int 0)) (SF : (Sta Z Z.heap "jdk/internal/util/Preconditions" "SIOOBE_FORMATTER" "Ljava/util/function/BiFunction;" fm)) (rf : (fm.isRef = true)) (hk : (k < n)) (hn4 : (n ≤ 4000)) (hc : (c ≤ 127)) (e1 : (us.getD k (.int 0) = .int (Int32.ofNat c)))  :
    Ct l Z consts_1 (⟨"java/lang/StringLatin1", "charAt", "([BI)C"⟩ : MethodName) jdk_43_method_2_code 2 (Option.some Jvm.ClassFile.FieldType.char) ⟨2, 0, 0, 32⟩ #[(.ref u), (.int (Int32.ofNat k))] h [] (fun rv' hp' so' => rv' = some (.int (Int32.ofNat c)) ∧ so' = []) := by
  refine Ct.mk "java/lang/StringLatin1" "charAt" rfl rfl (a0 := a0) (plainFor_of_name opn12) hO hE (fun x q => nomatch q) ?_
  intro K T W
  rw [oef_ofl_lc]
  refine gIloadN W d42_0 rfl rfl ?_
  refine gAloadN W d42_1 rfl rfl rfl ?_
  refine wLen W d42_2 q0 rfl ?_
  refine wStatic (y := (⟨"java/lang/String", "checkIndex", "(II)V"⟩ : MethodName)) (Wd := 0) (argsL := [(.int (Int32.ofNat k)), (.int (Int32.ofNat n))]) (rest := []) W d42_3 (ow236 hw) (ow237 hw) (ow78 hw) (ow238 hw) (by decide) (Cb.ct (ofl_ck l Z a0 hw hE (k) (n) (fm) h W.old hk (by omega) SF rf ) (ow238 hw) (ow78 hw) hE (by decide) (by decide)) (by simp) rfl (lenOf opd14 rfl) rfl (Nat.le_of_eq rfl) (by decide) (by decide) rfl fun v1528 so1529 T1524 h1526 W1525 kp1527 sp1530 q1531 => ?_
  obtain ⟨rfl, rfl⟩ := q1531
  show Go K _ T1524 6 #[.val (.ref u), .val (.int (Int32.ofNat k))] []
  refine gAloadN W1525 d42_6 rfl rfl rfl ?_
  refine gIloadN W1525 d42_7 rfl rfl ?_
  have f1532 := q0.keep kp1527 nin0
  refine wLdB (v := (.int (Int32.ofNat c))) W1525 d42_8 f1532 (ofNat_inb hk (by omega)) (by rw [ofNat_clamp (by omega)]; exact e1) rfl ?_
  refine gSipush (z := (255 : Int32)) W1525 d42_9 rfl rfl ?_
  refine gIand (z := (Int32.ofNat c)) W1525 d42_12 (b8_of hc).mask rfl ?_
  refine gI2C (z := (Int32.ofNat c)) W1525 d42_13 (b8_of hc).i2c' rfl ?_
  exact wRetI (so := []) (t := .char) W1525 d42_14 (by simp) (by show Value.int (nar .char (Int32.ofNat c)) = _; rw [(b8_of hc).nar]) (by decide) (by decide) (fun _ q => nomatch q) ⟨rfl, rfl⟩
theorem d40_0 : decode jdk_42_method_56_code 0 = .ok (.aload_n 0, 1) := by decide +kernel
theorem d40_1 : decode jdk_42_method_56_code 1 = .ok (.invokevirtual 492, 3) := by decide +kernel
theorem ow231 {a0 : Array Value} {Z : State} (hw : ∀ d ∈ tables_1, d.before a0 Z = true) : (Jvm.Cond.code ({ cls := "java/lang/String", name := "isLatin1", desc := "()Z" } : Jvm.MethodName) jdk_42_method_154_code (1 : Nat) (Option.some Jvm.ClassFile.FieldType.boolean)).before a0 Z = true := hw _ (List.mem_of_getElem? (i := 231) rfl)
theorem ow227 {a0 : Array Value} {Z : State} (hw : ∀ d ∈ tables_1, d.before a0 Z = true) : (Jvm.Cond.methodLink "java/lang/String" (492 : Nat) ({ cls := "java/lang/String", name := "isLatin1", desc := "()Z" } : Jvm.MethodName)).before a0 Z = true := hw _ (List.mem_of_getElem? (i := 227) rfl)
theorem ow228 {a0 : Array Value} {Z : State} (hw : ∀ d ∈ tables_1, d.before a0 Z = true) : (Jvm.Cond.declares ({ cls := "java/lang/String", name := "isLatin1", desc := "()Z" } : Jvm.MethodName)).before a0 Z = true := hw _ (List.mem_of_getElem? (i := 228) rfl)
theorem ow230 {a0 : Array Value} {Z : State} (hw : ∀ d ∈ tables_1, d.before a0 Z = true) : (Jvm.Cond.selects "java/lang/String" ({ cls := "java/lang/String", name := "isLatin1", desc := "()Z" } : Jvm.MethodName) ({ cls := "java/lang/String", name := "isLatin1", desc := "()Z" } : Jvm.MethodName)).before a0 Z = true := hw _ (List.mem_of_getElem? (i := 230) rfl)
theorem ow229 {a0 : Array Value} {Z : State} (hw : ∀ d ∈ tables_1, d.before a0 Z = true) : (Jvm.Cond.instanceMethod ({ cls := "java/lang/String", name := "isLatin1", desc := "()Z" } : Jvm.MethodName)).before a0 Z = true := hw _ (List.mem_of_getElem? (i := 229) rfl)
theorem d40_4 : decode jdk_42_method_56_code 4 = .ok (.ifCond .eq 12, 3) := by decide +kernel
theorem d40_7 : decode jdk_42_method_56_code 7 = .ok (.aload_n 0, 1) := by decide +kernel
theorem d40_8 : decode jdk_42_method_56_code 8 = .ok (.getfield 9, 3) := by decide +kernel
theorem d40_11 : decode jdk_42_method_56_code 11 = .ok (.iload_n 1, 1) := by decide +kernel
theorem d40_12 : decode jdk_42_method_56_code 12 = .ok (.invokestatic 495, 3) := by decide +kernel
theorem ow232 {a0 : Array Value} {Z : State} (hw : ∀ d ∈ tables_1, d.before a0 Z = true) : (Jvm.Cond.methodLink "java/lang/String" (495 : Nat) ({ cls := "java/lang/StringLatin1", name := "charAt", desc := "([BI)C" } : Jvm.MethodName)).before a0 Z = true := hw _ (List.mem_of_getElem? (i := 232) rfl)
theorem ow234 {a0 : Array Value} {Z : State} (hw : ∀ d ∈ tables_1, d.before a0 Z = true) : (Jvm.Cond.initialized "java/lang/StringLatin1").before a0 Z = true := hw _ (List.mem_of_getElem? (i := 234) rfl)
theorem ow235 {a0 : Array Value} {Z : State} (hw : ∀ d ∈ tables_1, d.before a0 Z = true) : (Jvm.Cond.code ({ cls := "java/lang/StringLatin1", name := "charAt", desc := "([BI)C" } : Jvm.MethodName) jdk_43_method_2_code (2 : Nat) (Option.some Jvm.ClassFile.FieldType.char)).before a0 Z = true := hw _ (List.mem_of_getElem? (i := 235) rfl)
theorem opd25 : parseMethodDescriptor "([BI)C" = some ⟨[.array .byte, .int], some (.char)⟩ := by decide +kernel
theorem ow233 {a0 : Array Value} {Z : State} (hw : ∀ d ∈ tables_1, d.before a0 Z = true) : (Jvm.Cond.static ({ cls := "java/lang/StringLatin1", name := "charAt", desc := "([BI)C" } : Jvm.MethodName)).before a0 Z = true := hw _ (List.mem_of_getElem? (i := 233) rfl)
theorem d40_15 : decode jdk_42_method_56_code 15 = .ok (.ireturn, 1) := by decide +kernel
theorem oef_ofl_ch (m_ : MethodId) (s : Addr) (y0_ : Int32)  : (entryFrame m_ #[(.ref s), (.int y0_)] 2).locals = #[.val (.ref s), .val (.int y0_)] := by first | (simp [entryFrame, argsToLocals, Value.category]; done) | rfl
set_option maxRecDepth 65536 in
set_option maxHeartbeats 40000000 in
theorem ofl_ch (l : Launch) (Z : State) (a0 : Array Value) (hw : ∀ d ∈ tables_1, d.before a0 Z = true) (hE : EW Z a0 consts_1) (s : Addr) (u : Addr) (ku : ClassId) (n : Nat) (us : List Value) (k : Nat) (c : Nat) (fm : Value) (z : Int32) (h : Heap) (hO : Old Z Z.heap.size h) (SC : (Sta Z Z.heap "java/lang/String" "COMPACT_STRINGS" "Z" (.int z))) (hz : (¬ z = 0)) (q2 : Exa Z h s "java/lang/String") (q3 : Fld Z h s "java/lang/String" "value" "[B" (.ref u)) (q4 : Fld Z h s "java/lang/String" "coder" "B" (.int (0 : Int32))) (q5 : Arv Z h u ku .byte (Int32.ofNat n) us (.int 0)) (SF : (Sta Z Z.heap "jdk/internal/util/Preconditions" "SIOOBE_FORMATTER" "Ljava/util/function/BiFunction;" fm)) (rf : (fm.isRef = true)) (hk : (k < n)) (hn4 : (n ≤ 4000)) (hc : (c ≤ 127)) (e1 : (us.getD k (.int 0) = .int (Int32.ofNat c)))  :
    Ct l Z consts_1 (⟨"java/lang/String", "charAt", "(I)C"⟩ : MethodName) jdk_42_method_56_code 2 (Option.some Jvm.ClassFile.FieldType.char) ⟨3, 0, 0, 50⟩ #[(.ref s), (.int (Int32.ofNat k))] h [] (fun rv' hp' so' => rv' = some (.int (Int32.ofNat c)) ∧ so' = []) := by
  refine Ct.mk "java/lang/String" "charAt" rfl rfl (a0 := a0) (plainFor_of_name opn2) hO hE (fun x q => nomatch q) ?_
  intro K T W
  rw [oef_ofl_ch]
  refine gAloadN W d40_0 rfl rfl rfl ?_
  refine wVirtual (y := (⟨"java/lang/String", "isLatin1", "()Z"⟩ : MethodName)) (z := (⟨"java/lang/String", "isLatin1", "()Z"⟩ : MethodName)) (Wd := 0) (a := s) (argsL := []) (rest := []) W d40_1 (ow227 hw) (ow228 hw) (ow230 hw) (ow229 hw) (nfS (ow230 hw)) (by decide) (Cb.ct (ofl_il l Z a0 hw hE (s) (z) h W.old SC hz q4 ) (ow231 hw) (ow78 hw) hE (by decide) (by decide)) q2 (by simp) rfl (lenOf opd8 rfl) rfl (Nat.le_of_eq rfl) (by decide) (by decide) rfl fun v1537 so1538 T1533 h1535 W1534 kp1536 sp1539 q1540 => ?_
  obtain ⟨rfl, rfl⟩ := q1540
  show Go K _ T1533 4 #[.val (.ref s), .val (.int (Int32.ofNat k))] [(.int (1 : Int32))]
  refine gIfNo W1534 d40_4 ((if0 _ _).trans (feq (by decide)).1) rfl ?_
  refine gAloadN W1534 d40_7 rfl rfl rfl ?_
  have f1541 := q3.keep kp1536 nin0
  refine wGetF W1534 d40_8 (ow105 hw) Via.refl f1541 rfl fun T1542 W1543 => ?_
  refine gIloadN W1543 d40_11 rfl rfl ?_
  have f1544 := q5.keep kp1536 nin0
  refine wStatic (y := (⟨"java/lang/StringLatin1", "charAt", "([BI)C"⟩ : MethodName)) (Wd := 0) (argsL := [(.ref u), (.int (Int32.ofNat k))]) (rest := []) W1543 d40_12 (ow232 hw) (ow233 hw) (ow234 hw) (ow235 hw) (by decide) (Cb.ct (ofl_lc l Z a0 hw hE (u) (ku) (n) (us) (k) (c) (fm) h1535 W1543.old f1544 SF rf hk hn4 hc e1 ) (ow235 hw) (ow234 hw) hE (by decide) (by decide)) (by simp) rfl (lenOf opd25 rfl) rfl (Nat.le_of_eq rfl) (by decide) (by decide) rfl fun v1549 so1550 T1545 h1547 W1546 kp1548 sp1551 q1552 => ?_
  obtain ⟨rfl, rfl⟩ := q1552
  show Go K _ T1545 15 #[.val (.ref s), .val (.int (Int32.ofNat k))] [(.int (Int32.ofNat c))]
  exact wRetI (so := []) (t := .char) W1546 d40_15 (by simp) (by show Value.int (nar .char (Int32.ofNat c)) = _; rw [(b8_of hc).nar]) (by decide) (by decide) (fun _ q => nomatch q) ⟨rfl, rfl⟩
theorem opn13 : plainName "com/example/hasset/hasset/model/GeneratedFleetAddressesPinLaw" = true := by first | (simp [plainName, overriddenIn]; done) | decide +kernel
theorem d39_0 : decode method_4_code 0 = .ok (.iload_n 3, 1) := by decide +kernel
theorem d39_1 : decode method_4_code 1 = .ok (.iload_n 2, 1) := by decide +kernel
theorem d39_2 : decode method_4_code 2 = .ok (.if_icmp .ge 14, 3) := by decide +kernel
theorem d39_5 : decode method_4_code 5 = .ok (.aload_n 0, 1) := by decide +kernel
theorem d39_6 : decode method_4_code 6 = .ok (.iload_n 3, 1) := by decide +kernel
theorem d39_7 : decode method_4_code 7 = .ok (.invokevirtual 33, 3) := by decide +kernel
theorem ow226 {a0 : Array Value} {Z : State} (hw : ∀ d ∈ tables_1, d.before a0 Z = true) : (Jvm.Cond.code ({ cls := "java/lang/String", name := "charAt", desc := "(I)C" } : Jvm.MethodName) jdk_42_method_56_code (2 : Nat) (Option.some Jvm.ClassFile.FieldType.char)).before a0 Z = true := hw _ (List.mem_of_getElem? (i := 226) rfl)
theorem opd26 : parseMethodDescriptor "(I)C" = some ⟨[.int], some (.char)⟩ := by decide +kernel
theorem ow222 {a0 : Array Value} {Z : State} (hw : ∀ d ∈ tables_1, d.before a0 Z = true) : (Jvm.Cond.methodLink "com/example/hasset/hasset/model/GeneratedFleetAddressesPinLaw" (33 : Nat) ({ cls := "java/lang/String", name := "charAt", desc := "(I)C" } : Jvm.MethodName)).before a0 Z = true := hw _ (List.mem_of_getElem? (i := 222) rfl)
theorem ow223 {a0 : Array Value} {Z : State} (hw : ∀ d ∈ tables_1, d.before a0 Z = true) : (Jvm.Cond.declares ({ cls := "java/lang/String", name := "charAt", desc := "(I)C" } : Jvm.MethodName)).before a0 Z = true := hw _ (List.mem_of_getElem? (i := 223) rfl)
theorem ow225 {a0 : Array Value} {Z : State} (hw : ∀ d ∈ tables_1, d.before a0 Z = true) : (Jvm.Cond.selects "java/lang/String" ({ cls := "java/lang/String", name := "charAt", desc := "(I)C" } : Jvm.MethodName) ({ cls := "java/lang/String", name := "charAt", desc := "(I)C" } : Jvm.MethodName)).before a0 Z = true := hw _ (List.mem_of_getElem? (i := 225) rfl)
theorem ow224 {a0 : Array Value} {Z : State} (hw : ∀ d ∈ tables_1, d.before a0 Z = true) : (Jvm.Cond.instanceMethod ({ cls := "java/lang/String", name := "charAt", desc := "(I)C" } : Jvm.MethodName)).before a0 Z = true := hw _ (List.mem_of_getElem? (i := 224) rfl)
theorem d39_10 : decode method_4_code 10 = .ok (.aload_n 1, 1) := by decide +kernel
theorem d39_11 : decode method_4_code 11 = .ok (.iload_n 3, 1) := by decide +kernel
theorem d39_12 : decode method_4_code 12 = .ok (.caload, 1) := by decide +kernel
theorem d39_13 : decode method_4_code 13 = .ok (.if_icmp .ne 7, 3) := by decide +kernel
theorem d39_16 : decode method_4_code 16 = .ok (.iconst 1, 1) := by decide +kernel
theorem d39_17 : decode method_4_code 17 = .ok (.goto 4, 3) := by decide +kernel
theorem d39_21 : decode method_4_code 21 = .ok (.ireturn, 1) := by decide +kernel
theorem oef_ofl_at (m_ : MethodId) (s : Addr) (a : Addr) (y0_ : Int32) (y1_ : Int32)  : (entryFrame m_ #[(.ref s), (.ref a), (.int y0_), (.int y1_)] 4).locals = #[.val (.ref s), .val (.ref a), .val (.int y0_), .val (.int y1_)] := by first | (simp [entryFrame, argsToLocals, Value.category]; done) | rfl
set_option maxRecDepth 65536 in
set_option maxHeartbeats 40000000 in
theorem ofl_at (l : Launch) (Z : State) (a0 : Array Value) (hw : ∀ d ∈ tables_1, d.before a0 Z = true) (hE : EW Z a0 consts_1) (s : Addr) (u : Addr) (ku : ClassId) (n : Nat) (us : List Value) (a : Addr) (ka : ClassId) (cs : List Value) (k : Nat) (fm : Value) (z : Int32) (h : Heap) (hO : Old Z Z.heap.size h) (SC : (Sta Z Z.heap "java/lang/String" "COMPACT_STRINGS" "Z" (.int z))) (hz : (¬ z = 0)) (SF : (Sta Z Z.heap "jdk/internal/util/Preconditions" "SIOOBE_FORMATTER" "Ljava/util/function/BiFunction;" fm)) (rf : (fm.isRef = true)) (q4 : Exa Z h s "java/lang/String") (q5 : Fld Z h s "java/lang/String" "value" "[B" (.ref u)) (q6 : Fld Z h s "java/lang/String" "coder" "B" (.int (0 : Int32))) (q7 : Arv Z h u ku .byte (Int32.ofNat n) us (.int 0)) (q8 : Arv Z h a ka .char (19 : Int32) cs (.int 0)) (hk : (k < 19)) (hn19 : (n ≤ 19)) (hn : (us.length = n)) (hcs : (cs.take n = us)) (hus : (∀ x ∈ us, Ch x))  :
    Ct l Z consts_1 (⟨"com/example/hasset/hasset/model/GeneratedFleetAddressesPinLaw", "at", "(Ljava/lang/String;[CII)Z"⟩ : MethodName) method_4_code 4 (Option.some Jvm.ClassFile.FieldType.boolean) ⟨4, 0, 0, 64⟩ #[(.ref s), (.ref a), (.int (Int32.ofNat n)), (.int (Int32.ofNat k))] h [] (fun rv' hp' so' => rv' = some (.int (1 : Int32)) ∧ so' = []) := by
  refine Ct.mk "com/example/hasset/hasset/model/GeneratedFleetAddressesPinLaw" "at" rfl rfl (a0 := a0) (plainFor_of_name opn13) hO hE (fun x q => nomatch q) ?_
  intro K T W
  rw [oef_ofl_at]
  refine gIloadN W d39_0 rfl rfl ?_
  refine gIloadN W d39_1 rfl rfl ?_
  by_cases hkn : k < n
  · refine gIcmpNo W d39_2 (tlt ((ofNat_lt (by omega) (by omega)).mpr hkn)).2.1 rfl ?_
    obtain ⟨c, hc, e1, e2⟩ := atc hn hcs hus hkn
    refine gAloadN W d39_5 rfl rfl rfl ?_
    refine gIloadN W d39_6 rfl rfl ?_
    refine wVirtual (y := (⟨"java/lang/String", "charAt", "(I)C"⟩ : MethodName)) (z := (⟨"java/lang/String", "charAt", "(I)C"⟩ : MethodName)) (Wd := 0) (a := s) (argsL := [(.int (Int32.ofNat k))]) (rest := []) W d39_7 (ow222 hw) (ow223 hw) (ow225 hw) (ow224 hw) (nfS (ow225 hw)) (by decide) (Cb.ct (ofl_ch l Z a0 hw hE (s) (u) (ku) (n) (us) (k) (c) (fm) (z) h W.old SC hz q4 q5 q6 q7 SF rf hkn (by omega) hc e1 ) (ow226 hw) (ow78 hw) hE (by decide) (by decide)) q4 (by simp) rfl (lenOf opd26 rfl) rfl (Nat.le_of_eq rfl) (by decide) (by decide) rfl fun v1557 so1558 T1553 h1555 W1554 kp1556 sp1559 q1560 => ?_
    obtain ⟨rfl, rfl⟩ := q1560
    show Go K _ T1553 10 #[.val (.ref s), .val (.ref a), .val (.int (Int32.ofNat n)), .val (.int (Int32.ofNat k))] [(.int (Int32.ofNat c))]
    refine gAloadN W1554 d39_10 rfl rfl rfl ?_
    refine gIloadN W1554 d39_11 rfl rfl ?_
    have f1561 := q8.keep kp1556 nin0
    refine wLdC (v := (.int (Int32.ofNat c))) W1554 d39_12 f1561 (ofNat_inb (n := 19) hk (by decide)) (by rw [ofNat_clamp (by omega)]; exact e2) rfl ?_
    refine gIcmpNo W1554 d39_13 (teq rfl).2 rfl ?_
    refine gIconst (z := (1 : Int32)) W1554 d39_16 rfl rfl ?_
    refine gGoto (pc' := 21) W1554 d39_17 (by decide) rfl ?_
    exact wRetI (so := []) (t := .boolean) W1554 d39_21 (by simp) rfl (by decide) (by decide) (fun _ q => nomatch q) ⟨rfl, rfl⟩
  · refine gIcmpYes (pc' := 16) W d39_2 (flt (fun q => hkn ((ofNat_lt (by omega) (by omega)).mp q))).2.1 (by decide) rfl ?_
    refine gIconst (z := (1 : Int32)) W d39_16 rfl rfl ?_
    refine gGoto (pc' := 21) W d39_17 (by decide) rfl ?_
    exact wRetI (so := []) (t := .boolean) W d39_21 (by simp) rfl (by decide) (by decide) (fun _ q => nomatch q) ⟨rfl, rfl⟩
theorem d38_0 : decode method_3_code 0 = .ok (.iload_n 2, 1) := by decide +kernel
theorem d38_1 : decode method_3_code 1 = .ok (.bipush 100, 2) := by decide +kernel
theorem d38_3 : decode method_3_code 3 = .ok (.if_icmp .lt 47, 3) := by decide +kernel
theorem d38_6 : decode method_3_code 6 = .ok (.aload_n 0, 1) := by decide +kernel
theorem d38_7 : decode method_3_code 7 = .ok (.iload_n 1, 1) := by decide +kernel
theorem d38_8 : decode method_3_code 8 = .ok (.bipush 48, 2) := by decide +kernel
theorem d38_10 : decode method_3_code 10 = .ok (.iload_n 2, 1) := by decide +kernel
theorem d38_11 : decode method_3_code 11 = .ok (.bipush 100, 2) := by decide +kernel
theorem d38_13 : decode method_3_code 13 = .ok (.idiv, 1) := by decide +kernel
theorem d38_14 : decode method_3_code 14 = .ok (.iadd, 1) := by decide +kernel
theorem d38_15 : decode method_3_code 15 = .ok (.i2c, 1) := by decide +kernel
theorem d38_16 : decode method_3_code 16 = .ok (.castore, 1) := by decide +kernel
theorem d38_17 : decode method_3_code 17 = .ok (.aload_n 0, 1) := by decide +kernel
theorem d38_18 : decode method_3_code 18 = .ok (.iload_n 1, 1) := by decide +kernel
theorem d38_19 : decode method_3_code 19 = .ok (.iconst 1, 1) := by decide +kernel
theorem d38_20 : decode method_3_code 20 = .ok (.iadd, 1) := by decide +kernel
theorem d38_21 : decode method_3_code 21 = .ok (.bipush 48, 2) := by decide +kernel
theorem d38_23 : decode method_3_code 23 = .ok (.iload_n 2, 1) := by decide +kernel
theorem d38_24 : decode method_3_code 24 = .ok (.bipush 10, 2) := by decide +kernel
theorem d38_26 : decode method_3_code 26 = .ok (.idiv, 1) := by decide +kernel
theorem d38_27 : decode method_3_code 27 = .ok (.bipush 10, 2) := by decide +kernel
theorem d38_29 : decode method_3_code 29 = .ok (.irem, 1) := by decide +kernel
theorem d38_30 : decode method_3_code 30 = .ok (.iadd, 1) := by decide +kernel
theorem d38_31 : decode method_3_code 31 = .ok (.i2c, 1) := by decide +kernel
theorem d38_32 : decode method_3_code 32 = .ok (.castore, 1) := by decide +kernel
theorem d38_33 : decode method_3_code 33 = .ok (.aload_n 0, 1) := by decide +kernel
theorem d38_34 : decode method_3_code 34 = .ok (.iload_n 1, 1) := by decide +kernel
theorem d38_35 : decode method_3_code 35 = .ok (.iconst 2, 1) := by decide +kernel
theorem d38_36 : decode method_3_code 36 = .ok (.iadd, 1) := by decide +kernel
theorem d38_37 : decode method_3_code 37 = .ok (.bipush 48, 2) := by decide +kernel
theorem d38_39 : decode method_3_code 39 = .ok (.iload_n 2, 1) := by decide +kernel
theorem d38_40 : decode method_3_code 40 = .ok (.bipush 10, 2) := by decide +kernel
theorem d38_42 : decode method_3_code 42 = .ok (.irem, 1) := by decide +kernel
theorem d38_43 : decode method_3_code 43 = .ok (.iadd, 1) := by decide +kernel
theorem d38_44 : decode method_3_code 44 = .ok (.i2c, 1) := by decide +kernel
theorem d38_45 : decode method_3_code 45 = .ok (.castore, 1) := by decide +kernel
theorem d38_46 : decode method_3_code 46 = .ok (.iload_n 1, 1) := by decide +kernel
theorem d38_47 : decode method_3_code 47 = .ok (.iconst 3, 1) := by decide +kernel
theorem d38_48 : decode method_3_code 48 = .ok (.iadd, 1) := by decide +kernel
theorem d38_49 : decode method_3_code 49 = .ok (.ireturn, 1) := by decide +kernel
theorem d38_50 : decode method_3_code 50 = .ok (.iload_n 2, 1) := by decide +kernel
theorem d38_51 : decode method_3_code 51 = .ok (.bipush 10, 2) := by decide +kernel
theorem d38_53 : decode method_3_code 53 = .ok (.if_icmp .lt 31, 3) := by decide +kernel
theorem d38_84 : decode method_3_code 84 = .ok (.aload_n 0, 1) := by decide +kernel
theorem d38_85 : decode method_3_code 85 = .ok (.iload_n 1, 1) := by decide +kernel
theorem d38_86 : decode method_3_code 86 = .ok (.bipush 48, 2) := by decide +kernel
theorem d38_88 : decode method_3_code 88 = .ok (.iload_n 2, 1) := by decide +kernel
theorem d38_89 : decode method_3_code 89 = .ok (.iadd, 1) := by decide +kernel
theorem d38_90 : decode method_3_code 90 = .ok (.i2c, 1) := by decide +kernel
theorem d38_91 : decode method_3_code 91 = .ok (.castore, 1) := by decide +kernel
theorem d38_92 : decode method_3_code 92 = .ok (.iload_n 1, 1) := by decide +kernel
theorem d38_93 : decode method_3_code 93 = .ok (.iconst 1, 1) := by decide +kernel
theorem d38_94 : decode method_3_code 94 = .ok (.iadd, 1) := by decide +kernel
theorem d38_95 : decode method_3_code 95 = .ok (.ireturn, 1) := by decide +kernel
theorem d38_56 : decode method_3_code 56 = .ok (.aload_n 0, 1) := by decide +kernel
theorem d38_57 : decode method_3_code 57 = .ok (.iload_n 1, 1) := by decide +kernel
theorem d38_58 : decode method_3_code 58 = .ok (.bipush 48, 2) := by decide +kernel
theorem d38_60 : decode method_3_code 60 = .ok (.iload_n 2, 1) := by decide +kernel
theorem d38_61 : decode method_3_code 61 = .ok (.bipush 10, 2) := by decide +kernel
theorem d38_63 : decode method_3_code 63 = .ok (.idiv, 1) := by decide +kernel
theorem d38_64 : decode method_3_code 64 = .ok (.iadd, 1) := by decide +kernel
theorem d38_65 : decode method_3_code 65 = .ok (.i2c, 1) := by decide +kernel
theorem d38_66 : decode method_3_code 66 = .ok (.castore, 1) := by decide +kernel
theorem d38_67 : decode method_3_code 67 = .ok (.aload_n 0, 1) := by decide +kernel
theorem d38_68 : decode method_3_code 68 = .ok (.iload_n 1, 1) := by decide +kernel
theorem d38_69 : decode method_3_code 69 = .ok (.iconst 1, 1) := by decide +kernel
theorem d38_70 : decode method_3_code 70 = .ok (.iadd, 1) := by decide +kernel
theorem d38_71 : decode method_3_code 71 = .ok (.bipush 48, 2) := by decide +kernel
theorem d38_73 : decode method_3_code 73 = .ok (.iload_n 2, 1) := by decide +kernel
theorem d38_74 : decode method_3_code 74 = .ok (.bipush 10, 2) := by decide +kernel
theorem d38_76 : decode method_3_code 76 = .ok (.irem, 1) := by decide +kernel
theorem d38_77 : decode method_3_code 77 = .ok (.iadd, 1) := by decide +kernel
theorem d38_78 : decode method_3_code 78 = .ok (.i2c, 1) := by decide +kernel
theorem d38_79 : decode method_3_code 79 = .ok (.castore, 1) := by decide +kernel
theorem d38_80 : decode method_3_code 80 = .ok (.iload_n 1, 1) := by decide +kernel
theorem d38_81 : decode method_3_code 81 = .ok (.iconst 2, 1) := by decide +kernel
theorem d38_82 : decode method_3_code 82 = .ok (.iadd, 1) := by decide +kernel
theorem d38_83 : decode method_3_code 83 = .ok (.ireturn, 1) := by decide +kernel
theorem oef_ofl_pu (m_ : MethodId) (a : Addr) (y0_ : Int32) (y1_ : Int32)  : (entryFrame m_ #[(.ref a), (.int y0_), (.int y1_)] 3).locals = #[.val (.ref a), .val (.int y0_), .val (.int y1_)] := by first | (simp [entryFrame, argsToLocals, Value.category]; done) | rfl
set_option maxRecDepth 65536 in
set_option maxHeartbeats 40000000 in
theorem ofl_pu (l : Launch) (Z : State) (a0 : Array Value) (hw : ∀ d ∈ tables_1, d.before a0 Z = true) (hE : EW Z a0 consts_1) (a : Addr) (ka : ClassId) (cs : List Value) (p : Nat) (v : Nat) (h : Heap) (hO : Old Z Z.heap.size h) (q0 : Arv Z h a ka .char (19 : Int32) cs (.int 0)) (hv : (v ≤ 255)) (hp : (p + dlen v ≤ 19)) (hcs : (cs.length = 19)) (ge_a : Z.heap.size ≤ a) :
    Ct l Z consts_1 (⟨"com/example/hasset/hasset/model/GeneratedFleetAddressesPinLaw", "put", "([CII)I"⟩ : MethodName) method_3_code 3 (Option.some Jvm.ClassFile.FieldType.int) ⟨0, 0, 0, 0⟩ #[(.ref a), (.int (Int32.ofNat p)), (.int (Int32.ofNat v))] h [a] (fun rv' hp' so' => rv' = some (.int (Int32.ofNat (p + dlen v))) ∧ so' = [] ∧ Arv Z hp' a ka .char (19 : Int32) (cs.take p ++ dg v ++ cs.drop (p + dlen v)) (.int 0)) := by
  refine Ct.mk "com/example/hasset/hasset/model/GeneratedFleetAddressesPinLaw" "put" rfl rfl (a0 := a0) (plainFor_of_name opn13) hO hE (fun x q => by simp at q; subst q; exact ge_a) ?_
  intro K T W
  rw [oef_ofl_pu]
  have hd := dlen_or v
  refine gIloadN W d38_0 rfl rfl ?_
  refine gBipush (z := (100 : Int32)) W d38_1 rfl rfl ?_
  by_cases b100 : v < 100
  · refine gIcmpYes (pc' := 50) W d38_3 (tlt ((ofNat_ltc (P := 100) (by decide) (by omega)).mpr b100)).1 (by decide) rfl ?_
    refine gIloadN W d38_50 rfl rfl ?_
    refine gBipush (z := (10 : Int32)) W d38_51 rfl rfl ?_
    by_cases b10 : v < 10
    · refine gIcmpYes (pc' := 84) W d38_53 (tlt ((ofNat_ltc (P := 10) (by decide) (by omega)).mpr b10)).1 (by decide) rfl ?_
      have ek : dlen v = 1 := by omega
      refine gAloadN W d38_84 rfl rfl rfl ?_
      refine gIloadN W d38_85 rfl rfl ?_
      refine gBipush (z := (48 : Int32)) W d38_86 rfl rfl ?_
      refine gIloadN W d38_88 rfl rfl ?_
      refine gIadd (z := (Int32.ofNat (48 + v))) W d38_89 (ofNat_add (a := 48)) rfl ?_
      refine gI2C (z := (Int32.ofNat (48 + v))) W d38_90 (b8_of (c := 48 + v) (by omega)).i2c' rfl ?_
      refine wStC (y := (Int32.ofNat (48 + v))) W d38_91 (by simp) q0 (ofNat_inb (n := 19) (by omega) (by decide)) (b8_of (c := 48 + v) (by omega)).nar p (ofNat_clamp (by omega)) (by first | omega | (simp only [List.length_set]; omega)) rfl fun T1578 h1580 W1579 wr1581 A1582 => ?_
      refine gIloadN W1579 d38_92 rfl rfl ?_
      refine gIconst (z := (1 : Int32)) W1579 d38_93 rfl rfl ?_
      refine gIadd (z := (Int32.ofNat (p + dlen v))) W1579 d38_94 (by rw [ek]; exact ofNat_add (b := 1)) rfl ?_
      have f1583 : Arv Z h1580 a ka .char (19 : Int32) (cs.take p ++ dg v ++ cs.drop (p + dlen v)) (.int 0) := arvL A1582 (put1 (by omega) (by omega))
      exact wRetI (so := []) (t := .int) W1579 d38_95 (by simp) rfl (by decide) (by decide) (fun _ q => nomatch q) ⟨rfl, rfl, f1583⟩
    · refine gIcmpNo W d38_53 (flt (fun q => b10 ((ofNat_ltc (P := 10) (by decide) (by omega)).mp q))).1 rfl ?_
      have ek : dlen v = 2 := by omega
      refine gAloadN W d38_56 rfl rfl rfl ?_
      refine gIloadN W d38_57 rfl rfl ?_
      refine gBipush (z := (48 : Int32)) W d38_58 rfl rfl ?_
      refine gIloadN W d38_60 rfl rfl ?_
      refine gBipush (z := (10 : Int32)) W d38_61 rfl rfl ?_
      refine gIdiv (z := (Int32.ofNat (v / 10))) W d38_63 (by decide) (div_n (P := 10) (by decide) (by decide) (by omega)) rfl ?_
      refine gIadd (z := (Int32.ofNat (48 + v / 10))) W d38_64 (ofNat_add (a := 48)) rfl ?_
      refine gI2C (z := (Int32.ofNat (48 + v / 10))) W d38_65 (b8_of (c := 48 + v / 10) (by omega)).i2c' rfl ?_
      refine wStC (y := (Int32.ofNat (48 + v / 10))) W d38_66 (by simp) q0 (ofNat_inb (n := 19) (by omega) (by decide)) (b8_of (c := 48 + v / 10) (by omega)).nar p (ofNat_clamp (by omega)) (by first | omega | (simp only [List.length_set]; omega)) rfl fun T1584 h1586 W1585 wr1587 A1588 => ?_
      refine gAloadN W1585 d38_67 rfl rfl rfl ?_
      refine gIloadN W1585 d38_68 rfl rfl ?_
      refine gIconst (z := (1 : Int32)) W1585 d38_69 rfl rfl ?_
      refine gIadd (z := (Int32.ofNat (p + 1))) W1585 d38_70 (ofNat_add (b := 1)) rfl ?_
      refine gBipush (z := (48 : Int32)) W1585 d38_71 rfl rfl ?_
      refine gIloadN W1585 d38_73 rfl rfl ?_
      refine gBipush (z := (10 : Int32)) W1585 d38_74 rfl rfl ?_
      refine gIrem (z := (Int32.ofNat (v % 10))) W1585 d38_76 (by decide) (rem_n (P := 10) (by decide) (by omega)) rfl ?_
      refine gIadd (z := (Int32.ofNat (48 + v % 10))) W1585 d38_77 (ofNat_add (a := 48)) rfl ?_
      refine gI2C (z := (Int32.ofNat (48 + v % 10))) W1585 d38_78 (b8_of (c := 48 + v % 10) (by omega)).i2c' rfl ?_
      refine wStC (y := (Int32.ofNat (48 + v % 10))) W1585 d38_79 (by simp) A1588 (ofNat_inb (n := 19) (by omega) (by decide)) (b8_of (c := 48 + v % 10) (by omega)).nar (p + 1) (ofNat_clamp (by omega)) (by first | omega | (simp only [List.length_set]; omega)) rfl fun T1589 h1591 W1590 wr1592 A1593 => ?_
      refine gIloadN W1590 d38_80 rfl rfl ?_
      refine gIconst (z := (2 : Int32)) W1590 d38_81 rfl rfl ?_
      refine gIadd (z := (Int32.ofNat (p + dlen v))) W1590 d38_82 (by rw [ek]; exact ofNat_add (b := 2)) rfl ?_
      have f1594 : Arv Z h1591 a ka .char (19 : Int32) (cs.take p ++ dg v ++ cs.drop (p + dlen v)) (.int 0) := arvL A1593 (put2 (by omega) (by omega))
      exact wRetI (so := []) (t := .int) W1590 d38_83 (by simp) rfl (by decide) (by decide) (fun _ q => nomatch q) ⟨rfl, rfl, f1594⟩
  · refine gIcmpNo W d38_3 (flt (fun q => b100 ((ofNat_ltc (P := 100) (by decide) (by omega)).mp q))).1 rfl ?_
    have ek : dlen v = 3 := by omega
    refine gAloadN W d38_6 rfl rfl rfl ?_
    refine gIloadN W d38_7 rfl rfl ?_
    refine gBipush (z := (48 : Int32)) W d38_8 rfl rfl ?_
    refine gIloadN W d38_10 rfl rfl ?_
    refine gBipush (z := (100 : Int32)) W d38_11 rfl rfl ?_
    refine gIdiv (z := (Int32.ofNat (v / 100))) W d38_13 (by decide) (div_n (P := 100) (by decide) (by decide) (by omega)) rfl ?_
    refine gIadd (z := (Int32.ofNat (48 + v / 100))) W d38_14 (ofNat_add (a := 48)) rfl ?_
    refine gI2C (z := (Int32.ofNat (48 + v / 100))) W d38_15 (b8_of (c := 48 + v / 100) (by omega)).i2c' rfl ?_
    refine wStC (y := (Int32.ofNat (48 + v / 100))) W d38_16 (by simp) q0 (ofNat_inb (n := 19) (by omega) (by decide)) (b8_of (c := 48 + v / 100) (by omega)).nar p (ofNat_clamp (by omega)) (by first | omega | (simp only [List.length_set]; omega)) rfl fun T1562 h1564 W1563 wr1565 A1566 => ?_
    refine gAloadN W1563 d38_17 rfl rfl rfl ?_
    refine gIloadN W1563 d38_18 rfl rfl ?_
    refine gIconst (z := (1 : Int32)) W1563 d38_19 rfl rfl ?_
    refine gIadd (z := (Int32.ofNat (p + 1))) W1563 d38_20 (ofNat_add (b := 1)) rfl ?_
    refine gBipush (z := (48 : Int32)) W1563 d38_21 rfl rfl ?_
    refine gIloadN W1563 d38_23 rfl rfl ?_
    refine gBipush (z := (10 : Int32)) W1563 d38_24 rfl rfl ?_
    refine gIdiv (z := (Int32.ofNat (v / 10))) W1563 d38_26 (by decide) (div_n (P := 10) (by decide) (by decide) (by omega)) rfl ?_
    refine gBipush (z := (10 : Int32)) W1563 d38_27 rfl rfl ?_
    refine gIrem (z := (Int32.ofNat (v / 10 % 10))) W1563 d38_29 (by decide) (rem_n (P := 10) (by decide) (by omega)) rfl ?_
    refine gIadd (z := (Int32.ofNat (48 + v / 10 % 10))) W1563 d38_30 (ofNat_add (a := 48)) rfl ?_
    refine gI2C (z := (Int32.ofNat (48 + v / 10 % 10))) W1563 d38_31 (b8_of (c := 48 + v / 10 % 10) (by omega)).i2c' rfl ?_
    refine wStC (y := (Int32.ofNat (48 + v / 10 % 10))) W1563 d38_32 (by simp) A1566 (ofNat_inb (n := 19) (by omega) (by decide)) (b8_of (c := 48 + v / 10 % 10) (by omega)).nar (p + 1) (ofNat_clamp (by omega)) (by first | omega | (simp only [List.length_set]; omega)) rfl fun T1567 h1569 W1568 wr1570 A1571 => ?_
    refine gAloadN W1568 d38_33 rfl rfl rfl ?_
    refine gIloadN W1568 d38_34 rfl rfl ?_
    refine gIconst (z := (2 : Int32)) W1568 d38_35 rfl rfl ?_
    refine gIadd (z := (Int32.ofNat (p + 2))) W1568 d38_36 (ofNat_add (b := 2)) rfl ?_
    refine gBipush (z := (48 : Int32)) W1568 d38_37 rfl rfl ?_
    refine gIloadN W1568 d38_39 rfl rfl ?_
    refine gBipush (z := (10 : Int32)) W1568 d38_40 rfl rfl ?_
    refine gIrem (z := (Int32.ofNat (v % 10))) W1568 d38_42 (by decide) (rem_n (P := 10) (by decide) (by omega)) rfl ?_
    refine gIadd (z := (Int32.ofNat (48 + v % 10))) W1568 d38_43 (ofNat_add (a := 48)) rfl ?_
    refine gI2C (z := (Int32.ofNat (48 + v % 10))) W1568 d38_44 (b8_of (c := 48 + v % 10) (by omega)).i2c' rfl ?_
    refine wStC (y := (Int32.ofNat (48 + v % 10))) W1568 d38_45 (by simp) A1571 (ofNat_inb (n := 19) (by omega) (by decide)) (b8_of (c := 48 + v % 10) (by omega)).nar (p + 2) (ofNat_clamp (by omega)) (by first | omega | (simp only [List.length_set]; omega)) rfl fun T1572 h1574 W1573 wr1575 A1576 => ?_
    refine gIloadN W1573 d38_46 rfl rfl ?_
    refine gIconst (z := (3 : Int32)) W1573 d38_47 rfl rfl ?_
    refine gIadd (z := (Int32.ofNat (p + dlen v))) W1573 d38_48 (by rw [ek]; exact ofNat_add (b := 3)) rfl ?_
    have f1577 : Arv Z h1574 a ka .char (19 : Int32) (cs.take p ++ dg v ++ cs.drop (p + dlen v)) (.int 0) := arvL A1576 (put3 (by omega) (by omega))
    exact wRetI (so := []) (t := .int) W1573 d38_49 (by simp) rfl (by decide) (by decide) (fun _ q => nomatch q) ⟨rfl, rfl, f1577⟩
-- CUT
theorem d37_0 : decode method_5_code 0 = .ok (.iload_n 1, 1) := by decide +kernel
theorem d37_1 : decode method_5_code 1 = .ok (.iconst 1, 1) := by decide +kernel
theorem d37_2 : decode method_5_code 2 = .ok (.iadd, 1) := by decide +kernel
theorem d37_3 : decode method_5_code 3 = .ok (.istore_n 2, 1) := by decide +kernel
theorem d37_4 : decode method_5_code 4 = .ok (.iload_n 2, 1) := by decide +kernel
theorem d37_5 : decode method_5_code 5 = .ok (.ldc 37, 2) := by decide +kernel
theorem ow213 {a0 : Array Value} {Z : State} (hw : ∀ d ∈ tables_1, d.before a0 Z = true) : (Jvm.Cond.constant "com/example/hasset/hasset/model/GeneratedFleetAddressesPinLaw" (37 : Nat) (65536 : Int32)).before a0 Z = true := hw _ (List.mem_of_getElem? (i := 213) rfl)
theorem d37_7 : decode method_5_code 7 = .ok (.idiv, 1) := by decide +kernel
theorem d37_8 : decode method_5_code 8 = .ok (.istore_n 3, 1) := by decide +kernel
theorem d37_9 : decode method_5_code 9 = .ok (.iload_n 2, 1) := by decide +kernel
theorem d37_10 : decode method_5_code 10 = .ok (.sipush 256, 3) := by decide +kernel
theorem d37_13 : decode method_5_code 13 = .ok (.idiv, 1) := by decide +kernel
theorem d37_14 : decode method_5_code 14 = .ok (.sipush 256, 3) := by decide +kernel
theorem d37_17 : decode method_5_code 17 = .ok (.irem, 1) := by decide +kernel
theorem d37_18 : decode method_5_code 18 = .ok (.istore 4, 2) := by decide +kernel
theorem d37_20 : decode method_5_code 20 = .ok (.iload_n 2, 1) := by decide +kernel
theorem d37_21 : decode method_5_code 21 = .ok (.sipush 256, 3) := by decide +kernel
theorem d37_24 : decode method_5_code 24 = .ok (.irem, 1) := by decide +kernel
theorem d37_25 : decode method_5_code 25 = .ok (.istore 5, 2) := by decide +kernel
theorem d37_27 : decode method_5_code 27 = .ok (.bipush 19, 2) := by decide +kernel
theorem d37_29 : decode method_5_code 29 = .ok (.newarray .char, 2) := by decide +kernel
theorem ow214 {a0 : Array Value} {Z : State} (hw : ∀ d ∈ tables_1, d.before a0 Z = true) : (Jvm.Cond.arrayClass Jvm.ClassFile.FieldType.char).before a0 Z = true := hw _ (List.mem_of_getElem? (i := 214) rfl)
theorem d37_31 : decode method_5_code 31 = .ok (.astore 6, 2) := by decide +kernel
theorem d37_33 : decode method_5_code 33 = .ok (.aload 6, 2) := by decide +kernel
theorem d37_35 : decode method_5_code 35 = .ok (.iconst 0, 1) := by decide +kernel
theorem d37_36 : decode method_5_code 36 = .ok (.bipush 49, 2) := by decide +kernel
theorem d37_38 : decode method_5_code 38 = .ok (.castore, 1) := by decide +kernel
theorem d37_39 : decode method_5_code 39 = .ok (.aload 6, 2) := by decide +kernel
theorem d37_41 : decode method_5_code 41 = .ok (.iconst 1, 1) := by decide +kernel
theorem d37_42 : decode method_5_code 42 = .ok (.bipush 48, 2) := by decide +kernel
theorem d37_44 : decode method_5_code 44 = .ok (.castore, 1) := by decide +kernel
theorem d37_45 : decode method_5_code 45 = .ok (.aload 6, 2) := by decide +kernel
theorem d37_47 : decode method_5_code 47 = .ok (.iconst 2, 1) := by decide +kernel
theorem d37_48 : decode method_5_code 48 = .ok (.bipush 46, 2) := by decide +kernel
theorem d37_50 : decode method_5_code 50 = .ok (.castore, 1) := by decide +kernel
theorem d37_51 : decode method_5_code 51 = .ok (.aload 6, 2) := by decide +kernel
theorem d37_53 : decode method_5_code 53 = .ok (.iconst 3, 1) := by decide +kernel
theorem d37_54 : decode method_5_code 54 = .ok (.iload_n 3, 1) := by decide +kernel
theorem d37_55 : decode method_5_code 55 = .ok (.invokestatic 38, 3) := by decide +kernel
theorem ow215 {a0 : Array Value} {Z : State} (hw : ∀ d ∈ tables_1, d.before a0 Z = true) : (Jvm.Cond.methodLink "com/example/hasset/hasset/model/GeneratedFleetAddressesPinLaw" (38 : Nat) ({ cls := "com/example/hasset/hasset/model/GeneratedFleetAddressesPinLaw", name := "put", desc := "([CII)I" } : Jvm.MethodName)).before a0 Z = true := hw _ (List.mem_of_getElem? (i := 215) rfl)
theorem ow211 {a0 : Array Value} {Z : State} (hw : ∀ d ∈ tables_1, d.before a0 Z = true) : (Jvm.Cond.initialized "com/example/hasset/hasset/model/GeneratedFleetAddressesPinLaw").before a0 Z = true := hw _ (List.mem_of_getElem? (i := 211) rfl)
theorem ow217 {a0 : Array Value} {Z : State} (hw : ∀ d ∈ tables_1, d.before a0 Z = true) : (Jvm.Cond.code ({ cls := "com/example/hasset/hasset/model/GeneratedFleetAddressesPinLaw", name := "put", desc := "([CII)I" } : Jvm.MethodName) method_3_code (3 : Nat) (Option.some Jvm.ClassFile.FieldType.int)).before a0 Z = true := hw _ (List.mem_of_getElem? (i := 217) rfl)
theorem opd27 : parseMethodDescriptor "([CII)I" = some ⟨[.array .char, .int, .int], some (.int)⟩ := by decide +kernel
theorem ow216 {a0 : Array Value} {Z : State} (hw : ∀ d ∈ tables_1, d.before a0 Z = true) : (Jvm.Cond.static ({ cls := "com/example/hasset/hasset/model/GeneratedFleetAddressesPinLaw", name := "put", desc := "([CII)I" } : Jvm.MethodName)).before a0 Z = true := hw _ (List.mem_of_getElem? (i := 216) rfl)
theorem d37_58 : decode method_5_code 58 = .ok (.istore 7, 2) := by decide +kernel
theorem d37_60 : decode method_5_code 60 = .ok (.aload 6, 2) := by decide +kernel
theorem d37_62 : decode method_5_code 62 = .ok (.iload 7, 2) := by decide +kernel
theorem d37_64 : decode method_5_code 64 = .ok (.bipush 46, 2) := by decide +kernel
theorem d37_66 : decode method_5_code 66 = .ok (.castore, 1) := by decide +kernel
theorem d37_67 : decode method_5_code 67 = .ok (.aload 6, 2) := by decide +kernel
theorem d37_69 : decode method_5_code 69 = .ok (.iload 7, 2) := by decide +kernel
theorem d37_71 : decode method_5_code 71 = .ok (.iconst 1, 1) := by decide +kernel
theorem d37_72 : decode method_5_code 72 = .ok (.iadd, 1) := by decide +kernel
theorem d37_73 : decode method_5_code 73 = .ok (.iload 4, 2) := by decide +kernel
theorem d37_75 : decode method_5_code 75 = .ok (.invokestatic 38, 3) := by decide +kernel
theorem d37_78 : decode method_5_code 78 = .ok (.istore 7, 2) := by decide +kernel
theorem d37_80 : decode method_5_code 80 = .ok (.aload 6, 2) := by decide +kernel
theorem d37_82 : decode method_5_code 82 = .ok (.iload 7, 2) := by decide +kernel
theorem d37_84 : decode method_5_code 84 = .ok (.bipush 46, 2) := by decide +kernel
theorem d37_86 : decode method_5_code 86 = .ok (.castore, 1) := by decide +kernel
theorem d37_87 : decode method_5_code 87 = .ok (.aload 6, 2) := by decide +kernel
theorem d37_89 : decode method_5_code 89 = .ok (.iload 7, 2) := by decide +kernel
theorem d37_91 : decode method_5_code 91 = .ok (.iconst 1, 1) := by decide +kernel
theorem d37_92 : decode method_5_code 92 = .ok (.iadd, 1) := by decide +kernel
theorem d37_93 : decode method_5_code 93 = .ok (.iload 5, 2) := by decide +kernel
theorem d37_95 : decode method_5_code 95 = .ok (.invokestatic 38, 3) := by decide +kernel
theorem d37_98 : decode method_5_code 98 = .ok (.istore 7, 2) := by decide +kernel
theorem d37_100 : decode method_5_code 100 = .ok (.aload 6, 2) := by decide +kernel
theorem d37_102 : decode method_5_code 102 = .ok (.iload 7, 2) := by decide +kernel
theorem d37_104 : decode method_5_code 104 = .ok (.bipush 58, 2) := by decide +kernel
theorem d37_106 : decode method_5_code 106 = .ok (.castore, 1) := by decide +kernel
theorem d37_107 : decode method_5_code 107 = .ok (.aload 6, 2) := by decide +kernel
theorem d37_109 : decode method_5_code 109 = .ok (.iload 7, 2) := by decide +kernel
theorem d37_111 : decode method_5_code 111 = .ok (.iconst 1, 1) := by decide +kernel
theorem d37_112 : decode method_5_code 112 = .ok (.iadd, 1) := by decide +kernel
theorem d37_113 : decode method_5_code 113 = .ok (.bipush 56, 2) := by decide +kernel
theorem d37_115 : decode method_5_code 115 = .ok (.castore, 1) := by decide +kernel
theorem d37_116 : decode method_5_code 116 = .ok (.aload 6, 2) := by decide +kernel
theorem d37_118 : decode method_5_code 118 = .ok (.iload 7, 2) := by decide +kernel
theorem d37_120 : decode method_5_code 120 = .ok (.iconst 2, 1) := by decide +kernel
theorem d37_121 : decode method_5_code 121 = .ok (.iadd, 1) := by decide +kernel
theorem d37_122 : decode method_5_code 122 = .ok (.bipush 48, 2) := by decide +kernel
theorem d37_124 : decode method_5_code 124 = .ok (.castore, 1) := by decide +kernel
theorem d37_125 : decode method_5_code 125 = .ok (.aload 6, 2) := by decide +kernel
theorem d37_127 : decode method_5_code 127 = .ok (.iload 7, 2) := by decide +kernel
theorem d37_129 : decode method_5_code 129 = .ok (.iconst 3, 1) := by decide +kernel
theorem d37_130 : decode method_5_code 130 = .ok (.iadd, 1) := by decide +kernel
theorem d37_131 : decode method_5_code 131 = .ok (.bipush 56, 2) := by decide +kernel
theorem d37_133 : decode method_5_code 133 = .ok (.castore, 1) := by decide +kernel
theorem d37_134 : decode method_5_code 134 = .ok (.aload 6, 2) := by decide +kernel
theorem d37_136 : decode method_5_code 136 = .ok (.iload 7, 2) := by decide +kernel
theorem d37_138 : decode method_5_code 138 = .ok (.iconst 4, 1) := by decide +kernel
theorem d37_139 : decode method_5_code 139 = .ok (.iadd, 1) := by decide +kernel
theorem d37_140 : decode method_5_code 140 = .ok (.bipush 48, 2) := by decide +kernel
theorem d37_142 : decode method_5_code 142 = .ok (.castore, 1) := by decide +kernel
theorem d37_143 : decode method_5_code 143 = .ok (.iload 7, 2) := by decide +kernel
theorem d37_145 : decode method_5_code 145 = .ok (.iconst 5, 1) := by decide +kernel
theorem d37_146 : decode method_5_code 146 = .ok (.iadd, 1) := by decide +kernel
theorem d37_147 : decode method_5_code 147 = .ok (.istore 8, 2) := by decide +kernel
theorem d37_149 : decode method_5_code 149 = .ok (.aload_n 0, 1) := by decide +kernel
theorem d37_150 : decode method_5_code 150 = .ok (.ifnull 12, 3) := by decide +kernel
theorem d37_153 : decode method_5_code 153 = .ok (.aload_n 0, 1) := by decide +kernel
theorem d37_154 : decode method_5_code 154 = .ok (.invokevirtual 42, 3) := by decide +kernel
theorem ow218 {a0 : Array Value} {Z : State} (hw : ∀ d ∈ tables_1, d.before a0 Z = true) : (Jvm.Cond.methodLink "com/example/hasset/hasset/model/GeneratedFleetAddressesPinLaw" (42 : Nat) ({ cls := "java/lang/String", name := "length", desc := "()I" } : Jvm.MethodName)).before a0 Z = true := hw _ (List.mem_of_getElem? (i := 218) rfl)
theorem d37_157 : decode method_5_code 157 = .ok (.iload 8, 2) := by decide +kernel
theorem d37_159 : decode method_5_code 159 = .ok (.if_icmp .eq 5, 3) := by decide +kernel
theorem d37_164 : decode method_5_code 164 = .ok (.aload_n 0, 1) := by decide +kernel
theorem d37_165 : decode method_5_code 165 = .ok (.aload 6, 2) := by decide +kernel
theorem d37_167 : decode method_5_code 167 = .ok (.iload 8, 2) := by decide +kernel
theorem d37_169 : decode method_5_code 169 = .ok (.iconst 0, 1) := by decide +kernel
theorem d37_170 : decode method_5_code 170 = .ok (.invokestatic 45, 3) := by decide +kernel
theorem ow219 {a0 : Array Value} {Z : State} (hw : ∀ d ∈ tables_1, d.before a0 Z = true) : (Jvm.Cond.methodLink "com/example/hasset/hasset/model/GeneratedFleetAddressesPinLaw" (45 : Nat) ({ cls := "com/example/hasset/hasset/model/GeneratedFleetAddressesPinLaw", name := "at", desc := "(Ljava/lang/String;[CII)Z" } : Jvm.MethodName)).before a0 Z = true := hw _ (List.mem_of_getElem? (i := 219) rfl)
theorem ow221 {a0 : Array Value} {Z : State} (hw : ∀ d ∈ tables_1, d.before a0 Z = true) : (Jvm.Cond.code ({ cls := "com/example/hasset/hasset/model/GeneratedFleetAddressesPinLaw", name := "at", desc := "(Ljava/lang/String;[CII)Z" } : Jvm.MethodName) method_4_code (4 : Nat) (Option.some Jvm.ClassFile.FieldType.boolean)).before a0 Z = true := hw _ (List.mem_of_getElem? (i := 221) rfl)
theorem opd28 : parseMethodDescriptor "(Ljava/lang/String;[CII)Z" = some ⟨[.object "java/lang/String", .array .char, .int, .int], some (.boolean)⟩ := by decide +kernel
theorem ow220 {a0 : Array Value} {Z : State} (hw : ∀ d ∈ tables_1, d.before a0 Z = true) : (Jvm.Cond.static ({ cls := "com/example/hasset/hasset/model/GeneratedFleetAddressesPinLaw", name := "at", desc := "(Ljava/lang/String;[CII)Z" } : Jvm.MethodName)).before a0 Z = true := hw _ (List.mem_of_getElem? (i := 220) rfl)
theorem d37_173 : decode method_5_code 173 = .ok (.ifCond .eq 43, 3) := by decide +kernel
theorem d37_176 : decode method_5_code 176 = .ok (.aload_n 0, 1) := by decide +kernel
theorem d37_177 : decode method_5_code 177 = .ok (.aload 6, 2) := by decide +kernel
theorem d37_179 : decode method_5_code 179 = .ok (.iload 8, 2) := by decide +kernel
theorem d37_181 : decode method_5_code 181 = .ok (.iconst 1, 1) := by decide +kernel
theorem d37_182 : decode method_5_code 182 = .ok (.invokestatic 45, 3) := by decide +kernel
theorem d37_185 : decode method_5_code 185 = .ok (.ifCond .eq 31, 3) := by decide +kernel
theorem d37_188 : decode method_5_code 188 = .ok (.aload_n 0, 1) := by decide +kernel
theorem d37_189 : decode method_5_code 189 = .ok (.aload 6, 2) := by decide +kernel
theorem d37_191 : decode method_5_code 191 = .ok (.iload 8, 2) := by decide +kernel
theorem d37_193 : decode method_5_code 193 = .ok (.iconst 2, 1) := by decide +kernel
theorem d37_194 : decode method_5_code 194 = .ok (.invokestatic 45, 3) := by decide +kernel
theorem d37_197 : decode method_5_code 197 = .ok (.ifCond .eq 19, 3) := by decide +kernel
theorem d37_200 : decode method_5_code 200 = .ok (.aload_n 0, 1) := by decide +kernel
theorem d37_201 : decode method_5_code 201 = .ok (.aload 6, 2) := by decide +kernel
theorem d37_203 : decode method_5_code 203 = .ok (.iload 8, 2) := by decide +kernel
theorem d37_205 : decode method_5_code 205 = .ok (.iconst 3, 1) := by decide +kernel
theorem d37_206 : decode method_5_code 206 = .ok (.invokestatic 45, 3) := by decide +kernel
theorem d37_209 : decode method_5_code 209 = .ok (.ifCond .eq 7, 3) := by decide +kernel
theorem d37_212 : decode method_5_code 212 = .ok (.iconst 1, 1) := by decide +kernel
theorem d37_213 : decode method_5_code 213 = .ok (.goto 4, 3) := by decide +kernel
theorem d37_217 : decode method_5_code 217 = .ok (.istore 9, 2) := by decide +kernel
theorem d37_219 : decode method_5_code 219 = .ok (.iload 9, 2) := by decide +kernel
theorem d37_221 : decode method_5_code 221 = .ok (.ifCond .eq 57, 3) := by decide +kernel
theorem d37_224 : decode method_5_code 224 = .ok (.aload_n 0, 1) := by decide +kernel
theorem d37_225 : decode method_5_code 225 = .ok (.aload 6, 2) := by decide +kernel
theorem d37_227 : decode method_5_code 227 = .ok (.iload 8, 2) := by decide +kernel
theorem d37_229 : decode method_5_code 229 = .ok (.iconst 4, 1) := by decide +kernel
theorem d37_230 : decode method_5_code 230 = .ok (.invokestatic 45, 3) := by decide +kernel
theorem d37_233 : decode method_5_code 233 = .ok (.ifCond .eq 45, 3) := by decide +kernel
theorem d37_236 : decode method_5_code 236 = .ok (.aload_n 0, 1) := by decide +kernel
theorem d37_237 : decode method_5_code 237 = .ok (.aload 6, 2) := by decide +kernel
theorem d37_239 : decode method_5_code 239 = .ok (.iload 8, 2) := by decide +kernel
theorem d37_241 : decode method_5_code 241 = .ok (.iconst 5, 1) := by decide +kernel
theorem d37_242 : decode method_5_code 242 = .ok (.invokestatic 45, 3) := by decide +kernel
theorem d37_245 : decode method_5_code 245 = .ok (.ifCond .eq 33, 3) := by decide +kernel
theorem d37_248 : decode method_5_code 248 = .ok (.aload_n 0, 1) := by decide +kernel
theorem d37_249 : decode method_5_code 249 = .ok (.aload 6, 2) := by decide +kernel
theorem d37_251 : decode method_5_code 251 = .ok (.iload 8, 2) := by decide +kernel
theorem d37_253 : decode method_5_code 253 = .ok (.bipush 6, 2) := by decide +kernel
theorem d37_255 : decode method_5_code 255 = .ok (.invokestatic 45, 3) := by decide +kernel
theorem d37_258 : decode method_5_code 258 = .ok (.ifCond .eq 20, 3) := by decide +kernel
theorem d37_261 : decode method_5_code 261 = .ok (.aload_n 0, 1) := by decide +kernel
theorem d37_262 : decode method_5_code 262 = .ok (.aload 6, 2) := by decide +kernel
theorem d37_264 : decode method_5_code 264 = .ok (.iload 8, 2) := by decide +kernel
theorem d37_266 : decode method_5_code 266 = .ok (.bipush 7, 2) := by decide +kernel
theorem d37_268 : decode method_5_code 268 = .ok (.invokestatic 45, 3) := by decide +kernel
theorem d37_271 : decode method_5_code 271 = .ok (.ifCond .eq 7, 3) := by decide +kernel
theorem d37_274 : decode method_5_code 274 = .ok (.iconst 1, 1) := by decide +kernel
theorem d37_275 : decode method_5_code 275 = .ok (.goto 4, 3) := by decide +kernel
theorem d37_279 : decode method_5_code 279 = .ok (.istore 9, 2) := by decide +kernel
theorem d37_281 : decode method_5_code 281 = .ok (.iload 9, 2) := by decide +kernel
theorem d37_283 : decode method_5_code 283 = .ok (.ifCond .eq 59, 3) := by decide +kernel
theorem d37_286 : decode method_5_code 286 = .ok (.aload_n 0, 1) := by decide +kernel
theorem d37_287 : decode method_5_code 287 = .ok (.aload 6, 2) := by decide +kernel
theorem d37_289 : decode method_5_code 289 = .ok (.iload 8, 2) := by decide +kernel
theorem d37_291 : decode method_5_code 291 = .ok (.bipush 8, 2) := by decide +kernel
theorem d37_293 : decode method_5_code 293 = .ok (.invokestatic 45, 3) := by decide +kernel
theorem d37_296 : decode method_5_code 296 = .ok (.ifCond .eq 46, 3) := by decide +kernel
theorem d37_299 : decode method_5_code 299 = .ok (.aload_n 0, 1) := by decide +kernel
theorem d37_300 : decode method_5_code 300 = .ok (.aload 6, 2) := by decide +kernel
theorem d37_302 : decode method_5_code 302 = .ok (.iload 8, 2) := by decide +kernel
theorem d37_304 : decode method_5_code 304 = .ok (.bipush 9, 2) := by decide +kernel
theorem d37_306 : decode method_5_code 306 = .ok (.invokestatic 45, 3) := by decide +kernel
theorem d37_309 : decode method_5_code 309 = .ok (.ifCond .eq 33, 3) := by decide +kernel
theorem d37_312 : decode method_5_code 312 = .ok (.aload_n 0, 1) := by decide +kernel
theorem d37_313 : decode method_5_code 313 = .ok (.aload 6, 2) := by decide +kernel
theorem d37_315 : decode method_5_code 315 = .ok (.iload 8, 2) := by decide +kernel
theorem d37_317 : decode method_5_code 317 = .ok (.bipush 10, 2) := by decide +kernel
theorem d37_319 : decode method_5_code 319 = .ok (.invokestatic 45, 3) := by decide +kernel
theorem d37_322 : decode method_5_code 322 = .ok (.ifCond .eq 20, 3) := by decide +kernel
theorem d37_325 : decode method_5_code 325 = .ok (.aload_n 0, 1) := by decide +kernel
theorem d37_326 : decode method_5_code 326 = .ok (.aload 6, 2) := by decide +kernel
theorem d37_328 : decode method_5_code 328 = .ok (.iload 8, 2) := by decide +kernel
theorem d37_330 : decode method_5_code 330 = .ok (.bipush 11, 2) := by decide +kernel
theorem d37_332 : decode method_5_code 332 = .ok (.invokestatic 45, 3) := by decide +kernel
theorem d37_335 : decode method_5_code 335 = .ok (.ifCond .eq 7, 3) := by decide +kernel
theorem d37_338 : decode method_5_code 338 = .ok (.iconst 1, 1) := by decide +kernel
theorem d37_339 : decode method_5_code 339 = .ok (.goto 4, 3) := by decide +kernel
theorem d37_343 : decode method_5_code 343 = .ok (.istore 9, 2) := by decide +kernel
theorem d37_345 : decode method_5_code 345 = .ok (.iload 9, 2) := by decide +kernel
theorem d37_347 : decode method_5_code 347 = .ok (.ifCond .eq 59, 3) := by decide +kernel
theorem d37_350 : decode method_5_code 350 = .ok (.aload_n 0, 1) := by decide +kernel
theorem d37_351 : decode method_5_code 351 = .ok (.aload 6, 2) := by decide +kernel
theorem d37_353 : decode method_5_code 353 = .ok (.iload 8, 2) := by decide +kernel
theorem d37_355 : decode method_5_code 355 = .ok (.bipush 12, 2) := by decide +kernel
theorem d37_357 : decode method_5_code 357 = .ok (.invokestatic 45, 3) := by decide +kernel
theorem d37_360 : decode method_5_code 360 = .ok (.ifCond .eq 46, 3) := by decide +kernel
theorem d37_363 : decode method_5_code 363 = .ok (.aload_n 0, 1) := by decide +kernel
theorem d37_364 : decode method_5_code 364 = .ok (.aload 6, 2) := by decide +kernel
theorem d37_366 : decode method_5_code 366 = .ok (.iload 8, 2) := by decide +kernel
theorem d37_368 : decode method_5_code 368 = .ok (.bipush 13, 2) := by decide +kernel
theorem d37_370 : decode method_5_code 370 = .ok (.invokestatic 45, 3) := by decide +kernel
theorem d37_373 : decode method_5_code 373 = .ok (.ifCond .eq 33, 3) := by decide +kernel
theorem d37_376 : decode method_5_code 376 = .ok (.aload_n 0, 1) := by decide +kernel
theorem d37_377 : decode method_5_code 377 = .ok (.aload 6, 2) := by decide +kernel
theorem d37_379 : decode method_5_code 379 = .ok (.iload 8, 2) := by decide +kernel
theorem d37_381 : decode method_5_code 381 = .ok (.bipush 14, 2) := by decide +kernel
theorem d37_383 : decode method_5_code 383 = .ok (.invokestatic 45, 3) := by decide +kernel
theorem d37_386 : decode method_5_code 386 = .ok (.ifCond .eq 20, 3) := by decide +kernel
theorem d37_389 : decode method_5_code 389 = .ok (.aload_n 0, 1) := by decide +kernel
theorem d37_390 : decode method_5_code 390 = .ok (.aload 6, 2) := by decide +kernel
theorem d37_392 : decode method_5_code 392 = .ok (.iload 8, 2) := by decide +kernel
theorem d37_394 : decode method_5_code 394 = .ok (.bipush 15, 2) := by decide +kernel
theorem d37_396 : decode method_5_code 396 = .ok (.invokestatic 45, 3) := by decide +kernel
theorem d37_399 : decode method_5_code 399 = .ok (.ifCond .eq 7, 3) := by decide +kernel
theorem d37_402 : decode method_5_code 402 = .ok (.iconst 1, 1) := by decide +kernel
theorem d37_403 : decode method_5_code 403 = .ok (.goto 4, 3) := by decide +kernel
theorem d37_407 : decode method_5_code 407 = .ok (.istore 9, 2) := by decide +kernel
theorem d37_409 : decode method_5_code 409 = .ok (.iload 9, 2) := by decide +kernel
theorem d37_411 : decode method_5_code 411 = .ok (.ifCond .eq 46, 3) := by decide +kernel
theorem d37_414 : decode method_5_code 414 = .ok (.aload_n 0, 1) := by decide +kernel
theorem d37_415 : decode method_5_code 415 = .ok (.aload 6, 2) := by decide +kernel
theorem d37_417 : decode method_5_code 417 = .ok (.iload 8, 2) := by decide +kernel
theorem d37_419 : decode method_5_code 419 = .ok (.bipush 16, 2) := by decide +kernel
theorem d37_421 : decode method_5_code 421 = .ok (.invokestatic 45, 3) := by decide +kernel
theorem d37_424 : decode method_5_code 424 = .ok (.ifCond .eq 33, 3) := by decide +kernel
theorem d37_427 : decode method_5_code 427 = .ok (.aload_n 0, 1) := by decide +kernel
theorem d37_428 : decode method_5_code 428 = .ok (.aload 6, 2) := by decide +kernel
theorem d37_430 : decode method_5_code 430 = .ok (.iload 8, 2) := by decide +kernel
theorem d37_432 : decode method_5_code 432 = .ok (.bipush 17, 2) := by decide +kernel
theorem d37_434 : decode method_5_code 434 = .ok (.invokestatic 45, 3) := by decide +kernel
theorem d37_437 : decode method_5_code 437 = .ok (.ifCond .eq 20, 3) := by decide +kernel
theorem d37_440 : decode method_5_code 440 = .ok (.aload_n 0, 1) := by decide +kernel
theorem d37_441 : decode method_5_code 441 = .ok (.aload 6, 2) := by decide +kernel
theorem d37_443 : decode method_5_code 443 = .ok (.iload 8, 2) := by decide +kernel
theorem d37_445 : decode method_5_code 445 = .ok (.bipush 18, 2) := by decide +kernel
theorem d37_447 : decode method_5_code 447 = .ok (.invokestatic 45, 3) := by decide +kernel
theorem d37_450 : decode method_5_code 450 = .ok (.ifCond .eq 7, 3) := by decide +kernel
theorem d37_453 : decode method_5_code 453 = .ok (.iconst 1, 1) := by decide +kernel
theorem d37_454 : decode method_5_code 454 = .ok (.goto 4, 3) := by decide +kernel
theorem d37_458 : decode method_5_code 458 = .ok (.istore 9, 2) := by decide +kernel
theorem d37_460 : decode method_5_code 460 = .ok (.iload 9, 2) := by decide +kernel
theorem d37_462 : decode method_5_code 462 = .ok (.ireturn, 1) := by decide +kernel
theorem oef_ofl_ma (m_ : MethodId) (s : Addr) (y0_ : Int32)  : (entryFrame m_ #[(.ref s), (.int y0_)] 10).locals = #[.val (.ref s), .val (.int y0_), .unset, .unset, .unset, .unset, .unset, .unset, .unset, .unset] := by first | (simp [entryFrame, argsToLocals, Value.category]; done) | rfl
set_option maxRecDepth 65536 in
set_option maxHeartbeats 40000000 in
theorem ofl_ma (l : Launch) (Z : State) (a0 : Array Value) (hw : ∀ d ∈ tables_1, d.before a0 Z = true) (hE : EW Z a0 consts_1) (s : Addr) (r : Addr) (kr : ClassId) (i : Nat) (fm : Value) (z : Int32) (h : Heap) (hO : Old Z Z.heap.size h) (SC : (Sta Z Z.heap "java/lang/String" "COMPACT_STRINGS" "Z" (.int z))) (hz : (¬ z = 0)) (SF : (Sta Z Z.heap "jdk/internal/util/Preconditions" "SIOOBE_FORMATTER" "Ljava/util/function/BiFunction;" fm)) (rf : (fm.isRef = true)) (q4 : Exa Z h s "java/lang/String") (q5 : Fld Z h s "java/lang/String" "coder" "B" (.int (0 : Int32))) (q6 : Fld Z h s "java/lang/String" "value" "[B" (.ref r)) (q7 : Arv Z h r kr .byte (Int32.ofNat (tl (i + 1))) (tx (i + 1)) (.int 0)) (hi : (i < 16777215))  :
    Ct l Z consts_1 (⟨"com/example/hasset/hasset/model/GeneratedFleetAddressesPinLaw", "matches", "(Ljava/lang/String;I)Z"⟩ : MethodName) method_5_code 10 (Option.some Jvm.ClassFile.FieldType.boolean) ⟨5, 1, 19, 80⟩ #[(.ref s), (.int (Int32.ofNat i))] h [] (fun rv' hp' so' => rv' = some (.int (1 : Int32)) ∧ so' = []) := by
  refine Ct.mk "com/example/hasset/hasset/model/GeneratedFleetAddressesPinLaw" "matches" rfl rfl (a0 := a0) (plainFor_of_name opn13) hO hE (fun x q => nomatch q) ?_
  intro K T W
  rw [oef_ofl_ma]
  have bH := dle (v := ((i + 1) / 65536)) (by omega)
  have bM := dle (v := ((i + 1) / 256 % 256)) (by omega)
  have bL := dle (v := ((i + 1) % 256)) (by omega)
  have hT : tl (i + 1) ≤ 19 := by unfold tl; omega
  refine gIloadN W d37_0 rfl rfl ?_
  refine gIconst (z := (1 : Int32)) W d37_1 rfl rfl ?_
  refine gIadd (z := (Int32.ofNat (i + 1))) W d37_2 (ofNat_add (a := i) (b := 1)) rfl ?_
  refine gIstoreN (ls' := #[.val (.ref s), .val (.int (Int32.ofNat i)), .val (.int (Int32.ofNat (i + 1))), .unset, .unset, .unset, .unset, .unset, .unset, .unset]) W d37_3 rfl rfl ?_
  refine gIloadN W d37_4 rfl rfl ?_
  refine wLdcI (v := (65536 : Int32)) W d37_5 (ow213 hw) rfl ?_
  refine gIdiv (z := (Int32.ofNat ((i + 1) / 65536))) W d37_7 (by decide) (div_n (P := 65536) (by decide) (by decide) (by omega)) rfl ?_
  refine gIstoreN (ls' := #[.val (.ref s), .val (.int (Int32.ofNat i)), .val (.int (Int32.ofNat (i + 1))), .val (.int (Int32.ofNat ((i + 1) / 65536))), .unset, .unset, .unset, .unset, .unset, .unset]) W d37_8 rfl rfl ?_
  refine gIloadN W d37_9 rfl rfl ?_
  refine gSipush (z := (256 : Int32)) W d37_10 rfl rfl ?_
  refine gIdiv (z := (Int32.ofNat ((i + 1) / 256))) W d37_13 (by decide) (div_n (P := 256) (by decide) (by decide) (by omega)) rfl ?_
  refine gSipush (z := (256 : Int32)) W d37_14 rfl rfl ?_
  refine gIrem (z := (Int32.ofNat ((i + 1) / 256 % 256))) W d37_17 (by decide) (rem_n (P := 256) (by decide) (by omega)) rfl ?_
  refine gIstore (ls' := #[.val (.ref s), .val (.int (Int32.ofNat i)), .val (.int (Int32.ofNat (i + 1))), .val (.int (Int32.ofNat ((i + 1) / 65536))), .val (.int (Int32.ofNat ((i + 1) / 256 % 256))), .unset, .unset, .unset, .unset, .unset]) W d37_18 rfl rfl ?_
  refine gIloadN W d37_20 rfl rfl ?_
  refine gSipush (z := (256 : Int32)) W d37_21 rfl rfl ?_
  refine gIrem (z := (Int32.ofNat ((i + 1) % 256))) W d37_24 (by decide) (rem_n (P := 256) (by decide) (by omega)) rfl ?_
  refine gIstore (ls' := #[.val (.ref s), .val (.int (Int32.ofNat i)), .val (.int (Int32.ofNat (i + 1))), .val (.int (Int32.ofNat ((i + 1) / 65536))), .val (.int (Int32.ofNat ((i + 1) / 256 % 256))), .val (.int (Int32.ofNat ((i + 1) % 256))), .unset, .unset, .unset, .unset]) W d37_25 rfl rfl ?_
  refine gBipush (z := (19 : Int32)) W d37_27 rfl rfl ?_
  refine wNewP (cap := 19) W d37_29 (ow214 hw) (by decide) (by decide) (by decide) (by decide) (by decide) rfl fun T1595 h1597 a1598 k1602 W1596 E1599 g1600 A1601 => ?_
  have f1603 : Arv Z h1597 a1598 k1602 .char (19 : Int32) [(.int (0 : Int32)), (.int (0 : Int32)), (.int (0 : Int32)), (.int (0 : Int32)), (.int (0 : Int32)), (.int (0 : Int32)), (.int (0 : Int32)), (.int (0 : Int32)), (.int (0 : Int32)), (.int (0 : Int32)), (.int (0 : Int32)), (.int (0 : Int32)), (.int (0 : Int32)), (.int (0 : Int32)), (.int (0 : Int32)), (.int (0 : Int32)), (.int (0 : Int32)), (.int (0 : Int32)), (.int (0 : Int32))] (.int 0) := A1601 19
  refine gAstore (ls' := #[.val (.ref s), .val (.int (Int32.ofNat i)), .val (.int (Int32.ofNat (i + 1))), .val (.int (Int32.ofNat ((i + 1) / 65536))), .val (.int (Int32.ofNat ((i + 1) / 256 % 256))), .val (.int (Int32.ofNat ((i + 1) % 256))), .val (.ref a1598), .unset, .unset, .unset]) W1596 d37_31 rfl rfl rfl ?_
  refine gAload W1596 d37_33 rfl rfl rfl ?_
  refine gIconst (z := (0 : Int32)) W1596 d37_35 rfl rfl ?_
  refine gBipush (z := (49 : Int32)) W1596 d37_36 rfl rfl ?_
  refine wStC (y := (49 : Int32)) W1596 d37_38 (by simp) f1603 (by decide) (by decide) 0 (by decide) (by decide) rfl fun T1604 h1606 W1605 wr1607 A1608 => ?_
  refine gAload W1605 d37_39 rfl rfl rfl ?_
  refine gIconst (z := (1 : Int32)) W1605 d37_41 rfl rfl ?_
  refine gBipush (z := (48 : Int32)) W1605 d37_42 rfl rfl ?_
  refine wStC (y := (48 : Int32)) W1605 d37_44 (by simp) A1608 (by decide) (by decide) 1 (by decide) (by decide) rfl fun T1609 h1611 W1610 wr1612 A1613 => ?_
  refine gAload W1610 d37_45 rfl rfl rfl ?_
  refine gIconst (z := (2 : Int32)) W1610 d37_47 rfl rfl ?_
  refine gBipush (z := (46 : Int32)) W1610 d37_48 rfl rfl ?_
  refine wStC (y := (46 : Int32)) W1610 d37_50 (by simp) A1613 (by decide) (by decide) 2 (by decide) (by decide) rfl fun T1614 h1616 W1615 wr1617 A1618 => ?_
  have f1619 : Arv Z h1616 a1598 k1602 .char (19 : Int32) (bf 19 p1) (.int 0) := arvL A1618 (by rfl)
  refine gAload W1615 d37_51 rfl rfl rfl ?_
  refine gIconst (z := (3 : Int32)) W1615 d37_53 rfl rfl ?_
  refine gIloadN W1615 d37_54 rfl rfl ?_
  refine wStatic (y := (⟨"com/example/hasset/hasset/model/GeneratedFleetAddressesPinLaw", "put", "([CII)I"⟩ : MethodName)) (Wd := 0) (argsL := [(.ref a1598), (.int (3 : Int32)), (.int (Int32.ofNat ((i + 1) / 65536)))]) (rest := []) W1615 d37_55 (ow215 hw) (ow216 hw) (ow211 hw) (ow217 hw) (by decide) (Cb.ct (ofl_pu l Z a0 hw hE (a1598) (k1602) ((bf 19 p1)) (3) (((i + 1) / 65536)) h1616 W1615.old f1619 (by omega) (by omega) (bf_len (by decide)) (Nat.le_trans W.old.2.1 (Nat.le_of_eq g1600.symm))) (ow217 hw) (ow211 hw) hE (by decide) (by decide)) (by simp) rfl (lenOf opd27 rfl) rfl (Nat.le_of_eq rfl) (by decide) (by decide) rfl fun v1624 so1625 T1620 h1622 W1621 kp1623 sp1626 q1627 => ?_
  obtain ⟨rfl, rfl, f1628⟩ := q1627
  show Go K _ T1620 58 #[.val (.ref s), .val (.int (Int32.ofNat i)), .val (.int (Int32.ofNat (i + 1))), .val (.int (Int32.ofNat ((i + 1) / 65536))), .val (.int (Int32.ofNat ((i + 1) / 256 % 256))), .val (.int (Int32.ofNat ((i + 1) % 256))), .val (.ref a1598), .unset, .unset, .unset] [(.int (Int32.ofNat (3 + dlen ((i + 1) / 65536))))]
  have f1629 : Arv Z h1622 a1598 k1602 .char (19 : Int32) (bf 19 (p2 ((i + 1) / 65536))) (.int 0) := arvL f1628 (bf_put (c := 19) (P := p1) (us := dg ((i + 1) / 65536)) (i := 3) (n := dlen ((i + 1) / 65536)) rfl (dg_len _))
  refine gIstore (ls' := #[.val (.ref s), .val (.int (Int32.ofNat i)), .val (.int (Int32.ofNat (i + 1))), .val (.int (Int32.ofNat ((i + 1) / 65536))), .val (.int (Int32.ofNat ((i + 1) / 256 % 256))), .val (.int (Int32.ofNat ((i + 1) % 256))), .val (.ref a1598), .val (.int (Int32.ofNat (3 + dlen ((i + 1) / 65536)))), .unset, .unset]) W1621 d37_58 rfl rfl ?_
  refine gAload W1621 d37_60 rfl rfl rfl ?_
  refine gIload W1621 d37_62 rfl rfl ?_
  refine gBipush (z := (46 : Int32)) W1621 d37_64 rfl rfl ?_
  refine wStC (y := (46 : Int32)) W1621 d37_66 (by simp) f1629 (ofNat_inb (n := 19) (by omega) (by decide)) (by decide) (3 + dlen ((i + 1) / 65536)) (ofNat_clamp (by omega)) (by rw [bf_len (by rw [show List.length (p2 ((i + 1) / 65536)) = (3 + dlen ((i + 1) / 65536)) from (p2_len.trans (by omega))]; omega)]; omega) rfl fun T1630 h1632 W1631 wr1633 A1634 => ?_
  have f1635 : Arv Z h1632 a1598 k1602 .char (19 : Int32) (bf 19 (p3 ((i + 1) / 65536))) (.int 0) := arvL A1634 (bf_set (p2_len.trans (by omega)) (by omega))
  refine gAload W1631 d37_67 rfl rfl rfl ?_
  refine gIload W1631 d37_69 rfl rfl ?_
  refine gIconst (z := (1 : Int32)) W1631 d37_71 rfl rfl ?_
  refine gIadd (z := (Int32.ofNat ((3 + dlen ((i + 1) / 65536)) + 1))) W1631 d37_72 (ofNat_add (b := 1)) rfl ?_
  refine gIload W1631 d37_73 rfl rfl ?_
  refine wStatic (y := (⟨"com/example/hasset/hasset/model/GeneratedFleetAddressesPinLaw", "put", "([CII)I"⟩ : MethodName)) (Wd := 0) (argsL := [(.ref a1598), (.int (Int32.ofNat ((3 + dlen ((i + 1) / 65536)) + 1))), (.int (Int32.ofNat ((i + 1) / 256 % 256)))]) (rest := []) W1631 d37_75 (ow215 hw) (ow216 hw) (ow211 hw) (ow217 hw) (by decide) (Cb.ct (ofl_pu l Z a0 hw hE (a1598) (k1602) ((bf 19 (p3 ((i + 1) / 65536)))) (((3 + dlen ((i + 1) / 65536)) + 1)) (((i + 1) / 256 % 256)) h1632 W1631.old f1635 (by omega) (by omega) (bf_len (by rw [show List.length (p3 ((i + 1) / 65536)) = ((3 + dlen ((i + 1) / 65536)) + 1) from (p3_len.trans (by omega))]; omega)) (Nat.le_trans W.old.2.1 (Nat.le_of_eq g1600.symm))) (ow217 hw) (ow211 hw) hE (by decide) (by decide)) (by simp) rfl (lenOf opd27 rfl) rfl (Nat.le_of_eq rfl) (by decide) (by decide) rfl fun v1640 so1641 T1636 h1638 W1637 kp1639 sp1642 q1643 => ?_
  obtain ⟨rfl, rfl, f1644⟩ := q1643
  show Go K _ T1636 78 #[.val (.ref s), .val (.int (Int32.ofNat i)), .val (.int (Int32.ofNat (i + 1))), .val (.int (Int32.ofNat ((i + 1) / 65536))), .val (.int (Int32.ofNat ((i + 1) / 256 % 256))), .val (.int (Int32.ofNat ((i + 1) % 256))), .val (.ref a1598), .val (.int (Int32.ofNat (3 + dlen ((i + 1) / 65536)))), .unset, .unset] [(.int (Int32.ofNat (((3 + dlen ((i + 1) / 65536)) + 1) + dlen ((i + 1) / 256 % 256))))]
  have f1645 : Arv Z h1638 a1598 k1602 .char (19 : Int32) (bf 19 (p4 ((i + 1) / 65536) ((i + 1) / 256 % 256))) (.int 0) := arvL f1644 (bf_put (c := 19) (P := (p3 ((i + 1) / 65536))) (us := dg ((i + 1) / 256 % 256)) (i := ((3 + dlen ((i + 1) / 65536)) + 1)) (n := dlen ((i + 1) / 256 % 256)) (p3_len.trans (by omega)) (dg_len _))
  refine gIstore (ls' := #[.val (.ref s), .val (.int (Int32.ofNat i)), .val (.int (Int32.ofNat (i + 1))), .val (.int (Int32.ofNat ((i + 1) / 65536))), .val (.int (Int32.ofNat ((i + 1) / 256 % 256))), .val (.int (Int32.ofNat ((i + 1) % 256))), .val (.ref a1598), .val (.int (Int32.ofNat (((3 + dlen ((i + 1) / 65536)) + 1) + dlen ((i + 1) / 256 % 256)))), .unset, .unset]) W1637 d37_78 rfl rfl ?_
  refine gAload W1637 d37_80 rfl rfl rfl ?_
  refine gIload W1637 d37_82 rfl rfl ?_
  refine gBipush (z := (46 : Int32)) W1637 d37_84 rfl rfl ?_
  refine wStC (y := (46 : Int32)) W1637 d37_86 (by simp) f1645 (ofNat_inb (n := 19) (by omega) (by decide)) (by decide) (((3 + dlen ((i + 1) / 65536)) + 1) + dlen ((i + 1) / 256 % 256)) (ofNat_clamp (by omega)) (by rw [bf_len (by rw [show List.length (p4 ((i + 1) / 65536) ((i + 1) / 256 % 256)) = (((3 + dlen ((i + 1) / 65536)) + 1) + dlen ((i + 1) / 256 % 256)) from (p4_len.trans (by omega))]; omega)]; omega) rfl fun T1646 h1648 W1647 wr1649 A1650 => ?_
  have f1651 : Arv Z h1648 a1598 k1602 .char (19 : Int32) (bf 19 (p5 ((i + 1) / 65536) ((i + 1) / 256 % 256))) (.int 0) := arvL A1650 (bf_set (p4_len.trans (by omega)) (by omega))
  refine gAload W1647 d37_87 rfl rfl rfl ?_
  refine gIload W1647 d37_89 rfl rfl ?_
  refine gIconst (z := (1 : Int32)) W1647 d37_91 rfl rfl ?_
  refine gIadd (z := (Int32.ofNat ((((3 + dlen ((i + 1) / 65536)) + 1) + dlen ((i + 1) / 256 % 256)) + 1))) W1647 d37_92 (ofNat_add (b := 1)) rfl ?_
  refine gIload W1647 d37_93 rfl rfl ?_
  refine wStatic (y := (⟨"com/example/hasset/hasset/model/GeneratedFleetAddressesPinLaw", "put", "([CII)I"⟩ : MethodName)) (Wd := 0) (argsL := [(.ref a1598), (.int (Int32.ofNat ((((3 + dlen ((i + 1) / 65536)) + 1) + dlen ((i + 1) / 256 % 256)) + 1))), (.int (Int32.ofNat ((i + 1) % 256)))]) (rest := []) W1647 d37_95 (ow215 hw) (ow216 hw) (ow211 hw) (ow217 hw) (by decide) (Cb.ct (ofl_pu l Z a0 hw hE (a1598) (k1602) ((bf 19 (p5 ((i + 1) / 65536) ((i + 1) / 256 % 256)))) (((((3 + dlen ((i + 1) / 65536)) + 1) + dlen ((i + 1) / 256 % 256)) + 1)) (((i + 1) % 256)) h1648 W1647.old f1651 (by omega) (by omega) (bf_len (by rw [show List.length (p5 ((i + 1) / 65536) ((i + 1) / 256 % 256)) = ((((3 + dlen ((i + 1) / 65536)) + 1) + dlen ((i + 1) / 256 % 256)) + 1) from (p5_len.trans (by omega))]; omega)) (Nat.le_trans W.old.2.1 (Nat.le_of_eq g1600.symm))) (ow217 hw) (ow211 hw) hE (by decide) (by decide)) (by simp) rfl (lenOf opd27 rfl) rfl (Nat.le_of_eq rfl) (by decide) (by decide) rfl fun v1656 so1657 T1652 h1654 W1653 kp1655 sp1658 q1659 => ?_
  obtain ⟨rfl, rfl, f1660⟩ := q1659
  show Go K _ T1652 98 #[.val (.ref s), .val (.int (Int32.ofNat i)), .val (.int (Int32.ofNat (i + 1))), .val (.int (Int32.ofNat ((i + 1) / 65536))), .val (.int (Int32.ofNat ((i + 1) / 256 % 256))), .val (.int (Int32.ofNat ((i + 1) % 256))), .val (.ref a1598), .val (.int (Int32.ofNat (((3 + dlen ((i + 1) / 65536)) + 1) + dlen ((i + 1) / 256 % 256)))), .unset, .unset] [(.int (Int32.ofNat (((((3 + dlen ((i + 1) / 65536)) + 1) + dlen ((i + 1) / 256 % 256)) + 1) + dlen ((i + 1) % 256))))]
  have f1661 : Arv Z h1654 a1598 k1602 .char (19 : Int32) (bf 19 (p6 ((i + 1) / 65536) ((i + 1) / 256 % 256) ((i + 1) % 256))) (.int 0) := arvL f1660 (bf_put (c := 19) (P := (p5 ((i + 1) / 65536) ((i + 1) / 256 % 256))) (us := dg ((i + 1) % 256)) (i := ((((3 + dlen ((i + 1) / 65536)) + 1) + dlen ((i + 1) / 256 % 256)) + 1)) (n := dlen ((i + 1) % 256)) (p5_len.trans (by omega)) (dg_len _))
  refine gIstore (ls' := #[.val (.ref s), .val (.int (Int32.ofNat i)), .val (.int (Int32.ofNat (i + 1))), .val (.int (Int32.ofNat ((i + 1) / 65536))), .val (.int (Int32.ofNat ((i + 1) / 256 % 256))), .val (.int (Int32.ofNat ((i + 1) % 256))), .val (.ref a1598), .val (.int (Int32.ofNat (((((3 + dlen ((i + 1) / 65536)) + 1) + dlen ((i + 1) / 256 % 256)) + 1) + dlen ((i + 1) % 256)))), .unset, .unset]) W1653 d37_98 rfl rfl ?_
  refine gAload W1653 d37_100 rfl rfl rfl ?_
  refine gIload W1653 d37_102 rfl rfl ?_
  refine gBipush (z := (58 : Int32)) W1653 d37_104 rfl rfl ?_
  refine wStC (y := (58 : Int32)) W1653 d37_106 (by simp) f1661 (ofNat_inb (n := 19) (by omega) (by decide)) (by decide) (((((3 + dlen ((i + 1) / 65536)) + 1) + dlen ((i + 1) / 256 % 256)) + 1) + dlen ((i + 1) % 256)) (ofNat_clamp (by omega)) (by rw [bf_len (by rw [show List.length (p6 ((i + 1) / 65536) ((i + 1) / 256 % 256) ((i + 1) % 256)) = (((((3 + dlen ((i + 1) / 65536)) + 1) + dlen ((i + 1) / 256 % 256)) + 1) + dlen ((i + 1) % 256)) from (p6_len.trans (by omega))]; omega)]; omega) rfl fun T1662 h1664 W1663 wr1665 A1666 => ?_
  have f1667 : Arv Z h1664 a1598 k1602 .char (19 : Int32) (bf 19 (p7 ((i + 1) / 65536) ((i + 1) / 256 % 256) ((i + 1) % 256))) (.int 0) := arvL A1666 (bf_set (p6_len.trans (by omega)) (by omega))
  refine gAload W1663 d37_107 rfl rfl rfl ?_
  refine gIload W1663 d37_109 rfl rfl ?_
  refine gIconst (z := (1 : Int32)) W1663 d37_111 rfl rfl ?_
  refine gIadd (z := (Int32.ofNat ((((((3 + dlen ((i + 1) / 65536)) + 1) + dlen ((i + 1) / 256 % 256)) + 1) + dlen ((i + 1) % 256)) + 1))) W1663 d37_112 (ofNat_add (b := 1)) rfl ?_
  refine gBipush (z := (56 : Int32)) W1663 d37_113 rfl rfl ?_
  refine wStC (y := (56 : Int32)) W1663 d37_115 (by simp) f1667 (ofNat_inb (n := 19) (by omega) (by decide)) (by decide) ((((((3 + dlen ((i + 1) / 65536)) + 1) + dlen ((i + 1) / 256 % 256)) + 1) + dlen ((i + 1) % 256)) + 1) (ofNat_clamp (by omega)) (by rw [bf_len (by rw [show List.length (p7 ((i + 1) / 65536) ((i + 1) / 256 % 256) ((i + 1) % 256)) = ((((((3 + dlen ((i + 1) / 65536)) + 1) + dlen ((i + 1) / 256 % 256)) + 1) + dlen ((i + 1) % 256)) + 1) from (p7_len.trans (by omega))]; omega)]; omega) rfl fun T1668 h1670 W1669 wr1671 A1672 => ?_
  have f1673 : Arv Z h1670 a1598 k1602 .char (19 : Int32) (bf 19 ((p7 ((i + 1) / 65536) ((i + 1) / 256 % 256) ((i + 1) % 256)) ++ [Value.int 56])) (.int 0) := arvL A1672 (bf_set (p7_len.trans (by omega)) (by omega))
  refine gAload W1669 d37_116 rfl rfl rfl ?_
  refine gIload W1669 d37_118 rfl rfl ?_
  refine gIconst (z := (2 : Int32)) W1669 d37_120 rfl rfl ?_
  refine gIadd (z := (Int32.ofNat ((((((3 + dlen ((i + 1) / 65536)) + 1) + dlen ((i + 1) / 256 % 256)) + 1) + dlen ((i + 1) % 256)) + 2))) W1669 d37_121 (ofNat_add (b := 2)) rfl ?_
  refine gBipush (z := (48 : Int32)) W1669 d37_122 rfl rfl ?_
  refine wStC (y := (48 : Int32)) W1669 d37_124 (by simp) f1673 (ofNat_inb (n := 19) (by omega) (by decide)) (by decide) ((((((3 + dlen ((i + 1) / 65536)) + 1) + dlen ((i + 1) / 256 % 256)) + 1) + dlen ((i + 1) % 256)) + 2) (ofNat_clamp (by omega)) (by rw [bf_len (by rw [show List.length ((p7 ((i + 1) / 65536) ((i + 1) / 256 % 256) ((i + 1) % 256)) ++ [Value.int 56]) = ((((((3 + dlen ((i + 1) / 65536)) + 1) + dlen ((i + 1) / 256 % 256)) + 1) + dlen ((i + 1) % 256)) + 2) from (by have q := p7_len (H := ((i + 1) / 65536)) (M := ((i + 1) / 256 % 256)) (L := ((i + 1) % 256)); simp only [List.length_append, List.length_singleton]; omega)]; omega)]; omega) rfl fun T1674 h1676 W1675 wr1677 A1678 => ?_
  have f1679 : Arv Z h1676 a1598 k1602 .char (19 : Int32) (bf 19 (((p7 ((i + 1) / 65536) ((i + 1) / 256 % 256) ((i + 1) % 256)) ++ [Value.int 56]) ++ [Value.int 48])) (.int 0) := arvL A1678 (bf_set (by have q := p7_len (H := ((i + 1) / 65536)) (M := ((i + 1) / 256 % 256)) (L := ((i + 1) % 256)); simp only [List.length_append, List.length_singleton]; omega) (by omega))
  refine gAload W1675 d37_125 rfl rfl rfl ?_
  refine gIload W1675 d37_127 rfl rfl ?_
  refine gIconst (z := (3 : Int32)) W1675 d37_129 rfl rfl ?_
  refine gIadd (z := (Int32.ofNat ((((((3 + dlen ((i + 1) / 65536)) + 1) + dlen ((i + 1) / 256 % 256)) + 1) + dlen ((i + 1) % 256)) + 3))) W1675 d37_130 (ofNat_add (b := 3)) rfl ?_
  refine gBipush (z := (56 : Int32)) W1675 d37_131 rfl rfl ?_
  refine wStC (y := (56 : Int32)) W1675 d37_133 (by simp) f1679 (ofNat_inb (n := 19) (by omega) (by decide)) (by decide) ((((((3 + dlen ((i + 1) / 65536)) + 1) + dlen ((i + 1) / 256 % 256)) + 1) + dlen ((i + 1) % 256)) + 3) (ofNat_clamp (by omega)) (by rw [bf_len (by rw [show List.length (((p7 ((i + 1) / 65536) ((i + 1) / 256 % 256) ((i + 1) % 256)) ++ [Value.int 56]) ++ [Value.int 48]) = ((((((3 + dlen ((i + 1) / 65536)) + 1) + dlen ((i + 1) / 256 % 256)) + 1) + dlen ((i + 1) % 256)) + 3) from (by have q := p7_len (H := ((i + 1) / 65536)) (M := ((i + 1) / 256 % 256)) (L := ((i + 1) % 256)); simp only [List.length_append, List.length_singleton]; omega)]; omega)]; omega) rfl fun T1680 h1682 W1681 wr1683 A1684 => ?_
  have f1685 : Arv Z h1682 a1598 k1602 .char (19 : Int32) (bf 19 ((((p7 ((i + 1) / 65536) ((i + 1) / 256 % 256) ((i + 1) % 256)) ++ [Value.int 56]) ++ [Value.int 48]) ++ [Value.int 56])) (.int 0) := arvL A1684 (bf_set (by have q := p7_len (H := ((i + 1) / 65536)) (M := ((i + 1) / 256 % 256)) (L := ((i + 1) % 256)); simp only [List.length_append, List.length_singleton]; omega) (by omega))
  refine gAload W1681 d37_134 rfl rfl rfl ?_
  refine gIload W1681 d37_136 rfl rfl ?_
  refine gIconst (z := (4 : Int32)) W1681 d37_138 rfl rfl ?_
  refine gIadd (z := (Int32.ofNat ((((((3 + dlen ((i + 1) / 65536)) + 1) + dlen ((i + 1) / 256 % 256)) + 1) + dlen ((i + 1) % 256)) + 4))) W1681 d37_139 (ofNat_add (b := 4)) rfl ?_
  refine gBipush (z := (48 : Int32)) W1681 d37_140 rfl rfl ?_
  refine wStC (y := (48 : Int32)) W1681 d37_142 (by simp) f1685 (ofNat_inb (n := 19) (by omega) (by decide)) (by decide) ((((((3 + dlen ((i + 1) / 65536)) + 1) + dlen ((i + 1) / 256 % 256)) + 1) + dlen ((i + 1) % 256)) + 4) (ofNat_clamp (by omega)) (by rw [bf_len (by rw [show List.length ((((p7 ((i + 1) / 65536) ((i + 1) / 256 % 256) ((i + 1) % 256)) ++ [Value.int 56]) ++ [Value.int 48]) ++ [Value.int 56]) = ((((((3 + dlen ((i + 1) / 65536)) + 1) + dlen ((i + 1) / 256 % 256)) + 1) + dlen ((i + 1) % 256)) + 4) from (by have q := p7_len (H := ((i + 1) / 65536)) (M := ((i + 1) / 256 % 256)) (L := ((i + 1) % 256)); simp only [List.length_append, List.length_singleton]; omega)]; omega)]; omega) rfl fun T1686 h1688 W1687 wr1689 A1690 => ?_
  have f1691 : Arv Z h1688 a1598 k1602 .char (19 : Int32) (bf 19 (((((p7 ((i + 1) / 65536) ((i + 1) / 256 % 256) ((i + 1) % 256)) ++ [Value.int 56]) ++ [Value.int 48]) ++ [Value.int 56]) ++ [Value.int 48])) (.int 0) := arvL A1690 (bf_set (by have q := p7_len (H := ((i + 1) / 65536)) (M := ((i + 1) / 256 % 256)) (L := ((i + 1) % 256)); simp only [List.length_append, List.length_singleton]; omega) (by omega))
  have f1692 : Arv Z h1688 a1598 k1602 .char (19 : Int32) (bf 19 (tx (i + 1))) (.int 0) := arvL f1691 (congrArg (bf 19) (tail8 _))
  refine gIload W1687 d37_143 rfl rfl ?_
  refine gIconst (z := (5 : Int32)) W1687 d37_145 rfl rfl ?_
  refine gIadd (z := (Int32.ofNat (tl (i + 1)))) W1687 d37_146 (by rw [show tl (i + 1) = (((((3 + dlen ((i + 1) / 65536)) + 1) + dlen ((i + 1) / 256 % 256)) + 1) + dlen ((i + 1) % 256)) + 5 from by unfold tl; omega]; exact ofNat_add (b := 5)) rfl ?_
  refine gIstore (ls' := #[.val (.ref s), .val (.int (Int32.ofNat i)), .val (.int (Int32.ofNat (i + 1))), .val (.int (Int32.ofNat ((i + 1) / 65536))), .val (.int (Int32.ofNat ((i + 1) / 256 % 256))), .val (.int (Int32.ofNat ((i + 1) % 256))), .val (.ref a1598), .val (.int (Int32.ofNat (((((3 + dlen ((i + 1) / 65536)) + 1) + dlen ((i + 1) / 256 % 256)) + 1) + dlen ((i + 1) % 256)))), .val (.int (Int32.ofNat (tl (i + 1)))), .unset]) W1687 d37_147 rfl rfl ?_
  refine gAloadN W1687 d37_149 rfl rfl rfl ?_
  refine gIfnullNo W1687 d37_150 rfl ?_
  refine gAloadN W1687 d37_153 rfl rfl rfl ?_
  have f1693 := q4.ext E1599
  have f1694 := f1693.wr wr1607
  have f1695 := f1694.wr wr1612
  have f1696 := f1695.wr wr1617
  have f1697 := f1696.keep kp1623
  have f1698 := f1697.wr wr1633
  have f1699 := f1698.keep kp1639
  have f1700 := f1699.wr wr1649
  have f1701 := f1700.keep kp1655
  have f1702 := f1701.wr wr1665
  have f1703 := f1702.wr wr1671
  have f1704 := f1703.wr wr1677
  have f1705 := f1704.wr wr1683
  have f1706 := f1705.wr wr1689
  have f1707 := q6.ext E1599
  have ne1708 : s ≠ a1598 := Nat.ne_of_lt (Nat.lt_of_lt_of_le q4.lt (Nat.le_of_eq g1600.symm))
  have f1709 := f1707.other wr1607 (Or.inl ne1708)
  have f1710 := f1709.other wr1612 (Or.inl ne1708)
  have f1711 := f1710.other wr1617 (Or.inl ne1708)
  have f1712 := f1711.keep kp1623 (ninS ne1708 nin0)
  have f1713 := f1712.other wr1633 (Or.inl ne1708)
  have f1714 := f1713.keep kp1639 (ninS ne1708 nin0)
  have f1715 := f1714.other wr1649 (Or.inl ne1708)
  have f1716 := f1715.keep kp1655 (ninS ne1708 nin0)
  have f1717 := f1716.other wr1665 (Or.inl ne1708)
  have f1718 := f1717.other wr1671 (Or.inl ne1708)
  have f1719 := f1718.other wr1677 (Or.inl ne1708)
  have f1720 := f1719.other wr1683 (Or.inl ne1708)
  have f1721 := f1720.other wr1689 (Or.inl ne1708)
  have f1722 := q5.ext E1599
  have f1723 := f1722.other wr1607 (Or.inl ne1708)
  have f1724 := f1723.other wr1612 (Or.inl ne1708)
  have f1725 := f1724.other wr1617 (Or.inl ne1708)
  have f1726 := f1725.keep kp1623 (ninS ne1708 nin0)
  have f1727 := f1726.other wr1633 (Or.inl ne1708)
  have f1728 := f1727.keep kp1639 (ninS ne1708 nin0)
  have f1729 := f1728.other wr1649 (Or.inl ne1708)
  have f1730 := f1729.keep kp1655 (ninS ne1708 nin0)
  have f1731 := f1730.other wr1665 (Or.inl ne1708)
  have f1732 := f1731.other wr1671 (Or.inl ne1708)
  have f1733 := f1732.other wr1677 (Or.inl ne1708)
  have f1734 := f1733.other wr1683 (Or.inl ne1708)
  have f1735 := f1734.other wr1689 (Or.inl ne1708)
  have f1736 := q7.ext E1599
  have ne1737 : r ≠ a1598 := Nat.ne_of_lt (Nat.lt_of_lt_of_le q7.lt (Nat.le_of_eq g1600.symm))
  have f1738 := f1736.other wr1607 ne1737
  have f1739 := f1738.other wr1612 ne1737
  have f1740 := f1739.other wr1617 ne1737
  have f1741 := f1740.keep kp1623 (ninS ne1737 nin0)
  have f1742 := f1741.other wr1633 ne1737
  have f1743 := f1742.keep kp1639 (ninS ne1737 nin0)
  have f1744 := f1743.other wr1649 ne1737
  have f1745 := f1744.keep kp1655 (ninS ne1737 nin0)
  have f1746 := f1745.other wr1665 ne1737
  have f1747 := f1746.other wr1671 ne1737
  have f1748 := f1747.other wr1677 ne1737
  have f1749 := f1748.other wr1683 ne1737
  have f1750 := f1749.other wr1689 ne1737
  refine wVirtual (y := (⟨"java/lang/String", "length", "()I"⟩ : MethodName)) (z := (⟨"java/lang/String", "length", "()I"⟩ : MethodName)) (Wd := 0) (a := s) (argsL := []) (rest := []) W1687 d37_154 (ow218 hw) (ow101 hw) (ow103 hw) (ow102 hw) (nfS (ow103 hw)) (by decide) (Cb.ct (ors_ln l Z a0 hw hE (s) (r) (kr) ((tl (i + 1))) ((tx (i + 1))) (z) h1688 W1687.old SC hz f1706 f1721 f1735 f1750 ) (ow104 hw) (ow78 hw) hE (by decide) (by decide)) f1706 (by simp) rfl (lenOf opd4 rfl) rfl (Nat.le_of_eq rfl) (by decide) (by decide) rfl fun v1755 so1756 T1751 h1753 W1752 kp1754 sp1757 q1758 => ?_
  obtain ⟨rfl, rfl⟩ := q1758
  show Go K _ T1751 157 #[.val (.ref s), .val (.int (Int32.ofNat i)), .val (.int (Int32.ofNat (i + 1))), .val (.int (Int32.ofNat ((i + 1) / 65536))), .val (.int (Int32.ofNat ((i + 1) / 256 % 256))), .val (.int (Int32.ofNat ((i + 1) % 256))), .val (.ref a1598), .val (.int (Int32.ofNat (((((3 + dlen ((i + 1) / 65536)) + 1) + dlen ((i + 1) / 256 % 256)) + 1) + dlen ((i + 1) % 256)))), .val (.int (Int32.ofNat (tl (i + 1)))), .unset] [(.int (Int32.ofNat (tl (i + 1))))]
  refine gIload W1752 d37_157 rfl rfl ?_
  refine gIcmpYes (pc' := 164) W1752 d37_159 (teq rfl).1 (by decide) rfl ?_
  refine gAloadN W1752 d37_164 rfl rfl rfl ?_
  refine gAload W1752 d37_165 rfl rfl rfl ?_
  refine gIload W1752 d37_167 rfl rfl ?_
  refine gIconst (z := (0 : Int32)) W1752 d37_169 rfl rfl ?_
  have f1759 := f1706.keep kp1754
  have f1760 := f1721.keep kp1754 nin0
  have f1761 := f1735.keep kp1754 nin0
  have f1762 := f1750.keep kp1754 nin0
  have f1763 := f1692.keep kp1754 nin0
  refine wStatic (y := (⟨"com/example/hasset/hasset/model/GeneratedFleetAddressesPinLaw", "at", "(Ljava/lang/String;[CII)Z"⟩ : MethodName)) (Wd := 0) (argsL := [(.ref s), (.ref a1598), (.int (Int32.ofNat (tl (i + 1)))), (.int (0 : Int32))]) (rest := []) W1752 d37_170 (ow219 hw) (ow220 hw) (ow211 hw) (ow221 hw) (by decide) (Cb.ct (ofl_at l Z a0 hw hE (s) (r) (kr) ((tl (i + 1))) ((tx (i + 1))) (a1598) (k1602) ((bf 19 (tx (i + 1)))) (0) (fm) (z) h1753 W1752.old SC hz SF rf f1759 f1760 f1761 f1762 f1763 (by decide) hT (tx_len _) (bf_take (tx_len _)) (tx_ch (by omega)) ) (ow221 hw) (ow211 hw) hE (by decide) (by decide)) (by simp) rfl (lenOf opd28 rfl) rfl (Nat.le_of_eq rfl) (by decide) (by decide) rfl fun v1768 so1769 T1764 h1766 W1765 kp1767 sp1770 q1771 => ?_
  obtain ⟨rfl, rfl⟩ := q1771
  show Go K _ T1764 173 #[.val (.ref s), .val (.int (Int32.ofNat i)), .val (.int (Int32.ofNat (i + 1))), .val (.int (Int32.ofNat ((i + 1) / 65536))), .val (.int (Int32.ofNat ((i + 1) / 256 % 256))), .val (.int (Int32.ofNat ((i + 1) % 256))), .val (.ref a1598), .val (.int (Int32.ofNat (((((3 + dlen ((i + 1) / 65536)) + 1) + dlen ((i + 1) / 256 % 256)) + 1) + dlen ((i + 1) % 256)))), .val (.int (Int32.ofNat (tl (i + 1)))), .unset] [(.int (1 : Int32))]
  refine gIfNo W1765 d37_173 ((if0 _ _).trans (feq (by decide)).1) rfl ?_
  refine gAloadN W1765 d37_176 rfl rfl rfl ?_
  refine gAload W1765 d37_177 rfl rfl rfl ?_
  refine gIload W1765 d37_179 rfl rfl ?_
  refine gIconst (z := (1 : Int32)) W1765 d37_181 rfl rfl ?_
  have f1772 := f1759.keep kp1767
  have f1773 := f1760.keep kp1767 nin0
  have f1774 := f1761.keep kp1767 nin0
  have f1775 := f1762.keep kp1767 nin0
  have f1776 := f1763.keep kp1767 nin0
  refine wStatic (y := (⟨"com/example/hasset/hasset/model/GeneratedFleetAddressesPinLaw", "at", "(Ljava/lang/String;[CII)Z"⟩ : MethodName)) (Wd := 0) (argsL := [(.ref s), (.ref a1598), (.int (Int32.ofNat (tl (i + 1)))), (.int (1 : Int32))]) (rest := []) W1765 d37_182 (ow219 hw) (ow220 hw) (ow211 hw) (ow221 hw) (by decide) (Cb.ct (ofl_at l Z a0 hw hE (s) (r) (kr) ((tl (i + 1))) ((tx (i + 1))) (a1598) (k1602) ((bf 19 (tx (i + 1)))) (1) (fm) (z) h1766 W1765.old SC hz SF rf f1772 f1773 f1774 f1775 f1776 (by decide) hT (tx_len _) (bf_take (tx_len _)) (tx_ch (by omega)) ) (ow221 hw) (ow211 hw) hE (by decide) (by decide)) (by simp) rfl (lenOf opd28 rfl) rfl (Nat.le_of_eq rfl) (by decide) (by decide) rfl fun v1781 so1782 T1777 h1779 W1778 kp1780 sp1783 q1784 => ?_
  obtain ⟨rfl, rfl⟩ := q1784
  show Go K _ T1777 185 #[.val (.ref s), .val (.int (Int32.ofNat i)), .val (.int (Int32.ofNat (i + 1))), .val (.int (Int32.ofNat ((i + 1) / 65536))), .val (.int (Int32.ofNat ((i + 1) / 256 % 256))), .val (.int (Int32.ofNat ((i + 1) % 256))), .val (.ref a1598), .val (.int (Int32.ofNat (((((3 + dlen ((i + 1) / 65536)) + 1) + dlen ((i + 1) / 256 % 256)) + 1) + dlen ((i + 1) % 256)))), .val (.int (Int32.ofNat (tl (i + 1)))), .unset] [(.int (1 : Int32))]
  refine gIfNo W1778 d37_185 ((if0 _ _).trans (feq (by decide)).1) rfl ?_
  refine gAloadN W1778 d37_188 rfl rfl rfl ?_
  refine gAload W1778 d37_189 rfl rfl rfl ?_
  refine gIload W1778 d37_191 rfl rfl ?_
  refine gIconst (z := (2 : Int32)) W1778 d37_193 rfl rfl ?_
  have f1785 := f1772.keep kp1780
  have f1786 := f1773.keep kp1780 nin0
  have f1787 := f1774.keep kp1780 nin0
  have f1788 := f1775.keep kp1780 nin0
  have f1789 := f1776.keep kp1780 nin0
  refine wStatic (y := (⟨"com/example/hasset/hasset/model/GeneratedFleetAddressesPinLaw", "at", "(Ljava/lang/String;[CII)Z"⟩ : MethodName)) (Wd := 0) (argsL := [(.ref s), (.ref a1598), (.int (Int32.ofNat (tl (i + 1)))), (.int (2 : Int32))]) (rest := []) W1778 d37_194 (ow219 hw) (ow220 hw) (ow211 hw) (ow221 hw) (by decide) (Cb.ct (ofl_at l Z a0 hw hE (s) (r) (kr) ((tl (i + 1))) ((tx (i + 1))) (a1598) (k1602) ((bf 19 (tx (i + 1)))) (2) (fm) (z) h1779 W1778.old SC hz SF rf f1785 f1786 f1787 f1788 f1789 (by decide) hT (tx_len _) (bf_take (tx_len _)) (tx_ch (by omega)) ) (ow221 hw) (ow211 hw) hE (by decide) (by decide)) (by simp) rfl (lenOf opd28 rfl) rfl (Nat.le_of_eq rfl) (by decide) (by decide) rfl fun v1794 so1795 T1790 h1792 W1791 kp1793 sp1796 q1797 => ?_
  obtain ⟨rfl, rfl⟩ := q1797
  show Go K _ T1790 197 #[.val (.ref s), .val (.int (Int32.ofNat i)), .val (.int (Int32.ofNat (i + 1))), .val (.int (Int32.ofNat ((i + 1) / 65536))), .val (.int (Int32.ofNat ((i + 1) / 256 % 256))), .val (.int (Int32.ofNat ((i + 1) % 256))), .val (.ref a1598), .val (.int (Int32.ofNat (((((3 + dlen ((i + 1) / 65536)) + 1) + dlen ((i + 1) / 256 % 256)) + 1) + dlen ((i + 1) % 256)))), .val (.int (Int32.ofNat (tl (i + 1)))), .unset] [(.int (1 : Int32))]
  refine gIfNo W1791 d37_197 ((if0 _ _).trans (feq (by decide)).1) rfl ?_
  refine gAloadN W1791 d37_200 rfl rfl rfl ?_
  refine gAload W1791 d37_201 rfl rfl rfl ?_
  refine gIload W1791 d37_203 rfl rfl ?_
  refine gIconst (z := (3 : Int32)) W1791 d37_205 rfl rfl ?_
  have f1798 := f1785.keep kp1793
  have f1799 := f1786.keep kp1793 nin0
  have f1800 := f1787.keep kp1793 nin0
  have f1801 := f1788.keep kp1793 nin0
  have f1802 := f1789.keep kp1793 nin0
  refine wStatic (y := (⟨"com/example/hasset/hasset/model/GeneratedFleetAddressesPinLaw", "at", "(Ljava/lang/String;[CII)Z"⟩ : MethodName)) (Wd := 0) (argsL := [(.ref s), (.ref a1598), (.int (Int32.ofNat (tl (i + 1)))), (.int (3 : Int32))]) (rest := []) W1791 d37_206 (ow219 hw) (ow220 hw) (ow211 hw) (ow221 hw) (by decide) (Cb.ct (ofl_at l Z a0 hw hE (s) (r) (kr) ((tl (i + 1))) ((tx (i + 1))) (a1598) (k1602) ((bf 19 (tx (i + 1)))) (3) (fm) (z) h1792 W1791.old SC hz SF rf f1798 f1799 f1800 f1801 f1802 (by decide) hT (tx_len _) (bf_take (tx_len _)) (tx_ch (by omega)) ) (ow221 hw) (ow211 hw) hE (by decide) (by decide)) (by simp) rfl (lenOf opd28 rfl) rfl (Nat.le_of_eq rfl) (by decide) (by decide) rfl fun v1807 so1808 T1803 h1805 W1804 kp1806 sp1809 q1810 => ?_
  obtain ⟨rfl, rfl⟩ := q1810
  show Go K _ T1803 209 #[.val (.ref s), .val (.int (Int32.ofNat i)), .val (.int (Int32.ofNat (i + 1))), .val (.int (Int32.ofNat ((i + 1) / 65536))), .val (.int (Int32.ofNat ((i + 1) / 256 % 256))), .val (.int (Int32.ofNat ((i + 1) % 256))), .val (.ref a1598), .val (.int (Int32.ofNat (((((3 + dlen ((i + 1) / 65536)) + 1) + dlen ((i + 1) / 256 % 256)) + 1) + dlen ((i + 1) % 256)))), .val (.int (Int32.ofNat (tl (i + 1)))), .unset] [(.int (1 : Int32))]
  refine gIfNo W1804 d37_209 ((if0 _ _).trans (feq (by decide)).1) rfl ?_
  refine gIconst (z := (1 : Int32)) W1804 d37_212 rfl rfl ?_
  refine gGoto (pc' := 217) W1804 d37_213 (by decide) rfl ?_
  refine gIstore (ls' := #[.val (.ref s), .val (.int (Int32.ofNat i)), .val (.int (Int32.ofNat (i + 1))), .val (.int (Int32.ofNat ((i + 1) / 65536))), .val (.int (Int32.ofNat ((i + 1) / 256 % 256))), .val (.int (Int32.ofNat ((i + 1) % 256))), .val (.ref a1598), .val (.int (Int32.ofNat (((((3 + dlen ((i + 1) / 65536)) + 1) + dlen ((i + 1) / 256 % 256)) + 1) + dlen ((i + 1) % 256)))), .val (.int (Int32.ofNat (tl (i + 1)))), .val (.int (1 : Int32))]) W1804 d37_217 rfl rfl ?_
  refine gIload W1804 d37_219 rfl rfl ?_
  refine gIfNo W1804 d37_221 ((if0 _ _).trans (feq (by decide)).1) rfl ?_
  refine gAloadN W1804 d37_224 rfl rfl rfl ?_
  refine gAload W1804 d37_225 rfl rfl rfl ?_
  refine gIload W1804 d37_227 rfl rfl ?_
  refine gIconst (z := (4 : Int32)) W1804 d37_229 rfl rfl ?_
  have f1811 := f1798.keep kp1806
  have f1812 := f1799.keep kp1806 nin0
  have f1813 := f1800.keep kp1806 nin0
  have f1814 := f1801.keep kp1806 nin0
  have f1815 := f1802.keep kp1806 nin0
  refine wStatic (y := (⟨"com/example/hasset/hasset/model/GeneratedFleetAddressesPinLaw", "at", "(Ljava/lang/String;[CII)Z"⟩ : MethodName)) (Wd := 0) (argsL := [(.ref s), (.ref a1598), (.int (Int32.ofNat (tl (i + 1)))), (.int (4 : Int32))]) (rest := []) W1804 d37_230 (ow219 hw) (ow220 hw) (ow211 hw) (ow221 hw) (by decide) (Cb.ct (ofl_at l Z a0 hw hE (s) (r) (kr) ((tl (i + 1))) ((tx (i + 1))) (a1598) (k1602) ((bf 19 (tx (i + 1)))) (4) (fm) (z) h1805 W1804.old SC hz SF rf f1811 f1812 f1813 f1814 f1815 (by decide) hT (tx_len _) (bf_take (tx_len _)) (tx_ch (by omega)) ) (ow221 hw) (ow211 hw) hE (by decide) (by decide)) (by simp) rfl (lenOf opd28 rfl) rfl (Nat.le_of_eq rfl) (by decide) (by decide) rfl fun v1820 so1821 T1816 h1818 W1817 kp1819 sp1822 q1823 => ?_
  obtain ⟨rfl, rfl⟩ := q1823
  show Go K _ T1816 233 #[.val (.ref s), .val (.int (Int32.ofNat i)), .val (.int (Int32.ofNat (i + 1))), .val (.int (Int32.ofNat ((i + 1) / 65536))), .val (.int (Int32.ofNat ((i + 1) / 256 % 256))), .val (.int (Int32.ofNat ((i + 1) % 256))), .val (.ref a1598), .val (.int (Int32.ofNat (((((3 + dlen ((i + 1) / 65536)) + 1) + dlen ((i + 1) / 256 % 256)) + 1) + dlen ((i + 1) % 256)))), .val (.int (Int32.ofNat (tl (i + 1)))), .val (.int (1 : Int32))] [(.int (1 : Int32))]
  refine gIfNo W1817 d37_233 ((if0 _ _).trans (feq (by decide)).1) rfl ?_
  refine gAloadN W1817 d37_236 rfl rfl rfl ?_
  refine gAload W1817 d37_237 rfl rfl rfl ?_
  refine gIload W1817 d37_239 rfl rfl ?_
  refine gIconst (z := (5 : Int32)) W1817 d37_241 rfl rfl ?_
  have f1824 := f1811.keep kp1819
  have f1825 := f1812.keep kp1819 nin0
  have f1826 := f1813.keep kp1819 nin0
  have f1827 := f1814.keep kp1819 nin0
  have f1828 := f1815.keep kp1819 nin0
  refine wStatic (y := (⟨"com/example/hasset/hasset/model/GeneratedFleetAddressesPinLaw", "at", "(Ljava/lang/String;[CII)Z"⟩ : MethodName)) (Wd := 0) (argsL := [(.ref s), (.ref a1598), (.int (Int32.ofNat (tl (i + 1)))), (.int (5 : Int32))]) (rest := []) W1817 d37_242 (ow219 hw) (ow220 hw) (ow211 hw) (ow221 hw) (by decide) (Cb.ct (ofl_at l Z a0 hw hE (s) (r) (kr) ((tl (i + 1))) ((tx (i + 1))) (a1598) (k1602) ((bf 19 (tx (i + 1)))) (5) (fm) (z) h1818 W1817.old SC hz SF rf f1824 f1825 f1826 f1827 f1828 (by decide) hT (tx_len _) (bf_take (tx_len _)) (tx_ch (by omega)) ) (ow221 hw) (ow211 hw) hE (by decide) (by decide)) (by simp) rfl (lenOf opd28 rfl) rfl (Nat.le_of_eq rfl) (by decide) (by decide) rfl fun v1833 so1834 T1829 h1831 W1830 kp1832 sp1835 q1836 => ?_
  obtain ⟨rfl, rfl⟩ := q1836
  show Go K _ T1829 245 #[.val (.ref s), .val (.int (Int32.ofNat i)), .val (.int (Int32.ofNat (i + 1))), .val (.int (Int32.ofNat ((i + 1) / 65536))), .val (.int (Int32.ofNat ((i + 1) / 256 % 256))), .val (.int (Int32.ofNat ((i + 1) % 256))), .val (.ref a1598), .val (.int (Int32.ofNat (((((3 + dlen ((i + 1) / 65536)) + 1) + dlen ((i + 1) / 256 % 256)) + 1) + dlen ((i + 1) % 256)))), .val (.int (Int32.ofNat (tl (i + 1)))), .val (.int (1 : Int32))] [(.int (1 : Int32))]
  refine gIfNo W1830 d37_245 ((if0 _ _).trans (feq (by decide)).1) rfl ?_
  refine gAloadN W1830 d37_248 rfl rfl rfl ?_
  refine gAload W1830 d37_249 rfl rfl rfl ?_
  refine gIload W1830 d37_251 rfl rfl ?_
  refine gBipush (z := (6 : Int32)) W1830 d37_253 rfl rfl ?_
  have f1837 := f1824.keep kp1832
  have f1838 := f1825.keep kp1832 nin0
  have f1839 := f1826.keep kp1832 nin0
  have f1840 := f1827.keep kp1832 nin0
  have f1841 := f1828.keep kp1832 nin0
  refine wStatic (y := (⟨"com/example/hasset/hasset/model/GeneratedFleetAddressesPinLaw", "at", "(Ljava/lang/String;[CII)Z"⟩ : MethodName)) (Wd := 0) (argsL := [(.ref s), (.ref a1598), (.int (Int32.ofNat (tl (i + 1)))), (.int (6 : Int32))]) (rest := []) W1830 d37_255 (ow219 hw) (ow220 hw) (ow211 hw) (ow221 hw) (by decide) (Cb.ct (ofl_at l Z a0 hw hE (s) (r) (kr) ((tl (i + 1))) ((tx (i + 1))) (a1598) (k1602) ((bf 19 (tx (i + 1)))) (6) (fm) (z) h1831 W1830.old SC hz SF rf f1837 f1838 f1839 f1840 f1841 (by decide) hT (tx_len _) (bf_take (tx_len _)) (tx_ch (by omega)) ) (ow221 hw) (ow211 hw) hE (by decide) (by decide)) (by simp) rfl (lenOf opd28 rfl) rfl (Nat.le_of_eq rfl) (by decide) (by decide) rfl fun v1846 so1847 T1842 h1844 W1843 kp1845 sp1848 q1849 => ?_
  obtain ⟨rfl, rfl⟩ := q1849
  show Go K _ T1842 258 #[.val (.ref s), .val (.int (Int32.ofNat i)), .val (.int (Int32.ofNat (i + 1))), .val (.int (Int32.ofNat ((i + 1) / 65536))), .val (.int (Int32.ofNat ((i + 1) / 256 % 256))), .val (.int (Int32.ofNat ((i + 1) % 256))), .val (.ref a1598), .val (.int (Int32.ofNat (((((3 + dlen ((i + 1) / 65536)) + 1) + dlen ((i + 1) / 256 % 256)) + 1) + dlen ((i + 1) % 256)))), .val (.int (Int32.ofNat (tl (i + 1)))), .val (.int (1 : Int32))] [(.int (1 : Int32))]
  refine gIfNo W1843 d37_258 ((if0 _ _).trans (feq (by decide)).1) rfl ?_
  refine gAloadN W1843 d37_261 rfl rfl rfl ?_
  refine gAload W1843 d37_262 rfl rfl rfl ?_
  refine gIload W1843 d37_264 rfl rfl ?_
  refine gBipush (z := (7 : Int32)) W1843 d37_266 rfl rfl ?_
  have f1850 := f1837.keep kp1845
  have f1851 := f1838.keep kp1845 nin0
  have f1852 := f1839.keep kp1845 nin0
  have f1853 := f1840.keep kp1845 nin0
  have f1854 := f1841.keep kp1845 nin0
  refine wStatic (y := (⟨"com/example/hasset/hasset/model/GeneratedFleetAddressesPinLaw", "at", "(Ljava/lang/String;[CII)Z"⟩ : MethodName)) (Wd := 0) (argsL := [(.ref s), (.ref a1598), (.int (Int32.ofNat (tl (i + 1)))), (.int (7 : Int32))]) (rest := []) W1843 d37_268 (ow219 hw) (ow220 hw) (ow211 hw) (ow221 hw) (by decide) (Cb.ct (ofl_at l Z a0 hw hE (s) (r) (kr) ((tl (i + 1))) ((tx (i + 1))) (a1598) (k1602) ((bf 19 (tx (i + 1)))) (7) (fm) (z) h1844 W1843.old SC hz SF rf f1850 f1851 f1852 f1853 f1854 (by decide) hT (tx_len _) (bf_take (tx_len _)) (tx_ch (by omega)) ) (ow221 hw) (ow211 hw) hE (by decide) (by decide)) (by simp) rfl (lenOf opd28 rfl) rfl (Nat.le_of_eq rfl) (by decide) (by decide) rfl fun v1859 so1860 T1855 h1857 W1856 kp1858 sp1861 q1862 => ?_
  obtain ⟨rfl, rfl⟩ := q1862
  show Go K _ T1855 271 #[.val (.ref s), .val (.int (Int32.ofNat i)), .val (.int (Int32.ofNat (i + 1))), .val (.int (Int32.ofNat ((i + 1) / 65536))), .val (.int (Int32.ofNat ((i + 1) / 256 % 256))), .val (.int (Int32.ofNat ((i + 1) % 256))), .val (.ref a1598), .val (.int (Int32.ofNat (((((3 + dlen ((i + 1) / 65536)) + 1) + dlen ((i + 1) / 256 % 256)) + 1) + dlen ((i + 1) % 256)))), .val (.int (Int32.ofNat (tl (i + 1)))), .val (.int (1 : Int32))] [(.int (1 : Int32))]
  refine gIfNo W1856 d37_271 ((if0 _ _).trans (feq (by decide)).1) rfl ?_
  refine gIconst (z := (1 : Int32)) W1856 d37_274 rfl rfl ?_
  refine gGoto (pc' := 279) W1856 d37_275 (by decide) rfl ?_
  refine gIstore (ls' := #[.val (.ref s), .val (.int (Int32.ofNat i)), .val (.int (Int32.ofNat (i + 1))), .val (.int (Int32.ofNat ((i + 1) / 65536))), .val (.int (Int32.ofNat ((i + 1) / 256 % 256))), .val (.int (Int32.ofNat ((i + 1) % 256))), .val (.ref a1598), .val (.int (Int32.ofNat (((((3 + dlen ((i + 1) / 65536)) + 1) + dlen ((i + 1) / 256 % 256)) + 1) + dlen ((i + 1) % 256)))), .val (.int (Int32.ofNat (tl (i + 1)))), .val (.int (1 : Int32))]) W1856 d37_279 rfl rfl ?_
  refine gIload W1856 d37_281 rfl rfl ?_
  refine gIfNo W1856 d37_283 ((if0 _ _).trans (feq (by decide)).1) rfl ?_
  refine gAloadN W1856 d37_286 rfl rfl rfl ?_
  refine gAload W1856 d37_287 rfl rfl rfl ?_
  refine gIload W1856 d37_289 rfl rfl ?_
  refine gBipush (z := (8 : Int32)) W1856 d37_291 rfl rfl ?_
  have f1863 := f1850.keep kp1858
  have f1864 := f1851.keep kp1858 nin0
  have f1865 := f1852.keep kp1858 nin0
  have f1866 := f1853.keep kp1858 nin0
  have f1867 := f1854.keep kp1858 nin0
  refine wStatic (y := (⟨"com/example/hasset/hasset/model/GeneratedFleetAddressesPinLaw", "at", "(Ljava/lang/String;[CII)Z"⟩ : MethodName)) (Wd := 0) (argsL := [(.ref s), (.ref a1598), (.int (Int32.ofNat (tl (i + 1)))), (.int (8 : Int32))]) (rest := []) W1856 d37_293 (ow219 hw) (ow220 hw) (ow211 hw) (ow221 hw) (by decide) (Cb.ct (ofl_at l Z a0 hw hE (s) (r) (kr) ((tl (i + 1))) ((tx (i + 1))) (a1598) (k1602) ((bf 19 (tx (i + 1)))) (8) (fm) (z) h1857 W1856.old SC hz SF rf f1863 f1864 f1865 f1866 f1867 (by decide) hT (tx_len _) (bf_take (tx_len _)) (tx_ch (by omega)) ) (ow221 hw) (ow211 hw) hE (by decide) (by decide)) (by simp) rfl (lenOf opd28 rfl) rfl (Nat.le_of_eq rfl) (by decide) (by decide) rfl fun v1872 so1873 T1868 h1870 W1869 kp1871 sp1874 q1875 => ?_
  obtain ⟨rfl, rfl⟩ := q1875
  show Go K _ T1868 296 #[.val (.ref s), .val (.int (Int32.ofNat i)), .val (.int (Int32.ofNat (i + 1))), .val (.int (Int32.ofNat ((i + 1) / 65536))), .val (.int (Int32.ofNat ((i + 1) / 256 % 256))), .val (.int (Int32.ofNat ((i + 1) % 256))), .val (.ref a1598), .val (.int (Int32.ofNat (((((3 + dlen ((i + 1) / 65536)) + 1) + dlen ((i + 1) / 256 % 256)) + 1) + dlen ((i + 1) % 256)))), .val (.int (Int32.ofNat (tl (i + 1)))), .val (.int (1 : Int32))] [(.int (1 : Int32))]
  refine gIfNo W1869 d37_296 ((if0 _ _).trans (feq (by decide)).1) rfl ?_
  refine gAloadN W1869 d37_299 rfl rfl rfl ?_
  refine gAload W1869 d37_300 rfl rfl rfl ?_
  refine gIload W1869 d37_302 rfl rfl ?_
  refine gBipush (z := (9 : Int32)) W1869 d37_304 rfl rfl ?_
  have f1876 := f1863.keep kp1871
  have f1877 := f1864.keep kp1871 nin0
  have f1878 := f1865.keep kp1871 nin0
  have f1879 := f1866.keep kp1871 nin0
  have f1880 := f1867.keep kp1871 nin0
  refine wStatic (y := (⟨"com/example/hasset/hasset/model/GeneratedFleetAddressesPinLaw", "at", "(Ljava/lang/String;[CII)Z"⟩ : MethodName)) (Wd := 0) (argsL := [(.ref s), (.ref a1598), (.int (Int32.ofNat (tl (i + 1)))), (.int (9 : Int32))]) (rest := []) W1869 d37_306 (ow219 hw) (ow220 hw) (ow211 hw) (ow221 hw) (by decide) (Cb.ct (ofl_at l Z a0 hw hE (s) (r) (kr) ((tl (i + 1))) ((tx (i + 1))) (a1598) (k1602) ((bf 19 (tx (i + 1)))) (9) (fm) (z) h1870 W1869.old SC hz SF rf f1876 f1877 f1878 f1879 f1880 (by decide) hT (tx_len _) (bf_take (tx_len _)) (tx_ch (by omega)) ) (ow221 hw) (ow211 hw) hE (by decide) (by decide)) (by simp) rfl (lenOf opd28 rfl) rfl (Nat.le_of_eq rfl) (by decide) (by decide) rfl fun v1885 so1886 T1881 h1883 W1882 kp1884 sp1887 q1888 => ?_
  obtain ⟨rfl, rfl⟩ := q1888
  show Go K _ T1881 309 #[.val (.ref s), .val (.int (Int32.ofNat i)), .val (.int (Int32.ofNat (i + 1))), .val (.int (Int32.ofNat ((i + 1) / 65536))), .val (.int (Int32.ofNat ((i + 1) / 256 % 256))), .val (.int (Int32.ofNat ((i + 1) % 256))), .val (.ref a1598), .val (.int (Int32.ofNat (((((3 + dlen ((i + 1) / 65536)) + 1) + dlen ((i + 1) / 256 % 256)) + 1) + dlen ((i + 1) % 256)))), .val (.int (Int32.ofNat (tl (i + 1)))), .val (.int (1 : Int32))] [(.int (1 : Int32))]
  refine gIfNo W1882 d37_309 ((if0 _ _).trans (feq (by decide)).1) rfl ?_
  refine gAloadN W1882 d37_312 rfl rfl rfl ?_
  refine gAload W1882 d37_313 rfl rfl rfl ?_
  refine gIload W1882 d37_315 rfl rfl ?_
  refine gBipush (z := (10 : Int32)) W1882 d37_317 rfl rfl ?_
  have f1889 := f1876.keep kp1884
  have f1890 := f1877.keep kp1884 nin0
  have f1891 := f1878.keep kp1884 nin0
  have f1892 := f1879.keep kp1884 nin0
  have f1893 := f1880.keep kp1884 nin0
  refine wStatic (y := (⟨"com/example/hasset/hasset/model/GeneratedFleetAddressesPinLaw", "at", "(Ljava/lang/String;[CII)Z"⟩ : MethodName)) (Wd := 0) (argsL := [(.ref s), (.ref a1598), (.int (Int32.ofNat (tl (i + 1)))), (.int (10 : Int32))]) (rest := []) W1882 d37_319 (ow219 hw) (ow220 hw) (ow211 hw) (ow221 hw) (by decide) (Cb.ct (ofl_at l Z a0 hw hE (s) (r) (kr) ((tl (i + 1))) ((tx (i + 1))) (a1598) (k1602) ((bf 19 (tx (i + 1)))) (10) (fm) (z) h1883 W1882.old SC hz SF rf f1889 f1890 f1891 f1892 f1893 (by decide) hT (tx_len _) (bf_take (tx_len _)) (tx_ch (by omega)) ) (ow221 hw) (ow211 hw) hE (by decide) (by decide)) (by simp) rfl (lenOf opd28 rfl) rfl (Nat.le_of_eq rfl) (by decide) (by decide) rfl fun v1898 so1899 T1894 h1896 W1895 kp1897 sp1900 q1901 => ?_
  obtain ⟨rfl, rfl⟩ := q1901
  show Go K _ T1894 322 #[.val (.ref s), .val (.int (Int32.ofNat i)), .val (.int (Int32.ofNat (i + 1))), .val (.int (Int32.ofNat ((i + 1) / 65536))), .val (.int (Int32.ofNat ((i + 1) / 256 % 256))), .val (.int (Int32.ofNat ((i + 1) % 256))), .val (.ref a1598), .val (.int (Int32.ofNat (((((3 + dlen ((i + 1) / 65536)) + 1) + dlen ((i + 1) / 256 % 256)) + 1) + dlen ((i + 1) % 256)))), .val (.int (Int32.ofNat (tl (i + 1)))), .val (.int (1 : Int32))] [(.int (1 : Int32))]
  refine gIfNo W1895 d37_322 ((if0 _ _).trans (feq (by decide)).1) rfl ?_
  refine gAloadN W1895 d37_325 rfl rfl rfl ?_
  refine gAload W1895 d37_326 rfl rfl rfl ?_
  refine gIload W1895 d37_328 rfl rfl ?_
  refine gBipush (z := (11 : Int32)) W1895 d37_330 rfl rfl ?_
  have f1902 := f1889.keep kp1897
  have f1903 := f1890.keep kp1897 nin0
  have f1904 := f1891.keep kp1897 nin0
  have f1905 := f1892.keep kp1897 nin0
  have f1906 := f1893.keep kp1897 nin0
  refine wStatic (y := (⟨"com/example/hasset/hasset/model/GeneratedFleetAddressesPinLaw", "at", "(Ljava/lang/String;[CII)Z"⟩ : MethodName)) (Wd := 0) (argsL := [(.ref s), (.ref a1598), (.int (Int32.ofNat (tl (i + 1)))), (.int (11 : Int32))]) (rest := []) W1895 d37_332 (ow219 hw) (ow220 hw) (ow211 hw) (ow221 hw) (by decide) (Cb.ct (ofl_at l Z a0 hw hE (s) (r) (kr) ((tl (i + 1))) ((tx (i + 1))) (a1598) (k1602) ((bf 19 (tx (i + 1)))) (11) (fm) (z) h1896 W1895.old SC hz SF rf f1902 f1903 f1904 f1905 f1906 (by decide) hT (tx_len _) (bf_take (tx_len _)) (tx_ch (by omega)) ) (ow221 hw) (ow211 hw) hE (by decide) (by decide)) (by simp) rfl (lenOf opd28 rfl) rfl (Nat.le_of_eq rfl) (by decide) (by decide) rfl fun v1911 so1912 T1907 h1909 W1908 kp1910 sp1913 q1914 => ?_
  obtain ⟨rfl, rfl⟩ := q1914
  show Go K _ T1907 335 #[.val (.ref s), .val (.int (Int32.ofNat i)), .val (.int (Int32.ofNat (i + 1))), .val (.int (Int32.ofNat ((i + 1) / 65536))), .val (.int (Int32.ofNat ((i + 1) / 256 % 256))), .val (.int (Int32.ofNat ((i + 1) % 256))), .val (.ref a1598), .val (.int (Int32.ofNat (((((3 + dlen ((i + 1) / 65536)) + 1) + dlen ((i + 1) / 256 % 256)) + 1) + dlen ((i + 1) % 256)))), .val (.int (Int32.ofNat (tl (i + 1)))), .val (.int (1 : Int32))] [(.int (1 : Int32))]
  refine gIfNo W1908 d37_335 ((if0 _ _).trans (feq (by decide)).1) rfl ?_
  refine gIconst (z := (1 : Int32)) W1908 d37_338 rfl rfl ?_
  refine gGoto (pc' := 343) W1908 d37_339 (by decide) rfl ?_
  refine gIstore (ls' := #[.val (.ref s), .val (.int (Int32.ofNat i)), .val (.int (Int32.ofNat (i + 1))), .val (.int (Int32.ofNat ((i + 1) / 65536))), .val (.int (Int32.ofNat ((i + 1) / 256 % 256))), .val (.int (Int32.ofNat ((i + 1) % 256))), .val (.ref a1598), .val (.int (Int32.ofNat (((((3 + dlen ((i + 1) / 65536)) + 1) + dlen ((i + 1) / 256 % 256)) + 1) + dlen ((i + 1) % 256)))), .val (.int (Int32.ofNat (tl (i + 1)))), .val (.int (1 : Int32))]) W1908 d37_343 rfl rfl ?_
  refine gIload W1908 d37_345 rfl rfl ?_
  refine gIfNo W1908 d37_347 ((if0 _ _).trans (feq (by decide)).1) rfl ?_
  refine gAloadN W1908 d37_350 rfl rfl rfl ?_
  refine gAload W1908 d37_351 rfl rfl rfl ?_
  refine gIload W1908 d37_353 rfl rfl ?_
  refine gBipush (z := (12 : Int32)) W1908 d37_355 rfl rfl ?_
  have f1915 := f1902.keep kp1910
  have f1916 := f1903.keep kp1910 nin0
  have f1917 := f1904.keep kp1910 nin0
  have f1918 := f1905.keep kp1910 nin0
  have f1919 := f1906.keep kp1910 nin0
  refine wStatic (y := (⟨"com/example/hasset/hasset/model/GeneratedFleetAddressesPinLaw", "at", "(Ljava/lang/String;[CII)Z"⟩ : MethodName)) (Wd := 0) (argsL := [(.ref s), (.ref a1598), (.int (Int32.ofNat (tl (i + 1)))), (.int (12 : Int32))]) (rest := []) W1908 d37_357 (ow219 hw) (ow220 hw) (ow211 hw) (ow221 hw) (by decide) (Cb.ct (ofl_at l Z a0 hw hE (s) (r) (kr) ((tl (i + 1))) ((tx (i + 1))) (a1598) (k1602) ((bf 19 (tx (i + 1)))) (12) (fm) (z) h1909 W1908.old SC hz SF rf f1915 f1916 f1917 f1918 f1919 (by decide) hT (tx_len _) (bf_take (tx_len _)) (tx_ch (by omega)) ) (ow221 hw) (ow211 hw) hE (by decide) (by decide)) (by simp) rfl (lenOf opd28 rfl) rfl (Nat.le_of_eq rfl) (by decide) (by decide) rfl fun v1924 so1925 T1920 h1922 W1921 kp1923 sp1926 q1927 => ?_
  obtain ⟨rfl, rfl⟩ := q1927
  show Go K _ T1920 360 #[.val (.ref s), .val (.int (Int32.ofNat i)), .val (.int (Int32.ofNat (i + 1))), .val (.int (Int32.ofNat ((i + 1) / 65536))), .val (.int (Int32.ofNat ((i + 1) / 256 % 256))), .val (.int (Int32.ofNat ((i + 1) % 256))), .val (.ref a1598), .val (.int (Int32.ofNat (((((3 + dlen ((i + 1) / 65536)) + 1) + dlen ((i + 1) / 256 % 256)) + 1) + dlen ((i + 1) % 256)))), .val (.int (Int32.ofNat (tl (i + 1)))), .val (.int (1 : Int32))] [(.int (1 : Int32))]
  refine gIfNo W1921 d37_360 ((if0 _ _).trans (feq (by decide)).1) rfl ?_
  refine gAloadN W1921 d37_363 rfl rfl rfl ?_
  refine gAload W1921 d37_364 rfl rfl rfl ?_
  refine gIload W1921 d37_366 rfl rfl ?_
  refine gBipush (z := (13 : Int32)) W1921 d37_368 rfl rfl ?_
  have f1928 := f1915.keep kp1923
  have f1929 := f1916.keep kp1923 nin0
  have f1930 := f1917.keep kp1923 nin0
  have f1931 := f1918.keep kp1923 nin0
  have f1932 := f1919.keep kp1923 nin0
  refine wStatic (y := (⟨"com/example/hasset/hasset/model/GeneratedFleetAddressesPinLaw", "at", "(Ljava/lang/String;[CII)Z"⟩ : MethodName)) (Wd := 0) (argsL := [(.ref s), (.ref a1598), (.int (Int32.ofNat (tl (i + 1)))), (.int (13 : Int32))]) (rest := []) W1921 d37_370 (ow219 hw) (ow220 hw) (ow211 hw) (ow221 hw) (by decide) (Cb.ct (ofl_at l Z a0 hw hE (s) (r) (kr) ((tl (i + 1))) ((tx (i + 1))) (a1598) (k1602) ((bf 19 (tx (i + 1)))) (13) (fm) (z) h1922 W1921.old SC hz SF rf f1928 f1929 f1930 f1931 f1932 (by decide) hT (tx_len _) (bf_take (tx_len _)) (tx_ch (by omega)) ) (ow221 hw) (ow211 hw) hE (by decide) (by decide)) (by simp) rfl (lenOf opd28 rfl) rfl (Nat.le_of_eq rfl) (by decide) (by decide) rfl fun v1937 so1938 T1933 h1935 W1934 kp1936 sp1939 q1940 => ?_
  obtain ⟨rfl, rfl⟩ := q1940
  show Go K _ T1933 373 #[.val (.ref s), .val (.int (Int32.ofNat i)), .val (.int (Int32.ofNat (i + 1))), .val (.int (Int32.ofNat ((i + 1) / 65536))), .val (.int (Int32.ofNat ((i + 1) / 256 % 256))), .val (.int (Int32.ofNat ((i + 1) % 256))), .val (.ref a1598), .val (.int (Int32.ofNat (((((3 + dlen ((i + 1) / 65536)) + 1) + dlen ((i + 1) / 256 % 256)) + 1) + dlen ((i + 1) % 256)))), .val (.int (Int32.ofNat (tl (i + 1)))), .val (.int (1 : Int32))] [(.int (1 : Int32))]
  refine gIfNo W1934 d37_373 ((if0 _ _).trans (feq (by decide)).1) rfl ?_
  refine gAloadN W1934 d37_376 rfl rfl rfl ?_
  refine gAload W1934 d37_377 rfl rfl rfl ?_
  refine gIload W1934 d37_379 rfl rfl ?_
  refine gBipush (z := (14 : Int32)) W1934 d37_381 rfl rfl ?_
  have f1941 := f1928.keep kp1936
  have f1942 := f1929.keep kp1936 nin0
  have f1943 := f1930.keep kp1936 nin0
  have f1944 := f1931.keep kp1936 nin0
  have f1945 := f1932.keep kp1936 nin0
  refine wStatic (y := (⟨"com/example/hasset/hasset/model/GeneratedFleetAddressesPinLaw", "at", "(Ljava/lang/String;[CII)Z"⟩ : MethodName)) (Wd := 0) (argsL := [(.ref s), (.ref a1598), (.int (Int32.ofNat (tl (i + 1)))), (.int (14 : Int32))]) (rest := []) W1934 d37_383 (ow219 hw) (ow220 hw) (ow211 hw) (ow221 hw) (by decide) (Cb.ct (ofl_at l Z a0 hw hE (s) (r) (kr) ((tl (i + 1))) ((tx (i + 1))) (a1598) (k1602) ((bf 19 (tx (i + 1)))) (14) (fm) (z) h1935 W1934.old SC hz SF rf f1941 f1942 f1943 f1944 f1945 (by decide) hT (tx_len _) (bf_take (tx_len _)) (tx_ch (by omega)) ) (ow221 hw) (ow211 hw) hE (by decide) (by decide)) (by simp) rfl (lenOf opd28 rfl) rfl (Nat.le_of_eq rfl) (by decide) (by decide) rfl fun v1950 so1951 T1946 h1948 W1947 kp1949 sp1952 q1953 => ?_
  obtain ⟨rfl, rfl⟩ := q1953
  show Go K _ T1946 386 #[.val (.ref s), .val (.int (Int32.ofNat i)), .val (.int (Int32.ofNat (i + 1))), .val (.int (Int32.ofNat ((i + 1) / 65536))), .val (.int (Int32.ofNat ((i + 1) / 256 % 256))), .val (.int (Int32.ofNat ((i + 1) % 256))), .val (.ref a1598), .val (.int (Int32.ofNat (((((3 + dlen ((i + 1) / 65536)) + 1) + dlen ((i + 1) / 256 % 256)) + 1) + dlen ((i + 1) % 256)))), .val (.int (Int32.ofNat (tl (i + 1)))), .val (.int (1 : Int32))] [(.int (1 : Int32))]
  refine gIfNo W1947 d37_386 ((if0 _ _).trans (feq (by decide)).1) rfl ?_
  refine gAloadN W1947 d37_389 rfl rfl rfl ?_
  refine gAload W1947 d37_390 rfl rfl rfl ?_
  refine gIload W1947 d37_392 rfl rfl ?_
  refine gBipush (z := (15 : Int32)) W1947 d37_394 rfl rfl ?_
  have f1954 := f1941.keep kp1949
  have f1955 := f1942.keep kp1949 nin0
  have f1956 := f1943.keep kp1949 nin0
  have f1957 := f1944.keep kp1949 nin0
  have f1958 := f1945.keep kp1949 nin0
  refine wStatic (y := (⟨"com/example/hasset/hasset/model/GeneratedFleetAddressesPinLaw", "at", "(Ljava/lang/String;[CII)Z"⟩ : MethodName)) (Wd := 0) (argsL := [(.ref s), (.ref a1598), (.int (Int32.ofNat (tl (i + 1)))), (.int (15 : Int32))]) (rest := []) W1947 d37_396 (ow219 hw) (ow220 hw) (ow211 hw) (ow221 hw) (by decide) (Cb.ct (ofl_at l Z a0 hw hE (s) (r) (kr) ((tl (i + 1))) ((tx (i + 1))) (a1598) (k1602) ((bf 19 (tx (i + 1)))) (15) (fm) (z) h1948 W1947.old SC hz SF rf f1954 f1955 f1956 f1957 f1958 (by decide) hT (tx_len _) (bf_take (tx_len _)) (tx_ch (by omega)) ) (ow221 hw) (ow211 hw) hE (by decide) (by decide)) (by simp) rfl (lenOf opd28 rfl) rfl (Nat.le_of_eq rfl) (by decide) (by decide) rfl fun v1963 so1964 T1959 h1961 W1960 kp1962 sp1965 q1966 => ?_
  obtain ⟨rfl, rfl⟩ := q1966
  show Go K _ T1959 399 #[.val (.ref s), .val (.int (Int32.ofNat i)), .val (.int (Int32.ofNat (i + 1))), .val (.int (Int32.ofNat ((i + 1) / 65536))), .val (.int (Int32.ofNat ((i + 1) / 256 % 256))), .val (.int (Int32.ofNat ((i + 1) % 256))), .val (.ref a1598), .val (.int (Int32.ofNat (((((3 + dlen ((i + 1) / 65536)) + 1) + dlen ((i + 1) / 256 % 256)) + 1) + dlen ((i + 1) % 256)))), .val (.int (Int32.ofNat (tl (i + 1)))), .val (.int (1 : Int32))] [(.int (1 : Int32))]
  refine gIfNo W1960 d37_399 ((if0 _ _).trans (feq (by decide)).1) rfl ?_
  refine gIconst (z := (1 : Int32)) W1960 d37_402 rfl rfl ?_
  refine gGoto (pc' := 407) W1960 d37_403 (by decide) rfl ?_
  refine gIstore (ls' := #[.val (.ref s), .val (.int (Int32.ofNat i)), .val (.int (Int32.ofNat (i + 1))), .val (.int (Int32.ofNat ((i + 1) / 65536))), .val (.int (Int32.ofNat ((i + 1) / 256 % 256))), .val (.int (Int32.ofNat ((i + 1) % 256))), .val (.ref a1598), .val (.int (Int32.ofNat (((((3 + dlen ((i + 1) / 65536)) + 1) + dlen ((i + 1) / 256 % 256)) + 1) + dlen ((i + 1) % 256)))), .val (.int (Int32.ofNat (tl (i + 1)))), .val (.int (1 : Int32))]) W1960 d37_407 rfl rfl ?_
  refine gIload W1960 d37_409 rfl rfl ?_
  refine gIfNo W1960 d37_411 ((if0 _ _).trans (feq (by decide)).1) rfl ?_
  refine gAloadN W1960 d37_414 rfl rfl rfl ?_
  refine gAload W1960 d37_415 rfl rfl rfl ?_
  refine gIload W1960 d37_417 rfl rfl ?_
  refine gBipush (z := (16 : Int32)) W1960 d37_419 rfl rfl ?_
  have f1967 := f1954.keep kp1962
  have f1968 := f1955.keep kp1962 nin0
  have f1969 := f1956.keep kp1962 nin0
  have f1970 := f1957.keep kp1962 nin0
  have f1971 := f1958.keep kp1962 nin0
  refine wStatic (y := (⟨"com/example/hasset/hasset/model/GeneratedFleetAddressesPinLaw", "at", "(Ljava/lang/String;[CII)Z"⟩ : MethodName)) (Wd := 0) (argsL := [(.ref s), (.ref a1598), (.int (Int32.ofNat (tl (i + 1)))), (.int (16 : Int32))]) (rest := []) W1960 d37_421 (ow219 hw) (ow220 hw) (ow211 hw) (ow221 hw) (by decide) (Cb.ct (ofl_at l Z a0 hw hE (s) (r) (kr) ((tl (i + 1))) ((tx (i + 1))) (a1598) (k1602) ((bf 19 (tx (i + 1)))) (16) (fm) (z) h1961 W1960.old SC hz SF rf f1967 f1968 f1969 f1970 f1971 (by decide) hT (tx_len _) (bf_take (tx_len _)) (tx_ch (by omega)) ) (ow221 hw) (ow211 hw) hE (by decide) (by decide)) (by simp) rfl (lenOf opd28 rfl) rfl (Nat.le_of_eq rfl) (by decide) (by decide) rfl fun v1976 so1977 T1972 h1974 W1973 kp1975 sp1978 q1979 => ?_
  obtain ⟨rfl, rfl⟩ := q1979
  show Go K _ T1972 424 #[.val (.ref s), .val (.int (Int32.ofNat i)), .val (.int (Int32.ofNat (i + 1))), .val (.int (Int32.ofNat ((i + 1) / 65536))), .val (.int (Int32.ofNat ((i + 1) / 256 % 256))), .val (.int (Int32.ofNat ((i + 1) % 256))), .val (.ref a1598), .val (.int (Int32.ofNat (((((3 + dlen ((i + 1) / 65536)) + 1) + dlen ((i + 1) / 256 % 256)) + 1) + dlen ((i + 1) % 256)))), .val (.int (Int32.ofNat (tl (i + 1)))), .val (.int (1 : Int32))] [(.int (1 : Int32))]
  refine gIfNo W1973 d37_424 ((if0 _ _).trans (feq (by decide)).1) rfl ?_
  refine gAloadN W1973 d37_427 rfl rfl rfl ?_
  refine gAload W1973 d37_428 rfl rfl rfl ?_
  refine gIload W1973 d37_430 rfl rfl ?_
  refine gBipush (z := (17 : Int32)) W1973 d37_432 rfl rfl ?_
  have f1980 := f1967.keep kp1975
  have f1981 := f1968.keep kp1975 nin0
  have f1982 := f1969.keep kp1975 nin0
  have f1983 := f1970.keep kp1975 nin0
  have f1984 := f1971.keep kp1975 nin0
  refine wStatic (y := (⟨"com/example/hasset/hasset/model/GeneratedFleetAddressesPinLaw", "at", "(Ljava/lang/String;[CII)Z"⟩ : MethodName)) (Wd := 0) (argsL := [(.ref s), (.ref a1598), (.int (Int32.ofNat (tl (i + 1)))), (.int (17 : Int32))]) (rest := []) W1973 d37_434 (ow219 hw) (ow220 hw) (ow211 hw) (ow221 hw) (by decide) (Cb.ct (ofl_at l Z a0 hw hE (s) (r) (kr) ((tl (i + 1))) ((tx (i + 1))) (a1598) (k1602) ((bf 19 (tx (i + 1)))) (17) (fm) (z) h1974 W1973.old SC hz SF rf f1980 f1981 f1982 f1983 f1984 (by decide) hT (tx_len _) (bf_take (tx_len _)) (tx_ch (by omega)) ) (ow221 hw) (ow211 hw) hE (by decide) (by decide)) (by simp) rfl (lenOf opd28 rfl) rfl (Nat.le_of_eq rfl) (by decide) (by decide) rfl fun v1989 so1990 T1985 h1987 W1986 kp1988 sp1991 q1992 => ?_
  obtain ⟨rfl, rfl⟩ := q1992
  show Go K _ T1985 437 #[.val (.ref s), .val (.int (Int32.ofNat i)), .val (.int (Int32.ofNat (i + 1))), .val (.int (Int32.ofNat ((i + 1) / 65536))), .val (.int (Int32.ofNat ((i + 1) / 256 % 256))), .val (.int (Int32.ofNat ((i + 1) % 256))), .val (.ref a1598), .val (.int (Int32.ofNat (((((3 + dlen ((i + 1) / 65536)) + 1) + dlen ((i + 1) / 256 % 256)) + 1) + dlen ((i + 1) % 256)))), .val (.int (Int32.ofNat (tl (i + 1)))), .val (.int (1 : Int32))] [(.int (1 : Int32))]
  refine gIfNo W1986 d37_437 ((if0 _ _).trans (feq (by decide)).1) rfl ?_
  refine gAloadN W1986 d37_440 rfl rfl rfl ?_
  refine gAload W1986 d37_441 rfl rfl rfl ?_
  refine gIload W1986 d37_443 rfl rfl ?_
  refine gBipush (z := (18 : Int32)) W1986 d37_445 rfl rfl ?_
  have f1993 := f1980.keep kp1988
  have f1994 := f1981.keep kp1988 nin0
  have f1995 := f1982.keep kp1988 nin0
  have f1996 := f1983.keep kp1988 nin0
  have f1997 := f1984.keep kp1988 nin0
  refine wStatic (y := (⟨"com/example/hasset/hasset/model/GeneratedFleetAddressesPinLaw", "at", "(Ljava/lang/String;[CII)Z"⟩ : MethodName)) (Wd := 0) (argsL := [(.ref s), (.ref a1598), (.int (Int32.ofNat (tl (i + 1)))), (.int (18 : Int32))]) (rest := []) W1986 d37_447 (ow219 hw) (ow220 hw) (ow211 hw) (ow221 hw) (by decide) (Cb.ct (ofl_at l Z a0 hw hE (s) (r) (kr) ((tl (i + 1))) ((tx (i + 1))) (a1598) (k1602) ((bf 19 (tx (i + 1)))) (18) (fm) (z) h1987 W1986.old SC hz SF rf f1993 f1994 f1995 f1996 f1997 (by decide) hT (tx_len _) (bf_take (tx_len _)) (tx_ch (by omega)) ) (ow221 hw) (ow211 hw) hE (by decide) (by decide)) (by simp) rfl (lenOf opd28 rfl) rfl (Nat.le_of_eq rfl) (by decide) (by decide) rfl fun v2002 so2003 T1998 h2000 W1999 kp2001 sp2004 q2005 => ?_
  obtain ⟨rfl, rfl⟩ := q2005
  show Go K _ T1998 450 #[.val (.ref s), .val (.int (Int32.ofNat i)), .val (.int (Int32.ofNat (i + 1))), .val (.int (Int32.ofNat ((i + 1) / 65536))), .val (.int (Int32.ofNat ((i + 1) / 256 % 256))), .val (.int (Int32.ofNat ((i + 1) % 256))), .val (.ref a1598), .val (.int (Int32.ofNat (((((3 + dlen ((i + 1) / 65536)) + 1) + dlen ((i + 1) / 256 % 256)) + 1) + dlen ((i + 1) % 256)))), .val (.int (Int32.ofNat (tl (i + 1)))), .val (.int (1 : Int32))] [(.int (1 : Int32))]
  refine gIfNo W1999 d37_450 ((if0 _ _).trans (feq (by decide)).1) rfl ?_
  refine gIconst (z := (1 : Int32)) W1999 d37_453 rfl rfl ?_
  refine gGoto (pc' := 458) W1999 d37_454 (by decide) rfl ?_
  refine gIstore (ls' := #[.val (.ref s), .val (.int (Int32.ofNat i)), .val (.int (Int32.ofNat (i + 1))), .val (.int (Int32.ofNat ((i + 1) / 65536))), .val (.int (Int32.ofNat ((i + 1) / 256 % 256))), .val (.int (Int32.ofNat ((i + 1) % 256))), .val (.ref a1598), .val (.int (Int32.ofNat (((((3 + dlen ((i + 1) / 65536)) + 1) + dlen ((i + 1) / 256 % 256)) + 1) + dlen ((i + 1) % 256)))), .val (.int (Int32.ofNat (tl (i + 1)))), .val (.int (1 : Int32))]) W1999 d37_458 rfl rfl ?_
  refine gIload W1999 d37_460 rfl rfl ?_
  exact wRetI (so := []) (t := .boolean) W1999 d37_462 (by simp) rfl (by decide) (by decide) (fun _ q => nomatch q) ⟨rfl, rfl⟩
-- CUT
theorem ow0 {a0 : Array Value} {Z : State} (hw : ∀ d ∈ tables_1, d.before a0 Z = true) : (Jvm.Cond.constant "com/example/hasset/hasset/model/GeneratedFleetAddressesPinLaw" (7 : Nat) (2147483647 : Int32)).before a0 Z = true := hw _ (List.mem_of_getElem? (i := 0) rfl)
theorem ow1 {a0 : Array Value} {Z : State} (hw : ∀ d ∈ tables_1, d.before a0 Z = true) : (Jvm.Cond.constant "com/example/hasset/hasset/model/GeneratedFleetAddressesPinLaw" (10 : Nat) (16777216 : Int32)).before a0 Z = true := hw _ (List.mem_of_getElem? (i := 1) rfl)
theorem ow2 {a0 : Array Value} {Z : State} (hw : ∀ d ∈ tables_1, d.before a0 Z = true) : (Jvm.Cond.methodLink "com/example/hasset/hasset/model/GeneratedFleetAddressesPinLaw" (11 : Nat) ({ cls := "com/example/hasset/hasset/model/GeneratedFleet", name := "addresses", desc := "(I)Ljava/util/List;" } : Jvm.MethodName)).before a0 Z = true := hw _ (List.mem_of_getElem? (i := 2) rfl)
theorem ow5 {a0 : Array Value} {Z : State} (hw : ∀ d ∈ tables_1, d.before a0 Z = true) : (Jvm.Cond.code ({ cls := "com/example/hasset/hasset/model/GeneratedFleet", name := "addresses", desc := "(I)Ljava/util/List;" } : Jvm.MethodName) prog_13_method_3_code (1 : Nat) (Option.some (Jvm.ClassFile.FieldType.object "java/util/List"))).before a0 Z = true := hw _ (List.mem_of_getElem? (i := 5) rfl)
theorem opd29 : parseMethodDescriptor "(I)Ljava/util/List;" = some ⟨[.int], some (.object "java/util/List")⟩ := by decide +kernel
theorem ow3 {a0 : Array Value} {Z : State} (hw : ∀ d ∈ tables_1, d.before a0 Z = true) : (Jvm.Cond.static ({ cls := "com/example/hasset/hasset/model/GeneratedFleet", name := "addresses", desc := "(I)Ljava/util/List;" } : Jvm.MethodName)).before a0 Z = true := hw _ (List.mem_of_getElem? (i := 3) rfl)
theorem ow39 {a0 : Array Value} {Z : State} (hw : ∀ d ∈ tables_1, d.before a0 Z = true) : (Jvm.Cond.code ({ cls := "com/example/hasset/hasset/model/GeneratedFleet$Addresses", name := "size", desc := "()I" } : Jvm.MethodName) prog_14_method_3_code (1 : Nat) (Option.some Jvm.ClassFile.FieldType.int)).before a0 Z = true := hw _ (List.mem_of_getElem? (i := 39) rfl)
theorem ow31 {a0 : Array Value} {Z : State} (hw : ∀ d ∈ tables_1, d.before a0 Z = true) : (Jvm.Cond.methodLink "com/example/hasset/hasset/model/GeneratedFleetAddressesPinLaw" (15 : Nat) ({ cls := "java/util/List", name := "size", desc := "()I" } : Jvm.MethodName)).before a0 Z = true := hw _ (List.mem_of_getElem? (i := 31) rfl)
theorem ow32 {a0 : Array Value} {Z : State} (hw : ∀ d ∈ tables_1, d.before a0 Z = true) : (Jvm.Cond.declares ({ cls := "java/util/List", name := "size", desc := "()I" } : Jvm.MethodName)).before a0 Z = true := hw _ (List.mem_of_getElem? (i := 32) rfl)
theorem ow33 {a0 : Array Value} {Z : State} (hw : ∀ d ∈ tables_1, d.before a0 Z = true) : (Jvm.Cond.interfaceMethod "java/util/List" "java/util/List" "size" "()I").before a0 Z = true := hw _ (List.mem_of_getElem? (i := 33) rfl)
theorem ow34 {a0 : Array Value} {Z : State} (hw : ∀ d ∈ tables_1, d.before a0 Z = true) : (Jvm.Cond.selects "com/example/hasset/hasset/model/GeneratedFleet$Addresses" ({ cls := "java/util/List", name := "size", desc := "()I" } : Jvm.MethodName) ({ cls := "com/example/hasset/hasset/model/GeneratedFleet$Addresses", name := "size", desc := "()I" } : Jvm.MethodName)).before a0 Z = true := hw _ (List.mem_of_getElem? (i := 34) rfl)
theorem ow35 {a0 : Array Value} {Z : State} (hw : ∀ d ∈ tables_1, d.before a0 Z = true) : (Jvm.Cond.instanceMethod ({ cls := "com/example/hasset/hasset/model/GeneratedFleet$Addresses", name := "size", desc := "()I" } : Jvm.MethodName)).before a0 Z = true := hw _ (List.mem_of_getElem? (i := 35) rfl)
theorem ow36 {a0 : Array Value} {Z : State} (hw : ∀ d ∈ tables_1, d.before a0 Z = true) : (Jvm.Cond.publicMethod ({ cls := "com/example/hasset/hasset/model/GeneratedFleet$Addresses", name := "size", desc := "()I" } : Jvm.MethodName)).before a0 Z = true := hw _ (List.mem_of_getElem? (i := 36) rfl)
theorem ow37 {a0 : Array Value} {Z : State} (hw : ∀ d ∈ tables_1, d.before a0 Z = true) : (Jvm.Cond.unhidden "com/example/hasset/hasset/model/GeneratedFleet$Addresses" "size" "()I").before a0 Z = true := hw _ (List.mem_of_getElem? (i := 37) rfl)
theorem ow38 {a0 : Array Value} {Z : State} (hw : ∀ d ∈ tables_1, d.before a0 Z = true) : (Jvm.Cond.castable "com/example/hasset/hasset/model/GeneratedFleet$Addresses" "java/util/List").before a0 Z = true := hw _ (List.mem_of_getElem? (i := 38) rfl)
theorem ow47 {a0 : Array Value} {Z : State} (hw : ∀ d ∈ tables_1, d.before a0 Z = true) : (Jvm.Cond.code ({ cls := "com/example/hasset/hasset/model/GeneratedFleet$Addresses", name := "get", desc := "(I)Ljava/lang/Object;" } : Jvm.MethodName) prog_14_method_4_code (2 : Nat) (Option.some (Jvm.ClassFile.FieldType.object "java/lang/Object"))).before a0 Z = true := hw _ (List.mem_of_getElem? (i := 47) rfl)
theorem opd30 : parseMethodDescriptor "(I)Ljava/lang/Object;" = some ⟨[.int], some (.object "java/lang/Object")⟩ := by decide +kernel
theorem ow40 {a0 : Array Value} {Z : State} (hw : ∀ d ∈ tables_1, d.before a0 Z = true) : (Jvm.Cond.methodLink "com/example/hasset/hasset/model/GeneratedFleetAddressesPinLaw" (21 : Nat) ({ cls := "java/util/List", name := "get", desc := "(I)Ljava/lang/Object;" } : Jvm.MethodName)).before a0 Z = true := hw _ (List.mem_of_getElem? (i := 40) rfl)
theorem ow41 {a0 : Array Value} {Z : State} (hw : ∀ d ∈ tables_1, d.before a0 Z = true) : (Jvm.Cond.declares ({ cls := "java/util/List", name := "get", desc := "(I)Ljava/lang/Object;" } : Jvm.MethodName)).before a0 Z = true := hw _ (List.mem_of_getElem? (i := 41) rfl)
theorem ow42 {a0 : Array Value} {Z : State} (hw : ∀ d ∈ tables_1, d.before a0 Z = true) : (Jvm.Cond.interfaceMethod "java/util/List" "java/util/List" "get" "(I)Ljava/lang/Object;").before a0 Z = true := hw _ (List.mem_of_getElem? (i := 42) rfl)
theorem ow43 {a0 : Array Value} {Z : State} (hw : ∀ d ∈ tables_1, d.before a0 Z = true) : (Jvm.Cond.selects "com/example/hasset/hasset/model/GeneratedFleet$Addresses" ({ cls := "java/util/List", name := "get", desc := "(I)Ljava/lang/Object;" } : Jvm.MethodName) ({ cls := "com/example/hasset/hasset/model/GeneratedFleet$Addresses", name := "get", desc := "(I)Ljava/lang/Object;" } : Jvm.MethodName)).before a0 Z = true := hw _ (List.mem_of_getElem? (i := 43) rfl)
theorem ow44 {a0 : Array Value} {Z : State} (hw : ∀ d ∈ tables_1, d.before a0 Z = true) : (Jvm.Cond.instanceMethod ({ cls := "com/example/hasset/hasset/model/GeneratedFleet$Addresses", name := "get", desc := "(I)Ljava/lang/Object;" } : Jvm.MethodName)).before a0 Z = true := hw _ (List.mem_of_getElem? (i := 44) rfl)
theorem ow45 {a0 : Array Value} {Z : State} (hw : ∀ d ∈ tables_1, d.before a0 Z = true) : (Jvm.Cond.publicMethod ({ cls := "com/example/hasset/hasset/model/GeneratedFleet$Addresses", name := "get", desc := "(I)Ljava/lang/Object;" } : Jvm.MethodName)).before a0 Z = true := hw _ (List.mem_of_getElem? (i := 45) rfl)
theorem ow46 {a0 : Array Value} {Z : State} (hw : ∀ d ∈ tables_1, d.before a0 Z = true) : (Jvm.Cond.unhidden "com/example/hasset/hasset/model/GeneratedFleet$Addresses" "get" "(I)Ljava/lang/Object;").before a0 Z = true := hw _ (List.mem_of_getElem? (i := 46) rfl)
theorem ow208 {a0 : Array Value} {Z : State} (hw : ∀ d ∈ tables_1, d.before a0 Z = true) : (Jvm.Cond.classLink "com/example/hasset/hasset/model/GeneratedFleetAddressesPinLaw" (25 : Nat) "java/lang/String").before a0 Z = true := hw _ (List.mem_of_getElem? (i := 208) rfl)
theorem ow209 {a0 : Array Value} {Z : State} (hw : ∀ d ∈ tables_1, d.before a0 Z = true) : (Jvm.Cond.methodLink "com/example/hasset/hasset/model/GeneratedFleetAddressesPinLaw" (27 : Nat) ({ cls := "com/example/hasset/hasset/model/GeneratedFleetAddressesPinLaw", name := "matches", desc := "(Ljava/lang/String;I)Z" } : Jvm.MethodName)).before a0 Z = true := hw _ (List.mem_of_getElem? (i := 209) rfl)
theorem ow212 {a0 : Array Value} {Z : State} (hw : ∀ d ∈ tables_1, d.before a0 Z = true) : (Jvm.Cond.code ({ cls := "com/example/hasset/hasset/model/GeneratedFleetAddressesPinLaw", name := "matches", desc := "(Ljava/lang/String;I)Z" } : Jvm.MethodName) method_5_code (10 : Nat) (Option.some Jvm.ClassFile.FieldType.boolean)).before a0 Z = true := hw _ (List.mem_of_getElem? (i := 212) rfl)
theorem opd31 : parseMethodDescriptor "(Ljava/lang/String;I)Z" = some ⟨[.object "java/lang/String", .int], some (.boolean)⟩ := by decide +kernel
theorem ow210 {a0 : Array Value} {Z : State} (hw : ∀ d ∈ tables_1, d.before a0 Z = true) : (Jvm.Cond.static ({ cls := "com/example/hasset/hasset/model/GeneratedFleetAddressesPinLaw", name := "matches", desc := "(Ljava/lang/String;I)Z" } : Jvm.MethodName)).before a0 Z = true := hw _ (List.mem_of_getElem? (i := 210) rfl)
theorem oef_ofl_law (m_ : MethodId) (x1 : Int32) (x2 : Int32)  : (entryFrame m_ #[(.int x1), (.int x2)] maxLocals).locals = #[.val (.int x1), .val (.int x2), .unset, .unset, .unset, .unset, .unset] := by first | (simp [entryFrame, argsToLocals, Value.category, maxLocals]; done) | rfl
set_option maxRecDepth 65536 in
set_option maxHeartbeats 40000000 in
theorem ofl_law (l : Launch) (Z : State) (a0 : Array Value) (hw : ∀ d ∈ tables_1, d.before a0 Z = true) (hE : EW Z a0 consts_1) (x1 : Int32) (x2 : Int32) (z : Int32) (fm : Value) (d1 : Addr) (k1 : ClassId) (d2 : Addr) (k2 : ClassId) (h : Heap) (hO : Old Z Z.heap.size h) (SC : (Sta Z Z.heap "java/lang/String" "COMPACT_STRINGS" "Z" (.int z))) (hz : (¬ z = 0)) (SF : (Sta Z Z.heap "jdk/internal/util/Preconditions" "SIOOBE_FORMATTER" "Ljava/util/function/BiFunction;" fm)) (rf : (fm.isRef = true)) (SO : (Sta Z Z.heap "java/lang/Integer" "DigitOnes" "[B" (.ref d1))) (AO : (Arv Z Z.heap d1 k1 .byte (100 : Int32) ones (.int 0))) (SE : (Sta Z Z.heap "java/lang/Integer" "DigitTens" "[B" (.ref d2))) (AE : (Arv Z Z.heap d2 k2 .byte (100 : Int32) tens (.int 0)))  :
    Ct l Z consts_1 x code maxLocals ret room_1 #[(.int x1), (.int x2)] h [] (fun rv' hp' so' => rv' = some (.int (1 : Int32)) ∧ so' = []) := by
  refine Ct.mk "com/example/hasset/hasset/model/GeneratedFleetAddressesPinLaw" "law" rfl rfl (a0 := a0) (plainFor_of_name opn13) hO hE (fun x q => nomatch q) ?_
  intro K T W
  rw [oef_ofl_law]
  refine gIloadN W at_0 rfl rfl ?_
  refine wLdcI (v := (2147483647 : Int32)) W at_1 (ow0 hw) rfl ?_
  obtain ⟨v2006, e2007⟩ : ∃ v : Int32, x1 &&& (2147483647 : Int32) = v := ⟨_, rfl⟩
  refine gIand W at_3 e2007 rfl ?_
  refine wLdcI (v := (16777216 : Int32)) W at_4 (ow1 hw) rfl ?_
  obtain ⟨v2008, e2009⟩ : ∃ v : Int32, v2006 % (16777216 : Int32) = v := ⟨_, rfl⟩
  refine gIrem W at_6 (by decide) e2009 rfl ?_
  obtain ⟨cn, hcn, rfl⟩ := natOf (d := 16777216) (rem_lt (and31 e2007) e2009 (by decide) (by decide))
  show Go K _ T 7 #[.val (.int x1), .val (.int x2), .unset, .unset, .unset, .unset, .unset] [(.int (Int32.ofNat cn))]
  refine gIstoreN (ls' := #[.val (.int x1), .val (.int x2), .val (.int (Int32.ofNat cn)), .unset, .unset, .unset, .unset]) W at_7 rfl rfl ?_
  refine gIloadN W at_8 rfl rfl ?_
  refine wStatic (y := (⟨"com/example/hasset/hasset/model/GeneratedFleet", "addresses", "(I)Ljava/util/List;"⟩ : MethodName)) (Wd := 0) (argsL := [(.int (Int32.ofNat cn))]) (rest := []) W at_9 (ow2 hw) (ow3 hw) (ow4 hw) (ow5 hw) (by decide) (Cb.ct (ofl_ads l Z a0 hw hE (cn) h W.old hcn ) (ow5 hw) (ow4 hw) hE (by decide) (by decide)) (by simp) rfl (lenOf opd29 rfl) rfl (Nat.le_of_eq rfl) (by decide) (by decide) rfl fun v2014 so2015 T2010 h2012 W2011 kp2013 sp2016 q2017 => ?_
  obtain ⟨o2018, rfl, rfl, f2019, f2020⟩ := q2017
  show Go K _ T2010 12 #[.val (.int x1), .val (.int x2), .val (.int (Int32.ofNat cn)), .unset, .unset, .unset, .unset] [(.ref o2018)]
  refine gAstoreN (ls' := #[.val (.int x1), .val (.int x2), .val (.int (Int32.ofNat cn)), .val (.ref o2018), .unset, .unset, .unset]) W2011 at_12 rfl rfl rfl ?_
  refine gAloadN W2011 at_13 rfl rfl rfl ?_
  refine wFace (xi := (⟨"java/util/List", "size", "()I"⟩ : MethodName)) (y := (⟨"com/example/hasset/hasset/model/GeneratedFleet$Addresses", "size", "()I"⟩ : MethodName)) (Wd := 0) (a := o2018) (argsL := []) (rest := []) W2011 at_14 (ow31 hw) (ow32 hw) (ow33 hw) (ow34 hw) (ow35 hw) (ow36 hw) (ow37 hw) (ow38 hw) (by decide) (Cb.ct (ofl_sz l Z a0 hw hE (o2018) ((Int32.ofNat cn)) h2012 W2011.old f2019 f2020 ) (ow39 hw) (ow9 hw) hE (by decide) (by decide)) f2019 (by simp) rfl (lenOf opd4 rfl) rfl (Nat.le_of_eq rfl) (by decide) (by decide) rfl fun v2025 so2026 T2021 h2023 W2022 kp2024 sp2027 q2028 => ?_
  obtain ⟨rfl, rfl⟩ := q2028
  show Go K _ T2021 19 #[.val (.int x1), .val (.int x2), .val (.int (Int32.ofNat cn)), .val (.ref o2018), .unset, .unset, .unset] [(.int (Int32.ofNat cn))]
  refine gIloadN W2022 at_19 rfl rfl ?_
  refine gIcmpYes (pc' := 25) W2022 at_20 (teq rfl).1 (by decide) rfl ?_
  refine gIloadN W2022 at_25 rfl rfl ?_
  by_cases h0 : cn = 0
  · refine gIfNo W2022 at_26 ((if0 _ _).trans (teq (congrArg Int32.ofNat h0)).2) rfl ?_
    refine gIconst (z := (1 : Int32)) W2022 at_29 rfl rfl ?_
    exact wRetI (so := []) (t := .boolean) W2022 at_30 (by simp) rfl (by decide) (by decide) (fun _ q => nomatch q) ⟨rfl, rfl⟩
  · refine gIfYes (pc' := 31) W2022 at_26 ((if0 _ _).trans (feq (ofNat_ne (by omega) (by omega))).2) (by decide) rfl ?_
    refine gIloadN W2022 at_31 rfl rfl ?_
    refine wLdcI (v := (2147483647 : Int32)) W2022 at_32 (ow0 hw) rfl ?_
    obtain ⟨v2029, e2030⟩ : ∃ v : Int32, x2 &&& (2147483647 : Int32) = v := ⟨_, rfl⟩
    refine gIand W2022 at_34 e2030 rfl ?_
    refine gIloadN W2022 at_35 rfl rfl ?_
    obtain ⟨v2031, e2032⟩ : ∃ v : Int32, v2029 % (Int32.ofNat cn) = v := ⟨_, rfl⟩
    refine gIrem W2022 at_36 (ofNat_ne (by omega) (by omega)) e2032 rfl ?_
    obtain ⟨jn, hjn, rfl⟩ := natOf (d := cn) (rem_lt (and31 e2030) e2032 (ofNat_toInt (by omega)) (by omega))
    show Go K _ T2021 37 #[.val (.int x1), .val (.int x2), .val (.int (Int32.ofNat cn)), .val (.ref o2018), .unset, .unset, .unset] [(.int (Int32.ofNat jn))]
    refine gIstore (ls' := #[.val (.int x1), .val (.int x2), .val (.int (Int32.ofNat cn)), .val (.ref o2018), .val (.int (Int32.ofNat jn)), .unset, .unset]) W2022 at_37 rfl rfl ?_
    refine gAloadN W2022 at_39 rfl rfl rfl ?_
    refine gIload W2022 at_40 rfl rfl ?_
    have f2033 := f2019.keep kp2024
    have f2034 := f2020.keep kp2024 nin0
    refine wFace (xi := (⟨"java/util/List", "get", "(I)Ljava/lang/Object;"⟩ : MethodName)) (y := (⟨"com/example/hasset/hasset/model/GeneratedFleet$Addresses", "get", "(I)Ljava/lang/Object;"⟩ : MethodName)) (Wd := 0) (a := o2018) (argsL := [(.int (Int32.ofNat jn))]) (rest := []) W2022 at_42 (ow40 hw) (ow41 hw) (ow42 hw) (ow43 hw) (ow44 hw) (ow45 hw) (ow46 hw) (ow38 hw) (by decide) (Cb.ct (ofl_go l Z a0 hw hE (o2018) (cn) (jn) (z) (d1) (k1) (d2) (k2) h2023 W2022.old SC hz SO AO SE AE f2033 f2034 hjn hcn ) (ow47 hw) (ow9 hw) hE (by decide) (by decide)) f2033 (by simp) rfl (lenOf opd30 rfl) rfl (Nat.le_of_eq rfl) (by decide) (by decide) rfl fun v2039 so2040 T2035 h2037 W2036 kp2038 sp2041 q2042 => ?_
    obtain ⟨s2043, r2044, kr2045, rfl, rfl, f2046, f2047, f2048, f2049⟩ := q2042
    show Go K _ T2035 47 #[.val (.int x1), .val (.int x2), .val (.int (Int32.ofNat cn)), .val (.ref o2018), .val (.int (Int32.ofNat jn)), .unset, .unset] [(.ref s2043)]
    refine wCast W2036 at_47 (ow208 hw) (Ins.self f2046) rfl fun T2050 W2051 => ?_
    refine gAstore (ls' := #[.val (.int x1), .val (.int x2), .val (.int (Int32.ofNat cn)), .val (.ref o2018), .val (.int (Int32.ofNat jn)), .val (.ref s2043), .unset]) W2051 at_50 rfl rfl rfl ?_
    refine gAloadN W2051 at_52 rfl rfl rfl ?_
    refine gIloadN W2051 at_53 rfl rfl ?_
    refine gIconst (z := (1 : Int32)) W2051 at_54 rfl rfl ?_
    refine gIsub (z := (Int32.ofNat (cn - 1))) W2051 at_55 (ofNat_sub1 (by omega) (by omega)) rfl ?_
    have f2052 := f2033.keep kp2038
    have f2053 := f2034.keep kp2038 nin0
    refine wFace (xi := (⟨"java/util/List", "get", "(I)Ljava/lang/Object;"⟩ : MethodName)) (y := (⟨"com/example/hasset/hasset/model/GeneratedFleet$Addresses", "get", "(I)Ljava/lang/Object;"⟩ : MethodName)) (Wd := 0) (a := o2018) (argsL := [(.int (Int32.ofNat (cn - 1)))]) (rest := []) W2051 at_56 (ow40 hw) (ow41 hw) (ow42 hw) (ow43 hw) (ow44 hw) (ow45 hw) (ow46 hw) (ow38 hw) (by decide) (Cb.ct (ofl_go l Z a0 hw hE (o2018) (cn) ((cn - 1)) (z) (d1) (k1) (d2) (k2) h2037 W2051.old SC hz SO AO SE AE f2052 f2053 (by omega) hcn ) (ow47 hw) (ow9 hw) hE (by decide) (by decide)) f2052 (by simp) rfl (lenOf opd30 rfl) rfl (Nat.le_of_eq rfl) (by decide) (by decide) rfl fun v2058 so2059 T2054 h2056 W2055 kp2057 sp2060 q2061 => ?_
    obtain ⟨s2062, r2063, kr2064, rfl, rfl, f2065, f2066, f2067, f2068⟩ := q2061
    show Go K _ T2054 61 #[.val (.int x1), .val (.int x2), .val (.int (Int32.ofNat cn)), .val (.ref o2018), .val (.int (Int32.ofNat jn)), .val (.ref s2043), .unset] [(.ref s2062)]
    refine wCast W2055 at_61 (ow208 hw) (Ins.self f2065) rfl fun T2069 W2070 => ?_
    refine gAstore (ls' := #[.val (.int x1), .val (.int x2), .val (.int (Int32.ofNat cn)), .val (.ref o2018), .val (.int (Int32.ofNat jn)), .val (.ref s2043), .val (.ref s2062)]) W2070 at_64 rfl rfl rfl ?_
    refine gAload W2070 at_66 rfl rfl rfl ?_
    refine gIload W2070 at_68 rfl rfl ?_
    have f2071 := f2046.keep kp2057
    have f2072 := f2047.keep kp2057 nin0
    have f2073 := f2048.keep kp2057 nin0
    have f2074 := f2049.keep kp2057 nin0
    refine wStatic (y := (⟨"com/example/hasset/hasset/model/GeneratedFleetAddressesPinLaw", "matches", "(Ljava/lang/String;I)Z"⟩ : MethodName)) (Wd := 0) (argsL := [(.ref s2043), (.int (Int32.ofNat jn))]) (rest := []) W2070 at_70 (ow209 hw) (ow210 hw) (ow211 hw) (ow212 hw) (by decide) (Cb.ct (ofl_ma l Z a0 hw hE (s2043) (r2044) (kr2045) (jn) (fm) (z) h2056 W2070.old SC hz SF rf f2071 f2072 f2073 f2074 (by omega) ) (ow212 hw) (ow211 hw) hE (by decide) (by decide)) (by simp) rfl (lenOf opd31 rfl) rfl (Nat.le_of_eq rfl) (by decide) (by decide) rfl fun v2079 so2080 T2075 h2077 W2076 kp2078 sp2081 q2082 => ?_
    obtain ⟨rfl, rfl⟩ := q2082
    show Go K _ T2075 73 #[.val (.int x1), .val (.int x2), .val (.int (Int32.ofNat cn)), .val (.ref o2018), .val (.int (Int32.ofNat jn)), .val (.ref s2043), .val (.ref s2062)] [(.int (1 : Int32))]
    refine gIfNo W2076 at_73 ((if0 _ _).trans (feq (by decide)).1) rfl ?_
    refine gAload W2076 at_76 rfl rfl rfl ?_
    refine gIloadN W2076 at_78 rfl rfl ?_
    refine gIconst (z := (1 : Int32)) W2076 at_79 rfl rfl ?_
    refine gIsub (z := (Int32.ofNat (cn - 1))) W2076 at_80 (ofNat_sub1 (by omega) (by omega)) rfl ?_
    have f2083 := f2065.keep kp2078
    have f2084 := f2066.keep kp2078 nin0
    have f2085 := f2067.keep kp2078 nin0
    have f2086 := f2068.keep kp2078 nin0
    refine wStatic (y := (⟨"com/example/hasset/hasset/model/GeneratedFleetAddressesPinLaw", "matches", "(Ljava/lang/String;I)Z"⟩ : MethodName)) (Wd := 0) (argsL := [(.ref s2062), (.int (Int32.ofNat (cn - 1)))]) (rest := []) W2076 at_81 (ow209 hw) (ow210 hw) (ow211 hw) (ow212 hw) (by decide) (Cb.ct (ofl_ma l Z a0 hw hE (s2062) (r2063) (kr2064) ((cn - 1)) (fm) (z) h2077 W2076.old SC hz SF rf f2083 f2084 f2085 f2086 (by omega) ) (ow212 hw) (ow211 hw) hE (by decide) (by decide)) (by simp) rfl (lenOf opd31 rfl) rfl (Nat.le_of_eq rfl) (by decide) (by decide) rfl fun v2091 so2092 T2087 h2089 W2088 kp2090 sp2093 q2094 => ?_
    obtain ⟨rfl, rfl⟩ := q2094
    show Go K _ T2087 84 #[.val (.int x1), .val (.int x2), .val (.int (Int32.ofNat cn)), .val (.ref o2018), .val (.int (Int32.ofNat jn)), .val (.ref s2043), .val (.ref s2062)] [(.int (1 : Int32))]
    refine gIfNo W2088 at_84 ((if0 _ _).trans (feq (by decide)).1) rfl ?_
    refine gIconst (z := (1 : Int32)) W2088 at_87 rfl rfl ?_
    refine gGoto (pc' := 92) W2088 at_88 (by decide) rfl ?_
    exact wRetI (so := []) (t := .boolean) W2088 at_92 (by simp) rfl (by decide) (by decide) (fun _ q => nomatch q) ⟨rfl, rfl⟩
set_option maxRecDepth 65536 in
set_option maxHeartbeats 40000000 in
theorem comes_1 {Post : Tables → Env → Array Value → State → Outcome → State → Prop} (hpost : ∀ tb e args s v u, (limb_1_1.after args s (.returned v) u = true ∧ limb_1_2.after args s (.returned v) u = true ∧ True) → FramedW s (.returned v) u (Jvm.fieldLocs frame_1_writes args s ++ Jvm.arrayLocs frame_1_arrays args s ++ Jvm.staticLocs frame_1_statics s) 40 3584 → Post tb e args s (.returned v) u) :
    ArmFor flags0 classFile x code maxLocals ret World_1 tables_1 room_1 Calls_1 rest_1 Pre_1 Post := by
  intro l hfl _ _ p e ha hc hk s m args below hf hA hF happ hP
  obtain ⟨hcalls, hrest, hpre⟩ := hP
  obtain ⟨-, -, -, hnamed, -, -, -, hat⟩ := (Spec.applies_iff hf).mp happ
  obtain ⟨hg, hn⟩ := and_e (Cond.before_iff.mp (show (Jvm.Cond.and given_1 narrow_1).before args s = true from hpre))
  obtain ⟨hcount, hg0⟩ := and_e hg
  obtain ⟨hi0, hg1⟩ := and_e hg0
  have hi1 := hg1
  obtain ⟨w0, w1, rfl⟩ : ∃ w0 w1 : Value, args = #[w0, w1] := by
    have hs : args.size = 2 := by simpa [Cond.value, given_1] using hcount
    obtain ⟨L⟩ := args
    match L, hs with
    | [w0, w1], _ => exact ⟨w0, w1, rfl⟩
  have hw := fun d (hd : d ∈ tables_1) => atoms_spec (ws := Jvm.Cond.code x code maxLocals ret :: tables_1) hat d (List.mem_cons_of_mem _ hd)
  obtain ⟨hsets, hown0⟩ := atoms_of _ (rest_1_c_eq ▸ (show rest_1_c.before _ s = true from hrest))
  obtain ⟨i0, ei0⟩ := is_v hi0
  obtain rfl : w0 = (.int i0) := Option.some.inj ei0
  obtain ⟨i1, ei1⟩ := is_v hi1
  obtain rfl : w1 = (.int i1) := Option.some.inj ei1
  have n5 := not_v (Cond.before_iff.mp (hsets _ (List.mem_of_getElem? (i := 2) rfl)))
  obtain ⟨iz, ez⟩ := is_v (Cond.before_iff.mp (hsets _ (List.mem_of_getElem? (i := 1) rfl)))
  have SC : Sta s s.heap "java/lang/String" "COMPACT_STRINGS" "Z" (.int iz) := Sta.start ez (Or.inl (hsets _ (List.mem_of_getElem? (i := 0) rfl)))
  have hz : ¬ (iz = (0 : Int32)) := gotF (Cond.eq_ints ez (Term.int_eval (0))) n5
  have hfit : Fit s := fun {y c} hc i hi => by
    obtain ⟨ha, rfl⟩ := Array.getElem?_eq_some_iff.mp hc
    have q := List.all_eq_true.mp ((Array.all_eq_true_iff_forall_mem.mp hF) _ (Array.getElem_mem ha)) i (List.mem_range.mpr hi)
    simpa [Array.getElem?_eq_getElem hi] using q
  obtain ⟨fm, ef, rf⟩ := isR_v (Cond.before_iff.mp (hsets _ (List.mem_of_getElem? (i := 8) rfl)))
  have SF : Sta s s.heap "jdk/internal/util/Preconditions" "SIOOBE_FORMATTER" "Ljava/util/function/BiFunction;" fm := Sta.start ef (Or.inl (hsets _ (List.mem_of_getElem? (i := 7) rfl)))
  obtain ⟨d1, k1, SO, AO⟩ := digTable (F := fun r => 48 + r % 10) hfit (hsets _ (List.mem_of_getElem? (i := 12) rfl)) (hsets _ (List.mem_of_getElem? (i := 13) rfl)) (hsets _ (List.mem_of_getElem? (i := 14) rfl)) (hsets _ (List.mem_of_getElem? (i := 11) rfl)) (ow79 hw) (fun r hr => by rw [← ones_num r hr]; rfl)
  obtain ⟨d2, k2, SE, AE⟩ := digTable (F := fun r => 48 + r / 10) hfit (hsets _ (List.mem_of_getElem? (i := 17) rfl)) (hsets _ (List.mem_of_getElem? (i := 18) rfl)) (hsets _ (List.mem_of_getElem? (i := 19) rfl)) (hsets _ (List.mem_of_getElem? (i := 16) rfl)) (ow79 hw) (fun r hr => by rw [← tens_num r hr]; rfl)
  have hE : EW s #[(.int i0), (.int i1)] consts_1 := (EW.cons (ow84 hw) (by decide) (EW.cons (ow162 hw) (by decide) (EW.cons (ow163 hw) (by decide) EW.nil)))
  have hcw : Jvm.Lit.compactW.before _ s = true := (hsets _ (List.mem_of_getElem? (i := 2) rfl))
  have hCH : CHv s consts_1 s.vm s.heap := CHv.start hE (fun q hq => (hcalls.1 : constsHeld consts_1 s) q hq) hcw (owS hw _ (by simp [Bundle.stringAtoms])) (hws' hw)
  obtain ⟨n, o, h1, h2, h3, v, L, so, rfl, hQ, -, hL, -, hq⟩ := ofl_law l s _ hw hE i0 i1 iz fm d1 k1 d2 k2 s.heap (Old.start s) SC hz SF rf SO AO SE AE tables_1 p e ha hc hk s m _ below hf ((Spec.applies_iff_loose hf).mp happ).1 ⟨rfl, State.Warmed39.refl s, rfl, hCH, fun _ q => nomatch q⟩ trivial
  obtain ⟨rfl, -⟩ := hQ
  refine ⟨n, _, h1, h2, h3, hpost _ _ _ _ _ _ ⟨Cond.after_iff.mpr rfl, Cond.after_iff.mpr (eq_i res_at (Term.int_eval (1)) rfl), trivial⟩ ⟨hq.1, hq.2.1, hq.2.2.1, (hq.2.2.2.sift fun y hy => Or.inr ?_).mono (by decide) (by decide)⟩⟩
  rcases hL y hy with z | z
  · cases z
  · exact z
theorem main_1_1 : Claimed_1_1 := comes_1 fun _ _ _ _ _ _ h hF => ⟨h.1, hF⟩
theorem main_1_2 : Claimed_1_2 := comes_1 fun _ _ _ _ _ _ h hF => ⟨h.2.1, hF⟩
end Jvm.Pilot.@@N@@
namespace Jvm.Pilot.@@N@@
open Jvm Jvm.ClassFile Sem Op Lib Jvm.Free Jvm.Stand Jvm.Pilot.@@N@@.Jvm.D
/-! MADE BY PROGRAM (witnessworld.py) out of the Statement's table words and the real class files: 36 classes; the members and pool entries that the words name. The judged class is class 1, her method 1. -/
namespace start1
open Jvm.ClassFile
def u (s : String) : CpInfo := .utf8 (stringToUtf16 s)
/-- a pool by its gaps: so many unusable entries, then the entry; so many at the end -/
def gap : Nat → List CpInfo → List CpInfo
  | 0, r => r
  | n + 1, r => .unusable :: gap n r
def poolList (es : List (Nat × CpInfo)) (last : Nat) : List CpInfo := es.foldr (fun e r => gap e.1 (e.2 :: r)) (gap last [])
def pool (es : List (Nat × CpInfo)) (last : Nat) : Array CpInfo := ⟨poolList es last⟩
def fileOf (pool : Array CpInfo) (this : Nat) (attrs : Array Attribute := #[]) (ms : Array MethodInfo := #[]) (fl : Nat := 33) (sup : Nat := 0) (ifs : Array Nat := #[]) (fds : Array FieldInfo := #[]) : ClassFile where
  minorVersion := 0
  majorVersion := 65
  constantPool := pool
  accessFlags := fl
  thisClass := this
  superClass := sup
  interfaces := ifs
  fields := fds
  methods := ms
  attributes := attrs
def plain (name : String) (sup : Option ClassId) : Class where
  name := name
  kind := .ordinary
  loader := none
  accessFlags := 33
  super := sup
  interfaces := #[]
  cf := none
  fields := #[]
  methods := #[]
  instanceTypes := #[]
  staticTypes := #[]
  resolved := #[]
  callSites := []
  init := .initialized
  statics := none
  mirror := none

def pool0 : Array CpInfo := pool [(5, u "<init>"), (0, u "()V"), (1, .class_ 10), (1, u "java/lang/Object"), (85, u "clone"), (0, u "()Ljava/lang/Object;")] 26

def k0c0 : Code := { maxStack := 0, maxLocals := 1, code := object_method_1_code, exceptionTable := #[], attributes := #[] }
def k0m0 : Method := { name := "<init>", desc := "()V", sig := { parameters := [], returnType := none }, accessFlags := 1, code := some k0c0 }
def k0m1 : Method := { name := "clone", desc := "()Ljava/lang/Object;", sig := { parameters := [], returnType := some (.object "java/lang/Object") }, accessFlags := 260, code := none }
/-- java/lang/Object -/
def k0 : Class := { plain "java/lang/Object" none with
  accessFlags := 33
  interfaces := #[]
  cf := some (fileOf pool0 8 #[] #[{ accessFlags := 1, nameIndex := 5, descriptorIndex := 6, attributes := #[] }, { accessFlags := 260, nameIndex := 96, descriptorIndex := 97, attributes := #[] }] 33 0 #[] #[])
  fields := #[]
  methods := #[k0m0, k0m1]
  instanceTypes := #[]
  staticTypes := #[]
  resolved := Array.replicate 124 none
  statics := none }

def pool1 : Array CpInfo := pool [(2, .class_ 4), (1, u "java/lang/Object"), (0, u "<init>"), (0, u "()V"), (0, .integer 2147483647), (0, .class_ 9), (0, u "com/example/hasset/hasset/model/GeneratedFleet"), (0, .integer 16777216), (0, .methodref 8 12), (0, .nameAndType 13 14), (0, u "addresses"), (0, u "(I)Ljava/util/List;"), (0, .interfaceMethodref 16 17), (0, .class_ 18), (0, .nameAndType 19 20), (0, u "java/util/List"), (0, u "size"), (0, u "()I"), (0, .interfaceMethodref 16 22), (0, .nameAndType 23 24), (0, u "get"), (0, u "(I)Ljava/lang/Object;"), (0, .class_ 26), (0, u "java/lang/String"), (0, .methodref 28 29), (0, .class_ 30), (0, .nameAndType 31 32), (0, u "com/example/hasset/hasset/model/GeneratedFleetAddressesPinLaw"), (0, u "matches"), (0, u "(Ljava/lang/String;I)Z"), (0, .methodref 25 34), (0, .nameAndType 35 36), (0, u "charAt"), (0, u "(I)C"), (0, .integer 65536), (0, .methodref 28 39), (0, .nameAndType 40 41), (0, u "put"), (0, u "([CII)I"), (0, .methodref 25 43), (0, .nameAndType 44 20), (0, u "length"), (0, .methodref 28 46), (0, .nameAndType 47 48), (0, u "at"), (0, u "(Ljava/lang/String;[CII)Z"), (2, u "law"), (0, u "(II)Z")] 5

def k1m0 : Method := { name := "<init>", desc := "()V", sig := { parameters := [], returnType := none }, accessFlags := 2, code := none }
def k1c1 : Code := { maxStack := 3, maxLocals := 7, code := code, exceptionTable := #[], attributes := #[] }
def k1m1 : Method := { name := "law", desc := "(II)Z", sig := { parameters := [.int, .int], returnType := some .boolean }, accessFlags := 9, code := some k1c1 }
def k1c2 : Code := { maxStack := 5, maxLocals := 3, code := method_3_code, exceptionTable := #[], attributes := #[] }
def k1m2 : Method := { name := "put", desc := "([CII)I", sig := { parameters := [(.array .char), .int, .int], returnType := some .int }, accessFlags := 10, code := some k1c2 }
def k1c3 : Code := { maxStack := 3, maxLocals := 4, code := method_4_code, exceptionTable := #[], attributes := #[] }
def k1m3 : Method := { name := "at", desc := "(Ljava/lang/String;[CII)Z", sig := { parameters := [(.object "java/lang/String"), (.array .char), .int, .int], returnType := some .boolean }, accessFlags := 10, code := some k1c3 }
def k1c4 : Code := { maxStack := 4, maxLocals := 10, code := method_5_code, exceptionTable := #[], attributes := #[] }
def k1m4 : Method := { name := "matches", desc := "(Ljava/lang/String;I)Z", sig := { parameters := [(.object "java/lang/String"), .int], returnType := some .boolean }, accessFlags := 10, code := some k1c4 }
/-- com/example/hasset/hasset/model/GeneratedFleetAddressesPinLaw -/
def k1 : Class := { plain "com/example/hasset/hasset/model/GeneratedFleetAddressesPinLaw" (some 0) with
  accessFlags := 49
  interfaces := #[]
  cf := some (fileOf pool1 28 #[] #[{ accessFlags := 2, nameIndex := 5, descriptorIndex := 6, attributes := #[] }, { accessFlags := 9, nameIndex := 51, descriptorIndex := 52, attributes := #[] }, { accessFlags := 10, nameIndex := 40, descriptorIndex := 41, attributes := #[] }, { accessFlags := 10, nameIndex := 47, descriptorIndex := 48, attributes := #[] }, { accessFlags := 10, nameIndex := 31, descriptorIndex := 32, attributes := #[] }] 49 2 #[] #[])
  fields := #[]
  methods := #[k1m0, k1m1, k1m2, k1m3, k1m4]
  instanceTypes := #[]
  staticTypes := #[]
  resolved := Array.replicate 58 none
  statics := none }

def pool2 : Array CpInfo := pool [(2, .class_ 4), (0, .nameAndType 5 6), (0, u "java/lang/Object"), (0, u "<init>"), (0, u "()V"), (0, .class_ 8), (0, u "com/example/hasset/hasset/model/GeneratedFleet"), (0, .integer 16777215), (2, .class_ 13), (0, u "java/lang/StringBuilder"), (0, .methodref 12 3), (2, .methodref 12 18), (0, .nameAndType 19 20), (0, u "append"), (0, u "(Ljava/lang/String;)Ljava/lang/StringBuilder;"), (0, .methodref 12 22), (0, .nameAndType 19 23), (0, u "(I)Ljava/lang/StringBuilder;"), (3, .methodref 12 28), (0, .nameAndType 29 30), (0, u "toString"), (0, u "()Ljava/lang/String;"), (3, .string 35), (0, u "10."), (0, .string 37), (0, u "."), (0, .string 39), (0, u ":"), (2, .class_ 43), (0, u "com/example/hasset/hasset/model/GeneratedFleet$Addresses"), (0, .methodref 42 45), (0, .nameAndType 5 46), (0, u "(I)V"), (0, u "MAX_SERVERS"), (0, u "I"), (1, u "PORT"), (3, u "address"), (0, u "(I)Ljava/lang/String;"), (1, u "addresses"), (0, u "(I)Ljava/util/List;")] 7

def k2m0 : Method := { name := "<init>", desc := "()V", sig := { parameters := [], returnType := none }, accessFlags := 2, code := none }
def k2c1 : Code := { maxStack := 4, maxLocals := 5, code := prog_13_method_2_code, exceptionTable := #[], attributes := #[] }
def k2m1 : Method := { name := "address", desc := "(I)Ljava/lang/String;", sig := { parameters := [.int], returnType := some (.object "java/lang/String") }, accessFlags := 9, code := some k2c1 }
def k2c2 : Code := { maxStack := 4, maxLocals := 1, code := prog_13_method_3_code, exceptionTable := #[], attributes := #[] }
def k2m2 : Method := { name := "addresses", desc := "(I)Ljava/util/List;", sig := { parameters := [.int], returnType := some (.object "java/util/List") }, accessFlags := 9, code := some k2c2 }
/-- com/example/hasset/hasset/model/GeneratedFleet -/
def k2 : Class := { plain "com/example/hasset/hasset/model/GeneratedFleet" (some 0) with
  accessFlags := 49
  interfaces := #[]
  cf := some (fileOf pool2 7 #[.nestMembers #[42]] #[{ accessFlags := 2, nameIndex := 5, descriptorIndex := 6, attributes := #[] }, { accessFlags := 9, nameIndex := 54, descriptorIndex := 55, attributes := #[] }, { accessFlags := 9, nameIndex := 57, descriptorIndex := 58, attributes := #[] }] 49 2 #[] #[{ accessFlags := 25, nameIndex := 47, descriptorIndex := 48, attributes := #[] }, { accessFlags := 26, nameIndex := 50, descriptorIndex := 48, attributes := #[] }])
  fields := #[{ name := "MAX_SERVERS", type := .int, accessFlags := 25, slot := 0, constantValue := 0 }, { name := "PORT", type := .int, accessFlags := 26, slot := 1, constantValue := 0 }]
  methods := #[k2m0, k2m1, k2m2]
  instanceTypes := #[]
  staticTypes := #[.int, .int]
  resolved := Array.replicate 66 none
  statics := none }

def pool3 : Array CpInfo := pool [(8, .class_ 10), (1, u "java/lang/Iterable"), (24, .class_ 36), (0, u "java/lang/Object")] 25

/-- java/lang/Iterable -/
def k3 : Class := { plain "java/lang/Iterable" (some 0) with
  accessFlags := 1537
  interfaces := #[]
  cf := some (fileOf pool3 8 #[] #[] 1537 35 #[] #[])
  fields := #[]
  methods := #[]
  instanceTypes := #[]
  staticTypes := #[]
  resolved := Array.replicate 62 none
  statics := none }

def pool4 : Array CpInfo := pool [(10, .class_ 12), (1, u "java/util/Collection"), (47, .class_ 61), (0, u "java/lang/Object"), (0, .class_ 63), (0, u "java/lang/Iterable")] 51

/-- java/util/Collection -/
def k4 : Class := { plain "java/util/Collection" (some 0) with
  accessFlags := 1537
  interfaces := #[3]
  cf := some (fileOf pool4 10 #[] #[] 1537 60 #[62] #[])
  fields := #[]
  methods := #[]
  instanceTypes := #[]
  staticTypes := #[]
  resolved := Array.replicate 115 none
  statics := none }

def pool5 : Array CpInfo := pool [(1, .methodref 2 3), (0, .class_ 4), (0, .nameAndType 5 6), (0, u "java/lang/Object"), (0, u "<init>"), (0, u "()V"), (1, .class_ 10), (1, u "java/util/AbstractCollection"), (66, .class_ 78), (0, u "java/util/Collection")] 81

def k5c0 : Code := { maxStack := 1, maxLocals := 1, code := jdk_22_method_1_code, exceptionTable := #[], attributes := #[] }
def k5m0 : Method := { name := "<init>", desc := "()V", sig := { parameters := [], returnType := none }, accessFlags := 4, code := some k5c0 }
/-- java/util/AbstractCollection -/
def k5 : Class := { plain "java/util/AbstractCollection" (some 0) with
  accessFlags := 1057
  interfaces := #[4]
  cf := some (fileOf pool5 8 #[] #[{ accessFlags := 4, nameIndex := 5, descriptorIndex := 6, attributes := #[] }] 1057 2 #[77] #[])
  fields := #[]
  methods := #[k5m0]
  instanceTypes := #[]
  staticTypes := #[]
  resolved := Array.replicate 160 none
  statics := none }

def pool6 : Array CpInfo := pool [(8, .class_ 10), (1, u "java/util/SequencedCollection"), (15, .class_ 27), (0, u "java/lang/Object"), (0, .class_ 29), (0, u "java/util/Collection")] 27

/-- java/util/SequencedCollection -/
def k6 : Class := { plain "java/util/SequencedCollection" (some 0) with
  accessFlags := 1537
  interfaces := #[4]
  cf := some (fileOf pool6 8 #[] #[] 1537 26 #[28] #[])
  fields := #[]
  methods := #[]
  instanceTypes := #[]
  staticTypes := #[]
  resolved := Array.replicate 57 none
  statics := none }

def pool7 : Array CpInfo := pool [(8, .class_ 10), (1, u "java/util/List"), (64, u "get"), (0, u "(I)Ljava/lang/Object;"), (2, u "size"), (0, u "()I"), (22, .class_ 104), (0, u "java/lang/Object"), (15, .class_ 121), (0, u "java/util/SequencedCollection")] 129

def k7m0 : Method := { name := "size", desc := "()I", sig := { parameters := [], returnType := some .int }, accessFlags := 1025, code := none }
def k7m1 : Method := { name := "get", desc := "(I)Ljava/lang/Object;", sig := { parameters := [.int], returnType := some (.object "java/lang/Object") }, accessFlags := 1025, code := none }
/-- java/util/List -/
def k7 : Class := { plain "java/util/List" (some 0) with
  accessFlags := 1537
  interfaces := #[6]
  cf := some (fileOf pool7 8 #[] #[{ accessFlags := 1025, nameIndex := 79, descriptorIndex := 80, attributes := #[] }, { accessFlags := 1025, nameIndex := 75, descriptorIndex := 76, attributes := #[] }] 1537 103 #[120] #[])
  fields := #[]
  methods := #[k7m0, k7m1]
  instanceTypes := #[]
  staticTypes := #[]
  resolved := Array.replicate 251 none
  statics := none }

def pool8 : Array CpInfo := pool [(1, .methodref 2 3), (0, .class_ 4), (0, .nameAndType 5 6), (0, u "java/util/AbstractCollection"), (0, u "<init>"), (0, u "()V"), (0, .fieldref 8 9), (0, .class_ 10), (0, .nameAndType 11 12), (0, u "java/util/AbstractList"), (0, u "modCount"), (0, u "I"), (64, .class_ 78), (0, u "java/util/AbstractList$Itr"), (3, .class_ 83), (0, u "java/util/AbstractList$ListItr"), (9, .class_ 94), (0, u "java/util/AbstractList$RandomAccessSubList"), (3, .class_ 99), (0, u "java/util/AbstractList$SubList"), (33, .class_ 134), (0, u "java/util/List"), (73, .class_ 209), (0, u "java/util/AbstractList$SubList$1"), (0, .class_ 211), (0, u "java/util/AbstractList$RandomAccessSpliterator")] 6

def k8c0 : Code := { maxStack := 2, maxLocals := 1, code := jdk_39_method_1_code, exceptionTable := #[], attributes := #[] }
def k8m0 : Method := { name := "<init>", desc := "()V", sig := { parameters := [], returnType := none }, accessFlags := 4, code := some k8c0 }
/-- java/util/AbstractList -/
def k8 : Class := { plain "java/util/AbstractList" (some 5) with
  accessFlags := 1057
  interfaces := #[7]
  cf := some (fileOf pool8 8 #[.nestMembers #[93, 98, 208, 210, 82, 77]] #[{ accessFlags := 4, nameIndex := 5, descriptorIndex := 6, attributes := #[] }] 1057 2 #[133] #[{ accessFlags := 132, nameIndex := 11, descriptorIndex := 12, attributes := #[] }])
  fields := #[{ name := "modCount", type := .int, accessFlags := 132, slot := 0, constantValue := 0 }]
  methods := #[k8m0]
  instanceTypes := #[.int]
  staticTypes := #[]
  resolved := Array.replicate 218 none
  statics := none }

def pool9 : Array CpInfo := pool [(1, .class_ 2), (0, u "java/util/RandomAccess"), (0, .class_ 4), (0, u "java/lang/Object")] 2

/-- java/util/RandomAccess -/
def k9 : Class := { plain "java/util/RandomAccess" (some 0) with
  accessFlags := 1537
  interfaces := #[]
  cf := some (fileOf pool9 1 #[] #[] 1537 3 #[] #[])
  fields := #[]
  methods := #[]
  instanceTypes := #[]
  staticTypes := #[]
  resolved := Array.replicate 7 none
  statics := none }

def pool10 : Array CpInfo := pool [(1, .methodref 2 3), (0, .class_ 4), (0, .nameAndType 5 6), (0, u "java/util/AbstractList"), (0, u "<init>"), (0, u "()V"), (0, .fieldref 8 9), (0, .class_ 10), (0, .nameAndType 11 12), (0, u "com/example/hasset/hasset/model/GeneratedFleet$Addresses"), (0, u "count"), (0, u "I"), (0, .methodref 14 15), (0, .class_ 16), (0, .nameAndType 17 18), (0, u "java/util/Objects"), (0, u "checkIndex"), (0, u "(II)I"), (0, .methodref 20 21), (0, .class_ 22), (0, .nameAndType 23 24), (0, u "com/example/hasset/hasset/model/GeneratedFleet"), (0, u "address"), (0, u "(I)Ljava/lang/String;"), (0, .methodref 8 26), (0, .nameAndType 27 24), (0, u "get"), (0, .class_ 29), (0, u "java/util/RandomAccess"), (0, u "(I)V"), (2, u "size"), (0, u "()I"), (0, u "(I)Ljava/lang/Object;")] 8

def k10c0 : Code := { maxStack := 2, maxLocals := 2, code := prog_14_method_1_code, exceptionTable := #[], attributes := #[] }
def k10m0 : Method := { name := "<init>", desc := "(I)V", sig := { parameters := [.int], returnType := none }, accessFlags := 0, code := some k10c0 }
def k10c1 : Code := { maxStack := 2, maxLocals := 2, code := prog_14_method_2_code, exceptionTable := #[], attributes := #[] }
def k10m1 : Method := { name := "get", desc := "(I)Ljava/lang/String;", sig := { parameters := [.int], returnType := some (.object "java/lang/String") }, accessFlags := 1, code := some k10c1 }
def k10c2 : Code := { maxStack := 1, maxLocals := 1, code := prog_14_method_3_code, exceptionTable := #[], attributes := #[] }
def k10m2 : Method := { name := "size", desc := "()I", sig := { parameters := [], returnType := some .int }, accessFlags := 1, code := some k10c2 }
def k10c3 : Code := { maxStack := 2, maxLocals := 2, code := prog_14_method_4_code, exceptionTable := #[], attributes := #[] }
def k10m3 : Method := { name := "get", desc := "(I)Ljava/lang/Object;", sig := { parameters := [.int], returnType := some (.object "java/lang/Object") }, accessFlags := 4161, code := some k10c3 }
/-- com/example/hasset/hasset/model/GeneratedFleet$Addresses -/
def k10 : Class := { plain "com/example/hasset/hasset/model/GeneratedFleet$Addresses" (some 8) with
  accessFlags := 48
  interfaces := #[9]
  cf := some (fileOf pool10 8 #[.nestHost 20] #[{ accessFlags := 0, nameIndex := 5, descriptorIndex := 30, attributes := #[] }, { accessFlags := 1, nameIndex := 27, descriptorIndex := 24, attributes := #[] }, { accessFlags := 1, nameIndex := 33, descriptorIndex := 34, attributes := #[] }, { accessFlags := 4161, nameIndex := 27, descriptorIndex := 35, attributes := #[] }] 48 2 #[28] #[{ accessFlags := 18, nameIndex := 11, descriptorIndex := 12, attributes := #[] }])
  fields := #[{ name := "count", type := .int, accessFlags := 18, slot := 1, constantValue := 0 }]
  methods := #[k10m0, k10m1, k10m2, k10m3]
  instanceTypes := #[.int, .int]
  staticTypes := #[]
  resolved := Array.replicate 44 none
  statics := none }

def pool11 : Array CpInfo := pool [(2, .class_ 4), (1, u "java/lang/Object"), (0, u "<init>"), (0, u "()V"), (35, .class_ 44), (1, u "java/util/Objects"), (60, .methodref 106 107), (0, .class_ 108), (0, .nameAndType 109 110), (0, u "jdk/internal/util/Preconditions"), (0, u "checkIndex"), (0, u "(IILjava/util/function/BiFunction;)I"), (60, u "(II)I")] 12

def k11m0 : Method := { name := "<init>", desc := "()V", sig := { parameters := [], returnType := none }, accessFlags := 2, code := none }
def k11c1 : Code := { maxStack := 3, maxLocals := 2, code := jdk_31_method_17_code, exceptionTable := #[], attributes := #[] }
def k11m1 : Method := { name := "checkIndex", desc := "(II)I", sig := { parameters := [.int, .int], returnType := some .int }, accessFlags := 9, code := some k11c1 }
/-- java/util/Objects -/
def k11 : Class := { plain "java/util/Objects" (some 0) with
  accessFlags := 49
  interfaces := #[]
  cf := some (fileOf pool11 42 #[] #[{ accessFlags := 2, nameIndex := 5, descriptorIndex := 6, attributes := #[] }, { accessFlags := 9, nameIndex := 109, descriptorIndex := 171, attributes := #[] }] 49 2 #[] #[])
  fields := #[]
  methods := #[k11m0, k11m1]
  instanceTypes := #[]
  staticTypes := #[]
  resolved := Array.replicate 184 none
  statics := none }

def pool12 : Array CpInfo := pool [(2, .class_ 4), (1, u "java/lang/Object"), (0, u "<init>"), (0, u "()V"), (17, .class_ 26), (1, u "jdk/internal/util/Preconditions"), (6, u "checkIndex"), (21, .class_ 56), (0, u "jdk/internal/util/Preconditions$4"), (57, .class_ 115), (0, u "jdk/internal/util/Preconditions$1"), (7, u "SIOOBE_FORMATTER"), (0, u "Ljava/util/function/BiFunction;"), (0, .class_ 126), (0, u "jdk/internal/util/Preconditions$2"), (3, u "AIOOBE_FORMATTER"), (0, .class_ 132), (0, u "jdk/internal/util/Preconditions$3"), (3, u "IOOBE_FORMATTER"), (41, u "(IILjava/util/function/BiFunction;)I")] 15

def k12m0 : Method := { name := "<init>", desc := "()V", sig := { parameters := [], returnType := none }, accessFlags := 1, code := none }
def k12c1 : Code := { maxStack := 3, maxLocals := 3, code := jdk_41_method_11_code, exceptionTable := #[], attributes := #[] }
def k12m1 : Method := { name := "checkIndex", desc := "(IILjava/util/function/BiFunction;)I", sig := { parameters := [.int, .int, (.object "java/util/function/BiFunction")], returnType := some .int }, accessFlags := 9, code := some k12c1 }
/-- jdk/internal/util/Preconditions -/
def k12 : Class := { plain "jdk/internal/util/Preconditions" (some 0) with
  accessFlags := 33
  interfaces := #[]
  cf := some (fileOf pool12 24 #[.nestMembers #[55, 131, 125, 114]] #[{ accessFlags := 1, nameIndex := 5, descriptorIndex := 6, attributes := #[] }, { accessFlags := 9, nameIndex := 33, descriptorIndex := 178, attributes := #[] }] 33 2 #[] #[{ accessFlags := 25, nameIndex := 123, descriptorIndex := 124, attributes := #[] }, { accessFlags := 25, nameIndex := 130, descriptorIndex := 124, attributes := #[] }, { accessFlags := 25, nameIndex := 136, descriptorIndex := 124, attributes := #[] }])
  fields := #[{ name := "SIOOBE_FORMATTER", type := (.object "java/util/function/BiFunction"), accessFlags := 25, slot := 0, constantValue := 0 }, { name := "AIOOBE_FORMATTER", type := (.object "java/util/function/BiFunction"), accessFlags := 25, slot := 1, constantValue := 0 }, { name := "IOOBE_FORMATTER", type := (.object "java/util/function/BiFunction"), accessFlags := 25, slot := 2, constantValue := 0 }]
  methods := #[k12m0, k12m1]
  instanceTypes := #[]
  staticTypes := #[(.object "java/util/function/BiFunction"), (.object "java/util/function/BiFunction"), (.object "java/util/function/BiFunction")]
  resolved := Array.replicate 194 none
  statics := some 0 }

def pool13 : Array CpInfo := pool [(1, .class_ 2), (0, u "java/lang/Appendable"), (0, .class_ 4), (0, u "java/lang/Object")] 9

/-- java/lang/Appendable -/
def k13 : Class := { plain "java/lang/Appendable" (some 0) with
  accessFlags := 1537
  interfaces := #[]
  cf := some (fileOf pool13 1 #[] #[] 1537 3 #[] #[])
  fields := #[]
  methods := #[]
  instanceTypes := #[]
  staticTypes := #[]
  resolved := Array.replicate 14 none
  statics := none }

def pool14 : Array CpInfo := pool [(2, .class_ 4), (1, u "java/lang/CharSequence"), (42, .class_ 48), (0, u "java/lang/CharSequence$1CodePointIterator"), (10, .class_ 60), (0, u "java/lang/CharSequence$1CharIterator"), (5, .class_ 67), (0, u "java/lang/Object")] 63

/-- java/lang/CharSequence -/
def k14 : Class := { plain "java/lang/CharSequence" (some 0) with
  accessFlags := 1537
  interfaces := #[]
  cf := some (fileOf pool14 2 #[.nestMembers #[47, 59]] #[] 1537 66 #[] #[])
  fields := #[]
  methods := #[]
  instanceTypes := #[]
  staticTypes := #[]
  resolved := Array.replicate 131 none
  statics := none }

def pool15 : Array CpInfo := pool [(1, .class_ 2), (0, u "java/lang/String"), (0, .methodref 4 5), (0, .class_ 6), (0, .nameAndType 7 8), (0, u "java/lang/Object"), (0, u "<init>"), (0, u "()V"), (1, .class_ 12), (1, u "java/lang/AbstractStringBuilder"), (0, u "EMPTYVALUE"), (0, u "[B"), (0, .fieldref 10 16), (0, .nameAndType 17 14), (0, u "value"), (0, .fieldref 1 19), (0, .nameAndType 20 21), (0, u "COMPACT_STRINGS"), (0, u "Z"), (0, .fieldref 10 23), (0, .nameAndType 24 25), (0, u "coder"), (0, u "B"), (6, .methodref 1 33), (0, .nameAndType 34 35), (0, u "length"), (0, u "()I"), (0, .class_ 37), (0, u "java/lang/Integer"), (1, .integer 2147483647), (0, .methodref 1 41), (0, .nameAndType 24 42), (0, u "()B"), (2, u "append"), (0, u "(Ljava/lang/String;)Ljava/lang/AbstractStringBuilder;"), (1, .class_ 49), (0, u "java/lang/CharSequence"), (19, u "(Ljava/lang/String;)V"), (5, u "maybeLatin1"), (3, .fieldref 10 80), (0, .nameAndType 81 82), (0, u "count"), (0, u "I"), (0, .methodref 10 84), (0, .nameAndType 85 86), (0, u "isLatin1"), (0, u "()Z"), (13, .methodref 10 101), (0, .nameAndType 102 103), (0, u "ensureCapacityInternal"), (0, u "(I)V"), (0, .methodref 10 105), (0, .nameAndType 106 107), (0, u "newCapacity"), (0, u "(I)I"), (0, .methodref 109 110), (0, .class_ 111), (0, .nameAndType 112 113), (0, u "java/util/Arrays"), (0, u "copyOf"), (0, u "([BI)[B"), (0, .methodref 115 116), (0, .class_ 117), (0, .nameAndType 118 119), (0, u "jdk/internal/util/ArraysSupport"), (0, u "newLength"), (0, u "(III)I"), (68, u "getChars"), (19, .methodref 10 209), (0, .nameAndType 210 211), (0, u "putStringAt"), (0, u "(ILjava/lang/String;)V"), (5, u "inflateIfNeededFor"), (2, .nameAndType 221 222), (0, u "getBytes"), (0, u "([BIB)V"), (22, .methodref 36 246), (0, .nameAndType 247 107), (0, u "stringSize"), (0, .methodref 36 249), (0, .nameAndType 188 250), (0, u "(II[B)I"), (146, .methodref 10 398), (0, .nameAndType 217 69), (0, .methodref 1 220), (3, u "()[B"), (40, .class_ 445), (0, u "java/lang/Appendable"), (65, u "(I)Ljava/lang/AbstractStringBuilder;"), (40, u "getValue")] 56

def k15m0 : Method := { name := "<init>", desc := "()V", sig := { parameters := [], returnType := none }, accessFlags := 0, code := none }
def k15c1 : Code := { maxStack := 2, maxLocals := 2, code := jdk_68_method_2_code, exceptionTable := #[], attributes := #[] }
def k15m1 : Method := { name := "<init>", desc := "(I)V", sig := { parameters := [.int], returnType := none }, accessFlags := 0, code := some k15c1 }
def k15c2 : Code := { maxStack := 1, maxLocals := 1, code := jdk_68_method_6_code, exceptionTable := #[], attributes := #[] }
def k15m2 : Method := { name := "length", desc := "()I", sig := { parameters := [], returnType := some .int }, accessFlags := 1, code := some k15c2 }
def k15c3 : Code := { maxStack := 4, maxLocals := 3, code := jdk_68_method_9_code, exceptionTable := #[], attributes := #[] }
def k15m3 : Method := { name := "ensureCapacityInternal", desc := "(I)V", sig := { parameters := [.int], returnType := none }, accessFlags := 2, code := some k15c3 }
def k15c4 : Code := { maxStack := 5, maxLocals := 6, code := jdk_68_method_10_code, exceptionTable := #[], attributes := #[] }
def k15m4 : Method := { name := "newCapacity", desc := "(I)I", sig := { parameters := [.int], returnType := some .int }, accessFlags := 2, code := some k15c4 }
def k15c5 : Code := { maxStack := 3, maxLocals := 3, code := jdk_68_method_22_code, exceptionTable := #[], attributes := #[] }
def k15m5 : Method := { name := "append", desc := "(Ljava/lang/String;)Ljava/lang/AbstractStringBuilder;", sig := { parameters := [(.object "java/lang/String")], returnType := some (.object "java/lang/AbstractStringBuilder") }, accessFlags := 1, code := some k15c5 }
def k15c6 : Code := { maxStack := 4, maxLocals := 4, code := jdk_68_method_32_code, exceptionTable := #[], attributes := #[] }
def k15m6 : Method := { name := "append", desc := "(I)Ljava/lang/AbstractStringBuilder;", sig := { parameters := [.int], returnType := some (.object "java/lang/AbstractStringBuilder") }, accessFlags := 1, code := some k15c6 }
def k15c7 : Code := { maxStack := 1, maxLocals := 1, code := jdk_68_method_64_code, exceptionTable := #[], attributes := #[] }
def k15m7 : Method := { name := "getValue", desc := "()[B", sig := { parameters := [], returnType := some (.array .byte) }, accessFlags := 16, code := some k15c7 }
def k15c8 : Code := { maxStack := 1, maxLocals := 1, code := jdk_68_method_68_code, exceptionTable := #[], attributes := #[] }
def k15m8 : Method := { name := "isLatin1", desc := "()Z", sig := { parameters := [], returnType := some .boolean }, accessFlags := 16, code := some k15c8 }
def k15c9 : Code := { maxStack := 2, maxLocals := 2, code := jdk_68_method_71_code, exceptionTable := #[], attributes := #[] }
def k15m9 : Method := { name := "inflateIfNeededFor", desc := "(Ljava/lang/String;)V", sig := { parameters := [(.object "java/lang/String")], returnType := none }, accessFlags := 2, code := some k15c9 }
def k15c10 : Code := { maxStack := 4, maxLocals := 3, code := jdk_68_method_73_code, exceptionTable := #[], attributes := #[] }
def k15m10 : Method := { name := "putStringAt", desc := "(ILjava/lang/String;)V", sig := { parameters := [.int, (.object "java/lang/String")], returnType := none }, accessFlags := 2, code := some k15c10 }
/-- java/lang/AbstractStringBuilder -/
def k15 : Class := { plain "java/lang/AbstractStringBuilder" (some 0) with
  accessFlags := 1056
  interfaces := #[13, 14]
  cf := some (fileOf pool15 10 #[] #[{ accessFlags := 0, nameIndex := 7, descriptorIndex := 8, attributes := #[] }, { accessFlags := 0, nameIndex := 7, descriptorIndex := 103, attributes := #[] }, { accessFlags := 1, nameIndex := 34, descriptorIndex := 35, attributes := #[] }, { accessFlags := 2, nameIndex := 102, descriptorIndex := 103, attributes := #[] }, { accessFlags := 2, nameIndex := 106, descriptorIndex := 107, attributes := #[] }, { accessFlags := 1, nameIndex := 45, descriptorIndex := 46, attributes := #[] }, { accessFlags := 1, nameIndex := 45, descriptorIndex := 511, attributes := #[] }, { accessFlags := 16, nameIndex := 552, descriptorIndex := 403, attributes := #[] }, { accessFlags := 16, nameIndex := 85, descriptorIndex := 86, attributes := #[] }, { accessFlags := 2, nameIndex := 217, descriptorIndex := 69, attributes := #[] }, { accessFlags := 2, nameIndex := 210, descriptorIndex := 211, attributes := #[] }] 1056 4 #[444, 48] #[{ accessFlags := 0, nameIndex := 17, descriptorIndex := 14, attributes := #[] }, { accessFlags := 0, nameIndex := 24, descriptorIndex := 25, attributes := #[] }, { accessFlags := 0, nameIndex := 75, descriptorIndex := 21, attributes := #[] }, { accessFlags := 0, nameIndex := 81, descriptorIndex := 82, attributes := #[] }, { accessFlags := 26, nameIndex := 13, descriptorIndex := 14, attributes := #[] }])
  fields := #[{ name := "value", type := (.array .byte), accessFlags := 0, slot := 0, constantValue := 0 }, { name := "coder", type := .byte, accessFlags := 0, slot := 1, constantValue := 0 }, { name := "maybeLatin1", type := .boolean, accessFlags := 0, slot := 2, constantValue := 0 }, { name := "count", type := .int, accessFlags := 0, slot := 3, constantValue := 0 }, { name := "EMPTYVALUE", type := (.array .byte), accessFlags := 26, slot := 0, constantValue := 0 }]
  methods := #[k15m0, k15m1, k15m2, k15m3, k15m4, k15m5, k15m6, k15m7, k15m8, k15m9, k15m10]
  instanceTypes := #[(.array .byte), .byte, .boolean, .int]
  staticTypes := #[(.array .byte)]
  resolved := Array.replicate 609 none
  statics := none }

def pool16 : Array CpInfo := pool [(1, .class_ 2), (0, u "java/io/Serializable"), (0, .class_ 4), (0, u "java/lang/Object")] 2

/-- java/io/Serializable -/
def k16 : Class := { plain "java/io/Serializable" (some 0) with
  accessFlags := 1537
  interfaces := #[]
  cf := some (fileOf pool16 1 #[] #[] 1537 3 #[] #[])
  fields := #[]
  methods := #[]
  instanceTypes := #[]
  staticTypes := #[]
  resolved := Array.replicate 7 none
  statics := none }

def pool17 : Array CpInfo := pool [(1, .class_ 2), (0, u "java/lang/Comparable"), (0, .class_ 4), (0, u "java/lang/Object")] 7

/-- java/lang/Comparable -/
def k17 : Class := { plain "java/lang/Comparable" (some 0) with
  accessFlags := 1537
  interfaces := #[]
  cf := some (fileOf pool17 1 #[] #[] 1537 3 #[] #[])
  fields := #[]
  methods := #[]
  instanceTypes := #[]
  staticTypes := #[]
  resolved := Array.replicate 12 none
  statics := none }

def pool18 : Array CpInfo := pool [(1, .methodref 2 3), (0, .class_ 4), (0, .nameAndType 5 6), (0, u "java/lang/AbstractStringBuilder"), (0, u "<init>"), (0, u "(I)V"), (11, .class_ 20), (1, u "java/lang/String"), (3, .class_ 26), (1, u "java/lang/StringBuilder"), (0, u "append"), (0, u "(Ljava/lang/String;)Ljava/lang/StringBuilder;"), (0, .methodref 2 30), (0, .nameAndType 27 31), (0, u "(Ljava/lang/String;)Ljava/lang/AbstractStringBuilder;"), (21, .methodref 2 54), (0, .nameAndType 27 55), (0, u "(I)Ljava/lang/AbstractStringBuilder;"), (81, .methodref 18 138), (0, .nameAndType 5 139), (0, u "(Ljava/lang/StringBuilder;)V"), (5, u "()V"), (10, u "()I"), (111, u "(I)Ljava/lang/StringBuilder;"), (74, .methodref 2 344), (0, .nameAndType 345 156), (0, u "length"), (3, .class_ 350), (0, u "java/lang/Appendable"), (0, .class_ 352), (0, u "java/io/Serializable"), (0, .class_ 354), (0, u "java/lang/Comparable"), (0, .class_ 356), (0, u "java/lang/CharSequence"), (0, u "serialVersionUID"), (0, u "J"), (40, u "toString"), (0, u "()Ljava/lang/String;")] 21

def k18c0 : Code := { maxStack := 2, maxLocals := 1, code := jdk_67_method_1_code, exceptionTable := #[], attributes := #[] }
def k18m0 : Method := { name := "<init>", desc := "()V", sig := { parameters := [], returnType := none }, accessFlags := 1, code := some k18c0 }
def k18c1 : Code := { maxStack := 2, maxLocals := 2, code := jdk_67_method_7_code, exceptionTable := #[], attributes := #[] }
def k18m1 : Method := { name := "append", desc := "(Ljava/lang/String;)Ljava/lang/StringBuilder;", sig := { parameters := [(.object "java/lang/String")], returnType := some (.object "java/lang/StringBuilder") }, accessFlags := 1, code := some k18c1 }
def k18c2 : Code := { maxStack := 2, maxLocals := 2, code := jdk_67_method_15_code, exceptionTable := #[], attributes := #[] }
def k18m2 : Method := { name := "append", desc := "(I)Ljava/lang/StringBuilder;", sig := { parameters := [.int], returnType := some (.object "java/lang/StringBuilder") }, accessFlags := 1, code := some k18c2 }
def k18c3 : Code := { maxStack := 3, maxLocals := 1, code := jdk_67_method_42_code, exceptionTable := #[], attributes := #[] }
def k18m3 : Method := { name := "toString", desc := "()Ljava/lang/String;", sig := { parameters := [], returnType := some (.object "java/lang/String") }, accessFlags := 1, code := some k18c3 }
def k18c4 : Code := { maxStack := 1, maxLocals := 1, code := jdk_67_method_93_code, exceptionTable := #[], attributes := #[] }
def k18m4 : Method := { name := "length", desc := "()I", sig := { parameters := [], returnType := some .int }, accessFlags := 4161, code := some k18c4 }
/-- java/lang/StringBuilder -/
def k18 : Class := { plain "java/lang/StringBuilder" (some 15) with
  accessFlags := 49
  interfaces := #[13, 16, 17, 14]
  cf := some (fileOf pool18 24 #[] #[{ accessFlags := 1, nameIndex := 5, descriptorIndex := 145, attributes := #[] }, { accessFlags := 1, nameIndex := 27, descriptorIndex := 28, attributes := #[] }, { accessFlags := 1, nameIndex := 27, descriptorIndex := 268, attributes := #[] }, { accessFlags := 1, nameIndex := 399, descriptorIndex := 400, attributes := #[] }, { accessFlags := 4161, nameIndex := 345, descriptorIndex := 156, attributes := #[] }] 49 2 #[349, 351, 353, 355] #[{ accessFlags := 24, nameIndex := 357, descriptorIndex := 358, attributes := #[] }])
  fields := #[{ name := "serialVersionUID", type := .long, accessFlags := 24, slot := 0, constantValue := 0 }]
  methods := #[k18m0, k18m1, k18m2, k18m3, k18m4]
  instanceTypes := #[(.array .byte), .byte, .boolean, .int]
  staticTypes := #[.long]
  resolved := Array.replicate 422 none
  statics := none }

def pool19 : Array CpInfo := pool [(1, .class_ 2), (0, u "java/lang/constant/Constable"), (0, .class_ 4), (0, u "java/lang/Object")] 6

/-- java/lang/constant/Constable -/
def k19 : Class := { plain "java/lang/constant/Constable" (some 0) with
  accessFlags := 1537
  interfaces := #[]
  cf := some (fileOf pool19 1 #[] #[] 1537 3 #[] #[])
  fields := #[]
  methods := #[]
  instanceTypes := #[]
  staticTypes := #[]
  resolved := Array.replicate 11 none
  statics := none }

def pool20 : Array CpInfo := pool [(1, .class_ 2), (0, u "java/lang/constant/ConstantDesc"), (0, .class_ 4), (0, u "java/lang/Object")] 32

/-- java/lang/constant/ConstantDesc -/
def k20 : Class := { plain "java/lang/constant/ConstantDesc" (some 0) with
  accessFlags := 1537
  interfaces := #[]
  cf := some (fileOf pool20 1 #[] #[] 1537 3 #[] #[])
  fields := #[]
  methods := #[]
  instanceTypes := #[]
  staticTypes := #[]
  resolved := Array.replicate 37 none
  statics := none }

def pool21 : Array CpInfo := pool [(1, .methodref 2 3), (0, .class_ 4), (0, .nameAndType 5 6), (0, u "java/lang/Object"), (0, u "<init>"), (0, u "()V"), (2, .fieldref 10 11), (0, .class_ 12), (0, .nameAndType 13 14), (0, u "java/lang/String"), (0, u "value"), (0, u "[B"), (0, .fieldref 10 16), (0, .nameAndType 17 18), (0, u "coder"), (0, u "B"), (2, u "hash"), (0, u "I"), (2, u "hashIsZero"), (0, u "Z"), (11, .fieldref 10 39), (0, .nameAndType 40 26), (0, u "COMPACT_STRINGS"), (13, .methodref 55 56), (0, .class_ 57), (0, .nameAndType 58 59), (0, u "java/util/Arrays"), (0, u "copyOfRange"), (0, u "([BII)[B"), (47, .class_ 109), (1, u "java/lang/StringLatin1"), (32, u "()Z"), (50, .class_ 195), (1, u "java/lang/System"), (16, .methodref 193 213), (0, .nameAndType 214 215), (0, u "arraycopy"), (0, u "(Ljava/lang/Object;ILjava/lang/Object;II)V"), (118, u "()I"), (0, .methodref 10 336), (0, .nameAndType 17 337), (0, u "()B"), (2, u "()[B"), (22, u "([BI)C"), (27, u "(II)V"), (35, u "(I)C"), (61, .methodref 10 490), (0, .nameAndType 5 491), (0, u "(Ljava/lang/AbstractStringBuilder;Ljava/lang/Void;)V"), (0, .methodref 10 493), (0, .nameAndType 494 142), (0, u "isLatin1"), (0, .methodref 107 496), (0, .nameAndType 497 363), (0, u "charAt"), (3, u "checkIndex"), (4, .nameAndType 507 334), (0, u "length"), (24, u "getBytes"), (16, .methodref 550 506), (0, .class_ 551), (0, u "java/lang/AbstractStringBuilder"), (0, .methodref 550 553), (0, .nameAndType 554 340), (0, u "getValue"), (20, .class_ 576), (0, u "java/lang/CharSequence"), (22, u "CASE_INSENSITIVE_ORDER"), (0, u "Ljava/util/Comparator;"), (220, u "([BIB)V"), (225, .methodref 550 493), (5, .fieldref 1054 1055), (0, .class_ 1056), (0, .nameAndType 1057 1058), (0, u "jdk/internal/util/Preconditions"), (0, u "SIOOBE_FORMATTER"), (0, u "Ljava/util/function/BiFunction;"), (0, .methodref 1054 1060), (0, .nameAndType 501 1061), (0, u "(IILjava/util/function/BiFunction;)I"), (39, u "serialPersistentFields"), (0, u "[Ljava/io/ObjectStreamField;"), (0, .class_ 1104), (0, u "java/lang/String$CaseInsensitiveComparator"), (1, .class_ 1107), (0, u "java/io/Serializable"), (0, .class_ 1109), (0, u "java/lang/Comparable"), (0, .class_ 1111), (0, u "java/lang/constant/Constable"), (0, .class_ 1113), (0, u "java/lang/constant/ConstantDesc"), (2, u "serialVersionUID"), (0, u "J"), (3, u "REPL"), (0, u "C"), (2, u "LATIN1"), (1, u "UTF16"), (105, u "(Ljava/lang/StringBuilder;)V")] 217

def k21m0 : Method := { name := "<init>", desc := "()V", sig := { parameters := [], returnType := none }, accessFlags := 1, code := none }
def k21c1 : Code := { maxStack := 3, maxLocals := 2, code := jdk_42_method_53_code, exceptionTable := #[], attributes := #[] }
def k21m1 : Method := { name := "<init>", desc := "(Ljava/lang/StringBuilder;)V", sig := { parameters := [(.object "java/lang/StringBuilder")], returnType := none }, accessFlags := 1, code := some k21c1 }
def k21c2 : Code := { maxStack := 2, maxLocals := 1, code := jdk_42_method_54_code, exceptionTable := #[], attributes := #[] }
def k21m2 : Method := { name := "length", desc := "()I", sig := { parameters := [], returnType := some .int }, accessFlags := 1, code := some k21c2 }
def k21c3 : Code := { maxStack := 2, maxLocals := 2, code := jdk_42_method_56_code, exceptionTable := #[], attributes := #[] }
def k21m3 : Method := { name := "charAt", desc := "(I)C", sig := { parameters := [.int], returnType := some .char }, accessFlags := 1, code := some k21c3 }
def k21c4 : Code := { maxStack := 5, maxLocals := 4, code := jdk_42_method_147_code, exceptionTable := #[], attributes := #[] }
def k21m4 : Method := { name := "getBytes", desc := "([BIB)V", sig := { parameters := [(.array .byte), .int, .byte], returnType := none }, accessFlags := 0, code := some k21c4 }
def k21c5 : Code := { maxStack := 5, maxLocals := 5, code := jdk_42_method_150_code, exceptionTable := #[], attributes := #[] }
def k21m5 : Method := { name := "<init>", desc := "(Ljava/lang/AbstractStringBuilder;Ljava/lang/Void;)V", sig := { parameters := [(.object "java/lang/AbstractStringBuilder"), (.object "java/lang/Void")], returnType := none }, accessFlags := 0, code := some k21c5 }
def k21c6 : Code := { maxStack := 1, maxLocals := 1, code := jdk_42_method_152_code, exceptionTable := #[], attributes := #[] }
def k21m6 : Method := { name := "coder", desc := "()B", sig := { parameters := [], returnType := some .byte }, accessFlags := 0, code := some k21c6 }
def k21c7 : Code := { maxStack := 1, maxLocals := 1, code := jdk_42_method_154_code, exceptionTable := #[], attributes := #[] }
def k21m7 : Method := { name := "isLatin1", desc := "()Z", sig := { parameters := [], returnType := some .boolean }, accessFlags := 0, code := some k21c7 }
def k21c8 : Code := { maxStack := 3, maxLocals := 2, code := jdk_42_method_155_code, exceptionTable := #[], attributes := #[] }
def k21m8 : Method := { name := "checkIndex", desc := "(II)V", sig := { parameters := [.int, .int], returnType := none }, accessFlags := 8, code := some k21c8 }
/-- java/lang/String -/
def k21 : Class := { plain "java/lang/String" (some 0) with
  accessFlags := 49
  interfaces := #[16, 17, 14, 19, 20]
  cf := some (fileOf pool21 10 #[.nestMembers #[1103]] #[{ accessFlags := 1, nameIndex := 5, descriptorIndex := 6, attributes := #[] }, { accessFlags := 1, nameIndex := 5, descriptorIndex := 1233, attributes := #[] }, { accessFlags := 1, nameIndex := 507, descriptorIndex := 334, attributes := #[] }, { accessFlags := 1, nameIndex := 497, descriptorIndex := 427, attributes := #[] }, { accessFlags := 0, nameIndex := 532, descriptorIndex := 821, attributes := #[] }, { accessFlags := 0, nameIndex := 5, descriptorIndex := 491, attributes := #[] }, { accessFlags := 0, nameIndex := 17, descriptorIndex := 337, attributes := #[] }, { accessFlags := 0, nameIndex := 494, descriptorIndex := 142, attributes := #[] }, { accessFlags := 8, nameIndex := 501, descriptorIndex := 391, attributes := #[] }] 49 2 #[1106, 1108, 575, 1110, 1112] #[{ accessFlags := 18, nameIndex := 13, descriptorIndex := 14, attributes := #[] }, { accessFlags := 18, nameIndex := 17, descriptorIndex := 18, attributes := #[] }, { accessFlags := 2, nameIndex := 21, descriptorIndex := 22, attributes := #[] }, { accessFlags := 2, nameIndex := 25, descriptorIndex := 26, attributes := #[] }, { accessFlags := 26, nameIndex := 1116, descriptorIndex := 1117, attributes := #[] }, { accessFlags := 24, nameIndex := 40, descriptorIndex := 26, attributes := #[] }, { accessFlags := 26, nameIndex := 1101, descriptorIndex := 1102, attributes := #[] }, { accessFlags := 26, nameIndex := 1121, descriptorIndex := 1122, attributes := #[] }, { accessFlags := 25, nameIndex := 599, descriptorIndex := 600, attributes := #[] }, { accessFlags := 24, nameIndex := 1125, descriptorIndex := 18, attributes := #[] }, { accessFlags := 24, nameIndex := 1127, descriptorIndex := 18, attributes := #[] }])
  fields := #[{ name := "value", type := (.array .byte), accessFlags := 18, slot := 0, constantValue := 0 }, { name := "coder", type := .byte, accessFlags := 18, slot := 1, constantValue := 0 }, { name := "hash", type := .int, accessFlags := 2, slot := 2, constantValue := 0 }, { name := "hashIsZero", type := .boolean, accessFlags := 2, slot := 3, constantValue := 0 }, { name := "serialVersionUID", type := .long, accessFlags := 26, slot := 0, constantValue := 0 }, { name := "COMPACT_STRINGS", type := .boolean, accessFlags := 24, slot := 1, constantValue := 0 }, { name := "serialPersistentFields", type := (.array (.object "java/io/ObjectStreamField")), accessFlags := 26, slot := 2, constantValue := 0 }, { name := "REPL", type := .char, accessFlags := 26, slot := 3, constantValue := 0 }, { name := "CASE_INSENSITIVE_ORDER", type := (.object "java/util/Comparator"), accessFlags := 25, slot := 4, constantValue := 0 }, { name := "LATIN1", type := .byte, accessFlags := 24, slot := 5, constantValue := 0 }, { name := "UTF16", type := .byte, accessFlags := 24, slot := 6, constantValue := 0 }]
  methods := #[k21m0, k21m1, k21m2, k21m3, k21m4, k21m5, k21m6, k21m7, k21m8]
  instanceTypes := #[(.array .byte), .byte, .int, .boolean]
  staticTypes := #[.long, .boolean, (.array (.object "java/io/ObjectStreamField")), .char, (.object "java/util/Comparator"), .byte, .byte]
  resolved := Array.replicate 1451 none
  statics := some 1 }

def pool22 : Array CpInfo := pool [(2, .class_ 4), (1, u "java/lang/Object"), (0, u "<init>"), (0, u "()V"), (1, .class_ 10), (1, u "java/lang/System"), (0, u "allowSecurityManager"), (0, u "I"), (16, u "cons"), (0, u "Ljava/io/Console;"), (77, .class_ 110), (1, u "java/lang/System$CallersHolder"), (43, u "initialErrStream"), (0, u "Ljava/io/PrintStream;"), (19, u "security"), (0, u "Ljava/lang/SecurityManager;"), (31, .class_ 209), (0, u "java/lang/System$1"), (7, u "props"), (0, u "Ljava/util/Properties;"), (2, u "lineSeparator"), (0, u "Ljava/lang/String;"), (96, .class_ 321), (1, u "java/lang/System$LoggerFinder"), (5, .class_ 328), (0, u "java/lang/System$Logger"), (67, u "err"), (2, u "out"), (91, u "notSupportedJnuEncoding"), (15, u "in"), (17, u "initialIn"), (0, u "Ljava/io/InputStream;"), (35, u "bootLayer"), (0, u "Ljava/lang/ModuleLayer;"), (99, .class_ 664), (0, u "java/lang/System$2"), (9, u "NEVER"), (2, u "MAYBE"), (49, u "arraycopy"), (0, u "(Ljava/lang/Object;ILjava/lang/Object;II)V"), (72, .class_ 802), (0, u "java/lang/System$Logger$Level")] 31

def k22m0 : Method := { name := "<init>", desc := "()V", sig := { parameters := [], returnType := none }, accessFlags := 2, code := none }
def k22m1 : Method := { name := "arraycopy", desc := "(Ljava/lang/Object;ILjava/lang/Object;II)V", sig := { parameters := [(.object "java/lang/Object"), .int, (.object "java/lang/Object"), .int, .int], returnType := none }, accessFlags := 265, code := none }
/-- java/lang/System -/
def k22 : Class := { plain "java/lang/System" (some 0) with
  accessFlags := 49
  interfaces := #[]
  cf := some (fileOf pool22 8 #[.nestMembers #[319, 327, 801, 108, 663, 208]] #[{ accessFlags := 2, nameIndex := 5, descriptorIndex := 6, attributes := #[] }, { accessFlags := 265, nameIndex := 727, descriptorIndex := 728, attributes := #[] }] 49 2 #[] #[{ accessFlags := 25, nameIndex := 507, descriptorIndex := 526, attributes := #[] }, { accessFlags := 25, nameIndex := 399, descriptorIndex := 155, attributes := #[] }, { accessFlags := 25, nameIndex := 396, descriptorIndex := 155, attributes := #[] }, { accessFlags := 10, nameIndex := 525, descriptorIndex := 526, attributes := #[] }, { accessFlags := 26, nameIndex := 674, descriptorIndex := 12, attributes := #[] }, { accessFlags := 26, nameIndex := 677, descriptorIndex := 12, attributes := #[] }, { accessFlags := 10, nameIndex := 11, descriptorIndex := 12, attributes := #[] }, { accessFlags := 74, nameIndex := 175, descriptorIndex := 176, attributes := #[] }, { accessFlags := 10, nameIndex := 491, descriptorIndex := 222, attributes := #[] }, { accessFlags := 74, nameIndex := 29, descriptorIndex := 30, attributes := #[] }, { accessFlags := 74, nameIndex := 154, descriptorIndex := 155, attributes := #[] }, { accessFlags := 10, nameIndex := 217, descriptorIndex := 218, attributes := #[] }, { accessFlags := 10, nameIndex := 221, descriptorIndex := 222, attributes := #[] }, { accessFlags := 8, nameIndex := 562, descriptorIndex := 563, attributes := #[] }])
  fields := #[{ name := "in", type := (.object "java/io/InputStream"), accessFlags := 25, slot := 0, constantValue := 0 }, { name := "out", type := (.object "java/io/PrintStream"), accessFlags := 25, slot := 1, constantValue := 0 }, { name := "err", type := (.object "java/io/PrintStream"), accessFlags := 25, slot := 2, constantValue := 0 }, { name := "initialIn", type := (.object "java/io/InputStream"), accessFlags := 10, slot := 3, constantValue := 0 }, { name := "NEVER", type := .int, accessFlags := 26, slot := 4, constantValue := 0 }, { name := "MAYBE", type := .int, accessFlags := 26, slot := 5, constantValue := 0 }, { name := "allowSecurityManager", type := .int, accessFlags := 10, slot := 6, constantValue := 0 }, { name := "security", type := (.object "java/lang/SecurityManager"), accessFlags := 74, slot := 7, constantValue := 0 }, { name := "notSupportedJnuEncoding", type := (.object "java/lang/String"), accessFlags := 10, slot := 8, constantValue := 0 }, { name := "cons", type := (.object "java/io/Console"), accessFlags := 74, slot := 9, constantValue := 0 }, { name := "initialErrStream", type := (.object "java/io/PrintStream"), accessFlags := 74, slot := 10, constantValue := 0 }, { name := "props", type := (.object "java/util/Properties"), accessFlags := 10, slot := 11, constantValue := 0 }, { name := "lineSeparator", type := (.object "java/lang/String"), accessFlags := 10, slot := 12, constantValue := 0 }, { name := "bootLayer", type := (.object "java/lang/ModuleLayer"), accessFlags := 8, slot := 13, constantValue := 0 }]
  methods := #[k22m0, k22m1]
  instanceTypes := #[]
  staticTypes := #[(.object "java/io/InputStream"), (.object "java/io/PrintStream"), (.object "java/io/PrintStream"), (.object "java/io/InputStream"), .int, .int, .int, (.object "java/lang/SecurityManager"), (.object "java/lang/String"), (.object "java/io/Console"), (.object "java/io/PrintStream"), (.object "java/util/Properties"), (.object "java/lang/String"), (.object "java/lang/ModuleLayer")]
  resolved := Array.replicate 834 none
  statics := none }

def pool23 : Array CpInfo := pool [(2, .class_ 4), (1, u "java/lang/Object"), (0, u "<init>"), (0, u "()V"), (1, .class_ 10), (1, u "java/lang/Number"), (2, .class_ 14), (0, u "java/io/Serializable"), (0, u "serialVersionUID"), (0, u "J")] 20

def k23m0 : Method := { name := "<init>", desc := "()V", sig := { parameters := [], returnType := none }, accessFlags := 1, code := none }
/-- java/lang/Number -/
def k23 : Class := { plain "java/lang/Number" (some 0) with
  accessFlags := 1057
  interfaces := #[16]
  cf := some (fileOf pool23 8 #[] #[{ accessFlags := 1, nameIndex := 5, descriptorIndex := 6, attributes := #[] }] 1057 2 #[13] #[{ accessFlags := 26, nameIndex := 15, descriptorIndex := 16, attributes := #[] }])
  fields := #[{ name := "serialVersionUID", type := .long, accessFlags := 26, slot := 0, constantValue := 0 }]
  methods := #[k23m0]
  instanceTypes := #[]
  staticTypes := #[.long]
  resolved := Array.replicate 37 none
  statics := none }

def pool24 : Array CpInfo := pool [(1, .class_ 2), (0, u "java/lang/Integer"), (16, u "digits"), (0, u "[C"), (33, u "(I)I"), (19, u "stringSize"), (2, u "getChars"), (0, u "(II[B)I"), (4, .fieldref 1 84), (0, .nameAndType 85 86), (0, u "DigitOnes"), (0, u "[B"), (0, .fieldref 1 88), (0, .nameAndType 89 86), (0, u "DigitTens"), (99, .class_ 190), (0, u "java/lang/Integer$IntegerCache"), (3, u "I"), (8, .class_ 204), (0, u "java/lang/Number"), (2, u "value"), (94, u "TYPE"), (0, u "Ljava/lang/Class;"), (0, .class_ 305), (0, u "java/lang/Comparable"), (0, .class_ 307), (0, u "java/lang/constant/Constable"), (0, .class_ 309), (0, u "java/lang/constant/ConstantDesc"), (0, u "MIN_VALUE"), (1, u "MAX_VALUE"), (3, u "SIZE"), (1, u "BYTES"), (1, u "serialVersionUID"), (0, u "J")] 131

def k24c0 : Code := { maxStack := 4, maxLocals := 7, code := jdk_33_method_12_code, exceptionTable := #[], attributes := #[] }
def k24m0 : Method := { name := "getChars", desc := "(II[B)I", sig := { parameters := [.int, .int, (.array .byte)], returnType := some .int }, accessFlags := 8, code := some k24c0 }
def k24c1 : Code := { maxStack := 2, maxLocals := 4, code := jdk_33_method_13_code, exceptionTable := #[], attributes := #[] }
def k24m1 : Method := { name := "stringSize", desc := "(I)I", sig := { parameters := [.int], returnType := some .int }, accessFlags := 8, code := some k24c1 }
/-- java/lang/Integer -/
def k24 : Class := { plain "java/lang/Integer" (some 23) with
  accessFlags := 49
  interfaces := #[17, 19, 20]
  cf := some (fileOf pool24 1 #[.nestMembers #[189]] #[{ accessFlags := 8, nameIndex := 77, descriptorIndex := 78, attributes := #[] }, { accessFlags := 8, nameIndex := 74, descriptorIndex := 54, attributes := #[] }] 49 203 #[304, 306, 308] #[{ accessFlags := 25, nameIndex := 310, descriptorIndex := 194, attributes := #[] }, { accessFlags := 25, nameIndex := 312, descriptorIndex := 194, attributes := #[] }, { accessFlags := 25, nameIndex := 302, descriptorIndex := 303, attributes := #[] }, { accessFlags := 24, nameIndex := 19, descriptorIndex := 20, attributes := #[] }, { accessFlags := 24, nameIndex := 89, descriptorIndex := 86, attributes := #[] }, { accessFlags := 24, nameIndex := 85, descriptorIndex := 86, attributes := #[] }, { accessFlags := 18, nameIndex := 207, descriptorIndex := 194, attributes := #[] }, { accessFlags := 25, nameIndex := 316, descriptorIndex := 194, attributes := #[] }, { accessFlags := 25, nameIndex := 318, descriptorIndex := 194, attributes := #[] }, { accessFlags := 26, nameIndex := 320, descriptorIndex := 321, attributes := #[] }])
  fields := #[{ name := "MIN_VALUE", type := .int, accessFlags := 25, slot := 0, constantValue := 0 }, { name := "MAX_VALUE", type := .int, accessFlags := 25, slot := 1, constantValue := 0 }, { name := "TYPE", type := (.object "java/lang/Class"), accessFlags := 25, slot := 2, constantValue := 0 }, { name := "digits", type := (.array .char), accessFlags := 24, slot := 3, constantValue := 0 }, { name := "DigitTens", type := (.array .byte), accessFlags := 24, slot := 4, constantValue := 0 }, { name := "DigitOnes", type := (.array .byte), accessFlags := 24, slot := 5, constantValue := 0 }, { name := "value", type := .int, accessFlags := 18, slot := 0, constantValue := 0 }, { name := "SIZE", type := .int, accessFlags := 25, slot := 6, constantValue := 0 }, { name := "BYTES", type := .int, accessFlags := 25, slot := 7, constantValue := 0 }, { name := "serialVersionUID", type := .long, accessFlags := 26, slot := 8, constantValue := 0 }]
  methods := #[k24m0, k24m1]
  instanceTypes := #[.int]
  staticTypes := #[.int, .int, (.object "java/lang/Class"), (.array .char), (.array .byte), (.array .byte), .int, .int, .long]
  resolved := Array.replicate 453 none
  statics := some 2 }

def pool25 : Array CpInfo := pool [(2, .class_ 4), (1, u "java/lang/Object"), (0, u "<init>"), (0, u "()V"), (7, .class_ 16), (1, u "java/util/Arrays"), (57, .class_ 76), (1, u "java/util/Arrays$NaturalOrder"), (32, u "()Ljava/lang/Object;"), (3, .class_ 115), (1, u "java/util/Arrays$LegacyMergeSort"), (1, u "Z"), (10, .nameAndType 129 109), (0, u "clone"), (9, u "copyOfRange"), (10, .methodref 151 152), (0, .class_ 153), (0, .nameAndType 154 155), (0, u "java/lang/System"), (0, u "arraycopy"), (0, u "(Ljava/lang/Object;ILjava/lang/Object;II)V"), (146, u "copyOf"), (1, .methodref 305 306), (0, .class_ 307), (0, .nameAndType 308 309), (0, u "java/lang/Math"), (0, u "min"), (0, u "(II)I"), (0, .methodref 311 128), (0, .class_ 312), (0, u "[B"), (26, .methodref 14 340), (0, .nameAndType 341 342), (0, u "copyOfRangeByte"), (0, u "([BII)[B"), (0, .methodref 14 344), (0, .nameAndType 345 346), (0, u "checkLength"), (0, u "(II)V"), (28, .class_ 376), (0, u "java/util/Arrays$ArrayList"), (68, u "$assertionsDisabled"), (269, u "MIN_ARRAY_SORT_GRAN"), (0, u "I"), (2, u "INSERTIONSORT_THRESHOLD"), (149, u "([BI)[B"), (105, .class_ 976), (0, u "java/util/Arrays$ArrayItr")] 52

def k25m0 : Method := { name := "<init>", desc := "()V", sig := { parameters := [], returnType := none }, accessFlags := 2, code := none }
def k25c1 : Code := { maxStack := 6, maxLocals := 3, code := jdk_65_method_121_code, exceptionTable := #[], attributes := #[] }
def k25m1 : Method := { name := "copyOf", desc := "([BI)[B", sig := { parameters := [(.array .byte), .int], returnType := some (.array .byte) }, accessFlags := 9, code := some k25c1 }
def k25c2 : Code := { maxStack := 4, maxLocals := 2, code := jdk_65_method_131_code, exceptionTable := #[], attributes := #[] }
def k25m2 : Method := { name := "checkLength", desc := "(II)V", sig := { parameters := [.int, .int], returnType := none }, accessFlags := 10, code := some k25c2 }
def k25c3 : Code := { maxStack := 3, maxLocals := 3, code := jdk_65_method_132_code, exceptionTable := #[], attributes := #[] }
def k25m3 : Method := { name := "copyOfRange", desc := "([BII)[B", sig := { parameters := [(.array .byte), .int, .int], returnType := some (.array .byte) }, accessFlags := 9, code := some k25c3 }
def k25c4 : Code := { maxStack := 6, maxLocals := 5, code := jdk_65_method_133_code, exceptionTable := #[], attributes := #[] }
def k25m4 : Method := { name := "copyOfRangeByte", desc := "([BII)[B", sig := { parameters := [(.array .byte), .int, .int], returnType := some (.array .byte) }, accessFlags := 10, code := some k25c4 }
/-- java/util/Arrays -/
def k25 : Class := { plain "java/util/Arrays" (some 0) with
  accessFlags := 49
  interfaces := #[]
  cf := some (fileOf pool25 14 #[.nestMembers #[975, 375, 113, 74]] #[{ accessFlags := 2, nameIndex := 5, descriptorIndex := 6, attributes := #[] }, { accessFlags := 9, nameIndex := 302, descriptorIndex := 869, attributes := #[] }, { accessFlags := 10, nameIndex := 345, descriptorIndex := 346, attributes := #[] }, { accessFlags := 9, nameIndex := 139, descriptorIndex := 342, attributes := #[] }, { accessFlags := 10, nameIndex := 341, descriptorIndex := 342, attributes := #[] }] 49 2 #[] #[{ accessFlags := 26, nameIndex := 715, descriptorIndex := 716, attributes := #[] }, { accessFlags := 26, nameIndex := 719, descriptorIndex := 716, attributes := #[] }, { accessFlags := 4120, nameIndex := 445, descriptorIndex := 117, attributes := #[] }])
  fields := #[{ name := "MIN_ARRAY_SORT_GRAN", type := .int, accessFlags := 26, slot := 0, constantValue := 0 }, { name := "INSERTIONSORT_THRESHOLD", type := .int, accessFlags := 26, slot := 1, constantValue := 0 }, { name := "$assertionsDisabled", type := .boolean, accessFlags := 4120, slot := 2, constantValue := 0 }]
  methods := #[k25m0, k25m1, k25m2, k25m3, k25m4]
  instanceTypes := #[]
  staticTypes := #[.int, .int, .boolean]
  resolved := Array.replicate 1029 none
  statics := none }

def pool26 : Array CpInfo := pool [(1, .class_ 2), (0, u "java/lang/Math"), (1, .class_ 6), (1, u "java/lang/Object"), (0, u "<init>"), (0, u "()V"), (89, .class_ 100), (1, u "java/lang/Math$RandomNumberGeneratorHolder"), (71, u "negativeZeroFloatBits"), (0, u "J"), (2, u "negativeZeroDoubleBits"), (21, u "max"), (2, u "min"), (43, u "$assertionsDisabled"), (0, u "Z"), (88, u "(II)I"), (2, u "twoToTheDoubleScaleDown"), (0, u "D"), (4, u "twoToTheDoubleScaleUp"), (9, u "E"), (3, u "PI"), (2, u "TAU"), (2, u "DEGREES_TO_RADIANS"), (0, u "RADIANS_TO_DEGREES")] 94

def k26m0 : Method := { name := "<init>", desc := "()V", sig := { parameters := [], returnType := none }, accessFlags := 2, code := none }
def k26c1 : Code := { maxStack := 2, maxLocals := 2, code := jdk_29_method_65_code, exceptionTable := #[], attributes := #[] }
def k26m1 : Method := { name := "max", desc := "(II)I", sig := { parameters := [.int, .int], returnType := some .int }, accessFlags := 9, code := some k26c1 }
def k26c2 : Code := { maxStack := 2, maxLocals := 2, code := jdk_29_method_69_code, exceptionTable := #[], attributes := #[] }
def k26m2 : Method := { name := "min", desc := "(II)I", sig := { parameters := [.int, .int], returnType := some .int }, accessFlags := 9, code := some k26c2 }
/-- java/lang/Math -/
def k26 : Class := { plain "java/lang/Math" (some 0) with
  accessFlags := 49
  interfaces := #[]
  cf := some (fileOf pool26 1 #[.nestMembers #[98]] #[{ accessFlags := 2, nameIndex := 7, descriptorIndex := 8, attributes := #[] }, { accessFlags := 9, nameIndex := 198, descriptorIndex := 335, attributes := #[] }, { accessFlags := 9, nameIndex := 201, descriptorIndex := 335, attributes := #[] }] 49 4 #[] #[{ accessFlags := 25, nameIndex := 354, descriptorIndex := 339, attributes := #[] }, { accessFlags := 25, nameIndex := 358, descriptorIndex := 339, attributes := #[] }, { accessFlags := 25, nameIndex := 361, descriptorIndex := 339, attributes := #[] }, { accessFlags := 26, nameIndex := 364, descriptorIndex := 339, attributes := #[] }, { accessFlags := 26, nameIndex := 365, descriptorIndex := 339, attributes := #[] }, { accessFlags := 26, nameIndex := 172, descriptorIndex := 173, attributes := #[] }, { accessFlags := 26, nameIndex := 176, descriptorIndex := 173, attributes := #[] }, { accessFlags := 8, nameIndex := 344, descriptorIndex := 339, attributes := #[] }, { accessFlags := 8, nameIndex := 338, descriptorIndex := 339, attributes := #[] }, { accessFlags := 4120, nameIndex := 245, descriptorIndex := 246, attributes := #[] }])
  fields := #[{ name := "E", type := .double, accessFlags := 25, slot := 0, constantValue := 0 }, { name := "PI", type := .double, accessFlags := 25, slot := 1, constantValue := 0 }, { name := "TAU", type := .double, accessFlags := 25, slot := 2, constantValue := 0 }, { name := "DEGREES_TO_RADIANS", type := .double, accessFlags := 26, slot := 3, constantValue := 0 }, { name := "RADIANS_TO_DEGREES", type := .double, accessFlags := 26, slot := 4, constantValue := 0 }, { name := "negativeZeroFloatBits", type := .long, accessFlags := 26, slot := 5, constantValue := 0 }, { name := "negativeZeroDoubleBits", type := .long, accessFlags := 26, slot := 6, constantValue := 0 }, { name := "twoToTheDoubleScaleUp", type := .double, accessFlags := 8, slot := 7, constantValue := 0 }, { name := "twoToTheDoubleScaleDown", type := .double, accessFlags := 8, slot := 8, constantValue := 0 }, { name := "$assertionsDisabled", type := .boolean, accessFlags := 4120, slot := 9, constantValue := 0 }]
  methods := #[k26m0, k26m1, k26m2]
  instanceTypes := #[]
  staticTypes := #[.double, .double, .double, .double, .double, .long, .long, .double, .double, .boolean]
  resolved := Array.replicate 460 none
  statics := none }

def pool27 : Array CpInfo := pool [(1, .class_ 2), (0, u "java/lang/String"), (1, .class_ 6), (1, u "java/lang/Object"), (0, u "<init>"), (0, u "()V"), (0, .methodref 1 10), (0, .nameAndType 11 12), (0, u "checkIndex"), (0, u "(II)V"), (1, .class_ 16), (1, u "java/lang/StringLatin1"), (36, u "([BI)C"), (67, u "$assertionsDisabled"), (0, u "Z"), (98, .class_ 223), (1, u "java/lang/StringLatin1$LinesSpliterator"), (28, u "charAt"), (137, .class_ 391), (0, u "java/lang/StringLatin1$CharsSpliterator")] 3

def k27m0 : Method := { name := "<init>", desc := "()V", sig := { parameters := [], returnType := none }, accessFlags := 0, code := none }
def k27c1 : Code := { maxStack := 2, maxLocals := 2, code := jdk_43_method_2_code, exceptionTable := #[], attributes := #[] }
def k27m1 : Method := { name := "charAt", desc := "([BI)C", sig := { parameters := [(.array .byte), .int], returnType := some .char }, accessFlags := 9, code := some k27c1 }
/-- java/lang/StringLatin1 -/
def k27 : Class := { plain "java/lang/StringLatin1" (some 0) with
  accessFlags := 48
  interfaces := #[]
  cf := some (fileOf pool27 14 #[.nestMembers #[390, 221]] #[{ accessFlags := 0, nameIndex := 7, descriptorIndex := 8, attributes := #[] }, { accessFlags := 9, nameIndex := 252, descriptorIndex := 53, attributes := #[] }] 48 4 #[] #[{ accessFlags := 4120, nameIndex := 121, descriptorIndex := 122, attributes := #[] }])
  fields := #[{ name := "$assertionsDisabled", type := .boolean, accessFlags := 4120, slot := 0, constantValue := 0 }]
  methods := #[k27m0, k27m1]
  instanceTypes := #[]
  staticTypes := #[.boolean]
  resolved := Array.replicate 395 none
  statics := none }

def pool28 : Array CpInfo := pool [(9, u "<init>"), (6, .class_ 18), (1, u "java/lang/Object"), (0, u "()V"), (1, .class_ 23), (1, u "jdk/internal/util/ArraysSupport"), (0, u "LOG2_ARRAY_LONG_INDEX_SCALE"), (0, u "I"), (2, u "U"), (0, u "Ljdk/internal/misc/Unsafe;"), (8, u "BIG_ENDIAN"), (0, u "Z"), (8, u "LOG2_BYTE_BIT_SIZE"), (4, u "LOG2_ARRAY_INT_INDEX_SCALE"), (54, u "JLA"), (0, u "Ljdk/internal/access/JavaLangAccess;"), (11, u "LOG2_ARRAY_BOOLEAN_INDEX_SCALE"), (9, u "LOG2_ARRAY_BYTE_INDEX_SCALE"), (5, u "LOG2_ARRAY_CHAR_INDEX_SCALE"), (5, u "LOG2_ARRAY_SHORT_INDEX_SCALE"), (18, u "LOG2_ARRAY_FLOAT_INDEX_SCALE"), (24, u "LOG2_ARRAY_DOUBLE_INDEX_SCALE"), (6, .methodref 195 196), (0, .class_ 197), (0, .nameAndType 198 199), (0, u "java/lang/Math"), (0, u "max"), (0, u "(II)I"), (0, .integer 2147483639), (76, u "T_BOOLEAN"), (2, u "T_CHAR"), (1, u "T_FLOAT"), (1, u "T_DOUBLE"), (1, u "T_BYTE"), (1, u "T_SHORT"), (1, u "T_INT"), (1, u "T_LONG"), (1, u "SOFT_MAX_ARRAY_LENGTH"), (56, u "newLength"), (0, u "(III)I")] 25

def k28m0 : Method := { name := "<init>", desc := "()V", sig := { parameters := [], returnType := none }, accessFlags := 2, code := none }
def k28c1 : Code := { maxStack := 3, maxLocals := 4, code := jdk_48_method_27_code, exceptionTable := #[], attributes := #[] }
def k28m1 : Method := { name := "newLength", desc := "(III)I", sig := { parameters := [.int, .int, .int], returnType := some .int }, accessFlags := 9, code := some k28c1 }
/-- jdk/internal/util/ArraysSupport -/
def k28 : Class := { plain "jdk/internal/util/ArraysSupport" (some 0) with
  accessFlags := 33
  interfaces := #[]
  cf := some (fileOf pool28 21 #[] #[{ accessFlags := 2, nameIndex := 9, descriptorIndex := 19, attributes := #[] }, { accessFlags := 9, nameIndex := 351, descriptorIndex := 352, attributes := #[] }] 33 16 #[] #[{ accessFlags := 24, nameIndex := 28, descriptorIndex := 29, attributes := #[] }, { accessFlags := 26, nameIndex := 38, descriptorIndex := 39, attributes := #[] }, { accessFlags := 25, nameIndex := 121, descriptorIndex := 25, attributes := #[] }, { accessFlags := 25, nameIndex := 131, descriptorIndex := 25, attributes := #[] }, { accessFlags := 25, nameIndex := 137, descriptorIndex := 25, attributes := #[] }, { accessFlags := 25, nameIndex := 143, descriptorIndex := 25, attributes := #[] }, { accessFlags := 25, nameIndex := 53, descriptorIndex := 25, attributes := #[] }, { accessFlags := 25, nameIndex := 24, descriptorIndex := 25, attributes := #[] }, { accessFlags := 25, nameIndex := 162, descriptorIndex := 25, attributes := #[] }, { accessFlags := 25, nameIndex := 187, descriptorIndex := 25, attributes := #[] }, { accessFlags := 26, nameIndex := 48, descriptorIndex := 25, attributes := #[] }, { accessFlags := 25, nameIndex := 277, descriptorIndex := 25, attributes := #[] }, { accessFlags := 25, nameIndex := 280, descriptorIndex := 25, attributes := #[] }, { accessFlags := 25, nameIndex := 282, descriptorIndex := 25, attributes := #[] }, { accessFlags := 25, nameIndex := 284, descriptorIndex := 25, attributes := #[] }, { accessFlags := 25, nameIndex := 286, descriptorIndex := 25, attributes := #[] }, { accessFlags := 25, nameIndex := 288, descriptorIndex := 25, attributes := #[] }, { accessFlags := 25, nameIndex := 290, descriptorIndex := 25, attributes := #[] }, { accessFlags := 25, nameIndex := 292, descriptorIndex := 25, attributes := #[] }, { accessFlags := 26, nameIndex := 108, descriptorIndex := 109, attributes := #[] }, { accessFlags := 25, nameIndex := 294, descriptorIndex := 25, attributes := #[] }])
  fields := #[{ name := "U", type := (.object "jdk/internal/misc/Unsafe"), accessFlags := 24, slot := 0, constantValue := 0 }, { name := "BIG_ENDIAN", type := .boolean, accessFlags := 26, slot := 1, constantValue := 0 }, { name := "LOG2_ARRAY_BOOLEAN_INDEX_SCALE", type := .int, accessFlags := 25, slot := 2, constantValue := 0 }, { name := "LOG2_ARRAY_BYTE_INDEX_SCALE", type := .int, accessFlags := 25, slot := 3, constantValue := 0 }, { name := "LOG2_ARRAY_CHAR_INDEX_SCALE", type := .int, accessFlags := 25, slot := 4, constantValue := 0 }, { name := "LOG2_ARRAY_SHORT_INDEX_SCALE", type := .int, accessFlags := 25, slot := 5, constantValue := 0 }, { name := "LOG2_ARRAY_INT_INDEX_SCALE", type := .int, accessFlags := 25, slot := 6, constantValue := 0 }, { name := "LOG2_ARRAY_LONG_INDEX_SCALE", type := .int, accessFlags := 25, slot := 7, constantValue := 0 }, { name := "LOG2_ARRAY_FLOAT_INDEX_SCALE", type := .int, accessFlags := 25, slot := 8, constantValue := 0 }, { name := "LOG2_ARRAY_DOUBLE_INDEX_SCALE", type := .int, accessFlags := 25, slot := 9, constantValue := 0 }, { name := "LOG2_BYTE_BIT_SIZE", type := .int, accessFlags := 26, slot := 10, constantValue := 0 }, { name := "T_BOOLEAN", type := .int, accessFlags := 25, slot := 11, constantValue := 0 }, { name := "T_CHAR", type := .int, accessFlags := 25, slot := 12, constantValue := 0 }, { name := "T_FLOAT", type := .int, accessFlags := 25, slot := 13, constantValue := 0 }, { name := "T_DOUBLE", type := .int, accessFlags := 25, slot := 14, constantValue := 0 }, { name := "T_BYTE", type := .int, accessFlags := 25, slot := 15, constantValue := 0 }, { name := "T_SHORT", type := .int, accessFlags := 25, slot := 16, constantValue := 0 }, { name := "T_INT", type := .int, accessFlags := 25, slot := 17, constantValue := 0 }, { name := "T_LONG", type := .int, accessFlags := 25, slot := 18, constantValue := 0 }, { name := "JLA", type := (.object "jdk/internal/access/JavaLangAccess"), accessFlags := 26, slot := 19, constantValue := 0 }, { name := "SOFT_MAX_ARRAY_LENGTH", type := .int, accessFlags := 25, slot := 20, constantValue := 0 }]
  methods := #[k28m0, k28m1]
  instanceTypes := #[]
  staticTypes := #[(.object "jdk/internal/misc/Unsafe"), .boolean, .int, .int, .int, .int, .int, .int, .int, .int, .int, .int, .int, .int, .int, .int, .int, .int, .int, (.object "jdk/internal/access/JavaLangAccess"), .int]
  resolved := Array.replicate 378 none
  statics := none }

def pool29 : Array CpInfo := pool [(1, .class_ 2), (0, u "java/lang/Cloneable"), (0, .class_ 4), (0, u "java/lang/Object")] 2

/-- java/lang/Cloneable -/
def k29 : Class := { plain "java/lang/Cloneable" (some 0) with
  accessFlags := 1537
  interfaces := #[]
  cf := some (fileOf pool29 1 #[] #[] 1537 3 #[] #[])
  fields := #[]
  methods := #[]
  instanceTypes := #[]
  staticTypes := #[]
  resolved := Array.replicate 7 none
  statics := none }

/-- the primitive byte -/
def k30 : Class := { plain "byte" none with kind := .primitive 'B', accessFlags := 0x411 }
/-- [B -/
def k31 : Class := { plain "[B" (some 0) with kind := .array 30 .byte, interfaces := #[29, 16], accessFlags := 1041 }

/-- the primitive char -/
def k32 : Class := { plain "char" none with kind := .primitive 'C', accessFlags := 0x411 }
/-- [C -/
def k33 : Class := { plain "[C" (some 0) with kind := .array 32 .char, interfaces := #[29, 16], accessFlags := 1041 }

/-- the primitive int -/
def k34 : Class := { plain "int" none with kind := .primitive 'I', accessFlags := 0x411 }
/-- [I -/
def k35 : Class := { plain "[I" (some 0) with kind := .array 34 .int, interfaces := #[29, 16], accessFlags := 1041 }

def heap : Heap := #[{ cls := 12, slots := #[.null, .null, .null], vm := .statics 12 },
  { cls := 21, slots := #[.long 0, .int 1, .null, .int 0, .null, .int 0, .int 0], vm := .statics 21 },
  { cls := 24, slots := #[.int 0, .int 0, .null, .null, .ref 4, .ref 3, .int 0, .int 0, .long 0], vm := .statics 24 },
  { cls := 31, slots := #[.int 48, .int 49, .int 50, .int 51, .int 52, .int 53, .int 54, .int 55, .int 56, .int 57, .int 48, .int 49, .int 50, .int 51, .int 52, .int 53, .int 54, .int 55, .int 56, .int 57, .int 48, .int 49, .int 50, .int 51, .int 52, .int 53, .int 54, .int 55, .int 56, .int 57, .int 48, .int 49, .int 50, .int 51, .int 52, .int 53, .int 54, .int 55, .int 56, .int 57, .int 48, .int 49, .int 50, .int 51, .int 52, .int 53, .int 54, .int 55, .int 56, .int 57, .int 48, .int 49, .int 50, .int 51, .int 52, .int 53, .int 54, .int 55, .int 56, .int 57, .int 48, .int 49, .int 50, .int 51, .int 52, .int 53, .int 54, .int 55, .int 56, .int 57, .int 48, .int 49, .int 50, .int 51, .int 52, .int 53, .int 54, .int 55, .int 56, .int 57, .int 48, .int 49, .int 50, .int 51, .int 52, .int 53, .int 54, .int 55, .int 56, .int 57, .int 48, .int 49, .int 50, .int 51, .int 52, .int 53, .int 54, .int 55, .int 56, .int 57], vm := .none },
  { cls := 31, slots := #[.int 48, .int 48, .int 48, .int 48, .int 48, .int 48, .int 48, .int 48, .int 48, .int 48, .int 49, .int 49, .int 49, .int 49, .int 49, .int 49, .int 49, .int 49, .int 49, .int 49, .int 50, .int 50, .int 50, .int 50, .int 50, .int 50, .int 50, .int 50, .int 50, .int 50, .int 51, .int 51, .int 51, .int 51, .int 51, .int 51, .int 51, .int 51, .int 51, .int 51, .int 52, .int 52, .int 52, .int 52, .int 52, .int 52, .int 52, .int 52, .int 52, .int 52, .int 53, .int 53, .int 53, .int 53, .int 53, .int 53, .int 53, .int 53, .int 53, .int 53, .int 54, .int 54, .int 54, .int 54, .int 54, .int 54, .int 54, .int 54, .int 54, .int 54, .int 55, .int 55, .int 55, .int 55, .int 55, .int 55, .int 55, .int 55, .int 55, .int 55, .int 56, .int 56, .int 56, .int 56, .int 56, .int 56, .int 56, .int 56, .int 56, .int 56, .int 57, .int 57, .int 57, .int 57, .int 57, .int 57, .int 57, .int 57, .int 57, .int 57], vm := .none }]
def classes : Array Class := #[k0, k1, k2, k3, k4, k5, k6, k7, k8, k9, k10, k11, k12, k13, k14, k15, k16, k17, k18, k19, k20, k21, k22, k23, k24, k25, k26, k27, k28, k29, k30, k31, k32, k33, k34, k35]
def interned : List (Array UInt16 × Addr) := []
def slotsUsed : Nat := 219
def theMethod : MethodId := ⟨1, 1⟩
def args0 : Array Value := #[.int 5, .int 5]
def aboutOver (below : List Frame) : State where
  vm := { classes := classes, interned := interned.toArray }
  heap := heap
  slotsUsed := slotsUsed
  threads := #[{ frames := .invoking theMethod args0 :: below }]
def below0 : List Frame := [.native { method := ⟨0, 0⟩, args := #[] }]
def about1 : State := aboutOver below0
def p0 : Program := .bare "" "" ""
def e0 : Env := launch0.env 0 0 0
theorem w_frames : about1.frames = Frame.invoking theMethod args0 :: below0 := rfl
set_option maxRecDepth 65536 in
theorem w_args : argsFit about1.vm theMethod args0 = true := by decide +kernel
set_option maxRecDepth 65536 in
theorem w_heap : heapFits about1 = true := by decide +kernel
set_option maxRecDepth 65536 in
theorem w_runnable : about1.curStatus? = some .runnable := by decide +kernel
set_option maxRecDepth 65536 in
theorem w_alone : about1.alone = true := by decide +kernel
set_option maxRecDepth 65536 in
theorem w_named : about1.methodNamed? x = some theMethod := by decide +kernel
set_option maxRecDepth 65536 in
theorem w_hears : about1.hears theMethod below0 = true := by decide +kernel
set_option maxRecDepth 65536 in
theorem w_ripe : about1.ripe theMethod args0 below0 = true := by decide +kernel
theorem w_running : about1.status = .running := rfl
set_option maxRecDepth 65536 in
theorem w_room : about1.hasRoom e0.platform room_1 = true :=
  launch0.hasRoom_least _ room_1 (by decide +kernel) (by decide +kernel) (by decide +kernel) (by decide +kernel) (by decide +kernel) (by decide +kernel)
theorem allAtoms_all (ts : List Jvm.Cond) (a : Array Jvm.Value) (st : Jvm.State) : (allAtoms ts).before a st = ts.all (fun c => c.before a st) := by
  induction ts with
  | nil => rfl
  | cons c t ih =>
    show (Jvm.Cond.and c (allAtoms t)).before a st = _
    rw [Jvm.Cond.before_and, ih, List.all_cons]
def words1 : List Jvm.Cond := Jvm.Cond.code x code maxLocals ret :: tables_1
/-- a 'code' word, met by the world's own term for the bytes: nothing is compared byte by byte -/
theorem code_word {y : MethodName} {bytes : ByteArray} {mx : Nat} {rt : Option FieldType} {a : Array Value} {s : State} {m : MethodId} {meth : Method} {c : Code} (h1 : s.methodNamed? y = some m) (h2 : s.vm.method? m = some meth) (h3 : meth.code = some c) (h4 : c.code = bytes)
    (h5 : (c.maxLocals == mx && c.exceptionTable.isEmpty && decide (c.maxStack ≤ mostOperands) && decide (meth.sig.returnType = rt) && !meth.locks && decide (parseMethodDescriptor y.desc = some meth.sig)) = true) : (Jvm.Cond.code y bytes mx rt).before a s = true := by
  simp only [Bool.and_eq_true, beq_iff_eq, Bool.not_eq_true', decide_eq_true_eq] at h5
  obtain ⟨⟨⟨⟨⟨g1, g2⟩, g3⟩, g4⟩, g5⟩, g6⟩ := h5
  simp [Cond.before, Cond.holds, Cond.value, h1, h2, h3, h4, g1, g2, g3, g4, g5, g6]
def isCode : Jvm.Cond → Bool
  | .code _ _ _ _ => true
  | _ => false
theorem all_split {L : List Jvm.Cond} {P : Jvm.Cond → Bool} (h1 : L.all (fun c => isCode c || P c) = true) (h2 : ∀ c ∈ L.filter isCode, P c = true) : L.all P = true := by
  refine List.all_eq_true.mpr fun c hc => ?_
  have h := List.all_eq_true.mp h1 c hc
  rcases Bool.eq_false_or_eq_true (isCode c) with hi | hi
  · exact h2 c (List.mem_filter.mpr ⟨hc, hi⟩)
  · simpa [hi] using h
set_option maxRecDepth 65536 in
theorem w_c0 : (Jvm.Cond.code x code maxLocals ret).before args0 about1 = true := code_word (m := ⟨1, 1⟩) (meth := k1m1) (c := k1c1) (by decide +kernel) rfl rfl rfl (by decide +kernel)
set_option maxRecDepth 65536 in
theorem w_c1 : (Jvm.Cond.code ({ cls := "com/example/hasset/hasset/model/GeneratedFleet", name := "addresses", desc := "(I)Ljava/util/List;" } : Jvm.MethodName) prog_13_method_3_code (1 : Nat) (Option.some (Jvm.ClassFile.FieldType.object "java/util/List"))).before args0 about1 = true := code_word (m := ⟨2, 2⟩) (meth := k2m2) (c := k2c2) (by decide +kernel) rfl rfl rfl (by decide +kernel)
set_option maxRecDepth 65536 in
theorem w_c2 : (Jvm.Cond.code ({ cls := "com/example/hasset/hasset/model/GeneratedFleet$Addresses", name := "<init>", desc := "(I)V" } : Jvm.MethodName) prog_14_method_1_code (2 : Nat) (Option.none : Option Jvm.ClassFile.FieldType)).before args0 about1 = true := code_word (m := ⟨10, 0⟩) (meth := k10m0) (c := k10c0) (by decide +kernel) rfl rfl rfl (by decide +kernel)
set_option maxRecDepth 65536 in
theorem w_c3 : (Jvm.Cond.code ({ cls := "java/util/AbstractList", name := "<init>", desc := "()V" } : Jvm.MethodName) jdk_39_method_1_code (1 : Nat) (Option.none : Option Jvm.ClassFile.FieldType)).before args0 about1 = true := code_word (m := ⟨8, 0⟩) (meth := k8m0) (c := k8c0) (by decide +kernel) rfl rfl rfl (by decide +kernel)
set_option maxRecDepth 65536 in
theorem w_c4 : (Jvm.Cond.code ({ cls := "java/util/AbstractCollection", name := "<init>", desc := "()V" } : Jvm.MethodName) jdk_22_method_1_code (1 : Nat) (Option.none : Option Jvm.ClassFile.FieldType)).before args0 about1 = true := code_word (m := ⟨5, 0⟩) (meth := k5m0) (c := k5c0) (by decide +kernel) rfl rfl rfl (by decide +kernel)
set_option maxRecDepth 65536 in
theorem w_c5 : (Jvm.Cond.code ({ cls := "java/lang/Object", name := "<init>", desc := "()V" } : Jvm.MethodName) object_method_1_code (1 : Nat) (Option.none : Option Jvm.ClassFile.FieldType)).before args0 about1 = true := code_word (m := ⟨0, 0⟩) (meth := k0m0) (c := k0c0) (by decide +kernel) rfl rfl rfl (by decide +kernel)
set_option maxRecDepth 65536 in
theorem w_c6 : (Jvm.Cond.code ({ cls := "com/example/hasset/hasset/model/GeneratedFleet$Addresses", name := "size", desc := "()I" } : Jvm.MethodName) prog_14_method_3_code (1 : Nat) (Option.some Jvm.ClassFile.FieldType.int)).before args0 about1 = true := code_word (m := ⟨10, 2⟩) (meth := k10m2) (c := k10c2) (by decide +kernel) rfl rfl rfl (by decide +kernel)
set_option maxRecDepth 65536 in
theorem w_c7 : (Jvm.Cond.code ({ cls := "com/example/hasset/hasset/model/GeneratedFleet$Addresses", name := "get", desc := "(I)Ljava/lang/Object;" } : Jvm.MethodName) prog_14_method_4_code (2 : Nat) (Option.some (Jvm.ClassFile.FieldType.object "java/lang/Object"))).before args0 about1 = true := code_word (m := ⟨10, 3⟩) (meth := k10m3) (c := k10c3) (by decide +kernel) rfl rfl rfl (by decide +kernel)
set_option maxRecDepth 65536 in
theorem w_c8 : (Jvm.Cond.code ({ cls := "com/example/hasset/hasset/model/GeneratedFleet$Addresses", name := "get", desc := "(I)Ljava/lang/String;" } : Jvm.MethodName) prog_14_method_2_code (2 : Nat) (Option.some (Jvm.ClassFile.FieldType.object "java/lang/String"))).before args0 about1 = true := code_word (m := ⟨10, 1⟩) (meth := k10m1) (c := k10c1) (by decide +kernel) rfl rfl rfl (by decide +kernel)
set_option maxRecDepth 65536 in
theorem w_c9 : (Jvm.Cond.code ({ cls := "java/util/Objects", name := "checkIndex", desc := "(II)I" } : Jvm.MethodName) jdk_31_method_17_code (2 : Nat) (Option.some Jvm.ClassFile.FieldType.int)).before args0 about1 = true := code_word (m := ⟨11, 1⟩) (meth := k11m1) (c := k11c1) (by decide +kernel) rfl rfl rfl (by decide +kernel)
set_option maxRecDepth 65536 in
theorem w_c10 : (Jvm.Cond.code ({ cls := "jdk/internal/util/Preconditions", name := "checkIndex", desc := "(IILjava/util/function/BiFunction;)I" } : Jvm.MethodName) jdk_41_method_11_code (3 : Nat) (Option.some Jvm.ClassFile.FieldType.int)).before args0 about1 = true := code_word (m := ⟨12, 1⟩) (meth := k12m1) (c := k12c1) (by decide +kernel) rfl rfl rfl (by decide +kernel)
set_option maxRecDepth 65536 in
theorem w_c11 : (Jvm.Cond.code ({ cls := "com/example/hasset/hasset/model/GeneratedFleet", name := "address", desc := "(I)Ljava/lang/String;" } : Jvm.MethodName) prog_13_method_2_code (5 : Nat) (Option.some (Jvm.ClassFile.FieldType.object "java/lang/String"))).before args0 about1 = true := code_word (m := ⟨2, 1⟩) (meth := k2m1) (c := k2c1) (by decide +kernel) rfl rfl rfl (by decide +kernel)
set_option maxRecDepth 65536 in
theorem w_c12 : (Jvm.Cond.code ({ cls := "java/lang/StringBuilder", name := "<init>", desc := "()V" } : Jvm.MethodName) jdk_67_method_1_code (1 : Nat) (Option.none : Option Jvm.ClassFile.FieldType)).before args0 about1 = true := code_word (m := ⟨18, 0⟩) (meth := k18m0) (c := k18c0) (by decide +kernel) rfl rfl rfl (by decide +kernel)
set_option maxRecDepth 65536 in
theorem w_c13 : (Jvm.Cond.code ({ cls := "java/lang/AbstractStringBuilder", name := "<init>", desc := "(I)V" } : Jvm.MethodName) jdk_68_method_2_code (2 : Nat) (Option.none : Option Jvm.ClassFile.FieldType)).before args0 about1 = true := code_word (m := ⟨15, 1⟩) (meth := k15m1) (c := k15c1) (by decide +kernel) rfl rfl rfl (by decide +kernel)
set_option maxRecDepth 65536 in
theorem w_c14 : (Jvm.Cond.code ({ cls := "java/lang/StringBuilder", name := "append", desc := "(Ljava/lang/String;)Ljava/lang/StringBuilder;" } : Jvm.MethodName) jdk_67_method_7_code (2 : Nat) (Option.some (Jvm.ClassFile.FieldType.object "java/lang/StringBuilder"))).before args0 about1 = true := code_word (m := ⟨18, 1⟩) (meth := k18m1) (c := k18c1) (by decide +kernel) rfl rfl rfl (by decide +kernel)
set_option maxRecDepth 65536 in
theorem w_c15 : (Jvm.Cond.code ({ cls := "java/lang/AbstractStringBuilder", name := "append", desc := "(Ljava/lang/String;)Ljava/lang/AbstractStringBuilder;" } : Jvm.MethodName) jdk_68_method_22_code (3 : Nat) (Option.some (Jvm.ClassFile.FieldType.object "java/lang/AbstractStringBuilder"))).before args0 about1 = true := code_word (m := ⟨15, 5⟩) (meth := k15m5) (c := k15c5) (by decide +kernel) rfl rfl rfl (by decide +kernel)
set_option maxRecDepth 65536 in
theorem w_c16 : (Jvm.Cond.code ({ cls := "java/lang/String", name := "length", desc := "()I" } : Jvm.MethodName) jdk_42_method_54_code (1 : Nat) (Option.some Jvm.ClassFile.FieldType.int)).before args0 about1 = true := code_word (m := ⟨21, 2⟩) (meth := k21m2) (c := k21c2) (by decide +kernel) rfl rfl rfl (by decide +kernel)
set_option maxRecDepth 65536 in
theorem w_c17 : (Jvm.Cond.code ({ cls := "java/lang/String", name := "coder", desc := "()B" } : Jvm.MethodName) jdk_42_method_152_code (1 : Nat) (Option.some Jvm.ClassFile.FieldType.byte)).before args0 about1 = true := code_word (m := ⟨21, 6⟩) (meth := k21m6) (c := k21c6) (by decide +kernel) rfl rfl rfl (by decide +kernel)
set_option maxRecDepth 65536 in
theorem w_c18 : (Jvm.Cond.code ({ cls := "java/lang/AbstractStringBuilder", name := "ensureCapacityInternal", desc := "(I)V" } : Jvm.MethodName) jdk_68_method_9_code (3 : Nat) (Option.none : Option Jvm.ClassFile.FieldType)).before args0 about1 = true := code_word (m := ⟨15, 3⟩) (meth := k15m3) (c := k15c3) (by decide +kernel) rfl rfl rfl (by decide +kernel)
set_option maxRecDepth 65536 in
theorem w_c19 : (Jvm.Cond.code ({ cls := "java/lang/AbstractStringBuilder", name := "putStringAt", desc := "(ILjava/lang/String;)V" } : Jvm.MethodName) jdk_68_method_73_code (3 : Nat) (Option.none : Option Jvm.ClassFile.FieldType)).before args0 about1 = true := code_word (m := ⟨15, 10⟩) (meth := k15m10) (c := k15c10) (by decide +kernel) rfl rfl rfl (by decide +kernel)
set_option maxRecDepth 65536 in
theorem w_c20 : (Jvm.Cond.code ({ cls := "java/lang/AbstractStringBuilder", name := "inflateIfNeededFor", desc := "(Ljava/lang/String;)V" } : Jvm.MethodName) jdk_68_method_71_code (2 : Nat) (Option.none : Option Jvm.ClassFile.FieldType)).before args0 about1 = true := code_word (m := ⟨15, 9⟩) (meth := k15m9) (c := k15c9) (by decide +kernel) rfl rfl rfl (by decide +kernel)
set_option maxRecDepth 65536 in
theorem w_c21 : (Jvm.Cond.code ({ cls := "java/lang/String", name := "getBytes", desc := "([BIB)V" } : Jvm.MethodName) jdk_42_method_147_code (4 : Nat) (Option.none : Option Jvm.ClassFile.FieldType)).before args0 about1 = true := code_word (m := ⟨21, 4⟩) (meth := k21m4) (c := k21c4) (by decide +kernel) rfl rfl rfl (by decide +kernel)
set_option maxRecDepth 65536 in
theorem w_c22 : (Jvm.Cond.code ({ cls := "java/lang/StringBuilder", name := "append", desc := "(I)Ljava/lang/StringBuilder;" } : Jvm.MethodName) jdk_67_method_15_code (2 : Nat) (Option.some (Jvm.ClassFile.FieldType.object "java/lang/StringBuilder"))).before args0 about1 = true := code_word (m := ⟨18, 2⟩) (meth := k18m2) (c := k18c2) (by decide +kernel) rfl rfl rfl (by decide +kernel)
set_option maxRecDepth 65536 in
theorem w_c23 : (Jvm.Cond.code ({ cls := "java/lang/AbstractStringBuilder", name := "append", desc := "(I)Ljava/lang/AbstractStringBuilder;" } : Jvm.MethodName) jdk_68_method_32_code (4 : Nat) (Option.some (Jvm.ClassFile.FieldType.object "java/lang/AbstractStringBuilder"))).before args0 about1 = true := code_word (m := ⟨15, 6⟩) (meth := k15m6) (c := k15c6) (by decide +kernel) rfl rfl rfl (by decide +kernel)
set_option maxRecDepth 65536 in
theorem w_c24 : (Jvm.Cond.code ({ cls := "java/lang/Integer", name := "stringSize", desc := "(I)I" } : Jvm.MethodName) jdk_33_method_13_code (4 : Nat) (Option.some Jvm.ClassFile.FieldType.int)).before args0 about1 = true := code_word (m := ⟨24, 1⟩) (meth := k24m1) (c := k24c1) (by decide +kernel) rfl rfl rfl (by decide +kernel)
set_option maxRecDepth 65536 in
theorem w_c25 : (Jvm.Cond.code ({ cls := "java/lang/AbstractStringBuilder", name := "isLatin1", desc := "()Z" } : Jvm.MethodName) jdk_68_method_68_code (1 : Nat) (Option.some Jvm.ClassFile.FieldType.boolean)).before args0 about1 = true := code_word (m := ⟨15, 8⟩) (meth := k15m8) (c := k15c8) (by decide +kernel) rfl rfl rfl (by decide +kernel)
set_option maxRecDepth 65536 in
theorem w_c26 : (Jvm.Cond.code ({ cls := "java/lang/Integer", name := "getChars", desc := "(II[B)I" } : Jvm.MethodName) jdk_33_method_12_code (7 : Nat) (Option.some Jvm.ClassFile.FieldType.int)).before args0 about1 = true := code_word (m := ⟨24, 0⟩) (meth := k24m0) (c := k24c0) (by decide +kernel) rfl rfl rfl (by decide +kernel)
set_option maxRecDepth 65536 in
theorem w_c27 : (Jvm.Cond.code ({ cls := "java/lang/StringBuilder", name := "toString", desc := "()Ljava/lang/String;" } : Jvm.MethodName) jdk_67_method_42_code (1 : Nat) (Option.some (Jvm.ClassFile.FieldType.object "java/lang/String"))).before args0 about1 = true := code_word (m := ⟨18, 3⟩) (meth := k18m3) (c := k18c3) (by decide +kernel) rfl rfl rfl (by decide +kernel)
set_option maxRecDepth 65536 in
theorem w_c28 : (Jvm.Cond.code ({ cls := "java/lang/String", name := "<init>", desc := "(Ljava/lang/StringBuilder;)V" } : Jvm.MethodName) jdk_42_method_53_code (2 : Nat) (Option.none : Option Jvm.ClassFile.FieldType)).before args0 about1 = true := code_word (m := ⟨21, 1⟩) (meth := k21m1) (c := k21c1) (by decide +kernel) rfl rfl rfl (by decide +kernel)
set_option maxRecDepth 65536 in
theorem w_c29 : (Jvm.Cond.code ({ cls := "java/lang/String", name := "<init>", desc := "(Ljava/lang/AbstractStringBuilder;Ljava/lang/Void;)V" } : Jvm.MethodName) jdk_42_method_150_code (5 : Nat) (Option.none : Option Jvm.ClassFile.FieldType)).before args0 about1 = true := code_word (m := ⟨21, 5⟩) (meth := k21m5) (c := k21c5) (by decide +kernel) rfl rfl rfl (by decide +kernel)
set_option maxRecDepth 65536 in
theorem w_c30 : (Jvm.Cond.code ({ cls := "java/lang/AbstractStringBuilder", name := "getValue", desc := "()[B" } : Jvm.MethodName) jdk_68_method_64_code (1 : Nat) (Option.some (Jvm.ClassFile.FieldType.array Jvm.ClassFile.FieldType.byte))).before args0 about1 = true := code_word (m := ⟨15, 7⟩) (meth := k15m7) (c := k15c7) (by decide +kernel) rfl rfl rfl (by decide +kernel)
set_option maxRecDepth 65536 in
theorem w_c31 : (Jvm.Cond.code ({ cls := "java/lang/StringBuilder", name := "length", desc := "()I" } : Jvm.MethodName) jdk_67_method_93_code (1 : Nat) (Option.some Jvm.ClassFile.FieldType.int)).before args0 about1 = true := code_word (m := ⟨18, 4⟩) (meth := k18m4) (c := k18c4) (by decide +kernel) rfl rfl rfl (by decide +kernel)
set_option maxRecDepth 65536 in
theorem w_c32 : (Jvm.Cond.code ({ cls := "java/lang/AbstractStringBuilder", name := "length", desc := "()I" } : Jvm.MethodName) jdk_68_method_6_code (1 : Nat) (Option.some Jvm.ClassFile.FieldType.int)).before args0 about1 = true := code_word (m := ⟨15, 2⟩) (meth := k15m2) (c := k15c2) (by decide +kernel) rfl rfl rfl (by decide +kernel)
set_option maxRecDepth 65536 in
theorem w_c33 : (Jvm.Cond.code ({ cls := "java/util/Arrays", name := "copyOfRange", desc := "([BII)[B" } : Jvm.MethodName) jdk_65_method_132_code (3 : Nat) (Option.some (Jvm.ClassFile.FieldType.array Jvm.ClassFile.FieldType.byte))).before args0 about1 = true := code_word (m := ⟨25, 3⟩) (meth := k25m3) (c := k25c3) (by decide +kernel) rfl rfl rfl (by decide +kernel)
set_option maxRecDepth 65536 in
theorem w_c34 : (Jvm.Cond.code ({ cls := "java/util/Arrays", name := "copyOfRangeByte", desc := "([BII)[B" } : Jvm.MethodName) jdk_65_method_133_code (5 : Nat) (Option.some (Jvm.ClassFile.FieldType.array Jvm.ClassFile.FieldType.byte))).before args0 about1 = true := code_word (m := ⟨25, 4⟩) (meth := k25m4) (c := k25c4) (by decide +kernel) rfl rfl rfl (by decide +kernel)
set_option maxRecDepth 65536 in
theorem w_c35 : (Jvm.Cond.code ({ cls := "java/util/Arrays", name := "checkLength", desc := "(II)V" } : Jvm.MethodName) jdk_65_method_131_code (2 : Nat) (Option.none : Option Jvm.ClassFile.FieldType)).before args0 about1 = true := code_word (m := ⟨25, 2⟩) (meth := k25m2) (c := k25c2) (by decide +kernel) rfl rfl rfl (by decide +kernel)
set_option maxRecDepth 65536 in
theorem w_c36 : (Jvm.Cond.code ({ cls := "java/lang/Math", name := "min", desc := "(II)I" } : Jvm.MethodName) jdk_29_method_69_code (2 : Nat) (Option.some Jvm.ClassFile.FieldType.int)).before args0 about1 = true := code_word (m := ⟨26, 2⟩) (meth := k26m2) (c := k26c2) (by decide +kernel) rfl rfl rfl (by decide +kernel)
set_option maxRecDepth 65536 in
theorem w_c37 : (Jvm.Cond.code ({ cls := "com/example/hasset/hasset/model/GeneratedFleetAddressesPinLaw", name := "matches", desc := "(Ljava/lang/String;I)Z" } : Jvm.MethodName) method_5_code (10 : Nat) (Option.some Jvm.ClassFile.FieldType.boolean)).before args0 about1 = true := code_word (m := ⟨1, 4⟩) (meth := k1m4) (c := k1c4) (by decide +kernel) rfl rfl rfl (by decide +kernel)
set_option maxRecDepth 65536 in
theorem w_c38 : (Jvm.Cond.code ({ cls := "com/example/hasset/hasset/model/GeneratedFleetAddressesPinLaw", name := "put", desc := "([CII)I" } : Jvm.MethodName) method_3_code (3 : Nat) (Option.some Jvm.ClassFile.FieldType.int)).before args0 about1 = true := code_word (m := ⟨1, 2⟩) (meth := k1m2) (c := k1c2) (by decide +kernel) rfl rfl rfl (by decide +kernel)
set_option maxRecDepth 65536 in
theorem w_c39 : (Jvm.Cond.code ({ cls := "com/example/hasset/hasset/model/GeneratedFleetAddressesPinLaw", name := "at", desc := "(Ljava/lang/String;[CII)Z" } : Jvm.MethodName) method_4_code (4 : Nat) (Option.some Jvm.ClassFile.FieldType.boolean)).before args0 about1 = true := code_word (m := ⟨1, 3⟩) (meth := k1m3) (c := k1c3) (by decide +kernel) rfl rfl rfl (by decide +kernel)
set_option maxRecDepth 65536 in
theorem w_c40 : (Jvm.Cond.code ({ cls := "java/lang/String", name := "charAt", desc := "(I)C" } : Jvm.MethodName) jdk_42_method_56_code (2 : Nat) (Option.some Jvm.ClassFile.FieldType.char)).before args0 about1 = true := code_word (m := ⟨21, 3⟩) (meth := k21m3) (c := k21c3) (by decide +kernel) rfl rfl rfl (by decide +kernel)
set_option maxRecDepth 65536 in
theorem w_c41 : (Jvm.Cond.code ({ cls := "java/lang/String", name := "isLatin1", desc := "()Z" } : Jvm.MethodName) jdk_42_method_154_code (1 : Nat) (Option.some Jvm.ClassFile.FieldType.boolean)).before args0 about1 = true := code_word (m := ⟨21, 7⟩) (meth := k21m7) (c := k21c7) (by decide +kernel) rfl rfl rfl (by decide +kernel)
set_option maxRecDepth 65536 in
theorem w_c42 : (Jvm.Cond.code ({ cls := "java/lang/StringLatin1", name := "charAt", desc := "([BI)C" } : Jvm.MethodName) jdk_43_method_2_code (2 : Nat) (Option.some Jvm.ClassFile.FieldType.char)).before args0 about1 = true := code_word (m := ⟨27, 1⟩) (meth := k27m1) (c := k27c1) (by decide +kernel) rfl rfl rfl (by decide +kernel)
set_option maxRecDepth 65536 in
theorem w_c43 : (Jvm.Cond.code ({ cls := "java/lang/String", name := "checkIndex", desc := "(II)V" } : Jvm.MethodName) jdk_42_method_155_code (2 : Nat) (Option.none : Option Jvm.ClassFile.FieldType)).before args0 about1 = true := code_word (m := ⟨21, 8⟩) (meth := k21m8) (c := k21c8) (by decide +kernel) rfl rfl rfl (by decide +kernel)
set_option maxRecDepth 65536 in
theorem w_c44 : (Jvm.Cond.code ({ cls := "java/lang/AbstractStringBuilder", name := "newCapacity", desc := "(I)I" } : Jvm.MethodName) jdk_68_method_10_code (6 : Nat) (Option.some Jvm.ClassFile.FieldType.int)).before args0 about1 = true := code_word (m := ⟨15, 4⟩) (meth := k15m4) (c := k15c4) (by decide +kernel) rfl rfl rfl (by decide +kernel)
set_option maxRecDepth 65536 in
theorem w_c45 : (Jvm.Cond.code ({ cls := "jdk/internal/util/ArraysSupport", name := "newLength", desc := "(III)I" } : Jvm.MethodName) jdk_48_method_27_code (4 : Nat) (Option.some Jvm.ClassFile.FieldType.int)).before args0 about1 = true := code_word (m := ⟨28, 1⟩) (meth := k28m1) (c := k28c1) (by decide +kernel) rfl rfl rfl (by decide +kernel)
set_option maxRecDepth 65536 in
theorem w_c46 : (Jvm.Cond.code ({ cls := "java/lang/Math", name := "max", desc := "(II)I" } : Jvm.MethodName) jdk_29_method_65_code (2 : Nat) (Option.some Jvm.ClassFile.FieldType.int)).before args0 about1 = true := code_word (m := ⟨26, 1⟩) (meth := k26m1) (c := k26c1) (by decide +kernel) rfl rfl rfl (by decide +kernel)
set_option maxRecDepth 65536 in
theorem w_c47 : (Jvm.Cond.code ({ cls := "java/util/Arrays", name := "copyOf", desc := "([BI)[B" } : Jvm.MethodName) jdk_65_method_121_code (3 : Nat) (Option.some (Jvm.ClassFile.FieldType.array Jvm.ClassFile.FieldType.byte))).before args0 about1 = true := code_word (m := ⟨25, 1⟩) (meth := k25m1) (c := k25c1) (by decide +kernel) rfl rfl rfl (by decide +kernel)
def codes1 : List Jvm.Cond := [Jvm.Cond.code x code maxLocals ret, Jvm.Cond.code ({ cls := "com/example/hasset/hasset/model/GeneratedFleet", name := "addresses", desc := "(I)Ljava/util/List;" } : Jvm.MethodName) prog_13_method_3_code (1 : Nat) (Option.some (Jvm.ClassFile.FieldType.object "java/util/List")), Jvm.Cond.code ({ cls := "com/example/hasset/hasset/model/GeneratedFleet$Addresses", name := "<init>", desc := "(I)V" } : Jvm.MethodName) prog_14_method_1_code (2 : Nat) (Option.none : Option Jvm.ClassFile.FieldType), Jvm.Cond.code ({ cls := "java/util/AbstractList", name := "<init>", desc := "()V" } : Jvm.MethodName) jdk_39_method_1_code (1 : Nat) (Option.none : Option Jvm.ClassFile.FieldType), Jvm.Cond.code ({ cls := "java/util/AbstractCollection", name := "<init>", desc := "()V" } : Jvm.MethodName) jdk_22_method_1_code (1 : Nat) (Option.none : Option Jvm.ClassFile.FieldType), Jvm.Cond.code ({ cls := "java/lang/Object", name := "<init>", desc := "()V" } : Jvm.MethodName) object_method_1_code (1 : Nat) (Option.none : Option Jvm.ClassFile.FieldType), Jvm.Cond.code ({ cls := "com/example/hasset/hasset/model/GeneratedFleet$Addresses", name := "size", desc := "()I" } : Jvm.MethodName) prog_14_method_3_code (1 : Nat) (Option.some Jvm.ClassFile.FieldType.int), Jvm.Cond.code ({ cls := "com/example/hasset/hasset/model/GeneratedFleet$Addresses", name := "get", desc := "(I)Ljava/lang/Object;" } : Jvm.MethodName) prog_14_method_4_code (2 : Nat) (Option.some (Jvm.ClassFile.FieldType.object "java/lang/Object")), Jvm.Cond.code ({ cls := "com/example/hasset/hasset/model/GeneratedFleet$Addresses", name := "get", desc := "(I)Ljava/lang/String;" } : Jvm.MethodName) prog_14_method_2_code (2 : Nat) (Option.some (Jvm.ClassFile.FieldType.object "java/lang/String")), Jvm.Cond.code ({ cls := "java/util/Objects", name := "checkIndex", desc := "(II)I" } : Jvm.MethodName) jdk_31_method_17_code (2 : Nat) (Option.some Jvm.ClassFile.FieldType.int), Jvm.Cond.code ({ cls := "jdk/internal/util/Preconditions", name := "checkIndex", desc := "(IILjava/util/function/BiFunction;)I" } : Jvm.MethodName) jdk_41_method_11_code (3 : Nat) (Option.some Jvm.ClassFile.FieldType.int), Jvm.Cond.code ({ cls := "com/example/hasset/hasset/model/GeneratedFleet", name := "address", desc := "(I)Ljava/lang/String;" } : Jvm.MethodName) prog_13_method_2_code (5 : Nat) (Option.some (Jvm.ClassFile.FieldType.object "java/lang/String")), Jvm.Cond.code ({ cls := "java/lang/StringBuilder", name := "<init>", desc := "()V" } : Jvm.MethodName) jdk_67_method_1_code (1 : Nat) (Option.none : Option Jvm.ClassFile.FieldType), Jvm.Cond.code ({ cls := "java/lang/AbstractStringBuilder", name := "<init>", desc := "(I)V" } : Jvm.MethodName) jdk_68_method_2_code (2 : Nat) (Option.none : Option Jvm.ClassFile.FieldType), Jvm.Cond.code ({ cls := "java/lang/StringBuilder", name := "append", desc := "(Ljava/lang/String;)Ljava/lang/StringBuilder;" } : Jvm.MethodName) jdk_67_method_7_code (2 : Nat) (Option.some (Jvm.ClassFile.FieldType.object "java/lang/StringBuilder")), Jvm.Cond.code ({ cls := "java/lang/AbstractStringBuilder", name := "append", desc := "(Ljava/lang/String;)Ljava/lang/AbstractStringBuilder;" } : Jvm.MethodName) jdk_68_method_22_code (3 : Nat) (Option.some (Jvm.ClassFile.FieldType.object "java/lang/AbstractStringBuilder")), Jvm.Cond.code ({ cls := "java/lang/String", name := "length", desc := "()I" } : Jvm.MethodName) jdk_42_method_54_code (1 : Nat) (Option.some Jvm.ClassFile.FieldType.int), Jvm.Cond.code ({ cls := "java/lang/String", name := "coder", desc := "()B" } : Jvm.MethodName) jdk_42_method_152_code (1 : Nat) (Option.some Jvm.ClassFile.FieldType.byte), Jvm.Cond.code ({ cls := "java/lang/AbstractStringBuilder", name := "ensureCapacityInternal", desc := "(I)V" } : Jvm.MethodName) jdk_68_method_9_code (3 : Nat) (Option.none : Option Jvm.ClassFile.FieldType), Jvm.Cond.code ({ cls := "java/lang/AbstractStringBuilder", name := "putStringAt", desc := "(ILjava/lang/String;)V" } : Jvm.MethodName) jdk_68_method_73_code (3 : Nat) (Option.none : Option Jvm.ClassFile.FieldType), Jvm.Cond.code ({ cls := "java/lang/AbstractStringBuilder", name := "inflateIfNeededFor", desc := "(Ljava/lang/String;)V" } : Jvm.MethodName) jdk_68_method_71_code (2 : Nat) (Option.none : Option Jvm.ClassFile.FieldType), Jvm.Cond.code ({ cls := "java/lang/String", name := "getBytes", desc := "([BIB)V" } : Jvm.MethodName) jdk_42_method_147_code (4 : Nat) (Option.none : Option Jvm.ClassFile.FieldType), Jvm.Cond.code ({ cls := "java/lang/StringBuilder", name := "append", desc := "(I)Ljava/lang/StringBuilder;" } : Jvm.MethodName) jdk_67_method_15_code (2 : Nat) (Option.some (Jvm.ClassFile.FieldType.object "java/lang/StringBuilder")), Jvm.Cond.code ({ cls := "java/lang/AbstractStringBuilder", name := "append", desc := "(I)Ljava/lang/AbstractStringBuilder;" } : Jvm.MethodName) jdk_68_method_32_code (4 : Nat) (Option.some (Jvm.ClassFile.FieldType.object "java/lang/AbstractStringBuilder")), Jvm.Cond.code ({ cls := "java/lang/Integer", name := "stringSize", desc := "(I)I" } : Jvm.MethodName) jdk_33_method_13_code (4 : Nat) (Option.some Jvm.ClassFile.FieldType.int), Jvm.Cond.code ({ cls := "java/lang/AbstractStringBuilder", name := "isLatin1", desc := "()Z" } : Jvm.MethodName) jdk_68_method_68_code (1 : Nat) (Option.some Jvm.ClassFile.FieldType.boolean), Jvm.Cond.code ({ cls := "java/lang/Integer", name := "getChars", desc := "(II[B)I" } : Jvm.MethodName) jdk_33_method_12_code (7 : Nat) (Option.some Jvm.ClassFile.FieldType.int), Jvm.Cond.code ({ cls := "java/lang/StringBuilder", name := "toString", desc := "()Ljava/lang/String;" } : Jvm.MethodName) jdk_67_method_42_code (1 : Nat) (Option.some (Jvm.ClassFile.FieldType.object "java/lang/String")), Jvm.Cond.code ({ cls := "java/lang/String", name := "<init>", desc := "(Ljava/lang/StringBuilder;)V" } : Jvm.MethodName) jdk_42_method_53_code (2 : Nat) (Option.none : Option Jvm.ClassFile.FieldType), Jvm.Cond.code ({ cls := "java/lang/String", name := "<init>", desc := "(Ljava/lang/AbstractStringBuilder;Ljava/lang/Void;)V" } : Jvm.MethodName) jdk_42_method_150_code (5 : Nat) (Option.none : Option Jvm.ClassFile.FieldType), Jvm.Cond.code ({ cls := "java/lang/AbstractStringBuilder", name := "getValue", desc := "()[B" } : Jvm.MethodName) jdk_68_method_64_code (1 : Nat) (Option.some (Jvm.ClassFile.FieldType.array Jvm.ClassFile.FieldType.byte)), Jvm.Cond.code ({ cls := "java/lang/StringBuilder", name := "length", desc := "()I" } : Jvm.MethodName) jdk_67_method_93_code (1 : Nat) (Option.some Jvm.ClassFile.FieldType.int), Jvm.Cond.code ({ cls := "java/lang/AbstractStringBuilder", name := "length", desc := "()I" } : Jvm.MethodName) jdk_68_method_6_code (1 : Nat) (Option.some Jvm.ClassFile.FieldType.int), Jvm.Cond.code ({ cls := "java/util/Arrays", name := "copyOfRange", desc := "([BII)[B" } : Jvm.MethodName) jdk_65_method_132_code (3 : Nat) (Option.some (Jvm.ClassFile.FieldType.array Jvm.ClassFile.FieldType.byte)), Jvm.Cond.code ({ cls := "java/util/Arrays", name := "copyOfRangeByte", desc := "([BII)[B" } : Jvm.MethodName) jdk_65_method_133_code (5 : Nat) (Option.some (Jvm.ClassFile.FieldType.array Jvm.ClassFile.FieldType.byte)), Jvm.Cond.code ({ cls := "java/util/Arrays", name := "checkLength", desc := "(II)V" } : Jvm.MethodName) jdk_65_method_131_code (2 : Nat) (Option.none : Option Jvm.ClassFile.FieldType), Jvm.Cond.code ({ cls := "java/lang/Math", name := "min", desc := "(II)I" } : Jvm.MethodName) jdk_29_method_69_code (2 : Nat) (Option.some Jvm.ClassFile.FieldType.int), Jvm.Cond.code ({ cls := "com/example/hasset/hasset/model/GeneratedFleetAddressesPinLaw", name := "matches", desc := "(Ljava/lang/String;I)Z" } : Jvm.MethodName) method_5_code (10 : Nat) (Option.some Jvm.ClassFile.FieldType.boolean), Jvm.Cond.code ({ cls := "com/example/hasset/hasset/model/GeneratedFleetAddressesPinLaw", name := "put", desc := "([CII)I" } : Jvm.MethodName) method_3_code (3 : Nat) (Option.some Jvm.ClassFile.FieldType.int), Jvm.Cond.code ({ cls := "com/example/hasset/hasset/model/GeneratedFleetAddressesPinLaw", name := "at", desc := "(Ljava/lang/String;[CII)Z" } : Jvm.MethodName) method_4_code (4 : Nat) (Option.some Jvm.ClassFile.FieldType.boolean), Jvm.Cond.code ({ cls := "java/lang/String", name := "charAt", desc := "(I)C" } : Jvm.MethodName) jdk_42_method_56_code (2 : Nat) (Option.some Jvm.ClassFile.FieldType.char), Jvm.Cond.code ({ cls := "java/lang/String", name := "isLatin1", desc := "()Z" } : Jvm.MethodName) jdk_42_method_154_code (1 : Nat) (Option.some Jvm.ClassFile.FieldType.boolean), Jvm.Cond.code ({ cls := "java/lang/StringLatin1", name := "charAt", desc := "([BI)C" } : Jvm.MethodName) jdk_43_method_2_code (2 : Nat) (Option.some Jvm.ClassFile.FieldType.char), Jvm.Cond.code ({ cls := "java/lang/String", name := "checkIndex", desc := "(II)V" } : Jvm.MethodName) jdk_42_method_155_code (2 : Nat) (Option.none : Option Jvm.ClassFile.FieldType), Jvm.Cond.code ({ cls := "java/lang/AbstractStringBuilder", name := "newCapacity", desc := "(I)I" } : Jvm.MethodName) jdk_68_method_10_code (6 : Nat) (Option.some Jvm.ClassFile.FieldType.int), Jvm.Cond.code ({ cls := "jdk/internal/util/ArraysSupport", name := "newLength", desc := "(III)I" } : Jvm.MethodName) jdk_48_method_27_code (4 : Nat) (Option.some Jvm.ClassFile.FieldType.int), Jvm.Cond.code ({ cls := "java/lang/Math", name := "max", desc := "(II)I" } : Jvm.MethodName) jdk_29_method_65_code (2 : Nat) (Option.some Jvm.ClassFile.FieldType.int), Jvm.Cond.code ({ cls := "java/util/Arrays", name := "copyOf", desc := "([BI)[B" } : Jvm.MethodName) jdk_65_method_121_code (3 : Nat) (Option.some (Jvm.ClassFile.FieldType.array Jvm.ClassFile.FieldType.byte))]
set_option maxRecDepth 65536 in
theorem codes_eq : words1.filter isCode = codes1 := rfl
theorem w_codes : ∀ c ∈ words1.filter isCode, c.before args0 about1 = true := by
  rw [codes_eq]
  intro c hc
  simp only [codes1, List.mem_cons, List.not_mem_nil, or_false] at hc
  rcases hc with rfl | rfl | rfl | rfl | rfl | rfl | rfl | rfl | rfl | rfl | rfl | rfl | rfl | rfl | rfl | rfl | rfl | rfl | rfl | rfl | rfl | rfl | rfl | rfl | rfl | rfl | rfl | rfl | rfl | rfl | rfl | rfl | rfl | rfl | rfl | rfl | rfl | rfl | rfl | rfl | rfl | rfl | rfl | rfl | rfl | rfl | rfl | rfl
  · exact w_c0
  · exact w_c1
  · exact w_c2
  · exact w_c3
  · exact w_c4
  · exact w_c5
  · exact w_c6
  · exact w_c7
  · exact w_c8
  · exact w_c9
  · exact w_c10
  · exact w_c11
  · exact w_c12
  · exact w_c13
  · exact w_c14
  · exact w_c15
  · exact w_c16
  · exact w_c17
  · exact w_c18
  · exact w_c19
  · exact w_c20
  · exact w_c21
  · exact w_c22
  · exact w_c23
  · exact w_c24
  · exact w_c25
  · exact w_c26
  · exact w_c27
  · exact w_c28
  · exact w_c29
  · exact w_c30
  · exact w_c31
  · exact w_c32
  · exact w_c33
  · exact w_c34
  · exact w_c35
  · exact w_c36
  · exact w_c37
  · exact w_c38
  · exact w_c39
  · exact w_c40
  · exact w_c41
  · exact w_c42
  · exact w_c43
  · exact w_c44
  · exact w_c45
  · exact w_c46
  · exact w_c47
set_option maxRecDepth 65536 in
theorem w_t1 : (words1.take 24).all (fun c => isCode c || c.before args0 about1) = true := by decide +kernel
set_option maxRecDepth 65536 in
theorem w_t2 : ((words1.drop 24).take 24).all (fun c => isCode c || c.before args0 about1) = true := by decide +kernel
set_option maxRecDepth 65536 in
theorem w_t3 : (((words1.drop 24).drop 24).take 24).all (fun c => isCode c || c.before args0 about1) = true := by decide +kernel
set_option maxRecDepth 65536 in
theorem w_t4 : ((((words1.drop 24).drop 24).drop 24).take 24).all (fun c => isCode c || c.before args0 about1) = true := by decide +kernel
set_option maxRecDepth 65536 in
theorem w_t5 : (((((words1.drop 24).drop 24).drop 24).drop 24).take 24).all (fun c => isCode c || c.before args0 about1) = true := by decide +kernel
set_option maxRecDepth 65536 in
theorem w_t6 : ((((((words1.drop 24).drop 24).drop 24).drop 24).drop 24).take 24).all (fun c => isCode c || c.before args0 about1) = true := by decide +kernel
set_option maxRecDepth 65536 in
theorem w_t7 : (((((((words1.drop 24).drop 24).drop 24).drop 24).drop 24).drop 24).take 24).all (fun c => isCode c || c.before args0 about1) = true := by decide +kernel
set_option maxRecDepth 65536 in
theorem w_t8 : ((((((((words1.drop 24).drop 24).drop 24).drop 24).drop 24).drop 24).drop 24).take 24).all (fun c => isCode c || c.before args0 about1) = true := by decide +kernel
set_option maxRecDepth 65536 in
theorem w_t9 : (((((((((words1.drop 24).drop 24).drop 24).drop 24).drop 24).drop 24).drop 24).drop 24).take 24).all (fun c => isCode c || c.before args0 about1) = true := by decide +kernel
set_option maxRecDepth 65536 in
theorem w_t10 : ((((((((((words1.drop 24).drop 24).drop 24).drop 24).drop 24).drop 24).drop 24).drop 24).drop 24).take 24).all (fun c => isCode c || c.before args0 about1) = true := by decide +kernel
set_option maxRecDepth 65536 in
theorem w_t11 : (((((((((((words1.drop 24).drop 24).drop 24).drop 24).drop 24).drop 24).drop 24).drop 24).drop 24).drop 24).take 24).all (fun c => isCode c || c.before args0 about1) = true := by decide +kernel
set_option maxRecDepth 65536 in
theorem w_t12 : (((((((((((words1.drop 24).drop 24).drop 24).drop 24).drop 24).drop 24).drop 24).drop 24).drop 24).drop 24).drop 24).all (fun c => isCode c || c.before args0 about1) = true := by decide +kernel
theorem w_tables : (allAtoms (Jvm.Cond.code x code maxLocals ret :: tables_1)).before args0 about1 = true := by
  rw [allAtoms_all]
  show words1.all (fun c => c.before args0 about1) = true
  refine all_split ?_ w_codes
  rw [← List.take_append_drop 24 words1, List.all_append, w_t1, ← List.take_append_drop 24 (words1.drop 24), List.all_append, w_t2, ← List.take_append_drop 24 ((words1.drop 24).drop 24), List.all_append, w_t3, ← List.take_append_drop 24 (((words1.drop 24).drop 24).drop 24), List.all_append, w_t4, ← List.take_append_drop 24 ((((words1.drop 24).drop 24).drop 24).drop 24), List.all_append, w_t5, ← List.take_append_drop 24 (((((words1.drop 24).drop 24).drop 24).drop 24).drop 24), List.all_append, w_t6, ← List.take_append_drop 24 ((((((words1.drop 24).drop 24).drop 24).drop 24).drop 24).drop 24), List.all_append, w_t7, ← List.take_append_drop 24 (((((((words1.drop 24).drop 24).drop 24).drop 24).drop 24).drop 24).drop 24), List.all_append, w_t8, ← List.take_append_drop 24 ((((((((words1.drop 24).drop 24).drop 24).drop 24).drop 24).drop 24).drop 24).drop 24), List.all_append, w_t9, ← List.take_append_drop 24 (((((((((words1.drop 24).drop 24).drop 24).drop 24).drop 24).drop 24).drop 24).drop 24).drop 24), List.all_append, w_t10, ← List.take_append_drop 24 ((((((((((words1.drop 24).drop 24).drop 24).drop 24).drop 24).drop 24).drop 24).drop 24).drop 24).drop 24), List.all_append, w_t11, w_t12]
  rfl
set_option maxRecDepth 65536 in
theorem w_rest : rest_1_c.before args0 about1 = true := by decide +kernel
set_option maxRecDepth 65536 in
theorem w_case : (Jvm.Cond.and given_1 narrow_1).before args0 about1 = true := by decide +kernel
set_option maxRecDepth 65536 in
theorem w_consts : constsHeld consts_1 about1 := Jvm.Lit.constsHeldB_iff.mp (by decide +kernel)
theorem w_applies : (headSpec (Jvm.Cond.code x code maxLocals ret :: tables_1) room_1).applies x e0.platform about1 = true :=
  (Spec.applies_iff w_frames).mpr ⟨w_running, w_runnable, w_alone, w_named, w_hears, w_ripe, w_room, w_tables⟩
theorem atStart : AtStart classFile x code maxLocals ret World_1 tables_1 room_1 Calls_1 rest_1 Pre_1 launch0 p0 e0 about1 theMethod args0 below0 :=
  ⟨lists_1, trivial, launch0.admits_env _ _ _, launch0.least_env, fairChoices_fair.cas, fairChoices_fair.clock, w_frames, w_args, w_heap, w_applies, ⟨w_consts, trivial⟩, w_rest, w_case⟩
end start1
theorem witness_1 : WitnessClaimed_1 := ⟨start1.p0, start1.e0, start1.about1, start1.theMethod, start1.args0, start1.below0, start1.atStart⟩
end Jvm.Pilot.@@N@@
