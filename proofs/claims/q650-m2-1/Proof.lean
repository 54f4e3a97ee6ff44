import JvmDerived
import JvmDerived.Pilot.@@N@@Statement
import JvmDerived.Pilot.@@N@@Code
set_option linter.unusedVariables false
set_option linter.unusedSimpArgs false
namespace Jvm.Own
open Jvm Sem ClassFile Op Lib Jvm.Stand Jvm.Free Jvm.LawKit Jvm.RoadKit Bundle
/-- the moving data of a walk: program, environment, the start, the method, its arguments, the frames below, the method's record, its code -/
abbrev Cx : Type := Program × Env × State × MethodId × Array Value × List Frame × Method × Code
/-- from here the run ends as P says -/
def Go (K : Cx) (P : Outcome → State → Prop) (T : State) (pc : Nat) (ls : Array Slot) (st : List Value) : Prop :=
  ∃ o U, Steps K.1.tables K.2.1 K.2.2.2.2.2.1 (T.setTop (mkF K.2.2.2.1 pc ls st)) U ∧ U.status = .running ∧ Ended U K.2.2.2.2.2.1 o ∧ P o U
/-- where a walk stands: over its start re-tabled; heap h; sf: the cells that it may write -/
def Wk (l : Launch) (Z : State) (EL : List (String × Nat)) (own nm : String) (cd : ByteArray) (ml : Nat) (ret : Option FieldType) (R : Room) (ws : List Addr) (h0 : Heap) (K : Cx) (sf : List Addr) (T : State) (h : Heap) (cells slots : Nat) : Prop :=
  ∃ (vm0 : Vm) (locs : List Loc) (k0 : Nat), Stand K.1 l K.2.1 R (K.2.2.1.setVm vm0) K.2.2.2.1 K.2.2.2.2.1 K.2.2.2.2.2.1 K.2.2.2.2.2.2.1 K.2.2.2.2.2.2.2 T locs cells slots ∧ T.heap = h ∧ K.1.tables.exec = Jvm.exec ∧
    (K.2.2.2.2.2.2.2.code = cd ∧ K.2.2.2.2.2.2.2.maxLocals = ml ∧ K.2.2.2.2.2.2.1.sig.returnType = ret ∧ K.2.2.2.2.2.2.1.locks = false ∧ K.2.2.2.2.2.2.1.name = nm) ∧ K.2.2.1.heap = h0 ∧
    Z.Warmed39 vm0 ∧ vm0.findClass own = some K.2.2.2.1.cls ∧ K.2.2.1.Since vm0 k0 ∧ k0 ≤ h.size ∧ (∀ x ∈ locs, x.base ∈ ws ∨ h0.size ≤ x.base) ∧ CHr Z EL K.2.2.1.vm h0 vm0 h ∧ Old Z Z.heap.size h ∧ (∃ a0, EW Z a0 EL) ∧
    (∀ x ∈ ws, Z.heap.size ≤ x) ∧ Z.heap.size ≤ h0.size ∧ ∀ x ∈ sf, Safe Z EL vm0 h x ∧ x < h.size ∧ (x ∈ ws ∨ h0.size ≤ x)
/-- what a contract promises at the end -/
def Pst (Z : State) (EL : List (String × Nat)) (ws : List Addr) (s : State) (kc ks : Nat) (Q : Option Value → Heap → List Addr → Prop) (o : Outcome) (U : State) : Prop :=
  ∃ v L so, o = .returned v ∧ Q v U.heap so ∧ (∀ x ∈ so, Safe Z EL U.vm U.heap x ∧ s.heap.size ≤ x ∧ x < U.heap.size) ∧ (∀ x ∈ L, x.base ∈ ws ∨ s.heap.size ≤ x.base) ∧ CHr Z EL s.vm s.heap U.vm U.heap ∧ ReturnedEndW s o U L kc ks
/-- a body's contract: from the heap h and the arguments as', whatever is booked said, ws writable -/
def Ct (l : Launch) (Z : State) (EL : List (String × Nat)) (y : MethodName) (cd : ByteArray) (ml : Nat) (ret : Option FieldType) (rm : Room) (as' : Array Value) (h : Heap) (ws : List Addr) (Q : Option Value → Heap → List Addr → Prop) : Prop :=
  ∀ wl, MetFree l y (head1 (Cond.code y cd ml ret :: wl) rm) (fun a U => a = as' ∧ Z.Warmed39 U.vm ∧ U.heap = h ∧ CHv Z EL U.vm h ∧ ∀ x ∈ ws, Safe Z EL U.vm h x ∧ x < h.size) (fun _ _ _ _ _ => True) (fun _ U o U' => Pst Z EL ws U rm.cells rm.slots Q o U')
section Basics
variable {l : Launch} {Z : State} {EL : List (String × Nat)} {own nm : String} {cd : ByteArray} {ml : Nat} {ret : Option FieldType} {R : Room} {ws : List Addr} {h0 : Heap} {K : Cx} {sf : List Addr} {T : State} {h h' : Heap} {cells slots : Nat} {P : Outcome → State → Prop} {pc pc' : Nat} {ls : Array Slot} {st : List Value} {a0 : Array Value}
theorem Go.stp {T' : State} {pc' : Nat} {ls' : Array Slot} {st' : List Value} (f : ∀ t, Steps K.1.tables K.2.1 K.2.2.2.2.2.1 (T'.setTop (mkF K.2.2.2.1 pc' ls' st')) t → Steps K.1.tables K.2.1 K.2.2.2.2.2.1 (T.setTop (mkF K.2.2.2.1 pc ls st)) t) (k : Go K P T' pc' ls' st') : Go K P T pc ls st := by
  obtain ⟨o, U, r, q⟩ := k; exact ⟨o, U, f _ r, q⟩
theorem Go.top {v v' : Value} (e : v = v') (k : Go K P T pc ls (v' :: st)) : Go K P T pc ls (v :: st) := e ▸ k
theorem Wk.heapEq (W : Wk l Z EL own nm cd ml ret R ws h0 K sf T h cells slots) : T.heap = h := by obtain ⟨_, _, _, _, e, _⟩ := W; exact e
theorem Wk.old (W : Wk l Z EL own nm cd ml ret R ws h0 K sf T h cells slots) : Old Z Z.heap.size h := by obtain ⟨_, _, _, _, _, _, _, _, _, _, _, _, _, _, q, _⟩ := W; exact q
theorem Wk.grow (W : Wk l Z EL own nm cd ml ret R ws h0 K sf T h cells slots) : h0.size ≤ h.size := by obtain ⟨_, _, _, _, _, _, _, _, _, _, _, _, _, q, _⟩ := W; exact q.2.1
theorem Wk.lt (W : Wk l Z EL own nm cd ml ret R ws h0 K sf T h cells slots) {x : Addr} (hx : x ∈ sf) : x < h.size := by obtain ⟨_, _, _, _, _, _, _, _, _, _, _, _, _, _, _, _, _, _, q⟩ := W; exact (q x hx).2.1
theorem Wk.mono (W : Wk l Z EL own nm cd ml ret R ws h0 K sf T h cells slots) {cells' slots' : Nat} (hc : cells ≤ cells') (hn : slots ≤ slots') : Wk l Z EL own nm cd ml ret R ws h0 K sf T h cells' slots' := by
  obtain ⟨vm0, locs, k0, X, r⟩ := W; exact ⟨vm0, locs, k0, X.mono hc hn, r⟩
theorem Wk.less (W : Wk l Z EL own nm cd ml ret R ws h0 K sf T h cells slots) {sf' : List Addr} (hs : ∀ x ∈ sf', x ∈ sf) : Wk l Z EL own nm cd ml ret R ws h0 K sf' T h cells slots := by
  obtain ⟨vm0, locs, k0, X, e, hx, hc, e0, hZ, hown, hS, hk, hL, hC, hO, hE, hw, hz, hs'⟩ := W
  exact ⟨vm0, locs, k0, X, e, hx, hc, e0, hZ, hown, hS, hk, hL, hC, hO, hE, hw, hz, fun x q => hs' x (hs x q)⟩
/-- an object whose class is neither String nor byte[] is booked nowhere -/
theorem Wk.addE (W : Wk l Z EL own nm cd ml ret R ws h0 K sf T h cells slots) {x : Addr} {C : String} (E : Exa Z h x C) (h1 : C ≠ "java/lang/String") (h2 : C ≠ "[B") (hp : x ∈ ws ∨ h0.size ≤ x) : Wk l Z EL own nm cd ml ret R ws h0 K (x :: sf) T h cells slots := by
  obtain ⟨vm0, locs, k0, X, e, hx, hc, e0, hZ, hown, hS, hk, hL, hC, hO, hE, hw, hz, hs⟩ := W
  exact ⟨vm0, locs, k0, X, e, hx, hc, e0, hZ, hown, hS, hk, hL, hC, hO, hE, hw, hz, fun y hy => by
    rcases List.mem_cons.mp hy with rfl | hy
    · exact ⟨Safe.exa hZ.alike E h1 h2, E.lt, hp⟩
    · exact hs y hy⟩
theorem all1 {α : Type} {P : α → Prop} {y : α} {L : List α} (q : P y) (r : ∀ x ∈ L, P x) : ∀ x ∈ y :: L, P x := fun x hx => (List.mem_cons.mp hx).elim (fun e => e ▸ q) (r x)
theorem alln {α : Type} {P : α → Prop} : ∀ x ∈ ([] : List α), P x := fun _ q => nomatch q
theorem keep_of {s U : State} {L : List Loc} {k n : Nat} {ws : List Addr} (hs : s.sameButNew U L k n) (hL : ∀ x ∈ L, x.base ∈ ws ∨ s.heap.size ≤ x.base) : Keep s.heap U.heap ws := by
  obtain ⟨-, q2, -, -, -, q6⟩ := hs
  refine ⟨q2, fun x c hx hn => ?_, fun x c hx => ?_⟩
  · obtain ⟨c', r1, r2, r3, r4⟩ := q6 x c hx
    have hlt := (Array.getElem?_eq_some_iff.mp hx).1
    have e1 : c'.slots = c.slots := Array.ext_getElem? fun i => r4 i fun hm => by
      rcases hL _ hm with z | z
      · exact hn z
      · exact absurd hlt (Nat.not_lt.mpr z)
    have e2 : c' = c := by rw [r2, e1]
    rw [r1, e2]
  · obtain ⟨c', r1, r2, r3, -⟩ := q6 x c hx
    exact ⟨c', r1, by rw [r2], by rw [r2], r3⟩
/-- entering a body -/
theorem Ct.mk {y : MethodName} (own nm : String) (h1 : y.cls = own) (h2 : y.name = nm) {rm : Room} {as' : Array Value} {Q : Option Value → Heap → List Addr → Prop} (pn : plainFor y = true) (hO : Old Z Z.heap.size h) (hE : EW Z a0 EL) (hw : ∀ x ∈ ws, Z.heap.size ≤ x)
    (k : ∀ (K : Cx) (T : State), Wk l Z EL own nm cd ml ret rm ws h K ws T h 0 0 → Go K (Pst Z EL ws K.2.2.1 rm.cells rm.slots Q) T 0 (entryFrame K.2.2.2.1 as' ml).locals []) : Ct l Z EL y cd ml ret rm as' h ws Q := by
  subst h1 h2
  intro wl
  refine MetFree.of_bodySF pn hisR ?_
  intro p e s m args below meth c s₁ Bd hml hP hK
  obtain ⟨rfl, hZ, hh, hCH, hsf⟩ := hP
  have X0 := Stand.of_body Bd
  have hes : s₁.heap = h := by rw [← hh, Bd.state]; rfl
  have hvm : s₁.vm = s.vm := by rw [Bd.state]; rfl
  have hn := name_of_methodNamed Bd.named Bd.method
  obtain ⟨o, U, r1, r2, r3, r4⟩ := k (p, e, s, m, args, below, meth, c) s₁ ⟨s.vm, [], 0, X0, hes, Bd.exec, ⟨Bd.bytes, hml, Bd.returns, Bd.notSynchronized, hn.1⟩, hh, hZ, findClass_of_methodNamed Bd.named, (State.WarmedH.refl s).since 0, Nat.zero_le _, (fun x q => nomatch q), by rw [← hh] at hCH ⊢; exact CHr.refl hCH, hO, ⟨a0, hE⟩, hw, hO.1 ▸ hO.2.1, fun x q => ⟨(hsf x q).1, (hsf x q).2, Or.inl q⟩⟩
  refine ⟨U, o, ?_, r2, r3, r4⟩
  have ef : entryFrame m args ml = mkF m 0 (entryFrame m args ml).locals [] := rfl
  rw [ef]; exact r1
end Basics
section Pure
variable {l : Launch} {Z : State} {EL : List (String × Nat)} {own nm : String} {cd : ByteArray} {ml : Nat} {ret : Option FieldType} {R : Room} {ws : List Addr} {h0 : Heap} {K : Cx} {sf : List Addr} {T : State} {h h' : Heap} {cells slots : Nat} {P : Outcome → State → Prop} {pc pc' : Nat} {ls : Array Slot} {st : List Value} {a0 : Array Value}
theorem gAloadN (W : Wk l Z EL own nm cd ml ret R ws h0 K sf T h cells slots) {i : Fin 4} {v : Value} (hd : decode cd pc = .ok (.aload_n i, 1)) (hl : ls[i.val]? = some (.val v)) (hv : v.isRef = true) (hp : pc + 1 = pc') (k : Go K P T pc' ls (v :: st)) : Go K P T pc ls st := by
  obtain ⟨vm0, locs, k0, X, e, hx, ⟨hc, -⟩, -⟩ := W
  subst hp
  exact Go.stp (fun t r => XS.aloadN X.here hx rfl (hb hc hd) hl hv r) k
theorem gAload (W : Wk l Z EL own nm cd ml ret R ws h0 K sf T h cells slots) {i : Nat} {v : Value} (hd : decode cd pc = .ok (.aload i, 2)) (hl : ls[i]? = some (.val v)) (hv : v.isRef = true) (hp : pc + 2 = pc') (k : Go K P T pc' ls (v :: st)) : Go K P T pc ls st := by
  obtain ⟨vm0, locs, k0, X, e, hx, ⟨hc, -⟩, -⟩ := W
  subst hp
  exact Go.stp (fun t r => XS.aload X.here hx rfl (hb hc hd) hl hv r) k
theorem gIloadN (W : Wk l Z EL own nm cd ml ret R ws h0 K sf T h cells slots) {i : Fin 4} {v : Int32} (hd : decode cd pc = .ok (.iload_n i, 1)) (hl : ls[i.val]? = some (.val (.int v))) (hp : pc + 1 = pc') (k : Go K P T pc' ls (.int v :: st)) : Go K P T pc ls st := by
  obtain ⟨vm0, locs, k0, X, e, hx, ⟨hc, -⟩, -⟩ := W
  subst hp
  exact Go.stp (fun t r => XS.iloadN X.here hx rfl (hb hc hd) hl r) k
theorem gIload (W : Wk l Z EL own nm cd ml ret R ws h0 K sf T h cells slots) {i : Nat} {v : Int32} (hd : decode cd pc = .ok (.iload i, 2)) (hl : ls[i]? = some (.val (.int v))) (hp : pc + 2 = pc') (k : Go K P T pc' ls (.int v :: st)) : Go K P T pc ls st := by
  obtain ⟨vm0, locs, k0, X, e, hx, ⟨hc, -⟩, -⟩ := W
  subst hp
  exact Go.stp (fun t r => XS.iload X.here hx rfl (hb hc hd) hl r) k
theorem gLloadN (W : Wk l Z EL own nm cd ml ret R ws h0 K sf T h cells slots) {i : Fin 4} {v : Int64} (hd : decode cd pc = .ok (.lload_n i, 1)) (hl : ls[i.val]? = some (.val (.long v))) (hp : pc + 1 = pc') (k : Go K P T pc' ls (.long v :: st)) : Go K P T pc ls st := by
  obtain ⟨vm0, locs, k0, X, e, hx, ⟨hc, -⟩, -⟩ := W
  subst hp
  exact Go.stp (fun t r => XS.lloadN X.here hx rfl (hb hc hd) hl r) k
theorem gLload (W : Wk l Z EL own nm cd ml ret R ws h0 K sf T h cells slots) {i : Nat} {v : Int64} (hd : decode cd pc = .ok (.lload i, 2)) (hl : ls[i]? = some (.val (.long v))) (hp : pc + 2 = pc') (k : Go K P T pc' ls (.long v :: st)) : Go K P T pc ls st := by
  obtain ⟨vm0, locs, k0, X, e, hx, ⟨hc, -⟩, -⟩ := W
  subst hp
  exact Go.stp (fun t r => XS.lload X.here hx rfl (hb hc hd) hl r) k
theorem gIconst (W : Wk l Z EL own nm cd ml ret R ws h0 K sf T h cells slots) {i : Int} {z : Int32} (hd : decode cd pc = .ok (.iconst i, 1)) (hz : Int32.ofInt i = z) (hp : pc + 1 = pc') (k : Go K P T pc' ls (.int z :: st)) : Go K P T pc ls st := by
  obtain ⟨vm0, locs, k0, X, e, hx, ⟨hc, -⟩, -⟩ := W
  subst hp
  exact Go.stp (fun t r => XS.iconst X.here hx rfl (hb hc hd) <| hz ▸ r) k
theorem gBipush (W : Wk l Z EL own nm cd ml ret R ws h0 K sf T h cells slots) {i : Int} {z : Int32} (hd : decode cd pc = .ok (.bipush i, 2)) (hz : (Int8.ofInt i).toInt32 = z) (hp : pc + 2 = pc') (k : Go K P T pc' ls (.int z :: st)) : Go K P T pc ls st := by
  obtain ⟨vm0, locs, k0, X, e, hx, ⟨hc, -⟩, -⟩ := W
  subst hp
  exact Go.stp (fun t r => XS.bipush X.here hx rfl (hb hc hd) <| hz ▸ r) k
theorem gSipush (W : Wk l Z EL own nm cd ml ret R ws h0 K sf T h cells slots) {i : Int} {z : Int32} (hd : decode cd pc = .ok (.sipush i, 3)) (hz : (Int16.ofInt i).toInt32 = z) (hp : pc + 3 = pc') (k : Go K P T pc' ls (.int z :: st)) : Go K P T pc ls st := by
  obtain ⟨vm0, locs, k0, X, e, hx, ⟨hc, -⟩, -⟩ := W
  subst hp
  exact Go.stp (fun t r => XS.sipush X.here hx rfl (hb hc hd) <| hz ▸ r) k
theorem gAconstNull (W : Wk l Z EL own nm cd ml ret R ws h0 K sf T h cells slots)  (hd : decode cd pc = .ok (.aconst_null, 1))  (hp : pc + 1 = pc') (k : Go K P T pc' ls (.null :: st)) : Go K P T pc ls st := by
  obtain ⟨vm0, locs, k0, X, e, hx, ⟨hc, -⟩, -⟩ := W
  subst hp
  exact Go.stp (fun t r => XS.aconstNull X.here hx rfl (hb hc hd) r) k
theorem gLconst (W : Wk l Z EL own nm cd ml ret R ws h0 K sf T h cells slots) {i : Fin 2} {z : Int64} (hd : decode cd pc = .ok (.lconst i, 1)) (hz : (Int64.ofNat i.val) = z) (hp : pc + 1 = pc') (k : Go K P T pc' ls (.long z :: st)) : Go K P T pc ls st := by
  obtain ⟨vm0, locs, k0, X, e, hx, ⟨hc, -⟩, -⟩ := W
  subst hp
  exact Go.stp (fun t r => XS.lconst X.here hx rfl (hb hc hd) <| hz ▸ r) k
theorem gIadd (W : Wk l Z EL own nm cd ml ret R ws h0 K sf T h cells slots) {x y z : Int32} (hd : decode cd pc = .ok (.iadd, 1)) (hz : x + y = z) (hp : pc + 1 = pc') (k : Go K P T pc' ls (.int z :: st)) : Go K P T pc ls (.int y :: .int x :: st) := by
  obtain ⟨vm0, locs, k0, X, e, hx, ⟨hc, -⟩, -⟩ := W
  subst hp
  exact Go.stp (fun t r => XS.iadd X.here hx rfl (hb hc hd) rfl <| hz ▸ r) k
theorem gIsub (W : Wk l Z EL own nm cd ml ret R ws h0 K sf T h cells slots) {x y z : Int32} (hd : decode cd pc = .ok (.isub, 1)) (hz : x - y = z) (hp : pc + 1 = pc') (k : Go K P T pc' ls (.int z :: st)) : Go K P T pc ls (.int y :: .int x :: st) := by
  obtain ⟨vm0, locs, k0, X, e, hx, ⟨hc, -⟩, -⟩ := W
  subst hp
  exact Go.stp (fun t r => XS.isub X.here hx rfl (hb hc hd) rfl <| hz ▸ r) k
theorem gImul (W : Wk l Z EL own nm cd ml ret R ws h0 K sf T h cells slots) {x y z : Int32} (hd : decode cd pc = .ok (.imul, 1)) (hz : x * y = z) (hp : pc + 1 = pc') (k : Go K P T pc' ls (.int z :: st)) : Go K P T pc ls (.int y :: .int x :: st) := by
  obtain ⟨vm0, locs, k0, X, e, hx, ⟨hc, -⟩, -⟩ := W
  subst hp
  exact Go.stp (fun t r => XS.imul X.here hx rfl (hb hc hd) rfl <| hz ▸ r) k
theorem gIand (W : Wk l Z EL own nm cd ml ret R ws h0 K sf T h cells slots) {x y z : Int32} (hd : decode cd pc = .ok (.iand, 1)) (hz : x &&& y = z) (hp : pc + 1 = pc') (k : Go K P T pc' ls (.int z :: st)) : Go K P T pc ls (.int y :: .int x :: st) := by
  obtain ⟨vm0, locs, k0, X, e, hx, ⟨hc, -⟩, -⟩ := W
  subst hp
  exact Go.stp (fun t r => XS.iand X.here hx rfl (hb hc hd) rfl <| hz ▸ r) k
theorem gIor (W : Wk l Z EL own nm cd ml ret R ws h0 K sf T h cells slots) {x y z : Int32} (hd : decode cd pc = .ok (.ior, 1)) (hz : x ||| y = z) (hp : pc + 1 = pc') (k : Go K P T pc' ls (.int z :: st)) : Go K P T pc ls (.int y :: .int x :: st) := by
  obtain ⟨vm0, locs, k0, X, e, hx, ⟨hc, -⟩, -⟩ := W
  subst hp
  exact Go.stp (fun t r => XS.ior X.here hx rfl (hb hc hd) rfl <| hz ▸ r) k
theorem gIxor (W : Wk l Z EL own nm cd ml ret R ws h0 K sf T h cells slots) {x y z : Int32} (hd : decode cd pc = .ok (.ixor, 1)) (hz : x ^^^ y = z) (hp : pc + 1 = pc') (k : Go K P T pc' ls (.int z :: st)) : Go K P T pc ls (.int y :: .int x :: st) := by
  obtain ⟨vm0, locs, k0, X, e, hx, ⟨hc, -⟩, -⟩ := W
  subst hp
  exact Go.stp (fun t r => XS.ixor X.here hx rfl (hb hc hd) rfl <| hz ▸ r) k
theorem gIshl (W : Wk l Z EL own nm cd ml ret R ws h0 K sf T h cells slots) {x y z : Int32} (hd : decode cd pc = .ok (.ishl, 1)) (hz : x <<< (y &&& 31) = z) (hp : pc + 1 = pc') (k : Go K P T pc' ls (.int z :: st)) : Go K P T pc ls (.int y :: .int x :: st) := by
  obtain ⟨vm0, locs, k0, X, e, hx, ⟨hc, -⟩, -⟩ := W
  subst hp
  exact Go.stp (fun t r => XS.ishl X.here hx rfl (hb hc hd) rfl <| hz ▸ r) k
theorem gIshr (W : Wk l Z EL own nm cd ml ret R ws h0 K sf T h cells slots) {x y z : Int32} (hd : decode cd pc = .ok (.ishr, 1)) (hz : x >>> (y &&& 31) = z) (hp : pc + 1 = pc') (k : Go K P T pc' ls (.int z :: st)) : Go K P T pc ls (.int y :: .int x :: st) := by
  obtain ⟨vm0, locs, k0, X, e, hx, ⟨hc, -⟩, -⟩ := W
  subst hp
  exact Go.stp (fun t r => XS.ishr X.here hx rfl (hb hc hd) rfl <| hz ▸ r) k
theorem gIushr (W : Wk l Z EL own nm cd ml ret R ws h0 K sf T h cells slots) {x y z : Int32} (hd : decode cd pc = .ok (.iushr, 1)) (hz : (x.toUInt32 >>> (y &&& 31).toUInt32).toInt32 = z) (hp : pc + 1 = pc') (k : Go K P T pc' ls (.int z :: st)) : Go K P T pc ls (.int y :: .int x :: st) := by
  obtain ⟨vm0, locs, k0, X, e, hx, ⟨hc, -⟩, -⟩ := W
  subst hp
  exact Go.stp (fun t r => XS.iushr X.here hx rfl (hb hc hd) rfl <| hz ▸ r) k
theorem gIdiv (W : Wk l Z EL own nm cd ml ret R ws h0 K sf T h cells slots) {x y z : Int32} (hd : decode cd pc = .ok (.idiv, 1)) (hy : y ≠ 0) (hz : x / y = z) (hp : pc + 1 = pc') (k : Go K P T pc' ls (.int z :: st)) : Go K P T pc ls (.int y :: .int x :: st) := by
  obtain ⟨vm0, locs, k0, X, e, hx, ⟨hc, -⟩, -⟩ := W
  subst hp
  exact Go.stp (fun t r => XS.idiv X.here hx rfl (hb hc hd) rfl hy <| hz ▸ r) k
theorem gIrem (W : Wk l Z EL own nm cd ml ret R ws h0 K sf T h cells slots) {x y z : Int32} (hd : decode cd pc = .ok (.irem, 1)) (hy : y ≠ 0) (hz : x % y = z) (hp : pc + 1 = pc') (k : Go K P T pc' ls (.int z :: st)) : Go K P T pc ls (.int y :: .int x :: st) := by
  obtain ⟨vm0, locs, k0, X, e, hx, ⟨hc, -⟩, -⟩ := W
  subst hp
  exact Go.stp (fun t r => iremM X hx rfl (hb hc hd) rfl hy <| hz ▸ r) k
theorem gIneg (W : Wk l Z EL own nm cd ml ret R ws h0 K sf T h cells slots) {x z : Int32} (hd : decode cd pc = .ok (.ineg, 1)) (hz : -x = z) (hp : pc + 1 = pc') (k : Go K P T pc' ls (.int z :: st)) : Go K P T pc ls (.int x :: st) := by
  obtain ⟨vm0, locs, k0, X, e, hx, ⟨hc, -⟩, -⟩ := W
  subst hp
  exact Go.stp (fun t r => XS.ineg X.here hx rfl (hb hc hd) rfl <| hz ▸ r) k
theorem gI2B (W : Wk l Z EL own nm cd ml ret R ws h0 K sf T h cells slots) {x z : Int32} (hd : decode cd pc = .ok (.i2b, 1)) (hz : x.toInt8.toInt32 = z) (hp : pc + 1 = pc') (k : Go K P T pc' ls (.int z :: st)) : Go K P T pc ls (.int x :: st) := by
  obtain ⟨vm0, locs, k0, X, e, hx, ⟨hc, -⟩, -⟩ := W
  subst hp
  exact Go.stp (fun t r => XS.i2b X.here hx rfl (hb hc hd) rfl <| hz ▸ r) k
theorem gI2C (W : Wk l Z EL own nm cd ml ret R ws h0 K sf T h cells slots) {x z : Int32} (hd : decode cd pc = .ok (.i2c, 1)) (hz : x.toUInt32.toUInt16.toUInt32.toInt32 = z) (hp : pc + 1 = pc') (k : Go K P T pc' ls (.int z :: st)) : Go K P T pc ls (.int x :: st) := by
  obtain ⟨vm0, locs, k0, X, e, hx, ⟨hc, -⟩, -⟩ := W
  subst hp
  exact Go.stp (fun t r => XS.i2c X.here hx rfl (hb hc hd) rfl <| hz ▸ r) k
theorem gI2S (W : Wk l Z EL own nm cd ml ret R ws h0 K sf T h cells slots) {x z : Int32} (hd : decode cd pc = .ok (.i2s, 1)) (hz : x.toInt16.toInt32 = z) (hp : pc + 1 = pc') (k : Go K P T pc' ls (.int z :: st)) : Go K P T pc ls (.int x :: st) := by
  obtain ⟨vm0, locs, k0, X, e, hx, ⟨hc, -⟩, -⟩ := W
  subst hp
  exact Go.stp (fun t r => XS.i2s X.here hx rfl (hb hc hd) rfl <| hz ▸ r) k
theorem gI2L (W : Wk l Z EL own nm cd ml ret R ws h0 K sf T h cells slots) {x : Int32} {z : Int64} (hd : decode cd pc = .ok (.i2l, 1)) (hz : x.toInt64 = z) (hp : pc + 1 = pc') (k : Go K P T pc' ls (.long z :: st)) : Go K P T pc ls (.int x :: st) := by
  obtain ⟨vm0, locs, k0, X, e, hx, ⟨hc, -⟩, -⟩ := W
  subst hp
  exact Go.stp (fun t r => XS.i2l X.here hx rfl (hb hc hd) rfl <| hz ▸ r) k
theorem gL2I (W : Wk l Z EL own nm cd ml ret R ws h0 K sf T h cells slots) {x : Int64} {z : Int32} (hd : decode cd pc = .ok (.l2i, 1)) (hz : x.toInt32 = z) (hp : pc + 1 = pc') (k : Go K P T pc' ls (.int z :: st)) : Go K P T pc ls (.long x :: st) := by
  obtain ⟨vm0, locs, k0, X, e, hx, ⟨hc, -⟩, -⟩ := W
  subst hp
  exact Go.stp (fun t r => XS.l2i X.here hx rfl (hb hc hd) rfl <| hz ▸ r) k
theorem gLadd (W : Wk l Z EL own nm cd ml ret R ws h0 K sf T h cells slots) {x y z : Int64} (hd : decode cd pc = .ok (.ladd, 1)) (hz : x + y = z) (hp : pc + 1 = pc') (k : Go K P T pc' ls (.long z :: st)) : Go K P T pc ls (.long y :: .long x :: st) := by
  obtain ⟨vm0, locs, k0, X, e, hx, ⟨hc, -⟩, -⟩ := W
  subst hp
  exact Go.stp (fun t r => XS.ladd X.here hx rfl (hb hc hd) rfl <| hz ▸ r) k
theorem gLsub (W : Wk l Z EL own nm cd ml ret R ws h0 K sf T h cells slots) {x y z : Int64} (hd : decode cd pc = .ok (.lsub, 1)) (hz : x - y = z) (hp : pc + 1 = pc') (k : Go K P T pc' ls (.long z :: st)) : Go K P T pc ls (.long y :: .long x :: st) := by
  obtain ⟨vm0, locs, k0, X, e, hx, ⟨hc, -⟩, -⟩ := W
  subst hp
  exact Go.stp (fun t r => XS.lsub X.here hx rfl (hb hc hd) rfl <| hz ▸ r) k
theorem gLmul (W : Wk l Z EL own nm cd ml ret R ws h0 K sf T h cells slots) {x y z : Int64} (hd : decode cd pc = .ok (.lmul, 1)) (hz : x * y = z) (hp : pc + 1 = pc') (k : Go K P T pc' ls (.long z :: st)) : Go K P T pc ls (.long y :: .long x :: st) := by
  obtain ⟨vm0, locs, k0, X, e, hx, ⟨hc, -⟩, -⟩ := W
  subst hp
  exact Go.stp (fun t r => XS.lmul X.here hx rfl (hb hc hd) rfl <| hz ▸ r) k
theorem gLand (W : Wk l Z EL own nm cd ml ret R ws h0 K sf T h cells slots) {x y z : Int64} (hd : decode cd pc = .ok (.land, 1)) (hz : x &&& y = z) (hp : pc + 1 = pc') (k : Go K P T pc' ls (.long z :: st)) : Go K P T pc ls (.long y :: .long x :: st) := by
  obtain ⟨vm0, locs, k0, X, e, hx, ⟨hc, -⟩, -⟩ := W
  subst hp
  exact Go.stp (fun t r => XS.land X.here hx rfl (hb hc hd) rfl <| hz ▸ r) k
theorem gLor (W : Wk l Z EL own nm cd ml ret R ws h0 K sf T h cells slots) {x y z : Int64} (hd : decode cd pc = .ok (.lor, 1)) (hz : x ||| y = z) (hp : pc + 1 = pc') (k : Go K P T pc' ls (.long z :: st)) : Go K P T pc ls (.long y :: .long x :: st) := by
  obtain ⟨vm0, locs, k0, X, e, hx, ⟨hc, -⟩, -⟩ := W
  subst hp
  exact Go.stp (fun t r => XS.lor X.here hx rfl (hb hc hd) rfl <| hz ▸ r) k
theorem gLxor (W : Wk l Z EL own nm cd ml ret R ws h0 K sf T h cells slots) {x y z : Int64} (hd : decode cd pc = .ok (.lxor, 1)) (hz : x ^^^ y = z) (hp : pc + 1 = pc') (k : Go K P T pc' ls (.long z :: st)) : Go K P T pc ls (.long y :: .long x :: st) := by
  obtain ⟨vm0, locs, k0, X, e, hx, ⟨hc, -⟩, -⟩ := W
  subst hp
  exact Go.stp (fun t r => XS.lxor X.here hx rfl (hb hc hd) rfl <| hz ▸ r) k
theorem gLshl (W : Wk l Z EL own nm cd ml ret R ws h0 K sf T h cells slots) {x z : Int64} {y : Int32} (hd : decode cd pc = .ok (.lshl, 1)) (hz : x <<< (y &&& 0x3f).toInt64 = z) (hp : pc + 1 = pc') (k : Go K P T pc' ls (.long z :: st)) : Go K P T pc ls (.int y :: .long x :: st) := by
  obtain ⟨vm0, locs, k0, X, e, hx, ⟨hc, -⟩, -⟩ := W
  subst hp
  exact Go.stp (fun t r => XS.lshl X.here hx rfl (hb hc hd) rfl <| hz ▸ r) k
theorem gLshr (W : Wk l Z EL own nm cd ml ret R ws h0 K sf T h cells slots) {x z : Int64} {y : Int32} (hd : decode cd pc = .ok (.lshr, 1)) (hz : x >>> (y &&& 0x3f).toInt64 = z) (hp : pc + 1 = pc') (k : Go K P T pc' ls (.long z :: st)) : Go K P T pc ls (.int y :: .long x :: st) := by
  obtain ⟨vm0, locs, k0, X, e, hx, ⟨hc, -⟩, -⟩ := W
  subst hp
  exact Go.stp (fun t r => XS.lshr X.here hx rfl (hb hc hd) rfl <| hz ▸ r) k
theorem gLushr (W : Wk l Z EL own nm cd ml ret R ws h0 K sf T h cells slots) {x z : Int64} {y : Int32} (hd : decode cd pc = .ok (.lushr, 1)) (hz : (x.toUInt64 >>> (y &&& 0x3f).toInt64.toUInt64).toInt64 = z) (hp : pc + 1 = pc') (k : Go K P T pc' ls (.long z :: st)) : Go K P T pc ls (.int y :: .long x :: st) := by
  obtain ⟨vm0, locs, k0, X, e, hx, ⟨hc, -⟩, -⟩ := W
  subst hp
  exact Go.stp (fun t r => XS.lushr X.here hx rfl (hb hc hd) rfl <| hz ▸ r) k
theorem gLcmp (W : Wk l Z EL own nm cd ml ret R ws h0 K sf T h cells slots) {x y : Int64} {z : Int32} (hd : decode cd pc = .ok (.lcmp, 1)) (hz : lcmpW x y = z) (hp : pc + 1 = pc') (k : Go K P T pc' ls (.int z :: st)) : Go K P T pc ls (.long y :: .long x :: st) := by
  obtain ⟨vm0, locs, k0, X, e, hx, ⟨hc, -⟩, -⟩ := W
  subst hp
  exact Go.stp (fun t r => XS.lcmp X.here hx rfl (hb hc hd) rfl (by subst hz; exact r)) k
theorem gDup (W : Wk l Z EL own nm cd ml ret R ws h0 K sf T h cells slots) {x : Value} (hd : decode cd pc = .ok (.dup, 1)) (hc1 : x.category = 1) (hp : pc + 1 = pc') (k : Go K P T pc' ls (x :: x :: st)) : Go K P T pc ls (x :: st) := by
  obtain ⟨vm0, locs, k0, X, e, hx, ⟨hc, -⟩, -⟩ := W
  subst hp
  exact Go.stp (fun t r => XS.dup X.here hx rfl (hb hc hd) rfl hc1 r) k
theorem gPop (W : Wk l Z EL own nm cd ml ret R ws h0 K sf T h cells slots) {x : Value} (hd : decode cd pc = .ok (.pop, 1)) (hc1 : x.category = 1) (hp : pc + 1 = pc') (k : Go K P T pc' ls st) : Go K P T pc ls (x :: st) := by
  obtain ⟨vm0, locs, k0, X, e, hx, ⟨hc, -⟩, -⟩ := W
  subst hp
  exact Go.stp (fun t r => XS.pop X.here hx rfl (hb hc hd) rfl hc1 r) k
theorem gIstoreN (W : Wk l Z EL own nm cd ml ret R ws h0 K sf T h cells slots) {i : Fin 4} {x : Int32} {ls' : Array Slot} (hd : decode cd pc = .ok (.istore_n i, 1)) (hl : storeLocals ls i.val (.int x) = some ls') (hp : pc + 1 = pc') (k : Go K P T pc' ls' st) : Go K P T pc ls (.int x :: st) := by
  obtain ⟨vm0, locs, k0, X, e, hx, ⟨hc, -⟩, -⟩ := W
  subst hp
  exact Go.stp (fun t r => XS.istoreN X.here hx rfl (hb hc hd) rfl hl r) k
theorem gIstore (W : Wk l Z EL own nm cd ml ret R ws h0 K sf T h cells slots) {i : Nat} {x : Int32} {ls' : Array Slot} (hd : decode cd pc = .ok (.istore i, 2)) (hl : storeLocals ls i (.int x) = some ls') (hp : pc + 2 = pc') (k : Go K P T pc' ls' st) : Go K P T pc ls (.int x :: st) := by
  obtain ⟨vm0, locs, k0, X, e, hx, ⟨hc, -⟩, -⟩ := W
  subst hp
  exact Go.stp (fun t r => XS.istore X.here hx rfl (hb hc hd) rfl hl r) k
theorem gAstoreN (W : Wk l Z EL own nm cd ml ret R ws h0 K sf T h cells slots) {i : Fin 4} {x : Value} {ls' : Array Slot} (hd : decode cd pc = .ok (.astore_n i, 1)) (hv : x.isRef = true) (hl : storeLocals ls i.val x = some ls') (hp : pc + 1 = pc') (k : Go K P T pc' ls' st) : Go K P T pc ls (x :: st) := by
  obtain ⟨vm0, locs, k0, X, e, hx, ⟨hc, -⟩, -⟩ := W
  subst hp
  exact Go.stp (fun t r => XS.astoreN X.here hx rfl (hb hc hd) rfl hv hl r) k
theorem gAstore (W : Wk l Z EL own nm cd ml ret R ws h0 K sf T h cells slots) {i : Nat} {x : Value} {ls' : Array Slot} (hd : decode cd pc = .ok (.astore i, 2)) (hv : x.isRef = true) (hl : storeLocals ls i x = some ls') (hp : pc + 2 = pc') (k : Go K P T pc' ls' st) : Go K P T pc ls (x :: st) := by
  obtain ⟨vm0, locs, k0, X, e, hx, ⟨hc, -⟩, -⟩ := W
  subst hp
  exact Go.stp (fun t r => XS.astore X.here hx rfl (hb hc hd) rfl hv hl r) k
theorem gLstoreN (W : Wk l Z EL own nm cd ml ret R ws h0 K sf T h cells slots) {i : Fin 4} {x : Int64} {ls' : Array Slot} (hd : decode cd pc = .ok (.lstore_n i, 1)) (hl : storeLocals ls i.val (.long x) = some ls') (hp : pc + 1 = pc') (k : Go K P T pc' ls' st) : Go K P T pc ls (.long x :: st) := by
  obtain ⟨vm0, locs, k0, X, e, hx, ⟨hc, -⟩, -⟩ := W
  subst hp
  exact Go.stp (fun t r => XS.lstoreN X.here hx rfl (hb hc hd) rfl hl r) k
theorem gLstore (W : Wk l Z EL own nm cd ml ret R ws h0 K sf T h cells slots) {i : Nat} {x : Int64} {ls' : Array Slot} (hd : decode cd pc = .ok (.lstore i, 2)) (hl : storeLocals ls i (.long x) = some ls') (hp : pc + 2 = pc') (k : Go K P T pc' ls' st) : Go K P T pc ls (.long x :: st) := by
  obtain ⟨vm0, locs, k0, X, e, hx, ⟨hc, -⟩, -⟩ := W
  subst hp
  exact Go.stp (fun t r => XS.lstore X.here hx rfl (hb hc hd) rfl hl r) k
theorem gIinc (W : Wk l Z EL own nm cd ml ret R ws h0 K sf T h cells slots) {i : Nat} {c0 : Int} {x z : Int32} {ls' : Array Slot} (hd : decode cd pc = .ok (.iinc i c0, 3)) (hl : ls[i]? = some (.val (.int x))) (hz : x + Int32.ofInt c0 = z) (hl2 : storeLocals ls i (.int z) = some ls') (hp : pc + 3 = pc') (k : Go K P T pc' ls' st) : Go K P T pc ls st := by
  obtain ⟨vm0, locs, k0, X, e, hx, ⟨hc, -⟩, -⟩ := W
  subst hp
  exact Go.stp (fun t r => XS.iinc X.here hx rfl (hb hc hd) hl (hz ▸ hl2) r) k
theorem gGoto (W : Wk l Z EL own nm cd ml ret R ws h0 K sf T h cells slots) {o : Int} (hd : decode cd pc = .ok (.goto o, 3)) (ho : 0 ≤ (pc : Int) + o) (hp : ((pc : Int) + o).toNat = pc') (k : Go K P T pc' ls st) : Go K P T pc ls st := by
  obtain ⟨vm0, locs, k0, X, e, hx, ⟨hc, -⟩, -⟩ := W
  exact Go.stp (fun t r => XS.goto X.here hx rfl (pc0 := pc) rfl (hb hc hd) ho hp r) k
theorem gIfYes (W : Wk l Z EL own nm cd ml ret R ws h0 K sf T h cells slots) {cn : ClassFile.Cond} {o : Int} {x : Int32} (hd : decode cd pc = .ok (.ifCond cn o, 3)) (hq : ifCond.holds cn x = true) (ho : 0 ≤ (pc : Int) + o) (hp : ((pc : Int) + o).toNat = pc') (k : Go K P T pc' ls st) : Go K P T pc ls (.int x :: st) := by
  obtain ⟨vm0, locs, k0, X, e, hx, ⟨hc, -⟩, -⟩ := W
  exact Go.stp (fun t r => XS.ifYes X.here hx rfl (pc0 := pc) rfl (hb hc hd) rfl hq ho hp r) k
theorem gIfNo (W : Wk l Z EL own nm cd ml ret R ws h0 K sf T h cells slots) {cn : ClassFile.Cond} {o : Int} {x : Int32} (hd : decode cd pc = .ok (.ifCond cn o, 3)) (hq : ifCond.holds cn x = false) (hp : pc + 3 = pc') (k : Go K P T pc' ls st) : Go K P T pc ls (.int x :: st) := by
  obtain ⟨vm0, locs, k0, X, e, hx, ⟨hc, -⟩, -⟩ := W
  subst hp
  exact Go.stp (fun t r => XS.ifNo X.here hx rfl (hb hc hd) rfl hq r) k
theorem gIcmpYes (W : Wk l Z EL own nm cd ml ret R ws h0 K sf T h cells slots) {cn : ClassFile.Cond} {o : Int} {x y : Int32} (hd : decode cd pc = .ok (.if_icmp cn o, 3)) (hq : if_icmp.holds cn x y = true) (ho : 0 ≤ (pc : Int) + o) (hp : ((pc : Int) + o).toNat = pc') (k : Go K P T pc' ls st) : Go K P T pc ls (.int y :: .int x :: st) := by
  obtain ⟨vm0, locs, k0, X, e, hx, ⟨hc, -⟩, -⟩ := W
  exact Go.stp (fun t r => XS.icmpYes X.here hx rfl (pc0 := pc) rfl (hb hc hd) rfl hq ho hp r) k
theorem gIcmpNo (W : Wk l Z EL own nm cd ml ret R ws h0 K sf T h cells slots) {cn : ClassFile.Cond} {o : Int} {x y : Int32} (hd : decode cd pc = .ok (.if_icmp cn o, 3)) (hq : if_icmp.holds cn x y = false) (hp : pc + 3 = pc') (k : Go K P T pc' ls st) : Go K P T pc ls (.int y :: .int x :: st) := by
  obtain ⟨vm0, locs, k0, X, e, hx, ⟨hc, -⟩, -⟩ := W
  subst hp
  exact Go.stp (fun t r => XS.icmpNo X.here hx rfl (hb hc hd) rfl hq r) k
theorem gIfnullYes (W : Wk l Z EL own nm cd ml ret R ws h0 K sf T h cells slots) {o : Int} (hd : decode cd pc = .ok (.ifnull o, 3)) (ho : 0 ≤ (pc : Int) + o) (hp : ((pc : Int) + o).toNat = pc') (k : Go K P T pc' ls st) : Go K P T pc ls (.null :: st) := by
  obtain ⟨vm0, locs, k0, X, e, hx, ⟨hc, -⟩, -⟩ := W
  exact Go.stp (fun t r => XS.ifnullYes X.here hx rfl (pc0 := pc) rfl (hb hc hd) rfl ho hp r) k
theorem gIfnullNo (W : Wk l Z EL own nm cd ml ret R ws h0 K sf T h cells slots) {o : Int} {b : Addr} (hd : decode cd pc = .ok (.ifnull o, 3))  (hp : pc + 3 = pc') (k : Go K P T pc' ls st) : Go K P T pc ls (.ref b :: st) := by
  obtain ⟨vm0, locs, k0, X, e, hx, ⟨hc, -⟩, -⟩ := W
  subst hp
  exact Go.stp (fun t r => XS.ifnullNo X.here hx rfl (hb hc hd) rfl r) k
theorem gIfnonnullYes (W : Wk l Z EL own nm cd ml ret R ws h0 K sf T h cells slots) {o : Int} {b : Addr} (hd : decode cd pc = .ok (.ifnonnull o, 3)) (ho : 0 ≤ (pc : Int) + o) (hp : ((pc : Int) + o).toNat = pc') (k : Go K P T pc' ls st) : Go K P T pc ls (.ref b :: st) := by
  obtain ⟨vm0, locs, k0, X, e, hx, ⟨hc, -⟩, -⟩ := W
  exact Go.stp (fun t r => XS.ifnonnullYes X.here hx rfl (pc0 := pc) rfl (hb hc hd) rfl ho hp r) k
theorem gIfnonnullNo (W : Wk l Z EL own nm cd ml ret R ws h0 K sf T h cells slots) {o : Int} (hd : decode cd pc = .ok (.ifnonnull o, 3))  (hp : pc + 3 = pc') (k : Go K P T pc' ls st) : Go K P T pc ls (.null :: st) := by
  obtain ⟨vm0, locs, k0, X, e, hx, ⟨hc, -⟩, -⟩ := W
  subst hp
  exact Go.stp (fun t r => XS.ifnonnullNo X.here hx rfl (hb hc hd) rfl r) k
theorem gAcmp (W : Wk l Z EL own nm cd ml ret R ws h0 K sf T h cells slots) {cn : ACond} {o : Int} {x y : Value} {same : Bool} (hd : decode cd pc = .ok (.if_acmp cn o, 3)) (h1 : x.isRef = true) (h2 : y.isRef = true) (hq : decide (x = y) = same) (ho : 0 ≤ (pc : Int) + o) (hp : pc' = if acV cn same = true then ((pc : Int) + o).toNat else pc + 3) (k : Go K P T pc' ls st) : Go K P T pc ls (y :: x :: st) := by
  obtain ⟨vm0, locs, k0, X, e, hx, ⟨hc, -⟩, -⟩ := W
  exact Go.stp (fun t r => acmp X hx rfl h1 h2 (pc0 := pc) rfl (hb hc hd) rfl hq ho hp r) k
end Pure
section Laws
variable {l : Launch} {Z : State} {EL : List (String × Nat)} {own nm : String} {cd : ByteArray} {ml : Nat} {ret : Option FieldType} {R : Room} {ws : List Addr} {h0 : Heap} {K : Cx} {sf : List Addr} {T : State} {h h' : Heap} {cells slots : Nat} {P : Outcome → State → Prop} {pc pc' : Nat} {ls : Array Slot} {st : List Value} {a0 : Array Value}
/-- getfield -/
theorem wGetF (W : Wk l Z EL own nm cd ml ret R ws h0 K sf T h cells slots) {R0 O n d : String} {index : Nat} (hd : decode cd pc = .ok (.getfield index, 3)) (w : (Cond.fieldLink own index R0 n d).before a0 Z = true) (via : Via Z R0 O n d) {a : Addr} {v : Value} (F : Fld Z h a O n d v) (hp : pc + 3 = pc')
    (k : ∀ T', Wk l Z EL own nm cd ml ret R ws h0 K sf T' h cells slots → Go K P T' pc' ls (v :: st)) : Go K P T pc ls (.ref a :: st) := by
  obtain ⟨vm0, locs, k0, X, e, hx, hc, e0, hZ, hown, r⟩ := W
  subst hp
  obtain ⟨T', X', e', f⟩ := getF X hx hZ hown (host := "") (Or.inl w) via e F (g := mkF K.2.2.2.1 pc ls (.ref a :: st)) rfl rfl (hb hc.1 hd)
  exact Go.stp f (k T' ⟨vm0, locs, k0, X', e', hx, hc, e0, hZ, hown, r⟩)
/-- getstatic, of a static that stands as at the law's start -/
theorem wGetS (W : Wk l Z EL own nm cd ml ret R ws h0 K sf T h cells slots) {R0 O n d : String} {index : Nat} (hd : decode cd pc = .ok (.getstatic index, 3)) (w : (Cond.fieldLink own index R0 n d).before a0 Z = true) (via : Via Z R0 O n d) {v : Value} (F : Sta Z Z.heap O n d v) (hp : pc + 3 = pc')
    (k : ∀ T', Wk l Z EL own nm cd ml ret R ws h0 K sf T' h cells slots → Go K P T' pc' ls (v :: st)) : Go K P T pc ls st := by
  have hO := W.old
  obtain ⟨vm0, locs, k0, X, e, hx, hc, e0, hZ, hown, r⟩ := W
  subst hp
  obtain ⟨T', X', e', f⟩ := getS X hx hZ hown w via (host := "") e (Sta.ext hO.2 F) (g := mkF K.2.2.2.1 pc ls st) rfl (hb hc.1 hd)
  exact Go.stp f (k T' ⟨vm0, locs, k0, X', e', hx, hc, e0, hZ, hown, r⟩)
/-- checkcast that holds -/
theorem wCast (W : Wk l Z EL own nm cd ml ret R ws h0 K sf T h cells slots) {C : String} {index : Nat} (hd : decode cd pc = .ok (.checkcast index, 3)) (w : (Cond.classLink own index C).before a0 Z = true) {a : Addr} (F : Ins Z h a C true) (hp : pc + 3 = pc')
    (k : ∀ T', Wk l Z EL own nm cd ml ret R ws h0 K sf T' h cells slots → Go K P T' pc' ls (.ref a :: st)) : Go K P T pc ls (.ref a :: st) := by
  obtain ⟨vm0, locs, k0, X, e, hx, hc, e0, hZ, hown, r⟩ := W
  subst hp
  obtain ⟨T', X', e', f⟩ := castY X hx hZ hown w e F (g := mkF K.2.2.2.1 pc ls (.ref a :: st)) rfl rfl (hb hc.1 hd)
  exact Go.stp f (k T' ⟨vm0, locs, k0, X', e', hx, hc, e0, hZ, hown, r⟩)
/-- instanceof that holds -/
theorem wInst (W : Wk l Z EL own nm cd ml ret R ws h0 K sf T h cells slots) {C : String} {index : Nat} (hd : decode cd pc = .ok (.instanceof index, 3)) (w : (Cond.classLink own index C).before a0 Z = true) {a : Addr} (F : Ins Z h a C true) (hp : pc + 3 = pc')
    (k : ∀ T', Wk l Z EL own nm cd ml ret R ws h0 K sf T' h cells slots → Go K P T' pc' ls (.int 1 :: st)) : Go K P T pc ls (.ref a :: st) := by
  obtain ⟨vm0, locs, k0, X, e, hx, hc, e0, hZ, hown, r⟩ := W
  subst hp
  obtain ⟨T', X', e', f⟩ := instY X hx hZ hown w e F (g := mkF K.2.2.2.1 pc ls (.ref a :: st)) rfl rfl (hb hc.1 hd)
  exact Go.stp f (k T' ⟨vm0, locs, k0, X', e', hx, hc, e0, hZ, hown, r⟩)
theorem wExt {vm0 : Vm} {s : State} (hC : CHr Z EL s.vm h0 vm0 h) (hs : ∀ x ∈ sf, Safe Z EL vm0 h x ∧ x < h.size ∧ (x ∈ ws ∨ h0.size ≤ x)) (E : Ext h h') :
    CHr Z EL s.vm h0 vm0 h' ∧ ∀ x ∈ sf, Safe Z EL vm0 h' x ∧ x < h'.size ∧ (x ∈ ws ∨ h0.size ≤ x) :=
  ⟨hC.trans (CHr.ext E hC.1), fun x q => ⟨Safe.ext E hC.1 (hs x q).1, Nat.lt_of_lt_of_le (hs x q).2.1 E.1, (hs x q).2.2⟩⟩
/-- new -/
theorem wNewO (W : Wk l Z EL own nm cd ml ret R ws h0 K sf T h cells slots) {C : String} {index n : Nat} (hd : decode cd pc = .ok (.new index, 3)) (w : (Cond.classLink own index C).before a0 Z = true) (wi : (Cond.instantiable C n).before a0 Z = true) (wz : (Cond.initialized C).before a0 Z = true) (hc' : cells + 1 ≤ R.cells) (hl : slots + n ≤ R.slots) (hp : pc + 3 = pc')
    (k : ∀ T' h' a, Wk l Z EL own nm cd ml ret R ws h0 K (a :: sf) T' h' (cells + 1) (slots + n) → Ext h h' → a = h.size → Exa Z h' a C → (∀ {O nm d : String} {ty : FieldType}, Laid Z a0 C O nm d → parseFieldDescriptor d = some ty → Fld Z h' a O nm d (defaultValue ty)) → Go K P T' pc' ls (.ref a :: st)) : Go K P T pc ls st := by
  have hg := W.grow
  obtain ⟨vm0, locs, k0, X, e, hx, hc, e0, hZ, hown, hS, hk, hL, hC, hO, hE, hw, hz, hs⟩ := W
  subst hp
  obtain ⟨T', h', X', e', E, A, D, -, f⟩ := newO X hx hZ hown w wi wz e (g := mkF K.2.2.2.1 pc ls st) rfl (hb hc.1 hd) hc' hl
  obtain ⟨hC', hs'⟩ := wExt (s := K.2.2.1) hC hs E
  refine Go.stp f (k T' h' h.size ⟨vm0, locs, k0, X', e', hx, hc, e0, hZ, hown, hS, Nat.le_trans hk E.1, hL, hC', hO.ext E, hE, hw, hz, fun x q => ?_⟩ E rfl A D)
  rcases List.mem_cons.mp q with rfl | q
  · exact ⟨Safe.ext E hC.1 (Safe.new (Nat.le_refl _)), A.lt, Or.inr hg⟩
  · exact hs' x q
/-- newarray -/
theorem wNewP (W : Wk l Z EL own nm cd ml ret R ws h0 K sf T h cells slots) {aty : ArrayType} (hd : decode cd pc = .ok (.newarray aty, 2)) (w : (Cond.arrayClass (newarray.typeOf aty)).before a0 Z = true) {n : Int32} (hn : ¬ n < 0) {cap : Nat} (hcap : n.toNatClampNeg ≤ cap) (hbig : cap * 8 ≤ 536870912) (hc' : cells + 1 ≤ R.cells) (hl : slots + cap ≤ R.slots) (hp : pc + 2 = pc')
    (k : ∀ T' h' a cA, Wk l Z EL own nm cd ml ret R ws h0 K (a :: sf) T' h' (cells + 1) (slots + cap) → Ext h h' → a = h.size → (∀ m : Nat, Arv Z h' a cA (newarray.typeOf aty) n (List.replicate m (defaultValue (newarray.typeOf aty))) (defaultValue (newarray.typeOf aty))) → Go K P T' pc' ls (.ref a :: st)) : Go K P T pc ls (.int n :: st) := by
  have hg := W.grow
  obtain ⟨vm0, locs, k0, X, e, hx, hc, e0, hZ, hown, hS, hk, hL, hC, hO, hE, hw, hz, hs⟩ := W
  subst hp
  obtain ⟨T', h', cA, X', e', E, A, f⟩ := newP X hx hZ w e (g := mkF K.2.2.2.1 pc ls (.int n :: st)) rfl (hb hc.1 hd) rfl hn hcap hbig hc' hl
  obtain ⟨hC', hs'⟩ := wExt (s := K.2.2.1) hC hs E
  have F := Arv.new A hn
  refine Go.stp f (k T' h' h.size cA ⟨vm0, locs, k0, X', e', hx, hc, e0, hZ, hown, hS, Nat.le_trans hk E.1, hL, hC', hO.ext E, hE, hw, hz, fun x q => ?_⟩ E rfl (fun m => F.pad (pad_rep [] _ m)))
  rcases List.mem_cons.mp q with rfl | q
  · exact ⟨Safe.ext E hC.1 (Safe.new (Nat.le_refl _)), A.lt, Or.inr hg⟩
  · exact hs' x q
/-- anewarray -/
theorem wNewR (W : Wk l Z EL own nm cd ml ret R ws h0 K sf T h cells slots) {C : String} {index : Nat} (hd : decode cd pc = .ok (.anewarray index, 3)) (w : (Cond.classLink own index C).before a0 Z = true) (w2 : (Cond.arrayOver (.object C)).before a0 Z = true) {n : Int32} (hn : ¬ n < 0) {cap : Nat} (hcap : n.toNatClampNeg ≤ cap) (hbig : cap * 8 ≤ 536870912) (hc' : cells + 1 ≤ R.cells) (hl : slots + cap ≤ R.slots) (hp : pc + 3 = pc')
    (k : ∀ T' h' a cA, Wk l Z EL own nm cd ml ret R ws h0 K (a :: sf) T' h' (cells + 1) (slots + cap) → Ext h h' → a = h.size → (∀ m : Nat, Arv Z h' a cA (.object C) n (List.replicate m .null) .null) → Ovr Z cA C → Go K P T' pc' ls (.ref a :: st)) : Go K P T pc ls (.int n :: st) := by
  have hg := W.grow
  obtain ⟨vm0, locs, k0, X, e, hx, hc, e0, hZ, hown, hS, hk, hL, hC, hO, hE, hw, hz, hs⟩ := W
  subst hp
  obtain ⟨T', h', cA, X', e', E, A, Ov, f⟩ := newR X hx hZ hown w w2 e (g := mkF K.2.2.2.1 pc ls (.int n :: st)) rfl (hb hc.1 hd) rfl hn hcap hbig hc' hl
  obtain ⟨hC', hs'⟩ := wExt (s := K.2.2.1) hC hs E
  have F := Arv.new A hn
  refine Go.stp f (k T' h' h.size cA ⟨vm0, locs, k0, X', e', hx, hc, e0, hZ, hown, hS, Nat.le_trans hk E.1, hL, hC', hO.ext E, hE, hw, hz, fun x q => ?_⟩ E rfl (fun m => F.pad (pad_rep [] _ m)) Ov)
  rcases List.mem_cons.mp q with rfl | q
  · exact ⟨Safe.ext E hC.1 (Safe.new (Nat.le_refl _)), A.lt, Or.inr hg⟩
  · exact hs' x q
theorem wWr {vm0 : Vm} {s : State} {a : Addr} {sl : Nat} {v : Value} {locs : List Loc} (hC : CHr Z EL s.vm h0 vm0 h) (hs : ∀ x ∈ sf, Safe Z EL vm0 h x ∧ x < h.size ∧ (x ∈ ws ∨ h0.size ≤ x)) (hL : ∀ x ∈ locs, x.base ∈ ws ∨ h0.size ≤ x.base) (hO : Old Z Z.heap.size h) (hw : ∀ x ∈ ws, Z.heap.size ≤ x) (hz : Z.heap.size ≤ h0.size) (ha : a ∈ sf) (Wr' : Wr h h' a sl v) :
    CHr Z EL s.vm h0 vm0 h' ∧ (∀ x ∈ sf, Safe Z EL vm0 h' x ∧ x < h'.size ∧ (x ∈ ws ∨ h0.size ≤ x)) ∧ (∀ x ∈ locs ++ [⟨a, sl⟩], x.base ∈ ws ∨ h0.size ≤ x.base) ∧ Old Z Z.heap.size h' := by
  obtain ⟨s1, s2, s3⟩ := hs a ha
  refine ⟨hC.trans (CHr.wr Wr' s1 hC.1), fun x q => ⟨Safe.wr Wr' s1 hC.1 (hs x q).1, by rw [Wr'.size]; exact (hs x q).2.1, (hs x q).2.2⟩, fun x q => ?_, hO.wr Wr' ?_⟩
  · rcases List.mem_append.mp q with q | q
    · exact hL x q
    · cases List.mem_singleton.mp q; exact s3
  · rcases s3 with z | z
    · exact hw a z
    · exact Nat.le_trans hz z
/-- putfield -/
theorem wPutF (W : Wk l Z EL own nm cd ml ret R ws h0 K sf T h cells slots) {R0 O n d C : String} {index kk : Nat} {ty : FieldType} (hd : decode cd pc = .ok (.putfield index, 3)) (w : (Cond.fieldLink own index R0 n d).before a0 Z = true) (via : Via Z R0 O n d) {a : Addr} {v old : Value} (ha : a ∈ sf) (F : Fld Z h a O n d old) (E : Exa Z h a C)
    (L : (Cond.lays C O n d).before a0 Z = true ∨ ((Cond.laysFinal C O n d).before a0 Z = true ∧ own = O ∧ nm = "<init>")) (wi : (Cond.instantiable C kk).before a0 Z = true) (hty : parseFieldDescriptor d = some ty) (hn : narrow ty v = v) (hf : fits ty v = true) (hp : pc + 3 = pc')
    (k : ∀ T' h', Wk l Z EL own nm cd ml ret R ws h0 K sf T' h' cells slots → Wr h h' a (Jvm.RoadKit.slotOf Z O n d) v → Go K P T' pc' ls st) : Go K P T pc ls (v :: .ref a :: st) := by
  obtain ⟨vm0, locs, k0, X, e, hx, hc, e0, hZ, hown, hS, hk, hL, hC, hO, hE, hw, hz, hs⟩ := W
  subst hp
  obtain ⟨T', h', X', e', Wr', f⟩ := putF X hx hZ hown (host := "") (Or.inl w) via e F E (L.imp id fun q => ⟨q.1, q.2.1, hc.2.2.2.2.trans q.2.2⟩) wi hty hn hf (g := mkF K.2.2.2.1 pc ls (v :: .ref a :: st)) rfl rfl (hb hc.1 hd)
  obtain ⟨hC', hs', hL', hO'⟩ := wWr (s := K.2.2.1) hC hs hL hO hw hz ha Wr'
  exact Go.stp f (k T' h' ⟨vm0, _, k0, X', e', hx, hc, e0, hZ, hown, hS, by rw [Wr'.size]; exact hk, hL', hC', hO', hE, hw, hz, hs'⟩ Wr')
/-- castore -/
theorem wStC (W : Wk l Z EL own nm cd ml ret R ws h0 K sf T h cells slots) (hd : decode cd pc = .ok (.castore, 1)) {a : Addr} (ha : a ∈ sf) {kA : ClassId} {z j x y : Int32} {vs : List Value} {dv : Value} (A : Arv Z h a kA .char z vs dv) (hj : ¬ j < 0 ∧ j < z) (hy : nar .char x = y) (i : Nat) (hi : j.toNatClampNeg = i) (hil : i < vs.length) (hp : pc + 1 = pc')
    (k : ∀ T' h', Wk l Z EL own nm cd ml ret R ws h0 K sf T' h' cells slots → Wr h h' a j.toNatClampNeg (.int y) → Arv Z h' a kA .char z (vs.set i (.int y)) dv → Go K P T' pc' ls st) : Go K P T pc ls (.int x :: .int j :: .ref a :: st) := by
  obtain ⟨vm0, locs, k0, X, e, hx, hc, e0, hZ, hown, hS, hk, hL, hC, hO, hE, hw, hz, hs⟩ := W
  subst hp hy
  obtain ⟨cl, A1, A2, A3, A4, A5, A6⟩ := A
  obtain ⟨T', h', X', e', Wr', f⟩ := stC X hx hZ e A1 (inb_of A3 hj) (g := mkF K.2.2.2.1 pc ls (.int x :: .int j :: .ref a :: st)) rfl rfl (hb hc.1 hd)
  obtain ⟨hC', hs', hL', hO'⟩ := wWr (s := K.2.2.1) hC hs hL hO hw hz ha Wr'
  exact Go.stp f (k T' h' ⟨vm0, _, k0, X', e', hx, hc, e0, hZ, hown, hS, by rw [Wr'.size]; exact hk, hL', hC', hO', hE, hw, hz, hs'⟩ Wr' (Arv.set A1 A2 A3 A4 A5 A6 (fits_nar_char x) Wr' i hi hil))
/-- bastore into a byte[] -/
theorem wStB (W : Wk l Z EL own nm cd ml ret R ws h0 K sf T h cells slots) (hd : decode cd pc = .ok (.bastore, 1)) {a : Addr} (ha : a ∈ sf) {kA : ClassId} {z j x y : Int32} {vs : List Value} {dv : Value} (A : Arv Z h a kA .byte z vs dv) (hj : ¬ j < 0 ∧ j < z) (hy : x.toInt8.toInt32 = y) (i : Nat) (hi : j.toNatClampNeg = i) (hil : i < vs.length) (hp : pc + 1 = pc')
    (k : ∀ T' h', Wk l Z EL own nm cd ml ret R ws h0 K sf T' h' cells slots → Wr h h' a j.toNatClampNeg (.int y) → Arv Z h' a kA .byte z (vs.set i (.int y)) dv → Go K P T' pc' ls st) : Go K P T pc ls (.int x :: .int j :: .ref a :: st) := by
  obtain ⟨vm0, locs, k0, X, e, hx, hc, e0, hZ, hown, hS, hk, hL, hC, hO, hE, hw, hz, hs⟩ := W
  subst hp hy
  obtain ⟨cl, A1, A2, A3, A4, A5, A6⟩ := A
  obtain ⟨T', h', X', e', Wr', f⟩ := stB X hx hZ e A1 (inb_of A3 hj) (g := mkF K.2.2.2.1 pc ls (.int x :: .int j :: .ref a :: st)) rfl rfl (hb hc.1 hd)
  obtain ⟨hC', hs', hL', hO'⟩ := wWr (s := K.2.2.1) hC hs hL hO hw hz ha Wr'
  exact Go.stp f (k T' h' ⟨vm0, _, k0, X', e', hx, hc, e0, hZ, hown, hS, by rw [Wr'.size]; exact hk, hL', hC', hO', hE, hw, hz, hs'⟩ Wr' (Arv.set A1 A2 A3 A4 A5 A6 (fits_nar_byte x) Wr' i hi hil))
/-- arraylength -/
theorem wLen (W : Wk l Z EL own nm cd ml ret R ws h0 K sf T h cells slots) (hd : decode cd pc = .ok (.arraylength, 1)) {a : Addr} {kA : ClassId} {ty : FieldType} {z : Int32} {vs : List Value} {dv : Value} (A : Arv Z h a kA ty z vs dv) (hp : pc + 1 = pc')
    (k : Go K P T pc' ls (.int z :: st)) : Go K P T pc ls (.ref a :: st) := by
  obtain ⟨vm0, locs, k0, X, e, hx, hc, e0, hZ, r⟩ := W
  subst hp
  obtain ⟨cl, A1, A2, A3, A4, -⟩ := A
  refine Go.stp (fun t q => ?_) k
  have ez : cl.slots.size.toInt32 = z := len_of A3 A4
  exact X.arraylength hx (by rw [e]; exact A1.1) (State.isArrayOf_alike hZ.alike A1.2.1) (g := mkF K.2.2.2.1 pc ls (.ref a :: st)) rfl rfl (hb hc.1 hd) _ (by rw [ez]; exact q)
/-- caload -/
theorem wLdC (W : Wk l Z EL own nm cd ml ret R ws h0 K sf T h cells slots) (hd : decode cd pc = .ok (.caload, 1)) {a : Addr} {kA : ClassId} {z j : Int32} {vs : List Value} {v dv : Value} (A : Arv Z h a kA .char z vs dv) (hj : ¬ j < 0 ∧ j < z) (hv : vs.getD j.toNatClampNeg dv = v) (hp : pc + 1 = pc')
    (k : Go K P T pc' ls (v :: st)) : Go K P T pc ls (.int j :: .ref a :: st) := by
  obtain ⟨vm0, locs, k0, X, e, hx, hc, e0, hZ, r⟩ := W
  subst hp
  obtain ⟨cl, A1, A2, A3, A4, A5, -⟩ := A
  exact Go.stp (fun t q => X.caload hx (by rw [e]; exact A1.1) (State.isArrayOf_alike hZ.alike A1.2.1) A1.2.2 (inb_of A3 hj) (A5.at (inb_of A3 hj) hv) (g := mkF K.2.2.2.1 pc ls (.int j :: .ref a :: st)) rfl rfl (hb hc.1 hd) _ q) k
/-- baload of a byte[] -/
theorem wLdB (W : Wk l Z EL own nm cd ml ret R ws h0 K sf T h cells slots) (hd : decode cd pc = .ok (.baload, 1)) {a : Addr} {kA : ClassId} {z j : Int32} {vs : List Value} {v dv : Value} (A : Arv Z h a kA .byte z vs dv) (hj : ¬ j < 0 ∧ j < z) (hv : vs.getD j.toNatClampNeg dv = v) (hp : pc + 1 = pc')
    (k : Go K P T pc' ls (v :: st)) : Go K P T pc ls (.int j :: .ref a :: st) := by
  obtain ⟨vm0, locs, k0, X, e, hx, hc, e0, hZ, r⟩ := W
  subst hp
  obtain ⟨cl, A1, A2, A3, A4, A5, -⟩ := A
  exact Go.stp (fun t q => X.baloadBytes hx (by rw [e]; exact A1.1) (State.isArrayOf_alike hZ.alike A1.2.1) A1.2.2 (inb_of A3 hj) (A5.at (inb_of A3 hj) hv) (g := mkF K.2.2.2.1 pc ls (.int j :: .ref a :: st)) rfl rfl (hb hc.1 hd) _ q) k
/-- Object.<init> -/
theorem wInitO (W : Wk l Z EL own nm cd ml ret R ws h0 K sf T h cells slots) {index : Nat} (hd : decode cd pc = .ok (.invokespecial index, 3)) (w1 : (Cond.methodLink own index Lib.objectInit).before a0 Z = true) (w2 : (Cond.instanceMethod Lib.objectInit).before a0 Z = true) (w3 : (Cond.code Lib.objectInit ⟨#[0xb1]⟩ 1 none).before a0 Z = true) {a : Addr} (hsz : ls.size = ml) (hf : 1 ≤ R.frames) (Wd : Nat) (hW : (st.map fun v => v.category).sum ≤ Wd) (hl : Wd + 12 ≤ R.locals) (hp : pc + 3 = pc')
    (k : ∀ T', Wk l Z EL own nm cd ml ret R ws h0 K sf T' h cells slots → Go K P T' pc' ls st) : Go K P T pc ls (.ref a :: st) := by
  obtain ⟨vm0, locs, k0, X, e, hx, hc, e0, hZ, hown, r⟩ := W
  subst hp
  obtain ⟨T', X', e', f⟩ := initO X hx hZ hown w1 w2 w3 e (g := mkF K.2.2.2.1 pc ls (.ref a :: st)) rfl (hsz.trans hc.2.1.symm) rfl (hb hc.1 hd) hf (W := Wd) (by show 2 * 0 + _ ≤ _; omega) hl
  exact Go.stp f (k T' ⟨vm0, locs, k0, X', e', hx, hc, e0, hZ, hown, r⟩)
/-- ldc of a String constant of EL, read -/
theorem wLdcS (W : Wk l Z EL own nm cd ml ret R ws h0 K sf T h cells slots) {text : String} {index : Nat} (hd : decode cd pc = .ok (.ldc index, 2)) (w : (Cond.stringLink own index text).before a0 Z = true) (wS : ∀ a ∈ Bundle.stringAtoms, a.before a0 Z = true) (hEL : EW Z a0 EL) (hmem : (own, index) ∈ EL)
    {vs : List Value} {z : Int32} (ht : (∀ c ∈ text.toList, c.toNat < 256) ∧ text.toList.map (fun c => Value.int (Jvm.Lit.byteI c.toNat.toUInt16)) = vs) (hz' : ¬ z < 0) (hl : z.toNatClampNeg = vs.length) {n : Nat} (hn : 4 * text.toList.length ≤ n) (hbig : n ≤ 536870912) (hc' : cells + 2 ≤ R.cells) (hl' : slots + (n + 4) ≤ R.slots) (hp : pc + 2 = pc')
    (k : ∀ T' h' a b kb, Wk l Z EL own nm cd ml ret R ws h0 K sf T' h' (cells + 2) (slots + (n + 4)) → Ext h h' → Exa Z h' a "java/lang/String" → Fld Z h' a "java/lang/String" "coder" "B" (.int 0) → Fld Z h' a "java/lang/String" "value" "[B" (.ref b) → Arv Z h' b kb .byte z vs (.int 0) → (∀ x ∈ sf, x ≠ a ∧ x ≠ b) → Go K P T' pc' ls (.ref a :: st)) : Go K P T pc ls st := by
  obtain ⟨vm0, locs, k0, X, e, hx, hc, e0, hZ, hown, hS, hk, hL, hC, hO, hE, hw, hz, hs⟩ := W
  subst hp
  obtain ⟨a, T', h', k1, b, kb, X', e', E, hS', hk', hW', hown', A, F1, F2, A2, -, -, hC', -, hne, f⟩ := ldcCH X hx hZ hown w wS e hS hk hEL hmem hC.1 ht hz' hl (g := mkF K.2.2.2.1 pc ls st) rfl (hb hc.1 hd) hn hbig hc' hl'
  have hs' : ∀ x ∈ sf, Safe Z EL T'.vm h' x ∧ x < h'.size ∧ (x ∈ ws ∨ h0.size ≤ x) := fun x q => ⟨hC'.safe (hs x q).2.1 (hs x q).1, Nat.lt_of_lt_of_le (hs x q).2.1 E.1, (hs x q).2.2⟩
  exact Go.stp f (k T' h' a b kb ⟨T'.vm, locs, k1, X', e', hx, hc, e0, hW', hown', hS', hk', hL, hC.trans hC', hO.ext E, hE, hw, hz, hs'⟩ E A F1 F2 A2 fun x q => hne x (hs' x q).1)
/-- ldc of an int -/
theorem wLdcI (W : Wk l Z EL own nm cd ml ret R ws h0 K sf T h cells slots) {index : Nat} {v : Int32} (hd : decode cd pc = .ok (.ldc index, 2)) (w : (Cond.constant own index v).before a0 Z = true) (hp : pc + 2 = pc') (k : Go K P T pc' ls (.int v :: st)) : Go K P T pc ls st := by
  obtain ⟨vm0, locs, k0, X, e, hx, hc, e0, hZ, hown, r⟩ := W
  subst hp
  exact Go.stp (fun t q => X.ldcInt hx hown (mv (s := K.2.2.1.setVm vm0) hZ w) (g := mkF K.2.2.2.1 pc ls st) rfl (hb hc.1 hd) _ q) k
/-- ldc2_w of a long -/
theorem wLdcL (W : Wk l Z EL own nm cd ml ret R ws h0 K sf T h cells slots) {index : Nat} {v : Int64} (hd : decode cd pc = .ok (.ldc2_w index, 3)) (w : (Cond.constantLong own index v).before a0 Z = true) (hp : pc + 3 = pc') (k : Go K P T pc' ls (.long v :: st)) : Go K P T pc ls st := by
  obtain ⟨vm0, locs, k0, X, e, hx, hc, e0, hZ, hown, r⟩ := W
  subst hp
  exact Go.stp (fun t q => X.ldc2Long hx hown (mv (s := K.2.2.1.setVm vm0) hZ w) (g := mkF K.2.2.2.1 pc ls st) rfl (hb hc.1 hd) _ q) k
/-- ldc of any String constant, unread -/
theorem wLdcO (W : Wk l Z EL own nm cd ml ret R ws h0 K sf T h cells slots) {text : String} {index : Nat} (hd : decode cd pc = .ok (.ldc index, 2)) (w : (Cond.stringLink own index text).before a0 Z = true) (wS : ∀ a ∈ Bundle.stringAtoms, a.before a0 Z = true) (hEL : EW Z a0 EL) {n : Nat} (hn : 4 * text.toList.length ≤ n) (hbig : n ≤ 536870912) (hc' : cells + 2 ≤ R.cells) (hl' : slots + (n + 4) ≤ R.slots) (hp : pc + 2 = pc')
    (k : ∀ T' h' a, Wk l Z EL own nm cd ml ret R ws h0 K sf T' h' (cells + 2) (slots + (n + 4)) → Ext h h' → Go K P T' pc' ls (.ref a :: st)) : Go K P T pc ls st := by
  obtain ⟨vm0, locs, k0, X, e, hx, hc, e0, hZ, hown, hS, hk, hL, hC, hO, hE, hw, hz, hs⟩ := W
  subst hp
  obtain ⟨a, T', h', k1, X', e', E, hS', hk', hW', hown', hC', -, f⟩ := ldcOH X hx hZ hown w wS e hS hk hEL hC.1 (g := mkF K.2.2.2.1 pc ls st) rfl (hb hc.1 hd) hn hbig hc' hl'
  have hs' : ∀ x ∈ sf, Safe Z EL T'.vm h' x ∧ x < h'.size ∧ (x ∈ ws ∨ h0.size ≤ x) := fun x q => ⟨hC'.safe (hs x q).2.1 (hs x q).1, Nat.lt_of_lt_of_le (hs x q).2.1 E.1, (hs x q).2.2⟩
  exact Go.stp f (k T' h' a ⟨T'.vm, locs, k1, X', e', hx, hc, e0, hW', hown', hS', hk', hL, hC.trans hC', hO.ext E, hE, hw, hz, hs'⟩ E)
end Laws
section Calls
variable {l : Launch} {Z : State} {EL : List (String × Nat)} {own nm : String} {cd : ByteArray} {ml : Nat} {ret : Option FieldType} {R : Room} {ws : List Addr} {h0 : Heap} {K : Cx} {sf : List Addr} {T : State} {h h' : Heap} {cells slots : Nat} {P : Outcome → State → Prop} {pc pc' : Nat} {ls : Array Slot} {st : List Value} {a0 : Array Value}
/-- a callee's payment, whatever has been interned -/
def Cb (l : Launch) (Z : State) (EL : List (String × Nat)) (R : Room) (K : Cx) (y : MethodName) (len Wd kc ks : Nat) (as' : Array Value) (h : Heap) (wsc : List Addr) (Q : Option Value → Heap → List Addr → Prop) : Prop :=
  ∀ vm0, Z.Warmed39 vm0 → CHv Z EL vm0 h → (∀ x ∈ wsc, Safe Z EL vm0 h x ∧ x < h.size) → BackS l R K.1 K.2.1 K.2.2.2.2.2.1 (K.2.2.1.setVm vm0) K.2.2.2.2.1 y len Wd (fun A a => a = as' ∧ A.U.heap = h ∧ A.cells + kc ≤ R.cells ∧ A.slots + ks ≤ R.slots)
    (fun A _ v B => ∃ L so, Q v B.U.heap so ∧ (∀ x ∈ so, Safe Z EL B.U.vm B.U.heap x ∧ h.size ≤ x ∧ x < B.U.heap.size) ∧ (∀ x ∈ L, x.base ∈ wsc ∨ h.size ≤ x.base) ∧ Keep h B.U.heap wsc ∧ B.locs = A.locs ++ L ∧ B.cells = A.cells + kc ∧ B.slots = A.slots + ks ∧ CHr Z EL vm0 h B.U.vm B.U.heap)
/-- by a body's contract -/
theorem Cb.ct {y : MethodName} {bytes : ByteArray} {maxL : Nat} {rt : Option FieldType} {rm : Room} {len Wd : Nat} {as' : Array Value} {wsc : List Addr} {Q : Option Value → Heap → List Addr → Prop} (C : Ct l Z EL y bytes maxL rt rm as' h wsc Q) (wc : (Cond.code y bytes maxL rt).before a0 Z = true) (wz : (Cond.initialized y.cls).before a0 Z = true) (hEL : EW Z a0 EL) (hf : rm.frames + 1 ≤ R.frames) (hl : Wd + (maxL + 11) + rm.locals ≤ R.locals) :
    Cb l Z EL R K y len Wd rm.cells rm.slots as' h wsc Q := by
  intro vm0 hZ H hsafe
  refine BackS.of_freeW (bytes := bytes) (maxL := maxL) (ret := rt) (E := fun _ first o t L k n => k = rm.cells ∧ n = rm.slots ∧ ∃ v so, o = .returned v ∧ Q v t.heap so ∧ (∀ x ∈ so, Safe Z EL t.vm t.heap x ∧ first.heap.size ≤ x ∧ x < t.heap.size) ∧ (∀ x ∈ L, x.base ∈ wsc ∨ first.heap.size ≤ x.base) ∧ CHr Z EL first.vm first.heap t.vm t.heap) (C []) hf hl
    (fun m meth c A a Y hp => have hU : Z.Warmed39 A.U.vm := wtrans (s := K.2.2.1.setVm vm0) hZ Y.warmed
      ⟨by show (Cond.and _ .tt).before a A.U = true; rw [Cond.before_and, mv hU wc]; rfl, mv hU wc, mv hU wz, hp.2.2.1, hp.2.2.2⟩)
    (fun m meth c A a g mk Y hp => ⟨hp.1, wtrans (s := K.2.2.1.setVm vm0) hZ Y.warmed, hp.2.1, (CHv.at Y hZ hEL H).1, fun x q => ⟨(CHv.at Y hZ hEL H).safe (hsafe x q).2 (hsafe x q).1, (hsafe x q).2⟩⟩) (fun _ _ _ _ _ _ _ _ _ => trivial)
    (fun _ first o t ⟨v, L, so, h1, h2, h3, h4, h5, h6⟩ => ⟨L, _, _, h6, rfl, rfl, v, so, h1, h2, h3, h4, h5⟩)
    (fun m meth c A a g mk v t L k n Y hp _ hret ⟨e1, e2, v', so, e3, e4, e5, e6, e7⟩ => ?_)
  cases e3; subst e1 e2
  have eh : (A.U.calling g mk a).heap = h := hp.2.1
  have ke := keep_of (ws := wsc) hret.2.2.2 (by simpa using e6)
  rw [eh] at ke e5 e6 e7
  exact ⟨L, so, e4, e5, e6, ke, rfl, rfl, rfl, (CHv.at Y hZ hEL H).trans e7⟩
/-- by a payer that interns nothing -/
theorem Cb.bk {y : MethodName} {len Wd kc ks : Nat} {as' : Array Value} {wsc : List Addr} {Q : Option Value → Heap → List Addr → Prop} {Qb : Option Value → Heap → List Loc → Prop}
    (B : ∀ vm0, Z.Warmed39 vm0 → Back l R K.1 K.2.1 K.2.2.2.2.2.1 (K.2.2.1.setVm vm0) K.2.2.2.2.1 y len Wd (fun A a => a = as' ∧ A.U.heap = h ∧ A.cells + kc ≤ R.cells ∧ A.slots + ks ≤ R.slots) (fun A _ v B => ∃ L, Qb v B.U.heap L ∧ B.locs = A.locs ++ L ∧ B.cells = A.cells + kc ∧ B.slots = A.slots + ks))
    (hEL : EW Z a0 EL) (hq : ∀ v h' L, Qb v h' L → Q v h' [] ∧ Keep h h' wsc ∧ ∀ x ∈ L, x.base ∈ wsc ∨ h.size ≤ x.base) : Cb l Z EL R K y len Wd kc ks as' h wsc Q := by
  intro vm0 hZ H hsafe m meth c A g ig mk a X hg hsize hdg hW hn hp
  obtain ⟨v, B', X', ⟨L, q1, q2, q3, q4⟩, st⟩ := B vm0 hZ m meth c A g ig mk a X hg hsize hdg hW hn hp
  obtain ⟨r1, r2, r3⟩ := hq v _ L q1
  have hgr : A.U.heap.size ≤ B'.U.heap.size := by rw [hp.2.1]; exact r2.1
  refine ⟨v, B', X'.retabled X'.warmed.wide, X'.warmed.since _, hgr, ⟨L, [], r1, (fun x q => nomatch q), r3, r2, q2, q3, q4, ?_⟩, st⟩
  have C1 := CHr.keep r2 (fun x q => (hsafe x q).1) H
  exact C1.trans (CHv.at X' hZ hEL C1.1)
theorem Cb.mono {y : MethodName} {len Wd kc ks kc' ks' : Nat} {as' : Array Value} {wsc : List Addr} {Q : Option Value → Heap → List Addr → Prop} (C : Cb l Z EL R K y len Wd kc ks as' h wsc Q) (h1 : kc ≤ kc') (h2 : ks ≤ ks') : Cb l Z EL R K y len Wd kc' ks' as' h wsc Q := by
  intro vm0 hZ H hs m meth c A g ig mk a X hg hsz hd hW hn hp
  obtain ⟨v, B, X', hS, hgr, ⟨L, so, q1, q2, q3, q4, q5, q6, q7, q8⟩, st⟩ := C vm0 hZ H hs m meth c A g ig mk a X hg hsz hd hW hn ⟨hp.1, hp.2.1, Nat.le_trans (Nat.add_le_add_left h1 _) hp.2.2.1, Nat.le_trans (Nat.add_le_add_left h2 _) hp.2.2.2⟩
  refine ⟨v, ⟨B.U, B.locs, A.cells + kc', A.slots + ks'⟩, ?_, hS, hgr, ⟨L, so, q1, q2, q3, q4, q5, rfl, rfl, q8⟩, st⟩
  exact X'.mono (by rw [q6]; exact Nat.add_le_add_left h1 _) (by rw [q7]; exact Nat.add_le_add_left h2 _)
theorem Cb.weak {y : MethodName} {len Wd kc ks : Nat} {as' : Array Value} {wsc : List Addr} {Q Q' : Option Value → Heap → List Addr → Prop} (C : Cb l Z EL R K y len Wd kc ks as' h wsc Q) (f : ∀ v h' so, Q v h' so → Q' v h' so) : Cb l Z EL R K y len Wd kc ks as' h wsc Q' := by
  intro vm0 hZ H hs m meth c A g ig mk a X hg hsz hd hW hn hp
  obtain ⟨v, B, X', hS, hgr, ⟨L, so, q1, r⟩, st⟩ := C vm0 hZ H hs m meth c A g ig mk a X hg hsz hd hW hn hp
  exact ⟨v, B, X', hS, hgr, ⟨L, so, f _ _ _ q1, r⟩, st⟩
theorem wAfter {vm0 : Vm} {s : State} {wsc so : List Addr} {vm1 : Vm} {locs L : List Loc} (hC : CHr Z EL s.vm h0 vm0 h) (hs : ∀ x ∈ sf, Safe Z EL vm0 h x ∧ x < h.size ∧ (x ∈ ws ∨ h0.size ≤ x)) (hL : ∀ x ∈ locs, x.base ∈ ws ∨ h0.size ≤ x.base) (hO : Old Z Z.heap.size h) (hw : ∀ x ∈ ws, Z.heap.size ≤ x) (hz : Z.heap.size ≤ h0.size) (hws : ∀ x ∈ wsc, x ∈ sf)
    (q2 : ∀ x ∈ so, Safe Z EL vm1 h' x ∧ h.size ≤ x ∧ x < h'.size) (q3 : ∀ x ∈ L, x.base ∈ wsc ∨ h.size ≤ x.base) (q4 : Keep h h' wsc) (q8 : CHr Z EL vm0 h vm1 h') :
    CHr Z EL s.vm h0 vm1 h' ∧ (∀ x ∈ so ++ sf, Safe Z EL vm1 h' x ∧ x < h'.size ∧ (x ∈ ws ∨ h0.size ≤ x)) ∧ (∀ x ∈ locs ++ L, x.base ∈ ws ∨ h0.size ≤ x.base) ∧ Old Z Z.heap.size h' := by
  have hgr : h0.size ≤ h.size := hC.2.1
  refine ⟨hC.trans q8, fun x q => ?_, fun x q => ?_, hO.keep q4 fun x q => ?_⟩
  · rcases List.mem_append.mp q with q | q
    · exact ⟨(q2 x q).1, (q2 x q).2.2, Or.inr (Nat.le_trans hgr (q2 x q).2.1)⟩
    · exact ⟨q8.safe (hs x q).2.1 (hs x q).1, Nat.lt_of_lt_of_le (hs x q).2.1 q4.1, (hs x q).2.2⟩
  · rcases List.mem_append.mp q with q | q
    · exact hL x q
    · rcases q3 x q with q | q
      · exact (hs _ (hws _ q)).2.2
      · exact Or.inr (Nat.le_trans hgr q)
  · rcases (hs _ (hws _ q)).2.2 with z | z
    · exact hw _ z
    · exact Nat.le_trans hz z
/-- invokestatic -/
theorem wStatic (W : Wk l Z EL own nm cd ml ret R ws h0 K sf T h cells slots) {y : MethodName} {index : Nat} (hd : decode cd pc = .ok (.invokestatic index, 3)) (w1 : (Cond.methodLink own index y).before a0 Z = true) (w2 : (Cond.static y).before a0 Z = true) (wz : (Cond.initialized y.cls).before a0 Z = true) {bytes : ByteArray} {maxL : Nat} {rt : Option FieldType} (wc : (Cond.code y bytes maxL rt).before a0 Z = true) (hy : y.cls ≠ "java/lang/invoke/MethodHandle" ∧ y.cls ≠ "java/lang/invoke/VarHandle")
    {Wd kc ks : Nat} {argsL rest : List Value} {wsc : List Addr} {Q : Option Value → Heap → List Addr → Prop} (C : Cb l Z EL R K y 3 Wd kc ks argsL.toArray h wsc Q) (hws : ∀ x ∈ wsc, x ∈ sf) (hsz : ls.size = ml) (hlen : ∀ sig, parseMethodDescriptor y.desc = some sig → argsL.length = sig.parameters.length) (hst : st = argsL.reverse ++ rest) (hW : (rest.map fun v => v.category).sum ≤ Wd) (hc' : cells + kc ≤ R.cells) (hl' : slots + ks ≤ R.slots) (hp : pc + 3 = pc')
    (k : ∀ v so T' h', Wk l Z EL own nm cd ml ret R ws h0 K (so ++ sf) T' h' (cells + kc) (slots + ks) → Keep h h' wsc → (∀ x ∈ so, h.size ≤ x ∧ x < h'.size) → Q v h' so → Go K P T' pc' ls (v.toList ++ rest)) : Go K P T pc ls st := by
  obtain ⟨vm0, locs, k0, X, e, hx, hc, e0, hZ, hown, hS, hk, hL, hC, hO, hE, hw, hz, hs⟩ := W
  subst hp
  obtain ⟨v, vm₁, B, -, X', hS', hgr, ⟨L, so, q1, q2, q3, q4, q5, q6, q7, q8⟩, f⟩ := callSS X hx (y := y) hown (mvT hZ w1) (mvT hZ w2) (mvT hZ wz) (mvT hZ wc) hy (C vm0 hZ hC.1 fun x q => ⟨(hs x (hws x q)).1, (hs x (hws x q)).2.1⟩) (g := mkF K.2.2.2.1 pc ls st) rfl (hsz.trans hc.2.1.symm) hlen hst (by show 2 * 0 + _ ≤ _; omega) (hb hc.1 hd) (fun _ _ => ⟨rfl, e, hc', hl'⟩)
  obtain ⟨X2, hS2, hZ2, hown2⟩ := rebS (Z := Z) (own := own) (n1 := h.size) hS hk X' hS' (by rw [← e]; exact hgr) hZ hown
  obtain ⟨a1, a2, a3, a4⟩ := wAfter (s := K.2.2.1) hC hs hL hO hw hz hws q2 q3 q4 q8
  rw [q5, q6, q7] at X2
  obtain ⟨o, U, r, q⟩ := k v so B.U B.U.heap ⟨B.U.vm, _, _, X2, rfl, hx, hc, e0, hZ2, hown2, hS2, Nat.le_refl _, a3, a1, a4, hE, hw, hz, a2⟩ q4 (fun x z => ⟨(q2 x z).2.1, (q2 x z).2.2⟩) q1
  exact ⟨o, U, f.trans r, q⟩
/-- invokespecial of a constructor -/
theorem wSpecial (W : Wk l Z EL own nm cd ml ret R ws h0 K sf T h cells slots) {y : MethodName} {index : Nat} (hd : decode cd pc = .ok (.invokespecial index, 3)) (hy1 : y.name = "<init>") (w1 : (Cond.methodLink own index y).before a0 Z = true) (w2 : (Cond.instanceMethod y).before a0 Z = true) {bytes : ByteArray} {maxL : Nat} (wc : (Cond.code y bytes maxL none).before a0 Z = true) (hy : y.cls ≠ "java/lang/invoke/MethodHandle" ∧ y.cls ≠ "java/lang/invoke/VarHandle")
    {Wd kc ks : Nat} {a : Addr} {argsL rest : List Value} {wsc : List Addr} {Q : Option Value → Heap → List Addr → Prop} (C : Cb l Z EL R K y 3 Wd kc ks (.ref a :: argsL).toArray h wsc Q) (hws : ∀ x ∈ wsc, x ∈ sf) (hsz : ls.size = ml) (hlen : ∀ sig, parseMethodDescriptor y.desc = some sig → argsL.length = sig.parameters.length) (hst : st = argsL.reverse ++ .ref a :: rest) (hW : (rest.map fun v => v.category).sum ≤ Wd) (hc' : cells + kc ≤ R.cells) (hl' : slots + ks ≤ R.slots) (hp : pc + 3 = pc')
    (k : ∀ v so T' h', Wk l Z EL own nm cd ml ret R ws h0 K (so ++ sf) T' h' (cells + kc) (slots + ks) → Keep h h' wsc → (∀ x ∈ so, h.size ≤ x ∧ x < h'.size) → Q v h' so → Go K P T' pc' ls (v.toList ++ rest)) : Go K P T pc ls st := by
  obtain ⟨vm0, locs, k0, X, e, hx, hc, e0, hZ, hown, hS, hk, hL, hC, hO, hE, hw, hz, hs⟩ := W
  subst hp
  obtain ⟨v, vm₁, B, -, X', hS', hgr, ⟨L, so, q1, q2, q3, q4, q5, q6, q7, q8⟩, f⟩ := X.specialBackS hx (y := y) hy1 hown (mvT hZ w1) (mvT hZ w2) (mvT hZ wc) hy (C vm0 hZ hC.1 fun x q => ⟨(hs x (hws x q)).1, (hs x (hws x q)).2.1⟩) (g := mkF K.2.2.2.1 pc ls st) rfl (hsz.trans hc.2.1.symm) (Steps.refl _) hlen hst (by show 2 * 0 + _ ≤ _; omega) (hb hc.1 hd) (fun _ _ => ⟨rfl, e, hc', hl'⟩)
  obtain ⟨X2, hS2, hZ2, hown2⟩ := rebS (Z := Z) (own := own) (n1 := h.size) hS hk X' hS' (by rw [← e]; exact hgr) hZ hown
  obtain ⟨a1, a2, a3, a4⟩ := wAfter (s := K.2.2.1) hC hs hL hO hw hz hws q2 q3 q4 q8
  rw [q5, q6, q7] at X2
  obtain ⟨o, U, r, q⟩ := k v so B.U B.U.heap ⟨B.U.vm, _, _, X2, rfl, hx, hc, e0, hZ2, hown2, hS2, Nat.le_refl _, a3, a1, a4, hE, hw, hz, a2⟩ q4 (fun x z => ⟨(q2 x z).2.1, (q2 x z).2.2⟩) q1
  exact ⟨o, U, f.trans r, q⟩
/-- invokevirtual on an object of exactly the class C -/
theorem wVirtual (W : Wk l Z EL own nm cd ml ret R ws h0 K sf T h cells slots) {C : String} {y z : MethodName} {index : Nat} (hd : decode cd pc = .ok (.invokevirtual index, 3)) (w1 : (Cond.methodLink own index y).before a0 Z = true) (w2 : (Cond.declares y).before a0 Z = true) (w3 : (Cond.selects C y z).before a0 Z = true) (w4 : (Cond.instanceMethod z).before a0 Z = true) (nf : ∀ s : State, Z.Warmed39 s.vm → NotFace s y) (hy : y.cls ≠ "java/lang/invoke/MethodHandle" ∧ y.cls ≠ "java/lang/invoke/VarHandle")
    {Wd kc ks : Nat} {a : Addr} {argsL rest : List Value} {wsc : List Addr} {Q : Option Value → Heap → List Addr → Prop} (Cc : Cb l Z EL R K z 3 Wd kc ks (.ref a :: argsL).toArray h wsc Q) (E : Exa Z h a C) (hws : ∀ x ∈ wsc, x ∈ sf) (hsz : ls.size = ml) (hlen : ∀ sig, parseMethodDescriptor y.desc = some sig → argsL.length = sig.parameters.length) (hst : st = argsL.reverse ++ .ref a :: rest) (hW : (rest.map fun v => v.category).sum ≤ Wd) (hc' : cells + kc ≤ R.cells) (hl' : slots + ks ≤ R.slots) (hp : pc + 3 = pc')
    (k : ∀ v so T' h', Wk l Z EL own nm cd ml ret R ws h0 K (so ++ sf) T' h' (cells + kc) (slots + ks) → Keep h h' wsc → (∀ x ∈ so, h.size ≤ x ∧ x < h'.size) → Q v h' so → Go K P T' pc' ls (v.toList ++ rest)) : Go K P T pc ls st := by
  obtain ⟨vm0, locs, k0, X, e, hx, hc, e0, hZ, hown, hS, hk, hL, hC, hO, hE, hw, hz, hs⟩ := W
  subst hp
  obtain ⟨cB, kB, i1, i2, i3⟩ := isOf (s := K.2.2.1.setVm vm0) hZ e E
  obtain ⟨v, vm₁, B, -, X', hS', hgr, ⟨L, so, q1, q2, q3, q4, q5, q6, q7, q8⟩, f⟩ := X.virtualBackS hx (y := y) (z := z) hown (mvT hZ w1) (mvT hZ w2) (nf (K.2.2.1.setVm vm0) hZ) (mvT hZ w3) (mvT hZ w4) hy (Cc vm0 hZ hC.1 fun x q => ⟨(hs x (hws x q)).1, (hs x (hws x q)).2.1⟩) i1 i3 (g := mkF K.2.2.2.1 pc ls st) rfl (hsz.trans hc.2.1.symm) (Steps.refl _) hlen hst (by show 2 * 0 + _ ≤ _; omega) (hb hc.1 hd) (fun _ _ => ⟨rfl, e, hc', hl'⟩)
  obtain ⟨X2, hS2, hZ2, hown2⟩ := rebS (Z := Z) (own := own) (n1 := h.size) hS hk X' hS' (by rw [← e]; exact hgr) hZ hown
  obtain ⟨a1, a2, a3, a4⟩ := wAfter (s := K.2.2.1) hC hs hL hO hw hz hws q2 q3 q4 q8
  rw [q5, q6, q7] at X2
  obtain ⟨o, U, r, q⟩ := k v so B.U B.U.heap ⟨B.U.vm, _, _, X2, rfl, hx, hc, e0, hZ2, hown2, hS2, Nat.le_refl _, a3, a1, a4, hE, hw, hz, a2⟩ q4 (fun x z => ⟨(q2 x z).2.1, (q2 x z).2.2⟩) q1
  exact ⟨o, U, f.trans r, q⟩
/-- invokeinterface on an object of exactly the class C -/
theorem wFace (W : Wk l Z EL own nm cd ml ret R ws h0 K sf T h cells slots) {C : String} {xi y : MethodName} {index count : Nat} (hd : decode cd pc = .ok (.invokeinterface index count, 5)) (w1 : (Cond.methodLink own index xi).before a0 Z = true) (w2 : (Cond.declares xi).before a0 Z = true) (w3 : (Cond.interfaceMethod xi.cls xi.cls xi.name xi.desc).before a0 Z = true) (w4 : (Cond.selects C xi y).before a0 Z = true) (w5 : (Cond.instanceMethod y).before a0 Z = true) (w6 : (Cond.publicMethod y).before a0 Z = true) (w7 : (Cond.unhidden C xi.name xi.desc).before a0 Z = true) (w8 : (Cond.castable C xi.cls).before a0 Z = true) (hy : xi.cls ≠ "java/lang/invoke/MethodHandle" ∧ xi.cls ≠ "java/lang/invoke/VarHandle")
    {Wd kc ks : Nat} {a : Addr} {argsL rest : List Value} {wsc : List Addr} {Q : Option Value → Heap → List Addr → Prop} (Cc : Cb l Z EL R K y 5 Wd kc ks (.ref a :: argsL).toArray h wsc Q) (E : Exa Z h a C) (hws : ∀ x ∈ wsc, x ∈ sf) (hsz : ls.size = ml) (hlen : ∀ sig, parseMethodDescriptor xi.desc = some sig → argsL.length = sig.parameters.length) (hst : st = argsL.reverse ++ .ref a :: rest) (hW : (rest.map fun v => v.category).sum ≤ Wd) (hc' : cells + kc ≤ R.cells) (hl' : slots + ks ≤ R.slots) (hp : pc + 5 = pc')
    (k : ∀ v so T' h', Wk l Z EL own nm cd ml ret R ws h0 K (so ++ sf) T' h' (cells + kc) (slots + ks) → Keep h h' wsc → (∀ x ∈ so, h.size ≤ x ∧ x < h'.size) → Q v h' so → Go K P T' pc' ls (v.toList ++ rest)) : Go K P T pc ls st := by
  obtain ⟨vm0, locs, k0, X, e, hx, hc, e0, hZ, hown, hS, hk, hL, hC, hO, hE, hw, hz, hs⟩ := W
  subst hp
  obtain ⟨cB, kB, i1, i2, i3⟩ := isOf (s := K.2.2.1.setVm vm0) hZ e E
  obtain ⟨v, vm₁, B, -, X', hS', hgr, ⟨L, so, q1, q2, q3, q4, q5, q6, q7, q8⟩, f⟩ := X.interfaceBackS hx (xi := xi) (y := y) hown (mvT hZ w1) (mvT hZ w2) (mvT hZ w3 (by simp [Cond.onTables, Cond.keepsFace, Cond.faceAtom, hy.1, hy.2])) (mvT hZ w4) (mvT hZ w5) (mvT hZ w6) (mvT hZ w7) (mvT hZ w8) hy (Cc vm0 hZ hC.1 fun x q => ⟨(hs x (hws x q)).1, (hs x (hws x q)).2.1⟩) i1 i2 i3 (g := mkF K.2.2.2.1 pc ls st) rfl (hsz.trans hc.2.1.symm) (Steps.refl _) hlen hst (by show 2 * 0 + _ ≤ _; omega) (hb hc.1 hd) (fun _ _ => ⟨rfl, e, hc', hl'⟩)
  obtain ⟨X2, hS2, hZ2, hown2⟩ := rebS (Z := Z) (own := own) (n1 := h.size) hS hk X' hS' (by rw [← e]; exact hgr) hZ hown
  obtain ⟨a1, a2, a3, a4⟩ := wAfter (s := K.2.2.1) hC hs hL hO hw hz hws q2 q3 q4 q8
  rw [q5, q6, q7] at X2
  obtain ⟨o, U, r, q⟩ := k v so B.U B.U.heap ⟨B.U.vm, _, _, X2, rfl, hx, hc, e0, hZ2, hown2, hS2, Nat.le_refl _, a3, a1, a4, hE, hw, hz, a2⟩ q4 (fun x z => ⟨(q2 x z).2.1, (q2 x z).2.2⟩) q1
  exact ⟨o, U, f.trans r, q⟩
theorem nfS {C : String} {y : MethodName} (w3 : (Cond.selects C y y).before a0 Z = true) : ∀ s : State, Z.Warmed39 s.vm → NotFace s y := fun s hZ => notFace_of_selects (args := #[]) (mvT hZ w3)
/-- the end: P's post out of the walk's last standing -/
theorem wEnd {kc ks : Nat} {v : Option Value} {Q : Option Value → Heap → List Addr → Prop} {so : List Addr} (W : Wk l Z EL own nm cd ml ret R ws h0 K sf T h cells slots) (hv : ret = none → v = none) (hk : cells ≤ kc) (hn : slots ≤ ks) (hso : ∀ x ∈ so, x ∈ sf ∧ h0.size ≤ x) (q : Q v h so)
    (stp : ∀ (vm0 : Vm) (locs : List Loc) (fs : List Frame), Stand K.1 l K.2.1 R (K.2.2.1.setVm vm0) K.2.2.2.1 K.2.2.2.2.1 K.2.2.2.2.2.1 K.2.2.2.2.2.2.1 K.2.2.2.2.2.2.2 T locs cells slots → K.1.tables.exec = Jvm.exec → K.2.2.2.2.2.2.2.code = cd → K.2.2.2.2.2.2.1.sig.returnType = ret →
      (∀ (f : JFrame) (acts : List Action), f.method = K.2.2.2.1 → f.locked = none → f.entered = [] → (doReturn K.2.1 (T.setTop f) acts v).1 = T.setFrames fs) → Steps K.1.tables K.2.1 K.2.2.2.2.2.1 (T.setTop (mkF K.2.2.2.1 pc ls st)) (T.setFrames fs)) :
    Go K (Pst Z EL ws K.2.2.1 kc ks Q) T pc ls st := by
  obtain ⟨vm0, locs, k0, X, e, hx, hc, e0, hZ, hown, hS, hk0, hL, hC, hO, ⟨a0, hE⟩, hw, hz, hs⟩ := W
  have hlk := hc.2.2.2.1
  obtain ⟨fs, f1, f2, f3, f4⟩ := X.leaveW hS (by rw [e]; exact hk0) (v := v) (fun q => hv (hc.2.2.1.symm.trans q)) hlk
  have hend := CHv.at X hZ hE hC.1
  refine ⟨.returned v, T.setFrames fs, stp vm0 locs fs X hx hc.1 hc.2.2.1 f1, f2, f3, v, locs, so, rfl, ?_, fun x z => ?_, ?_, ?_, ?_⟩
  · show Q v T.heap so
    rw [e]; exact q
  · show Safe Z EL T.vm T.heap x ∧ _ ∧ x < T.heap.size
    rw [e, e0]
    exact ⟨hend.safe (hs x (hso x z).1).2.1 (hs x (hso x z).1).1, (hso x z).2, (hs x (hso x z).1).2.1⟩
  · rw [e0]; exact hL
  · show CHr Z EL K.2.2.1.vm K.2.2.1.heap T.vm T.heap
    rw [e, e0]; exact hC.trans hend
  · obtain ⟨g1, g2, g3, g4⟩ := f4
    exact ⟨g1, g2, g3, g4.mono hk hn⟩
/-- return -/
theorem wRet0 {kc ks : Nat} {Q : Option Value → Heap → List Addr → Prop} {so : List Addr} (W : Wk l Z EL own nm cd ml none R ws h0 K sf T h cells slots) (hd : decode cd pc = .ok (.return_, 1)) (hk : cells ≤ kc) (hn : slots ≤ ks) (hso : ∀ x ∈ so, x ∈ sf ∧ h0.size ≤ x) (q : Q none h so) : Go K (Pst Z EL ws K.2.2.1 kc ks Q) T pc ls [] :=
  wEnd W (fun _ => rfl) hk hn hso q fun vm0 locs fs X hx hc hr f => X.returnOut hx hr (hb hc hd) f
/-- ireturn, of an int, a boolean, a byte, a char, a short -/
theorem wRetI {t : FieldType} {z : Int32} {kc ks : Nat} {Q : Option Value → Heap → List Addr → Prop} {so : List Addr} (W : Wk l Z EL own nm cd ml (some t) R ws h0 K sf T h cells slots) (hd : decode cd pc = .ok (.ireturn, 1)) (ht : t = .int ∨ t = .boolean ∨ t = .byte ∨ t = .char ∨ t = .short) (hnr : narrow t (.int z) = .int z) (hk : cells ≤ kc) (hn : slots ≤ ks) (hso : ∀ x ∈ so, x ∈ sf ∧ h0.size ≤ x) (q : Q (some (.int z)) h so) : Go K (Pst Z EL ws K.2.2.1 kc ks Q) T pc ls (.int z :: st) :=
  wEnd W (fun q => nomatch q) hk hn hso q fun vm0 locs fs X hx hc hr f => retOut X hx hr hnr (Or.inl ⟨rfl, ht, z, rfl⟩) (hb hc hd) f
/-- areturn -/
theorem wRetA {t : FieldType} {w : Value} {kc ks : Nat} {Q : Option Value → Heap → List Addr → Prop} {so : List Addr} (W : Wk l Z EL own nm cd ml (some t) R ws h0 K sf T h cells slots) (hd : decode cd pc = .ok (.areturn, 1)) (ht : t.isReference = true) (hw : w.isRef = true) (hnr : narrow t w = w) (hk : cells ≤ kc) (hn : slots ≤ ks) (hso : ∀ x ∈ so, x ∈ sf ∧ h0.size ≤ x) (q : Q (some w) h so) : Go K (Pst Z EL ws K.2.2.1 kc ks Q) T pc ls (w :: st) :=
  wEnd W (fun q => nomatch q) hk hn hso q fun vm0 locs fs X hx hc hr f => retOut X hx hr hnr (Or.inr (Or.inr (Or.inr (Or.inr ⟨rfl, ht, hw⟩)))) (hb hc hd) f
/-- lreturn -/
theorem wRetL {z : Int64} {kc ks : Nat} {Q : Option Value → Heap → List Addr → Prop} {so : List Addr} (W : Wk l Z EL own nm cd ml (some .long) R ws h0 K sf T h cells slots) (hd : decode cd pc = .ok (.lreturn, 1)) (hk : cells ≤ kc) (hn : slots ≤ ks) (hso : ∀ x ∈ so, x ∈ sf ∧ h0.size ≤ x) (q : Q (some (.long z)) h so) : Go K (Pst Z EL ws K.2.2.1 kc ks Q) T pc ls (.long z :: st) :=
  wEnd W (fun q => nomatch q) hk hn hso q fun vm0 locs fs X hx hc hr f => retOut X hx hr rfl (Or.inr (Or.inl ⟨rfl, rfl, z, rfl⟩)) (hb hc hd) f
end Calls
section Ints
/-- a term that is said to equal a long -/
theorem eqL_v {args : Array Value} {first s : State} {o : Option Outcome} {idx : List Nat} {t : Term} {n : Int64} (h : (Cond.eq t (.long n)).value args first o s idx = some true) : t.eval args first o idx s = some (.long n) := by
  cases ht : t.eval args first o idx s with
  | none => simp [Cond.value, Term.eval, ht] at h
  | some x => cases x <;> simp [Cond.value, Term.eval, ht] at h ⊢; exact h
theorem nar_char (x : Int32) : nar .char x = x.toUInt32.toUInt16.toUInt32.toInt32 := rfl
theorem ch255 {p v w : Int32} (e : p &&& 255 = v) (e2 : v.toUInt32.toUInt16.toUInt32.toInt32 = w) : ¬ w < 0 ∧ ¬ 255 < w ∧ nar .char w = w := by
  subst e e2
  rw [i2c_mask]
  have q := c_and p 255 (by decide)
  refine ⟨?_, ?_, ?_⟩
  · rw [Int32.lt_iff_toInt_lt]; simp only [Int32.reduceToInt]; omega
  · rw [Int32.lt_iff_toInt_lt]; have h : (255 : Int32).toInt = 255 := by decide
    omega
  · rw [nar_char, i2c_mask]
theorem i32_of {v : Int32} {n : Int} (w : Int32) (hw : w.toInt = n) (h : v.toInt = n) : v = w := Int32.toInt_inj.mp (h.trans hw.symm)
theorem and3 {x v : Int32} (e : x &&& 3 = v) : v = 0 ∨ v = 1 ∨ v = 2 ∨ v = 3 := by
  subst e
  have q := c_and x 3 (by decide)
  have h3 : (3 : Int32).toInt = 3 := by decide
  rw [h3] at q
  have : (x &&& 3).toInt = 0 ∨ (x &&& 3).toInt = 1 ∨ (x &&& 3).toInt = 2 ∨ (x &&& 3).toInt = 3 := by omega
  rcases this with h | h | h | h
  · exact Or.inl (i32_of 0 (by decide) h)
  · exact Or.inr (Or.inl (i32_of 1 (by decide) h))
  · exact Or.inr (Or.inr (Or.inl (i32_of 2 (by decide) h)))
  · exact Or.inr (Or.inr (Or.inr (i32_of 3 (by decide) h)))
theorem and7 {x v : Int32} (e : x &&& 7 = v) : v = 0 ∨ v = 1 ∨ v = 2 ∨ v = 3 ∨ v = 4 ∨ v = 5 ∨ v = 6 ∨ v = 7 := by
  subst e
  have q := c_and x 7 (by decide)
  have h7 : (7 : Int32).toInt = 7 := by decide
  rw [h7] at q
  have : (x &&& 7).toInt = 0 ∨ (x &&& 7).toInt = 1 ∨ (x &&& 7).toInt = 2 ∨ (x &&& 7).toInt = 3 ∨ (x &&& 7).toInt = 4 ∨ (x &&& 7).toInt = 5 ∨ (x &&& 7).toInt = 6 ∨ (x &&& 7).toInt = 7 := by omega
  rcases this with h | h | h | h | h | h | h | h
  · exact Or.inl (i32_of 0 (by decide) h)
  · exact Or.inr (Or.inl (i32_of 1 (by decide) h))
  · exact Or.inr (Or.inr (Or.inl (i32_of 2 (by decide) h)))
  · exact Or.inr (Or.inr (Or.inr (Or.inl (i32_of 3 (by decide) h))))
  · exact Or.inr (Or.inr (Or.inr (Or.inr (Or.inl (i32_of 4 (by decide) h)))))
  · exact Or.inr (Or.inr (Or.inr (Or.inr (Or.inr (Or.inl (i32_of 5 (by decide) h))))))
  · exact Or.inr (Or.inr (Or.inr (Or.inr (Or.inr (Or.inr (Or.inl (i32_of 6 (by decide) h)))))))
  · exact Or.inr (Or.inr (Or.inr (Or.inr (Or.inr (Or.inr (Or.inr (i32_of 7 (by decide) h)))))))
theorem ch16 {p v w : Int32} (e : p &&& 65535 = v) (e2 : v.toUInt32.toUInt16.toUInt32.toInt32 = w) : (¬ w < 0 ∧ ¬ 65535 < w) ∧ nar .char w = w := by
  have q := c_i2c v
  rw [e2] at q
  have q2 := c_i2c w
  refine ⟨⟨?_, ?_⟩, ?_⟩
  · rw [Int32.lt_iff_toInt_lt]; have : (0 : Int32).toInt = 0 := by decide
    omega
  · rw [Int32.lt_iff_toInt_lt]; have : (65535 : Int32).toInt = 65535 := by decide
    omega
  · rw [nar_char]; apply Int32.toInt_inj.mp; omega
/-- an int from 0 to 255 -/
def B8 (x : Int32) : Prop := ¬ x < 0 ∧ ¬ 255 < x
theorem B8.toInt {x : Int32} (h : B8 x) : 0 ≤ x.toInt ∧ x.toInt ≤ 255 := by
  obtain ⟨h1, h2⟩ := h
  rw [Int32.lt_iff_toInt_lt] at h1 h2
  have a : (0 : Int32).toInt = 0 := by decide
  have b : (255 : Int32).toInt = 255 := by decide
  omega
theorem B8.of {x : Int32} (h : 0 ≤ x.toInt ∧ x.toInt ≤ 255) : B8 x := by
  refine ⟨?_, ?_⟩ <;> rw [Int32.lt_iff_toInt_lt]
  · have a : (0 : Int32).toInt = 0 := by decide
    omega
  · have b : (255 : Int32).toInt = 255 := by decide
    omega
theorem B8.and {p v : Int32} (e : p &&& 255 = v) : B8 v := by
  subst e; have q := c_and p 255 (by decide)
  have b : (255 : Int32).toInt = 255 := by decide
  exact B8.of (by omega)
theorem B8.mask {x : Int32} (h : B8 x) : x &&& 255 = x := by
  have q := c_mask x 255 8 (by decide) (by decide)
  have r := h.toInt
  apply Int32.toInt_inj.mp
  rw [q]; simp only [Nat.reducePow]; omega
theorem B8.i2c {c v : Int32} (h : B8 c) (e : c.toUInt32.toUInt16.toUInt32.toInt32 = v) : v = c := by
  rw [← h.mask, i2c_mask, h.mask] at e; exact e.symm
theorem B8.i2c' {c : Int32} (h : B8 c) : c.toUInt32.toUInt16.toUInt32.toInt32 = c := h.i2c rfl
theorem B8.nar {c : Int32} (h : B8 c) : nar .char c = c := h.i2c'
theorem B8.xor {x y v : Int32} (hx : B8 x) (hy : B8 y) (e : x ^^^ y = v) : B8 v := by
  subst e
  have e1 : x ^^^ y = (x ^^^ y) &&& 255 := by
    have h1 := hx.mask; have h2 := hy.mask
    rw [← Int32.toBitVec_inj] at h1 h2 ⊢
    simp only [Int32.toBitVec_and, Int32.toBitVec_xor] at h1 h2 ⊢
    rw [← h1, ← h2]
    ext i hi
    simp only [BitVec.getElem_and, BitVec.getElem_xor]
    cases (x.toBitVec[i]) <;> cases (y.toBitVec[i]) <;> cases ((255 : Int32).toBitVec[i]) <;> rfl
  exact B8.and e1.symm
theorem and31 {p v : Int32} (e : p &&& 2147483647 = v) : 0 ≤ v.toInt := by
  subst e; exact (c_and p 2147483647 (by decide)).1
/-- the remainder of a non-negative int by a positive constant -/
theorem rem_lt {v r y : Int32} {d : Int} (h : 0 ≤ v.toInt) (e : v % y = r) (hy : y.toInt = d) (hd : 0 < d) : 0 ≤ r.toInt ∧ r.toInt < d := by
  subst e
  have q := (c_irem v y d hy).1 h
  rw [q]; exact ⟨Int.emod_nonneg _ (by omega), Int.emod_lt_of_pos _ hd⟩
theorem lt_i {x y : Int32} : x < y ↔ x.toInt < y.toInt := Int32.lt_iff_toInt_lt
theorem xor_self {x y : Int32} (h : x = x ^^^ y) : y = 0 := by
  have h2 : x ^^^ x = x ^^^ (x ^^^ y) := congrArg (fun t => x ^^^ t) h
  rw [Int32.xor_self, ← Int32.xor_assoc, Int32.xor_self, Int32.zero_xor] at h2
  exact h2.symm
end Ints
section Refs0
variable {l : Launch} {Z : State} {EL : List (String × Nat)} {own nm : String} {cd : ByteArray} {ml : Nat} {ret : Option FieldType} {R : Room} {ws : List Addr} {h0 : Heap} {K : Cx} {sf : List Addr} {T : State} {h h' : Heap} {cells slots : Nat} {P : Outcome → State → Prop} {pc pc' : Nat} {ls : Array Slot} {st : List Value} {a0 : Array Value}
/-- checkcast of null -/
theorem wCastN (W : Wk l Z EL own nm cd ml ret R ws h0 K sf T h cells slots) {index : Nat} (hd : decode cd pc = .ok (.checkcast index, 3)) (hp : pc + 3 = pc')
    (k : Go K P T pc' ls (.null :: st)) : Go K P T pc ls (.null :: st) := by
  obtain ⟨vm0, locs, k0, X, e, hx, hc, r⟩ := W
  subst hp
  exact Go.stp (fun t q => X.checkcastNull hx (g := mkF K.2.2.2.1 pc ls (.null :: st)) rfl rfl (hb hc.1 hd) _ q) k
end Refs0
section Refs
variable {Z : State} {h h' : Heap} {v : Value} {C : String} {ws : List Addr}
/-- null, or an object of exactly the class C -/
def RefS (Z : State) (h : Heap) (v : Value) (C : String) : Prop := v = .null ∨ ∃ r, v = .ref r ∧ Exa Z h r C
theorem RefS.isRef (F : RefS Z h v C) : v.isRef = true := by rcases F with rfl | ⟨r, rfl, -⟩ <;> rfl
theorem RefS.ext (F : RefS Z h v C) (E : Ext h h') : RefS Z h' v C := F.imp id fun ⟨r, q, A⟩ => ⟨r, q, A.ext E⟩
theorem RefS.wr {a : Addr} {sl : Nat} {u : Value} (F : RefS Z h v C) (W : Wr h h' a sl u) : RefS Z h' v C := F.imp id fun ⟨r, q, A⟩ => ⟨r, q, A.wr W⟩
theorem RefS.keep (F : RefS Z h v C) (K : Keep h h' ws) : RefS Z h' v C := F.imp id fun ⟨r, q, A⟩ => ⟨r, q, A.keep K⟩
theorem RefS.of {r : Addr} (A : Exa Z h r C) : RefS Z h (.ref r) C := Or.inr ⟨r, rfl, A⟩
theorem RefS.null : RefS Z h .null C := Or.inl rfl
theorem catR (hv : v.isRef = true) : v.category = 1 := by rcases ref_cases hv with rfl | ⟨r, rfl⟩ <;> rfl
/-- what 'x == null ? y : x' gives -/
def selV (x y : Value) : Value := match x with | .null => y | v => v
theorem RefS.sel {u : Value} (F : RefS Z h v C) (G : RefS Z h u C) : RefS Z h (selV v u) C := by
  rcases F with rfl | ⟨r, rfl, A⟩
  · exact G
  · exact Or.inr ⟨r, rfl, A⟩
theorem narR {t : FieldType} (hv : v.isRef = true) (ht : t.isReference = true := by rfl) : narrow t v = v := by
  rcases ref_cases hv with rfl | ⟨r, rfl⟩ <;> cases t <;> rfl
theorem fitR {t : FieldType} (hv : v.isRef = true) (ht : t.isReference = true := by rfl) : fits t v = true := by
  rcases ref_cases hv with rfl | ⟨r, rfl⟩ <;> cases t <;> first | rfl | cases ht
end Refs
section Refs2
variable {l : Launch} {Z : State} {EL : List (String × Nat)} {own nm : String} {cd : ByteArray} {ml : Nat} {ret : Option FieldType} {R : Room} {ws : List Addr} {h0 : Heap} {K : Cx} {sf : List Addr} {T : State} {h h' : Heap} {cells slots : Nat} {P : Outcome → State → Prop} {pc pc' : Nat} {ls : Array Slot} {st : List Value} {a0 : Array Value}
/-- checkcast of null or of an object of that very class -/
theorem wCastR (W : Wk l Z EL own nm cd ml ret R ws h0 K sf T h cells slots) {C : String} {index : Nat} (hd : decode cd pc = .ok (.checkcast index, 3)) (w : (Cond.classLink own index C).before a0 Z = true) {v : Value} (F : RefS Z h v C) (hp : pc + 3 = pc')
    (k : ∀ T', Wk l Z EL own nm cd ml ret R ws h0 K sf T' h cells slots → Go K P T' pc' ls (v :: st)) : Go K P T pc ls (v :: st) := by
  rcases F with rfl | ⟨r, rfl, A⟩
  · exact wCastN W hd hp (k T W)
  · exact wCast W hd w (Ins.self A) hp k
end Refs2
section More
variable {l : Launch} {Z : State} {EL : List (String × Nat)} {own nm : String} {cd : ByteArray} {ml : Nat} {ret : Option FieldType} {R : Room} {ws : List Addr} {h0 : Heap} {K : Cx} {sf : List Addr} {T : State} {h h' : Heap} {cells slots : Nat} {P : Outcome → State → Prop} {pc pc' : Nat} {ls : Array Slot} {st : List Value} {a0 : Array Value}
/-- clone of an array -/
theorem wClone (W : Wk l Z EL own nm cd ml ret R ws h0 K sf T h cells slots) {ad : String} {index : Nat} (hd : decode cd pc = .ok (.invokevirtual index, 3)) (w1 : (Cond.methodLink own index ⟨ad, "clone", "()Ljava/lang/Object;"⟩).before a0 Z = true) (w2 : (Cond.sameMethod ad "java/lang/Object" "clone" "()Ljava/lang/Object;").before a0 Z = true) (w3 : (Cond.native ⟨"java/lang/Object", "clone", "()Ljava/lang/Object;"⟩).before a0 Z = true) (w4 : (Cond.instanceMethod ⟨"java/lang/Object", "clone", "()Ljava/lang/Object;"⟩).before a0 Z = true) (w5 : (Cond.selects ad ⟨ad, "clone", "()Ljava/lang/Object;"⟩ ⟨"java/lang/Object", "clone", "()Ljava/lang/Object;"⟩).before a0 Z = true) (w6 : (Cond.castable ad "java/lang/Cloneable").before a0 Z = true)
    {a : Addr} {kA : ClassId} {ty : FieldType} {z : Int32} {vs : List Value} {dv : Value} (F : Arv Z h a kA ty z vs dv) (E : Exa Z h a ad) (hsz : ls.size = ml) (hf : 1 ≤ R.frames) (Wd : Nat) (hW : (st.map fun v => v.category).sum ≤ Wd) (hl : Wd + 14 ≤ R.locals) (cap : Nat) (hcap : z.toNatClampNeg ≤ cap) (hc' : cells + 1 ≤ R.cells) (hsl : slots + cap ≤ R.slots) (hp : pc + 3 = pc')
    (k : ∀ T' h' a', Wk l Z EL own nm cd ml ret R ws h0 K (a' :: sf) T' h' (cells + 1) (slots + cap) → Ext h h' → a' = h.size → Arv Z h' a' kA ty z vs dv → Exa Z h' a' ad → Go K P T' pc' ls (.ref a' :: st)) : Go K P T pc ls (.ref a :: st) := by
  have hg := W.grow
  obtain ⟨vm0, locs, k0, X, e, hx, hc, e0, hZ, hown, hS, hk, hL, hC, hO, hE, hw, hz, hs⟩ := W
  subst hp
  obtain ⟨T', h', X', e', Ex, A, E', f⟩ := cloneH X hx hZ hown w1 w2 w3 w4 w5 w6 e F.arh E (g := mkF K.2.2.2.1 pc ls (.ref a :: st)) rfl (hsz.trans hc.2.1.symm) rfl (hb hc.1 hd) hf (W := Wd) (by show 2 * 0 + _ ≤ _; omega) hl hcap hc' hsl
  obtain ⟨hC', hs'⟩ := wExt (s := K.2.2.1) hC hs Ex
  refine Go.stp f (k T' h' h.size ⟨vm0, locs, k0, X', e', hx, hc, e0, hZ, hown, hS, Nat.le_trans hk Ex.1, hL, hC', hO.ext Ex, hE, hw, hz, fun x q => ?_⟩ Ex rfl A E')
  rcases List.mem_cons.mp q with rfl | q
  · exact ⟨Safe.ext Ex hC.1 (Safe.new (Nat.le_refl _)), E'.lt, Or.inr hg⟩
  · exact hs' x q
/-- aaload -/
theorem wLdA (W : Wk l Z EL own nm cd ml ret R ws h0 K sf T h cells slots) (hd : decode cd pc = .ok (.aaload, 1)) {a : Addr} {kA : ClassId} {ty : FieldType} (ht : ty.isReference = true) {z j : Int32} {vs : List Value} {v dv : Value} (A : Arv Z h a kA ty z vs dv) (hj : ¬ j < 0 ∧ j < z) (hv : vs.getD j.toNatClampNeg dv = v) (hp : pc + 1 = pc')
    (k : Go K P T pc' ls (v :: st)) : Go K P T pc ls (.int j :: .ref a :: st) := by
  obtain ⟨vm0, locs, k0, X, e, hx, hc, e0, hZ, r⟩ := W
  subst hp
  obtain ⟨cl, A1, A2, A3, A4, A5, -⟩ := A
  exact Go.stp (fun t q => X.aaload hx (by rw [e]; exact A1.1) (State.isArrayOf_alike hZ.alike A1.2.1) ht A1.2.2 (inb_of A3 hj) (A5.at (inb_of A3 hj) hv) (g := mkF K.2.2.2.1 pc ls (.int j :: .ref a :: st)) rfl rfl (hb hc.1 hd) _ q) k
/-- the places that a step may have written: at a cell b alone, where all others are kept -/
theorem locsAt {p : Program} {e : Env} {s : State} {m : MethodId} {args : Array Value} {below : List Frame} {meth : Method} {c : Code} {T' : State} {locs L : List Loc} {b : Addr} (X : Stand p l e R s m args below meth c T locs cells slots) (X' : Stand p l e R s m args below meth c T' L cells slots) (Ke : Keep T.heap T'.heap [b]) (n : Nat) (hn : ∀ c, T.heap[b]? = some c → c.slots.size ≤ n) :
    Stand p l e R s m args below meth c T' (locs ++ (List.range n).map fun i => (⟨b, i⟩ : Loc)) cells slots := by
  refine ⟨X'.admits, X'.cas, X'.clock, X'.frames, X'.room, X'.hears, X'.method, X'.code, X'.here, X'.tail, X'.warmed, X'.limits, X'.bytes, ?_⟩
  obtain ⟨p1, p2, p3, p4, p5, p6⟩ := X'.same
  obtain ⟨-, -, -, -, -, r6⟩ := X.same
  refine ⟨p1, p2, p3, p4, p5, fun a c hc => ?_⟩
  obtain ⟨c', q1, q2, q3, -⟩ := p6 a c hc
  refine ⟨c', q1, q2, q3, fun i hi => ?_⟩
  obtain ⟨c1, s1, s2, s3, s4⟩ := r6 a c hc
  by_cases hab : a = b
  · subst hab
    by_cases hlt : i < n
    · exact absurd (List.mem_append_right _ (List.mem_map.mpr ⟨i, List.mem_range.mpr hlt, rfl⟩)) hi
    · have hc1 : c1.slots.size ≤ n := hn c1 s1
      rw [Array.getElem?_eq_none (by omega), Array.getElem?_eq_none (by omega)]
  · have hk := Ke.2.1 a c1 s1 (by simp [hab])
    have : c' = c1 := Option.some.inj (q1.symm.trans hk)
    rw [this]
    exact s4 i (fun hm => hi (List.mem_append_left _ hm))
/-- System.arraycopy of numbers, between two arrays of one kind -/
theorem wCopy (W : Wk l Z EL own nm cd ml ret R ws h0 K sf T h cells slots) {index : Nat} (hd : decode cd pc = .ok (.invokestatic index, 3)) (w1 : (Cond.methodLink own index Jvm.Stand.acN).before a0 Z = true) (w2 : (Cond.native Jvm.Stand.acN).before a0 Z = true) (w3 : (Cond.static Jvm.Stand.acN).before a0 Z = true) (w4 : (Cond.initialized "java/lang/System").before a0 Z = true)
    {a b : Addr} (hb' : b ∈ sf) {k k' : ClassId} {ty : FieldType} {z z' sp dp nn : Int32} {vs vd us : List Value} {dv dd : Value} (A : Arv Z h a k ty z vs dv) (B : Arv Z h b k' ty z' vd dd) (hty : refKind ty = false) (h1 : ¬ sp < 0) (h2 : ¬ dp < 0) (h3 : ¬ nn < 0) (zN zN' spN dpN nN : Nat) (e1 : z.toNatClampNeg = zN) (e2 : z'.toNatClampNeg = zN') (e3 : sp.toNatClampNeg = spN) (e4 : dp.toNatClampNeg = dpN) (e5 : nn.toNatClampNeg = nN) (h4 : spN + nN ≤ zN) (h5 : dpN + nN ≤ zN')
    (hus : us = (List.range nN).map fun i => vs.getD (spN + i) dv) (hl : dpN + nN ≤ vd.length) (hsz : ls.size = ml) (hf : 1 ≤ R.frames) (Wd : Nat) (hW : (st.map fun v => v.category).sum ≤ Wd) (hlo : Wd + (nativeFrameWords "java/lang/System" "arraycopy" 5 + 11) ≤ R.locals) (hp : pc + 3 = pc')
    (kk : ∀ T' h', Wk l Z EL own nm cd ml ret R ws h0 K sf T' h' cells slots → Keep h h' [b] → Arv Z h' b k' ty z' (vd.take dpN ++ us ++ vd.drop (dpN + nN)) dd → Go K P T' pc' ls st) : Go K P T pc ls (.int nn :: .int dp :: .ref b :: .int sp :: .ref a :: st) := by
  subst e1 e2 e3 e4 e5
  obtain ⟨vm0, locs, k0, X, e, hx, hc, e0, hZ, hown, hS, hk, hL, hC, hO, hE, hw, hz, hs⟩ := W
  subst hp
  obtain ⟨T', h', L, X', e', -, Ke, B', f⟩ := cpA X hx hZ hown w1 w2 w3 w4 e A B (Or.inl ⟨rfl, hty⟩) h1 h2 h3 h4 h5 hus hl (n0 := 0) (fun _ _ => Nat.zero_le _) (Nat.zero_le _) (g := mkF K.2.2.2.1 pc ls (.int nn :: .int dp :: .ref b :: .int sp :: .ref a :: st)) rfl (hsz.trans hc.2.1.symm) rfl (hb hc.1 hd) hf (W := Wd) (by show 2 * 0 + _ ≤ _; omega) hlo
  obtain ⟨s1, s2, s3⟩ := hs b hb'
  obtain ⟨cl, B1, -, B3, -⟩ := B
  have X2 := locsAt X X' (by rw [e, e']; exact Ke) z'.toNatClampNeg (fun c hc => by rw [e] at hc; cases hc.symm.trans B1.1; exact Nat.le_of_eq B3)
  have C1 : CHr Z EL vm0 h vm0 h' := CHr.keep Ke (fun x q => by cases List.mem_singleton.mp q; exact s1) hC.1
  obtain ⟨a1, a2, a3, a4⟩ := wAfter (s := K.2.2.1) (so := []) (wsc := [b]) (L := (List.range z'.toNatClampNeg).map fun i => (⟨b, i⟩ : Loc)) hC hs hL hO hw hz (fun x q => by cases List.mem_singleton.mp q; exact hb') (fun x q => nomatch q) (fun x q => Or.inl (by obtain ⟨i, -, rfl⟩ := List.mem_map.mp q; exact List.mem_singleton.mpr rfl)) Ke C1
  exact Go.stp f (kk T' h' ⟨vm0, _, k0, X2, e', hx, hc, e0, hZ, hown, hS, Nat.le_trans hk Ke.1, a3, a1, a4, hE, hw, hz, a2⟩ Ke B')
end More
section Starts
/-- a term that is said to equal an int -/
theorem eqI_v {args : Array Value} {first s : State} {o : Option Outcome} {idx : List Nat} {t : Term} {n : Int32} (h : (Cond.eq t (.int n)).value args first o s idx = some true) : t.eval args first o idx s = some (.int n) := by
  cases ht : t.eval args first o idx s with
  | none => simp [Cond.value, Term.eval, ht] at h
  | some x => cases x <;> simp [Cond.value, Term.eval, ht] at h ⊢; exact h
/-- a term that is said to equal one that is an object -/
theorem eqR_v {args : Array Value} {first s : State} {o : Option Outcome} {idx : List Nat} {t u : Term} {r : Addr} (h : (Cond.eq t u).value args first o s idx = some true) (hu : u.eval args first o idx s = some (.ref r)) : t.eval args first o idx s = some (.ref r) := by
  cases ht : t.eval args first o idx s with
  | none => simp [Cond.value, ht] at h
  | some x => cases x <;> simp [Cond.value, hu, ht] at h ⊢; exact h
theorem arvStart {Z : State} {args : Array Value} {t : Term} {a : Addr} {ty : FieldType} {z : Int32} {vs : List Value} {dv : Value} (hf : Fit Z) (ev : t.eval args Z none [] Z = some (.ref a)) (hx : (Cond.arrayOf t ty).value args Z none Z [] = some true) (hlen : (Cond.eq (Term.length t) (.int z)).value args Z none Z [] = some true) (hz : ¬ z < 0) (hl : z.toNatClampNeg = vs.length) (H : ∀ cl, Z.heap[a]? = some cl → HasL cl 0 vs) : ∃ k, Arv Z Z.heap a k ty z vs dv := by
  obtain ⟨c, A⟩ := Arr.start ev hx
  have hL := eqI_v hlen
  simp only [Term.eval, ev, Option.bind_eq_bind, Option.bind_some] at hL
  obtain ⟨cl, hc, h2⟩ := Option.bind_eq_some_iff.mp hL
  by_cases hn : cl.slots.size < 2147483648
  · rw [if_pos hn] at h2
    have e1 : Z.heap[a]? = some cl := (State.arrayAt?_spec hc).1
    have e2 : cl.slots.size.toInt32 = z := by have q := Option.some.inj h2; injection q
    have e3 : cl = c := Option.some.inj (e1.symm.trans A.1)
    subst e3
    exact ⟨_, Arv.start hf A hn e2 hz hl (H _ A.1)⟩
  · rw [if_neg hn] at h2; cases h2
/-- an element, read -/
theorem elem_h {Z : State} {args : Array Value} {t : Term} {a : Addr} {j : Int32} {v : Value} {cl : Cell} (ev : t.eval args Z none [] Z = some (.ref a)) (he : (Term.elem t (.int j)).eval args Z none [] Z = some v) (hc : Z.heap[a]? = some cl) (i : Nat) (hi : j.toNatClampNeg = i) : cl.slots[i]? = some v := hi ▸ (elem_in he ev (Term.int_eval j) hc).2
end Starts
end Jvm.Own
/- laws to paste: Road.backV, Road.lenW, Road.chN, Road.empW (cut by pick.py; bodies as the Statement names them) -/
namespace Jvm.Pilot.@@N@@
namespace StrChars
open Jvm Sem ClassFile Op Lib Jvm.Stand Jvm.Free.XT Jvm.Free.ALB Jvm.Free.JM Jvm.Free
open Jvm.Lib.Cold (StaticIs)
/-- a char array whose places are chars -/
def Ch (a : Addr) (A : Cell) (U : State) : Prop := Arr .char a A U ∧ Typed .char A
theorem Ch.mv {a : Addr} {A : Cell} {U U' : State} (h : Ch a A U) (hal : U.vm.Alike U'.vm) (hh : U'.heap = U.heap) : Ch a A U' := ⟨h.1.mv hal hh, h.2⟩
theorem Ch.keep {a : Addr} {A : Cell} {U U' : State} (h : Ch a A U) (hal : U.vm.Alike U'.vm) (hk : U'.heap[a]? = some A) : Ch a A U' := ⟨h.1.keep hal hk, h.2⟩
/-- what place i of a char[]'s cell holds -/
def cv (A : Cell) (i : Nat) : Int32 := match A.slots[i]? with | some (.int x) => x | _ => 0
theorem Ch.get {a : Addr} {A : Cell} {U : State} (h : Ch a A U) {i : Nat} (hi : i < A.slots.size) : A.slots[i]? = some (.int (cv A i)) := by
  have e := Array.getElem?_eq_getElem hi
  have f := h.2 i _ e
  unfold cv; rw [e]
  generalize A.slots[i] = v at f
  cases v <;> simp [fits] at f ⊢
/-- the byte that i2b leaves of a char -/
def lo8 (x : Int32) : Int32 := x.toInt8.toInt32
theorem fits_lo8 (y : Int32) : fits .byte (.int (lo8 y)) = true := by
  have h1 := y.toInt8.le_toInt
  have h2 := y.toInt8.toInt_lt
  simp only [lo8, fits, Bool.and_eq_true, decide_eq_true_eq, Int32.le_iff_toInt_le, Int8.toInt_toInt32, show (-128 : Int32).toInt = -128 from by decide, show (127 : Int32).toInt = 127 from by decide]
  omega
/-- A' is A but that each place j of lo .. hi - 1 holds f j -/
def Laid (A A' : Cell) (lo hi : Nat) (f : Nat → Value) : Prop := A'.cls = A.cls ∧ A'.vm = A.vm ∧ A'.slots.size = A.slots.size ∧ ∀ i, A'.slots[i]? = if lo ≤ i ∧ i < hi then some (f i) else A.slots[i]?
theorem Laid.zero (A : Cell) (lo : Nat) (f : Nat → Value) : Laid A A lo (lo + 0) f := ⟨rfl, rfl, rfl, fun i => by rw [if_neg (by omega)]⟩
theorem Laid.step {A Ak : Cell} {lo k : Nat} {f : Nat → Value} {v : Value} (h : Laid A Ak lo k f) (hlo : lo ≤ k) (hk : k < Ak.slots.size) (hv : v = f k) : Laid A (Ak.setSlot k v) lo (k + 1) f := by
  refine ⟨h.1, h.2.1, by simpa [Cell.setSlot] using h.2.2.1, fun i => ?_⟩
  by_cases e : k = i
  · subst e; rw [Cell.slots_setSlot_self v hk, if_pos (by omega), hv]
  · rw [Cell.slots_setSlot_ne v e, h.2.2.2 i]
    by_cases q : lo ≤ i ∧ i < k
    · rw [if_pos q, if_pos (by omega)]
    · rw [if_neg q, if_neg (by omega)]
def U16 : String := "java/lang/StringUTF16"
namespace Cmp5
def yN : MethodName := ⟨"java/lang/StringUTF16", "compress", "([CI[BII)I"⟩
abbrev yB : ByteArray := jdk_52_method_21_code
theorem d0 : decode yB 0 = .ok (.iconst 0, 1) := by decide +kernel
theorem d1 : decode yB 1 = .ok (.istore 5, 2) := by decide +kernel
theorem d3 : decode yB 3 = .ok (.iload 5, 2) := by decide +kernel
theorem d5 : decode yB 5 = .ok (.iload 4, 2) := by decide +kernel
theorem d7 : decode yB 7 = .ok (.if_icmp (.ge) 37, 3) := by decide +kernel
theorem d10 : decode yB 10 = .ok (.aload_n 0, 1) := by decide +kernel
theorem d11 : decode yB 11 = .ok (.iload_n 1, 1) := by decide +kernel
theorem d12 : decode yB 12 = .ok (.caload, 1) := by decide +kernel
theorem d13 : decode yB 13 = .ok (.istore 6, 2) := by decide +kernel
theorem d15 : decode yB 15 = .ok (.iload 6, 2) := by decide +kernel
theorem d17 : decode yB 17 = .ok (.sipush 255, 3) := by decide +kernel
theorem d20 : decode yB 20 = .ok (.if_icmp (.le) 6, 3) := by decide +kernel
theorem d26 : decode yB 26 = .ok (.aload_n 2, 1) := by decide +kernel
theorem d27 : decode yB 27 = .ok (.iload_n 3, 1) := by decide +kernel
theorem d28 : decode yB 28 = .ok (.iload 6, 2) := by decide +kernel
theorem d30 : decode yB 30 = .ok (.i2b, 1) := by decide +kernel
theorem d31 : decode yB 31 = .ok (.bastore, 1) := by decide +kernel
theorem d32 : decode yB 32 = .ok (.iinc 1 1, 3) := by decide +kernel
theorem d35 : decode yB 35 = .ok (.iinc 3 1, 3) := by decide +kernel
theorem d38 : decode yB 38 = .ok (.iinc 5 1, 3) := by decide +kernel
theorem d41 : decode yB 41 = .ok (.goto (-38), 3) := by decide +kernel
theorem d44 : decode yB 44 = .ok (.iload 4, 2) := by decide +kernel
theorem d46 : decode yB 46 = .ok (.ireturn, 1) := by decide +kernel
def site : List Cond := []
def tab : Cond := tabOf yN yB 7 (some .int) site
def P (b : Addr) (A : Cell) (d : Addr) (B : Cell) (o q len : Nat) (args : Array Value) (s : State) : Prop := args = #[.ref b, .int (Int32.ofNat o), .ref d, .int (Int32.ofNat q), .int (Int32.ofNat len)] ∧ Ch b A s ∧ Arr .byte d B s ∧ b ≠ d ∧ o + len ≤ A.slots.size ∧ q + len ≤ B.slots.size ∧ ∀ i, i < len → ¬ 255 < cv A (o + i)
def E (b : Addr) (A : Cell) (d : Addr) (B : Cell) (o q len : Nat) (r : Option Value) (s u : State) : Prop := r = some (.int (Int32.ofNat len)) ∧ ∃ B', Put d B' s u ∧ Laid B B' q (q + len) (fun j => Value.int (lo8 (cv A (o + (j - q)))))
/-- no char of the range above 255: len; the places written hold each char's low byte -/
theorem law (l : Launch) (b : Addr) (A : Cell) (d : Addr) (B : Cell) (o q len : Nat) : Law l yN 5 5 0 0 yB 7 (some .int) site (P b A d B o q len) (E b A d B o q len) (copyLocs d q len) 0 0 := by
  refine Law.of_walk (plainFor_of_name (by decide +kernel)) (by decide +kernel) (by decide +kernel) (by decide) (fun _ _ h => by rw [h.1]; rfl) (fun _ U U' hal hh h => ⟨h.1, h.2.1.mv hal hh, h.2.2.1.mv hal hh, h.2.2.2⟩) (fun r U U' V V' h1 hal h2 h => ⟨h.1, h.2.elim fun B' q => ⟨B', q.1.mv h1 h2, q.2⟩⟩) ?_
  intro p e s m args below meth c s₁ X0 hexec hbytes hml hret hlk hnm hown hh0 W hP
  obtain ⟨rfl, hA, hB, hne, l1, l2, hp⟩ := hP
  have c1 : Steps p.tables e below (s₁.setTop (entryFrame m #[.ref b, .int (Int32.ofNat o), .ref d, .int (Int32.ofNat q), .int (Int32.ofNat len)] 7)) (s₁.setTop (mkF m 0 #[.val (.ref b), .val (.int (Int32.ofNat o)), .val (.ref d), .val (.int (Int32.ofNat q)), .val (.int (Int32.ofNat len)), .unset, .unset] [])) := entry rfl
  have hA0 := hA.1.mv X0.warmed.alike hh0
  have hB0 := hB.mv X0.warmed.alike hh0
  have a31 := hA.1.2.2.2
  have c2 : Steps p.tables e below (s₁.setTop (entryFrame m #[.ref b, .int (Int32.ofNat o), .ref d, .int (Int32.ofNat q), .int (Int32.ofNat len)] 7)) (s₁.setTop (mkF m 3 #[.val (.ref b), .val (.int (Int32.ofNat o)), .val (.ref d), .val (.int (Int32.ofNat q)), .val (.int (Int32.ofNat len)), .val (.int 0), .unset] [])) := c1.trans (by
    refine iconstV X0.here hexec rfl 0 (hb hbytes d0) (by decide) ?_
    refine XS.istore X0.here hexec rfl (hb hbytes d1) rfl rfl ?_
    exact Steps.refl _)
  have loop : ∀ (r i : Nat), i + r = len → ∀ (z : Slot), (z = .unset ∨ ∃ w, z = .val w ∧ w.category = 1) → ∀ (Tl : State) (Bk : Cell), Stand p l e { frames := 0, locals := 0, cells := 0, slots := 0 } s m #[.ref b, .int (Int32.ofNat o), .ref d, .int (Int32.ofNat q), .int (Int32.ofNat len)] below meth c Tl ([] ++ copyLocs d q i) 0 0 → Put d Bk s₁ Tl → Laid B Bk q (q + i) (fun j => Value.int (lo8 (cv A (o + (j - q))))) →
      Steps p.tables e below (s₁.setTop (entryFrame m #[.ref b, .int (Int32.ofNat o), .ref d, .int (Int32.ofNat q), .int (Int32.ofNat len)] 7)) (Tl.setTop (mkF m 3 #[.val (.ref b), .val (.int (Int32.ofNat (o + i))), .val (.ref d), .val (.int (Int32.ofNat (q + i))), .val (.int (Int32.ofNat len)), .val (.int (Int32.ofNat i)), z] [])) → ∃ (T' : State) (B' : Cell) (z' : Slot), Stand p l e { frames := 0, locals := 0, cells := 0, slots := 0 } s m #[.ref b, .int (Int32.ofNat o), .ref d, .int (Int32.ofNat q), .int (Int32.ofNat len)] below meth c T' ([] ++ copyLocs d q len) 0 0 ∧ Put d B' s₁ T' ∧ Laid B B' q (q + len) (fun j => Value.int (lo8 (cv A (o + (j - q))))) ∧
      Steps p.tables e below (s₁.setTop (entryFrame m #[.ref b, .int (Int32.ofNat o), .ref d, .int (Int32.ofNat q), .int (Int32.ofNat len)] 7)) (T'.setTop (mkF m 3 #[.val (.ref b), .val (.int (Int32.ofNat (o + len))), .val (.ref d), .val (.int (Int32.ofNat (q + len))), .val (.int (Int32.ofNat len)), .val (.int (Int32.ofNat len)), z'] [])) := by
    intro r
    induction r with
    | zero =>
      intro i hi z hz Tl Bk Xl pl fl cl
      have hil : i = len := by omega
      rw [hil] at Xl fl cl
      exact ⟨Tl, Bk, z, Xl, pl, fl, cl⟩
    | succ r ih =>
      intro i hi z hz Tl Bk Xl pl fl cl
      have all := X0.warmed.alike.symm.trans Xl.warmed.alike
      have hAl := hA0.keep all (pl.other hne hA0.1)
      have hBk := hB0.like all pl.1 fl.1 fl.2.1 fl.2.2.1
      have hlt : q + i < Bk.slots.size := by rw [fl.2.2.1]; omega
      have c3 : Steps p.tables e below (s₁.setTop (entryFrame m #[.ref b, .int (Int32.ofNat o), .ref d, .int (Int32.ofNat q), .int (Int32.ofNat len)] 7)) (Tl.setTop (mkF m 12 #[.val (.ref b), .val (.int (Int32.ofNat (o + i))), .val (.ref d), .val (.int (Int32.ofNat (q + i))), .val (.int (Int32.ofNat len)), .val (.int (Int32.ofNat i)), z] [.int (Int32.ofNat (o + i)), .ref b])) := cl.trans (by
        refine XS.iload Xl.here hexec rfl (hb hbytes d3) rfl ?_
        refine XS.iload Xl.here hexec rfl (hb hbytes d5) rfl ?_
        refine XS.icmpNo Xl.here hexec rfl (hb hbytes d7) rfl (ii_ge_f (lt32 (by omega) (by omega))) ?_
        refine XS.aloadN Xl.here hexec rfl (hb hbytes d10) rfl rfl ?_
        refine XS.iloadN Xl.here hexec rfl (hb hbytes d11) rfl ?_
        exact Steps.refl _)
      have c4 : Steps p.tables e below (s₁.setTop (entryFrame m #[.ref b, .int (Int32.ofNat o), .ref d, .int (Int32.ofNat q), .int (Int32.ofNat len)] 7)) (Tl.setTop (mkF m 13 #[.val (.ref b), .val (.int (Int32.ofNat (o + i))), .val (.ref d), .val (.int (Int32.ofNat (q + i))), .val (.int (Int32.ofNat len)), .val (.int (Int32.ofNat i)), z] [.int (cv A (o + i))])) := c3.trans (by
        refine Xl.aget hexec hAl rfl (hA.get (i := o + i) (by omega)) rfl rfl (hb hbytes d12) ?_
        exact Steps.refl _)
      have c5 : Steps p.tables e below (s₁.setTop (entryFrame m #[.ref b, .int (Int32.ofNat o), .ref d, .int (Int32.ofNat q), .int (Int32.ofNat len)] 7)) (Tl.setTop (mkF m 15 #[.val (.ref b), .val (.int (Int32.ofNat (o + i))), .val (.ref d), .val (.int (Int32.ofNat (q + i))), .val (.int (Int32.ofNat len)), .val (.int (Int32.ofNat i)), .val (.int (cv A (o + i)))] [])) := c4.trans (by
        refine XS.istoreS Xl.here hexec rfl (hb hbytes d13) rfl rfl hz ?_
        exact Steps.refl _)
      have c6 : Steps p.tables e below (s₁.setTop (entryFrame m #[.ref b, .int (Int32.ofNat o), .ref d, .int (Int32.ofNat q), .int (Int32.ofNat len)] 7)) (Tl.setTop (mkF m 31 #[.val (.ref b), .val (.int (Int32.ofNat (o + i))), .val (.ref d), .val (.int (Int32.ofNat (q + i))), .val (.int (Int32.ofNat len)), .val (.int (Int32.ofNat i)), .val (.int (cv A (o + i)))] [.int (lo8 (cv A (o + i))), .int (Int32.ofNat (q + i)), .ref d])) := c5.trans (by
        refine XS.iload Xl.here hexec rfl (hb hbytes d15) rfl ?_
        refine sipushV Xl.here hexec rfl 255 (hb hbytes d17) (by decide) ?_
        refine XS.icmpYes Xl.here hexec rfl (pc0 := 20) rfl (hb hbytes d20) rfl (ii_le_t (hp i (by omega))) (by decide) rfl ?_
        refine XS.aloadN Xl.here hexec rfl (hb hbytes d26) rfl rfl ?_
        refine XS.iloadN Xl.here hexec rfl (hb hbytes d27) rfl ?_
        refine XS.iload Xl.here hexec rfl (hb hbytes d28) rfl ?_
        refine i2b Xl.here hexec rfl (hb hbytes d30) rfl ?_
        exact Steps.refl _)
      obtain ⟨T7, X7, p7, st7⟩ := Xl.aput hexec hBk rfl hlt rfl (fits_lo8 (cv A (o + i))) (g := (mkF m 31 #[.val (.ref b), .val (.int (Int32.ofNat (o + i))), .val (.ref d), .val (.int (Int32.ofNat (q + i))), .val (.int (Int32.ofNat len)), .val (.int (Int32.ofNat i)), .val (.int (cv A (o + i)))] [.int (lo8 (cv A (o + i))), .int (Int32.ofNat (q + i)), .ref d])) rfl (rest := []) rfl (hb hbytes d31)
      have c8 : Steps p.tables e below (s₁.setTop (entryFrame m #[.ref b, .int (Int32.ofNat o), .ref d, .int (Int32.ofNat q), .int (Int32.ofNat len)] 7)) (T7.setTop (mkF m 32 #[.val (.ref b), .val (.int (Int32.ofNat (o + i))), .val (.ref d), .val (.int (Int32.ofNat (q + i))), .val (.int (Int32.ofNat len)), .val (.int (Int32.ofNat i)), .val (.int (cv A (o + i)))] [])) := c6.trans (st7 _ (Steps.refl _))
      have c9 : Steps p.tables e below (s₁.setTop (entryFrame m #[.ref b, .int (Int32.ofNat o), .ref d, .int (Int32.ofNat q), .int (Int32.ofNat len)] 7)) (T7.setTop (mkF m 3 #[.val (.ref b), .val (.int (Int32.ofNat (o + i) + 1)), .val (.ref d), .val (.int (Int32.ofNat (q + i) + 1)), .val (.int (Int32.ofNat len)), .val (.int (Int32.ofNat i + 1)), .val (.int (cv A (o + i)))] [])) := c8.trans (by
        refine iincV X7.here hexec rfl 1 (hb hbytes d32) (by decide) rfl rfl ?_
        refine iincV X7.here hexec rfl 1 (hb hbytes d35) (by decide) rfl rfl ?_
        refine iincV X7.here hexec rfl 1 (hb hbytes d38) (by decide) rfl rfl ?_
        refine XS.goto X7.here hexec rfl (pc0 := 41) rfl (hb hbytes d41) (by decide) rfl ?_
        exact Steps.refl _)
      have c10 : Steps p.tables e below (s₁.setTop (entryFrame m #[.ref b, .int (Int32.ofNat o), .ref d, .int (Int32.ofNat q), .int (Int32.ofNat len)] 7)) (T7.setTop (mkF m 3 #[.val (.ref b), .val (.int (Int32.ofNat (o + (i + 1)))), .val (.ref d), .val (.int (Int32.ofNat (q + (i + 1)))), .val (.int (Int32.ofNat len)), .val (.int (Int32.ofNat (i + 1))), .val (.int (cv A (o + i)))] [])) := by
        have := c9
        rw [succ32, succ32, succ32] at this
        exact this
      exact ih (i + 1) (by omega) _ (Or.inr ⟨_, rfl, rfl⟩) T7 _ (by rw [copyLocs_step, ← List.append_assoc]; exact X7) (pl.trans p7) (fl.step (by omega) hlt (by simp)) c10
  obtain ⟨T9, B9, z9, X9, p9, f9, g9⟩ := loop len 0 (by omega) .unset (Or.inl rfl) s₁ B (by simpa [copyLocs] using X0) ⟨hB0.1, fun _ _ => rfl, rfl⟩ (Laid.zero _ _ _) c2
  have c11 : Steps p.tables e below (s₁.setTop (entryFrame m #[.ref b, .int (Int32.ofNat o), .ref d, .int (Int32.ofNat q), .int (Int32.ofNat len)] 7)) (T9.setTop (mkF m 46 #[.val (.ref b), .val (.int (Int32.ofNat (o + len))), .val (.ref d), .val (.int (Int32.ofNat (q + len))), .val (.int (Int32.ofNat len)), .val (.int (Int32.ofNat len)), z9] [.int (Int32.ofNat len)])) := g9.trans (by
    refine XS.iload X9.here hexec rfl (hb hbytes d3) rfl ?_
    refine XS.iload X9.here hexec rfl (hb hbytes d5) rfl ?_
    refine XS.icmpYes X9.here hexec rfl (pc0 := 7) rfl (hb hbytes d7) rfl (ii_ge_t (nlt32 (by omega) (Nat.le_refl _))) (by decide) rfl ?_
    refine XS.iload X9.here hexec rfl (hb hbytes d44) rfl ?_
    exact Steps.refl _)
  exact ⟨T9, some (.int (Int32.ofNat len)), _, _, _, X9, by simp, rfl, rfl, (fun h => by cases h), ⟨rfl, B9, p9.from hh0, f9⟩, fun fs hl => c11.trans (X9.ireturnOut hexec hret rfl (Or.inl rfl) (hb hbytes d46) hl)⟩
end Cmp5
namespace Cmp3
def yN : MethodName := ⟨"java/lang/StringUTF16", "compress", "([CII)[B"⟩
abbrev yB : ByteArray := jdk_52_method_16_code
theorem d0 : decode yB 0 = .ok (.iload_n 2, 1) := by decide +kernel
theorem d1 : decode yB 1 = .ok (.newarray .byte, 2) := by decide +kernel
theorem d3 : decode yB 3 = .ok (.astore_n 3, 1) := by decide +kernel
theorem d4 : decode yB 4 = .ok (.aload_n 0, 1) := by decide +kernel
theorem d5 : decode yB 5 = .ok (.iload_n 1, 1) := by decide +kernel
theorem d6 : decode yB 6 = .ok (.aload_n 3, 1) := by decide +kernel
theorem d7 : decode yB 7 = .ok (.iconst 0, 1) := by decide +kernel
theorem d8 : decode yB 8 = .ok (.iload_n 2, 1) := by decide +kernel
theorem d9 : decode yB 9 = .ok (.invokestatic 115, 3) := by decide +kernel
theorem d12 : decode yB 12 = .ok (.istore 4, 2) := by decide +kernel
theorem d14 : decode yB 14 = .ok (.iload 4, 2) := by decide +kernel
theorem d16 : decode yB 16 = .ok (.iload_n 2, 1) := by decide +kernel
theorem d17 : decode yB 17 = .ok (.if_icmp (.eq) 40, 3) := by decide +kernel
theorem d57 : decode yB 57 = .ok (.aload_n 3, 1) := by decide +kernel
theorem d58 : decode yB 58 = .ok (.areturn, 1) := by decide +kernel
def site : List Cond := [.arrayClass .byte, Cmp5.tab] ++ staticW U16 115 Cmp5.yN
def tab : Cond := tabOf yN yB 6 (some (.array .byte)) site
def P (b : Addr) (A : Cell) (o len : Nat) (args : Array Value) (s : State) : Prop := args = #[.ref b, .int (Int32.ofNat o), .int (Int32.ofNat len)] ∧ Ch b A s ∧ o + len ≤ A.slots.size ∧ len ≤ 536870912 ∧ ∀ i, i < len → ¬ 255 < cv A (o + i)
def E (b : Addr) (A : Cell) (o len : Nat) (r : Option Value) (s u : State) : Prop := NewArr .byte "[B" len (fun j => .int (lo8 (cv A (o + j)))) r s u ∧ u.heap.size = s.heap.size + 1
/-- no char of the range above 255: a new byte[] of their low bytes -/
theorem law (l : Launch) (b : Addr) (A : Cell) (o len : Nat) : Law l yN 3 3 1 18 yB 6 (some (.array .byte)) site (P b A o len) (E b A o len) [] 1 len := by
  refine Law.of_walk (plainFor_of_name (by decide +kernel)) (by decide +kernel) (by decide +kernel) (by decide) (fun _ _ h => by rw [h.1]; rfl) (fun _ U U' hal hh h => ⟨h.1, h.2.1.mv hal hh, h.2.2⟩) (fun r U U' V V' h1 hal h2 h => ⟨NewArr.mv r U U' V V' h1 hal h2 h.1, by rw [h1, h2]; exact h.2⟩) ?_
  intro p e s m args below meth c s₁ X0 hexec hbytes hml hret hlk hnm hown hh0 W hP
  obtain ⟨rfl, hA, l1, l2, hp⟩ := hP
  have a31 := hA.1.2.2.2
  have c1 : Steps p.tables e below (s₁.setTop (entryFrame m #[.ref b, .int (Int32.ofNat o), .int (Int32.ofNat len)] 6)) (s₁.setTop (mkF m 0 #[.val (.ref b), .val (.int (Int32.ofNat o)), .val (.int (Int32.ofNat len)), .unset, .unset, .unset] [])) := entry rfl
  have c2 : Steps p.tables e below (s₁.setTop (entryFrame m #[.ref b, .int (Int32.ofNat o), .int (Int32.ofNat len)] 6)) (s₁.setTop (mkF m 1 #[.val (.ref b), .val (.int (Int32.ofNat o)), .val (.int (Int32.ofNat len)), .unset, .unset, .unset] [.int (Int32.ofNat len)])) := c1.trans (by
    refine XS.iloadN X0.here hexec rfl (hb hbytes d0) rfl ?_
    exact Steps.refl _)
  obtain ⟨T3, B3, X3, ba3, bs3, bv3, bh3, bf3, st3⟩ := X0.anew hexec (atype := .byte) (wk W (.arrayClass .byte)) rfl (by show len * 1 ≤ _; omega) (by omega) (g := (mkF m 1 #[.val (.ref b), .val (.int (Int32.ofNat o)), .val (.int (Int32.ofNat len)), .unset, .unset, .unset] [.int (Int32.ofNat len)])) rfl (hb hbytes d1) (rest := []) rfl (Nat.le_refl _) (by show 0 + len ≤ len; omega)
  rw [hh0] at ba3 st3
  have kp3 : XT.Kept s T3 := (XT.Kept.of_eq hh0).push bh3
  have hA3 := hA.keep X3.warmed.alike (kp3 _ _ hA.1.1)
  have hne : b ≠ s.heap.size := hA.1.ne
  have c4 : Steps p.tables e below (s₁.setTop (entryFrame m #[.ref b, .int (Int32.ofNat o), .int (Int32.ofNat len)] 6)) (T3.setTop (mkF m 3 #[.val (.ref b), .val (.int (Int32.ofNat o)), .val (.int (Int32.ofNat len)), .unset, .unset, .unset] [.ref s.heap.size])) := c2.trans (st3 _ (Steps.refl _))
  have c5 : Steps p.tables e below (s₁.setTop (entryFrame m #[.ref b, .int (Int32.ofNat o), .int (Int32.ofNat len)] 6)) (T3.setTop (mkF m 9 #[.val (.ref b), .val (.int (Int32.ofNat o)), .val (.int (Int32.ofNat len)), .val (.ref s.heap.size), .unset, .unset] [.int (Int32.ofNat len), .int 0, .ref s.heap.size, .int (Int32.ofNat o), .ref b])) := c4.trans (by
    refine XS.astoreN X3.here hexec rfl (hb hbytes d3) rfl rfl rfl ?_
    refine XS.aloadN X3.here hexec rfl (hb hbytes d4) rfl rfl ?_
    refine XS.iloadN X3.here hexec rfl (hb hbytes d5) rfl ?_
    refine XS.aloadN X3.here hexec rfl (hb hbytes d6) rfl rfl ?_
    refine iconstV X3.here hexec rfl 0 (hb hbytes d7) (by decide) ?_
    refine XS.iloadN X3.here hexec rfl (hb hbytes d8) rfl ?_
    exact Steps.refl _)
  obtain ⟨v6, T6, X6, E6, g6⟩ := X3.callS hexec (Cmp5.law l b A s.heap.size B3 o 0 len) hown (wks W (staticW U16 115 Cmp5.yN)) (wk W Cmp5.tab) (W := 0) (Nat.le_of_ble_eq_true rfl) (Nat.le_of_ble_eq_true rfl) (Nat.le_refl _) (by show 0 + len + 0 ≤ len; omega) (g := (mkF m 9 #[.val (.ref b), .val (.int (Int32.ofNat o)), .val (.int (Int32.ofNat len)), .val (.ref s.heap.size), .unset, .unset] [.int (Int32.ofNat len), .int (Int32.ofNat 0), .ref s.heap.size, .int (Int32.ofNat o), .ref b])) rfl (by rw [hml]; rfl) c5 (argsL := [.ref b, .int (Int32.ofNat o), .ref s.heap.size, .int (Int32.ofNat 0), .int (Int32.ofNat len)]) (rest := []) rfl rfl (by show 2 * 0 + 0 ≤ _; decide) (hb hbytes d9) (⟨rfl, hA3, ba3, hne, l1, by rw [bs3]; simp, hp⟩)
  obtain ⟨rfl, B6, p6, f6⟩ := E6
  have c7 : Steps p.tables e below (s₁.setTop (entryFrame m #[.ref b, .int (Int32.ofNat o), .int (Int32.ofNat len)] 6)) (T6.setTop (mkF m 12 #[.val (.ref b), .val (.int (Int32.ofNat o)), .val (.int (Int32.ofNat len)), .val (.ref s.heap.size), .unset, .unset] [.int (Int32.ofNat len)])) := g6
  have c8 : Steps p.tables e below (s₁.setTop (entryFrame m #[.ref b, .int (Int32.ofNat o), .int (Int32.ofNat len)] 6)) (T6.setTop (mkF m 58 #[.val (.ref b), .val (.int (Int32.ofNat o)), .val (.int (Int32.ofNat len)), .val (.ref s.heap.size), .val (.int (Int32.ofNat len)), .unset] [.ref s.heap.size])) := c7.trans (by
    refine XS.istore X6.here hexec rfl (hb hbytes d12) rfl rfl ?_
    refine XS.iload X6.here hexec rfl (hb hbytes d14) rfl ?_
    refine XS.iloadN X6.here hexec rfl (hb hbytes d16) rfl ?_
    refine XS.icmpYes X6.here hexec rfl (pc0 := 17) rfl (hb hbytes d17) rfl (ii_eq_t rfl) (by decide) rfl ?_
    refine XS.aloadN X6.here hexec rfl (hb hbytes d57) rfl rfl ?_
    exact Steps.refl _)
  have X8 := X6.wide (L' := []) (cells' := 1) (slots' := len) (fun x hx hlt => by
    simp only [List.nil_append, copyLocs, List.mem_map, List.mem_range] at hx
    obtain ⟨i, -, rfl⟩ := hx
    exact absurd hlt (Nat.lt_irrefl _)) (Nat.le_refl _) (by omega)
  exact ⟨T6, some (.ref s.heap.size), _, _, _, X8, rfl, rfl, rfl, (fun h => by cases h), ⟨⟨rfl, B6, ba3.like (X3.warmed.alike.symm.trans X6.warmed.alike) p6.1 f6.1 f6.2.1 f6.2.2.1, f6.2.1.trans bv3, by rw [X6.warmed.alike.findClass, f6.1]; exact bf3, by rw [f6.2.2.1, bs3]; simp, fun j hj => by rw [f6.2.2.2 j, if_pos (by omega)]; rfl, kp3.put p6 (Nat.le_refl _)⟩, by rw [p6.2.2, bh3, hh0]; simp⟩, fun fs hl => c8.trans (X8.areturnOut hexec rfl hret rfl (hb hbytes d58) hl)⟩
end Cmp3
namespace CodL
def yN : MethodName := ⟨"java/lang/StringUTF16", "coderFromArrayLen", "([BI)B"⟩
abbrev yB : ByteArray := jdk_52_method_15_code
theorem d0 : decode yB 0 = .ok (.iload_n 1, 1) := by decide +kernel
theorem d1 : decode yB 1 = .ok (.aload_n 0, 1) := by decide +kernel
theorem d2 : decode yB 2 = .ok (.arraylength, 1) := by decide +kernel
theorem d3 : decode yB 3 = .ok (.isub, 1) := by decide +kernel
theorem d4 : decode yB 4 = .ok (.bipush 31, 2) := by decide +kernel
theorem d6 : decode yB 6 = .ok (.iushr, 1) := by decide +kernel
theorem d7 : decode yB 7 = .ok (.i2b, 1) := by decide +kernel
theorem d8 : decode yB 8 = .ok (.ireturn, 1) := by decide +kernel
def site : List Cond := []
def tab : Cond := tabOf yN yB 2 (some .byte) site
def P (d : Addr) (B : Cell) (args : Array Value) (s : State) : Prop := args = #[.ref d, .int (Int32.ofNat B.slots.size)] ∧ Arr .byte d B s
def E (r : Option Value) (s u : State) : Prop := XT.PureE (some (.int 0)) r s u
/-- an array as long as the number of chars: LATIN1 -/
theorem law (l : Launch) (d : Addr) (B : Cell) : Law l yN 2 2 0 0 yB 2 (some .byte) site (P d B) E [] 0 0 := by
  refine Law.of_walk (plainFor_of_name (by decide +kernel)) (by decide +kernel) (by decide +kernel) (by decide) (fun _ _ h => by rw [h.1]; rfl) (fun _ U U' hal hh h => ⟨h.1, h.2.mv hal hh⟩) (fun r U U' V V' h1 hal h2 h => XT.PureE.mv r U U' V V' h1 hal h2 h) ?_
  intro p e s m args below meth c s₁ X0 hexec hbytes hml hret hlk hnm hown hh0 W hP
  obtain ⟨rfl, hB⟩ := hP
  have hB0 := hB.mv X0.warmed.alike hh0
  have c1 : Steps p.tables e below (s₁.setTop (entryFrame m #[.ref d, .int (Int32.ofNat B.slots.size)] 2)) (s₁.setTop (mkF m 0 #[.val (.ref d), .val (.int (Int32.ofNat B.slots.size))] [])) := entry rfl
  have c2 : Steps p.tables e below (s₁.setTop (entryFrame m #[.ref d, .int (Int32.ofNat B.slots.size)] 2)) (s₁.setTop (mkF m 2 #[.val (.ref d), .val (.int (Int32.ofNat B.slots.size))] [.ref d, .int (Int32.ofNat B.slots.size)])) := c1.trans (by
    refine XS.iloadN X0.here hexec rfl (hb hbytes d0) rfl ?_
    refine XS.aloadN X0.here hexec rfl (hb hbytes d1) rfl rfl ?_
    exact Steps.refl _)
  have c3 : Steps p.tables e below (s₁.setTop (entryFrame m #[.ref d, .int (Int32.ofNat B.slots.size)] 2)) (s₁.setTop (mkF m 8 #[.val (.ref d), .val (.int (Int32.ofNat B.slots.size))] [.int (lo8 (ushr (Int32.ofNat B.slots.size - Int32.ofNat B.slots.size) 31))])) := c2.trans (by
    refine X0.alen hexec hB0 rfl rfl (hb hbytes d2) ?_
    refine XS.isub X0.here hexec rfl (hb hbytes d3) rfl ?_
    refine bipushV X0.here hexec rfl 31 (hb hbytes d4) (by decide) ?_
    refine iushr X0.here hexec rfl (hb hbytes d6) rfl ?_
    refine i2b X0.here hexec rfl (hb hbytes d7) rfl ?_
    exact Steps.refl _)
  have e0 : lo8 (ushr (Int32.ofNat B.slots.size - Int32.ofNat B.slots.size) 31) = 0 := by rw [Int32.sub_self]; decide
  rw [e0] at c3
  exact ⟨s₁, some (.int 0), _, _, _, X0, rfl, rfl, rfl, (fun h => by cases h), ⟨rfl, hh0⟩, fun fs hl => c3.trans (X0.ireturnOut hexec hret rfl (Or.inr (Or.inr (Or.inl rfl))) (hb hbytes d8) hl)⟩
end CodL
/-- the String at a is Latin-1 over a new byte[] (the heap's one new cell): the low bytes of the len chars of A from o on; every cell but a is kept -/
def Got (a : Addr) (D : Cell) (fV fC : Field) (A : Cell) (o len : Nat) (r : Option Value) (s u : State) : Prop := r = none ∧ ∃ D' V : Cell, Blank "java/lang/String" a D' u ∧ Same D D' [fV.slot, fC.slot] ∧ D'.slots[fV.slot]? = some (.ref s.heap.size) ∧ D'.slots[fC.slot]? = some (.int 0) ∧ Arr .byte s.heap.size V u ∧ V.vm = .none ∧ u.vm.findClass "[B" = some V.cls ∧ V.slots.size = len ∧ (∀ j, j < len → V.slots[j]? = some (.int (lo8 (cv A (o + j))))) ∧ (∀ (y : Addr) (c : Cell), y ≠ a → s.heap[y]? = some c → u.heap[y]? = some c) ∧ u.heap.size = s.heap.size + 1
theorem Got.mv {a : Addr} {D A : Cell} {fV fC : Field} {o len : Nat} : ∀ r (U U' V V' : State), U'.heap = U.heap → V.vm.Alike V'.vm → V'.heap = V.heap → Got a D fV fC A o len r U V → Got a D fV fC A o len r U' V' :=
  fun r U U' V V' h1 hal h2 ⟨e0, D', X, a1, a2, a3, a4, a5, a6, a7, a8, a9, a10, a11⟩ => ⟨e0, D', X, a1.mv hal h2, a2, by rw [h1]; exact a3, a4, by rw [h1]; exact a5.mv hal h2, a6, by rw [hal.findClass]; exact a7, a8, a9, by rw [h1, h2]; exact a10, by rw [h1, h2]; exact a11⟩
namespace New4
def yN : MethodName := ⟨"java/lang/String", "<init>", "([CIILjava/lang/Void;)V"⟩
abbrev yB : ByteArray := jdk_42_method_149_code
theorem d0 : decode yB 0 = .ok (.aload_n 0, 1) := by decide +kernel
theorem d1 : decode yB 1 = .ok (.invokespecial 1, 3) := by decide +kernel
theorem d4 : decode yB 4 = .ok (.iload_n 3, 1) := by decide +kernel
theorem d5 : decode yB 5 = .ok (.ifCond (.ne) 22, 3) := by decide +kernel
theorem d27 : decode yB 27 = .ok (.getstatic 38, 3) := by decide +kernel
theorem d30 : decode yB 30 = .ok (.ifCond (.eq) 28, 3) := by decide +kernel
theorem d33 : decode yB 33 = .ok (.aload_n 1, 1) := by decide +kernel
theorem d34 : decode yB 34 = .ok (.iload_n 2, 1) := by decide +kernel
theorem d35 : decode yB 35 = .ok (.iload_n 3, 1) := by decide +kernel
theorem d36 : decode yB 36 = .ok (.invokestatic 177, 3) := by decide +kernel
theorem d39 : decode yB 39 = .ok (.astore 5, 2) := by decide +kernel
theorem d41 : decode yB 41 = .ok (.aload_n 0, 1) := by decide +kernel
theorem d42 : decode yB 42 = .ok (.aload 5, 2) := by decide +kernel
theorem d44 : decode yB 44 = .ok (.iload_n 3, 1) := by decide +kernel
theorem d45 : decode yB 45 = .ok (.invokestatic 47, 3) := by decide +kernel
theorem d48 : decode yB 48 = .ok (.putfield 15, 3) := by decide +kernel
theorem d51 : decode yB 51 = .ok (.aload_n 0, 1) := by decide +kernel
theorem d52 : decode yB 52 = .ok (.aload 5, 2) := by decide +kernel
theorem d54 : decode yB 54 = .ok (.putfield 9, 3) := by decide +kernel
theorem d57 : decode yB 57 = .ok (.return_, 1) := by decide +kernel
def site : List Cond := [.fieldLink "java/lang/String" 38 "java/lang/String" "COMPACT_STRINGS" "Z", Cmp3.tab, CodL.tab, .laysFinal "java/lang/String" "java/lang/String" "value" "[B", .fieldLink "java/lang/String" 9 "java/lang/String" "value" "[B", .laysFinal "java/lang/String" "java/lang/String" "coder" "B", .fieldLink "java/lang/String" 15 "java/lang/String" "coder" "B"] ++ objW "java/lang/String" 1 ++ staticW "java/lang/String" 177 Cmp3.yN ++ staticW "java/lang/String" 47 CodL.yN
def tab : Cond := tabOf yN yB 6 none site
def P (a : Addr) (D : Cell) (fV fC : Field) (b : Addr) (A : Cell) (z : Int32) (o len : Nat) (args : Array Value) (s : State) : Prop := args = #[.ref a, .ref b, .int (Int32.ofNat o), .int (Int32.ofNat len), .null] ∧ Blank "java/lang/String" a D s ∧ Found "java/lang/String" "value" "[B" fV s ∧ Found "java/lang/String" "coder" "B" fC s ∧ Ch b A s ∧ StaticIs s "java/lang/String" "COMPACT_STRINGS" "Z" (.int z) ∧ ¬ z = 0 ∧ 0 < len ∧ o + len ≤ A.slots.size ∧ len ≤ 536870912 ∧ ∀ i, i < len → ¬ 255 < cv A (o + i)
def E (a : Addr) (D : Cell) (fV fC : Field) (A : Cell) (o len : Nat) (r : Option Value) (s u : State) : Prop := Got a D fV fC A o len r s u
/-- len > 0, no char of the range above 255: a Latin-1 String of their low bytes -/
theorem law (l : Launch) (a : Addr) (D : Cell) (fV fC : Field) (b : Addr) (A : Cell) (z : Int32) (o len : Nat) : Law l yN 5 4 2 35 yB 6 none site (P a D fV fC b A z o len) (E a D fV fC A o len) [⟨a, fC.slot⟩, ⟨a, fV.slot⟩] 1 len := by
  refine Law.of_walk (plainFor_of_name (by decide +kernel)) (by decide +kernel) (by decide +kernel) (by decide) (fun _ _ h => by rw [h.1]; rfl) (fun _ U U' hal hh h => ⟨h.1, h.2.1.mv hal hh, h.2.2.1.al hal, h.2.2.2.1.al hal, h.2.2.2.2.1.mv hal hh, h.2.2.2.2.2.1.there hal hh, h.2.2.2.2.2.2⟩) (fun r U U' V V' h1 hal h2 h => Got.mv r U U' V V' h1 hal h2 h) ?_
  intro p e s m args below meth c s₁ X0 hexec hbytes hml hret hlk hnm hown hh0 W hP
  obtain ⟨rfl, hB, f1, f2, hA, s1, hz, l0, l1, l2, hp⟩ := hP
  have a31 := hA.1.2.2.2
  have c1 : Steps p.tables e below (s₁.setTop (entryFrame m #[.ref a, .ref b, .int (Int32.ofNat o), .int (Int32.ofNat len), .null] 6)) (s₁.setTop (mkF m 0 #[.val (.ref a), .val (.ref b), .val (.int (Int32.ofNat o)), .val (.int (Int32.ofNat len)), .val .null, .unset] [])) := entry rfl
  have c2 : Steps p.tables e below (s₁.setTop (entryFrame m #[.ref a, .ref b, .int (Int32.ofNat o), .int (Int32.ofNat len), .null] 6)) (s₁.setTop (mkF m 1 #[.val (.ref a), .val (.ref b), .val (.int (Int32.ofNat o)), .val (.int (Int32.ofNat len)), .val .null, .unset] [.ref a])) := c1.trans (by
    refine XS.aloadN X0.here hexec rfl (hb hbytes d0) rfl rfl ?_
    exact Steps.refl _)
  obtain ⟨T3, X3, q3, st3⟩ := X0.oinit hexec hown (wks W (objW "java/lang/String" 1)) (g := (mkF m 1 #[.val (.ref a), .val (.ref b), .val (.int (Int32.ofNat o)), .val (.int (Int32.ofNat len)), .val .null, .unset] [.ref a])) rfl (by rw [hml]; rfl) (rest := []) rfl (hb hbytes d1) (W := 0) (by show 2 * 0 + 0 ≤ _; decide) (Nat.le_of_ble_eq_true rfl) (Nat.le_of_ble_eq_true rfl)
  have hh3 := q3.trans hh0
  have c4 : Steps p.tables e below (s₁.setTop (entryFrame m #[.ref a, .ref b, .int (Int32.ofNat o), .int (Int32.ofNat len), .null] 6)) (T3.setTop (mkF m 27 #[.val (.ref a), .val (.ref b), .val (.int (Int32.ofNat o)), .val (.int (Int32.ofNat len)), .val .null, .unset] [])) := (c2.trans (st3 _ (Steps.refl _))).trans (by
    refine XS.iloadN X3.here hexec rfl (hb hbytes d4) rfl ?_
    refine XS.ifYes X3.here hexec rfl (pc0 := 5) rfl (hb hbytes d5) rfl (i0_ne_t (nz32 (by omega) l0)) (by decide) rfl ?_
    exact Steps.refl _)
  obtain ⟨T5, X5, q5, st5⟩ := X3.sget hexec hown (wk W (.fieldLink "java/lang/String" 38 "java/lang/String" "COMPACT_STRINGS" "Z")) s1 (fun _ _ h => by rw [hh3]; exact h) (g := (mkF m 27 #[.val (.ref a), .val (.ref b), .val (.int (Int32.ofNat o)), .val (.int (Int32.ofNat len)), .val .null, .unset] [])) rfl (hb hbytes d27)
  have hh5 := q5.trans hh3
  have c6 : Steps p.tables e below (s₁.setTop (entryFrame m #[.ref a, .ref b, .int (Int32.ofNat o), .int (Int32.ofNat len), .null] 6)) (T5.setTop (mkF m 30 #[.val (.ref a), .val (.ref b), .val (.int (Int32.ofNat o)), .val (.int (Int32.ofNat len)), .val .null, .unset] [.int z])) := c4.trans (st5 _ (Steps.refl _))
  have c7 : Steps p.tables e below (s₁.setTop (entryFrame m #[.ref a, .ref b, .int (Int32.ofNat o), .int (Int32.ofNat len), .null] 6)) (T5.setTop (mkF m 36 #[.val (.ref a), .val (.ref b), .val (.int (Int32.ofNat o)), .val (.int (Int32.ofNat len)), .val .null, .unset] [.int (Int32.ofNat len), .int (Int32.ofNat o), .ref b])) := c6.trans (by
    refine XS.ifNo X5.here hexec rfl (hb hbytes d30) rfl (i0_eq_f hz) ?_
    refine XS.aloadN X5.here hexec rfl (hb hbytes d33) rfl rfl ?_
    refine XS.iloadN X5.here hexec rfl (hb hbytes d34) rfl ?_
    refine XS.iloadN X5.here hexec rfl (hb hbytes d35) rfl ?_
    exact Steps.refl _)
  obtain ⟨v8, T8, X8, E8, g8⟩ := X5.callS hexec (Cmp3.law l b A o len) hown (wks W (staticW "java/lang/String" 177 Cmp3.yN)) (wk W Cmp3.tab) (W := 0) (Nat.le_of_ble_eq_true rfl) (Nat.le_of_ble_eq_true rfl) (Nat.le_refl _) (by show 0 + len ≤ len; omega) (g := (mkF m 36 #[.val (.ref a), .val (.ref b), .val (.int (Int32.ofNat o)), .val (.int (Int32.ofNat len)), .val .null, .unset] [.int (Int32.ofNat len), .int (Int32.ofNat o), .ref b])) rfl (by rw [hml]; rfl) c7 (argsL := [.ref b, .int (Int32.ofNat o), .int (Int32.ofNat len)]) (rest := []) rfl rfl (by show 2 * 0 + 0 ≤ _; decide) (hb hbytes d36) (⟨rfl, hA.mv X5.warmed.alike hh5, l1, l2, hp⟩)
  obtain ⟨e8, z8⟩ := E8
  obtain ⟨rfl, N, n1, n2, n3, n4, n5, n6⟩ := NewArr.mv _ T5 s _ _ hh5.symm (Vm.Alike.refl _) rfl e8
  rw [hh5] at z8
  have hB1 := hB.keep X8.warmed.alike (n6 _ _ hB.1)
  have hne : s.heap.size ≠ a := (Nat.ne_of_lt (Array.getElem?_eq_some_iff.mp hB.1).1).symm
  have c9 : Steps p.tables e below (s₁.setTop (entryFrame m #[.ref a, .ref b, .int (Int32.ofNat o), .int (Int32.ofNat len), .null] 6)) (T8.setTop (mkF m 39 #[.val (.ref a), .val (.ref b), .val (.int (Int32.ofNat o)), .val (.int (Int32.ofNat len)), .val .null, .unset] [.ref s.heap.size])) := g8
  have c10 : Steps p.tables e below (s₁.setTop (entryFrame m #[.ref a, .ref b, .int (Int32.ofNat o), .int (Int32.ofNat len), .null] 6)) (T8.setTop (mkF m 45 #[.val (.ref a), .val (.ref b), .val (.int (Int32.ofNat o)), .val (.int (Int32.ofNat len)), .val .null, .val (.ref s.heap.size)] [.int (Int32.ofNat N.slots.size), .ref s.heap.size, .ref a])) := by
    have hc : Steps p.tables e below (s₁.setTop (entryFrame m #[.ref a, .ref b, .int (Int32.ofNat o), .int (Int32.ofNat len), .null] 6)) (T8.setTop (mkF m 45 #[.val (.ref a), .val (.ref b), .val (.int (Int32.ofNat o)), .val (.int (Int32.ofNat len)), .val .null, .val (.ref s.heap.size)] [.int (Int32.ofNat len), .ref s.heap.size, .ref a])) := c9.trans (by
      refine XS.astore X8.here hexec rfl (hb hbytes d39) rfl rfl rfl ?_
      refine XS.aloadN X8.here hexec rfl (hb hbytes d41) rfl rfl ?_
      refine XS.aload X8.here hexec rfl (hb hbytes d42) rfl rfl ?_
      refine XS.iloadN X8.here hexec rfl (hb hbytes d44) rfl ?_
      exact Steps.refl _)
    rw [n4]; exact hc
  obtain ⟨v11, T11, X11, E11, g11⟩ := X8.callS hexec (CodL.law l s.heap.size N) hown (wks W (staticW "java/lang/String" 47 CodL.yN)) (wk W CodL.tab) (W := 1) (Nat.le_of_ble_eq_true rfl) (Nat.le_of_ble_eq_true rfl) (Nat.le_refl _) (by show 0 + len + 0 ≤ len; omega) (g := (mkF m 45 #[.val (.ref a), .val (.ref b), .val (.int (Int32.ofNat o)), .val (.int (Int32.ofNat len)), .val .null, .val (.ref s.heap.size)] [.int (Int32.ofNat N.slots.size), .ref s.heap.size, .ref a])) rfl (by rw [hml]; rfl) c10 (argsL := [.ref s.heap.size, .int (Int32.ofNat N.slots.size)]) (rest := [.ref a]) rfl rfl (by show 2 * 0 + (1 + 0) ≤ _; decide) (hb hbytes d45) (⟨rfl, n1⟩)
  obtain ⟨rfl, q11⟩ := E11
  have hB11 := hB1.mv (X8.warmed.alike.symm.trans X11.warmed.alike) q11
  have c12 : Steps p.tables e below (s₁.setTop (entryFrame m #[.ref a, .ref b, .int (Int32.ofNat o), .int (Int32.ofNat len), .null] 6)) (T11.setTop (mkF m 48 #[.val (.ref a), .val (.ref b), .val (.int (Int32.ofNat o)), .val (.int (Int32.ofNat len)), .val .null, .val (.ref s.heap.size)] [.int 0, .ref a])) := g11
  obtain ⟨T13, X13, p13, bl13, sl13, st13⟩ := X11.finit hexec hown (wk W (.fieldLink "java/lang/String" 15 "java/lang/String" "coder" "B")) (Or.inr ⟨_, (wk W (.laysFinal "java/lang/String" "java/lang/String" "coder" "B"))⟩) (Or.inl ⟨rfl, hnm⟩) f2 (Or.inl rfl) hB11 (t := .byte) (by decide +kernel) rfl (g := (mkF m 48 #[.val (.ref a), .val (.ref b), .val (.int (Int32.ofNat o)), .val (.int (Int32.ofNat len)), .val .null, .val (.ref s.heap.size)] [.int 0, .ref a])) rfl (rest := []) rfl (hb hbytes d48)
  have c14 : Steps p.tables e below (s₁.setTop (entryFrame m #[.ref a, .ref b, .int (Int32.ofNat o), .int (Int32.ofNat len), .null] 6)) (T13.setTop (mkF m 54 #[.val (.ref a), .val (.ref b), .val (.int (Int32.ofNat o)), .val (.int (Int32.ofNat len)), .val .null, .val (.ref s.heap.size)] [.ref s.heap.size, .ref a])) := (c12.trans (st13 _ (Steps.refl _))).trans (by
    refine XS.aloadN X13.here hexec rfl (hb hbytes d51) rfl rfl ?_
    refine XS.aload X13.here hexec rfl (hb hbytes d52) rfl rfl ?_
    exact Steps.refl _)
  obtain ⟨T15, X15, p15, bl15, sl15, st15⟩ := X13.finit hexec hown (wk W (.fieldLink "java/lang/String" 9 "java/lang/String" "value" "[B")) (Or.inr ⟨_, (wk W (.laysFinal "java/lang/String" "java/lang/String" "value" "[B"))⟩) (Or.inl ⟨rfl, hnm⟩) f1 (Or.inl rfl) bl13 (t := (.array .byte)) (by decide +kernel) rfl (g := (mkF m 54 #[.val (.ref a), .val (.ref b), .val (.int (Int32.ofNat o)), .val (.int (Int32.ofNat len)), .val .null, .val (.ref s.heap.size)] [.ref s.heap.size, .ref a])) rfl (rest := []) rfl (hb hbytes d54)
  have c16 : Steps p.tables e below (s₁.setTop (entryFrame m #[.ref a, .ref b, .int (Int32.ofNat o), .int (Int32.ofNat len), .null] 6)) (T15.setTop (mkF m 57 #[.val (.ref a), .val (.ref b), .val (.int (Int32.ofNat o)), .val (.int (Int32.ofNat len)), .val .null, .val (.ref s.heap.size)] [])) := c14.trans (st15 _ (Steps.refl _))
  have ap := apart (Or.inr ⟨_, (wk W (.laysFinal "java/lang/String" "java/lang/String" "value" "[B"))⟩) (Or.inr ⟨_, (wk W (.laysFinal "java/lang/String" "java/lang/String" "coder" "B"))⟩) f1 f2 (t₁ := .array .byte) (t₂ := .byte) (by decide +kernel) (by decide +kernel) (by decide)
  have al := X8.warmed.alike.symm.trans X15.warmed.alike
  have n7 : T11.heap[s.heap.size]? = some N := by rw [q11]; exact n1.1
  exact ⟨T15, none, _, _, _, X15, by simp, rfl, by omega, (fun _ => rfl), ⟨rfl, _, N, bl15, ((Same.refl D _).set _ (by simp)).set _ (by simp), sl15, (Cell.slots_setSlot_ne _ ap).trans sl13, n1.keep al (p15.other hne (p13.other hne n7)), n2, by rw [al.findClass]; exact n3, n4, n5, fun y c h1 h2 => p15.other h1 (p13.other h1 (by rw [q11]; exact n6 y c h2)), by rw [p15.2.2, p13.2.2, q11]; exact z8⟩, fun fs hl => c16.trans (X15.returnOut hexec hret (hb hbytes d57) hl)⟩
end New4
namespace New1
def yN : MethodName := ⟨"java/lang/String", "<init>", "([C)V"⟩
abbrev yB : ByteArray := jdk_42_method_3_code
theorem d0 : decode yB 0 = .ok (.aload_n 0, 1) := by decide +kernel
theorem d1 : decode yB 1 = .ok (.aload_n 1, 1) := by decide +kernel
theorem d2 : decode yB 2 = .ok (.iconst 0, 1) := by decide +kernel
theorem d3 : decode yB 3 = .ok (.aload_n 1, 1) := by decide +kernel
theorem d4 : decode yB 4 = .ok (.arraylength, 1) := by decide +kernel
theorem d5 : decode yB 5 = .ok (.aconst_null, 1) := by decide +kernel
theorem d6 : decode yB 6 = .ok (.invokespecial 27, 3) := by decide +kernel
theorem d9 : decode yB 9 = .ok (.return_, 1) := by decide +kernel
def site : List Cond := [New4.tab] ++ initW "java/lang/String" 27 New4.yN
def tab : Cond := tabOf yN yB 2 none site
def P (a : Addr) (D : Cell) (fV fC : Field) (b : Addr) (A : Cell) (z : Int32) (args : Array Value) (s : State) : Prop := args = #[.ref a, .ref b] ∧ Blank "java/lang/String" a D s ∧ Found "java/lang/String" "value" "[B" fV s ∧ Found "java/lang/String" "coder" "B" fC s ∧ Ch b A s ∧ StaticIs s "java/lang/String" "COMPACT_STRINGS" "Z" (.int z) ∧ ¬ z = 0 ∧ 0 < A.slots.size ∧ A.slots.size ≤ 536870912 ∧ ∀ i, i < A.slots.size → ¬ 255 < cv A i
def E (a : Addr) (D : Cell) (fV fC : Field) (A : Cell) (r : Option Value) (s u : State) : Prop := Got a D fV fC A 0 A.slots.size r s u
/-- new String(chars), not empty, no char above 255: a Latin-1 String of their low bytes -/
theorem law (l : Launch) (a : Addr) (D : Cell) (fV fC : Field) (b : Addr) (A : Cell) (z : Int32) : Law l yN 2 1 3 52 yB 2 none site (P a D fV fC b A z) (E a D fV fC A) [⟨a, fC.slot⟩, ⟨a, fV.slot⟩] 1 A.slots.size := by
  refine Law.of_walk (plainFor_of_name (by decide +kernel)) (by decide +kernel) (by decide +kernel) (by decide) (fun _ _ h => by rw [h.1]; rfl) (fun _ U U' hal hh h => ⟨h.1, h.2.1.mv hal hh, h.2.2.1.al hal, h.2.2.2.1.al hal, h.2.2.2.2.1.mv hal hh, h.2.2.2.2.2.1.there hal hh, h.2.2.2.2.2.2⟩) (fun r U U' V V' h1 hal h2 h => Got.mv r U U' V V' h1 hal h2 h) ?_
  intro p e s m args below meth c s₁ X0 hexec hbytes hml hret hlk hnm hown hh0 W hP
  obtain ⟨rfl, hB, f1, f2, hA, s1, hz, l0, l2, hp⟩ := hP
  have c1 : Steps p.tables e below (s₁.setTop (entryFrame m #[.ref a, .ref b] 2)) (s₁.setTop (mkF m 0 #[.val (.ref a), .val (.ref b)] [])) := entry rfl
  have c2 : Steps p.tables e below (s₁.setTop (entryFrame m #[.ref a, .ref b] 2)) (s₁.setTop (mkF m 6 #[.val (.ref a), .val (.ref b)] [.null, .int (Int32.ofNat A.slots.size), .int 0, .ref b, .ref a])) := c1.trans (by
    refine XS.aloadN X0.here hexec rfl (hb hbytes d0) rfl rfl ?_
    refine XS.aloadN X0.here hexec rfl (hb hbytes d1) rfl rfl ?_
    refine iconstV X0.here hexec rfl 0 (hb hbytes d2) (by decide) ?_
    refine XS.aloadN X0.here hexec rfl (hb hbytes d3) rfl rfl ?_
    refine X0.alen hexec (hA.1.mv X0.warmed.alike hh0) rfl rfl (hb hbytes d4) ?_
    refine XS.aconstNull X0.here hexec rfl (hb hbytes d5) ?_
    exact Steps.refl _)
  obtain ⟨v3, T3, X3, E3, g3⟩ := X0.callN hexec (New4.law l a D fV fC b A z 0 A.slots.size) rfl hown (wks W (initW "java/lang/String" 27 New4.yN)) (W New4.tab (by simp only [site, List.mem_cons, List.mem_append, true_or, or_true])) (W := 0) (Nat.le_of_ble_eq_true rfl) (Nat.le_of_ble_eq_true rfl) (Nat.le_refl _) (by show 0 + A.slots.size ≤ A.slots.size; omega) (g := (mkF m 6 #[.val (.ref a), .val (.ref b)] [.null, .int (Int32.ofNat A.slots.size), .int (Int32.ofNat 0), .ref b, .ref a])) rfl (by rw [hml]; rfl) c2 (argsL := [.ref b, .int (Int32.ofNat 0), .int (Int32.ofNat A.slots.size), .null]) (rest := []) rfl rfl (by show 2 * 0 + 0 ≤ _; decide) (hb hbytes d6) (⟨rfl, hB.mv X0.warmed.alike hh0, f1.al X0.warmed.alike, f2.al X0.warmed.alike, hA.mv X0.warmed.alike hh0, s1.there X0.warmed.alike hh0, hz, l0, by omega, l2, fun i hi => by rw [Nat.zero_add]; exact hp i hi⟩)
  have e0 := Got.mv _ s₁ s _ _ hh0.symm (Vm.Alike.refl _) rfl E3
  obtain rfl := e0.1
  have c4 : Steps p.tables e below (s₁.setTop (entryFrame m #[.ref a, .ref b] 2)) (T3.setTop (mkF m 9 #[.val (.ref a), .val (.ref b)] [])) := g3
  exact ⟨T3, none, _, _, _, X3, by simp, rfl, by omega, (fun _ => rfl), e0, fun fs hl => c4.trans (X3.returnOut hexec hret (hb hbytes d9) hl)⟩
theorem pays {l : Launch} {R : Room} {p : Program} {e : Env} {below : List Frame} {s : State} {sargs : Array Value} {len W : Nat} (a : Addr) (D : Cell) (fV fC : Field) (b : Addr) (A : Cell) (z : Int32) (htab : tab.before sargs s = true) (hfr : 4 ≤ R.frames) (hlo : W + 65 ≤ R.locals) :
    Back l R p e below s sargs yN len W (fun A₁ a₁ => A₁.cells + 1 ≤ R.cells ∧ A₁.slots + A.slots.size ≤ R.slots ∧ P a D fV fC b A z a₁ A₁.U) (fun A₁ _ v₁ B₁ => E a D fV fC A v₁ A₁.U B₁.U ∧ B₁.locs = A₁.locs ++ [⟨a, fC.slot⟩, ⟨a, fV.slot⟩] ∧ B₁.cells = A₁.cells + 1 ∧ B₁.slots = A₁.slots + A.slots.size) :=
  (law l a D fV fC b A z).pays htab hfr (by omega)
end New1
/-- the byte, read back as charAt reads it, is the char -/
theorem lo8_mask {x : Int32} (h0 : ¬ x < 0) (h1 : ¬ 255 < x) : lo8 x &&& 255 = x := by
  have t : ∀ k : Fin 256, lo8 (Int32.ofNat k.val) &&& 255 = Int32.ofNat k.val := by decide +kernel
  rw [Int32.lt_iff_toInt_lt] at h0 h1
  have e0 : (0 : Int32).toInt = 0 := rfl
  have e1 : (255 : Int32).toInt = 255 := rfl
  obtain ⟨k, hk⟩ : ∃ k : Nat, x.toInt = k := ⟨x.toInt.toNat, by omega⟩
  have hx : x = Int32.ofNat k := Int32.toInt_inj.mp (by rw [hk, Int32.toInt_ofNat_small (by omega)])
  rw [hx]
  exact t ⟨k, by omega⟩
end StrChars
namespace StrChars.Road
open Jvm Sem ClassFile Op Lib Jvm.Stand Jvm.Free Jvm.Free.XT
open Jvm.Lib.Cold (StaticIs)
abbrev ST : String := "java/lang/String"
/-- every table word that New1's law asks, flat -/
abbrev words : List Jvm.Cond := [.code New1.yN New1.yB 2 none, .initialized ST, .methodLink ST 27 New4.yN, .instanceMethod New4.yN,
  .code New4.yN New4.yB 6 none, .fieldLink ST 38 ST "COMPACT_STRINGS" "Z", .laysFinal ST ST "value" "[B", .fieldLink ST 9 ST "value" "[B", .laysFinal ST ST "coder" "B", .fieldLink ST 15 ST "coder" "B",
  .methodLink ST 1 Lib.objectInit, .instanceMethod Lib.objectInit, .code Lib.objectInit ⟨#[0xb1]⟩ 1 none, .methodLink ST 177 Cmp3.yN, .static Cmp3.yN, .methodLink ST 47 CodL.yN, .static CodL.yN,
  .code Cmp3.yN Cmp3.yB 6 (some (.array .byte)), .initialized U16, .arrayClass .byte, .methodLink U16 115 Cmp5.yN, .static Cmp5.yN, .code Cmp5.yN Cmp5.yB 7 (some .int), .code CodL.yN CodL.yB 2 (some .byte)]
theorem tab_of {a : Array Value} {s : State} (h : ∀ w ∈ words, w.before a s = true) : New1.tab.before a s = true := by
  have h5 : Cmp5.tab.before a s = true := unparts (wk h (.code Cmp5.yN Cmp5.yB 7 (some .int))) (wks h (.initialized Cmp5.yN.cls :: Cmp5.site))
  have hc : CodL.tab.before a s = true := unparts (wk h (.code CodL.yN CodL.yB 2 (some .byte))) (wks h (.initialized CodL.yN.cls :: CodL.site))
  have q5 : ∀ w ∈ Cmp5.tab :: words, w.before a s = true := fun w hw => (List.mem_cons.mp hw).elim (fun e => e ▸ h5) (h w)
  have h3 : Cmp3.tab.before a s = true := unparts (wk q5 (.code Cmp3.yN Cmp3.yB 6 (some (.array .byte)))) (wks q5 (.initialized Cmp3.yN.cls :: Cmp3.site))
  have q3 : ∀ w ∈ Cmp3.tab :: CodL.tab :: words, w.before a s = true := fun w hw => (List.mem_cons.mp hw).elim (fun e => e ▸ h3) fun hw => (List.mem_cons.mp hw).elim (fun e => e ▸ hc) (h w)
  have h4 : New4.tab.before a s = true := unparts (wk q3 (.code New4.yN New4.yB 6 none)) (wks q3 (.initialized New4.yN.cls :: New4.site))
  have q4 : ∀ w ∈ New4.tab :: words, w.before a s = true := fun w hw => (List.mem_cons.mp hw).elim (fun e => e ▸ h4) (h w)
  exact unparts (wk q4 (.code New1.yN New1.yB 2 none)) (wks q4 (.initialized New1.yN.cls :: New1.site))
/-- the words ride from the start Z to the walk's own state -/
theorem moved {Z s : State} {a0 args : Array Value} (hZ : Z.Warmed39 s.vm) (hw : ∀ d ∈ words, d.before a0 Z = true) : ∀ d ∈ words, d.before args s = true := fun d hd => by
  have q := hw d hd
  have t : ∀ d ∈ words, d = .arrayClass .byte ∨ (d.onTables && d.keepsFace) = true := by decide +kernel
  rcases t d hd with rfl | t
  · exact RoadKit.mvA hZ q
  · exact RoadKit.mv hZ q t
/-- WHAT COMES BACK, over the tables of the start Z: h the heap at the call, h' behind it -/
def Q (Z : State) (x : Addr) (A : Cell) (h : Heap) (v : Option Value) (h' : Heap) (L : List Loc) : Prop := v = none ∧ (∀ y ∈ L, y.base = x) ∧ RoadKit.Keep h h' [x] ∧ h'.size = h.size + 1 ∧ RoadKit.Exa Z h' x ST ∧ RoadKit.Fld Z h' x ST "value" "[B" (.ref h.size) ∧ RoadKit.Fld Z h' x ST "coder" "B" (.int 0) ∧
  (∃ V : Cell, RoadKit.Arr Z h' h.size V .byte ∧ V.vm = .none ∧ Z.vm.findClass "[B" = some V.cls ∧ V.slots.size = A.slots.size ∧ ∀ j, j < A.slots.size → V.slots[j]? = some (.int (lo8 (cv A j)))) ∧
  ∀ (O n d : String) (w : Value), RoadKit.Fld Z h x O n d w → RoadKit.slotOf Z O n d ≠ RoadKit.slotOf Z ST "value" "[B" → RoadKit.slotOf Z O n d ≠ RoadKit.slotOf Z ST "coder" "B" → RoadKit.Fld Z h' x O n d w
/-- **new String(chars) AT A CALL, IN THE ROAD'S FORM**: for specialBack behind newO: x the fresh String, b the char[] with the cell A -/
theorem back {p : Program} {l : Launch} {e : Env} {R : Room} {s : State} {args : Array Value} {below : List Frame} {len W : Nat} {Z : State} {a0 : Array Value} {h : Heap} (hZ : Z.Warmed39 s.vm) (hw : ∀ d ∈ words, d.before a0 Z = true) {kI : Nat} (wi : (Jvm.Cond.instantiable ST kI).before a0 Z = true)
    {x b : Addr} {A : Cell} {z : Int32} {v0 c0 : Value} (E : RoadKit.Exa Z h x ST) (V : RoadKit.Fld Z h x ST "value" "[B" v0) (C : RoadKit.Fld Z h x ST "coder" "B" c0) (K : RoadKit.Arr Z h b A .char) (hty : Typed .char A) (S : RoadKit.Sta Z h ST "COMPACT_STRINGS" "Z" (.int z)) (hz : ¬ z = 0)
    (l0 : 0 < A.slots.size) (l2 : A.slots.size ≤ 536870912) (hp : ∀ i, i < A.slots.size → ¬ 255 < cv A i) (hfr : 4 ≤ R.frames) (hlo : W + 65 ≤ R.locals) :
    Back l R p e below s args New1.yN len W (fun P a => a = #[.ref x, .ref b] ∧ P.U.heap = h ∧ P.cells + 1 ≤ R.cells ∧ P.slots + A.slots.size ≤ R.slots)
      (fun P _ v B => ∃ L, Q Z x A h v B.U.heap L ∧ B.locs = P.locs ++ L ∧ B.cells = P.cells + 1 ∧ B.slots = P.slots + A.slots.size) := by
  intro m meth c P g ig mk a X hg hsize hdg hW hn hp'
  obtain ⟨rfl, rfl, r1, r2⟩ := hp'
  have al : Z.vm.Alike P.U.vm := hZ.alike.trans X.warmed.alike
  obtain ⟨D, cfV, kV, iV, fV, hD, gV, stV, knV, obV, asV, slV⟩ := id V
  obtain ⟨D', cfC, kC, iC, fC, hD', gC, stC, -, -, asC, slC⟩ := id C
  cases hD.symm.trans hD'
  obtain ⟨D2, kD, e1, e2, e3, e4, e5⟩ := id E
  cases hD.symm.trans e1
  obtain ⟨c2, k2, i1, i2, i3, -⟩ := Cond.instantiable_spec wi
  cases e2.symm.trans i1
  cases e3.symm.trans i2
  obtain ⟨kU, u1, u2⟩ := al.2.2 _ _ e3
  have hB : Blank ST x D P.U := ⟨hD, ⟨knV, fun q hq => by rw [hq] at obV; cases obV⟩, by rw [al.findClass]; exact e2, kU, u1, by rw [u2]; exact i3, by rw [u2]; exact e5 i3⟩
  have F1 : Found ST "value" "[B" fV P.U := ⟨SBG.found_only al ⟨cfV, kV, iV, gV⟩, stV⟩
  have F2 : Found ST "coder" "B" fC P.U := ⟨SBG.found_only al ⟨cfC, kC, iC, gC⟩, stC⟩
  have hA : Ch b A P.U := ⟨⟨K.1, State.isArrayOf_alike al K.2.1, K.2.2, by omega⟩, hty⟩
  have hS : StaticIs P.U ST "COMPACT_STRINGS" "Z" (.int z) := by
    obtain ⟨cfS, iS, kS, fS, st, cS, t1, t2, t3, t4, t5, t6, t7⟩ := S
    exact StaticIs.there (s := { Z with heap := P.U.heap }) ⟨cfS, iS, kS, fS, st, cS, t1, t2, t3, t4, t5, (fun q => by rw [q] at t6; cases t6), t7⟩ al rfl
  obtain ⟨v, B, X', ⟨⟨hv, E', V', q1, q2, q3, q4, q5, q6, q7, q8, q9, q10, q11⟩, hl, hc, hs⟩, st⟩ := New1.pays x D fV fC b A z (tab_of (moved hZ hw)) hfr hlo m meth c P g ig mk _ X hg hsize hdg hW hn ⟨r1, r2, rfl, hB, F1, F2, hA, hS, hz, l0, l2, hp⟩
  have al' : Z.vm.Alike B.U.vm := hZ.alike.trans X'.warmed.alike
  have hsz : E'.slots.size = D.slots.size := by
    obtain ⟨-, -, -, kB, w1, w2, w3⟩ := q1
    obtain ⟨kB', y1, y2⟩ := al'.2.2 _ _ e3
    rw [q2.2.1] at w1
    cases w1.symm.trans y1
    rw [w3, e5 i3, y2]
  refine ⟨v, B, X', ⟨_, ⟨hv, ?_, ⟨by omega, fun y cy hy hn' => q10 y cy (by simpa using hn') hy, fun y cy hy => ?_⟩, q11, ⟨E', _, q1.1, by rw [q2.2.1]; exact e2, by rw [q2.2.1]; exact e3, by rw [q2.1]; exact obV, fun _ => by rw [hsz]; exact e5 i3⟩,
    ⟨E', cfV, kV, iV, fV, q1.1, gV, stV, by rw [q2.1]; exact knV, by rw [q2.1]; exact obV, by rw [q2.2.1]; exact asV, q3⟩, ⟨E', cfC, kC, iC, fC, q1.1, gC, stC, by rw [q2.1]; exact knV, by rw [q2.1]; exact obV, by rw [q2.2.1]; exact asC, q4⟩,
    ⟨V', ⟨q5.1, State.isArrayOf_alike al'.symm q5.2.1, q5.2.2.1⟩, q6, by rw [← al'.findClass]; exact q7, q8, fun j hj => by have := q9 j hj; rwa [Nat.zero_add] at this⟩, fun O n d w F n1 n2 => ?_⟩, hl, hc, hs⟩, st⟩
  · intro y hy
    simp only [List.mem_cons, List.not_mem_nil, or_false] at hy
    rcases hy with rfl | rfl <;> rfl
  · by_cases q : y = x
    · subst q
      cases hD.symm.trans hy
      exact ⟨E', q1.1, q2.2.1, q2.1, hsz⟩
    · exact ⟨cy, q10 y cy q hy, rfl, rfl, rfl⟩
  · obtain ⟨D3, cf, k, i, f, g1, g2, g3, g4, g5, g6, g7⟩ := F
    cases hD.symm.trans g1
    simp only [RoadKit.slotOf, g2, gV, gC, Option.map_some, Option.getD_some] at n1 n2
    exact ⟨E', cf, k, i, f, q1.1, g2, g3, by rw [q2.1]; exact g4, by rw [q2.1]; exact g5, by rw [q2.2.1]; exact g6, by rw [q2.2.2 f.slot (by simp [n1, n2])]; exact g7⟩
end StrChars.Road
namespace StrChars.Road
open Jvm Sem ClassFile Op Lib Jvm.Stand Jvm.Free Jvm.Free.XT
/-- WHAT COMES BACK, the byte[] as a list of values -/
def QA (Z : State) (x : Addr) (zn : Int32) (cs : List Int32) (h : Heap) (v : Option Value) (h' : Heap) (L : List Loc) : Prop := v = none ∧ (∀ y ∈ L, y.base = x) ∧ RoadKit.Keep h h' [x] ∧ h'.size = h.size + 1 ∧ RoadKit.Exa Z h' x ST ∧ RoadKit.Fld Z h' x ST "value" "[B" (.ref h.size) ∧ RoadKit.Fld Z h' x ST "coder" "B" (.int 0) ∧
  (∃ kb, Z.vm.findClass "[B" = some kb ∧ RoadKit.Arv Z h' h.size kb .byte zn (cs.map fun c => .int (lo8 c)) (.int 0)) ∧
  ∀ (O n d : String) (w : Value), RoadKit.Fld Z h x O n d w → RoadKit.slotOf Z O n d ≠ RoadKit.slotOf Z ST "value" "[B" → RoadKit.slotOf Z O n d ≠ RoadKit.slotOf Z ST "coder" "B" → RoadKit.Fld Z h' x O n d w
/-- **new String(chars) AT A CALL, THE ARRAYS AS LISTS**: the char[] at b holds cs, not empty, no char above 255 -/
theorem backArv {p : Program} {l : Launch} {e : Env} {R : Room} {s : State} {args : Array Value} {below : List Frame} {len W : Nat} {Z : State} {a0 : Array Value} {h : Heap} (hZ : Z.Warmed39 s.vm) (hw : ∀ d ∈ words, d.before a0 Z = true) {kI : Nat} (wi : (Jvm.Cond.instantiable ST kI).before a0 Z = true)
    {x b : Addr} {k : ClassId} {zn z : Int32} {cs : List Int32} {dv v0 c0 : Value} (E : RoadKit.Exa Z h x ST) (V : RoadKit.Fld Z h x ST "value" "[B" v0) (C : RoadKit.Fld Z h x ST "coder" "B" c0) (K : RoadKit.Arv Z h b k .char zn (cs.map Value.int) dv) (S : RoadKit.Sta Z h ST "COMPACT_STRINGS" "Z" (.int z)) (hz : ¬ z = 0)
    (hlen : zn.toNatClampNeg = cs.length) (h0 : 0 < cs.length) (hbig : cs.length ≤ 536870912) (hall : ∀ c ∈ cs, ¬ 255 < c) (hfr : 4 ≤ R.frames) (hlo : W + 65 ≤ R.locals) :
    Back l R p e below s args New1.yN len W (fun P a => a = #[.ref x, .ref b] ∧ P.U.heap = h ∧ P.cells + 1 ≤ R.cells ∧ P.slots + cs.length ≤ R.slots)
      (fun P _ v B => ∃ L, QA Z x zn cs h v B.U.heap L ∧ B.locs = P.locs ++ L ∧ B.cells = P.cells + 1 ∧ B.slots = P.slots + cs.length) := by
  obtain ⟨A, K1, K2, K3, K4, K5, K6⟩ := K
  have e : A.slots.size = cs.length := K3.trans hlen
  have hat : ∀ (i : Nat) (hi : i < cs.length), A.slots[i]? = some (.int cs[i]) := fun i hi => by rw [K5 i (by omega)]; simp [List.getD_eq_getElem?_getD, hi]
  have hcv : ∀ (i : Nat) (hi : i < cs.length), cv A i = cs[i] := fun i hi => by unfold cv; rw [hat i hi]
  have hty : Typed .char A := fun i v hv => by
    have hi : i < A.slots.size := (Array.getElem?_eq_some_iff.mp hv).1
    have q := K5 i hi
    rw [hv] at q
    rw [Option.some.inj q]
    exact K6 i hi
  refine Back.mono (back hZ hw wi E V C K1 hty S hz (by omega) (by omega) (fun i hi => by rw [hcv i (by omega)]; exact hall _ (List.getElem_mem _)) hfr hlo) (fun P a hp => ⟨hp.1, hp.2.1, hp.2.2.1, by rw [e]; exact hp.2.2.2⟩) (fun P a v B hp hq => ?_)
  obtain ⟨L, ⟨q1, q2, q3, q4, q5, q6, q7, ⟨V', v1, v2, v3, v4, v5⟩, q9⟩, hl, hc, hs⟩ := hq
  refine ⟨L, ⟨q1, q2, q3, q4, q5, q6, q7, ⟨V'.cls, v3, V', v1, rfl, by rw [v4, e, hlen], K4, fun i hi => ?_, fun i hi => ?_⟩, q9⟩, hl, hc, by rw [hs, e]⟩
  · have hi' : i < cs.length := by omega
    rw [v5 i (by omega), hcv i hi']; simp [List.getD_eq_getElem?_getD, hi']
  · have hi' : i < cs.length := by omega
    simp only [List.getD_eq_getElem?_getD, List.getElem?_map, List.getElem?_eq_getElem hi', Option.map_some, Option.getD_some]
    exact fits_lo8 _
end StrChars.Road
namespace StrChars.Road
open Jvm Sem ClassFile Op Lib Jvm.Stand Jvm.Free Jvm.Free.XT
/-- WHAT COMES BACK, in the writer's own shape -/
def QV (Z : State) (x : Addr) (N : Int32) (bs : List Int32) (h : Heap) (n0 : Nat) (v : Option Value) (h' : Heap) (L : List Loc) : Prop := v = none ∧ RoadKit.Fr n0 L ∧ RoadKit.Keep h h' [x] ∧ RoadKit.Exa Z h' x ST ∧ RoadKit.Fld Z h' x ST "coder" "B" (.int 0) ∧
  ∃ (t : Addr) (kb : ClassId), n0 ≤ t ∧ h.size ≤ t ∧ ¬ t = x ∧ RoadKit.Fld Z h' x ST "value" "[B" (.ref t) ∧ RoadKit.Arv Z h' t kb .byte N (bs.map Value.int) (.int 0)
/-- **new String(chars) AT A CALL, FOR THE WRITER**: a char[] of n known ints, each 0 to 255 -/
theorem backV {p : Program} {l : Launch} {e : Env} {R : Room} {s : State} {args : Array Value} {below : List Frame} {len W : Nat} {Z : State} {a0 : Array Value} {h : Heap} (hZ : Z.Warmed39 s.vm) (hw : ∀ d ∈ words, d.before a0 Z = true) {kI : Nat} (wi : (Jvm.Cond.instantiable ST kI).before a0 Z = true)
    {x b : Addr} {kC : ClassId} {cs bs : List Int32} {d v0 c0 : Value} {z N : Int32} {n n0 : Nat} (hx0 : n0 ≤ x) (hh0 : n0 ≤ h.size) (E : RoadKit.Exa Z h x ST) (V : RoadKit.Fld Z h x ST "value" "[B" v0) (C : RoadKit.Fld Z h x ST "coder" "B" c0) (K : RoadKit.Arv Z h b kC .char N (cs.map Value.int) d) (S : RoadKit.Sta Z h ST "COMPACT_STRINGS" "Z" (.int z)) (hz : ¬ z = 0)
    (hn : cs.length = n) (hN : N = Int32.ofNat n) (l0 : 0 < n) (l2 : n ≤ 4000) (hp : ∀ c ∈ cs, ¬ c < 0 ∧ ¬ (255 : Int32) < c) (hb : bs = cs.map (fun c => c.toInt8.toInt32)) (hfr : 4 ≤ R.frames) (hlo : W + 65 ≤ R.locals) :
    Back l R p e below s args (⟨"java/lang/String", "<init>", "([C)V"⟩ : MethodName) len W (fun P a => a = #[.ref x, .ref b] ∧ P.U.heap = h ∧ P.cells + 1 ≤ R.cells ∧ P.slots + n ≤ R.slots)
      (fun P _ v B => ∃ L, QV Z x N bs h n0 v B.U.heap L ∧ B.locs = P.locs ++ L ∧ B.cells = P.cells + 1 ∧ B.slots = P.slots + n) := by
  subst hn hN hb
  refine Back.mono (backArv hZ hw wi E V C K S hz (n32 (by omega)) l0 (by omega) (fun c hc => (hp c hc).2) hfr hlo) (fun P a hp => hp) (fun P a v B hp hq => ?_)
  obtain ⟨L, ⟨q1, q2, q3, q4, q5, q6, q7, ⟨kb, v1, v2⟩, q9⟩, hl, hc, hs⟩ := hq
  exact ⟨L, ⟨q1, fun y hy => by rw [q2 y hy]; exact hx0, q3, q5, q7, h.size, kb, hh0, Nat.le_refl _, Nat.ne_of_gt E.lt, q6, by rw [List.map_map]; exact v2⟩, hl, hc, hs⟩
end StrChars.Road
namespace StrChars
open Jvm Sem ClassFile Op Lib Jvm.Stand Jvm.Free.XT Jvm.Free.ALB Jvm.Free.JM Jvm.Free
open Jvm.Lib.Cold (StaticIs)
def hi8 (x : Int32) : Int32 := lo8 (x >>> ((8 : Int32) &&& 31))
/-- what StringUTF16.getChar makes of two bytes -/
def pairCh (u v : Int32) : Int32 := (((u &&& 255) <<< ((0 : Int32) &&& 31)) ||| ((v &&& 255) <<< ((8 : Int32) &&& 31))).toUInt32.toUInt16.toUInt32.toInt32
theorem shr0 (c : Int32) : c >>> ((0 : Int32) &&& 31) = c := by
  have e : ((0 : Int32) &&& 31) = 0 := by decide
  rw [e]
  apply Int32.toBitVec_inj.mp
  rw [Int32.toBitVec_shiftRight]
  have e1 : ((0 : Int32).toBitVec.smod 32) = 0#32 := by decide
  rw [e1, BitVec.sshiftRight_eq']
  exact BitVec.sshiftRight_zero
theorem lo8_and (x : Int32) : (lo8 x &&& 255).toBitVec.toNat = x.toBitVec.toNat % 256 := by
  have h : (lo8 x).toBitVec = (x.toBitVec.signExtend 8).signExtend 32 := by rw [lo8, Int8.toBitVec_toInt32, Int32.toBitVec_toInt8]
  rw [Int32.toBitVec_and, BitVec.toNat_and, h]
  have e : ((x.toBitVec.signExtend 8).signExtend 32).toNat % 256 = x.toBitVec.toNat % 256 := by
    rw [BitVec.toNat_signExtend]
    have hlt := x.toBitVec.isLt
    simp only [BitVec.toNat_setWidth, BitVec.toNat_signExtend]
    split <;> split <;> omega
  rw [← e]
  exact Nat.and_two_pow_sub_one_eq_mod _ 8
theorem pair_says {c : Int32} (h0 : ¬ c < 0) (h1 : ¬ 65535 < c) : pairCh (lo8 c) (hi8 c) = c := by
  rw [Int32.lt_iff_toInt_lt] at h0 h1
  have e0 : (0 : Int32).toInt = 0 := rfl
  have e1 : (65535 : Int32).toInt = 65535 := rfl
  have hc : c.toInt = c.toBitVec.toNat := by
    have := c.toBitVec.isLt
    have e : c.toInt = c.toBitVec.toInt := rfl
    rw [e] at h0 h1
    rw [e]
    rw [BitVec.toInt_eq_toNat_cond] at h0 h1 ⊢
    split at h0 <;> split <;> omega
  have hn : c.toBitVec.toNat < 65536 := by omega
  have a1 := lo8_and c
  have a2 : (hi8 c &&& 255).toBitVec.toNat = c.toBitVec.toNat / 256 := by
    rw [hi8, lo8_and]
    have e : ((8 : Int32) &&& 31) = 8 := by decide
    rw [e, Int32.toBitVec_shiftRight]
    have e2 : ((8 : Int32).toBitVec.smod 32) = 8#32 := by decide
    rw [e2, BitVec.sshiftRight_eq', BitVec.toNat_sshiftRight_of_msb_false (by rw [BitVec.msb_eq_false_iff_two_mul_lt]; omega)]
    show c.toBitVec.toNat >>> 8 % 256 = _
    rw [Nat.shiftRight_eq_div_pow]
    omega
  unfold pairCh
  apply Int32.toBitVec_inj.mp
  apply BitVec.eq_of_toNat_eq
  have f0 : ((0 : Int32) &&& 31) = 0 := by decide
  have f8 : ((8 : Int32) &&& 31) = 8 := by decide
  rw [f0, f8]
  have g : (((lo8 c &&& 255) <<< (0 : Int32)) ||| ((hi8 c &&& 255) <<< (8 : Int32))).toBitVec.toNat = c.toBitVec.toNat := by
    rw [Int32.toBitVec_or, Int32.toBitVec_shiftLeft, Int32.toBitVec_shiftLeft]
    have s0 : ((0 : Int32).toBitVec.smod 32) = 0#32 := by decide
    have s8 : ((8 : Int32).toBitVec.smod 32) = 8#32 := by decide
    rw [s0, s8, BitVec.toNat_or]
    simp only [BitVec.shiftLeft_eq', BitVec.toNat_shiftLeft, a1, a2]
    show (c.toBitVec.toNat % 256) <<< 0 % 2 ^ 32 ||| (c.toBitVec.toNat / 256) <<< 8 % 2 ^ 32 = _
    rw [Nat.shiftLeft_zero, Nat.mod_eq_of_lt (show c.toBitVec.toNat % 256 < 2 ^ 32 by omega), Nat.mod_eq_of_lt (show (c.toBitVec.toNat / 256) <<< 8 < 2 ^ 32 by rw [Nat.shiftLeft_eq]; omega), Nat.or_comm, ← Nat.shiftLeft_add_eq_or_of_lt (by omega), Nat.shiftLeft_eq]
    omega
  show BitVec.toNat (((((lo8 c &&& 255) <<< (0 : Int32)) ||| ((hi8 c &&& 255) <<< (8 : Int32))).toBitVec.setWidth 16).setWidth 32) = _
  rw [BitVec.toNat_setWidth, BitVec.toNat_setWidth, g]
  omega
end StrChars
namespace StrChars
open Jvm Sem ClassFile Op Lib Jvm.Stand Jvm.Free.XT Jvm.Free.ALB Jvm.Free.JM Jvm.Free
open Jvm.Lib.Cold (StaticIs)
theorem shr1 {n : Nat} (h : 2 * n < 2 ^ 31) : Int32.ofNat (2 * n) >>> ((1 : Int32) &&& 31) = Int32.ofNat n := by
  have e : ((1 : Int32) &&& 31) = 1 := by decide
  rw [e]
  apply Int32.toBitVec_inj.mp
  rw [Int32.toBitVec_shiftRight]
  have e1 : ((1 : Int32).toBitVec.smod 32) = 1#32 := by decide
  have hm : (BitVec.ofNat 32 (2 * n)).toNat = 2 * n := by rw [BitVec.toNat_ofNat, Nat.mod_eq_of_lt (by omega)]
  rw [e1, BitVec.sshiftRight_eq']
  apply BitVec.eq_of_toNat_eq
  show ((BitVec.ofNat 32 (2 * n)).sshiftRight 1).toNat = (BitVec.ofNat 32 n).toNat
  rw [BitVec.toNat_sshiftRight_of_msb_false (by rw [BitVec.msb_eq_false_iff_two_mul_lt, hm]; omega), hm, BitVec.toNat_ofNat, Nat.shiftRight_eq_div_pow]
  omega
/-- charAt's cast of a byte read back -/
def chr8 (u : Int32) : Int32 := (u &&& 255).toUInt32.toUInt16.toUInt32.toInt32
theorem chr8_lo8 {c : Int32} (h0 : ¬ c < 0) (h1 : ¬ 255 < c) : chr8 (lo8 c) = c := by
  have t : ∀ k : Fin 256, (Int32.ofNat k.val).toUInt32.toUInt16.toUInt32.toInt32 = Int32.ofNat k.val := by decide +kernel
  unfold chr8
  rw [lo8_mask h0 h1]
  rw [Int32.lt_iff_toInt_lt] at h0 h1
  have e0 : (0 : Int32).toInt = 0 := rfl
  have e1 : (255 : Int32).toInt = 255 := rfl
  obtain ⟨k, hk⟩ : ∃ k : Nat, c.toInt = k := ⟨c.toInt.toNat, by omega⟩
  have hx : c = Int32.ofNat k := Int32.toInt_inj.mp (by rw [hk, Int32.toInt_ofNat_small (by omega)])
  rw [hx]
  exact t ⟨k, by omega⟩
theorem narrow_ch {c : Int32} (h0 : ¬ c < 0) (h1 : ¬ 65535 < c) : narrow .char (.int c) = .int c := by
  have q : narrow .char (.int (pairCh (lo8 c) (hi8 c))) = .int (pairCh (lo8 c) (hi8 c)) := narrow_c _
  rwa [pair_says h0 h1] at q
/-- the array's cell V codes the n chars f 0 .. f (n - 1) by the coder cd, as the JDK does: coder 1 just where some char is above 255 -/
def Cod (cd : Int32) (n : Nat) (f : Nat → Int32) (V : Cell) : Prop := (cd = 0 ∧ V.slots.size = n ∧ ∀ j, j < n → V.slots[j]? = some (.int (lo8 (f j))) ∧ ¬ 255 < f j) ∨ (cd = 1 ∧ V.slots.size = 2 * n ∧ (∀ j, j < n → V.slots[2 * j]? = some (.int (lo8 (f j))) ∧ V.slots[2 * j + 1]? = some (.int (hi8 (f j)))) ∧ ∃ j, j < n ∧ 255 < f j)
theorem Cod.cd {cd : Int32} {n : Nat} {f : Nat → Int32} {V : Cell} (h : Cod cd n f V) : cd = 0 ∨ cd = 1 := h.imp (fun q => q.1) fun q => q.1
theorem Cod.len {cd : Int32} {n : Nat} {f : Nat → Int32} {V : Cell} (h : Cod cd n f V) (hs : V.slots.size < 2 ^ 31) : Int32.ofNat V.slots.size >>> (cd &&& 31) = Int32.ofNat n := by
  rcases h with ⟨rfl, h, -⟩ | ⟨rfl, h, -⟩
  · rw [shr0, h]
  · rw [h, shr1 (by omega)]
/-- **x is a String of the n chars f 0 .. f (n - 1)**, Latin-1 or UTF-16; its array at t has the cell V -/
def Txt (x t : Addr) (V : Cell) (cd : Int32) (n : Nat) (f : Nat → Int32) (U : State) : Prop := Exact "java/lang/String" x U ∧ Has x "java/lang/String" "value" "[B" (.ref t) U ∧ Has x "java/lang/String" "coder" "B" (.int cd) U ∧ XT.Arr .byte t V U ∧ Cod cd n f V ∧ ∀ j, j < n → ¬ f j < 0 ∧ ¬ 65535 < f j
theorem Txt.mv {x t : Addr} {V : Cell} {cd : Int32} {n : Nat} {f : Nat → Int32} {U U' : State} (h : Txt x t V cd n f U) (hal : U.vm.Alike U'.vm) (hh : U'.heap = U.heap) : Txt x t V cd n f U' := ⟨h.1.mv hal hh, h.2.1.mv hal hh, h.2.2.1.mv hal hh, h.2.2.2.1.mv hal hh, h.2.2.2.2⟩
namespace Cdr
def yN : MethodName := ⟨"java/lang/String", "coder", "()B"⟩
abbrev yB : ByteArray := jdk_42_method_152_code
theorem d0 : decode yB 0 = .ok (.getstatic 38, 3) := by decide +kernel
theorem d3 : decode yB 3 = .ok (.ifCond (.eq) 10, 3) := by decide +kernel
theorem d6 : decode yB 6 = .ok (.aload_n 0, 1) := by decide +kernel
theorem d7 : decode yB 7 = .ok (.getfield 15, 3) := by decide +kernel
theorem d10 : decode yB 10 = .ok (.goto 4, 3) := by decide +kernel
theorem d14 : decode yB 14 = .ok (.ireturn, 1) := by decide +kernel
def site : List Cond := [.fieldLink "java/lang/String" 38 "java/lang/String" "COMPACT_STRINGS" "Z", .fieldLink "java/lang/String" 15 "java/lang/String" "coder" "B"]
def tab : Cond := tabOf yN yB 1 (some .byte) site
def P (x : Addr) (cd z : Int32) (args : Array Value) (s : State) : Prop := args = #[.ref x] ∧ Has x "java/lang/String" "coder" "B" (.int cd) s ∧ (cd = 0 ∨ cd = 1) ∧ StaticIs s "java/lang/String" "COMPACT_STRINGS" "Z" (.int z) ∧ ¬ z = 0
def E (cd : Int32) (r : Option Value) (s u : State) : Prop := XT.PureE (some (.int cd)) r s u
theorem law (l : Launch) (x : Addr) (cd z : Int32) : Law l yN 1 0 0 0 yB 1 (some .byte) site (P x cd z) (E cd) [] 0 0 := by
  refine Law.of_walk (plainFor_of_name (by decide +kernel)) (by decide +kernel) (by decide +kernel) (by decide) (fun _ _ h => by rw [h.1]; rfl) (fun _ U U' hal hh h => ⟨h.1, h.2.1.mv hal hh, h.2.2.1, h.2.2.2.1.there hal hh, h.2.2.2.2⟩) (fun r U U' V V' h1 hal h2 h => XT.PureE.mv r U U' V V' h1 hal h2 h) ?_
  intro p e s m args below meth c s₁ X0 hexec hbytes hml hret hlk hnm hown hh0 W hP
  obtain ⟨rfl, hx, hc, s1, hz⟩ := hP
  have c1 : Steps p.tables e below (s₁.setTop (entryFrame m #[.ref x] 1)) (s₁.setTop (mkF m 0 #[.val (.ref x)] [])) := entry rfl
  obtain ⟨T2, X2, q2, st2⟩ := X0.sget hexec hown (wk W (.fieldLink "java/lang/String" 38 "java/lang/String" "COMPACT_STRINGS" "Z")) s1 (fun _ _ h => by rw [hh0]; exact h) (g := (mkF m 0 #[.val (.ref x)] [])) rfl (hb hbytes d0)
  have hh2 := q2.trans hh0
  have c3 : Steps p.tables e below (s₁.setTop (entryFrame m #[.ref x] 1)) (T2.setTop (mkF m 7 #[.val (.ref x)] [.ref x])) := (c1.trans (st2 _ (Steps.refl _))).trans (by
    refine XS.ifNo X2.here hexec rfl (hb hbytes d3) rfl (i0_eq_f hz) ?_
    refine XS.aloadN X2.here hexec rfl (hb hbytes d6) rfl rfl ?_
    exact Steps.refl _)
  obtain ⟨T4, X4, q4, st4⟩ := X2.hget hexec hown (wk W (.fieldLink "java/lang/String" 15 "java/lang/String" "coder" "B")) (hx.mv X2.warmed.alike hh2) (g := (mkF m 7 #[.val (.ref x)] [.ref x])) rfl (rest := []) rfl (hb hbytes d7)
  have c5 : Steps p.tables e below (s₁.setTop (entryFrame m #[.ref x] 1)) (T4.setTop (mkF m 14 #[.val (.ref x)] [.int cd])) := (c3.trans (st4 _ (Steps.refl _))).trans (by
    refine XS.goto X4.here hexec rfl (pc0 := 10) rfl (hb hbytes d10) (by decide) rfl ?_
    exact Steps.refl _)
  exact ⟨T4, some (.int cd), _, _, _, X4, rfl, rfl, rfl, (fun h => by cases h), ⟨rfl, q4.trans hh2⟩, fun fs hl => c5.trans (X4.ireturnOut hexec hret (by rcases hc with rfl | rfl <;> rfl) (Or.inr (Or.inr (Or.inl rfl))) (hb hbytes d14) hl)⟩
end Cdr
namespace Len
def yN : MethodName := ⟨"java/lang/String", "length", "()I"⟩
abbrev yB : ByteArray := jdk_42_method_54_code
theorem d0 : decode yB 0 = .ok (.aload_n 0, 1) := by decide +kernel
theorem d1 : decode yB 1 = .ok (.getfield 9, 3) := by decide +kernel
theorem d4 : decode yB 4 = .ok (.arraylength, 1) := by decide +kernel
theorem d5 : decode yB 5 = .ok (.aload_n 0, 1) := by decide +kernel
theorem d6 : decode yB 6 = .ok (.invokevirtual 335, 3) := by decide +kernel
theorem d9 : decode yB 9 = .ok (.ishr, 1) := by decide +kernel
theorem d10 : decode yB 10 = .ok (.ireturn, 1) := by decide +kernel
def site : List Cond := [.fieldLink "java/lang/String" 9 "java/lang/String" "value" "[B", Cdr.tab] ++ virtW "java/lang/String" 335 "java/lang/String" Cdr.yN Cdr.yN
def tab : Cond := tabOf yN yB 1 (some .int) site
def P (x t : Addr) (V : Cell) (cd : Int32) (n : Nat) (f : Nat → Int32) (z : Int32) (args : Array Value) (s : State) : Prop := args = #[.ref x] ∧ Txt x t V cd n f s ∧ StaticIs s "java/lang/String" "COMPACT_STRINGS" "Z" (.int z) ∧ ¬ z = 0
def E (n : Nat) (r : Option Value) (s u : State) : Prop := XT.PureE (some (.int (Int32.ofNat n))) r s u
/-- length() of a String of n chars, in either coding -/
theorem law (l : Launch) (x t : Addr) (V : Cell) (cd : Int32) (n : Nat) (f : Nat → Int32) (z : Int32) : Law l yN 1 0 1 13 yB 1 (some .int) site (P x t V cd n f z) (E n) [] 0 0 := by
  refine Law.of_walk (plainFor_of_name (by decide +kernel)) (by decide +kernel) (by decide +kernel) (by decide) (fun _ _ h => by rw [h.1]; rfl) (fun _ U U' hal hh h => ⟨h.1, h.2.1.mv hal hh, h.2.2.1.there hal hh, h.2.2.2⟩) (fun r U U' V V' h1 hal h2 h => XT.PureE.mv r U U' V V' h1 hal h2 h) ?_
  intro p e s m args below meth c s₁ X0 hexec hbytes hml hret hlk hnm hown hh0 W hP
  obtain ⟨rfl, hx, s1, hz⟩ := hP
  have v31 := hx.2.2.2.1.2.2.2
  have c1 : Steps p.tables e below (s₁.setTop (entryFrame m #[.ref x] 1)) (s₁.setTop (mkF m 1 #[.val (.ref x)] [.ref x])) := Steps.trans (entry rfl) (by
    show Steps p.tables e below (s₁.setTop (mkF m 0 #[.val (.ref x)] [])) _
    refine XS.aloadN X0.here hexec rfl (hb hbytes d0) rfl rfl ?_
    exact Steps.refl _)
  obtain ⟨T2, X2, q2, st2⟩ := X0.hget hexec hown (wk W (.fieldLink "java/lang/String" 9 "java/lang/String" "value" "[B")) (hx.mv X0.warmed.alike hh0).2.1 (g := (mkF m 1 #[.val (.ref x)] [.ref x])) rfl (rest := []) rfl (hb hbytes d1)
  have hh2 := q2.trans hh0
  have hx2 := hx.mv X2.warmed.alike hh2
  have c3 : Steps p.tables e below (s₁.setTop (entryFrame m #[.ref x] 1)) (T2.setTop (mkF m 6 #[.val (.ref x)] [.ref x, .int (Int32.ofNat V.slots.size)])) := (c1.trans (st2 _ (Steps.refl _))).trans (by
    refine X2.alen hexec hx2.2.2.2.1 rfl rfl (hb hbytes d4) ?_
    refine XS.aloadN X2.here hexec rfl (hb hbytes d5) rfl rfl ?_
    exact Steps.refl _)
  obtain ⟨v4, T4, X4, E4, g4⟩ := X2.callV hexec (Cdr.law l x cd z) hown (wks W (virtW "java/lang/String" 335 "java/lang/String" Cdr.yN Cdr.yN)) rfl (by decide) (wk W Cdr.tab) (W := 1) (Nat.le_of_ble_eq_true rfl) (Nat.le_of_ble_eq_true rfl) (Nat.le_refl _) (Nat.le_refl _) (hx2.1.fc X2.warmed.alike) hx2.1.is (g := (mkF m 6 #[.val (.ref x)] [.ref x, .int (Int32.ofNat V.slots.size)])) rfl (by rw [hml]; rfl) c3 (argsL := []) (rest := [.int (Int32.ofNat V.slots.size)]) rfl rfl (by show 2 * 0 + (1 + 0) ≤ _; decide) (hb hbytes d6) (⟨rfl, hx2.2.2.1, hx.2.2.2.2.1.cd, s1.there X2.warmed.alike hh2, hz⟩)
  obtain ⟨rfl, q4⟩ := E4
  have c5 : Steps p.tables e below (s₁.setTop (entryFrame m #[.ref x] 1)) (T4.setTop (mkF m 10 #[.val (.ref x)] [.int (Int32.ofNat V.slots.size >>> (cd &&& 31))])) := Steps.trans g4 (by
    refine ishr X4.here hexec rfl (hb hbytes d9) rfl ?_
    exact Steps.refl _)
  rw [hx.2.2.2.2.1.len v31] at c5
  exact ⟨T4, some (.int (Int32.ofNat n)), _, _, _, X4, rfl, rfl, rfl, (fun h => by cases h), ⟨rfl, q4.trans hh2⟩, fun fs hl => c5.trans (X4.ireturnOut hexec hret rfl (Or.inl rfl) (hb hbytes d10) hl)⟩
theorem pays {l : Launch} {R : Room} {p : Program} {e : Env} {below : List Frame} {s : State} {sargs : Array Value} {len W : Nat} (x t : Addr) (V : Cell) (cd : Int32) (n : Nat) (f : Nat → Int32) (z : Int32) (htab : tab.before sargs s = true) (hfr : 2 ≤ R.frames) (hlo : W + 25 ≤ R.locals) :
    Back l R p e below s sargs yN len W (fun A₁ a₁ => A₁.cells + 0 ≤ R.cells ∧ A₁.slots + 0 ≤ R.slots ∧ P x t V cd n f z a₁ A₁.U) (fun A₁ _ v₁ B₁ => E n v₁ A₁.U B₁.U ∧ B₁.locs = A₁.locs ++ [] ∧ B₁.cells = A₁.cells + 0 ∧ B₁.slots = A₁.slots + 0) :=
  (law l x t V cd n f z).pays htab hfr (by omega)
end Len
namespace IsL
def yN : MethodName := ⟨"java/lang/String", "isLatin1", "()Z"⟩
abbrev yB : ByteArray := jdk_42_method_154_code
theorem d0 : decode yB 0 = .ok (.getstatic 38, 3) := by decide +kernel
theorem d3 : decode yB 3 = .ok (.ifCond (.eq) 14, 3) := by decide +kernel
theorem d6 : decode yB 6 = .ok (.aload_n 0, 1) := by decide +kernel
theorem d7 : decode yB 7 = .ok (.getfield 15, 3) := by decide +kernel
theorem d10 : decode yB 10 = .ok (.ifCond (.ne) 7, 3) := by decide +kernel
theorem d13 : decode yB 13 = .ok (.iconst 1, 1) := by decide +kernel
theorem d14 : decode yB 14 = .ok (.goto 4, 3) := by decide +kernel
theorem d17 : decode yB 17 = .ok (.iconst 0, 1) := by decide +kernel
theorem d18 : decode yB 18 = .ok (.ireturn, 1) := by decide +kernel
def site : List Cond := [.fieldLink "java/lang/String" 38 "java/lang/String" "COMPACT_STRINGS" "Z", .fieldLink "java/lang/String" 15 "java/lang/String" "coder" "B"]
def tab : Cond := tabOf yN yB 1 (some .boolean) site
def P (x : Addr) (cd z : Int32) (args : Array Value) (s : State) : Prop := args = #[.ref x] ∧ Has x "java/lang/String" "coder" "B" (.int cd) s ∧ (cd = 0 ∨ cd = 1) ∧ StaticIs s "java/lang/String" "COMPACT_STRINGS" "Z" (.int z) ∧ ¬ z = 0
def E (cd : Int32) (r : Option Value) (s u : State) : Prop := XT.PureE (some (.int (1 - cd))) r s u
theorem law (l : Launch) (x : Addr) (cd z : Int32) : Law l yN 1 0 0 0 yB 1 (some .boolean) site (P x cd z) (E cd) [] 0 0 := by
  refine Law.of_walk (plainFor_of_name (by decide +kernel)) (by decide +kernel) (by decide +kernel) (by decide) (fun _ _ h => by rw [h.1]; rfl) (fun _ U U' hal hh h => ⟨h.1, h.2.1.mv hal hh, h.2.2.1, h.2.2.2.1.there hal hh, h.2.2.2.2⟩) (fun r U U' V V' h1 hal h2 h => XT.PureE.mv r U U' V V' h1 hal h2 h) ?_
  intro p e s m args below meth c s₁ X0 hexec hbytes hml hret hlk hnm hown hh0 W hP
  obtain ⟨rfl, hx, hc, s1, hz⟩ := hP
  have c1 : Steps p.tables e below (s₁.setTop (entryFrame m #[.ref x] 1)) (s₁.setTop (mkF m 0 #[.val (.ref x)] [])) := entry rfl
  obtain ⟨T2, X2, q2, st2⟩ := X0.sget hexec hown (wk W (.fieldLink "java/lang/String" 38 "java/lang/String" "COMPACT_STRINGS" "Z")) s1 (fun _ _ h => by rw [hh0]; exact h) (g := (mkF m 0 #[.val (.ref x)] [])) rfl (hb hbytes d0)
  have hh2 := q2.trans hh0
  have c3 : Steps p.tables e below (s₁.setTop (entryFrame m #[.ref x] 1)) (T2.setTop (mkF m 7 #[.val (.ref x)] [.ref x])) := (c1.trans (st2 _ (Steps.refl _))).trans (by
    refine XS.ifNo X2.here hexec rfl (hb hbytes d3) rfl (i0_eq_f hz) ?_
    refine XS.aloadN X2.here hexec rfl (hb hbytes d6) rfl rfl ?_
    exact Steps.refl _)
  obtain ⟨T4, X4, q4, st4⟩ := X2.hget hexec hown (wk W (.fieldLink "java/lang/String" 15 "java/lang/String" "coder" "B")) (hx.mv X2.warmed.alike hh2) (g := (mkF m 7 #[.val (.ref x)] [.ref x])) rfl (rest := []) rfl (hb hbytes d7)
  have c5 : Steps p.tables e below (s₁.setTop (entryFrame m #[.ref x] 1)) (T4.setTop (mkF m 10 #[.val (.ref x)] [.int cd])) := c3.trans (st4 _ (Steps.refl _))
  have c6 : Steps p.tables e below (s₁.setTop (entryFrame m #[.ref x] 1)) (T4.setTop (mkF m 18 #[.val (.ref x)] [.int (1 - cd)])) := by
    rcases hc with rfl | rfl
    · exact c5.trans (by
        refine XS.ifNo X4.here hexec rfl (hb hbytes d10) rfl (i0_ne_f rfl) ?_
        refine iconstV X4.here hexec rfl 1 (hb hbytes d13) (by decide) ?_
        refine XS.goto X4.here hexec rfl (pc0 := 14) rfl (hb hbytes d14) (by decide) rfl ?_
        exact Steps.refl _)
    · exact c5.trans (by
        refine XS.ifYes X4.here hexec rfl (pc0 := 10) rfl (hb hbytes d10) rfl (i0_ne_t (by decide)) (by decide) rfl ?_
        refine iconstV X4.here hexec rfl 0 (hb hbytes d17) (by decide) ?_
        exact Steps.refl _)
  exact ⟨T4, some (.int (1 - cd)), _, _, _, X4, rfl, rfl, rfl, (fun h => by cases h), ⟨rfl, q4.trans hh2⟩, fun fs hl => c6.trans (X4.ireturnOut hexec hret (by rcases hc with rfl | rfl <;> rfl) (Or.inr (Or.inl rfl)) (hb hbytes d18) hl)⟩
end IsL
namespace LChA
def yN : MethodName := ⟨"java/lang/StringLatin1", "charAt", "([BI)C"⟩
abbrev yB : ByteArray := jdk_43_method_2_code
theorem d0 : decode yB 0 = .ok (.iload_n 1, 1) := by decide +kernel
theorem d1 : decode yB 1 = .ok (.aload_n 0, 1) := by decide +kernel
theorem d2 : decode yB 2 = .ok (.arraylength, 1) := by decide +kernel
theorem d3 : decode yB 3 = .ok (.invokestatic 9, 3) := by decide +kernel
theorem d6 : decode yB 6 = .ok (.aload_n 0, 1) := by decide +kernel
theorem d7 : decode yB 7 = .ok (.iload_n 1, 1) := by decide +kernel
theorem d8 : decode yB 8 = .ok (.baload, 1) := by decide +kernel
theorem d9 : decode yB 9 = .ok (.sipush 255, 3) := by decide +kernel
theorem d12 : decode yB 12 = .ok (.iand, 1) := by decide +kernel
theorem d13 : decode yB 13 = .ok (.i2c, 1) := by decide +kernel
theorem d14 : decode yB 14 = .ok (.ireturn, 1) := by decide +kernel
def site : List Cond := [JO.Str_checkIndex.tab] ++ staticW "java/lang/StringLatin1" 9 JO.Str_checkIndex.yN
def tab : Cond := tabOf yN yB 2 (some .char) site
def P (t : Addr) (V : Cell) (i : Nat) (u : Int32) (fm : Value) (args : Array Value) (s : State) : Prop := args = #[.ref t, .int (Int32.ofNat i)] ∧ XT.Arr .byte t V s ∧ V.slots[i]? = some (.int u) ∧ (StaticIs s "jdk/internal/util/Preconditions" "SIOOBE_FORMATTER" "Ljava/util/function/BiFunction;" fm ∧ fm.isRef = true)
def E (u : Int32) (r : Option Value) (s w : State) : Prop := XT.PureE (some (.int (chr8 u))) r s w
theorem law (l : Launch) (t : Addr) (V : Cell) (i : Nat) (u : Int32) (fm : Value) : Law l yN 2 2 2 27 yB 2 (some .char) site (P t V i u fm) (E u) [] 0 0 := by
  refine Law.of_walk (plainFor_of_name (by decide +kernel)) (by decide +kernel) (by decide +kernel) (by decide) (fun _ _ h => by rw [h.1]; rfl) (fun _ U U' hal hh h => ⟨h.1, h.2.1.mv hal hh, h.2.2.1, h.2.2.2.1.there hal hh, h.2.2.2.2⟩) (fun r U U' V V' h1 hal h2 h => XT.PureE.mv r U U' V V' h1 hal h2 h) ?_
  intro p e s m args below meth c s₁ X0 hexec hbytes hml hret hlk hnm hown hh0 W hP
  obtain ⟨rfl, hV, hu, s1, rf⟩ := hP
  have v31 := hV.2.2.2
  have hi : i < V.slots.size := (Array.getElem?_eq_some_iff.mp hu).1
  have c1 : Steps p.tables e below (s₁.setTop (entryFrame m #[.ref t, .int (Int32.ofNat i)] 2)) (s₁.setTop (mkF m 0 #[.val (.ref t), .val (.int (Int32.ofNat i))] [])) := entry rfl
  have c2 : Steps p.tables e below (s₁.setTop (entryFrame m #[.ref t, .int (Int32.ofNat i)] 2)) (s₁.setTop (mkF m 3 #[.val (.ref t), .val (.int (Int32.ofNat i))] [.int (Int32.ofNat V.slots.size), .int (Int32.ofNat i)])) := c1.trans (by
    refine XS.iloadN X0.here hexec rfl (hb hbytes d0) rfl ?_
    refine XS.aloadN X0.here hexec rfl (hb hbytes d1) rfl rfl ?_
    refine X0.alen hexec (hV.mv X0.warmed.alike hh0) rfl rfl (hb hbytes d2) ?_
    exact Steps.refl _)
  obtain ⟨v3, T3, X3, E3, g3⟩ := X0.callS hexec (JO.Str_checkIndex.law l (Int32.ofNat i) (Int32.ofNat V.slots.size) fm) hown (wks W (staticW "java/lang/StringLatin1" 9 JO.Str_checkIndex.yN)) (wk W JO.Str_checkIndex.tab) (W := 0) (Nat.le_of_ble_eq_true rfl) (Nat.le_of_ble_eq_true rfl) (Nat.le_refl _) (Nat.le_refl _) (g := (mkF m 3 #[.val (.ref t), .val (.int (Int32.ofNat i))] [.int (Int32.ofNat V.slots.size), .int (Int32.ofNat i)])) rfl (by rw [hml]; rfl) c2 (argsL := [.int (Int32.ofNat i), .int (Int32.ofNat V.slots.size)]) (rest := []) rfl rfl (by show 2 * 0 + 0 ≤ _; decide) (hb hbytes d3) (⟨rfl, rf, s1.there X0.warmed.alike hh0, Int32.ofNat_not_neg (by omega), lt32 v31 hi⟩)
  obtain ⟨rfl, q3⟩ := E3
  have hh3 := q3.trans hh0
  have c4 : Steps p.tables e below (s₁.setTop (entryFrame m #[.ref t, .int (Int32.ofNat i)] 2)) (T3.setTop (mkF m 14 #[.val (.ref t), .val (.int (Int32.ofNat i))] [.int (chr8 u)])) := Steps.trans g3 (by
    refine XS.aloadN X3.here hexec rfl (hb hbytes d6) rfl rfl ?_
    refine XS.iloadN X3.here hexec rfl (hb hbytes d7) rfl ?_
    refine X3.aget hexec (hV.mv X3.warmed.alike hh3) rfl hu rfl rfl (hb hbytes d8) ?_
    refine sipushV X3.here hexec rfl 255 (hb hbytes d9) (by decide) ?_
    refine XS.iand X3.here hexec rfl (hb hbytes d12) rfl ?_
    refine i2c X3.here hexec rfl (hb hbytes d13) rfl ?_
    exact Steps.refl _)
  exact ⟨T3, some (.int (chr8 u)), _, _, _, X3, rfl, rfl, rfl, (fun h => by cases h), ⟨rfl, hh3⟩, fun fs hl => c4.trans (X3.ireturnOut hexec hret (narrow_c _) (Or.inr (Or.inr (Or.inr (Or.inl rfl)))) (hb hbytes d14) hl)⟩
end LChA
end StrChars
namespace StrChars.Road
open Jvm Sem ClassFile Op Lib Jvm.Stand Jvm.Free Jvm.Free.XT
open Jvm.Lib.Cold (StaticIs)
theorem consq {a : Array Value} {s : State} {c : Jvm.Cond} {L : List Jvm.Cond} (h0 : c.before a s = true) (h : ∀ w ∈ L, w.before a s = true) : ∀ w ∈ c :: L, w.before a s = true := fun w hw => (List.mem_cons.mp hw).elim (fun e => e ▸ h0) (h w)
/-- the words of String.length(), either coding -/
abbrev wordsLen : List Jvm.Cond := [.code Len.yN Len.yB 1 (some .int), .initialized ST, .fieldLink ST 9 ST "value" "[B", .fieldLink ST 38 ST "COMPACT_STRINGS" "Z", .fieldLink ST 15 ST "coder" "B", .code Cdr.yN Cdr.yB 1 (some .byte), .methodLink ST 335 Cdr.yN, .declares Cdr.yN, .selects ST Cdr.yN Cdr.yN, .instanceMethod Cdr.yN]
theorem tabLen_of {a : Array Value} {s : State} (h : ∀ w ∈ wordsLen, w.before a s = true) : Len.tab.before a s = true := by
  have hc : Cdr.tab.before a s = true := unparts (wk h (.code Cdr.yN Cdr.yB 1 (some .byte))) (wks h (.initialized Cdr.yN.cls :: Cdr.site))
  have q := consq hc h
  exact unparts (wk q (.code Len.yN Len.yB 1 (some .int))) (wks q (.initialized Len.yN.cls :: Len.site))
theorem movedLen {Z s : State} {a0 args : Array Value} (hZ : Z.Warmed39 s.vm) (hw : ∀ d ∈ wordsLen, d.before a0 Z = true) : ∀ d ∈ wordsLen, d.before args s = true := fun d hd => by
  have q := hw d hd
  have t : ∀ d ∈ wordsLen, d = .arrayClass .byte ∨ (d.onTables && d.keepsFace) = true := by decide +kernel
  rcases t d hd with rfl | t
  · exact RoadKit.mvA hZ q
  · exact RoadKit.mv hZ q t
/-- the bytes of the chars cs, low before high -/
def wideBytes : List Int32 → List Value
  | [] => []
  | c :: cs => .int (lo8 c) :: .int (hi8 c) :: wideBytes cs
theorem wide_lo (d : Value) : ∀ (cs : List Int32) (j : Nat), j < cs.length → (wideBytes cs).getD (2 * j) d = .int (lo8 (cs.getD j 0))
  | [], j, h => absurd h (Nat.not_lt_zero j)
  | c :: cs, 0, _ => rfl
  | c :: cs, j + 1, h => by
    have q := wide_lo d cs j (by simpa using h)
    rw [show 2 * (j + 1) = 2 * j + 1 + 1 from by omega]
    simpa [wideBytes] using q
theorem wide_hi (d : Value) : ∀ (cs : List Int32) (j : Nat), j < cs.length → (wideBytes cs).getD (2 * j + 1) d = .int (hi8 (cs.getD j 0))
  | [], j, h => absurd h (Nat.not_lt_zero j)
  | c :: cs, 0, _ => rfl
  | c :: cs, j + 1, h => by
    have q := wide_hi d cs j (by simpa using h)
    rw [show 2 * (j + 1) + 1 = 2 * j + 1 + 1 + 1 from by omega]
    simpa [wideBytes] using q
theorem low_at (d : Value) (cs : List Int32) (j : Nat) (h : j < cs.length) : (cs.map fun c => Value.int (lo8 c)).getD j d = .int (lo8 (cs.getD j 0)) := by
  simp [List.getD_eq_getElem?_getD, h]
/-- an array of N2 bytes vs codes the chars cs by the coder cd -/
def CodA (cs : List Int32) (cd N2 : Int32) (vs : List Value) : Prop := (cd = 0 ∧ N2 = Int32.ofNat cs.length ∧ vs = (cs.map fun c => Value.int (lo8 c)) ∧ ∀ c ∈ cs, ¬ 255 < c) ∨ (cd = 1 ∧ N2 = Int32.ofNat (2 * cs.length) ∧ vs = wideBytes cs ∧ ∃ c ∈ cs, 255 < c)
theorem CodA.cod {cs : List Int32} {cd N2 : Int32} {vs : List Value} {V : Cell} (h : CodA cs cd N2 vs) (hn : 2 * cs.length < 2 ^ 31) (hs : V.slots.size = N2.toNatClampNeg) (hv : RoadKit.Has V vs (.int 0)) : Cod cd cs.length (fun j => cs.getD j 0) V := by
  rcases h with ⟨rfl, rfl, rfl, h⟩ | ⟨rfl, rfl, rfl, c, hc, hw⟩
  · rw [n32 (by omega)] at hs
    exact Or.inl ⟨rfl, hs, fun j hj => ⟨by rw [hv j (by omega), low_at _ _ _ hj], by
      have e : cs.getD j 0 = cs[j] := by simp [List.getD_eq_getElem?_getD, hj]
      show ¬ 255 < cs.getD j 0
      rw [e]; exact h _ (List.getElem_mem _)⟩⟩
  · rw [n32 (by omega)] at hs
    obtain ⟨j, hj, rfl⟩ := List.getElem_of_mem hc
    exact Or.inr ⟨rfl, hs, fun j hj => ⟨by rw [hv _ (by omega), wide_lo _ _ _ hj], by rw [hv _ (by omega), wide_hi _ _ _ hj]⟩, j, hj, by
      have e : cs.getD j 0 = cs[j] := by simp [List.getD_eq_getElem?_getD, hj]
      show 255 < cs.getD j 0
      rw [e]; exact hw⟩
/-- an object of exactly java/lang/String, its two fields found: as the laws ask it -/
theorem strObj {Z U : State} {a0 : Array Value} {kI : Nat} (wi : (Jvm.Cond.instantiable ST kI).before a0 Z = true) (al : Z.vm.Alike U.vm) {x : Addr} {v0 c0 : Value} (E : RoadKit.Exa Z U.heap x ST) (V : RoadKit.Fld Z U.heap x ST "value" "[B" v0) (C : RoadKit.Fld Z U.heap x ST "coder" "B" c0) :
    ∃ (D : Cell) (fV fC : Field), Blank ST x D U ∧ Found ST "value" "[B" fV U ∧ Found ST "coder" "B" fC U ∧ D.slots[fV.slot]? = some v0 ∧ D.slots[fC.slot]? = some c0 ∧ RoadKit.slotOf Z ST "value" "[B" = fV.slot ∧ RoadKit.slotOf Z ST "coder" "B" = fC.slot := by
  obtain ⟨D, cfV, kV, iV, fV, hD, gV, stV, knV, obV, asV, slV⟩ := V
  obtain ⟨D', cfC, kC, iC, fC, hD', gC, stC, -, -, asC, slC⟩ := C
  cases hD.symm.trans hD'
  obtain ⟨D2, kD, e1, e2, e3, e4, e5⟩ := E
  cases hD.symm.trans e1
  obtain ⟨c2, k2, i1, i2, i3, -⟩ := Cond.instantiable_spec wi
  cases e2.symm.trans i1
  cases e3.symm.trans i2
  obtain ⟨kU, u1, u2⟩ := al.2.2 _ _ e3
  exact ⟨D, fV, fC, ⟨hD, ⟨knV, fun q hq => by rw [hq] at obV; cases obV⟩, by rw [al.findClass]; exact e2, kU, u1, by rw [u2]; exact i3, by rw [u2]; exact e5 i3⟩, ⟨SBG.found_only al ⟨cfV, kV, iV, gV⟩, stV⟩, ⟨SBG.found_only al ⟨cfC, kC, iC, gC⟩, stC⟩, slV, slC, by simp [RoadKit.slotOf, gV], by simp [RoadKit.slotOf, gC]⟩
theorem sta_is {Z U : State} (al : Z.vm.Alike U.vm) {C n d : String} {v : Value} (S : RoadKit.Sta Z U.heap C n d v) : StaticIs U C n d v := by
  obtain ⟨cfS, iS, kS, fS, st, cS, t1, t2, t3, t4, t5, t6, t7⟩ := S
  exact StaticIs.there (s := { Z with heap := U.heap }) ⟨cfS, iS, kS, fS, st, cS, t1, t2, t3, t4, t5, (fun q => by rw [q] at t6; cases t6), t7⟩ al rfl
/-- **length() OF SUCH A STRING** -/
theorem lenW {p : Program} {l : Launch} {e : Env} {R : Room} {s : State} {args : Array Value} {below : List Frame} {len W : Nat} {Z : State} {a0 : Array Value} {h : Heap} (hZ : Z.Warmed39 s.vm) (hw : ∀ d ∈ wordsLen, d.before a0 Z = true) {kI : Nat} (wi : (Jvm.Cond.instantiable ST kI).before a0 Z = true)
    {x t : Addr} {kb : ClassId} {cs : List Int32} {cd N2 z : Int32} {vs : List Value} (E : RoadKit.Exa Z h x ST) (V : RoadKit.Fld Z h x ST "value" "[B" (.ref t)) (C : RoadKit.Fld Z h x ST "coder" "B" (.int cd)) (K : RoadKit.Arv Z h t kb .byte N2 vs (.int 0)) (hc : CodA cs cd N2 vs) (hb : ∀ c ∈ cs, ¬ c < 0 ∧ ¬ (65535 : Int32) < c)
    (S : RoadKit.Sta Z h ST "COMPACT_STRINGS" "Z" (.int z)) (hz : ¬ z = 0) (l2 : cs.length ≤ 4000) (hfr : 2 ≤ R.frames) (hlo : W + 25 ≤ R.locals) :
    Back l R p e below s args (⟨"java/lang/String", "length", "()I"⟩ : MethodName) len W (fun P a => a = #[.ref x] ∧ P.U.heap = h ∧ P.cells + 0 ≤ R.cells ∧ P.slots + 0 ≤ R.slots)
      (fun P _ v B => ∃ L, (v = some (.int (Int32.ofNat cs.length)) ∧ L = [] ∧ B.U.heap = h) ∧ B.locs = P.locs ++ L ∧ B.cells = P.cells + 0 ∧ B.slots = P.slots + 0) := by
  obtain ⟨A, K1, K2, K3, K4, K5, K6⟩ := K
  have hcod := hc.cod (by omega) K3 K5
  intro m meth c P g ig mk a X hg hsize hdg hW hn hp'
  obtain ⟨rfl, rfl, r1, r2⟩ := hp'
  have al : Z.vm.Alike P.U.vm := hZ.alike.trans X.warmed.alike
  obtain ⟨D, fV, fC, hB, F1, F2, g1, g2, -, -⟩ := strObj wi al E V C
  have hx : Txt x t A cd cs.length (fun j => cs.getD j 0) P.U := ⟨⟨_, hB.2.2.1, D, hB.1, rfl, by cases q : D.vm <;> first | rfl | exact absurd q (hB.2.1.2 _)⟩, Has.of hB F1 g1, Has.of hB F2 g2, ⟨K1.1, State.isArrayOf_alike al K1.2.1, K1.2.2, by rcases hcod with ⟨-, q, -⟩ | ⟨-, q, -⟩ <;> omega⟩, hcod, fun j hj => by
    have e : cs.getD j 0 = cs[j] := by simp [List.getD_eq_getElem?_getD, hj]
    show ¬ cs.getD j 0 < 0 ∧ ¬ 65535 < cs.getD j 0
    rw [e]; exact hb _ (List.getElem_mem _)⟩
  obtain ⟨v, B, X', ⟨⟨hv, hh⟩, hl, hk, hs⟩, st⟩ := Len.pays x t A cd cs.length (fun j => cs.getD j 0) z (tabLen_of (movedLen hZ hw)) hfr hlo m meth c P g ig mk _ X hg hsize hdg hW hn ⟨r1, r2, rfl, hx, sta_is al S, hz⟩
  exact ⟨v, B, X', ⟨[], ⟨hv, rfl, hh⟩, hl, hk, hs⟩, st⟩
end StrChars.Road
namespace StrChars
open Jvm Sem ClassFile Op Lib Jvm.Stand Jvm.Free.XT Jvm.Free.ALB Jvm.Free.JM Jvm.Free
open Jvm.Lib.Cold (StaticIs)
namespace Emp
def yN : MethodName := ⟨"java/lang/String", "isEmpty", "()Z"⟩
abbrev yB : ByteArray := jdk_42_method_55_code
theorem d0 : decode yB 0 = .ok (.aload_n 0, 1) := by decide +kernel
theorem d1 : decode yB 1 = .ok (.getfield 9, 3) := by decide +kernel
theorem d4 : decode yB 4 = .ok (.arraylength, 1) := by decide +kernel
theorem d5 : decode yB 5 = .ok (.ifCond (.ne) 7, 3) := by decide +kernel
theorem d8 : decode yB 8 = .ok (.iconst 1, 1) := by decide +kernel
theorem d9 : decode yB 9 = .ok (.goto 4, 3) := by decide +kernel
theorem d12 : decode yB 12 = .ok (.iconst 0, 1) := by decide +kernel
theorem d13 : decode yB 13 = .ok (.ireturn, 1) := by decide +kernel
def site : List Cond := [.fieldLink "java/lang/String" 9 "java/lang/String" "value" "[B"]
def tab : Cond := tabOf yN yB 1 (some .boolean) site
def P (x t : Addr) (V : Cell) (cd : Int32) (n : Nat) (f : Nat → Int32) (args : Array Value) (s : State) : Prop := args = #[.ref x] ∧ Txt x t V cd n f s
def E (n : Nat) (r : Option Value) (s u : State) : Prop := XT.PureE (some (.int (if n = 0 then 1 else 0))) r s u
/-- isEmpty() of a String of n chars -/
theorem law (l : Launch) (x t : Addr) (V : Cell) (cd : Int32) (n : Nat) (f : Nat → Int32) : Law l yN 1 0 0 0 yB 1 (some .boolean) site (P x t V cd n f) (E n) [] 0 0 := by
  refine Law.of_walk (plainFor_of_name (by decide +kernel)) (by decide +kernel) (by decide +kernel) (by decide) (fun _ _ h => by rw [h.1]; rfl) (fun _ U U' hal hh h => ⟨h.1, h.2.mv hal hh⟩) (fun r U U' V V' h1 hal h2 h => XT.PureE.mv r U U' V V' h1 hal h2 h) ?_
  intro p e s m args below meth c s₁ X0 hexec hbytes hml hret hlk hnm hown hh0 W hP
  obtain ⟨rfl, hx⟩ := hP
  have v31 := hx.2.2.2.1.2.2.2
  have c1 : Steps p.tables e below (s₁.setTop (entryFrame m #[.ref x] 1)) (s₁.setTop (mkF m 1 #[.val (.ref x)] [.ref x])) := Steps.trans (entry rfl) (by
    show Steps p.tables e below (s₁.setTop (mkF m 0 #[.val (.ref x)] [])) _
    refine XS.aloadN X0.here hexec rfl (hb hbytes d0) rfl rfl ?_
    exact Steps.refl _)
  obtain ⟨T2, X2, q2, st2⟩ := X0.hget hexec hown (wk W (.fieldLink "java/lang/String" 9 "java/lang/String" "value" "[B")) (hx.mv X0.warmed.alike hh0).2.1 (g := (mkF m 1 #[.val (.ref x)] [.ref x])) rfl (rest := []) rfl (hb hbytes d1)
  have hh2 := q2.trans hh0
  have hx2 := hx.mv X2.warmed.alike hh2
  have c3 : Steps p.tables e below (s₁.setTop (entryFrame m #[.ref x] 1)) (T2.setTop (mkF m 5 #[.val (.ref x)] [.int (Int32.ofNat V.slots.size)])) := (c1.trans (st2 _ (Steps.refl _))).trans (by
    refine X2.alen hexec hx2.2.2.2.1 rfl rfl (hb hbytes d4) ?_
    exact Steps.refl _)
  have hz : V.slots.size = 0 ↔ n = 0 := by
    rcases hx.2.2.2.2.1 with ⟨-, q, -⟩ | ⟨-, q, -⟩ <;> omega
  by_cases h0 : n = 0
  · have c4 : Steps p.tables e below (s₁.setTop (entryFrame m #[.ref x] 1)) (T2.setTop (mkF m 13 #[.val (.ref x)] [.int 1])) := c3.trans (by
      refine XS.ifNo X2.here hexec rfl (hb hbytes d5) rfl (i0_ne_f (by rw [hz.mpr h0]; rfl)) ?_
      refine iconstV X2.here hexec rfl 1 (hb hbytes d8) (by decide) ?_
      refine XS.goto X2.here hexec rfl (pc0 := 9) rfl (hb hbytes d9) (by decide) rfl ?_
      exact Steps.refl _)
    exact ⟨T2, some (.int 1), _, _, _, X2, rfl, rfl, rfl, (fun h => by cases h), ⟨by rw [if_pos h0], hh2⟩, fun fs hl => c4.trans (X2.ireturnOut hexec hret rfl (Or.inr (Or.inl rfl)) (hb hbytes d13) hl)⟩
  · have c4 : Steps p.tables e below (s₁.setTop (entryFrame m #[.ref x] 1)) (T2.setTop (mkF m 13 #[.val (.ref x)] [.int 0])) := c3.trans (by
      refine XS.ifYes X2.here hexec rfl (pc0 := 5) rfl (hb hbytes d5) rfl (i0_ne_t (nz32 v31 (by omega))) (by decide) rfl ?_
      refine iconstV X2.here hexec rfl 0 (hb hbytes d12) (by decide) ?_
      exact Steps.refl _)
    exact ⟨T2, some (.int 0), _, _, _, X2, rfl, rfl, rfl, (fun h => by cases h), ⟨by rw [if_neg h0], hh2⟩, fun fs hl => c4.trans (X2.ireturnOut hexec hret rfl (Or.inr (Or.inl rfl)) (hb hbytes d13) hl)⟩
theorem pays {l : Launch} {R : Room} {p : Program} {e : Env} {below : List Frame} {s : State} {sargs : Array Value} {len W : Nat} (x t : Addr) (V : Cell) (cd : Int32) (n : Nat) (f : Nat → Int32) (htab : tab.before sargs s = true) (hfr : 1 ≤ R.frames) (hlo : W + 12 ≤ R.locals) :
    Back l R p e below s sargs yN len W (fun A₁ a₁ => A₁.cells + 0 ≤ R.cells ∧ A₁.slots + 0 ≤ R.slots ∧ P x t V cd n f a₁ A₁.U) (fun A₁ _ v₁ B₁ => E n v₁ A₁.U B₁.U ∧ B₁.locs = A₁.locs ++ [] ∧ B₁.cells = A₁.cells + 0 ∧ B₁.slots = A₁.slots + 0) :=
  (law l x t V cd n f).pays htab hfr (by omega)
end Emp
end StrChars
namespace StrChars.Road
open Jvm Sem ClassFile Op Lib Jvm.Stand Jvm.Free Jvm.Free.XT
open Jvm.Lib.Cold (StaticIs)
/-- the words of String.isEmpty() -/
abbrev wordsEmp : List Jvm.Cond := [.code Emp.yN Emp.yB 1 (some .boolean), .initialized ST, .fieldLink ST 9 ST "value" "[B"]
theorem tabEmp_of {a : Array Value} {s : State} (h : ∀ w ∈ wordsEmp, w.before a s = true) : Emp.tab.before a s = true := unparts (wk h (.code Emp.yN Emp.yB 1 (some .boolean))) (wks h (.initialized Emp.yN.cls :: Emp.site))
theorem movedEmp {Z s : State} {a0 args : Array Value} (hZ : Z.Warmed39 s.vm) (hw : ∀ d ∈ wordsEmp, d.before a0 Z = true) : ∀ d ∈ wordsEmp, d.before args s = true := fun d hd => by
  have t : ∀ d ∈ wordsEmp, (d.onTables && d.keepsFace) = true := by decide +kernel
  exact RoadKit.mv hZ (hw d hd) (t d hd)
/-- the road's facts of a String, as the laws ask it -/
theorem txt_of {Z U : State} {a0 : Array Value} {kI : Nat} (wi : (Jvm.Cond.instantiable ST kI).before a0 Z = true) (al : Z.vm.Alike U.vm) {x t : Addr} {kb : ClassId} {cs : List Int32} {cd N2 : Int32} {vs : List Value} (E : RoadKit.Exa Z U.heap x ST) (V : RoadKit.Fld Z U.heap x ST "value" "[B" (.ref t)) (C : RoadKit.Fld Z U.heap x ST "coder" "B" (.int cd)) (K : RoadKit.Arv Z U.heap t kb .byte N2 vs (.int 0)) (hc : CodA cs cd N2 vs) (hb : ∀ c ∈ cs, ¬ c < 0 ∧ ¬ (65535 : Int32) < c) (l2 : cs.length ≤ 4000) :
    ∃ A, Txt x t A cd cs.length (fun j => cs.getD j 0) U := by
  obtain ⟨A, K1, K2, K3, K4, K5, K6⟩ := K
  have hcod := hc.cod (by omega) K3 K5
  obtain ⟨D, fV, fC, hB, F1, F2, g1, g2, -, -⟩ := strObj wi al E V C
  exact ⟨A, ⟨_, hB.2.2.1, D, hB.1, rfl, by cases q : D.vm <;> first | rfl | exact absurd q (hB.2.1.2 _)⟩, Has.of hB F1 g1, Has.of hB F2 g2, ⟨K1.1, State.isArrayOf_alike al K1.2.1, K1.2.2, by rcases hcod with ⟨-, q, -⟩ | ⟨-, q, -⟩ <;> omega⟩, hcod, fun j hj => by
    have e : cs.getD j 0 = cs[j] := by simp [List.getD_eq_getElem?_getD, hj]
    show ¬ cs.getD j 0 < 0 ∧ ¬ 65535 < cs.getD j 0
    rw [e]; exact hb _ (List.getElem_mem _)⟩
/-- **isEmpty() OF SUCH A STRING** -/
theorem empW {p : Program} {l : Launch} {e : Env} {R : Room} {s : State} {args : Array Value} {below : List Frame} {len W : Nat} {Z : State} {a0 : Array Value} {h : Heap} (hZ : Z.Warmed39 s.vm) (hw : ∀ d ∈ wordsEmp, d.before a0 Z = true) {kI : Nat} (wi : (Jvm.Cond.instantiable ST kI).before a0 Z = true)
    {x t : Addr} {kb : ClassId} {cs : List Int32} {cd N2 : Int32} {vs : List Value} (E : RoadKit.Exa Z h x ST) (V : RoadKit.Fld Z h x ST "value" "[B" (.ref t)) (C : RoadKit.Fld Z h x ST "coder" "B" (.int cd)) (K : RoadKit.Arv Z h t kb .byte N2 vs (.int 0)) (hc : CodA cs cd N2 vs) (hb : ∀ c ∈ cs, ¬ c < 0 ∧ ¬ (65535 : Int32) < c) (l2 : cs.length ≤ 4000) (hfr : 1 ≤ R.frames) (hlo : W + 12 ≤ R.locals) :
    Back l R p e below s args (⟨"java/lang/String", "isEmpty", "()Z"⟩ : MethodName) len W (fun P a => a = #[.ref x] ∧ P.U.heap = h ∧ P.cells + 0 ≤ R.cells ∧ P.slots + 0 ≤ R.slots)
      (fun P _ v B => ∃ L, (v = some (.int (if cs.length = 0 then 1 else 0)) ∧ L = [] ∧ B.U.heap = h) ∧ B.locs = P.locs ++ L ∧ B.cells = P.cells + 0 ∧ B.slots = P.slots + 0) := by
  intro m meth c P g ig mk a X hg hsize hdg hW hn hp'
  obtain ⟨rfl, rfl, r1, r2⟩ := hp'
  have al : Z.vm.Alike P.U.vm := hZ.alike.trans X.warmed.alike
  obtain ⟨A, hx⟩ := txt_of wi al E V C K hc hb l2
  obtain ⟨v, B, X', ⟨⟨hv, hh⟩, hl, hk, hs⟩, st⟩ := Emp.pays x t A cd cs.length (fun j => cs.getD j 0) (tabEmp_of (movedEmp hZ hw)) hfr hlo m meth c P g ig mk _ X hg hsize hdg hW hn ⟨r1, r2, rfl, hx⟩
  exact ⟨v, B, X', ⟨[], ⟨hv, rfl, hh⟩, hl, hk, hs⟩, st⟩
end StrChars.Road
namespace StrChars
open Jvm Sem ClassFile Op Lib Jvm.Stand Jvm.Free.XT Jvm.Free.ALB Jvm.Free.JM Jvm.Free
open Jvm.Lib.Cold (StaticIs)
namespace ChN
def yN : MethodName := ⟨"java/lang/String", "charAt", "(I)C"⟩
abbrev yB : ByteArray := jdk_42_method_56_code
theorem d0 : decode yB 0 = .ok (.aload_n 0, 1) := by decide +kernel
theorem d1 : decode yB 1 = .ok (.invokevirtual 492, 3) := by decide +kernel
theorem d4 : decode yB 4 = .ok (.ifCond (.eq) 12, 3) := by decide +kernel
theorem d7 : decode yB 7 = .ok (.aload_n 0, 1) := by decide +kernel
theorem d8 : decode yB 8 = .ok (.getfield 9, 3) := by decide +kernel
theorem d11 : decode yB 11 = .ok (.iload_n 1, 1) := by decide +kernel
theorem d12 : decode yB 12 = .ok (.invokestatic 495, 3) := by decide +kernel
theorem d15 : decode yB 15 = .ok (.ireturn, 1) := by decide +kernel
def site : List Cond := [.fieldLink "java/lang/String" 9 "java/lang/String" "value" "[B", IsL.tab, LChA.tab] ++ virtW "java/lang/String" 492 "java/lang/String" IsL.yN IsL.yN ++ staticW "java/lang/String" 495 LChA.yN
def tab : Cond := tabOf yN yB 2 (some .char) site
def P (x t : Addr) (V : Cell) (n : Nat) (f : Nat → Int32) (z : Int32) (fm : Value) (i : Nat) (args : Array Value) (s : State) : Prop := args = #[.ref x, .int (Int32.ofNat i)] ∧ Txt x t V 0 n f s ∧ i < n ∧ StaticIs s "java/lang/String" "COMPACT_STRINGS" "Z" (.int z) ∧ ¬ z = 0 ∧ StaticIs s "jdk/internal/util/Preconditions" "SIOOBE_FORMATTER" "Ljava/util/function/BiFunction;" fm ∧ fm.isRef = true
def E (f : Nat → Int32) (i : Nat) (r : Option Value) (s u : State) : Prop := XT.PureE (some (.int (f i))) r s u
/-- charAt(i) of a Latin-1 String of n chars, i < n: f i -/
theorem law (l : Launch) (x t : Addr) (V : Cell) (n : Nat) (f : Nat → Int32) (z : Int32) (fm : Value) (i : Nat) : Law l yN 2 1 3 40 yB 2 (some .char) site (P x t V n f z fm i) (E f i) [] 0 0 := by
  refine Law.of_walk (plainFor_of_name (by decide +kernel)) (by decide +kernel) (by decide +kernel) (by decide) (fun _ _ h => by rw [h.1]; rfl) (fun _ U U' hal hh h => ⟨h.1, h.2.1.mv hal hh, h.2.2.1, h.2.2.2.1.there hal hh, h.2.2.2.2.1, h.2.2.2.2.2.1.there hal hh, h.2.2.2.2.2.2⟩) (fun r U U' V V' h1 hal h2 h => XT.PureE.mv r U U' V V' h1 hal h2 h) ?_
  intro p e s m args below meth c s₁ X0 hexec hbytes hml hret hlk hnm hown hh0 W hP
  obtain ⟨rfl, hx, hi, s1, hz, s3, rf⟩ := hP
  have v31 := hx.2.2.2.1.2.2.2
  have hr := hx.2.2.2.2.2 i hi
  have hx0 := hx.mv X0.warmed.alike hh0
  have c1 : Steps p.tables e below (s₁.setTop (entryFrame m #[.ref x, .int (Int32.ofNat i)] 2)) (s₁.setTop (mkF m 1 #[.val (.ref x), .val (.int (Int32.ofNat i))] [.ref x])) := Steps.trans (entry rfl) (by
    show Steps p.tables e below (s₁.setTop (mkF m 0 #[.val (.ref x), .val (.int (Int32.ofNat i))] [])) _
    refine XS.aloadN X0.here hexec rfl (hb hbytes d0) rfl rfl ?_
    exact Steps.refl _)
  obtain ⟨v2, T2, X2, E2, g2⟩ := X0.callV hexec (IsL.law l x 0 z) hown (wks W (virtW "java/lang/String" 492 "java/lang/String" IsL.yN IsL.yN)) rfl (by decide) (wk W IsL.tab) (W := 0) (Nat.le_of_ble_eq_true rfl) (Nat.le_of_ble_eq_true rfl) (Nat.le_refl _) (Nat.le_refl _) (hx0.1.fc X0.warmed.alike) hx0.1.is (g := (mkF m 1 #[.val (.ref x), .val (.int (Int32.ofNat i))] [.ref x])) rfl (by rw [hml]; rfl) c1 (argsL := []) (rest := []) rfl rfl (by show 2 * 0 + 0 ≤ _; decide) (hb hbytes d1) (⟨rfl, hx0.2.2.1, hx.2.2.2.2.1.cd, s1.there X0.warmed.alike hh0, hz⟩)
  obtain ⟨rfl, q2⟩ := E2
  have hh2 := q2.trans hh0
  have hx2 := hx.mv X2.warmed.alike hh2
  obtain ⟨-, k1, k2⟩ | ⟨k0, -⟩ := hx.2.2.2.2.1
  · have c3 : Steps p.tables e below (s₁.setTop (entryFrame m #[.ref x, .int (Int32.ofNat i)] 2)) (T2.setTop (mkF m 8 #[.val (.ref x), .val (.int (Int32.ofNat i))] [.ref x])) := Steps.trans g2 (by
      refine XS.ifNo X2.here hexec rfl (hb hbytes d4) rfl (i0_eq_f (by decide)) ?_
      refine XS.aloadN X2.here hexec rfl (hb hbytes d7) rfl rfl ?_
      exact Steps.refl _)
    obtain ⟨T4, X4, q4, st4⟩ := X2.hget hexec hown (wk W (.fieldLink "java/lang/String" 9 "java/lang/String" "value" "[B")) hx2.2.1 (g := (mkF m 8 #[.val (.ref x), .val (.int (Int32.ofNat i))] [.ref x])) rfl (rest := []) rfl (hb hbytes d8)
    have hh4 := q4.trans hh2
    have c5 : Steps p.tables e below (s₁.setTop (entryFrame m #[.ref x, .int (Int32.ofNat i)] 2)) (T4.setTop (mkF m 12 #[.val (.ref x), .val (.int (Int32.ofNat i))] [.int (Int32.ofNat i), .ref t])) := (c3.trans (st4 _ (Steps.refl _))).trans (by
      refine XS.iloadN X4.here hexec rfl (hb hbytes d11) rfl ?_
      exact Steps.refl _)
    obtain ⟨v6, T6, X6, E6, g6⟩ := X4.callS hexec (LChA.law l t V i (lo8 (f i)) fm) hown (wks W (staticW "java/lang/String" 495 LChA.yN)) (wk W LChA.tab) (W := 0) (Nat.le_of_ble_eq_true rfl) (Nat.le_of_ble_eq_true rfl) (Nat.le_refl _) (Nat.le_refl _) (g := (mkF m 12 #[.val (.ref x), .val (.int (Int32.ofNat i))] [.int (Int32.ofNat i), .ref t])) rfl (by rw [hml]; rfl) c5 (argsL := [.ref t, .int (Int32.ofNat i)]) (rest := []) rfl rfl (by show 2 * 0 + 0 ≤ _; decide) (hb hbytes d12) (⟨rfl, hx.2.2.2.1.mv X4.warmed.alike hh4, (k2 i hi).1, s3.there X4.warmed.alike hh4, rf⟩)
    obtain ⟨rfl, q6⟩ := E6
    rw [chr8_lo8 hr.1 (k2 i hi).2] at g6
    exact ⟨T6, some (.int (f i)), _, _, _, X6, rfl, rfl, rfl, (fun h => by cases h), ⟨rfl, q6.trans hh4⟩, fun fs hl => Steps.trans g6 (X6.ireturnOut hexec hret (narrow_ch hr.1 hr.2) (Or.inr (Or.inr (Or.inr (Or.inl rfl)))) (hb hbytes d15) hl)⟩
  · exact absurd k0 (by decide)
theorem pays {l : Launch} {R : Room} {p : Program} {e : Env} {below : List Frame} {s : State} {sargs : Array Value} {len W : Nat} (x t : Addr) (V : Cell) (n : Nat) (f : Nat → Int32) (z : Int32) (fm : Value) (i : Nat) (htab : tab.before sargs s = true) (hfr : 4 ≤ R.frames) (hlo : W + 53 ≤ R.locals) :
    Back l R p e below s sargs yN len W (fun A₁ a₁ => A₁.cells + 0 ≤ R.cells ∧ A₁.slots + 0 ≤ R.slots ∧ P x t V n f z fm i a₁ A₁.U) (fun A₁ _ v₁ B₁ => E f i v₁ A₁.U B₁.U ∧ B₁.locs = A₁.locs ++ [] ∧ B₁.cells = A₁.cells + 0 ∧ B₁.slots = A₁.slots + 0) :=
  (law l x t V n f z fm i).pays htab hfr (by omega)
end ChN
end StrChars
namespace StrChars.Road
open Jvm Sem ClassFile Op Lib Jvm.Stand Jvm.Free Jvm.Free.XT
open Jvm.Lib.Cold (StaticIs)
/-- the words of String.charAt(int), the Latin-1 road alone -/
abbrev wordsChN : List Jvm.Cond := [.code ChN.yN ChN.yB 2 (some .char), .initialized ST, .fieldLink ST 9 ST "value" "[B", .fieldLink ST 38 ST "COMPACT_STRINGS" "Z", .fieldLink ST 15 ST "coder" "B", .code IsL.yN IsL.yB 1 (some .boolean), .methodLink ST 492 IsL.yN, .declares IsL.yN, .selects ST IsL.yN IsL.yN, .instanceMethod IsL.yN,
  .methodLink ST 495 LChA.yN, .static LChA.yN, .code LChA.yN LChA.yB 2 (some .char), .initialized "java/lang/StringLatin1", .methodLink "java/lang/StringLatin1" 9 JO.Str_checkIndex.yN, .static JO.Str_checkIndex.yN, .code JO.Str_checkIndex.yN JO.Str_checkIndex.yB 2 none,
  .fieldLink ST 1053 "jdk/internal/util/Preconditions" "SIOOBE_FORMATTER" "Ljava/util/function/BiFunction;", .methodLink ST 1059 JC.PreCheck.yN, .static JC.PreCheck.yN, .code JC.PreCheck.yN JC.PreCheck.yB 3 (some .int), .initialized "jdk/internal/util/Preconditions"]
theorem tabChN_of {a : Array Value} {s : State} (h : ∀ w ∈ wordsChN, w.before a s = true) : ChN.tab.before a s = true := by
  have hp : JC.PreCheck.tab.before a s = true := unparts (wk h (.code JC.PreCheck.yN JC.PreCheck.yB 3 (some .int))) (wks h (.initialized JC.PreCheck.yN.cls :: JC.PreCheck.site))
  have qk := consq hp h
  have hk : JO.Str_checkIndex.tab.before a s = true := unparts (wk qk (.code JO.Str_checkIndex.yN JO.Str_checkIndex.yB 2 none)) (wks qk (.initialized JO.Str_checkIndex.yN.cls :: JO.Str_checkIndex.site))
  have ql := consq hk h
  have hl : LChA.tab.before a s = true := unparts (wk ql (.code LChA.yN LChA.yB 2 (some .char))) (wks ql (.initialized LChA.yN.cls :: LChA.site))
  have hi : IsL.tab.before a s = true := unparts (wk h (.code IsL.yN IsL.yB 1 (some .boolean))) (wks h (.initialized IsL.yN.cls :: IsL.site))
  have q := consq hi (consq hl h)
  exact unparts (wk q (.code ChN.yN ChN.yB 2 (some .char))) (wks q (.initialized ChN.yN.cls :: ChN.site))
theorem movedChN {Z s : State} {a0 args : Array Value} (hZ : Z.Warmed39 s.vm) (hw : ∀ d ∈ wordsChN, d.before a0 Z = true) : ∀ d ∈ wordsChN, d.before args s = true := fun d hd => by
  have t : ∀ d ∈ wordsChN, (d.onTables && d.keepsFace) = true := by decide +kernel
  exact RoadKit.mv hZ (hw d hd) (t d hd)
/-- **charAt(i) OF A LATIN-1 STRING**, i < n: the char -/
theorem chN {p : Program} {l : Launch} {e : Env} {R : Room} {s : State} {args : Array Value} {below : List Frame} {len W : Nat} {Z : State} {a0 : Array Value} {h : Heap} (hZ : Z.Warmed39 s.vm) (hw : ∀ d ∈ wordsChN, d.before a0 Z = true) {kI : Nat} (wi : (Jvm.Cond.instantiable ST kI).before a0 Z = true)
    {x t : Addr} {kb : ClassId} {cs : List Int32} {N2 z : Int32} {vs : List Value} {fm : Value} {i : Nat} {j : Int32} (E : RoadKit.Exa Z h x ST) (V : RoadKit.Fld Z h x ST "value" "[B" (.ref t)) (C : RoadKit.Fld Z h x ST "coder" "B" (.int 0)) (K : RoadKit.Arv Z h t kb .byte N2 vs (.int 0)) (hc : CodA cs 0 N2 vs) (hb : ∀ c ∈ cs, ¬ c < 0 ∧ ¬ (65535 : Int32) < c)
    (S : RoadKit.Sta Z h ST "COMPACT_STRINGS" "Z" (.int z)) (hz : ¬ z = 0) (F : RoadKit.Sta Z h "jdk/internal/util/Preconditions" "SIOOBE_FORMATTER" "Ljava/util/function/BiFunction;" fm) (rf : fm.isRef = true) (l2 : cs.length ≤ 4000) (hi : i < cs.length) (hj : j = Int32.ofNat i) (hfr : 4 ≤ R.frames) (hlo : W + 53 ≤ R.locals) :
    Back l R p e below s args (⟨"java/lang/String", "charAt", "(I)C"⟩ : MethodName) len W (fun P a => a = #[.ref x, .int j] ∧ P.U.heap = h ∧ P.cells + 0 ≤ R.cells ∧ P.slots + 0 ≤ R.slots)
      (fun P _ v B => ∃ L, (v = some (.int (cs.getD i 0)) ∧ L = [] ∧ B.U.heap = h) ∧ B.locs = P.locs ++ L ∧ B.cells = P.cells + 0 ∧ B.slots = P.slots + 0) := by
  subst hj
  intro m meth c P g ig mk a X hg hsize hdg hW hn hp'
  obtain ⟨rfl, rfl, r1, r2⟩ := hp'
  have al : Z.vm.Alike P.U.vm := hZ.alike.trans X.warmed.alike
  obtain ⟨A, hx⟩ := txt_of wi al E V C K hc hb l2
  obtain ⟨v, B, X', ⟨⟨hv, hh⟩, hl, hk, hs⟩, st⟩ := ChN.pays x t A cs.length (fun j => cs.getD j 0) z fm i (tabChN_of (movedChN hZ hw)) hfr hlo m meth c P g ig mk _ X hg hsize hdg hW hn ⟨r1, r2, rfl, hx, hi, sta_is al S, hz, sta_is al F, rf⟩
  exact ⟨v, B, X', ⟨[], ⟨hv, rfl, hh⟩, hl, hk, hs⟩, st⟩
end StrChars.Road
end Jvm.Pilot.@@N@@
namespace Jvm.Pilot.@@N@@
open Jvm Jvm.ClassFile Sem Op Lib Jvm.Free Jvm.Stand Jvm.LawKit Jvm.RoadKit Bundle Jvm.Own Jvm.Pilot.@@N@@.Jvm.D
theorem owS {a0 : Array Value} {Z : State} (hw : ∀ d ∈ tables_1, d.before a0 Z = true) : ∀ a ∈ Bundle.stringAtoms, a.before a0 Z = true := fun d hd => hw d ((by decide +kernel : ∀ d ∈ Bundle.stringAtoms, d ∈ tables_1) d hd)
theorem hws' {a0 : Array Value} {Z : State} (hw : ∀ d ∈ tables_1, d.before a0 Z = true) : (Jvm.Cond.instantiable "java/lang/String" 4).before a0 Z = true := owS hw _ (by simp [Bundle.stringAtoms, Bundle.sN])
theorem strPay {l : Launch} {Z : State} {a0 : Array Value} {EL : List (String × Nat)} {R : Room} {K : Cx} {h : Heap} (hw : ∀ d ∈ tables_1, d.before a0 Z = true) (hE : EW Z a0 EL) (x b : Addr) {kC : ClassId} (N : Int32) (cs : List Int32) {d v0 c0 : Value} {z : Int32} (n Wd : Nat) (E : Exa Z h x "java/lang/String") (V : Fld Z h x "java/lang/String" "value" "[B" v0) (C : Fld Z h x "java/lang/String" "coder" "B" c0) (A : Arv Z h b kC .char N (cs.map Value.int) d) (S : Sta Z h "java/lang/String" "COMPACT_STRINGS" "Z" (.int z)) (hz : ¬ z = 0) (hn : cs.length = n) (hN : N.toNatClampNeg = cs.length) (l0 : 0 < cs.length) (l2 : cs.length ≤ 536870912) (hall : ∀ c ∈ cs, ¬ 255 < c) (hfr : 4 ≤ R.frames) (hlo : Wd + 65 ≤ R.locals) :
    Cb l Z EL R K (⟨"java/lang/String", "<init>", "([C)V"⟩ : MethodName) 3 Wd 1 n #[.ref x, .ref b] h [x] (fun v h' so => ∃ t : Addr, ∃ kb : ClassId, v = none ∧ so = [] ∧ h.size ≤ t ∧ Exa Z h' x "java/lang/String" ∧ Fld Z h' x "java/lang/String" "coder" "B" (.int (0 : Int32)) ∧ Fld Z h' x "java/lang/String" "value" "[B" (.ref t) ∧ Arv Z h' t kb .byte N (cs.map fun c => Value.int (StrChars.lo8 c)) (.int 0)) := by
  subst hn
  have hws : ∀ d ∈ StrChars.Road.words, d.before a0 Z = true := fun d hd => hw d ((by decide +kernel : ∀ d ∈ StrChars.Road.words, d ∈ tables_1) d hd)
  refine Cb.bk (a0 := a0) (fun vm0 hZ => StrChars.Road.backArv (s := K.2.2.1.setVm vm0) hZ hws (kI := 4) (hws' hw) E V C A S hz hN l0 l2 hall hfr hlo) hE ?_
  intro v h' L q
  obtain ⟨q1, q2, q3, q4, q5, q6, q7, ⟨kb, -, q8⟩, -⟩ := q
  exact ⟨⟨h.size, kb, q1, rfl, Nat.le_refl _, q5, q7, q6, q8⟩, q3, fun y hy => Or.inl (by rw [q2 y hy]; simp)⟩
/-- a String that spells cs -/
def Str (Z : State) (h : Heap) (a : Addr) (cs : List Int32) : Prop := ∃ (t : Addr) (kb : ClassId) (cd N : Int32) (vs : List Value), Exa Z h a "java/lang/String" ∧ Fld Z h a "java/lang/String" "value" "[B" (.ref t) ∧ Fld Z h a "java/lang/String" "coder" "B" (.int cd) ∧ Arv Z h t kb .byte N vs (.int 0) ∧ StrChars.Road.CodA cs cd N vs ∧ (∀ c ∈ cs, ¬ c < 0 ∧ ¬ (65535 : Int32) < c) ∧ cs.length ≤ 4000
section StrFacts
variable {Z : State} {a0 : Array Value} {h h' : Heap} {a x : Addr} {cs ds : List Int32} {ws : List Addr}
theorem Str.exa (F : Str Z h a cs) : Exa Z h a "java/lang/String" := by obtain ⟨_, _, _, _, _, A, _⟩ := F; exact A
theorem Str.lt (F : Str Z h a cs) : a < h.size := F.exa.lt
theorem Str.ext (F : Str Z h a cs) (E : Ext h h') : Str Z h' a cs := by
  obtain ⟨t, kb, cd, N, vs, A, V, C, K, r⟩ := F
  exact ⟨t, kb, cd, N, vs, A.ext E, V.ext E, C.ext E, K.ext E, r⟩
theorem Str.keep (F : Str Z h a cs) (K : Keep h h' ws) (hn : a ∉ ws) (hb : ∀ x ∈ ws, ∃ C n, Exa Z h x C ∧ (Cond.instantiable C n).before a0 Z = true) : Str Z h' a cs := by
  obtain ⟨t, kb, cd, N, vs, A, V, C, B, r⟩ := F
  have ht : t ∉ ws := fun q => by obtain ⟨D, n, E, wi⟩ := hb t q; exact (E.neArv B wi) rfl
  exact ⟨t, kb, cd, N, vs, A.keep K, V.keep K hn, C.keep K hn, B.keep K ht, r⟩
theorem Str.wrO {sl : Nat} {v : Value} {D : String} {n : Nat} (F : Str Z h a cs) (W : Wr h h' x sl v) (hn : a ≠ x) (E : Exa Z h x D) (wi : (Cond.instantiable D n).before a0 Z = true) : Str Z h' a cs := by
  obtain ⟨t, kb, cd, N, vs, A, V, C, B, r⟩ := F
  exact ⟨t, kb, cd, N, vs, A.wr W, V.other W (Or.inl hn), C.other W (Or.inl hn), B.other W (Ne.symm (E.neArv B wi)), r⟩
theorem ty_ne {ty ty' : FieldType} {k k' : ClassId} {z z' : Int32} {vs vs' : List Value} {d d' : Value} {b : Addr} (A : Arv Z h x k ty z vs d) (B : Arv Z h b k' ty' z' vs' d') (ht : ty ≠ ty') : x ≠ b := fun e => by
  subst e
  obtain ⟨c1, ⟨p1, ⟨-, k1, q1, cm1, r1⟩, -⟩, -⟩ := A
  obtain ⟨c2, ⟨p2, ⟨-, k2, q2, cm2, r2⟩, -⟩, -⟩ := B
  cases p1.symm.trans p2
  cases q1.symm.trans q2
  have := r1.symm.trans r2
  injection this with _ e
  exact ht e
theorem Str.wrA {sl : Nat} {v : Value} {ty : FieldType} {k : ClassId} {z : Int32} {vs : List Value} {d : Value} (F : Str Z h a cs) (W : Wr h h' x sl v) (hn : a ≠ x) (B : Arv Z h x k ty z vs d) (ht : ty ≠ .byte) : Str Z h' a cs := by
  obtain ⟨t, kb, cd, N, vs, A, V, C, T, r⟩ := F
  exact ⟨t, kb, cd, N, vs, A.wr W, V.other W (Or.inl hn), C.other W (Or.inl hn), T.other W (Ne.symm (ty_ne B T ht)), r⟩
theorem Str.mk {t : Addr} {kb : ClassId} {N : Int32} (A : Exa Z h a "java/lang/String") (C : Fld Z h a "java/lang/String" "coder" "B" (.int (0 : Int32))) (V : Fld Z h a "java/lang/String" "value" "[B" (.ref t)) (K : Arv Z h t kb .byte N (cs.map fun c => Value.int (StrChars.lo8 c)) (.int 0)) (hN : N = Int32.ofNat cs.length) (hb : ∀ c ∈ cs, ¬ c < 0 ∧ ¬ (255 : Int32) < c) (hl : cs.length ≤ 4000) : Str Z h a cs :=
  ⟨t, kb, 0, N, _, A, V, C, K, Or.inl ⟨rfl, hN, rfl, fun c q => (hb c q).2⟩, fun c q => ⟨(hb c q).1, fun z => (hb c q).2 (Int32.lt_trans (by decide) z)⟩, hl⟩
end StrFacts
theorem lenPay {l : Launch} {Z : State} {a0 : Array Value} {EL : List (String × Nat)} {R : Room} {K : Cx} {ln : Nat} {h : Heap} (hw : ∀ d ∈ tables_1, d.before a0 Z = true) (hE : EW Z a0 EL) (x : Addr) (cs : List Int32) {z : Int32} (Wd : Nat) (F : Str Z h x cs) (S : Sta Z h "java/lang/String" "COMPACT_STRINGS" "Z" (.int z)) (hz : ¬ z = 0) (hfr : 2 ≤ R.frames) (hlo : Wd + 25 ≤ R.locals) :
    Cb l Z EL R K (⟨"java/lang/String", "length", "()I"⟩ : MethodName) ln Wd 0 0 #[.ref x] h [] (fun v h' so => v = some (.int (Int32.ofNat cs.length)) ∧ so = []) := by
  have hws : ∀ d ∈ StrChars.Road.wordsLen, d.before a0 Z = true := fun d hd => hw d ((by decide +kernel : ∀ d ∈ StrChars.Road.wordsLen, d ∈ tables_1) d hd)
  obtain ⟨t, kb, cd, N, vs, A, V, C, B, q1, q2, q3⟩ := F
  refine Cb.bk (a0 := a0) (Qb := fun v h' L => v = some (.int (Int32.ofNat cs.length)) ∧ L = [] ∧ h' = h) (fun vm0 hZ => StrChars.Road.lenW (s := K.2.2.1.setVm vm0) hZ hws (kI := 4) (hws' hw) A V C B q1 q2 S hz q3 hfr hlo) hE ?_
  rintro v h' L ⟨rfl, rfl, rfl⟩
  exact ⟨⟨rfl, rfl⟩, Keep.refl _ _, fun _ q => nomatch q⟩
theorem chPay {l : Launch} {Z : State} {a0 : Array Value} {EL : List (String × Nat)} {R : Room} {K : Cx} {ln : Nat} {h : Heap} (hw : ∀ d ∈ tables_1, d.before a0 Z = true) (hE : EW Z a0 EL) (x : Addr) (cs : List Int32) {z : Int32} {fm : Value} (i : Nat) (j : Int32) (Wd : Nat) (F : Str Z h x cs) (h255 : ∀ c ∈ cs, ¬ (255 : Int32) < c) (S : Sta Z h "java/lang/String" "COMPACT_STRINGS" "Z" (.int z)) (hz : ¬ z = 0) (SF : Sta Z h "jdk/internal/util/Preconditions" "SIOOBE_FORMATTER" "Ljava/util/function/BiFunction;" fm) (rf : fm.isRef = true) (hi : i < cs.length) (hj : j = Int32.ofNat i) (hfr : 4 ≤ R.frames) (hlo : Wd + 53 ≤ R.locals) :
    Cb l Z EL R K (⟨"java/lang/String", "charAt", "(I)C"⟩ : MethodName) ln Wd 0 0 #[.ref x, .int j] h [] (fun v h' so => v = some (.int (cs.getD i 0)) ∧ so = []) := by
  have hws : ∀ d ∈ StrChars.Road.wordsChN, d.before a0 Z = true := fun d hd => hw d ((by decide +kernel : ∀ d ∈ StrChars.Road.wordsChN, d ∈ tables_1) d hd)
  obtain ⟨t, kb, cd, N, vs, A, V, C, B, q1, q2, q3⟩ := F
  rcases q1 with q1 | ⟨-, -, -, c, hc, hb⟩
  · obtain ⟨rfl, r⟩ := q1
    refine Cb.bk (a0 := a0) (Qb := fun v h' L => v = some (.int (cs.getD i 0)) ∧ L = [] ∧ h' = h) (fun vm0 hZ => StrChars.Road.chN (s := K.2.2.1.setVm vm0) hZ hws (kI := 4) (hws' hw) A V C B (Or.inl ⟨rfl, r⟩) q2 S hz SF rf q3 hi hj hfr hlo) hE ?_
    rintro v h' L ⟨rfl, rfl, rfl⟩
    exact ⟨⟨rfl, rfl⟩, Keep.refl _ _, fun _ q => nomatch q⟩
  · exact absurd hb (h255 c hc)
theorem empPay {l : Launch} {Z : State} {a0 : Array Value} {EL : List (String × Nat)} {R : Room} {K : Cx} {ln : Nat} {h : Heap} (hw : ∀ d ∈ tables_1, d.before a0 Z = true) (hE : EW Z a0 EL) (x : Addr) (cs : List Int32) (Wd : Nat) (F : Str Z h x cs) (hfr : 1 ≤ R.frames) (hlo : Wd + 12 ≤ R.locals) :
    Cb l Z EL R K (⟨"java/lang/String", "isEmpty", "()Z"⟩ : MethodName) ln Wd 0 0 #[.ref x] h [] (fun v h' so => v = some (.int (if cs.length = 0 then 1 else 0)) ∧ so = []) := by
  have hws : ∀ d ∈ StrChars.Road.wordsEmp, d.before a0 Z = true := fun d hd => hw d ((by decide +kernel : ∀ d ∈ StrChars.Road.wordsEmp, d ∈ tables_1) d hd)
  obtain ⟨t, kb, cd, N, vs, A, V, C, B, q1, q2, q3⟩ := F
  refine Cb.bk (a0 := a0) (Qb := fun v h' L => v = some (.int (if cs.length = 0 then 1 else 0)) ∧ L = [] ∧ h' = h) (fun vm0 hZ => StrChars.Road.empW (s := K.2.2.1.setVm vm0) hZ hws (kI := 4) (hws' hw) A V C B q1 q2 q3 hfr hlo) hE ?_
  rintro v h' L ⟨rfl, rfl, rfl⟩
  exact ⟨⟨rfl, rfl⟩, Keep.refl _ _, fun _ q => nomatch q⟩

def Tok (c : Int32) : Prop := (¬ c < 97 ∧ ¬ 122 < c) ∨ (¬ c < 65 ∧ ¬ 90 < c) ∨ c = 45 ∨ c = 95
theorem tok_k {p v k : Int32} (e1 : p &&& 2147483647 = v) (e2 : v % 54 = k) : 0 ≤ k.toInt ∧ k.toInt < 54 := rem_lt (and31 e1) e2 (by decide) (by decide)
theorem add_c {a k w : Int32} {n : Int} (ha : a.toInt = n) (e : a + k = w) (h0 : 0 ≤ n + k.toInt) (h1 : n + k.toInt ≤ 255) : w.toInt = n + k.toInt := by
  subst e
  have q := c_iadd a k
  have r1 := rng32 (a + k)
  omega
theorem sub_c {a k w : Int32} {n : Int} (ha : a.toInt = n) (e : k - a = w) (h0 : -1000 ≤ k.toInt - n) (h1 : k.toInt - n ≤ 1000) : w.toInt = k.toInt - n := by
  subst e
  have q := c_isub k a
  have r1 := rng32 (k - a)
  omega
theorem tokA {p v k w u : Int32} (e1 : p &&& 2147483647 = v) (e2 : v % 54 = k) (hk : k < 26) (e3 : (97 : Int32) + k = w) (e4 : w.toUInt32.toUInt16.toUInt32.toInt32 = u) : B8 u ∧ Tok u := by
  have b := tok_k e1 e2
  rw [lt_i] at hk
  have c26 : (26 : Int32).toInt = 26 := by decide
  have hw := add_c (n := 97) (by decide) e3 (by omega) (by omega)
  have h8 : B8 w := B8.of (by omega)
  obtain rfl := h8.i2c e4
  refine ⟨h8, Or.inl ⟨?_, ?_⟩⟩
  · rw [lt_i]; have : (97 : Int32).toInt = 97 := by decide
    omega
  · rw [lt_i]; have : (122 : Int32).toInt = 122 := by decide
    omega
theorem tokB {p v k j w u : Int32} (e1 : p &&& 2147483647 = v) (e2 : v % 54 = k) (hk0 : ¬ k < 26) (hk : k < 52) (e3 : k - (26 : Int32) = j) (e3' : (65 : Int32) + j = w) (e4 : w.toUInt32.toUInt16.toUInt32.toInt32 = u) : B8 u ∧ Tok u := by
  have b := tok_k e1 e2
  rw [lt_i] at hk hk0
  have c26 : (26 : Int32).toInt = 26 := by decide
  have c52 : (52 : Int32).toInt = 52 := by decide
  have hj := sub_c (n := 26) (by decide) e3 (by omega) (by omega)
  have hw := add_c (n := 65) (by decide) e3' (by omega) (by omega)
  have h8 : B8 w := B8.of (by omega)
  obtain rfl := h8.i2c e4
  refine ⟨h8, Or.inr (Or.inl ⟨?_, ?_⟩)⟩
  · rw [lt_i]; have : (65 : Int32).toInt = 65 := by decide
    omega
  · rw [lt_i]; have : (90 : Int32).toInt = 90 := by decide
    omega
theorem len3 {p v r : Int32} (e1 : p &&& 2147483647 = v) (e2 : v % 3 = r) : r = 0 ∨ r = 1 ∨ r = 2 := by
  have b := rem_lt (d := 3) (and31 e1) e2 (by decide) (by decide)
  have : r.toInt = 0 ∨ r.toInt = 1 ∨ r.toInt = 2 := by omega
  rcases this with h | h | h
  · exact Or.inl (i32_of 0 (by decide) h)
  · exact Or.inr (Or.inl (i32_of 1 (by decide) h))
  · exact Or.inr (Or.inr (i32_of 2 (by decide) h))
theorem opn0 : plainName "java/lang/String" = true := by first | (simp [plainName, overriddenIn]; done) | decide +kernel
theorem d22_0 : decode jdk_42_method_66_code 0 = .ok (.aload_n 0, 1) := by decide +kernel
theorem d22_1 : decode jdk_42_method_66_code 1 = .ok (.aload_n 1, 1) := by decide +kernel
theorem d22_2 : decode jdk_42_method_66_code 2 = .ok (.if_acmp .ne 5, 3) := by decide +kernel
theorem d22_5 : decode jdk_42_method_66_code 5 = .ok (.iconst 1, 1) := by decide +kernel
theorem d22_6 : decode jdk_42_method_66_code 6 = .ok (.ireturn, 1) := by decide +kernel
theorem oef_orm_eqSame (m : MethodId) (a : Addr)  : (entryFrame m #[(.ref a), (.ref a)] 3).locals = #[.val (.ref a), .val (.ref a), .unset] := by first | (simp [entryFrame, argsToLocals, Value.category]; done) | rfl
set_option maxRecDepth 65536 in
set_option maxHeartbeats 40000000 in
theorem orm_eqSame (l : Launch) (Z : State) (a0 : Array Value) (hw : ∀ d ∈ tables_1, d.before a0 Z = true) (hE : EW Z a0 ([] : List (String × Nat))) (a : Addr) (h : Heap) (hO : Old Z Z.heap.size h)   :
    Ct l Z ([] : List (String × Nat)) (⟨"java/lang/String", "equals", "(Ljava/lang/Object;)Z"⟩ : MethodName) jdk_42_method_66_code 3 (Option.some Jvm.ClassFile.FieldType.boolean) ⟨0, 0, 0, 0⟩ #[(.ref a), (.ref a)] h [] (fun rv' hp' so' => rv' = some (.int (1 : Int32)) ∧ so' = []) := by
  refine Ct.mk "java/lang/String" "equals" rfl rfl (a0 := a0) (plainFor_of_name opn0) hO hE (fun x q => nomatch q) ?_
  intro K T W
  rw [oef_orm_eqSame]
  refine gAloadN W d22_0 rfl rfl rfl ?_
  refine gAloadN W d22_1 rfl rfl rfl ?_
  refine gAcmp (pc' := 5) (same := true) W d22_2 rfl rfl (decide_eq_true rfl) (by decide) rfl ?_
  refine gIconst (z := (1 : Int32)) W d22_5 rfl rfl ?_
  exact wRetI (so := []) (t := .boolean) W d22_6 (by simp) rfl (by decide) (by decide) (fun _ q => nomatch q) ⟨rfl, rfl⟩
theorem opn1 : plainName "com/example/lawful_crawler/lawfulcrawler/robots/ProductTokenOfPinLaw" = true := by first | (simp [plainName, overriddenIn]; done) | decide +kernel
theorem d1_0 : decode method_3_code 0 = .ok (.iload_n 0, 1) := by decide +kernel
theorem d1_1 : decode method_3_code 1 = .ok (.ldc 7, 2) := by decide +kernel
theorem ow0 {a0 : Array Value} {Z : State} (hw : ∀ d ∈ tables_1, d.before a0 Z = true) : (Jvm.Cond.constant "com/example/lawful_crawler/lawfulcrawler/robots/ProductTokenOfPinLaw" (7 : Nat) (2147483647 : Int32)).before a0 Z = true := hw _ (List.mem_of_getElem? (i := 0) rfl)
theorem d1_3 : decode method_3_code 3 = .ok (.iand, 1) := by decide +kernel
theorem d1_4 : decode method_3_code 4 = .ok (.bipush 54, 2) := by decide +kernel
theorem d1_6 : decode method_3_code 6 = .ok (.irem, 1) := by decide +kernel
theorem d1_7 : decode method_3_code 7 = .ok (.istore_n 1, 1) := by decide +kernel
theorem d1_8 : decode method_3_code 8 = .ok (.iload_n 1, 1) := by decide +kernel
theorem d1_9 : decode method_3_code 9 = .ok (.bipush 26, 2) := by decide +kernel
theorem d1_11 : decode method_3_code 11 = .ok (.if_icmp .ge 9, 3) := by decide +kernel
theorem d1_14 : decode method_3_code 14 = .ok (.bipush 97, 2) := by decide +kernel
theorem d1_16 : decode method_3_code 16 = .ok (.iload_n 1, 1) := by decide +kernel
theorem d1_17 : decode method_3_code 17 = .ok (.iadd, 1) := by decide +kernel
theorem d1_18 : decode method_3_code 18 = .ok (.i2c, 1) := by decide +kernel
theorem d1_19 : decode method_3_code 19 = .ok (.ireturn, 1) := by decide +kernel
theorem d1_20 : decode method_3_code 20 = .ok (.iload_n 1, 1) := by decide +kernel
theorem d1_21 : decode method_3_code 21 = .ok (.bipush 52, 2) := by decide +kernel
theorem d1_23 : decode method_3_code 23 = .ok (.if_icmp .ge 12, 3) := by decide +kernel
theorem d1_26 : decode method_3_code 26 = .ok (.bipush 65, 2) := by decide +kernel
theorem d1_28 : decode method_3_code 28 = .ok (.iload_n 1, 1) := by decide +kernel
theorem d1_29 : decode method_3_code 29 = .ok (.bipush 26, 2) := by decide +kernel
theorem d1_31 : decode method_3_code 31 = .ok (.isub, 1) := by decide +kernel
theorem d1_32 : decode method_3_code 32 = .ok (.iadd, 1) := by decide +kernel
theorem d1_33 : decode method_3_code 33 = .ok (.i2c, 1) := by decide +kernel
theorem d1_34 : decode method_3_code 34 = .ok (.ireturn, 1) := by decide +kernel
theorem d1_35 : decode method_3_code 35 = .ok (.iload_n 1, 1) := by decide +kernel
theorem d1_36 : decode method_3_code 36 = .ok (.bipush 52, 2) := by decide +kernel
theorem d1_38 : decode method_3_code 38 = .ok (.if_icmp .ne 6, 3) := by decide +kernel
theorem d1_41 : decode method_3_code 41 = .ok (.bipush 45, 2) := by decide +kernel
theorem d1_43 : decode method_3_code 43 = .ok (.ireturn, 1) := by decide +kernel
theorem d1_44 : decode method_3_code 44 = .ok (.bipush 95, 2) := by decide +kernel
theorem d1_46 : decode method_3_code 46 = .ok (.ireturn, 1) := by decide +kernel
theorem oef_orm_tok (m : MethodId) (p : Int32)  : (entryFrame m #[(.int p)] 2).locals = #[.val (.int p), .unset] := by first | (simp [entryFrame, argsToLocals, Value.category]; done) | rfl
set_option maxRecDepth 65536 in
set_option maxHeartbeats 40000000 in
theorem orm_tok (l : Launch) (Z : State) (a0 : Array Value) (hw : ∀ d ∈ tables_1, d.before a0 Z = true) (hE : EW Z a0 ([] : List (String × Nat))) (p : Int32) (h : Heap) (hO : Old Z Z.heap.size h)   :
    Ct l Z ([] : List (String × Nat)) (⟨"com/example/lawful_crawler/lawfulcrawler/robots/ProductTokenOfPinLaw", "tokenChar", "(I)C"⟩ : MethodName) method_3_code 2 (Option.some Jvm.ClassFile.FieldType.char) ⟨0, 0, 0, 0⟩ #[(.int p)] h [] (fun rv' hp' so' => ∃ u : Int32, rv' = some (.int u) ∧ so' = [] ∧ (B8 u ∧ Tok u)) := by
  refine Ct.mk "com/example/lawful_crawler/lawfulcrawler/robots/ProductTokenOfPinLaw" "tokenChar" rfl rfl (a0 := a0) (plainFor_of_name opn1) hO hE (fun x q => nomatch q) ?_
  intro K T W
  rw [oef_orm_tok]
  refine gIloadN W d1_0 rfl rfl ?_
  refine wLdcI (v := (2147483647 : Int32)) W d1_1 (ow0 hw) rfl ?_
  obtain ⟨v1, e2⟩ : ∃ v : Int32, p &&& (2147483647 : Int32) = v := ⟨_, rfl⟩
  refine gIand W d1_3 e2 rfl ?_
  refine gBipush (z := (54 : Int32)) W d1_4 rfl rfl ?_
  obtain ⟨v3, e4⟩ : ∃ v : Int32, v1 % (54 : Int32) = v := ⟨_, rfl⟩
  refine gIrem W d1_6 (by decide) e4 rfl ?_
  refine gIstoreN (ls' := #[.val (.int p), .val (.int v3)]) W d1_7 rfl rfl ?_
  refine gIloadN W d1_8 rfl rfl ?_
  refine gBipush (z := (26 : Int32)) W d1_9 rfl rfl ?_
  by_cases c5 : v3 < (26 : Int32)
  · refine gIcmpNo W d1_11 (tlt c5).2.1 rfl ?_
    refine gBipush (z := (97 : Int32)) W d1_14 rfl rfl ?_
    refine gIloadN W d1_16 rfl rfl ?_
    obtain ⟨v6, e7⟩ : ∃ v : Int32, (97 : Int32) + v3 = v := ⟨_, rfl⟩
    refine gIadd W d1_17 e7 rfl ?_
    obtain ⟨v8, e9⟩ : ∃ v : Int32, v6.toUInt32.toUInt16.toUInt32.toInt32 = v := ⟨_, rfl⟩
    refine gI2C W d1_18 e9 rfl ?_
    have t10 := tokA e2 e4 c5 e7 e9
    exact wRetI (so := []) (t := .char) W d1_19 (by simp) (congrArg Value.int t10.1.nar) (by decide) (by decide) (fun _ q => nomatch q) ⟨v8, rfl, rfl, t10⟩
  · refine gIcmpYes (pc' := 20) W d1_11 (flt c5).2.1 (by decide) rfl ?_
    refine gIloadN W d1_20 rfl rfl ?_
    refine gBipush (z := (52 : Int32)) W d1_21 rfl rfl ?_
    by_cases c11 : v3 < (52 : Int32)
    · refine gIcmpNo W d1_23 (tlt c11).2.1 rfl ?_
      refine gBipush (z := (65 : Int32)) W d1_26 rfl rfl ?_
      refine gIloadN W d1_28 rfl rfl ?_
      refine gBipush (z := (26 : Int32)) W d1_29 rfl rfl ?_
      obtain ⟨v12, e13⟩ : ∃ v : Int32, v3 - (26 : Int32) = v := ⟨_, rfl⟩
      refine gIsub W d1_31 e13 rfl ?_
      obtain ⟨v14, e15⟩ : ∃ v : Int32, (65 : Int32) + v12 = v := ⟨_, rfl⟩
      refine gIadd W d1_32 e15 rfl ?_
      obtain ⟨v16, e17⟩ : ∃ v : Int32, v14.toUInt32.toUInt16.toUInt32.toInt32 = v := ⟨_, rfl⟩
      refine gI2C W d1_33 e17 rfl ?_
      have t18 := tokB e2 e4 c5 c11 e13 e15 e17
      exact wRetI (so := []) (t := .char) W d1_34 (by simp) (congrArg Value.int t18.1.nar) (by decide) (by decide) (fun _ q => nomatch q) ⟨v16, rfl, rfl, t18⟩
    · refine gIcmpYes (pc' := 35) W d1_23 (flt c11).2.1 (by decide) rfl ?_
      refine gIloadN W d1_35 rfl rfl ?_
      refine gBipush (z := (52 : Int32)) W d1_36 rfl rfl ?_
      by_cases c19 : v3 = (52 : Int32)
      · refine gIcmpNo W d1_38 (teq c19).2 rfl ?_
        refine gBipush (z := (45 : Int32)) W d1_41 rfl rfl ?_
        exact wRetI (so := []) (t := .char) W d1_43 (by simp) rfl (by decide) (by decide) (fun _ q => nomatch q) ⟨45, rfl, rfl, ⟨⟨by decide, by decide⟩, Or.inr (Or.inr (Or.inl rfl))⟩⟩
      · refine gIcmpYes (pc' := 44) W d1_38 (feq c19).2 (by decide) rfl ?_
        refine gBipush (z := (95 : Int32)) W d1_44 rfl rfl ?_
        exact wRetI (so := []) (t := .char) W d1_46 (by simp) rfl (by decide) (by decide) (fun _ q => nomatch q) ⟨95, rfl, rfl, ⟨⟨by decide, by decide⟩, Or.inr (Or.inr (Or.inr rfl))⟩⟩
theorem opn2 : plainName "com/example/lawful_crawler/lawfulcrawler/robots/ProductToken" = true := by first | (simp [plainName, overriddenIn]; done) | decide +kernel
theorem d19_0 : decode prog_8_method_5_code 0 = .ok (.iload_n 0, 1) := by decide +kernel
theorem d19_1 : decode prog_8_method_5_code 1 = .ok (.bipush 97, 2) := by decide +kernel
theorem d19_3 : decode prog_8_method_5_code 3 = .ok (.if_icmp .lt 9, 3) := by decide +kernel
theorem d19_12 : decode prog_8_method_5_code 12 = .ok (.iload_n 0, 1) := by decide +kernel
theorem d19_13 : decode prog_8_method_5_code 13 = .ok (.bipush 65, 2) := by decide +kernel
theorem d19_15 : decode prog_8_method_5_code 15 = .ok (.if_icmp .lt 9, 3) := by decide +kernel
theorem d19_24 : decode prog_8_method_5_code 24 = .ok (.iload_n 0, 1) := by decide +kernel
theorem d19_25 : decode prog_8_method_5_code 25 = .ok (.bipush 45, 2) := by decide +kernel
theorem d19_27 : decode prog_8_method_5_code 27 = .ok (.if_icmp .eq 9, 3) := by decide +kernel
theorem d19_36 : decode prog_8_method_5_code 36 = .ok (.iconst 1, 1) := by decide +kernel
theorem d19_37 : decode prog_8_method_5_code 37 = .ok (.goto 4, 3) := by decide +kernel
theorem d19_41 : decode prog_8_method_5_code 41 = .ok (.ireturn, 1) := by decide +kernel
theorem d19_30 : decode prog_8_method_5_code 30 = .ok (.iload_n 0, 1) := by decide +kernel
theorem d19_31 : decode prog_8_method_5_code 31 = .ok (.bipush 95, 2) := by decide +kernel
theorem d19_33 : decode prog_8_method_5_code 33 = .ok (.if_icmp .ne 7, 3) := by decide +kernel
theorem d19_40 : decode prog_8_method_5_code 40 = .ok (.iconst 0, 1) := by decide +kernel
theorem d19_18 : decode prog_8_method_5_code 18 = .ok (.iload_n 0, 1) := by decide +kernel
theorem d19_19 : decode prog_8_method_5_code 19 = .ok (.bipush 90, 2) := by decide +kernel
theorem d19_21 : decode prog_8_method_5_code 21 = .ok (.if_icmp .le 15, 3) := by decide +kernel
theorem d19_6 : decode prog_8_method_5_code 6 = .ok (.iload_n 0, 1) := by decide +kernel
theorem d19_7 : decode prog_8_method_5_code 7 = .ok (.bipush 122, 2) := by decide +kernel
theorem d19_9 : decode prog_8_method_5_code 9 = .ok (.if_icmp .le 27, 3) := by decide +kernel
theorem oef_orm_isTok (m : MethodId) (c : Int32)  : (entryFrame m #[(.int c)] 1).locals = #[.val (.int c)] := by first | (simp [entryFrame, argsToLocals, Value.category]; done) | rfl
set_option maxRecDepth 65536 in
set_option maxHeartbeats 40000000 in
theorem orm_isTok (l : Launch) (Z : State) (a0 : Array Value) (hw : ∀ d ∈ tables_1, d.before a0 Z = true) (hE : EW Z a0 ([] : List (String × Nat))) (c : Int32) (h : Heap) (hO : Old Z Z.heap.size h) (ht : (Tok c))  :
    Ct l Z ([] : List (String × Nat)) (⟨"com/example/lawful_crawler/lawfulcrawler/robots/ProductToken", "isTokenChar", "(C)Z"⟩ : MethodName) prog_8_method_5_code 1 (Option.some Jvm.ClassFile.FieldType.boolean) ⟨0, 0, 0, 0⟩ #[(.int c)] h [] (fun rv' hp' so' => rv' = some (.int (1 : Int32)) ∧ so' = []) := by
  refine Ct.mk "com/example/lawful_crawler/lawfulcrawler/robots/ProductToken" "isTokenChar" rfl rfl (a0 := a0) (plainFor_of_name opn2) hO hE (fun x q => nomatch q) ?_
  intro K T W
  rw [oef_orm_isTok]
  refine gIloadN W d19_0 rfl rfl ?_
  refine gBipush (z := (97 : Int32)) W d19_1 rfl rfl ?_
  by_cases c20 : c < (97 : Int32)
  · refine gIcmpYes (pc' := 12) W d19_3 (tlt c20).1 (by decide) rfl ?_
    refine gIloadN W d19_12 rfl rfl ?_
    refine gBipush (z := (65 : Int32)) W d19_13 rfl rfl ?_
    by_cases c21 : c < (65 : Int32)
    · refine gIcmpYes (pc' := 24) W d19_15 (tlt c21).1 (by decide) rfl ?_
      refine gIloadN W d19_24 rfl rfl ?_
      refine gBipush (z := (45 : Int32)) W d19_25 rfl rfl ?_
      by_cases c22 : c = (45 : Int32)
      · refine gIcmpYes (pc' := 36) W d19_27 (teq c22).1 (by decide) rfl ?_
        refine gIconst (z := (1 : Int32)) W d19_36 rfl rfl ?_
        refine gGoto (pc' := 41) W d19_37 (by decide) rfl ?_
        exact wRetI (so := []) (t := .boolean) W d19_41 (by simp) rfl (by decide) (by decide) (fun _ q => nomatch q) ⟨rfl, rfl⟩
      · refine gIcmpNo W d19_27 (feq c22).1 rfl ?_
        refine gIloadN W d19_30 rfl rfl ?_
        refine gBipush (z := (95 : Int32)) W d19_31 rfl rfl ?_
        by_cases c23 : c = (95 : Int32)
        · refine gIcmpNo W d19_33 (teq c23).2 rfl ?_
          refine gIconst (z := (1 : Int32)) W d19_36 rfl rfl ?_
          refine gGoto (pc' := 41) W d19_37 (by decide) rfl ?_
          exact wRetI (so := []) (t := .boolean) W d19_41 (by simp) rfl (by decide) (by decide) (fun _ q => nomatch q) ⟨rfl, rfl⟩
        · refine gIcmpYes (pc' := 40) W d19_33 (feq c23).2 (by decide) rfl ?_
          refine gIconst (z := (0 : Int32)) W d19_40 rfl rfl ?_
          exact absurd ht (by unfold Tok; simp [eq_true c20, eq_true c21, eq_false c22, eq_false c23])
    · refine gIcmpNo W d19_15 (flt c21).1 rfl ?_
      refine gIloadN W d19_18 rfl rfl ?_
      refine gBipush (z := (90 : Int32)) W d19_19 rfl rfl ?_
      by_cases c24 : (90 : Int32) < c
      · refine gIcmpNo W d19_21 (tlt c24).2.2.2 rfl ?_
        refine gIloadN W d19_24 rfl rfl ?_
        refine gBipush (z := (45 : Int32)) W d19_25 rfl rfl ?_
        by_cases c25 : c = (45 : Int32)
        · refine gIcmpYes (pc' := 36) W d19_27 (teq c25).1 (by decide) rfl ?_
          refine gIconst (z := (1 : Int32)) W d19_36 rfl rfl ?_
          refine gGoto (pc' := 41) W d19_37 (by decide) rfl ?_
          exact wRetI (so := []) (t := .boolean) W d19_41 (by simp) rfl (by decide) (by decide) (fun _ q => nomatch q) ⟨rfl, rfl⟩
        · refine gIcmpNo W d19_27 (feq c25).1 rfl ?_
          refine gIloadN W d19_30 rfl rfl ?_
          refine gBipush (z := (95 : Int32)) W d19_31 rfl rfl ?_
          by_cases c26 : c = (95 : Int32)
          · refine gIcmpNo W d19_33 (teq c26).2 rfl ?_
            refine gIconst (z := (1 : Int32)) W d19_36 rfl rfl ?_
            refine gGoto (pc' := 41) W d19_37 (by decide) rfl ?_
            exact wRetI (so := []) (t := .boolean) W d19_41 (by simp) rfl (by decide) (by decide) (fun _ q => nomatch q) ⟨rfl, rfl⟩
          · refine gIcmpYes (pc' := 40) W d19_33 (feq c26).2 (by decide) rfl ?_
            refine gIconst (z := (0 : Int32)) W d19_40 rfl rfl ?_
            exact absurd ht (by unfold Tok; simp [eq_true c20, eq_false c21, eq_true c24, eq_false c25, eq_false c26])
      · refine gIcmpYes (pc' := 36) W d19_21 (flt c24).2.2.2 (by decide) rfl ?_
        refine gIconst (z := (1 : Int32)) W d19_36 rfl rfl ?_
        refine gGoto (pc' := 41) W d19_37 (by decide) rfl ?_
        exact wRetI (so := []) (t := .boolean) W d19_41 (by simp) rfl (by decide) (by decide) (fun _ q => nomatch q) ⟨rfl, rfl⟩
  · refine gIcmpNo W d19_3 (flt c20).1 rfl ?_
    refine gIloadN W d19_6 rfl rfl ?_
    refine gBipush (z := (122 : Int32)) W d19_7 rfl rfl ?_
    by_cases c27 : (122 : Int32) < c
    · refine gIcmpNo W d19_9 (tlt c27).2.2.2 rfl ?_
      refine gIloadN W d19_12 rfl rfl ?_
      refine gBipush (z := (65 : Int32)) W d19_13 rfl rfl ?_
      by_cases c28 : c < (65 : Int32)
      · refine gIcmpYes (pc' := 24) W d19_15 (tlt c28).1 (by decide) rfl ?_
        refine gIloadN W d19_24 rfl rfl ?_
        refine gBipush (z := (45 : Int32)) W d19_25 rfl rfl ?_
        by_cases c29 : c = (45 : Int32)
        · refine gIcmpYes (pc' := 36) W d19_27 (teq c29).1 (by decide) rfl ?_
          refine gIconst (z := (1 : Int32)) W d19_36 rfl rfl ?_
          refine gGoto (pc' := 41) W d19_37 (by decide) rfl ?_
          exact wRetI (so := []) (t := .boolean) W d19_41 (by simp) rfl (by decide) (by decide) (fun _ q => nomatch q) ⟨rfl, rfl⟩
        · refine gIcmpNo W d19_27 (feq c29).1 rfl ?_
          refine gIloadN W d19_30 rfl rfl ?_
          refine gBipush (z := (95 : Int32)) W d19_31 rfl rfl ?_
          by_cases c30 : c = (95 : Int32)
          · refine gIcmpNo W d19_33 (teq c30).2 rfl ?_
            refine gIconst (z := (1 : Int32)) W d19_36 rfl rfl ?_
            refine gGoto (pc' := 41) W d19_37 (by decide) rfl ?_
            exact wRetI (so := []) (t := .boolean) W d19_41 (by simp) rfl (by decide) (by decide) (fun _ q => nomatch q) ⟨rfl, rfl⟩
          · refine gIcmpYes (pc' := 40) W d19_33 (feq c30).2 (by decide) rfl ?_
            refine gIconst (z := (0 : Int32)) W d19_40 rfl rfl ?_
            exact absurd ht (by unfold Tok; simp [eq_false c20, eq_true c27, eq_true c28, eq_false c29, eq_false c30])
      · refine gIcmpNo W d19_15 (flt c28).1 rfl ?_
        refine gIloadN W d19_18 rfl rfl ?_
        refine gBipush (z := (90 : Int32)) W d19_19 rfl rfl ?_
        by_cases c31 : (90 : Int32) < c
        · refine gIcmpNo W d19_21 (tlt c31).2.2.2 rfl ?_
          refine gIloadN W d19_24 rfl rfl ?_
          refine gBipush (z := (45 : Int32)) W d19_25 rfl rfl ?_
          by_cases c32 : c = (45 : Int32)
          · refine gIcmpYes (pc' := 36) W d19_27 (teq c32).1 (by decide) rfl ?_
            refine gIconst (z := (1 : Int32)) W d19_36 rfl rfl ?_
            refine gGoto (pc' := 41) W d19_37 (by decide) rfl ?_
            exact wRetI (so := []) (t := .boolean) W d19_41 (by simp) rfl (by decide) (by decide) (fun _ q => nomatch q) ⟨rfl, rfl⟩
          · refine gIcmpNo W d19_27 (feq c32).1 rfl ?_
            refine gIloadN W d19_30 rfl rfl ?_
            refine gBipush (z := (95 : Int32)) W d19_31 rfl rfl ?_
            by_cases c33 : c = (95 : Int32)
            · refine gIcmpNo W d19_33 (teq c33).2 rfl ?_
              refine gIconst (z := (1 : Int32)) W d19_36 rfl rfl ?_
              refine gGoto (pc' := 41) W d19_37 (by decide) rfl ?_
              exact wRetI (so := []) (t := .boolean) W d19_41 (by simp) rfl (by decide) (by decide) (fun _ q => nomatch q) ⟨rfl, rfl⟩
            · refine gIcmpYes (pc' := 40) W d19_33 (feq c33).2 (by decide) rfl ?_
              refine gIconst (z := (0 : Int32)) W d19_40 rfl rfl ?_
              exact absurd ht (by unfold Tok; simp [eq_false c20, eq_true c27, eq_false c28, eq_true c31, eq_false c32, eq_false c33])
        · refine gIcmpYes (pc' := 36) W d19_21 (flt c31).2.2.2 (by decide) rfl ?_
          refine gIconst (z := (1 : Int32)) W d19_36 rfl rfl ?_
          refine gGoto (pc' := 41) W d19_37 (by decide) rfl ?_
          exact wRetI (so := []) (t := .boolean) W d19_41 (by simp) rfl (by decide) (by decide) (fun _ q => nomatch q) ⟨rfl, rfl⟩
    · refine gIcmpYes (pc' := 36) W d19_9 (flt c27).2.2.2 (by decide) rfl ?_
      refine gIconst (z := (1 : Int32)) W d19_36 rfl rfl ?_
      refine gGoto (pc' := 41) W d19_37 (by decide) rfl ?_
      exact wRetI (so := []) (t := .boolean) W d19_41 (by simp) rfl (by decide) (by decide) (fun _ q => nomatch q) ⟨rfl, rfl⟩
theorem d11_0 : decode prog_8_method_4_code 0 = .ok (.iconst 0, 1) := by decide +kernel
theorem d11_1 : decode prog_8_method_4_code 1 = .ok (.istore_n 1, 1) := by decide +kernel
theorem d11_2 : decode prog_8_method_4_code 2 = .ok (.iload_n 1, 1) := by decide +kernel
theorem d11_3 : decode prog_8_method_4_code 3 = .ok (.aload_n 0, 1) := by decide +kernel
theorem d11_4 : decode prog_8_method_4_code 4 = .ok (.invokeinterface 64 1, 5) := by decide +kernel
theorem ow8 {a0 : Array Value} {Z : State} (hw : ∀ d ∈ tables_1, d.before a0 Z = true) : (Jvm.Cond.initialized "java/lang/String").before a0 Z = true := hw _ (List.mem_of_getElem? (i := 8) rfl)
theorem opd0 : parseMethodDescriptor "()I" = some ⟨[], some (.int)⟩ := by decide +kernel
theorem ow54 {a0 : Array Value} {Z : State} (hw : ∀ d ∈ tables_1, d.before a0 Z = true) : (Jvm.Cond.methodLink "com/example/lawful_crawler/lawfulcrawler/robots/ProductToken" (64 : Nat) ({ cls := "java/lang/CharSequence", name := "length", desc := "()I" } : Jvm.MethodName)).before a0 Z = true := hw _ (List.mem_of_getElem? (i := 54) rfl)
theorem ow55 {a0 : Array Value} {Z : State} (hw : ∀ d ∈ tables_1, d.before a0 Z = true) : (Jvm.Cond.declares ({ cls := "java/lang/CharSequence", name := "length", desc := "()I" } : Jvm.MethodName)).before a0 Z = true := hw _ (List.mem_of_getElem? (i := 55) rfl)
theorem ow56 {a0 : Array Value} {Z : State} (hw : ∀ d ∈ tables_1, d.before a0 Z = true) : (Jvm.Cond.interfaceMethod "java/lang/CharSequence" "java/lang/CharSequence" "length" "()I").before a0 Z = true := hw _ (List.mem_of_getElem? (i := 56) rfl)
theorem ow57 {a0 : Array Value} {Z : State} (hw : ∀ d ∈ tables_1, d.before a0 Z = true) : (Jvm.Cond.selects "java/lang/String" ({ cls := "java/lang/CharSequence", name := "length", desc := "()I" } : Jvm.MethodName) ({ cls := "java/lang/String", name := "length", desc := "()I" } : Jvm.MethodName)).before a0 Z = true := hw _ (List.mem_of_getElem? (i := 57) rfl)
theorem ow58 {a0 : Array Value} {Z : State} (hw : ∀ d ∈ tables_1, d.before a0 Z = true) : (Jvm.Cond.instanceMethod ({ cls := "java/lang/String", name := "length", desc := "()I" } : Jvm.MethodName)).before a0 Z = true := hw _ (List.mem_of_getElem? (i := 58) rfl)
theorem ow59 {a0 : Array Value} {Z : State} (hw : ∀ d ∈ tables_1, d.before a0 Z = true) : (Jvm.Cond.publicMethod ({ cls := "java/lang/String", name := "length", desc := "()I" } : Jvm.MethodName)).before a0 Z = true := hw _ (List.mem_of_getElem? (i := 59) rfl)
theorem ow60 {a0 : Array Value} {Z : State} (hw : ∀ d ∈ tables_1, d.before a0 Z = true) : (Jvm.Cond.unhidden "java/lang/String" "length" "()I").before a0 Z = true := hw _ (List.mem_of_getElem? (i := 60) rfl)
theorem ow61 {a0 : Array Value} {Z : State} (hw : ∀ d ∈ tables_1, d.before a0 Z = true) : (Jvm.Cond.castable "java/lang/String" "java/lang/CharSequence").before a0 Z = true := hw _ (List.mem_of_getElem? (i := 61) rfl)
theorem d11_9 : decode prog_8_method_4_code 9 = .ok (.if_icmp .ge 22, 3) := by decide +kernel
theorem d11_12 : decode prog_8_method_4_code 12 = .ok (.aload_n 0, 1) := by decide +kernel
theorem d11_13 : decode prog_8_method_4_code 13 = .ok (.iload_n 1, 1) := by decide +kernel
theorem d11_14 : decode prog_8_method_4_code 14 = .ok (.invokeinterface 65 2, 5) := by decide +kernel
theorem opd1 : parseMethodDescriptor "(I)C" = some ⟨[.int], some (.char)⟩ := by decide +kernel
theorem ow68 {a0 : Array Value} {Z : State} (hw : ∀ d ∈ tables_1, d.before a0 Z = true) : (Jvm.Cond.methodLink "com/example/lawful_crawler/lawfulcrawler/robots/ProductToken" (65 : Nat) ({ cls := "java/lang/CharSequence", name := "charAt", desc := "(I)C" } : Jvm.MethodName)).before a0 Z = true := hw _ (List.mem_of_getElem? (i := 68) rfl)
theorem ow69 {a0 : Array Value} {Z : State} (hw : ∀ d ∈ tables_1, d.before a0 Z = true) : (Jvm.Cond.declares ({ cls := "java/lang/CharSequence", name := "charAt", desc := "(I)C" } : Jvm.MethodName)).before a0 Z = true := hw _ (List.mem_of_getElem? (i := 69) rfl)
theorem ow70 {a0 : Array Value} {Z : State} (hw : ∀ d ∈ tables_1, d.before a0 Z = true) : (Jvm.Cond.interfaceMethod "java/lang/CharSequence" "java/lang/CharSequence" "charAt" "(I)C").before a0 Z = true := hw _ (List.mem_of_getElem? (i := 70) rfl)
theorem ow71 {a0 : Array Value} {Z : State} (hw : ∀ d ∈ tables_1, d.before a0 Z = true) : (Jvm.Cond.selects "java/lang/String" ({ cls := "java/lang/CharSequence", name := "charAt", desc := "(I)C" } : Jvm.MethodName) ({ cls := "java/lang/String", name := "charAt", desc := "(I)C" } : Jvm.MethodName)).before a0 Z = true := hw _ (List.mem_of_getElem? (i := 71) rfl)
theorem ow72 {a0 : Array Value} {Z : State} (hw : ∀ d ∈ tables_1, d.before a0 Z = true) : (Jvm.Cond.instanceMethod ({ cls := "java/lang/String", name := "charAt", desc := "(I)C" } : Jvm.MethodName)).before a0 Z = true := hw _ (List.mem_of_getElem? (i := 72) rfl)
theorem ow73 {a0 : Array Value} {Z : State} (hw : ∀ d ∈ tables_1, d.before a0 Z = true) : (Jvm.Cond.publicMethod ({ cls := "java/lang/String", name := "charAt", desc := "(I)C" } : Jvm.MethodName)).before a0 Z = true := hw _ (List.mem_of_getElem? (i := 73) rfl)
theorem ow74 {a0 : Array Value} {Z : State} (hw : ∀ d ∈ tables_1, d.before a0 Z = true) : (Jvm.Cond.unhidden "java/lang/String" "charAt" "(I)C").before a0 Z = true := hw _ (List.mem_of_getElem? (i := 74) rfl)
theorem d11_19 : decode prog_8_method_4_code 19 = .ok (.invokestatic 69, 3) := by decide +kernel
theorem ow93 {a0 : Array Value} {Z : State} (hw : ∀ d ∈ tables_1, d.before a0 Z = true) : (Jvm.Cond.methodLink "com/example/lawful_crawler/lawfulcrawler/robots/ProductToken" (69 : Nat) ({ cls := "com/example/lawful_crawler/lawfulcrawler/robots/ProductToken", name := "isTokenChar", desc := "(C)Z" } : Jvm.MethodName)).before a0 Z = true := hw _ (List.mem_of_getElem? (i := 93) rfl)
theorem ow37 {a0 : Array Value} {Z : State} (hw : ∀ d ∈ tables_1, d.before a0 Z = true) : (Jvm.Cond.initialized "com/example/lawful_crawler/lawfulcrawler/robots/ProductToken").before a0 Z = true := hw _ (List.mem_of_getElem? (i := 37) rfl)
theorem ow95 {a0 : Array Value} {Z : State} (hw : ∀ d ∈ tables_1, d.before a0 Z = true) : (Jvm.Cond.code ({ cls := "com/example/lawful_crawler/lawfulcrawler/robots/ProductToken", name := "isTokenChar", desc := "(C)Z" } : Jvm.MethodName) prog_8_method_5_code (1 : Nat) (Option.some Jvm.ClassFile.FieldType.boolean)).before a0 Z = true := hw _ (List.mem_of_getElem? (i := 95) rfl)
theorem opd2 : parseMethodDescriptor "(C)Z" = some ⟨[.char], some (.boolean)⟩ := by decide +kernel
theorem ow94 {a0 : Array Value} {Z : State} (hw : ∀ d ∈ tables_1, d.before a0 Z = true) : (Jvm.Cond.static ({ cls := "com/example/lawful_crawler/lawfulcrawler/robots/ProductToken", name := "isTokenChar", desc := "(C)Z" } : Jvm.MethodName)).before a0 Z = true := hw _ (List.mem_of_getElem? (i := 94) rfl)
theorem d11_22 : decode prog_8_method_4_code 22 = .ok (.ifCond .eq 9, 3) := by decide +kernel
theorem d11_25 : decode prog_8_method_4_code 25 = .ok (.iinc 1 1, 3) := by decide +kernel
theorem d11_28 : decode prog_8_method_4_code 28 = .ok (.goto (-26), 3) := by decide +kernel
theorem d11_31 : decode prog_8_method_4_code 31 = .ok (.iload_n 1, 1) := by decide +kernel
theorem d11_32 : decode prog_8_method_4_code 32 = .ok (.ireturn, 1) := by decide +kernel
theorem oef_orm_ll1 (m : MethodId) (a : Addr)  : (entryFrame m #[(.ref a)] 2).locals = #[.val (.ref a), .unset] := by first | (simp [entryFrame, argsToLocals, Value.category]; done) | rfl
set_option maxRecDepth 65536 in
set_option maxHeartbeats 40000000 in
theorem orm_ll1 (l : Launch) (Z : State) (a0 : Array Value) (hw : ∀ d ∈ tables_1, d.before a0 Z = true) (hE : EW Z a0 ([] : List (String × Nat))) (a : Addr) (c0 : Int32) (z : Int32) (fm : Value) (h : Heap) (hO : Old Z Z.heap.size h) (SC : (Sta Z Z.heap "java/lang/String" "COMPACT_STRINGS" "Z" (.int z))) (hz : (¬ z = 0)) (SF : (Sta Z Z.heap "jdk/internal/util/Preconditions" "SIOOBE_FORMATTER" "Ljava/util/function/BiFunction;" fm)) (rf : (fm.isRef = true)) (qs : Str Z h a [c0]) (bc0 : (B8 c0)) (tc0 : (Tok c0))  :
    Ct l Z ([] : List (String × Nat)) (⟨"com/example/lawful_crawler/lawfulcrawler/robots/ProductToken", "leadingLength", "(Ljava/lang/CharSequence;)I"⟩ : MethodName) prog_8_method_4_code 2 (Option.some Jvm.ClassFile.FieldType.int) ⟨5, 0, 0, 70⟩ #[(.ref a)] h [] (fun rv' hp' so' => rv' = some (.int (1 : Int32)) ∧ so' = []) := by
  refine Ct.mk "com/example/lawful_crawler/lawfulcrawler/robots/ProductToken" "leadingLength" rfl rfl (a0 := a0) (plainFor_of_name opn2) hO hE (fun x q => nomatch q) ?_
  intro K T W
  rw [oef_orm_ll1]
  refine gIconst (z := (0 : Int32)) W d11_0 rfl rfl ?_
  refine gIstoreN (ls' := #[.val (.ref a), .val (.int (0 : Int32))]) W d11_1 rfl rfl ?_
  refine gIloadN W d11_2 rfl rfl ?_
  refine gAloadN W d11_3 rfl rfl rfl ?_
  refine wFace (xi := (⟨"java/lang/CharSequence", "length", "()I"⟩ : MethodName)) (y := (⟨"java/lang/String", "length", "()I"⟩ : MethodName)) (Wd := 1) (a := a) (argsL := []) (rest := [(.int (0 : Int32))]) W d11_4 (ow54 hw) (ow55 hw) (ow56 hw) (ow57 hw) (ow58 hw) (ow59 hw) (ow60 hw) (ow61 hw) (by decide) (lenPay hw hE a [c0] 1 qs (SC.ext W.old.2) hz (by decide) (by decide)) qs.exa (by simp) rfl (lenOf opd0 rfl) rfl (Nat.le_of_eq rfl) (by decide) (by decide) rfl fun v38 so39 T34 h36 W35 kp37 sp40 q41 => ?_
  obtain ⟨rfl, rfl⟩ := q41
  show Go K _ T34 9 #[.val (.ref a), .val (.int (0 : Int32))] [(.int (Int32.ofNat [c0].length)), (.int (0 : Int32))]
  show Go K _ T34 9 #[.val (.ref a), .val (.int (0 : Int32))] [(.int (1 : Int32)), (.int (0 : Int32))]
  refine gIcmpNo W35 d11_9 (tlt (by decide)).2.1 rfl ?_
  refine gAloadN W35 d11_12 rfl rfl rfl ?_
  refine gIloadN W35 d11_13 rfl rfl ?_
  have f42 := qs.keep kp37 nin0 (a0 := a0) alln
  have f51 := qs.exa.keep kp37
  refine wFace (xi := (⟨"java/lang/CharSequence", "charAt", "(I)C"⟩ : MethodName)) (y := (⟨"java/lang/String", "charAt", "(I)C"⟩ : MethodName)) (Wd := 0) (a := a) (argsL := [(.int (0 : Int32))]) (rest := []) W35 d11_14 (ow68 hw) (ow69 hw) (ow70 hw) (ow71 hw) (ow72 hw) (ow73 hw) (ow74 hw) (ow61 hw) (by decide) (chPay hw hE a [c0] 0 (0 : Int32) 0 f42 (all1 bc0.2 alln) (SC.ext W35.old.2) hz (SF.ext W35.old.2) rf (show 0 < 1 from by decide) (by decide) (by decide) (by decide)) f51 (by simp) rfl (lenOf opd1 rfl) rfl (Nat.le_of_eq rfl) (by decide) (by decide) rfl fun v47 so48 T43 h45 W44 kp46 sp49 q50 => ?_
  obtain ⟨rfl, rfl⟩ := q50
  show Go K _ T43 19 #[.val (.ref a), .val (.int (0 : Int32))] [(.int ([c0].getD 0 0))]
  show Go K _ T43 19 #[.val (.ref a), .val (.int (0 : Int32))] [(.int c0)]
  refine wStatic (y := (⟨"com/example/lawful_crawler/lawfulcrawler/robots/ProductToken", "isTokenChar", "(C)Z"⟩ : MethodName)) (Wd := 0) (argsL := [(.int c0)]) (rest := []) W44 d11_19 (ow93 hw) (ow94 hw) (ow37 hw) (ow95 hw) (by decide) (Cb.ct (orm_isTok l Z a0 hw hE (c0) h45 W44.old tc0 ) (ow95 hw) (ow37 hw) hE (by decide) (by decide)) (by simp) rfl (lenOf opd2 rfl) rfl (Nat.le_of_eq rfl) (by decide) (by decide) rfl fun v56 so57 T52 h54 W53 kp55 sp58 q59 => ?_
  obtain ⟨rfl, rfl⟩ := q59
  show Go K _ T52 22 #[.val (.ref a), .val (.int (0 : Int32))] [(.int (1 : Int32))]
  refine gIfNo W53 d11_22 ((if0 _ _).trans (feq (by decide)).1) rfl ?_
  refine gIinc (z := (1 : Int32)) (ls' := #[.val (.ref a), .val (.int (1 : Int32))]) W53 d11_25 rfl (by decide) rfl rfl ?_
  refine gGoto (pc' := 2) W53 d11_28 (by decide) rfl ?_
  refine gIloadN W53 d11_2 rfl rfl ?_
  refine gAloadN W53 d11_3 rfl rfl rfl ?_
  have f60 := f42.keep kp46 nin0 (a0 := a0) alln
  have f61 := f60.keep kp55 nin0 (a0 := a0) alln
  have f70 := f51.keep kp46
  have f71 := f70.keep kp55
  refine wFace (xi := (⟨"java/lang/CharSequence", "length", "()I"⟩ : MethodName)) (y := (⟨"java/lang/String", "length", "()I"⟩ : MethodName)) (Wd := 1) (a := a) (argsL := []) (rest := [(.int (1 : Int32))]) W53 d11_4 (ow54 hw) (ow55 hw) (ow56 hw) (ow57 hw) (ow58 hw) (ow59 hw) (ow60 hw) (ow61 hw) (by decide) (lenPay hw hE a [c0] 1 f61 (SC.ext W53.old.2) hz (by decide) (by decide)) f71 (by simp) rfl (lenOf opd0 rfl) rfl (Nat.le_of_eq rfl) (by decide) (by decide) rfl fun v66 so67 T62 h64 W63 kp65 sp68 q69 => ?_
  obtain ⟨rfl, rfl⟩ := q69
  show Go K _ T62 9 #[.val (.ref a), .val (.int (1 : Int32))] [(.int (Int32.ofNat [c0].length)), (.int (1 : Int32))]
  show Go K _ T62 9 #[.val (.ref a), .val (.int (1 : Int32))] [(.int (1 : Int32)), (.int (1 : Int32))]
  refine gIcmpYes (pc' := 31) W63 d11_9 (flt (by decide)).2.1 (by decide) rfl ?_
  refine gIloadN W63 d11_31 rfl rfl ?_
  exact wRetI (so := []) (t := .int) W63 d11_32 (by simp) rfl (by decide) (by decide) (fun _ q => nomatch q) ⟨rfl, rfl⟩
theorem oef_orm_ll2 (m : MethodId) (a : Addr)  : (entryFrame m #[(.ref a)] 2).locals = #[.val (.ref a), .unset] := by first | (simp [entryFrame, argsToLocals, Value.category]; done) | rfl
set_option maxRecDepth 65536 in
set_option maxHeartbeats 40000000 in
theorem orm_ll2 (l : Launch) (Z : State) (a0 : Array Value) (hw : ∀ d ∈ tables_1, d.before a0 Z = true) (hE : EW Z a0 ([] : List (String × Nat))) (a : Addr) (c0 : Int32) (c1 : Int32) (z : Int32) (fm : Value) (h : Heap) (hO : Old Z Z.heap.size h) (SC : (Sta Z Z.heap "java/lang/String" "COMPACT_STRINGS" "Z" (.int z))) (hz : (¬ z = 0)) (SF : (Sta Z Z.heap "jdk/internal/util/Preconditions" "SIOOBE_FORMATTER" "Ljava/util/function/BiFunction;" fm)) (rf : (fm.isRef = true)) (qs : Str Z h a [c0, c1]) (bc0 : (B8 c0)) (bc1 : (B8 c1)) (tc0 : (Tok c0)) (tc1 : (Tok c1))  :
    Ct l Z ([] : List (String × Nat)) (⟨"com/example/lawful_crawler/lawfulcrawler/robots/ProductToken", "leadingLength", "(Ljava/lang/CharSequence;)I"⟩ : MethodName) prog_8_method_4_code 2 (Option.some Jvm.ClassFile.FieldType.int) ⟨5, 0, 0, 70⟩ #[(.ref a)] h [] (fun rv' hp' so' => rv' = some (.int (2 : Int32)) ∧ so' = []) := by
  refine Ct.mk "com/example/lawful_crawler/lawfulcrawler/robots/ProductToken" "leadingLength" rfl rfl (a0 := a0) (plainFor_of_name opn2) hO hE (fun x q => nomatch q) ?_
  intro K T W
  rw [oef_orm_ll2]
  refine gIconst (z := (0 : Int32)) W d11_0 rfl rfl ?_
  refine gIstoreN (ls' := #[.val (.ref a), .val (.int (0 : Int32))]) W d11_1 rfl rfl ?_
  refine gIloadN W d11_2 rfl rfl ?_
  refine gAloadN W d11_3 rfl rfl rfl ?_
  refine wFace (xi := (⟨"java/lang/CharSequence", "length", "()I"⟩ : MethodName)) (y := (⟨"java/lang/String", "length", "()I"⟩ : MethodName)) (Wd := 1) (a := a) (argsL := []) (rest := [(.int (0 : Int32))]) W d11_4 (ow54 hw) (ow55 hw) (ow56 hw) (ow57 hw) (ow58 hw) (ow59 hw) (ow60 hw) (ow61 hw) (by decide) (lenPay hw hE a [c0, c1] 1 qs (SC.ext W.old.2) hz (by decide) (by decide)) qs.exa (by simp) rfl (lenOf opd0 rfl) rfl (Nat.le_of_eq rfl) (by decide) (by decide) rfl fun v76 so77 T72 h74 W73 kp75 sp78 q79 => ?_
  obtain ⟨rfl, rfl⟩ := q79
  show Go K _ T72 9 #[.val (.ref a), .val (.int (0 : Int32))] [(.int (Int32.ofNat [c0, c1].length)), (.int (0 : Int32))]
  show Go K _ T72 9 #[.val (.ref a), .val (.int (0 : Int32))] [(.int (2 : Int32)), (.int (0 : Int32))]
  refine gIcmpNo W73 d11_9 (tlt (by decide)).2.1 rfl ?_
  refine gAloadN W73 d11_12 rfl rfl rfl ?_
  refine gIloadN W73 d11_13 rfl rfl ?_
  have f80 := qs.keep kp75 nin0 (a0 := a0) alln
  have f89 := qs.exa.keep kp75
  refine wFace (xi := (⟨"java/lang/CharSequence", "charAt", "(I)C"⟩ : MethodName)) (y := (⟨"java/lang/String", "charAt", "(I)C"⟩ : MethodName)) (Wd := 0) (a := a) (argsL := [(.int (0 : Int32))]) (rest := []) W73 d11_14 (ow68 hw) (ow69 hw) (ow70 hw) (ow71 hw) (ow72 hw) (ow73 hw) (ow74 hw) (ow61 hw) (by decide) (chPay hw hE a [c0, c1] 0 (0 : Int32) 0 f80 (all1 bc0.2 (all1 bc1.2 alln)) (SC.ext W73.old.2) hz (SF.ext W73.old.2) rf (show 0 < 2 from by decide) (by decide) (by decide) (by decide)) f89 (by simp) rfl (lenOf opd1 rfl) rfl (Nat.le_of_eq rfl) (by decide) (by decide) rfl fun v85 so86 T81 h83 W82 kp84 sp87 q88 => ?_
  obtain ⟨rfl, rfl⟩ := q88
  show Go K _ T81 19 #[.val (.ref a), .val (.int (0 : Int32))] [(.int ([c0, c1].getD 0 0))]
  show Go K _ T81 19 #[.val (.ref a), .val (.int (0 : Int32))] [(.int c0)]
  refine wStatic (y := (⟨"com/example/lawful_crawler/lawfulcrawler/robots/ProductToken", "isTokenChar", "(C)Z"⟩ : MethodName)) (Wd := 0) (argsL := [(.int c0)]) (rest := []) W82 d11_19 (ow93 hw) (ow94 hw) (ow37 hw) (ow95 hw) (by decide) (Cb.ct (orm_isTok l Z a0 hw hE (c0) h83 W82.old tc0 ) (ow95 hw) (ow37 hw) hE (by decide) (by decide)) (by simp) rfl (lenOf opd2 rfl) rfl (Nat.le_of_eq rfl) (by decide) (by decide) rfl fun v94 so95 T90 h92 W91 kp93 sp96 q97 => ?_
  obtain ⟨rfl, rfl⟩ := q97
  show Go K _ T90 22 #[.val (.ref a), .val (.int (0 : Int32))] [(.int (1 : Int32))]
  refine gIfNo W91 d11_22 ((if0 _ _).trans (feq (by decide)).1) rfl ?_
  refine gIinc (z := (1 : Int32)) (ls' := #[.val (.ref a), .val (.int (1 : Int32))]) W91 d11_25 rfl (by decide) rfl rfl ?_
  refine gGoto (pc' := 2) W91 d11_28 (by decide) rfl ?_
  refine gIloadN W91 d11_2 rfl rfl ?_
  refine gAloadN W91 d11_3 rfl rfl rfl ?_
  have f98 := f80.keep kp84 nin0 (a0 := a0) alln
  have f99 := f98.keep kp93 nin0 (a0 := a0) alln
  have f108 := f89.keep kp84
  have f109 := f108.keep kp93
  refine wFace (xi := (⟨"java/lang/CharSequence", "length", "()I"⟩ : MethodName)) (y := (⟨"java/lang/String", "length", "()I"⟩ : MethodName)) (Wd := 1) (a := a) (argsL := []) (rest := [(.int (1 : Int32))]) W91 d11_4 (ow54 hw) (ow55 hw) (ow56 hw) (ow57 hw) (ow58 hw) (ow59 hw) (ow60 hw) (ow61 hw) (by decide) (lenPay hw hE a [c0, c1] 1 f99 (SC.ext W91.old.2) hz (by decide) (by decide)) f109 (by simp) rfl (lenOf opd0 rfl) rfl (Nat.le_of_eq rfl) (by decide) (by decide) rfl fun v104 so105 T100 h102 W101 kp103 sp106 q107 => ?_
  obtain ⟨rfl, rfl⟩ := q107
  show Go K _ T100 9 #[.val (.ref a), .val (.int (1 : Int32))] [(.int (Int32.ofNat [c0, c1].length)), (.int (1 : Int32))]
  show Go K _ T100 9 #[.val (.ref a), .val (.int (1 : Int32))] [(.int (2 : Int32)), (.int (1 : Int32))]
  refine gIcmpNo W101 d11_9 (tlt (by decide)).2.1 rfl ?_
  refine gAloadN W101 d11_12 rfl rfl rfl ?_
  refine gIloadN W101 d11_13 rfl rfl ?_
  have f110 := f99.keep kp103 nin0 (a0 := a0) alln
  have f119 := f109.keep kp103
  refine wFace (xi := (⟨"java/lang/CharSequence", "charAt", "(I)C"⟩ : MethodName)) (y := (⟨"java/lang/String", "charAt", "(I)C"⟩ : MethodName)) (Wd := 0) (a := a) (argsL := [(.int (1 : Int32))]) (rest := []) W101 d11_14 (ow68 hw) (ow69 hw) (ow70 hw) (ow71 hw) (ow72 hw) (ow73 hw) (ow74 hw) (ow61 hw) (by decide) (chPay hw hE a [c0, c1] 1 (1 : Int32) 0 f110 (all1 bc0.2 (all1 bc1.2 alln)) (SC.ext W101.old.2) hz (SF.ext W101.old.2) rf (show 1 < 2 from by decide) (by decide) (by decide) (by decide)) f119 (by simp) rfl (lenOf opd1 rfl) rfl (Nat.le_of_eq rfl) (by decide) (by decide) rfl fun v115 so116 T111 h113 W112 kp114 sp117 q118 => ?_
  obtain ⟨rfl, rfl⟩ := q118
  show Go K _ T111 19 #[.val (.ref a), .val (.int (1 : Int32))] [(.int ([c0, c1].getD 1 0))]
  show Go K _ T111 19 #[.val (.ref a), .val (.int (1 : Int32))] [(.int c1)]
  refine wStatic (y := (⟨"com/example/lawful_crawler/lawfulcrawler/robots/ProductToken", "isTokenChar", "(C)Z"⟩ : MethodName)) (Wd := 0) (argsL := [(.int c1)]) (rest := []) W112 d11_19 (ow93 hw) (ow94 hw) (ow37 hw) (ow95 hw) (by decide) (Cb.ct (orm_isTok l Z a0 hw hE (c1) h113 W112.old tc1 ) (ow95 hw) (ow37 hw) hE (by decide) (by decide)) (by simp) rfl (lenOf opd2 rfl) rfl (Nat.le_of_eq rfl) (by decide) (by decide) rfl fun v124 so125 T120 h122 W121 kp123 sp126 q127 => ?_
  obtain ⟨rfl, rfl⟩ := q127
  show Go K _ T120 22 #[.val (.ref a), .val (.int (1 : Int32))] [(.int (1 : Int32))]
  refine gIfNo W121 d11_22 ((if0 _ _).trans (feq (by decide)).1) rfl ?_
  refine gIinc (z := (2 : Int32)) (ls' := #[.val (.ref a), .val (.int (2 : Int32))]) W121 d11_25 rfl (by decide) rfl rfl ?_
  refine gGoto (pc' := 2) W121 d11_28 (by decide) rfl ?_
  refine gIloadN W121 d11_2 rfl rfl ?_
  refine gAloadN W121 d11_3 rfl rfl rfl ?_
  have f128 := f110.keep kp114 nin0 (a0 := a0) alln
  have f129 := f128.keep kp123 nin0 (a0 := a0) alln
  have f138 := f119.keep kp114
  have f139 := f138.keep kp123
  refine wFace (xi := (⟨"java/lang/CharSequence", "length", "()I"⟩ : MethodName)) (y := (⟨"java/lang/String", "length", "()I"⟩ : MethodName)) (Wd := 1) (a := a) (argsL := []) (rest := [(.int (2 : Int32))]) W121 d11_4 (ow54 hw) (ow55 hw) (ow56 hw) (ow57 hw) (ow58 hw) (ow59 hw) (ow60 hw) (ow61 hw) (by decide) (lenPay hw hE a [c0, c1] 1 f129 (SC.ext W121.old.2) hz (by decide) (by decide)) f139 (by simp) rfl (lenOf opd0 rfl) rfl (Nat.le_of_eq rfl) (by decide) (by decide) rfl fun v134 so135 T130 h132 W131 kp133 sp136 q137 => ?_
  obtain ⟨rfl, rfl⟩ := q137
  show Go K _ T130 9 #[.val (.ref a), .val (.int (2 : Int32))] [(.int (Int32.ofNat [c0, c1].length)), (.int (2 : Int32))]
  show Go K _ T130 9 #[.val (.ref a), .val (.int (2 : Int32))] [(.int (2 : Int32)), (.int (2 : Int32))]
  refine gIcmpYes (pc' := 31) W131 d11_9 (flt (by decide)).2.1 (by decide) rfl ?_
  refine gIloadN W131 d11_31 rfl rfl ?_
  exact wRetI (so := []) (t := .int) W131 d11_32 (by simp) rfl (by decide) (by decide) (fun _ q => nomatch q) ⟨rfl, rfl⟩
theorem oef_orm_ll3 (m : MethodId) (a : Addr)  : (entryFrame m #[(.ref a)] 2).locals = #[.val (.ref a), .unset] := by first | (simp [entryFrame, argsToLocals, Value.category]; done) | rfl
set_option maxRecDepth 65536 in
set_option maxHeartbeats 40000000 in
theorem orm_ll3 (l : Launch) (Z : State) (a0 : Array Value) (hw : ∀ d ∈ tables_1, d.before a0 Z = true) (hE : EW Z a0 ([] : List (String × Nat))) (a : Addr) (c0 : Int32) (c1 : Int32) (c2 : Int32) (z : Int32) (fm : Value) (h : Heap) (hO : Old Z Z.heap.size h) (SC : (Sta Z Z.heap "java/lang/String" "COMPACT_STRINGS" "Z" (.int z))) (hz : (¬ z = 0)) (SF : (Sta Z Z.heap "jdk/internal/util/Preconditions" "SIOOBE_FORMATTER" "Ljava/util/function/BiFunction;" fm)) (rf : (fm.isRef = true)) (qs : Str Z h a [c0, c1, c2]) (bc0 : (B8 c0)) (bc1 : (B8 c1)) (bc2 : (B8 c2)) (tc0 : (Tok c0)) (tc1 : (Tok c1)) (tc2 : (Tok c2))  :
    Ct l Z ([] : List (String × Nat)) (⟨"com/example/lawful_crawler/lawfulcrawler/robots/ProductToken", "leadingLength", "(Ljava/lang/CharSequence;)I"⟩ : MethodName) prog_8_method_4_code 2 (Option.some Jvm.ClassFile.FieldType.int) ⟨5, 0, 0, 70⟩ #[(.ref a)] h [] (fun rv' hp' so' => rv' = some (.int (3 : Int32)) ∧ so' = []) := by
  refine Ct.mk "com/example/lawful_crawler/lawfulcrawler/robots/ProductToken" "leadingLength" rfl rfl (a0 := a0) (plainFor_of_name opn2) hO hE (fun x q => nomatch q) ?_
  intro K T W
  rw [oef_orm_ll3]
  refine gIconst (z := (0 : Int32)) W d11_0 rfl rfl ?_
  refine gIstoreN (ls' := #[.val (.ref a), .val (.int (0 : Int32))]) W d11_1 rfl rfl ?_
  refine gIloadN W d11_2 rfl rfl ?_
  refine gAloadN W d11_3 rfl rfl rfl ?_
  refine wFace (xi := (⟨"java/lang/CharSequence", "length", "()I"⟩ : MethodName)) (y := (⟨"java/lang/String", "length", "()I"⟩ : MethodName)) (Wd := 1) (a := a) (argsL := []) (rest := [(.int (0 : Int32))]) W d11_4 (ow54 hw) (ow55 hw) (ow56 hw) (ow57 hw) (ow58 hw) (ow59 hw) (ow60 hw) (ow61 hw) (by decide) (lenPay hw hE a [c0, c1, c2] 1 qs (SC.ext W.old.2) hz (by decide) (by decide)) qs.exa (by simp) rfl (lenOf opd0 rfl) rfl (Nat.le_of_eq rfl) (by decide) (by decide) rfl fun v144 so145 T140 h142 W141 kp143 sp146 q147 => ?_
  obtain ⟨rfl, rfl⟩ := q147
  show Go K _ T140 9 #[.val (.ref a), .val (.int (0 : Int32))] [(.int (Int32.ofNat [c0, c1, c2].length)), (.int (0 : Int32))]
  show Go K _ T140 9 #[.val (.ref a), .val (.int (0 : Int32))] [(.int (3 : Int32)), (.int (0 : Int32))]
  refine gIcmpNo W141 d11_9 (tlt (by decide)).2.1 rfl ?_
  refine gAloadN W141 d11_12 rfl rfl rfl ?_
  refine gIloadN W141 d11_13 rfl rfl ?_
  have f148 := qs.keep kp143 nin0 (a0 := a0) alln
  have f157 := qs.exa.keep kp143
  refine wFace (xi := (⟨"java/lang/CharSequence", "charAt", "(I)C"⟩ : MethodName)) (y := (⟨"java/lang/String", "charAt", "(I)C"⟩ : MethodName)) (Wd := 0) (a := a) (argsL := [(.int (0 : Int32))]) (rest := []) W141 d11_14 (ow68 hw) (ow69 hw) (ow70 hw) (ow71 hw) (ow72 hw) (ow73 hw) (ow74 hw) (ow61 hw) (by decide) (chPay hw hE a [c0, c1, c2] 0 (0 : Int32) 0 f148 (all1 bc0.2 (all1 bc1.2 (all1 bc2.2 alln))) (SC.ext W141.old.2) hz (SF.ext W141.old.2) rf (show 0 < 3 from by decide) (by decide) (by decide) (by decide)) f157 (by simp) rfl (lenOf opd1 rfl) rfl (Nat.le_of_eq rfl) (by decide) (by decide) rfl fun v153 so154 T149 h151 W150 kp152 sp155 q156 => ?_
  obtain ⟨rfl, rfl⟩ := q156
  show Go K _ T149 19 #[.val (.ref a), .val (.int (0 : Int32))] [(.int ([c0, c1, c2].getD 0 0))]
  show Go K _ T149 19 #[.val (.ref a), .val (.int (0 : Int32))] [(.int c0)]
  refine wStatic (y := (⟨"com/example/lawful_crawler/lawfulcrawler/robots/ProductToken", "isTokenChar", "(C)Z"⟩ : MethodName)) (Wd := 0) (argsL := [(.int c0)]) (rest := []) W150 d11_19 (ow93 hw) (ow94 hw) (ow37 hw) (ow95 hw) (by decide) (Cb.ct (orm_isTok l Z a0 hw hE (c0) h151 W150.old tc0 ) (ow95 hw) (ow37 hw) hE (by decide) (by decide)) (by simp) rfl (lenOf opd2 rfl) rfl (Nat.le_of_eq rfl) (by decide) (by decide) rfl fun v162 so163 T158 h160 W159 kp161 sp164 q165 => ?_
  obtain ⟨rfl, rfl⟩ := q165
  show Go K _ T158 22 #[.val (.ref a), .val (.int (0 : Int32))] [(.int (1 : Int32))]
  refine gIfNo W159 d11_22 ((if0 _ _).trans (feq (by decide)).1) rfl ?_
  refine gIinc (z := (1 : Int32)) (ls' := #[.val (.ref a), .val (.int (1 : Int32))]) W159 d11_25 rfl (by decide) rfl rfl ?_
  refine gGoto (pc' := 2) W159 d11_28 (by decide) rfl ?_
  refine gIloadN W159 d11_2 rfl rfl ?_
  refine gAloadN W159 d11_3 rfl rfl rfl ?_
  have f166 := f148.keep kp152 nin0 (a0 := a0) alln
  have f167 := f166.keep kp161 nin0 (a0 := a0) alln
  have f176 := f157.keep kp152
  have f177 := f176.keep kp161
  refine wFace (xi := (⟨"java/lang/CharSequence", "length", "()I"⟩ : MethodName)) (y := (⟨"java/lang/String", "length", "()I"⟩ : MethodName)) (Wd := 1) (a := a) (argsL := []) (rest := [(.int (1 : Int32))]) W159 d11_4 (ow54 hw) (ow55 hw) (ow56 hw) (ow57 hw) (ow58 hw) (ow59 hw) (ow60 hw) (ow61 hw) (by decide) (lenPay hw hE a [c0, c1, c2] 1 f167 (SC.ext W159.old.2) hz (by decide) (by decide)) f177 (by simp) rfl (lenOf opd0 rfl) rfl (Nat.le_of_eq rfl) (by decide) (by decide) rfl fun v172 so173 T168 h170 W169 kp171 sp174 q175 => ?_
  obtain ⟨rfl, rfl⟩ := q175
  show Go K _ T168 9 #[.val (.ref a), .val (.int (1 : Int32))] [(.int (Int32.ofNat [c0, c1, c2].length)), (.int (1 : Int32))]
  show Go K _ T168 9 #[.val (.ref a), .val (.int (1 : Int32))] [(.int (3 : Int32)), (.int (1 : Int32))]
  refine gIcmpNo W169 d11_9 (tlt (by decide)).2.1 rfl ?_
  refine gAloadN W169 d11_12 rfl rfl rfl ?_
  refine gIloadN W169 d11_13 rfl rfl ?_
  have f178 := f167.keep kp171 nin0 (a0 := a0) alln
  have f187 := f177.keep kp171
  refine wFace (xi := (⟨"java/lang/CharSequence", "charAt", "(I)C"⟩ : MethodName)) (y := (⟨"java/lang/String", "charAt", "(I)C"⟩ : MethodName)) (Wd := 0) (a := a) (argsL := [(.int (1 : Int32))]) (rest := []) W169 d11_14 (ow68 hw) (ow69 hw) (ow70 hw) (ow71 hw) (ow72 hw) (ow73 hw) (ow74 hw) (ow61 hw) (by decide) (chPay hw hE a [c0, c1, c2] 1 (1 : Int32) 0 f178 (all1 bc0.2 (all1 bc1.2 (all1 bc2.2 alln))) (SC.ext W169.old.2) hz (SF.ext W169.old.2) rf (show 1 < 3 from by decide) (by decide) (by decide) (by decide)) f187 (by simp) rfl (lenOf opd1 rfl) rfl (Nat.le_of_eq rfl) (by decide) (by decide) rfl fun v183 so184 T179 h181 W180 kp182 sp185 q186 => ?_
  obtain ⟨rfl, rfl⟩ := q186
  show Go K _ T179 19 #[.val (.ref a), .val (.int (1 : Int32))] [(.int ([c0, c1, c2].getD 1 0))]
  show Go K _ T179 19 #[.val (.ref a), .val (.int (1 : Int32))] [(.int c1)]
  refine wStatic (y := (⟨"com/example/lawful_crawler/lawfulcrawler/robots/ProductToken", "isTokenChar", "(C)Z"⟩ : MethodName)) (Wd := 0) (argsL := [(.int c1)]) (rest := []) W180 d11_19 (ow93 hw) (ow94 hw) (ow37 hw) (ow95 hw) (by decide) (Cb.ct (orm_isTok l Z a0 hw hE (c1) h181 W180.old tc1 ) (ow95 hw) (ow37 hw) hE (by decide) (by decide)) (by simp) rfl (lenOf opd2 rfl) rfl (Nat.le_of_eq rfl) (by decide) (by decide) rfl fun v192 so193 T188 h190 W189 kp191 sp194 q195 => ?_
  obtain ⟨rfl, rfl⟩ := q195
  show Go K _ T188 22 #[.val (.ref a), .val (.int (1 : Int32))] [(.int (1 : Int32))]
  refine gIfNo W189 d11_22 ((if0 _ _).trans (feq (by decide)).1) rfl ?_
  refine gIinc (z := (2 : Int32)) (ls' := #[.val (.ref a), .val (.int (2 : Int32))]) W189 d11_25 rfl (by decide) rfl rfl ?_
  refine gGoto (pc' := 2) W189 d11_28 (by decide) rfl ?_
  refine gIloadN W189 d11_2 rfl rfl ?_
  refine gAloadN W189 d11_3 rfl rfl rfl ?_
  have f196 := f178.keep kp182 nin0 (a0 := a0) alln
  have f197 := f196.keep kp191 nin0 (a0 := a0) alln
  have f206 := f187.keep kp182
  have f207 := f206.keep kp191
  refine wFace (xi := (⟨"java/lang/CharSequence", "length", "()I"⟩ : MethodName)) (y := (⟨"java/lang/String", "length", "()I"⟩ : MethodName)) (Wd := 1) (a := a) (argsL := []) (rest := [(.int (2 : Int32))]) W189 d11_4 (ow54 hw) (ow55 hw) (ow56 hw) (ow57 hw) (ow58 hw) (ow59 hw) (ow60 hw) (ow61 hw) (by decide) (lenPay hw hE a [c0, c1, c2] 1 f197 (SC.ext W189.old.2) hz (by decide) (by decide)) f207 (by simp) rfl (lenOf opd0 rfl) rfl (Nat.le_of_eq rfl) (by decide) (by decide) rfl fun v202 so203 T198 h200 W199 kp201 sp204 q205 => ?_
  obtain ⟨rfl, rfl⟩ := q205
  show Go K _ T198 9 #[.val (.ref a), .val (.int (2 : Int32))] [(.int (Int32.ofNat [c0, c1, c2].length)), (.int (2 : Int32))]
  show Go K _ T198 9 #[.val (.ref a), .val (.int (2 : Int32))] [(.int (3 : Int32)), (.int (2 : Int32))]
  refine gIcmpNo W199 d11_9 (tlt (by decide)).2.1 rfl ?_
  refine gAloadN W199 d11_12 rfl rfl rfl ?_
  refine gIloadN W199 d11_13 rfl rfl ?_
  have f208 := f197.keep kp201 nin0 (a0 := a0) alln
  have f217 := f207.keep kp201
  refine wFace (xi := (⟨"java/lang/CharSequence", "charAt", "(I)C"⟩ : MethodName)) (y := (⟨"java/lang/String", "charAt", "(I)C"⟩ : MethodName)) (Wd := 0) (a := a) (argsL := [(.int (2 : Int32))]) (rest := []) W199 d11_14 (ow68 hw) (ow69 hw) (ow70 hw) (ow71 hw) (ow72 hw) (ow73 hw) (ow74 hw) (ow61 hw) (by decide) (chPay hw hE a [c0, c1, c2] 2 (2 : Int32) 0 f208 (all1 bc0.2 (all1 bc1.2 (all1 bc2.2 alln))) (SC.ext W199.old.2) hz (SF.ext W199.old.2) rf (show 2 < 3 from by decide) (by decide) (by decide) (by decide)) f217 (by simp) rfl (lenOf opd1 rfl) rfl (Nat.le_of_eq rfl) (by decide) (by decide) rfl fun v213 so214 T209 h211 W210 kp212 sp215 q216 => ?_
  obtain ⟨rfl, rfl⟩ := q216
  show Go K _ T209 19 #[.val (.ref a), .val (.int (2 : Int32))] [(.int ([c0, c1, c2].getD 2 0))]
  show Go K _ T209 19 #[.val (.ref a), .val (.int (2 : Int32))] [(.int c2)]
  refine wStatic (y := (⟨"com/example/lawful_crawler/lawfulcrawler/robots/ProductToken", "isTokenChar", "(C)Z"⟩ : MethodName)) (Wd := 0) (argsL := [(.int c2)]) (rest := []) W210 d11_19 (ow93 hw) (ow94 hw) (ow37 hw) (ow95 hw) (by decide) (Cb.ct (orm_isTok l Z a0 hw hE (c2) h211 W210.old tc2 ) (ow95 hw) (ow37 hw) hE (by decide) (by decide)) (by simp) rfl (lenOf opd2 rfl) rfl (Nat.le_of_eq rfl) (by decide) (by decide) rfl fun v222 so223 T218 h220 W219 kp221 sp224 q225 => ?_
  obtain ⟨rfl, rfl⟩ := q225
  show Go K _ T218 22 #[.val (.ref a), .val (.int (2 : Int32))] [(.int (1 : Int32))]
  refine gIfNo W219 d11_22 ((if0 _ _).trans (feq (by decide)).1) rfl ?_
  refine gIinc (z := (3 : Int32)) (ls' := #[.val (.ref a), .val (.int (3 : Int32))]) W219 d11_25 rfl (by decide) rfl rfl ?_
  refine gGoto (pc' := 2) W219 d11_28 (by decide) rfl ?_
  refine gIloadN W219 d11_2 rfl rfl ?_
  refine gAloadN W219 d11_3 rfl rfl rfl ?_
  have f226 := f208.keep kp212 nin0 (a0 := a0) alln
  have f227 := f226.keep kp221 nin0 (a0 := a0) alln
  have f236 := f217.keep kp212
  have f237 := f236.keep kp221
  refine wFace (xi := (⟨"java/lang/CharSequence", "length", "()I"⟩ : MethodName)) (y := (⟨"java/lang/String", "length", "()I"⟩ : MethodName)) (Wd := 1) (a := a) (argsL := []) (rest := [(.int (3 : Int32))]) W219 d11_4 (ow54 hw) (ow55 hw) (ow56 hw) (ow57 hw) (ow58 hw) (ow59 hw) (ow60 hw) (ow61 hw) (by decide) (lenPay hw hE a [c0, c1, c2] 1 f227 (SC.ext W219.old.2) hz (by decide) (by decide)) f237 (by simp) rfl (lenOf opd0 rfl) rfl (Nat.le_of_eq rfl) (by decide) (by decide) rfl fun v232 so233 T228 h230 W229 kp231 sp234 q235 => ?_
  obtain ⟨rfl, rfl⟩ := q235
  show Go K _ T228 9 #[.val (.ref a), .val (.int (3 : Int32))] [(.int (Int32.ofNat [c0, c1, c2].length)), (.int (3 : Int32))]
  show Go K _ T228 9 #[.val (.ref a), .val (.int (3 : Int32))] [(.int (3 : Int32)), (.int (3 : Int32))]
  refine gIcmpYes (pc' := 31) W229 d11_9 (flt (by decide)).2.1 (by decide) rfl ?_
  refine gIloadN W229 d11_31 rfl rfl ?_
  exact wRetI (so := []) (t := .int) W229 d11_32 (by simp) rfl (by decide) (by decide) (fun _ q => nomatch q) ⟨rfl, rfl⟩
theorem opn3 : plainName "java/util/Objects" = true := by first | (simp [plainName, overriddenIn]; done) | decide +kernel
theorem d9_0 : decode jdk_31_method_11_code 0 = .ok (.aload_n 0, 1) := by decide +kernel
theorem d9_1 : decode jdk_31_method_11_code 1 = .ok (.ifnonnull 12, 3) := by decide +kernel
theorem d9_13 : decode jdk_31_method_11_code 13 = .ok (.aload_n 0, 1) := by decide +kernel
theorem d9_14 : decode jdk_31_method_11_code 14 = .ok (.areturn, 1) := by decide +kernel
theorem oef_orm_rnn (m : MethodId) (a : Addr) (b : Addr)  : (entryFrame m #[(.ref a), (.ref b)] 2).locals = #[.val (.ref a), .val (.ref b)] := by first | (simp [entryFrame, argsToLocals, Value.category]; done) | rfl
set_option maxRecDepth 65536 in
set_option maxHeartbeats 40000000 in
theorem orm_rnn (l : Launch) (Z : State) (a0 : Array Value) (hw : ∀ d ∈ tables_1, d.before a0 Z = true) (hE : EW Z a0 ([] : List (String × Nat))) (a : Addr) (b : Addr) (h : Heap) (hO : Old Z Z.heap.size h)   :
    Ct l Z ([] : List (String × Nat)) (⟨"java/util/Objects", "requireNonNull", "(Ljava/lang/Object;Ljava/lang/String;)Ljava/lang/Object;"⟩ : MethodName) jdk_31_method_11_code 2 (Option.some (Jvm.ClassFile.FieldType.object "java/lang/Object")) ⟨0, 0, 0, 0⟩ #[(.ref a), (.ref b)] h [] (fun rv' hp' so' => rv' = some (.ref a) ∧ so' = []) := by
  refine Ct.mk "java/util/Objects" "requireNonNull" rfl rfl (a0 := a0) (plainFor_of_name opn3) hO hE (fun x q => nomatch q) ?_
  intro K T W
  rw [oef_orm_rnn]
  refine gAloadN W d9_0 rfl rfl rfl ?_
  refine gIfnonnullYes (pc' := 13) W d9_1 (by decide) rfl ?_
  refine gAloadN W d9_13 rfl rfl rfl ?_
  exact wRetA (so := []) (t := .object "java/lang/Object") W d9_14 rfl rfl rfl (by decide) (by decide) (fun _ q => nomatch q) ⟨rfl, rfl⟩
theorem d20_0 : decode prog_8_method_1_code 0 = .ok (.aload_n 0, 1) := by decide +kernel
theorem d20_1 : decode prog_8_method_1_code 1 = .ok (.invokespecial 1, 3) := by decide +kernel
theorem ow104 {a0 : Array Value} {Z : State} (hw : ∀ d ∈ tables_1, d.before a0 Z = true) : (Jvm.Cond.methodLink "com/example/lawful_crawler/lawfulcrawler/robots/ProductToken" (1 : Nat) ({ cls := "java/lang/Object", name := "<init>", desc := "()V" } : Jvm.MethodName)).before a0 Z = true := hw _ (List.mem_of_getElem? (i := 104) rfl)
theorem ow17 {a0 : Array Value} {Z : State} (hw : ∀ d ∈ tables_1, d.before a0 Z = true) : (Jvm.Cond.instanceMethod ({ cls := "java/lang/Object", name := "<init>", desc := "()V" } : Jvm.MethodName)).before a0 Z = true := hw _ (List.mem_of_getElem? (i := 17) rfl)
theorem ow18 {a0 : Array Value} {Z : State} (hw : ∀ d ∈ tables_1, d.before a0 Z = true) : (Jvm.Cond.code ({ cls := "java/lang/Object", name := "<init>", desc := "()V" } : Jvm.MethodName) object_method_1_code (1 : Nat) (Option.none : Option Jvm.ClassFile.FieldType)).before a0 Z = true := hw _ (List.mem_of_getElem? (i := 18) rfl)
theorem d20_4 : decode prog_8_method_1_code 4 = .ok (.aload_n 0, 1) := by decide +kernel
theorem d20_5 : decode prog_8_method_1_code 5 = .ok (.aload_n 1, 1) := by decide +kernel
theorem d20_6 : decode prog_8_method_1_code 6 = .ok (.putfield 7, 3) := by decide +kernel
theorem ow106 {a0 : Array Value} {Z : State} (hw : ∀ d ∈ tables_1, d.before a0 Z = true) : (Jvm.Cond.laysFinal "com/example/lawful_crawler/lawfulcrawler/robots/ProductToken" "com/example/lawful_crawler/lawfulcrawler/robots/ProductToken" "name" "Ljava/lang/String;").before a0 Z = true := hw _ (List.mem_of_getElem? (i := 106) rfl)
theorem ow105 {a0 : Array Value} {Z : State} (hw : ∀ d ∈ tables_1, d.before a0 Z = true) : (Jvm.Cond.fieldLink "com/example/lawful_crawler/lawfulcrawler/robots/ProductToken" (7 : Nat) "com/example/lawful_crawler/lawfulcrawler/robots/ProductToken" "name" "Ljava/lang/String;").before a0 Z = true := hw _ (List.mem_of_getElem? (i := 105) rfl)
theorem ow100 {a0 : Array Value} {Z : State} (hw : ∀ d ∈ tables_1, d.before a0 Z = true) : (Jvm.Cond.instantiable "com/example/lawful_crawler/lawfulcrawler/robots/ProductToken" (1 : Nat)).before a0 Z = true := hw _ (List.mem_of_getElem? (i := 100) rfl)
theorem d20_9 : decode prog_8_method_1_code 9 = .ok (.return_, 1) := by decide +kernel
theorem oef_orm_ptInit (m : MethodId) (a : Addr) (u : Addr)  : (entryFrame m #[(.ref a), (.ref u)] 2).locals = #[.val (.ref a), .val (.ref u)] := by first | (simp [entryFrame, argsToLocals, Value.category]; done) | rfl
set_option maxRecDepth 65536 in
set_option maxHeartbeats 40000000 in
theorem orm_ptInit (l : Launch) (Z : State) (a0 : Array Value) (hw : ∀ d ∈ tables_1, d.before a0 Z = true) (hE : EW Z a0 ([] : List (String × Nat))) (a : Addr) (u : Addr) (h : Heap) (hO : Old Z Z.heap.size h) (q0 : Exa Z h a "com/example/lawful_crawler/lawfulcrawler/robots/ProductToken") (q1 : Fld Z h a "com/example/lawful_crawler/lawfulcrawler/robots/ProductToken" "name" "Ljava/lang/String;" .null) (ge_a : Z.heap.size ≤ a) :
    Ct l Z ([] : List (String × Nat)) (⟨"com/example/lawful_crawler/lawfulcrawler/robots/ProductToken", "<init>", "(Ljava/lang/String;)V"⟩ : MethodName) prog_8_method_1_code 2 (Option.none : Option Jvm.ClassFile.FieldType) ⟨1, 0, 0, 12⟩ #[(.ref a), (.ref u)] h [a] (fun rv' hp' so' => rv' = none ∧ so' = [] ∧ Exa Z hp' a "com/example/lawful_crawler/lawfulcrawler/robots/ProductToken" ∧ Fld Z hp' a "com/example/lawful_crawler/lawfulcrawler/robots/ProductToken" "name" "Ljava/lang/String;" (.ref u)) := by
  refine Ct.mk "com/example/lawful_crawler/lawfulcrawler/robots/ProductToken" "<init>" rfl rfl (a0 := a0) (plainFor_of_name opn2) hO hE (fun x q => by simp at q; subst q; exact ge_a) ?_
  intro K T W
  rw [oef_orm_ptInit]
  refine gAloadN W d20_0 rfl rfl rfl ?_
  refine wInitO W d20_1 (ow104 hw) (ow17 hw) (ow18 hw) rfl (by decide) 0 (Nat.le_of_eq rfl) (by decide) rfl fun T238 W239 => ?_
  refine gAloadN W239 d20_4 rfl rfl rfl ?_
  refine gAloadN W239 d20_5 rfl rfl rfl ?_
  refine wPutF (ty := .object "java/lang/String") W239 d20_6 (ow105 hw) Via.refl (by simp) q1 q0 (Or.inr ⟨(ow106 hw), rfl, rfl⟩) (ow100 hw) (by decide) rfl rfl rfl fun T240 h242 W241 wr243 => ?_
  have f244 := Fld.same wr243 q1
  have f245 := q0.wr wr243
  exact wRet0 (so := []) W241 d20_9 (by decide) (by decide) (fun _ q => nomatch q) ⟨rfl, rfl, f245, f244⟩
theorem d8_0 : decode prog_8_method_2_code 0 = .ok (.aload_n 0, 1) := by decide +kernel
theorem d8_1 : decode prog_8_method_2_code 1 = .ok (.ldc 13, 2) := by decide +kernel
theorem ow39 {a0 : Array Value} {Z : State} (hw : ∀ d ∈ tables_1, d.before a0 Z = true) : (Jvm.Cond.stringLink "com/example/lawful_crawler/lawfulcrawler/robots/ProductToken" (13 : Nat) "name").before a0 Z = true := hw _ (List.mem_of_getElem? (i := 39) rfl)
theorem d8_3 : decode prog_8_method_2_code 3 = .ok (.invokestatic 14, 3) := by decide +kernel
theorem ow42 {a0 : Array Value} {Z : State} (hw : ∀ d ∈ tables_1, d.before a0 Z = true) : (Jvm.Cond.methodLink "com/example/lawful_crawler/lawfulcrawler/robots/ProductToken" (14 : Nat) ({ cls := "java/util/Objects", name := "requireNonNull", desc := "(Ljava/lang/Object;Ljava/lang/String;)Ljava/lang/Object;" } : Jvm.MethodName)).before a0 Z = true := hw _ (List.mem_of_getElem? (i := 42) rfl)
theorem ow44 {a0 : Array Value} {Z : State} (hw : ∀ d ∈ tables_1, d.before a0 Z = true) : (Jvm.Cond.initialized "java/util/Objects").before a0 Z = true := hw _ (List.mem_of_getElem? (i := 44) rfl)
theorem ow45 {a0 : Array Value} {Z : State} (hw : ∀ d ∈ tables_1, d.before a0 Z = true) : (Jvm.Cond.code ({ cls := "java/util/Objects", name := "requireNonNull", desc := "(Ljava/lang/Object;Ljava/lang/String;)Ljava/lang/Object;" } : Jvm.MethodName) jdk_31_method_11_code (2 : Nat) (Option.some (Jvm.ClassFile.FieldType.object "java/lang/Object"))).before a0 Z = true := hw _ (List.mem_of_getElem? (i := 45) rfl)
theorem opd3 : parseMethodDescriptor "(Ljava/lang/Object;Ljava/lang/String;)Ljava/lang/Object;" = some ⟨[.object "java/lang/Object", .object "java/lang/String"], some (.object "java/lang/Object")⟩ := by decide +kernel
theorem ow43 {a0 : Array Value} {Z : State} (hw : ∀ d ∈ tables_1, d.before a0 Z = true) : (Jvm.Cond.static ({ cls := "java/util/Objects", name := "requireNonNull", desc := "(Ljava/lang/Object;Ljava/lang/String;)Ljava/lang/Object;" } : Jvm.MethodName)).before a0 Z = true := hw _ (List.mem_of_getElem? (i := 43) rfl)
theorem d8_6 : decode prog_8_method_2_code 6 = .ok (.pop, 1) := by decide +kernel
theorem d8_7 : decode prog_8_method_2_code 7 = .ok (.aload_n 0, 1) := by decide +kernel
theorem d8_8 : decode prog_8_method_2_code 8 = .ok (.invokevirtual 20, 3) := by decide +kernel
theorem opd4 : parseMethodDescriptor "()Z" = some ⟨[], some (.boolean)⟩ := by decide +kernel
theorem ow46 {a0 : Array Value} {Z : State} (hw : ∀ d ∈ tables_1, d.before a0 Z = true) : (Jvm.Cond.methodLink "com/example/lawful_crawler/lawfulcrawler/robots/ProductToken" (20 : Nat) ({ cls := "java/lang/String", name := "isEmpty", desc := "()Z" } : Jvm.MethodName)).before a0 Z = true := hw _ (List.mem_of_getElem? (i := 46) rfl)
theorem ow47 {a0 : Array Value} {Z : State} (hw : ∀ d ∈ tables_1, d.before a0 Z = true) : (Jvm.Cond.declares ({ cls := "java/lang/String", name := "isEmpty", desc := "()Z" } : Jvm.MethodName)).before a0 Z = true := hw _ (List.mem_of_getElem? (i := 47) rfl)
theorem ow49 {a0 : Array Value} {Z : State} (hw : ∀ d ∈ tables_1, d.before a0 Z = true) : (Jvm.Cond.selects "java/lang/String" ({ cls := "java/lang/String", name := "isEmpty", desc := "()Z" } : Jvm.MethodName) ({ cls := "java/lang/String", name := "isEmpty", desc := "()Z" } : Jvm.MethodName)).before a0 Z = true := hw _ (List.mem_of_getElem? (i := 49) rfl)
theorem ow48 {a0 : Array Value} {Z : State} (hw : ∀ d ∈ tables_1, d.before a0 Z = true) : (Jvm.Cond.instanceMethod ({ cls := "java/lang/String", name := "isEmpty", desc := "()Z" } : Jvm.MethodName)).before a0 Z = true := hw _ (List.mem_of_getElem? (i := 48) rfl)
theorem d8_11 : decode prog_8_method_2_code 11 = .ok (.ifCond .ne 14, 3) := by decide +kernel
theorem d8_14 : decode prog_8_method_2_code 14 = .ok (.aload_n 0, 1) := by decide +kernel
theorem d8_15 : decode prog_8_method_2_code 15 = .ok (.invokestatic 26, 3) := by decide +kernel
theorem ow51 {a0 : Array Value} {Z : State} (hw : ∀ d ∈ tables_1, d.before a0 Z = true) : (Jvm.Cond.methodLink "com/example/lawful_crawler/lawfulcrawler/robots/ProductToken" (26 : Nat) ({ cls := "com/example/lawful_crawler/lawfulcrawler/robots/ProductToken", name := "leadingLength", desc := "(Ljava/lang/CharSequence;)I" } : Jvm.MethodName)).before a0 Z = true := hw _ (List.mem_of_getElem? (i := 51) rfl)
theorem ow53 {a0 : Array Value} {Z : State} (hw : ∀ d ∈ tables_1, d.before a0 Z = true) : (Jvm.Cond.code ({ cls := "com/example/lawful_crawler/lawfulcrawler/robots/ProductToken", name := "leadingLength", desc := "(Ljava/lang/CharSequence;)I" } : Jvm.MethodName) prog_8_method_4_code (2 : Nat) (Option.some Jvm.ClassFile.FieldType.int)).before a0 Z = true := hw _ (List.mem_of_getElem? (i := 53) rfl)
theorem opd5 : parseMethodDescriptor "(Ljava/lang/CharSequence;)I" = some ⟨[.object "java/lang/CharSequence"], some (.int)⟩ := by decide +kernel
theorem ow52 {a0 : Array Value} {Z : State} (hw : ∀ d ∈ tables_1, d.before a0 Z = true) : (Jvm.Cond.static ({ cls := "com/example/lawful_crawler/lawfulcrawler/robots/ProductToken", name := "leadingLength", desc := "(Ljava/lang/CharSequence;)I" } : Jvm.MethodName)).before a0 Z = true := hw _ (List.mem_of_getElem? (i := 52) rfl)
theorem d8_18 : decode prog_8_method_2_code 18 = .ok (.aload_n 0, 1) := by decide +kernel
theorem d8_19 : decode prog_8_method_2_code 19 = .ok (.invokevirtual 30, 3) := by decide +kernel
theorem ow96 {a0 : Array Value} {Z : State} (hw : ∀ d ∈ tables_1, d.before a0 Z = true) : (Jvm.Cond.methodLink "com/example/lawful_crawler/lawfulcrawler/robots/ProductToken" (30 : Nat) ({ cls := "java/lang/String", name := "length", desc := "()I" } : Jvm.MethodName)).before a0 Z = true := hw _ (List.mem_of_getElem? (i := 96) rfl)
theorem ow97 {a0 : Array Value} {Z : State} (hw : ∀ d ∈ tables_1, d.before a0 Z = true) : (Jvm.Cond.declares ({ cls := "java/lang/String", name := "length", desc := "()I" } : Jvm.MethodName)).before a0 Z = true := hw _ (List.mem_of_getElem? (i := 97) rfl)
theorem ow98 {a0 : Array Value} {Z : State} (hw : ∀ d ∈ tables_1, d.before a0 Z = true) : (Jvm.Cond.selects "java/lang/String" ({ cls := "java/lang/String", name := "length", desc := "()I" } : Jvm.MethodName) ({ cls := "java/lang/String", name := "length", desc := "()I" } : Jvm.MethodName)).before a0 Z = true := hw _ (List.mem_of_getElem? (i := 98) rfl)
theorem d8_22 : decode prog_8_method_2_code 22 = .ok (.if_icmp .eq 17, 3) := by decide +kernel
theorem d8_39 : decode prog_8_method_2_code 39 = .ok (.new 8, 3) := by decide +kernel
theorem ow99 {a0 : Array Value} {Z : State} (hw : ∀ d ∈ tables_1, d.before a0 Z = true) : (Jvm.Cond.classLink "com/example/lawful_crawler/lawfulcrawler/robots/ProductToken" (8 : Nat) "com/example/lawful_crawler/lawfulcrawler/robots/ProductToken").before a0 Z = true := hw _ (List.mem_of_getElem? (i := 99) rfl)
theorem d8_42 : decode prog_8_method_2_code 42 = .ok (.dup, 1) := by decide +kernel
theorem d8_43 : decode prog_8_method_2_code 43 = .ok (.aload_n 0, 1) := by decide +kernel
theorem d8_44 : decode prog_8_method_2_code 44 = .ok (.invokespecial 43, 3) := by decide +kernel
theorem ow101 {a0 : Array Value} {Z : State} (hw : ∀ d ∈ tables_1, d.before a0 Z = true) : (Jvm.Cond.methodLink "com/example/lawful_crawler/lawfulcrawler/robots/ProductToken" (43 : Nat) ({ cls := "com/example/lawful_crawler/lawfulcrawler/robots/ProductToken", name := "<init>", desc := "(Ljava/lang/String;)V" } : Jvm.MethodName)).before a0 Z = true := hw _ (List.mem_of_getElem? (i := 101) rfl)
theorem ow103 {a0 : Array Value} {Z : State} (hw : ∀ d ∈ tables_1, d.before a0 Z = true) : (Jvm.Cond.code ({ cls := "com/example/lawful_crawler/lawfulcrawler/robots/ProductToken", name := "<init>", desc := "(Ljava/lang/String;)V" } : Jvm.MethodName) prog_8_method_1_code (2 : Nat) (Option.none : Option Jvm.ClassFile.FieldType)).before a0 Z = true := hw _ (List.mem_of_getElem? (i := 103) rfl)
theorem opd6 : parseMethodDescriptor "(Ljava/lang/String;)V" = some ⟨[.object "java/lang/String"], none⟩ := by decide +kernel
theorem ow102 {a0 : Array Value} {Z : State} (hw : ∀ d ∈ tables_1, d.before a0 Z = true) : (Jvm.Cond.instanceMethod ({ cls := "com/example/lawful_crawler/lawfulcrawler/robots/ProductToken", name := "<init>", desc := "(Ljava/lang/String;)V" } : Jvm.MethodName)).before a0 Z = true := hw _ (List.mem_of_getElem? (i := 102) rfl)
theorem d8_47 : decode prog_8_method_2_code 47 = .ok (.areturn, 1) := by decide +kernel
theorem oef_orm_of1 (m : MethodId) (a : Addr)  : (entryFrame m #[(.ref a)] 1).locals = #[.val (.ref a)] := by first | (simp [entryFrame, argsToLocals, Value.category]; done) | rfl
set_option maxRecDepth 65536 in
set_option maxHeartbeats 40000000 in
theorem orm_of1 (l : Launch) (Z : State) (a0 : Array Value) (hw : ∀ d ∈ tables_1, d.before a0 Z = true) (hE : EW Z a0 ([] : List (String × Nat))) (a : Addr) (c0 : Int32) (z : Int32) (fm : Value) (h : Heap) (hO : Old Z Z.heap.size h) (SC : (Sta Z Z.heap "java/lang/String" "COMPACT_STRINGS" "Z" (.int z))) (hz : (¬ z = 0)) (SF : (Sta Z Z.heap "jdk/internal/util/Preconditions" "SIOOBE_FORMATTER" "Ljava/util/function/BiFunction;" fm)) (rf : (fm.isRef = true)) (qs : Str Z h a [c0]) (bc0 : (B8 c0)) (tc0 : (Tok c0))  :
    Ct l Z ([] : List (String × Nat)) (⟨"com/example/lawful_crawler/lawfulcrawler/robots/ProductToken", "of", "(Ljava/lang/String;)Lcom/example/lawful_crawler/lawfulcrawler/robots/ProductToken;"⟩ : MethodName) prog_8_method_2_code 1 (Option.some (Jvm.ClassFile.FieldType.object "com/example/lawful_crawler/lawfulcrawler/robots/ProductToken")) ⟨6, 3, 21, 100⟩ #[(.ref a)] h [] (fun rv' hp' so' => ∃ r : Addr, rv' = some (.ref r) ∧ so' = [] ∧ (h.size ≤ r) ∧ Exa Z hp' r "com/example/lawful_crawler/lawfulcrawler/robots/ProductToken" ∧ Fld Z hp' r "com/example/lawful_crawler/lawfulcrawler/robots/ProductToken" "name" "Ljava/lang/String;" (.ref a)) := by
  refine Ct.mk "com/example/lawful_crawler/lawfulcrawler/robots/ProductToken" "of" rfl rfl (a0 := a0) (plainFor_of_name opn2) hO hE (fun x q => nomatch q) ?_
  intro K T W
  rw [oef_orm_of1]
  refine gAloadN W d8_0 rfl rfl rfl ?_
  refine wLdcO (n := 16) W d8_1 (ow39 hw) (owS hw) hE (by decide) (by decide) (by decide) (by decide) rfl fun T246 h248 a249 W247 E250 => ?_
  refine wStatic (y := (⟨"java/util/Objects", "requireNonNull", "(Ljava/lang/Object;Ljava/lang/String;)Ljava/lang/Object;"⟩ : MethodName)) (Wd := 0) (argsL := [(.ref a), (.ref a249)]) (rest := []) W247 d8_3 (ow42 hw) (ow43 hw) (ow44 hw) (ow45 hw) (by decide) (Cb.ct (orm_rnn l Z a0 hw hE (a) (a249) h248 W247.old  ) (ow45 hw) (ow44 hw) hE (by decide) (by decide)) (by simp) rfl (lenOf opd3 rfl) rfl (Nat.le_of_eq rfl) (by decide) (by decide) rfl fun v255 so256 T251 h253 W252 kp254 sp257 q258 => ?_
  obtain ⟨rfl, rfl⟩ := q258
  show Go K _ T251 6 #[.val (.ref a)] [(.ref a)]
  refine gPop W252 d8_6 rfl rfl ?_
  refine gAloadN W252 d8_7 rfl rfl rfl ?_
  have f259 := qs.ext E250
  have f260 := f259.keep kp254 nin0 (a0 := a0) alln
  have f269 := qs.exa.ext E250
  have f270 := f269.keep kp254
  refine wVirtual (y := (⟨"java/lang/String", "isEmpty", "()Z"⟩ : MethodName)) (z := (⟨"java/lang/String", "isEmpty", "()Z"⟩ : MethodName)) (Wd := 0) (a := a) (argsL := []) (rest := []) W252 d8_8 (ow46 hw) (ow47 hw) (ow49 hw) (ow48 hw) (nfS (ow49 hw)) (by decide) (empPay hw hE a [c0] 0 f260 (by decide) (by decide)) f270 (by simp) rfl (lenOf opd4 rfl) rfl (Nat.le_of_eq rfl) (by decide) (by decide) rfl fun v265 so266 T261 h263 W262 kp264 sp267 q268 => ?_
  obtain ⟨rfl, rfl⟩ := q268
  show Go K _ T261 11 #[.val (.ref a)] [(.int (if [c0].length = 0 then 1 else 0))]
  show Go K _ T261 11 #[.val (.ref a)] [(.int (0 : Int32))]
  refine gIfNo W262 d8_11 ((if0 _ _).trans (teq rfl).2) rfl ?_
  refine gAloadN W262 d8_14 rfl rfl rfl ?_
  have f271 := f260.keep kp264 nin0 (a0 := a0) alln
  refine wStatic (y := (⟨"com/example/lawful_crawler/lawfulcrawler/robots/ProductToken", "leadingLength", "(Ljava/lang/CharSequence;)I"⟩ : MethodName)) (Wd := 0) (argsL := [(.ref a)]) (rest := []) W262 d8_15 (ow51 hw) (ow52 hw) (ow37 hw) (ow53 hw) (by decide) (Cb.ct (orm_ll1 l Z a0 hw hE (a) (c0) (z) (fm) h263 W262.old SC hz SF rf f271 bc0 tc0 ) (ow53 hw) (ow37 hw) hE (by decide) (by decide)) (by simp) rfl (lenOf opd5 rfl) rfl (Nat.le_of_eq rfl) (by decide) (by decide) rfl fun v276 so277 T272 h274 W273 kp275 sp278 q279 => ?_
  obtain ⟨rfl, rfl⟩ := q279
  show Go K _ T272 18 #[.val (.ref a)] [(.int (1 : Int32))]
  refine gAloadN W273 d8_18 rfl rfl rfl ?_
  have f280 := f271.keep kp275 nin0 (a0 := a0) alln
  have f289 := f270.keep kp264
  have f290 := f289.keep kp275
  refine wVirtual (y := (⟨"java/lang/String", "length", "()I"⟩ : MethodName)) (z := (⟨"java/lang/String", "length", "()I"⟩ : MethodName)) (Wd := 1) (a := a) (argsL := []) (rest := [(.int (1 : Int32))]) W273 d8_19 (ow96 hw) (ow97 hw) (ow98 hw) (ow58 hw) (nfS (ow98 hw)) (by decide) (lenPay hw hE a [c0] 1 f280 (SC.ext W273.old.2) hz (by decide) (by decide)) f290 (by simp) rfl (lenOf opd0 rfl) rfl (Nat.le_of_eq rfl) (by decide) (by decide) rfl fun v285 so286 T281 h283 W282 kp284 sp287 q288 => ?_
  obtain ⟨rfl, rfl⟩ := q288
  show Go K _ T281 22 #[.val (.ref a)] [(.int (Int32.ofNat [c0].length)), (.int (1 : Int32))]
  show Go K _ T281 22 #[.val (.ref a)] [(.int (1 : Int32)), (.int (1 : Int32))]
  refine gIcmpYes (pc' := 39) W282 d8_22 (teq rfl).1 (by decide) rfl ?_
  refine wNewO W282 d8_39 (ow99 hw) (ow100 hw) (ow37 hw) (by decide) (by decide) rfl fun T291 h293 a294 W292 E295 g296 A297 D298  => ?_
  have f299 : Fld Z h293 a294 "com/example/lawful_crawler/lawfulcrawler/robots/ProductToken" "name" "Ljava/lang/String;" .null := D298 (Or.inr (ow106 hw)) (ty := .object "java/lang/String") (by decide)
  refine gDup W292 d8_42 rfl rfl ?_
  refine gAloadN W292 d8_43 rfl rfl rfl ?_
  refine wSpecial (y := (⟨"com/example/lawful_crawler/lawfulcrawler/robots/ProductToken", "<init>", "(Ljava/lang/String;)V"⟩ : MethodName)) (Wd := 1) (a := a294) (argsL := [(.ref a)]) (rest := [(.ref a294)]) W292 d8_44 rfl (ow101 hw) (ow102 hw) (ow103 hw) (by decide) (Cb.ct (orm_ptInit l Z a0 hw hE (a294) (a) h293 W292.old A297 f299 (Nat.le_trans W282.old.2.1 (Nat.le_of_eq g296.symm))) (ow103 hw) (ow37 hw) hE (by decide) (by decide)) (by simp) rfl (lenOf opd6 rfl) rfl (Nat.le_of_eq rfl) (by decide) (by decide) rfl fun v304 so305 T300 h302 W301 kp303 sp306 q307 => ?_
  obtain ⟨rfl, rfl, f308, f309⟩ := q307
  show Go K _ T300 47 #[.val (.ref a)] [(.ref a294)]
  exact wRetA (so := []) (t := .object "com/example/lawful_crawler/lawfulcrawler/robots/ProductToken") W301 d8_47 rfl rfl rfl (by decide) (by decide) (fun _ q => nomatch q) ⟨a294, rfl, rfl, (Nat.le_trans W282.grow (Nat.le_of_eq g296.symm)), f308, f309⟩
theorem oef_orm_of2 (m : MethodId) (a : Addr)  : (entryFrame m #[(.ref a)] 1).locals = #[.val (.ref a)] := by first | (simp [entryFrame, argsToLocals, Value.category]; done) | rfl
set_option maxRecDepth 65536 in
set_option maxHeartbeats 40000000 in
theorem orm_of2 (l : Launch) (Z : State) (a0 : Array Value) (hw : ∀ d ∈ tables_1, d.before a0 Z = true) (hE : EW Z a0 ([] : List (String × Nat))) (a : Addr) (c0 : Int32) (c1 : Int32) (z : Int32) (fm : Value) (h : Heap) (hO : Old Z Z.heap.size h) (SC : (Sta Z Z.heap "java/lang/String" "COMPACT_STRINGS" "Z" (.int z))) (hz : (¬ z = 0)) (SF : (Sta Z Z.heap "jdk/internal/util/Preconditions" "SIOOBE_FORMATTER" "Ljava/util/function/BiFunction;" fm)) (rf : (fm.isRef = true)) (qs : Str Z h a [c0, c1]) (bc0 : (B8 c0)) (bc1 : (B8 c1)) (tc0 : (Tok c0)) (tc1 : (Tok c1))  :
    Ct l Z ([] : List (String × Nat)) (⟨"com/example/lawful_crawler/lawfulcrawler/robots/ProductToken", "of", "(Ljava/lang/String;)Lcom/example/lawful_crawler/lawfulcrawler/robots/ProductToken;"⟩ : MethodName) prog_8_method_2_code 1 (Option.some (Jvm.ClassFile.FieldType.object "com/example/lawful_crawler/lawfulcrawler/robots/ProductToken")) ⟨6, 3, 21, 100⟩ #[(.ref a)] h [] (fun rv' hp' so' => ∃ r : Addr, rv' = some (.ref r) ∧ so' = [] ∧ (h.size ≤ r) ∧ Exa Z hp' r "com/example/lawful_crawler/lawfulcrawler/robots/ProductToken" ∧ Fld Z hp' r "com/example/lawful_crawler/lawfulcrawler/robots/ProductToken" "name" "Ljava/lang/String;" (.ref a)) := by
  refine Ct.mk "com/example/lawful_crawler/lawfulcrawler/robots/ProductToken" "of" rfl rfl (a0 := a0) (plainFor_of_name opn2) hO hE (fun x q => nomatch q) ?_
  intro K T W
  rw [oef_orm_of2]
  refine gAloadN W d8_0 rfl rfl rfl ?_
  refine wLdcO (n := 16) W d8_1 (ow39 hw) (owS hw) hE (by decide) (by decide) (by decide) (by decide) rfl fun T310 h312 a313 W311 E314 => ?_
  refine wStatic (y := (⟨"java/util/Objects", "requireNonNull", "(Ljava/lang/Object;Ljava/lang/String;)Ljava/lang/Object;"⟩ : MethodName)) (Wd := 0) (argsL := [(.ref a), (.ref a313)]) (rest := []) W311 d8_3 (ow42 hw) (ow43 hw) (ow44 hw) (ow45 hw) (by decide) (Cb.ct (orm_rnn l Z a0 hw hE (a) (a313) h312 W311.old  ) (ow45 hw) (ow44 hw) hE (by decide) (by decide)) (by simp) rfl (lenOf opd3 rfl) rfl (Nat.le_of_eq rfl) (by decide) (by decide) rfl fun v319 so320 T315 h317 W316 kp318 sp321 q322 => ?_
  obtain ⟨rfl, rfl⟩ := q322
  show Go K _ T315 6 #[.val (.ref a)] [(.ref a)]
  refine gPop W316 d8_6 rfl rfl ?_
  refine gAloadN W316 d8_7 rfl rfl rfl ?_
  have f323 := qs.ext E314
  have f324 := f323.keep kp318 nin0 (a0 := a0) alln
  have f333 := qs.exa.ext E314
  have f334 := f333.keep kp318
  refine wVirtual (y := (⟨"java/lang/String", "isEmpty", "()Z"⟩ : MethodName)) (z := (⟨"java/lang/String", "isEmpty", "()Z"⟩ : MethodName)) (Wd := 0) (a := a) (argsL := []) (rest := []) W316 d8_8 (ow46 hw) (ow47 hw) (ow49 hw) (ow48 hw) (nfS (ow49 hw)) (by decide) (empPay hw hE a [c0, c1] 0 f324 (by decide) (by decide)) f334 (by simp) rfl (lenOf opd4 rfl) rfl (Nat.le_of_eq rfl) (by decide) (by decide) rfl fun v329 so330 T325 h327 W326 kp328 sp331 q332 => ?_
  obtain ⟨rfl, rfl⟩ := q332
  show Go K _ T325 11 #[.val (.ref a)] [(.int (if [c0, c1].length = 0 then 1 else 0))]
  show Go K _ T325 11 #[.val (.ref a)] [(.int (0 : Int32))]
  refine gIfNo W326 d8_11 ((if0 _ _).trans (teq rfl).2) rfl ?_
  refine gAloadN W326 d8_14 rfl rfl rfl ?_
  have f335 := f324.keep kp328 nin0 (a0 := a0) alln
  refine wStatic (y := (⟨"com/example/lawful_crawler/lawfulcrawler/robots/ProductToken", "leadingLength", "(Ljava/lang/CharSequence;)I"⟩ : MethodName)) (Wd := 0) (argsL := [(.ref a)]) (rest := []) W326 d8_15 (ow51 hw) (ow52 hw) (ow37 hw) (ow53 hw) (by decide) (Cb.ct (orm_ll2 l Z a0 hw hE (a) (c0) (c1) (z) (fm) h327 W326.old SC hz SF rf f335 bc0 bc1 tc0 tc1 ) (ow53 hw) (ow37 hw) hE (by decide) (by decide)) (by simp) rfl (lenOf opd5 rfl) rfl (Nat.le_of_eq rfl) (by decide) (by decide) rfl fun v340 so341 T336 h338 W337 kp339 sp342 q343 => ?_
  obtain ⟨rfl, rfl⟩ := q343
  show Go K _ T336 18 #[.val (.ref a)] [(.int (2 : Int32))]
  refine gAloadN W337 d8_18 rfl rfl rfl ?_
  have f344 := f335.keep kp339 nin0 (a0 := a0) alln
  have f353 := f334.keep kp328
  have f354 := f353.keep kp339
  refine wVirtual (y := (⟨"java/lang/String", "length", "()I"⟩ : MethodName)) (z := (⟨"java/lang/String", "length", "()I"⟩ : MethodName)) (Wd := 1) (a := a) (argsL := []) (rest := [(.int (2 : Int32))]) W337 d8_19 (ow96 hw) (ow97 hw) (ow98 hw) (ow58 hw) (nfS (ow98 hw)) (by decide) (lenPay hw hE a [c0, c1] 1 f344 (SC.ext W337.old.2) hz (by decide) (by decide)) f354 (by simp) rfl (lenOf opd0 rfl) rfl (Nat.le_of_eq rfl) (by decide) (by decide) rfl fun v349 so350 T345 h347 W346 kp348 sp351 q352 => ?_
  obtain ⟨rfl, rfl⟩ := q352
  show Go K _ T345 22 #[.val (.ref a)] [(.int (Int32.ofNat [c0, c1].length)), (.int (2 : Int32))]
  show Go K _ T345 22 #[.val (.ref a)] [(.int (2 : Int32)), (.int (2 : Int32))]
  refine gIcmpYes (pc' := 39) W346 d8_22 (teq rfl).1 (by decide) rfl ?_
  refine wNewO W346 d8_39 (ow99 hw) (ow100 hw) (ow37 hw) (by decide) (by decide) rfl fun T355 h357 a358 W356 E359 g360 A361 D362  => ?_
  have f363 : Fld Z h357 a358 "com/example/lawful_crawler/lawfulcrawler/robots/ProductToken" "name" "Ljava/lang/String;" .null := D362 (Or.inr (ow106 hw)) (ty := .object "java/lang/String") (by decide)
  refine gDup W356 d8_42 rfl rfl ?_
  refine gAloadN W356 d8_43 rfl rfl rfl ?_
  refine wSpecial (y := (⟨"com/example/lawful_crawler/lawfulcrawler/robots/ProductToken", "<init>", "(Ljava/lang/String;)V"⟩ : MethodName)) (Wd := 1) (a := a358) (argsL := [(.ref a)]) (rest := [(.ref a358)]) W356 d8_44 rfl (ow101 hw) (ow102 hw) (ow103 hw) (by decide) (Cb.ct (orm_ptInit l Z a0 hw hE (a358) (a) h357 W356.old A361 f363 (Nat.le_trans W346.old.2.1 (Nat.le_of_eq g360.symm))) (ow103 hw) (ow37 hw) hE (by decide) (by decide)) (by simp) rfl (lenOf opd6 rfl) rfl (Nat.le_of_eq rfl) (by decide) (by decide) rfl fun v368 so369 T364 h366 W365 kp367 sp370 q371 => ?_
  obtain ⟨rfl, rfl, f372, f373⟩ := q371
  show Go K _ T364 47 #[.val (.ref a)] [(.ref a358)]
  exact wRetA (so := []) (t := .object "com/example/lawful_crawler/lawfulcrawler/robots/ProductToken") W365 d8_47 rfl rfl rfl (by decide) (by decide) (fun _ q => nomatch q) ⟨a358, rfl, rfl, (Nat.le_trans W346.grow (Nat.le_of_eq g360.symm)), f372, f373⟩
theorem oef_orm_of3 (m : MethodId) (a : Addr)  : (entryFrame m #[(.ref a)] 1).locals = #[.val (.ref a)] := by first | (simp [entryFrame, argsToLocals, Value.category]; done) | rfl
set_option maxRecDepth 65536 in
set_option maxHeartbeats 40000000 in
theorem orm_of3 (l : Launch) (Z : State) (a0 : Array Value) (hw : ∀ d ∈ tables_1, d.before a0 Z = true) (hE : EW Z a0 ([] : List (String × Nat))) (a : Addr) (c0 : Int32) (c1 : Int32) (c2 : Int32) (z : Int32) (fm : Value) (h : Heap) (hO : Old Z Z.heap.size h) (SC : (Sta Z Z.heap "java/lang/String" "COMPACT_STRINGS" "Z" (.int z))) (hz : (¬ z = 0)) (SF : (Sta Z Z.heap "jdk/internal/util/Preconditions" "SIOOBE_FORMATTER" "Ljava/util/function/BiFunction;" fm)) (rf : (fm.isRef = true)) (qs : Str Z h a [c0, c1, c2]) (bc0 : (B8 c0)) (bc1 : (B8 c1)) (bc2 : (B8 c2)) (tc0 : (Tok c0)) (tc1 : (Tok c1)) (tc2 : (Tok c2))  :
    Ct l Z ([] : List (String × Nat)) (⟨"com/example/lawful_crawler/lawfulcrawler/robots/ProductToken", "of", "(Ljava/lang/String;)Lcom/example/lawful_crawler/lawfulcrawler/robots/ProductToken;"⟩ : MethodName) prog_8_method_2_code 1 (Option.some (Jvm.ClassFile.FieldType.object "com/example/lawful_crawler/lawfulcrawler/robots/ProductToken")) ⟨6, 3, 21, 100⟩ #[(.ref a)] h [] (fun rv' hp' so' => ∃ r : Addr, rv' = some (.ref r) ∧ so' = [] ∧ (h.size ≤ r) ∧ Exa Z hp' r "com/example/lawful_crawler/lawfulcrawler/robots/ProductToken" ∧ Fld Z hp' r "com/example/lawful_crawler/lawfulcrawler/robots/ProductToken" "name" "Ljava/lang/String;" (.ref a)) := by
  refine Ct.mk "com/example/lawful_crawler/lawfulcrawler/robots/ProductToken" "of" rfl rfl (a0 := a0) (plainFor_of_name opn2) hO hE (fun x q => nomatch q) ?_
  intro K T W
  rw [oef_orm_of3]
  refine gAloadN W d8_0 rfl rfl rfl ?_
  refine wLdcO (n := 16) W d8_1 (ow39 hw) (owS hw) hE (by decide) (by decide) (by decide) (by decide) rfl fun T374 h376 a377 W375 E378 => ?_
  refine wStatic (y := (⟨"java/util/Objects", "requireNonNull", "(Ljava/lang/Object;Ljava/lang/String;)Ljava/lang/Object;"⟩ : MethodName)) (Wd := 0) (argsL := [(.ref a), (.ref a377)]) (rest := []) W375 d8_3 (ow42 hw) (ow43 hw) (ow44 hw) (ow45 hw) (by decide) (Cb.ct (orm_rnn l Z a0 hw hE (a) (a377) h376 W375.old  ) (ow45 hw) (ow44 hw) hE (by decide) (by decide)) (by simp) rfl (lenOf opd3 rfl) rfl (Nat.le_of_eq rfl) (by decide) (by decide) rfl fun v383 so384 T379 h381 W380 kp382 sp385 q386 => ?_
  obtain ⟨rfl, rfl⟩ := q386
  show Go K _ T379 6 #[.val (.ref a)] [(.ref a)]
  refine gPop W380 d8_6 rfl rfl ?_
  refine gAloadN W380 d8_7 rfl rfl rfl ?_
  have f387 := qs.ext E378
  have f388 := f387.keep kp382 nin0 (a0 := a0) alln
  have f397 := qs.exa.ext E378
  have f398 := f397.keep kp382
  refine wVirtual (y := (⟨"java/lang/String", "isEmpty", "()Z"⟩ : MethodName)) (z := (⟨"java/lang/String", "isEmpty", "()Z"⟩ : MethodName)) (Wd := 0) (a := a) (argsL := []) (rest := []) W380 d8_8 (ow46 hw) (ow47 hw) (ow49 hw) (ow48 hw) (nfS (ow49 hw)) (by decide) (empPay hw hE a [c0, c1, c2] 0 f388 (by decide) (by decide)) f398 (by simp) rfl (lenOf opd4 rfl) rfl (Nat.le_of_eq rfl) (by decide) (by decide) rfl fun v393 so394 T389 h391 W390 kp392 sp395 q396 => ?_
  obtain ⟨rfl, rfl⟩ := q396
  show Go K _ T389 11 #[.val (.ref a)] [(.int (if [c0, c1, c2].length = 0 then 1 else 0))]
  show Go K _ T389 11 #[.val (.ref a)] [(.int (0 : Int32))]
  refine gIfNo W390 d8_11 ((if0 _ _).trans (teq rfl).2) rfl ?_
  refine gAloadN W390 d8_14 rfl rfl rfl ?_
  have f399 := f388.keep kp392 nin0 (a0 := a0) alln
  refine wStatic (y := (⟨"com/example/lawful_crawler/lawfulcrawler/robots/ProductToken", "leadingLength", "(Ljava/lang/CharSequence;)I"⟩ : MethodName)) (Wd := 0) (argsL := [(.ref a)]) (rest := []) W390 d8_15 (ow51 hw) (ow52 hw) (ow37 hw) (ow53 hw) (by decide) (Cb.ct (orm_ll3 l Z a0 hw hE (a) (c0) (c1) (c2) (z) (fm) h391 W390.old SC hz SF rf f399 bc0 bc1 bc2 tc0 tc1 tc2 ) (ow53 hw) (ow37 hw) hE (by decide) (by decide)) (by simp) rfl (lenOf opd5 rfl) rfl (Nat.le_of_eq rfl) (by decide) (by decide) rfl fun v404 so405 T400 h402 W401 kp403 sp406 q407 => ?_
  obtain ⟨rfl, rfl⟩ := q407
  show Go K _ T400 18 #[.val (.ref a)] [(.int (3 : Int32))]
  refine gAloadN W401 d8_18 rfl rfl rfl ?_
  have f408 := f399.keep kp403 nin0 (a0 := a0) alln
  have f417 := f398.keep kp392
  have f418 := f417.keep kp403
  refine wVirtual (y := (⟨"java/lang/String", "length", "()I"⟩ : MethodName)) (z := (⟨"java/lang/String", "length", "()I"⟩ : MethodName)) (Wd := 1) (a := a) (argsL := []) (rest := [(.int (3 : Int32))]) W401 d8_19 (ow96 hw) (ow97 hw) (ow98 hw) (ow58 hw) (nfS (ow98 hw)) (by decide) (lenPay hw hE a [c0, c1, c2] 1 f408 (SC.ext W401.old.2) hz (by decide) (by decide)) f418 (by simp) rfl (lenOf opd0 rfl) rfl (Nat.le_of_eq rfl) (by decide) (by decide) rfl fun v413 so414 T409 h411 W410 kp412 sp415 q416 => ?_
  obtain ⟨rfl, rfl⟩ := q416
  show Go K _ T409 22 #[.val (.ref a)] [(.int (Int32.ofNat [c0, c1, c2].length)), (.int (3 : Int32))]
  show Go K _ T409 22 #[.val (.ref a)] [(.int (3 : Int32)), (.int (3 : Int32))]
  refine gIcmpYes (pc' := 39) W410 d8_22 (teq rfl).1 (by decide) rfl ?_
  refine wNewO W410 d8_39 (ow99 hw) (ow100 hw) (ow37 hw) (by decide) (by decide) rfl fun T419 h421 a422 W420 E423 g424 A425 D426  => ?_
  have f427 : Fld Z h421 a422 "com/example/lawful_crawler/lawfulcrawler/robots/ProductToken" "name" "Ljava/lang/String;" .null := D426 (Or.inr (ow106 hw)) (ty := .object "java/lang/String") (by decide)
  refine gDup W420 d8_42 rfl rfl ?_
  refine gAloadN W420 d8_43 rfl rfl rfl ?_
  refine wSpecial (y := (⟨"com/example/lawful_crawler/lawfulcrawler/robots/ProductToken", "<init>", "(Ljava/lang/String;)V"⟩ : MethodName)) (Wd := 1) (a := a422) (argsL := [(.ref a)]) (rest := [(.ref a422)]) W420 d8_44 rfl (ow101 hw) (ow102 hw) (ow103 hw) (by decide) (Cb.ct (orm_ptInit l Z a0 hw hE (a422) (a) h421 W420.old A425 f427 (Nat.le_trans W410.old.2.1 (Nat.le_of_eq g424.symm))) (ow103 hw) (ow37 hw) hE (by decide) (by decide)) (by simp) rfl (lenOf opd6 rfl) rfl (Nat.le_of_eq rfl) (by decide) (by decide) rfl fun v432 so433 T428 h430 W429 kp431 sp434 q435 => ?_
  obtain ⟨rfl, rfl, f436, f437⟩ := q435
  show Go K _ T428 47 #[.val (.ref a)] [(.ref a422)]
  exact wRetA (so := []) (t := .object "com/example/lawful_crawler/lawfulcrawler/robots/ProductToken") W429 d8_47 rfl rfl rfl (by decide) (by decide) (fun _ q => nomatch q) ⟨a422, rfl, rfl, (Nat.le_trans W410.grow (Nat.le_of_eq g424.symm)), f436, f437⟩
theorem d21_0 : decode prog_8_method_8_code 0 = .ok (.aload_n 0, 1) := by decide +kernel
theorem d21_1 : decode prog_8_method_8_code 1 = .ok (.getfield 7, 3) := by decide +kernel
theorem d21_4 : decode prog_8_method_8_code 4 = .ok (.areturn, 1) := by decide +kernel
theorem oef_orm_ts (m : MethodId) (a : Addr)  : (entryFrame m #[(.ref a)] 1).locals = #[.val (.ref a)] := by first | (simp [entryFrame, argsToLocals, Value.category]; done) | rfl
set_option maxRecDepth 65536 in
set_option maxHeartbeats 40000000 in
theorem orm_ts (l : Launch) (Z : State) (a0 : Array Value) (hw : ∀ d ∈ tables_1, d.before a0 Z = true) (hE : EW Z a0 ([] : List (String × Nat))) (a : Addr) (v : Addr) (h : Heap) (hO : Old Z Z.heap.size h) (q0 : Fld Z h a "com/example/lawful_crawler/lawfulcrawler/robots/ProductToken" "name" "Ljava/lang/String;" (.ref v))  :
    Ct l Z ([] : List (String × Nat)) (⟨"com/example/lawful_crawler/lawfulcrawler/robots/ProductToken", "toString", "()Ljava/lang/String;"⟩ : MethodName) prog_8_method_8_code 1 (Option.some (Jvm.ClassFile.FieldType.object "java/lang/String")) ⟨0, 0, 0, 0⟩ #[(.ref a)] h [] (fun rv' hp' so' => rv' = some (.ref v) ∧ so' = []) := by
  refine Ct.mk "com/example/lawful_crawler/lawfulcrawler/robots/ProductToken" "toString" rfl rfl (a0 := a0) (plainFor_of_name opn2) hO hE (fun x q => nomatch q) ?_
  intro K T W
  rw [oef_orm_ts]
  refine gAloadN W d21_0 rfl rfl rfl ?_
  refine wGetF W d21_1 (ow105 hw) Via.refl q0 rfl fun T438 W439 => ?_
  exact wRetA (so := []) (t := .object "java/lang/String") W439 d21_4 rfl rfl rfl (by decide) (by decide) (fun _ q => nomatch q) ⟨rfl, rfl⟩
theorem ow1 {a0 : Array Value} {Z : State} (hw : ∀ d ∈ tables_1, d.before a0 Z = true) : (Jvm.Cond.arrayClass Jvm.ClassFile.FieldType.char).before a0 Z = true := hw _ (List.mem_of_getElem? (i := 1) rfl)
theorem ow2 {a0 : Array Value} {Z : State} (hw : ∀ d ∈ tables_1, d.before a0 Z = true) : (Jvm.Cond.methodLink "com/example/lawful_crawler/lawfulcrawler/robots/ProductTokenOfPinLaw" (8 : Nat) ({ cls := "com/example/lawful_crawler/lawfulcrawler/robots/ProductTokenOfPinLaw", name := "tokenChar", desc := "(I)C" } : Jvm.MethodName)).before a0 Z = true := hw _ (List.mem_of_getElem? (i := 2) rfl)
theorem ow4 {a0 : Array Value} {Z : State} (hw : ∀ d ∈ tables_1, d.before a0 Z = true) : (Jvm.Cond.initialized "com/example/lawful_crawler/lawfulcrawler/robots/ProductTokenOfPinLaw").before a0 Z = true := hw _ (List.mem_of_getElem? (i := 4) rfl)
theorem ow5 {a0 : Array Value} {Z : State} (hw : ∀ d ∈ tables_1, d.before a0 Z = true) : (Jvm.Cond.code ({ cls := "com/example/lawful_crawler/lawfulcrawler/robots/ProductTokenOfPinLaw", name := "tokenChar", desc := "(I)C" } : Jvm.MethodName) method_3_code (2 : Nat) (Option.some Jvm.ClassFile.FieldType.char)).before a0 Z = true := hw _ (List.mem_of_getElem? (i := 5) rfl)
theorem ow3 {a0 : Array Value} {Z : State} (hw : ∀ d ∈ tables_1, d.before a0 Z = true) : (Jvm.Cond.static ({ cls := "com/example/lawful_crawler/lawfulcrawler/robots/ProductTokenOfPinLaw", name := "tokenChar", desc := "(I)C" } : Jvm.MethodName)).before a0 Z = true := hw _ (List.mem_of_getElem? (i := 3) rfl)
theorem ow6 {a0 : Array Value} {Z : State} (hw : ∀ d ∈ tables_1, d.before a0 Z = true) : (Jvm.Cond.classLink "com/example/lawful_crawler/lawfulcrawler/robots/ProductTokenOfPinLaw" (14 : Nat) "java/lang/String").before a0 Z = true := hw _ (List.mem_of_getElem? (i := 6) rfl)
theorem ow7 {a0 : Array Value} {Z : State} (hw : ∀ d ∈ tables_1, d.before a0 Z = true) : (Jvm.Cond.instantiable "java/lang/String" (4 : Nat)).before a0 Z = true := hw _ (List.mem_of_getElem? (i := 7) rfl)
theorem ow34 {a0 : Array Value} {Z : State} (hw : ∀ d ∈ tables_1, d.before a0 Z = true) : (Jvm.Cond.laysFinal "java/lang/String" "java/lang/String" "value" "[B").before a0 Z = true := hw _ (List.mem_of_getElem? (i := 34) rfl)
theorem ow32 {a0 : Array Value} {Z : State} (hw : ∀ d ∈ tables_1, d.before a0 Z = true) : (Jvm.Cond.laysFinal "java/lang/String" "java/lang/String" "coder" "B").before a0 Z = true := hw _ (List.mem_of_getElem? (i := 32) rfl)
theorem ow9 {a0 : Array Value} {Z : State} (hw : ∀ d ∈ tables_1, d.before a0 Z = true) : (Jvm.Cond.methodLink "com/example/lawful_crawler/lawfulcrawler/robots/ProductTokenOfPinLaw" (16 : Nat) ({ cls := "java/lang/String", name := "<init>", desc := "([C)V" } : Jvm.MethodName)).before a0 Z = true := hw _ (List.mem_of_getElem? (i := 9) rfl)
theorem opd7 : parseMethodDescriptor "([C)V" = some ⟨[.array .char], none⟩ := by decide +kernel
theorem ow10 {a0 : Array Value} {Z : State} (hw : ∀ d ∈ tables_1, d.before a0 Z = true) : (Jvm.Cond.instanceMethod ({ cls := "java/lang/String", name := "<init>", desc := "([C)V" } : Jvm.MethodName)).before a0 Z = true := hw _ (List.mem_of_getElem? (i := 10) rfl)
theorem ow11 {a0 : Array Value} {Z : State} (hw : ∀ d ∈ tables_1, d.before a0 Z = true) : (Jvm.Cond.code ({ cls := "java/lang/String", name := "<init>", desc := "([C)V" } : Jvm.MethodName) jdk_42_method_3_code (2 : Nat) (Option.none : Option Jvm.ClassFile.FieldType)).before a0 Z = true := hw _ (List.mem_of_getElem? (i := 11) rfl)
theorem ow35 {a0 : Array Value} {Z : State} (hw : ∀ d ∈ tables_1, d.before a0 Z = true) : (Jvm.Cond.methodLink "com/example/lawful_crawler/lawfulcrawler/robots/ProductTokenOfPinLaw" (19 : Nat) ({ cls := "com/example/lawful_crawler/lawfulcrawler/robots/ProductToken", name := "of", desc := "(Ljava/lang/String;)Lcom/example/lawful_crawler/lawfulcrawler/robots/ProductToken;" } : Jvm.MethodName)).before a0 Z = true := hw _ (List.mem_of_getElem? (i := 35) rfl)
theorem ow38 {a0 : Array Value} {Z : State} (hw : ∀ d ∈ tables_1, d.before a0 Z = true) : (Jvm.Cond.code ({ cls := "com/example/lawful_crawler/lawfulcrawler/robots/ProductToken", name := "of", desc := "(Ljava/lang/String;)Lcom/example/lawful_crawler/lawfulcrawler/robots/ProductToken;" } : Jvm.MethodName) prog_8_method_2_code (1 : Nat) (Option.some (Jvm.ClassFile.FieldType.object "com/example/lawful_crawler/lawfulcrawler/robots/ProductToken"))).before a0 Z = true := hw _ (List.mem_of_getElem? (i := 38) rfl)
theorem opd8 : parseMethodDescriptor "(Ljava/lang/String;)Lcom/example/lawful_crawler/lawfulcrawler/robots/ProductToken;" = some ⟨[.object "java/lang/String"], some (.object "com/example/lawful_crawler/lawfulcrawler/robots/ProductToken")⟩ := by decide +kernel
theorem ow36 {a0 : Array Value} {Z : State} (hw : ∀ d ∈ tables_1, d.before a0 Z = true) : (Jvm.Cond.static ({ cls := "com/example/lawful_crawler/lawfulcrawler/robots/ProductToken", name := "of", desc := "(Ljava/lang/String;)Lcom/example/lawful_crawler/lawfulcrawler/robots/ProductToken;" } : Jvm.MethodName)).before a0 Z = true := hw _ (List.mem_of_getElem? (i := 36) rfl)
theorem ow111 {a0 : Array Value} {Z : State} (hw : ∀ d ∈ tables_1, d.before a0 Z = true) : (Jvm.Cond.code ({ cls := "com/example/lawful_crawler/lawfulcrawler/robots/ProductToken", name := "toString", desc := "()Ljava/lang/String;" } : Jvm.MethodName) prog_8_method_8_code (1 : Nat) (Option.some (Jvm.ClassFile.FieldType.object "java/lang/String"))).before a0 Z = true := hw _ (List.mem_of_getElem? (i := 111) rfl)
theorem opd9 : parseMethodDescriptor "()Ljava/lang/String;" = some ⟨[], some (.object "java/lang/String")⟩ := by decide +kernel
theorem ow107 {a0 : Array Value} {Z : State} (hw : ∀ d ∈ tables_1, d.before a0 Z = true) : (Jvm.Cond.methodLink "com/example/lawful_crawler/lawfulcrawler/robots/ProductTokenOfPinLaw" (25 : Nat) ({ cls := "com/example/lawful_crawler/lawfulcrawler/robots/ProductToken", name := "toString", desc := "()Ljava/lang/String;" } : Jvm.MethodName)).before a0 Z = true := hw _ (List.mem_of_getElem? (i := 107) rfl)
theorem ow108 {a0 : Array Value} {Z : State} (hw : ∀ d ∈ tables_1, d.before a0 Z = true) : (Jvm.Cond.declares ({ cls := "com/example/lawful_crawler/lawfulcrawler/robots/ProductToken", name := "toString", desc := "()Ljava/lang/String;" } : Jvm.MethodName)).before a0 Z = true := hw _ (List.mem_of_getElem? (i := 108) rfl)
theorem ow110 {a0 : Array Value} {Z : State} (hw : ∀ d ∈ tables_1, d.before a0 Z = true) : (Jvm.Cond.selects "com/example/lawful_crawler/lawfulcrawler/robots/ProductToken" ({ cls := "com/example/lawful_crawler/lawfulcrawler/robots/ProductToken", name := "toString", desc := "()Ljava/lang/String;" } : Jvm.MethodName) ({ cls := "com/example/lawful_crawler/lawfulcrawler/robots/ProductToken", name := "toString", desc := "()Ljava/lang/String;" } : Jvm.MethodName)).before a0 Z = true := hw _ (List.mem_of_getElem? (i := 110) rfl)
theorem ow109 {a0 : Array Value} {Z : State} (hw : ∀ d ∈ tables_1, d.before a0 Z = true) : (Jvm.Cond.instanceMethod ({ cls := "com/example/lawful_crawler/lawfulcrawler/robots/ProductToken", name := "toString", desc := "()Ljava/lang/String;" } : Jvm.MethodName)).before a0 Z = true := hw _ (List.mem_of_getElem? (i := 109) rfl)
theorem ow116 {a0 : Array Value} {Z : State} (hw : ∀ d ∈ tables_1, d.before a0 Z = true) : (Jvm.Cond.code ({ cls := "java/lang/String", name := "equals", desc := "(Ljava/lang/Object;)Z" } : Jvm.MethodName) jdk_42_method_66_code (3 : Nat) (Option.some Jvm.ClassFile.FieldType.boolean)).before a0 Z = true := hw _ (List.mem_of_getElem? (i := 116) rfl)
theorem opd10 : parseMethodDescriptor "(Ljava/lang/Object;)Z" = some ⟨[.object "java/lang/Object"], some (.boolean)⟩ := by decide +kernel
theorem ow112 {a0 : Array Value} {Z : State} (hw : ∀ d ∈ tables_1, d.before a0 Z = true) : (Jvm.Cond.methodLink "com/example/lawful_crawler/lawfulcrawler/robots/ProductTokenOfPinLaw" (29 : Nat) ({ cls := "java/lang/String", name := "equals", desc := "(Ljava/lang/Object;)Z" } : Jvm.MethodName)).before a0 Z = true := hw _ (List.mem_of_getElem? (i := 112) rfl)
theorem ow113 {a0 : Array Value} {Z : State} (hw : ∀ d ∈ tables_1, d.before a0 Z = true) : (Jvm.Cond.declares ({ cls := "java/lang/String", name := "equals", desc := "(Ljava/lang/Object;)Z" } : Jvm.MethodName)).before a0 Z = true := hw _ (List.mem_of_getElem? (i := 113) rfl)
theorem ow115 {a0 : Array Value} {Z : State} (hw : ∀ d ∈ tables_1, d.before a0 Z = true) : (Jvm.Cond.selects "java/lang/String" ({ cls := "java/lang/String", name := "equals", desc := "(Ljava/lang/Object;)Z" } : Jvm.MethodName) ({ cls := "java/lang/String", name := "equals", desc := "(Ljava/lang/Object;)Z" } : Jvm.MethodName)).before a0 Z = true := hw _ (List.mem_of_getElem? (i := 115) rfl)
theorem ow114 {a0 : Array Value} {Z : State} (hw : ∀ d ∈ tables_1, d.before a0 Z = true) : (Jvm.Cond.instanceMethod ({ cls := "java/lang/String", name := "equals", desc := "(Ljava/lang/Object;)Z" } : Jvm.MethodName)).before a0 Z = true := hw _ (List.mem_of_getElem? (i := 114) rfl)
theorem oef_orm_law (m : MethodId) (p0 : Int32) (p1 : Int32) (p2 : Int32) (p3 : Int32)  : (entryFrame m #[(.int p0), (.int p1), (.int p2), (.int p3)] maxLocals).locals = #[.val (.int p0), .val (.int p1), .val (.int p2), .val (.int p3), .unset, .unset, .unset, .unset] := by first | (simp [entryFrame, argsToLocals, Value.category, maxLocals]; done) | rfl
set_option maxRecDepth 65536 in
set_option maxHeartbeats 40000000 in
theorem orm_law (l : Launch) (Z : State) (a0 : Array Value) (hw : ∀ d ∈ tables_1, d.before a0 Z = true) (hE : EW Z a0 ([] : List (String × Nat))) (p0 : Int32) (p1 : Int32) (p2 : Int32) (p3 : Int32) (z : Int32) (fm : Value) (h : Heap) (hO : Old Z Z.heap.size h) (SC : (Sta Z Z.heap "java/lang/String" "COMPACT_STRINGS" "Z" (.int z))) (hz : (¬ z = 0)) (SF : (Sta Z Z.heap "jdk/internal/util/Preconditions" "SIOOBE_FORMATTER" "Ljava/util/function/BiFunction;" fm)) (rf : (fm.isRef = true))  :
    Ct l Z ([] : List (String × Nat)) x code maxLocals ret room_1 #[(.int p0), (.int p1), (.int p2), (.int p3)] h [] (fun rv' hp' so' => rv' = some (.int (1 : Int32)) ∧ so' = []) := by
  refine Ct.mk "com/example/lawful_crawler/lawfulcrawler/robots/ProductTokenOfPinLaw" "law" rfl rfl (a0 := a0) (plainFor_of_name opn1) hO hE (fun x q => nomatch q) ?_
  intro K T W
  rw [oef_orm_law]
  refine gIconst (z := (1 : Int32)) W at_0 rfl rfl ?_
  refine gIloadN W at_1 rfl rfl ?_
  refine wLdcI (v := (2147483647 : Int32)) W at_2 (ow0 hw) rfl ?_
  obtain ⟨v440, e441⟩ : ∃ v : Int32, p0 &&& (2147483647 : Int32) = v := ⟨_, rfl⟩
  refine gIand W at_4 e441 rfl ?_
  refine gIconst (z := (3 : Int32)) W at_5 rfl rfl ?_
  obtain ⟨v442, e443⟩ : ∃ v : Int32, v440 % (3 : Int32) = v := ⟨_, rfl⟩
  refine gIrem W at_6 (by decide) e443 rfl ?_
  have h3 := len3 e441 e443
  clear e443
  rcases h3 with rfl | rfl | rfl
  · refine gIadd (z := (1 : Int32)) W at_7 (by decide) rfl ?_
    refine gIstore (ls' := #[.val (.int p0), .val (.int p1), .val (.int p2), .val (.int p3), .val (.int (1 : Int32)), .unset, .unset, .unset]) W at_8 rfl rfl ?_
    refine gIload W at_10 rfl rfl ?_
    refine wNewP (cap := 1) W at_12 (ow1 hw) (by decide) (by decide) (by decide) (by decide) (by decide) rfl fun T444 h446 a447 k451 W445 E448 g449 A450 => ?_
    have f452 : Arv Z h446 a447 k451 .char (1 : Int32) [(.int (0 : Int32))] (.int 0) := A450 1
    refine gAstore (ls' := #[.val (.int p0), .val (.int p1), .val (.int p2), .val (.int p3), .val (.int (1 : Int32)), .val (.ref a447), .unset, .unset]) W445 at_14 rfl rfl rfl ?_
    refine gAload W445 at_16 rfl rfl rfl ?_
    refine gIconst (z := (0 : Int32)) W445 at_18 rfl rfl ?_
    refine gIloadN W445 at_19 rfl rfl ?_
    refine wStatic (y := (⟨"com/example/lawful_crawler/lawfulcrawler/robots/ProductTokenOfPinLaw", "tokenChar", "(I)C"⟩ : MethodName)) (Wd := 2) (argsL := [(.int p1)]) (rest := [(.int (0 : Int32)), (.ref a447)]) W445 at_20 (ow2 hw) (ow3 hw) (ow4 hw) (ow5 hw) (by decide) (Cb.ct (orm_tok l Z a0 hw hE (p1) h446 W445.old  ) (ow5 hw) (ow4 hw) hE (by decide) (by decide)) (by simp) rfl (lenOf opd1 rfl) rfl (Nat.le_of_eq rfl) (by decide) (by decide) rfl fun v457 so458 T453 h455 W454 kp456 sp459 q460 => ?_
    obtain ⟨u461, rfl, rfl, f462⟩ := q460
    show Go K _ T453 23 #[.val (.int p0), .val (.int p1), .val (.int p2), .val (.int p3), .val (.int (1 : Int32)), .val (.ref a447), .unset, .unset] [(.int u461), (.int (0 : Int32)), (.ref a447)]
    have f463 := f452.keep kp456 nin0
    refine wStC W454 at_23 (by simp) f463 (by decide) f462.1.nar 0 (by decide) (show 0 < 1 from by decide) rfl fun T464 h466 W465 wr467 A468 => ?_
    have f469 : Arv Z h466 a447 k451 .char (1 : Int32) [(.int u461)] (.int 0) := A468
    refine gIload W465 at_24 rfl rfl ?_
    refine gIconst (z := (1 : Int32)) W465 at_26 rfl rfl ?_
    refine gIcmpYes (pc' := 38) W465 at_27 (flt (by decide)).2.2.2 (by decide) rfl ?_
    refine gIload W465 at_38 rfl rfl ?_
    refine gIconst (z := (2 : Int32)) W465 at_40 rfl rfl ?_
    refine gIcmpYes (pc' := 52) W465 at_41 (flt (by decide)).2.2.2 (by decide) rfl ?_
    refine wNewO W465 at_52 (ow6 hw) (ow7 hw) (ow8 hw) (by decide) (by decide) rfl fun T470 h472 a473 W471 E474 g475 A476 D477  => ?_
    have f478 : Fld Z h472 a473 "java/lang/String" "value" "[B" .null := D477 (Or.inr (ow34 hw)) (ty := .array .byte) (by decide)
    have f479 : Fld Z h472 a473 "java/lang/String" "coder" "B" (.int (0 : Int32)) := D477 (Or.inr (ow32 hw)) (ty := .byte) (by decide)
    refine gDup W471 at_55 rfl rfl ?_
    refine gAload W471 at_56 rfl rfl rfl ?_
    have f480 := f469.ext E474
    refine wSpecial (y := (⟨"java/lang/String", "<init>", "([C)V"⟩ : MethodName)) (Wd := 1) (a := a473) (argsL := [(.ref a447)]) (rest := [(.ref a473)]) W471 at_58 rfl (ow9 hw) (ow10 hw) (ow11 hw) (by decide) (strPay hw hE a473 a447 (1 : Int32) [u461] 1 1 A476 f478 f479 f480 (SC.ext W471.old.2) hz rfl (show Int32.toNatClampNeg (1 : Int32) = 1 from by decide) (show 0 < 1 from by decide) (show 1 ≤ 536870912 from by decide) (all1 f462.1.2 alln) (by decide) (by decide)) (by simp) rfl (lenOf opd7 rfl) rfl (Nat.le_of_eq rfl) (by decide) (by decide) rfl fun v485 so486 T481 h483 W482 kp484 sp487 q488 => ?_
    obtain ⟨t489, kb490, rfl, rfl, f491, f492, f493, f494, f495⟩ := q488
    show Go K _ T481 61 #[.val (.int p0), .val (.int p1), .val (.int p2), .val (.int p3), .val (.int (1 : Int32)), .val (.ref a447), .unset, .unset] [(.ref a473)]
    have f496 : Str Z h483 a473 [u461] := Str.mk (cs := [u461]) f492 f493 f494 f495 (show _ = Int32.ofNat 1 from by decide) (all1 f462.1 alln) (show 1 ≤ 4000 from by decide)
    refine gAstore (ls' := #[.val (.int p0), .val (.int p1), .val (.int p2), .val (.int p3), .val (.int (1 : Int32)), .val (.ref a447), .val (.ref a473), .unset]) W482 at_61 rfl rfl rfl ?_
    refine gAload W482 at_63 rfl rfl rfl ?_
    refine wStatic (y := (⟨"com/example/lawful_crawler/lawfulcrawler/robots/ProductToken", "of", "(Ljava/lang/String;)Lcom/example/lawful_crawler/lawfulcrawler/robots/ProductToken;"⟩ : MethodName)) (Wd := 0) (argsL := [(.ref a473)]) (rest := []) W482 at_65 (ow35 hw) (ow36 hw) (ow37 hw) (ow38 hw) (by decide) (Cb.ct (orm_of1 l Z a0 hw hE (a473) (u461) (z) (fm) h483 W482.old SC hz SF rf f496 f462.1 f462.2 ) (ow38 hw) (ow37 hw) hE (by decide) (by decide)) (by simp) rfl (lenOf opd8 rfl) rfl (Nat.le_of_eq rfl) (by decide) (by decide) rfl fun v501 so502 T497 h499 W498 kp500 sp503 q504 => ?_
    obtain ⟨r505, rfl, rfl, f506, f507, f508⟩ := q504
    show Go K _ T497 68 #[.val (.int p0), .val (.int p1), .val (.int p2), .val (.int p3), .val (.int (1 : Int32)), .val (.ref a447), .val (.ref a473), .unset] [(.ref r505)]
    refine gAstore (ls' := #[.val (.int p0), .val (.int p1), .val (.int p2), .val (.int p3), .val (.int (1 : Int32)), .val (.ref a447), .val (.ref a473), .val (.ref r505)]) W498 at_68 rfl rfl rfl ?_
    refine gAload W498 at_70 rfl rfl rfl ?_
    refine gIfnullNo W498 at_72 rfl ?_
    refine gAload W498 at_75 rfl rfl rfl ?_
    refine gAload W498 at_77 rfl rfl rfl ?_
    refine wVirtual (y := (⟨"com/example/lawful_crawler/lawfulcrawler/robots/ProductToken", "toString", "()Ljava/lang/String;"⟩ : MethodName)) (z := (⟨"com/example/lawful_crawler/lawfulcrawler/robots/ProductToken", "toString", "()Ljava/lang/String;"⟩ : MethodName)) (Wd := 1) (a := r505) (argsL := []) (rest := [(.ref a473)]) W498 at_79 (ow107 hw) (ow108 hw) (ow110 hw) (ow109 hw) (nfS (ow110 hw)) (by decide) (Cb.ct (orm_ts l Z a0 hw hE (r505) (a473) h499 W498.old f508 ) (ow111 hw) (ow37 hw) hE (by decide) (by decide)) f507 (by simp) rfl (lenOf opd9 rfl) rfl (Nat.le_of_eq rfl) (by decide) (by decide) rfl fun v513 so514 T509 h511 W510 kp512 sp515 q516 => ?_
    obtain ⟨rfl, rfl⟩ := q516
    show Go K _ T509 82 #[.val (.int p0), .val (.int p1), .val (.int p2), .val (.int p3), .val (.int (1 : Int32)), .val (.ref a447), .val (.ref a473), .val (.ref r505)] [(.ref a473), (.ref a473)]
    have f525 := f492.keep kp500
    have f526 := f525.keep kp512
    refine wVirtual (y := (⟨"java/lang/String", "equals", "(Ljava/lang/Object;)Z"⟩ : MethodName)) (z := (⟨"java/lang/String", "equals", "(Ljava/lang/Object;)Z"⟩ : MethodName)) (Wd := 0) (a := a473) (argsL := [(.ref a473)]) (rest := []) W510 at_82 (ow112 hw) (ow113 hw) (ow115 hw) (ow114 hw) (nfS (ow115 hw)) (by decide) (Cb.ct (orm_eqSame l Z a0 hw hE (a473) h511 W510.old  ) (ow116 hw) (ow8 hw) hE (by decide) (by decide)) f526 (by simp) rfl (lenOf opd10 rfl) rfl (Nat.le_of_eq rfl) (by decide) (by decide) rfl fun v521 so522 T517 h519 W518 kp520 sp523 q524 => ?_
    obtain ⟨rfl, rfl⟩ := q524
    show Go K _ T517 85 #[.val (.int p0), .val (.int p1), .val (.int p2), .val (.int p3), .val (.int (1 : Int32)), .val (.ref a447), .val (.ref a473), .val (.ref r505)] [(.int (1 : Int32))]
    refine gIfNo W518 at_85 ((if0 _ _).trans (feq (by decide)).1) rfl ?_
    refine gIconst (z := (1 : Int32)) W518 at_88 rfl rfl ?_
    refine gGoto (pc' := 93) W518 at_89 (by decide) rfl ?_
    exact wRetI (so := []) (t := .boolean) W518 at_93 (by simp) rfl (by decide) (by decide) (fun _ q => nomatch q) ⟨rfl, rfl⟩
  · refine gIadd (z := (2 : Int32)) W at_7 (by decide) rfl ?_
    refine gIstore (ls' := #[.val (.int p0), .val (.int p1), .val (.int p2), .val (.int p3), .val (.int (2 : Int32)), .unset, .unset, .unset]) W at_8 rfl rfl ?_
    refine gIload W at_10 rfl rfl ?_
    refine wNewP (cap := 2) W at_12 (ow1 hw) (by decide) (by decide) (by decide) (by decide) (by decide) rfl fun T527 h529 a530 k534 W528 E531 g532 A533 => ?_
    have f535 : Arv Z h529 a530 k534 .char (2 : Int32) [(.int (0 : Int32)), (.int (0 : Int32))] (.int 0) := A533 2
    refine gAstore (ls' := #[.val (.int p0), .val (.int p1), .val (.int p2), .val (.int p3), .val (.int (2 : Int32)), .val (.ref a530), .unset, .unset]) W528 at_14 rfl rfl rfl ?_
    refine gAload W528 at_16 rfl rfl rfl ?_
    refine gIconst (z := (0 : Int32)) W528 at_18 rfl rfl ?_
    refine gIloadN W528 at_19 rfl rfl ?_
    refine wStatic (y := (⟨"com/example/lawful_crawler/lawfulcrawler/robots/ProductTokenOfPinLaw", "tokenChar", "(I)C"⟩ : MethodName)) (Wd := 2) (argsL := [(.int p1)]) (rest := [(.int (0 : Int32)), (.ref a530)]) W528 at_20 (ow2 hw) (ow3 hw) (ow4 hw) (ow5 hw) (by decide) (Cb.ct (orm_tok l Z a0 hw hE (p1) h529 W528.old  ) (ow5 hw) (ow4 hw) hE (by decide) (by decide)) (by simp) rfl (lenOf opd1 rfl) rfl (Nat.le_of_eq rfl) (by decide) (by decide) rfl fun v540 so541 T536 h538 W537 kp539 sp542 q543 => ?_
    obtain ⟨u544, rfl, rfl, f545⟩ := q543
    show Go K _ T536 23 #[.val (.int p0), .val (.int p1), .val (.int p2), .val (.int p3), .val (.int (2 : Int32)), .val (.ref a530), .unset, .unset] [(.int u544), (.int (0 : Int32)), (.ref a530)]
    have f546 := f535.keep kp539 nin0
    refine wStC W537 at_23 (by simp) f546 (by decide) f545.1.nar 0 (by decide) (show 0 < 2 from by decide) rfl fun T547 h549 W548 wr550 A551 => ?_
    have f552 : Arv Z h549 a530 k534 .char (2 : Int32) [(.int u544), (.int (0 : Int32))] (.int 0) := A551
    refine gIload W548 at_24 rfl rfl ?_
    refine gIconst (z := (1 : Int32)) W548 at_26 rfl rfl ?_
    refine gIcmpNo W548 at_27 (tlt (by decide)).2.2.2 rfl ?_
    refine gAload W548 at_30 rfl rfl rfl ?_
    refine gIconst (z := (1 : Int32)) W548 at_32 rfl rfl ?_
    refine gIloadN W548 at_33 rfl rfl ?_
    refine wStatic (y := (⟨"com/example/lawful_crawler/lawfulcrawler/robots/ProductTokenOfPinLaw", "tokenChar", "(I)C"⟩ : MethodName)) (Wd := 2) (argsL := [(.int p2)]) (rest := [(.int (1 : Int32)), (.ref a530)]) W548 at_34 (ow2 hw) (ow3 hw) (ow4 hw) (ow5 hw) (by decide) (Cb.ct (orm_tok l Z a0 hw hE (p2) h549 W548.old  ) (ow5 hw) (ow4 hw) hE (by decide) (by decide)) (by simp) rfl (lenOf opd1 rfl) rfl (Nat.le_of_eq rfl) (by decide) (by decide) rfl fun v557 so558 T553 h555 W554 kp556 sp559 q560 => ?_
    obtain ⟨u561, rfl, rfl, f562⟩ := q560
    show Go K _ T553 37 #[.val (.int p0), .val (.int p1), .val (.int p2), .val (.int p3), .val (.int (2 : Int32)), .val (.ref a530), .unset, .unset] [(.int u561), (.int (1 : Int32)), (.ref a530)]
    have f563 := f552.keep kp556 nin0
    refine wStC W554 at_37 (by simp) f563 (by decide) f562.1.nar 1 (by decide) (show 1 < 2 from by decide) rfl fun T564 h566 W565 wr567 A568 => ?_
    have f569 : Arv Z h566 a530 k534 .char (2 : Int32) [(.int u544), (.int u561)] (.int 0) := A568
    refine gIload W565 at_38 rfl rfl ?_
    refine gIconst (z := (2 : Int32)) W565 at_40 rfl rfl ?_
    refine gIcmpYes (pc' := 52) W565 at_41 (flt (by decide)).2.2.2 (by decide) rfl ?_
    refine wNewO W565 at_52 (ow6 hw) (ow7 hw) (ow8 hw) (by decide) (by decide) rfl fun T570 h572 a573 W571 E574 g575 A576 D577  => ?_
    have f578 : Fld Z h572 a573 "java/lang/String" "value" "[B" .null := D577 (Or.inr (ow34 hw)) (ty := .array .byte) (by decide)
    have f579 : Fld Z h572 a573 "java/lang/String" "coder" "B" (.int (0 : Int32)) := D577 (Or.inr (ow32 hw)) (ty := .byte) (by decide)
    refine gDup W571 at_55 rfl rfl ?_
    refine gAload W571 at_56 rfl rfl rfl ?_
    have f580 := f569.ext E574
    refine wSpecial (y := (⟨"java/lang/String", "<init>", "([C)V"⟩ : MethodName)) (Wd := 1) (a := a573) (argsL := [(.ref a530)]) (rest := [(.ref a573)]) W571 at_58 rfl (ow9 hw) (ow10 hw) (ow11 hw) (by decide) (strPay hw hE a573 a530 (2 : Int32) [u544, u561] 2 1 A576 f578 f579 f580 (SC.ext W571.old.2) hz rfl (show Int32.toNatClampNeg (2 : Int32) = 2 from by decide) (show 0 < 2 from by decide) (show 2 ≤ 536870912 from by decide) (all1 f545.1.2 (all1 f562.1.2 alln)) (by decide) (by decide)) (by simp) rfl (lenOf opd7 rfl) rfl (Nat.le_of_eq rfl) (by decide) (by decide) rfl fun v585 so586 T581 h583 W582 kp584 sp587 q588 => ?_
    obtain ⟨t589, kb590, rfl, rfl, f591, f592, f593, f594, f595⟩ := q588
    show Go K _ T581 61 #[.val (.int p0), .val (.int p1), .val (.int p2), .val (.int p3), .val (.int (2 : Int32)), .val (.ref a530), .unset, .unset] [(.ref a573)]
    have f596 : Str Z h583 a573 [u544, u561] := Str.mk (cs := [u544, u561]) f592 f593 f594 f595 (show _ = Int32.ofNat 2 from by decide) (all1 f545.1 (all1 f562.1 alln)) (show 2 ≤ 4000 from by decide)
    refine gAstore (ls' := #[.val (.int p0), .val (.int p1), .val (.int p2), .val (.int p3), .val (.int (2 : Int32)), .val (.ref a530), .val (.ref a573), .unset]) W582 at_61 rfl rfl rfl ?_
    refine gAload W582 at_63 rfl rfl rfl ?_
    refine wStatic (y := (⟨"com/example/lawful_crawler/lawfulcrawler/robots/ProductToken", "of", "(Ljava/lang/String;)Lcom/example/lawful_crawler/lawfulcrawler/robots/ProductToken;"⟩ : MethodName)) (Wd := 0) (argsL := [(.ref a573)]) (rest := []) W582 at_65 (ow35 hw) (ow36 hw) (ow37 hw) (ow38 hw) (by decide) (Cb.ct (orm_of2 l Z a0 hw hE (a573) (u544) (u561) (z) (fm) h583 W582.old SC hz SF rf f596 f545.1 f562.1 f545.2 f562.2 ) (ow38 hw) (ow37 hw) hE (by decide) (by decide)) (by simp) rfl (lenOf opd8 rfl) rfl (Nat.le_of_eq rfl) (by decide) (by decide) rfl fun v601 so602 T597 h599 W598 kp600 sp603 q604 => ?_
    obtain ⟨r605, rfl, rfl, f606, f607, f608⟩ := q604
    show Go K _ T597 68 #[.val (.int p0), .val (.int p1), .val (.int p2), .val (.int p3), .val (.int (2 : Int32)), .val (.ref a530), .val (.ref a573), .unset] [(.ref r605)]
    refine gAstore (ls' := #[.val (.int p0), .val (.int p1), .val (.int p2), .val (.int p3), .val (.int (2 : Int32)), .val (.ref a530), .val (.ref a573), .val (.ref r605)]) W598 at_68 rfl rfl rfl ?_
    refine gAload W598 at_70 rfl rfl rfl ?_
    refine gIfnullNo W598 at_72 rfl ?_
    refine gAload W598 at_75 rfl rfl rfl ?_
    refine gAload W598 at_77 rfl rfl rfl ?_
    refine wVirtual (y := (⟨"com/example/lawful_crawler/lawfulcrawler/robots/ProductToken", "toString", "()Ljava/lang/String;"⟩ : MethodName)) (z := (⟨"com/example/lawful_crawler/lawfulcrawler/robots/ProductToken", "toString", "()Ljava/lang/String;"⟩ : MethodName)) (Wd := 1) (a := r605) (argsL := []) (rest := [(.ref a573)]) W598 at_79 (ow107 hw) (ow108 hw) (ow110 hw) (ow109 hw) (nfS (ow110 hw)) (by decide) (Cb.ct (orm_ts l Z a0 hw hE (r605) (a573) h599 W598.old f608 ) (ow111 hw) (ow37 hw) hE (by decide) (by decide)) f607 (by simp) rfl (lenOf opd9 rfl) rfl (Nat.le_of_eq rfl) (by decide) (by decide) rfl fun v613 so614 T609 h611 W610 kp612 sp615 q616 => ?_
    obtain ⟨rfl, rfl⟩ := q616
    show Go K _ T609 82 #[.val (.int p0), .val (.int p1), .val (.int p2), .val (.int p3), .val (.int (2 : Int32)), .val (.ref a530), .val (.ref a573), .val (.ref r605)] [(.ref a573), (.ref a573)]
    have f625 := f592.keep kp600
    have f626 := f625.keep kp612
    refine wVirtual (y := (⟨"java/lang/String", "equals", "(Ljava/lang/Object;)Z"⟩ : MethodName)) (z := (⟨"java/lang/String", "equals", "(Ljava/lang/Object;)Z"⟩ : MethodName)) (Wd := 0) (a := a573) (argsL := [(.ref a573)]) (rest := []) W610 at_82 (ow112 hw) (ow113 hw) (ow115 hw) (ow114 hw) (nfS (ow115 hw)) (by decide) (Cb.ct (orm_eqSame l Z a0 hw hE (a573) h611 W610.old  ) (ow116 hw) (ow8 hw) hE (by decide) (by decide)) f626 (by simp) rfl (lenOf opd10 rfl) rfl (Nat.le_of_eq rfl) (by decide) (by decide) rfl fun v621 so622 T617 h619 W618 kp620 sp623 q624 => ?_
    obtain ⟨rfl, rfl⟩ := q624
    show Go K _ T617 85 #[.val (.int p0), .val (.int p1), .val (.int p2), .val (.int p3), .val (.int (2 : Int32)), .val (.ref a530), .val (.ref a573), .val (.ref r605)] [(.int (1 : Int32))]
    refine gIfNo W618 at_85 ((if0 _ _).trans (feq (by decide)).1) rfl ?_
    refine gIconst (z := (1 : Int32)) W618 at_88 rfl rfl ?_
    refine gGoto (pc' := 93) W618 at_89 (by decide) rfl ?_
    exact wRetI (so := []) (t := .boolean) W618 at_93 (by simp) rfl (by decide) (by decide) (fun _ q => nomatch q) ⟨rfl, rfl⟩
  · refine gIadd (z := (3 : Int32)) W at_7 (by decide) rfl ?_
    refine gIstore (ls' := #[.val (.int p0), .val (.int p1), .val (.int p2), .val (.int p3), .val (.int (3 : Int32)), .unset, .unset, .unset]) W at_8 rfl rfl ?_
    refine gIload W at_10 rfl rfl ?_
    refine wNewP (cap := 3) W at_12 (ow1 hw) (by decide) (by decide) (by decide) (by decide) (by decide) rfl fun T627 h629 a630 k634 W628 E631 g632 A633 => ?_
    have f635 : Arv Z h629 a630 k634 .char (3 : Int32) [(.int (0 : Int32)), (.int (0 : Int32)), (.int (0 : Int32))] (.int 0) := A633 3
    refine gAstore (ls' := #[.val (.int p0), .val (.int p1), .val (.int p2), .val (.int p3), .val (.int (3 : Int32)), .val (.ref a630), .unset, .unset]) W628 at_14 rfl rfl rfl ?_
    refine gAload W628 at_16 rfl rfl rfl ?_
    refine gIconst (z := (0 : Int32)) W628 at_18 rfl rfl ?_
    refine gIloadN W628 at_19 rfl rfl ?_
    refine wStatic (y := (⟨"com/example/lawful_crawler/lawfulcrawler/robots/ProductTokenOfPinLaw", "tokenChar", "(I)C"⟩ : MethodName)) (Wd := 2) (argsL := [(.int p1)]) (rest := [(.int (0 : Int32)), (.ref a630)]) W628 at_20 (ow2 hw) (ow3 hw) (ow4 hw) (ow5 hw) (by decide) (Cb.ct (orm_tok l Z a0 hw hE (p1) h629 W628.old  ) (ow5 hw) (ow4 hw) hE (by decide) (by decide)) (by simp) rfl (lenOf opd1 rfl) rfl (Nat.le_of_eq rfl) (by decide) (by decide) rfl fun v640 so641 T636 h638 W637 kp639 sp642 q643 => ?_
    obtain ⟨u644, rfl, rfl, f645⟩ := q643
    show Go K _ T636 23 #[.val (.int p0), .val (.int p1), .val (.int p2), .val (.int p3), .val (.int (3 : Int32)), .val (.ref a630), .unset, .unset] [(.int u644), (.int (0 : Int32)), (.ref a630)]
    have f646 := f635.keep kp639 nin0
    refine wStC W637 at_23 (by simp) f646 (by decide) f645.1.nar 0 (by decide) (show 0 < 3 from by decide) rfl fun T647 h649 W648 wr650 A651 => ?_
    have f652 : Arv Z h649 a630 k634 .char (3 : Int32) [(.int u644), (.int (0 : Int32)), (.int (0 : Int32))] (.int 0) := A651
    refine gIload W648 at_24 rfl rfl ?_
    refine gIconst (z := (1 : Int32)) W648 at_26 rfl rfl ?_
    refine gIcmpNo W648 at_27 (tlt (by decide)).2.2.2 rfl ?_
    refine gAload W648 at_30 rfl rfl rfl ?_
    refine gIconst (z := (1 : Int32)) W648 at_32 rfl rfl ?_
    refine gIloadN W648 at_33 rfl rfl ?_
    refine wStatic (y := (⟨"com/example/lawful_crawler/lawfulcrawler/robots/ProductTokenOfPinLaw", "tokenChar", "(I)C"⟩ : MethodName)) (Wd := 2) (argsL := [(.int p2)]) (rest := [(.int (1 : Int32)), (.ref a630)]) W648 at_34 (ow2 hw) (ow3 hw) (ow4 hw) (ow5 hw) (by decide) (Cb.ct (orm_tok l Z a0 hw hE (p2) h649 W648.old  ) (ow5 hw) (ow4 hw) hE (by decide) (by decide)) (by simp) rfl (lenOf opd1 rfl) rfl (Nat.le_of_eq rfl) (by decide) (by decide) rfl fun v657 so658 T653 h655 W654 kp656 sp659 q660 => ?_
    obtain ⟨u661, rfl, rfl, f662⟩ := q660
    show Go K _ T653 37 #[.val (.int p0), .val (.int p1), .val (.int p2), .val (.int p3), .val (.int (3 : Int32)), .val (.ref a630), .unset, .unset] [(.int u661), (.int (1 : Int32)), (.ref a630)]
    have f663 := f652.keep kp656 nin0
    refine wStC W654 at_37 (by simp) f663 (by decide) f662.1.nar 1 (by decide) (show 1 < 3 from by decide) rfl fun T664 h666 W665 wr667 A668 => ?_
    have f669 : Arv Z h666 a630 k634 .char (3 : Int32) [(.int u644), (.int u661), (.int (0 : Int32))] (.int 0) := A668
    refine gIload W665 at_38 rfl rfl ?_
    refine gIconst (z := (2 : Int32)) W665 at_40 rfl rfl ?_
    refine gIcmpNo W665 at_41 (tlt (by decide)).2.2.2 rfl ?_
    refine gAload W665 at_44 rfl rfl rfl ?_
    refine gIconst (z := (2 : Int32)) W665 at_46 rfl rfl ?_
    refine gIloadN W665 at_47 rfl rfl ?_
    refine wStatic (y := (⟨"com/example/lawful_crawler/lawfulcrawler/robots/ProductTokenOfPinLaw", "tokenChar", "(I)C"⟩ : MethodName)) (Wd := 2) (argsL := [(.int p3)]) (rest := [(.int (2 : Int32)), (.ref a630)]) W665 at_48 (ow2 hw) (ow3 hw) (ow4 hw) (ow5 hw) (by decide) (Cb.ct (orm_tok l Z a0 hw hE (p3) h666 W665.old  ) (ow5 hw) (ow4 hw) hE (by decide) (by decide)) (by simp) rfl (lenOf opd1 rfl) rfl (Nat.le_of_eq rfl) (by decide) (by decide) rfl fun v674 so675 T670 h672 W671 kp673 sp676 q677 => ?_
    obtain ⟨u678, rfl, rfl, f679⟩ := q677
    show Go K _ T670 51 #[.val (.int p0), .val (.int p1), .val (.int p2), .val (.int p3), .val (.int (3 : Int32)), .val (.ref a630), .unset, .unset] [(.int u678), (.int (2 : Int32)), (.ref a630)]
    have f680 := f669.keep kp673 nin0
    refine wStC W671 at_51 (by simp) f680 (by decide) f679.1.nar 2 (by decide) (show 2 < 3 from by decide) rfl fun T681 h683 W682 wr684 A685 => ?_
    have f686 : Arv Z h683 a630 k634 .char (3 : Int32) [(.int u644), (.int u661), (.int u678)] (.int 0) := A685
    refine wNewO W682 at_52 (ow6 hw) (ow7 hw) (ow8 hw) (by decide) (by decide) rfl fun T687 h689 a690 W688 E691 g692 A693 D694  => ?_
    have f695 : Fld Z h689 a690 "java/lang/String" "value" "[B" .null := D694 (Or.inr (ow34 hw)) (ty := .array .byte) (by decide)
    have f696 : Fld Z h689 a690 "java/lang/String" "coder" "B" (.int (0 : Int32)) := D694 (Or.inr (ow32 hw)) (ty := .byte) (by decide)
    refine gDup W688 at_55 rfl rfl ?_
    refine gAload W688 at_56 rfl rfl rfl ?_
    have f697 := f686.ext E691
    refine wSpecial (y := (⟨"java/lang/String", "<init>", "([C)V"⟩ : MethodName)) (Wd := 1) (a := a690) (argsL := [(.ref a630)]) (rest := [(.ref a690)]) W688 at_58 rfl (ow9 hw) (ow10 hw) (ow11 hw) (by decide) (strPay hw hE a690 a630 (3 : Int32) [u644, u661, u678] 3 1 A693 f695 f696 f697 (SC.ext W688.old.2) hz rfl (show Int32.toNatClampNeg (3 : Int32) = 3 from by decide) (show 0 < 3 from by decide) (show 3 ≤ 536870912 from by decide) (all1 f645.1.2 (all1 f662.1.2 (all1 f679.1.2 alln))) (by decide) (by decide)) (by simp) rfl (lenOf opd7 rfl) rfl (Nat.le_of_eq rfl) (by decide) (by decide) rfl fun v702 so703 T698 h700 W699 kp701 sp704 q705 => ?_
    obtain ⟨t706, kb707, rfl, rfl, f708, f709, f710, f711, f712⟩ := q705
    show Go K _ T698 61 #[.val (.int p0), .val (.int p1), .val (.int p2), .val (.int p3), .val (.int (3 : Int32)), .val (.ref a630), .unset, .unset] [(.ref a690)]
    have f713 : Str Z h700 a690 [u644, u661, u678] := Str.mk (cs := [u644, u661, u678]) f709 f710 f711 f712 (show _ = Int32.ofNat 3 from by decide) (all1 f645.1 (all1 f662.1 (all1 f679.1 alln))) (show 3 ≤ 4000 from by decide)
    refine gAstore (ls' := #[.val (.int p0), .val (.int p1), .val (.int p2), .val (.int p3), .val (.int (3 : Int32)), .val (.ref a630), .val (.ref a690), .unset]) W699 at_61 rfl rfl rfl ?_
    refine gAload W699 at_63 rfl rfl rfl ?_
    refine wStatic (y := (⟨"com/example/lawful_crawler/lawfulcrawler/robots/ProductToken", "of", "(Ljava/lang/String;)Lcom/example/lawful_crawler/lawfulcrawler/robots/ProductToken;"⟩ : MethodName)) (Wd := 0) (argsL := [(.ref a690)]) (rest := []) W699 at_65 (ow35 hw) (ow36 hw) (ow37 hw) (ow38 hw) (by decide) (Cb.ct (orm_of3 l Z a0 hw hE (a690) (u644) (u661) (u678) (z) (fm) h700 W699.old SC hz SF rf f713 f645.1 f662.1 f679.1 f645.2 f662.2 f679.2 ) (ow38 hw) (ow37 hw) hE (by decide) (by decide)) (by simp) rfl (lenOf opd8 rfl) rfl (Nat.le_of_eq rfl) (by decide) (by decide) rfl fun v718 so719 T714 h716 W715 kp717 sp720 q721 => ?_
    obtain ⟨r722, rfl, rfl, f723, f724, f725⟩ := q721
    show Go K _ T714 68 #[.val (.int p0), .val (.int p1), .val (.int p2), .val (.int p3), .val (.int (3 : Int32)), .val (.ref a630), .val (.ref a690), .unset] [(.ref r722)]
    refine gAstore (ls' := #[.val (.int p0), .val (.int p1), .val (.int p2), .val (.int p3), .val (.int (3 : Int32)), .val (.ref a630), .val (.ref a690), .val (.ref r722)]) W715 at_68 rfl rfl rfl ?_
    refine gAload W715 at_70 rfl rfl rfl ?_
    refine gIfnullNo W715 at_72 rfl ?_
    refine gAload W715 at_75 rfl rfl rfl ?_
    refine gAload W715 at_77 rfl rfl rfl ?_
    refine wVirtual (y := (⟨"com/example/lawful_crawler/lawfulcrawler/robots/ProductToken", "toString", "()Ljava/lang/String;"⟩ : MethodName)) (z := (⟨"com/example/lawful_crawler/lawfulcrawler/robots/ProductToken", "toString", "()Ljava/lang/String;"⟩ : MethodName)) (Wd := 1) (a := r722) (argsL := []) (rest := [(.ref a690)]) W715 at_79 (ow107 hw) (ow108 hw) (ow110 hw) (ow109 hw) (nfS (ow110 hw)) (by decide) (Cb.ct (orm_ts l Z a0 hw hE (r722) (a690) h716 W715.old f725 ) (ow111 hw) (ow37 hw) hE (by decide) (by decide)) f724 (by simp) rfl (lenOf opd9 rfl) rfl (Nat.le_of_eq rfl) (by decide) (by decide) rfl fun v730 so731 T726 h728 W727 kp729 sp732 q733 => ?_
    obtain ⟨rfl, rfl⟩ := q733
    show Go K _ T726 82 #[.val (.int p0), .val (.int p1), .val (.int p2), .val (.int p3), .val (.int (3 : Int32)), .val (.ref a630), .val (.ref a690), .val (.ref r722)] [(.ref a690), (.ref a690)]
    have f742 := f709.keep kp717
    have f743 := f742.keep kp729
    refine wVirtual (y := (⟨"java/lang/String", "equals", "(Ljava/lang/Object;)Z"⟩ : MethodName)) (z := (⟨"java/lang/String", "equals", "(Ljava/lang/Object;)Z"⟩ : MethodName)) (Wd := 0) (a := a690) (argsL := [(.ref a690)]) (rest := []) W727 at_82 (ow112 hw) (ow113 hw) (ow115 hw) (ow114 hw) (nfS (ow115 hw)) (by decide) (Cb.ct (orm_eqSame l Z a0 hw hE (a690) h728 W727.old  ) (ow116 hw) (ow8 hw) hE (by decide) (by decide)) f743 (by simp) rfl (lenOf opd10 rfl) rfl (Nat.le_of_eq rfl) (by decide) (by decide) rfl fun v738 so739 T734 h736 W735 kp737 sp740 q741 => ?_
    obtain ⟨rfl, rfl⟩ := q741
    show Go K _ T734 85 #[.val (.int p0), .val (.int p1), .val (.int p2), .val (.int p3), .val (.int (3 : Int32)), .val (.ref a630), .val (.ref a690), .val (.ref r722)] [(.int (1 : Int32))]
    refine gIfNo W735 at_85 ((if0 _ _).trans (feq (by decide)).1) rfl ?_
    refine gIconst (z := (1 : Int32)) W735 at_88 rfl rfl ?_
    refine gGoto (pc' := 93) W735 at_89 (by decide) rfl ?_
    exact wRetI (so := []) (t := .boolean) W735 at_93 (by simp) rfl (by decide) (by decide) (fun _ q => nomatch q) ⟨rfl, rfl⟩
set_option maxRecDepth 65536 in
set_option maxHeartbeats 40000000 in
theorem comes_1 {Post : Tables → Env → Array Value → State → Outcome → State → Prop} (hpost : ∀ tb e args s v u, (limb_1_1.after args s (.returned v) u = true ∧ limb_1_2.after args s (.returned v) u = true ∧ True) → FramedW s (.returned v) u (Jvm.fieldLocs frame_1_writes args s ++ Jvm.arrayLocs frame_1_arrays args s ++ Jvm.staticLocs frame_1_statics s) 24 1152 → Post tb e args s (.returned v) u) :
    ArmFor flags0 classFile x code maxLocals ret World_1 tables_1 room_1 Calls_1 rest_1 Pre_1 Post := by
  intro l hfl _ _ p e ha hc hk s m args below hf hA hF happ hP
  obtain ⟨hcalls, hrest, hpre⟩ := hP
  obtain ⟨-, -, -, hnamed, -, -, -, hat⟩ := (Spec.applies_iff hf).mp happ
  obtain ⟨hg, hn⟩ := and_e (Cond.before_iff.mp (show (Jvm.Cond.and given_1 narrow_1).before args s = true from hpre))
  obtain ⟨hcount, hg0⟩ := and_e hg
  obtain ⟨hi0, hg1⟩ := and_e hg0
  obtain ⟨hi1, hg2⟩ := and_e hg1
  obtain ⟨hi2, hg3⟩ := and_e hg2
  have hi3 := hg3
  obtain ⟨w0, w1, w2, w3, rfl⟩ : ∃ w0 w1 w2 w3 : Value, args = #[w0, w1, w2, w3] := by
    have hs : args.size = 4 := by simpa [Cond.value, given_1] using hcount
    obtain ⟨L⟩ := args
    match L, hs with
    | [w0, w1, w2, w3], _ => exact ⟨w0, w1, w2, w3, rfl⟩
  have hw := fun d (hd : d ∈ tables_1) => atoms_spec (ws := Jvm.Cond.code x code maxLocals ret :: tables_1) hat d (List.mem_cons_of_mem _ hd)
  obtain ⟨hsets, hown0⟩ := atoms_of _ (rest_1_c_eq ▸ (show rest_1_c.before _ s = true from hrest))
  obtain ⟨i0, ei0⟩ := is_v hi0
  obtain rfl : w0 = (.int i0) := Option.some.inj ei0
  obtain ⟨i1, ei1⟩ := is_v hi1
  obtain rfl : w1 = (.int i1) := Option.some.inj ei1
  obtain ⟨i2, ei2⟩ := is_v hi2
  obtain rfl : w2 = (.int i2) := Option.some.inj ei2
  obtain ⟨i3, ei3⟩ := is_v hi3
  obtain rfl : w3 = (.int i3) := Option.some.inj ei3
  have n5 := not_v (Cond.before_iff.mp (hsets _ (List.mem_of_getElem? (i := 2) rfl)))
  obtain ⟨iz, ez⟩ := is_v (Cond.before_iff.mp (hsets _ (List.mem_of_getElem? (i := 1) rfl)))
  have SC : Sta s s.heap "java/lang/String" "COMPACT_STRINGS" "Z" (.int iz) := Sta.start ez (Or.inl (hsets _ (List.mem_of_getElem? (i := 0) rfl)))
  have hz : ¬ (iz = (0 : Int32)) := gotF (Cond.eq_ints ez (Term.int_eval (0))) n5
  obtain ⟨fm, ef, rf⟩ := isR_v (Cond.before_iff.mp (hsets _ (List.mem_of_getElem? (i := 8) rfl)))
  have SF : Sta s s.heap "jdk/internal/util/Preconditions" "SIOOBE_FORMATTER" "Ljava/util/function/BiFunction;" fm := Sta.start ef (Or.inl (hsets _ (List.mem_of_getElem? (i := 7) rfl)))
  have hE : EW s #[(.int i0), (.int i1), (.int i2), (.int i3)] ([] : List (String × Nat)) := EW.nil
  have hCH : CHv s ([] : List (String × Nat)) s.vm s.heap := fun _ q => nomatch q
  obtain ⟨n, o, h1, h2, h3, v, L, so, rfl, hQ, -, hL, -, hq⟩ := orm_law l s _ hw hE i0 i1 i2 i3 iz fm s.heap (Old.start s) SC hz SF rf tables_1 p e ha hc hk s m _ below hf ((Spec.applies_iff_loose hf).mp happ).1 ⟨rfl, State.Warmed39.refl s, rfl, hCH, fun _ q => nomatch q⟩ trivial
  obtain ⟨rfl, -⟩ := hQ
  refine ⟨n, _, h1, h2, h3, hpost _ _ _ _ _ _ ⟨Cond.after_iff.mpr rfl, Cond.after_iff.mpr (eq_i res_at (Term.int_eval (1)) rfl), trivial⟩ ⟨hq.1, hq.2.1, hq.2.2.1, (hq.2.2.2.sift fun y hy => Or.inr ?_).mono (by decide) (by decide)⟩⟩
  rcases hL y hy with z | z
  · cases z
  · exact z
theorem main_1_1 : Claimed_1_1 := comes_1 fun _ _ _ _ _ _ h hF => ⟨h.1, hF⟩
theorem main_1_2 : Claimed_1_2 := comes_1 fun _ _ _ _ _ _ h hF => ⟨h.2.1, hF⟩
end Jvm.Pilot.@@N@@
namespace Jvm.Pilot.@@N@@
open Jvm Jvm.ClassFile Sem Op Lib Jvm.Free Jvm.Stand Jvm.Pilot.@@N@@.Jvm.D
/-! MADE BY PROGRAM (witnessworld.py) out of the Statement's table words and the real class files: 21 classes; the members and pool entries that the words name. The judged class is class 1, her method 1. -/
namespace start1
open Jvm.ClassFile
def u (s : String) : CpInfo := .utf8 (stringToUtf16 s)
/-- a pool by its gaps: so many unusable entries, then the entry; so many at the end -/
def gap : Nat → List CpInfo → List CpInfo
  | 0, r => r
  | n + 1, r => .unusable :: gap n r
def poolList (es : List (Nat × CpInfo)) (last : Nat) : List CpInfo := es.foldr (fun e r => gap e.1 (e.2 :: r)) (gap last [])
def pool (es : List (Nat × CpInfo)) (last : Nat) : Array CpInfo := ⟨poolList es last⟩
def fileOf (pool : Array CpInfo) (this : Nat) (attrs : Array Attribute := #[]) (ms : Array MethodInfo := #[]) (fl : Nat := 33) (sup : Nat := 0) (ifs : Array Nat := #[]) (fds : Array FieldInfo := #[]) : ClassFile where
  minorVersion := 0
  majorVersion := 65
  constantPool := pool
  accessFlags := fl
  thisClass := this
  superClass := sup
  interfaces := ifs
  fields := fds
  methods := ms
  attributes := attrs
def plain (name : String) (sup : Option ClassId) : Class where
  name := name
  kind := .ordinary
  loader := none
  accessFlags := 33
  super := sup
  interfaces := #[]
  cf := none
  fields := #[]
  methods := #[]
  instanceTypes := #[]
  staticTypes := #[]
  resolved := #[]
  callSites := []
  init := .initialized
  statics := none
  mirror := none

def pool0 : Array CpInfo := pool [(5, u "<init>"), (0, u "()V"), (1, .class_ 10), (1, u "java/lang/Object")] 113

def k0c0 : Code := { maxStack := 0, maxLocals := 1, code := object_method_1_code, exceptionTable := #[], attributes := #[] }
def k0m0 : Method := { name := "<init>", desc := "()V", sig := { parameters := [], returnType := none }, accessFlags := 1, code := some k0c0 }
/-- java/lang/Object -/
def k0 : Class := { plain "java/lang/Object" none with
  accessFlags := 33
  interfaces := #[]
  cf := some (fileOf pool0 8 #[] #[{ accessFlags := 1, nameIndex := 5, descriptorIndex := 6, attributes := #[] }] 33 0 #[] #[])
  fields := #[]
  methods := #[k0m0]
  instanceTypes := #[]
  staticTypes := #[]
  resolved := Array.replicate 124 none
  statics := none }

def pool1 : Array CpInfo := pool [(2, .class_ 4), (1, u "java/lang/Object"), (0, u "<init>"), (0, u "()V"), (0, .integer 2147483647), (0, .methodref 9 10), (0, .class_ 11), (0, .nameAndType 12 13), (0, u "com/example/lawful_crawler/lawfulcrawler/robots/ProductTokenOfPinLaw"), (0, u "tokenChar"), (0, u "(I)C"), (0, .class_ 15), (0, u "java/lang/String"), (0, .methodref 14 17), (0, .nameAndType 5 18), (0, u "([C)V"), (0, .methodref 20 21), (0, .class_ 22), (0, .nameAndType 23 24), (0, u "com/example/lawful_crawler/lawfulcrawler/robots/ProductToken"), (0, u "of"), (0, u "(Ljava/lang/String;)Lcom/example/lawful_crawler/lawfulcrawler/robots/ProductToken;"), (0, .methodref 20 26), (0, .nameAndType 27 28), (0, u "toString"), (0, u "()Ljava/lang/String;"), (0, .methodref 14 30), (0, .nameAndType 31 32), (0, u "equals"), (0, u "(Ljava/lang/Object;)Z"), (2, u "law"), (0, u "(IIII)Z")] 5

def k1m0 : Method := { name := "<init>", desc := "()V", sig := { parameters := [], returnType := none }, accessFlags := 1, code := none }
def k1c1 : Code := { maxStack := 3, maxLocals := 8, code := code, exceptionTable := #[], attributes := #[] }
def k1m1 : Method := { name := "law", desc := "(IIII)Z", sig := { parameters := [.int, .int, .int, .int], returnType := some .boolean }, accessFlags := 9, code := some k1c1 }
def k1c2 : Code := { maxStack := 3, maxLocals := 2, code := method_3_code, exceptionTable := #[], attributes := #[] }
def k1m2 : Method := { name := "tokenChar", desc := "(I)C", sig := { parameters := [.int], returnType := some .char }, accessFlags := 10, code := some k1c2 }
/-- com/example/lawful_crawler/lawfulcrawler/robots/ProductTokenOfPinLaw -/
def k1 : Class := { plain "com/example/lawful_crawler/lawfulcrawler/robots/ProductTokenOfPinLaw" (some 0) with
  accessFlags := 49
  interfaces := #[]
  cf := some (fileOf pool1 9 #[] #[{ accessFlags := 1, nameIndex := 5, descriptorIndex := 6, attributes := #[] }, { accessFlags := 9, nameIndex := 35, descriptorIndex := 36, attributes := #[] }, { accessFlags := 10, nameIndex := 12, descriptorIndex := 13, attributes := #[] }] 49 2 #[] #[])
  fields := #[]
  methods := #[k1m0, k1m1, k1m2]
  instanceTypes := #[]
  staticTypes := #[]
  resolved := Array.replicate 42 none
  statics := none }

def pool2 : Array CpInfo := pool [(1, .class_ 2), (0, u "java/io/Serializable"), (0, .class_ 4), (0, u "java/lang/Object")] 2

/-- java/io/Serializable -/
def k2 : Class := { plain "java/io/Serializable" (some 0) with
  accessFlags := 1537
  interfaces := #[]
  cf := some (fileOf pool2 1 #[] #[] 1537 3 #[] #[])
  fields := #[]
  methods := #[]
  instanceTypes := #[]
  staticTypes := #[]
  resolved := Array.replicate 7 none
  statics := none }

def pool3 : Array CpInfo := pool [(1, .class_ 2), (0, u "java/lang/Comparable"), (0, .class_ 4), (0, u "java/lang/Object")] 7

/-- java/lang/Comparable -/
def k3 : Class := { plain "java/lang/Comparable" (some 0) with
  accessFlags := 1537
  interfaces := #[]
  cf := some (fileOf pool3 1 #[] #[] 1537 3 #[] #[])
  fields := #[]
  methods := #[]
  instanceTypes := #[]
  staticTypes := #[]
  resolved := Array.replicate 12 none
  statics := none }

def pool4 : Array CpInfo := pool [(2, .class_ 4), (1, u "java/lang/CharSequence"), (0, u "length"), (0, u "()I"), (38, u "charAt"), (0, u "(I)C"), (0, .class_ 48), (0, u "java/lang/CharSequence$1CodePointIterator"), (10, .class_ 60), (0, u "java/lang/CharSequence$1CharIterator"), (5, .class_ 67), (0, u "java/lang/Object")] 63

def k4m0 : Method := { name := "length", desc := "()I", sig := { parameters := [], returnType := some .int }, accessFlags := 1025, code := none }
def k4m1 : Method := { name := "charAt", desc := "(I)C", sig := { parameters := [.int], returnType := some .char }, accessFlags := 1025, code := none }
/-- java/lang/CharSequence -/
def k4 : Class := { plain "java/lang/CharSequence" (some 0) with
  accessFlags := 1537
  interfaces := #[]
  cf := some (fileOf pool4 2 #[.nestMembers #[47, 59]] #[{ accessFlags := 1025, nameIndex := 5, descriptorIndex := 6, attributes := #[] }, { accessFlags := 1025, nameIndex := 45, descriptorIndex := 46, attributes := #[] }] 1537 66 #[] #[])
  fields := #[]
  methods := #[k4m0, k4m1]
  instanceTypes := #[]
  staticTypes := #[]
  resolved := Array.replicate 131 none
  statics := none }

def pool5 : Array CpInfo := pool [(1, .class_ 2), (0, u "java/lang/constant/Constable"), (0, .class_ 4), (0, u "java/lang/Object")] 6

/-- java/lang/constant/Constable -/
def k5 : Class := { plain "java/lang/constant/Constable" (some 0) with
  accessFlags := 1537
  interfaces := #[]
  cf := some (fileOf pool5 1 #[] #[] 1537 3 #[] #[])
  fields := #[]
  methods := #[]
  instanceTypes := #[]
  staticTypes := #[]
  resolved := Array.replicate 11 none
  statics := none }

def pool6 : Array CpInfo := pool [(1, .class_ 2), (0, u "java/lang/constant/ConstantDesc"), (0, .class_ 4), (0, u "java/lang/Object")] 32

/-- java/lang/constant/ConstantDesc -/
def k6 : Class := { plain "java/lang/constant/ConstantDesc" (some 0) with
  accessFlags := 1537
  interfaces := #[]
  cf := some (fileOf pool6 1 #[] #[] 1537 3 #[] #[])
  fields := #[]
  methods := #[]
  instanceTypes := #[]
  staticTypes := #[]
  resolved := Array.replicate 37 none
  statics := none }

def pool7 : Array CpInfo := pool [(1, .methodref 2 3), (0, .class_ 4), (0, .nameAndType 5 6), (0, u "java/lang/Object"), (0, u "<init>"), (0, u "()V"), (2, .fieldref 10 11), (0, .class_ 12), (0, .nameAndType 13 14), (0, u "java/lang/String"), (0, u "value"), (0, u "[B"), (0, .fieldref 10 16), (0, .nameAndType 17 18), (0, u "coder"), (0, u "B"), (2, u "hash"), (0, u "I"), (2, u "hashIsZero"), (0, u "Z"), (0, .methodref 10 28), (0, .nameAndType 5 29), (0, u "([CIILjava/lang/Void;)V"), (8, .fieldref 10 39), (0, .nameAndType 40 26), (0, u "COMPACT_STRINGS"), (1, .class_ 44), (1, u "java/lang/StringUTF16"), (0, u "compress"), (1, .methodref 42 48), (0, .nameAndType 49 50), (0, u "coderFromArrayLen"), (0, u "([BI)B"), (56, .class_ 109), (1, u "java/lang/StringLatin1"), (32, u "()Z"), (34, .methodref 42 178), (0, .nameAndType 45 179), (0, u "([CII)[B"), (154, u "()I"), (0, .methodref 10 336), (0, .nameAndType 17 337), (0, u "()B"), (25, u "([BI)C"), (27, u "(II)V"), (35, u "(I)C"), (64, .methodref 10 493), (0, .nameAndType 494 142), (0, u "isLatin1"), (0, .methodref 107 496), (0, .nameAndType 497 363), (0, u "charAt"), (3, u "checkIndex"), (5, u "length"), (35, u "equals"), (29, u "(Ljava/lang/Object;)Z"), (1, .class_ 576), (0, u "java/lang/CharSequence"), (22, u "CASE_INSENSITIVE_ORDER"), (0, u "Ljava/util/Comparator;"), (91, u "isEmpty"), (317, u "([C)V"), (42, .fieldref 1054 1055), (0, .class_ 1056), (0, .nameAndType 1057 1058), (0, u "jdk/internal/util/Preconditions"), (0, u "SIOOBE_FORMATTER"), (0, u "Ljava/util/function/BiFunction;"), (0, .methodref 1054 1060), (0, .nameAndType 501 1061), (0, u "(IILjava/util/function/BiFunction;)I"), (39, u "serialPersistentFields"), (0, u "[Ljava/io/ObjectStreamField;"), (0, .class_ 1104), (0, u "java/lang/String$CaseInsensitiveComparator"), (1, .class_ 1107), (0, u "java/io/Serializable"), (0, .class_ 1109), (0, u "java/lang/Comparable"), (0, .class_ 1111), (0, u "java/lang/constant/Constable"), (0, .class_ 1113), (0, u "java/lang/constant/ConstantDesc"), (2, u "serialVersionUID"), (0, u "J"), (3, u "REPL"), (0, u "C"), (2, u "LATIN1"), (1, u "UTF16")] 323

def k7m0 : Method := { name := "<init>", desc := "()V", sig := { parameters := [], returnType := none }, accessFlags := 1, code := none }
def k7c1 : Code := { maxStack := 5, maxLocals := 2, code := jdk_42_method_3_code, exceptionTable := #[], attributes := #[] }
def k7m1 : Method := { name := "<init>", desc := "([C)V", sig := { parameters := [(.array .char)], returnType := none }, accessFlags := 1, code := some k7c1 }
def k7c2 : Code := { maxStack := 2, maxLocals := 1, code := jdk_42_method_54_code, exceptionTable := #[], attributes := #[] }
def k7m2 : Method := { name := "length", desc := "()I", sig := { parameters := [], returnType := some .int }, accessFlags := 1, code := some k7c2 }
def k7c3 : Code := { maxStack := 1, maxLocals := 1, code := jdk_42_method_55_code, exceptionTable := #[], attributes := #[] }
def k7m3 : Method := { name := "isEmpty", desc := "()Z", sig := { parameters := [], returnType := some .boolean }, accessFlags := 1, code := some k7c3 }
def k7c4 : Code := { maxStack := 2, maxLocals := 2, code := jdk_42_method_56_code, exceptionTable := #[], attributes := #[] }
def k7m4 : Method := { name := "charAt", desc := "(I)C", sig := { parameters := [.int], returnType := some .char }, accessFlags := 1, code := some k7c4 }
def k7c5 : Code := { maxStack := 2, maxLocals := 3, code := jdk_42_method_66_code, exceptionTable := #[], attributes := #[] }
def k7m5 : Method := { name := "equals", desc := "(Ljava/lang/Object;)Z", sig := { parameters := [(.object "java/lang/Object")], returnType := some .boolean }, accessFlags := 1, code := some k7c5 }
def k7c6 : Code := { maxStack := 4, maxLocals := 6, code := jdk_42_method_149_code, exceptionTable := #[], attributes := #[] }
def k7m6 : Method := { name := "<init>", desc := "([CIILjava/lang/Void;)V", sig := { parameters := [(.array .char), .int, .int, (.object "java/lang/Void")], returnType := none }, accessFlags := 2, code := some k7c6 }
def k7c7 : Code := { maxStack := 1, maxLocals := 1, code := jdk_42_method_152_code, exceptionTable := #[], attributes := #[] }
def k7m7 : Method := { name := "coder", desc := "()B", sig := { parameters := [], returnType := some .byte }, accessFlags := 0, code := some k7c7 }
def k7c8 : Code := { maxStack := 1, maxLocals := 1, code := jdk_42_method_154_code, exceptionTable := #[], attributes := #[] }
def k7m8 : Method := { name := "isLatin1", desc := "()Z", sig := { parameters := [], returnType := some .boolean }, accessFlags := 0, code := some k7c8 }
def k7c9 : Code := { maxStack := 3, maxLocals := 2, code := jdk_42_method_155_code, exceptionTable := #[], attributes := #[] }
def k7m9 : Method := { name := "checkIndex", desc := "(II)V", sig := { parameters := [.int, .int], returnType := none }, accessFlags := 8, code := some k7c9 }
/-- java/lang/String -/
def k7 : Class := { plain "java/lang/String" (some 0) with
  accessFlags := 49
  interfaces := #[2, 3, 4, 5, 6]
  cf := some (fileOf pool7 10 #[.nestMembers #[1103]] #[{ accessFlags := 1, nameIndex := 5, descriptorIndex := 6, attributes := #[] }, { accessFlags := 1, nameIndex := 5, descriptorIndex := 1010, attributes := #[] }, { accessFlags := 1, nameIndex := 507, descriptorIndex := 334, attributes := #[] }, { accessFlags := 1, nameIndex := 692, descriptorIndex := 142, attributes := #[] }, { accessFlags := 1, nameIndex := 497, descriptorIndex := 427, attributes := #[] }, { accessFlags := 1, nameIndex := 543, descriptorIndex := 573, attributes := #[] }, { accessFlags := 2, nameIndex := 5, descriptorIndex := 29, attributes := #[] }, { accessFlags := 0, nameIndex := 17, descriptorIndex := 337, attributes := #[] }, { accessFlags := 0, nameIndex := 494, descriptorIndex := 142, attributes := #[] }, { accessFlags := 8, nameIndex := 501, descriptorIndex := 391, attributes := #[] }] 49 2 #[1106, 1108, 575, 1110, 1112] #[{ accessFlags := 18, nameIndex := 13, descriptorIndex := 14, attributes := #[] }, { accessFlags := 18, nameIndex := 17, descriptorIndex := 18, attributes := #[] }, { accessFlags := 2, nameIndex := 21, descriptorIndex := 22, attributes := #[] }, { accessFlags := 2, nameIndex := 25, descriptorIndex := 26, attributes := #[] }, { accessFlags := 26, nameIndex := 1116, descriptorIndex := 1117, attributes := #[] }, { accessFlags := 24, nameIndex := 40, descriptorIndex := 26, attributes := #[] }, { accessFlags := 26, nameIndex := 1101, descriptorIndex := 1102, attributes := #[] }, { accessFlags := 26, nameIndex := 1121, descriptorIndex := 1122, attributes := #[] }, { accessFlags := 25, nameIndex := 599, descriptorIndex := 600, attributes := #[] }, { accessFlags := 24, nameIndex := 1125, descriptorIndex := 18, attributes := #[] }, { accessFlags := 24, nameIndex := 1127, descriptorIndex := 18, attributes := #[] }])
  fields := #[{ name := "value", type := (.array .byte), accessFlags := 18, slot := 0, constantValue := 0 }, { name := "coder", type := .byte, accessFlags := 18, slot := 1, constantValue := 0 }, { name := "hash", type := .int, accessFlags := 2, slot := 2, constantValue := 0 }, { name := "hashIsZero", type := .boolean, accessFlags := 2, slot := 3, constantValue := 0 }, { name := "serialVersionUID", type := .long, accessFlags := 26, slot := 0, constantValue := 0 }, { name := "COMPACT_STRINGS", type := .boolean, accessFlags := 24, slot := 1, constantValue := 0 }, { name := "serialPersistentFields", type := (.array (.object "java/io/ObjectStreamField")), accessFlags := 26, slot := 2, constantValue := 0 }, { name := "REPL", type := .char, accessFlags := 26, slot := 3, constantValue := 0 }, { name := "CASE_INSENSITIVE_ORDER", type := (.object "java/util/Comparator"), accessFlags := 25, slot := 4, constantValue := 0 }, { name := "LATIN1", type := .byte, accessFlags := 24, slot := 5, constantValue := 0 }, { name := "UTF16", type := .byte, accessFlags := 24, slot := 6, constantValue := 0 }]
  methods := #[k7m0, k7m1, k7m2, k7m3, k7m4, k7m5, k7m6, k7m7, k7m8, k7m9]
  instanceTypes := #[(.array .byte), .byte, .int, .boolean]
  staticTypes := #[.long, .boolean, (.array (.object "java/io/ObjectStreamField")), .char, (.object "java/util/Comparator"), .byte, .byte]
  resolved := Array.replicate 1451 none
  statics := some 0 }

def pool8 : Array CpInfo := pool [(6, .class_ 8), (1, u "java/lang/Object"), (0, u "<init>"), (0, u "()V"), (1, .class_ 14), (1, u "java/lang/StringUTF16"), (31, u "$assertionsDisabled"), (0, u "Z"), (13, u "HI_BYTE_SHIFT"), (0, u "I"), (2, u "LO_BYTE_SHIFT"), (49, .methodref 12 116), (0, .nameAndType 117 118), (0, u "compress"), (0, u "([CI[BII)I"), (3, u "([CII)[B"), (138, u "coderFromArrayLen"), (0, u "([BI)B"), (106, .class_ 371), (1, u "java/lang/StringUTF16$LinesSpliterator"), (58, u "MAX_LENGTH"), (196, .class_ 628), (0, u "java/lang/StringUTF16$CodePointsSpliterator"), (0, .class_ 630), (0, u "java/lang/StringUTF16$CharsSpliterator")] 4

def k8m0 : Method := { name := "<init>", desc := "()V", sig := { parameters := [], returnType := none }, accessFlags := 0, code := none }
def k8c1 : Code := { maxStack := 2, maxLocals := 2, code := jdk_52_method_15_code, exceptionTable := #[], attributes := #[] }
def k8m1 : Method := { name := "coderFromArrayLen", desc := "([BI)B", sig := { parameters := [(.array .byte), .int], returnType := some .byte }, accessFlags := 8, code := some k8c1 }
def k8c2 : Code := { maxStack := 5, maxLocals := 6, code := jdk_52_method_16_code, exceptionTable := #[], attributes := #[] }
def k8m2 : Method := { name := "compress", desc := "([CII)[B", sig := { parameters := [(.array .char), .int, .int], returnType := some (.array .byte) }, accessFlags := 9, code := some k8c2 }
def k8c3 : Code := { maxStack := 3, maxLocals := 7, code := jdk_52_method_21_code, exceptionTable := #[], attributes := #[] }
def k8m3 : Method := { name := "compress", desc := "([CI[BII)I", sig := { parameters := [(.array .char), .int, (.array .byte), .int, .int], returnType := some .int }, accessFlags := 9, code := some k8c3 }
/-- java/lang/StringUTF16 -/
def k8 : Class := { plain "java/lang/StringUTF16" (some 0) with
  accessFlags := 48
  interfaces := #[]
  cf := some (fileOf pool8 12 #[.nestMembers #[627, 629, 369]] #[{ accessFlags := 0, nameIndex := 9, descriptorIndex := 10, attributes := #[] }, { accessFlags := 8, nameIndex := 261, descriptorIndex := 262, attributes := #[] }, { accessFlags := 9, nameIndex := 117, descriptorIndex := 122, attributes := #[] }, { accessFlags := 9, nameIndex := 117, descriptorIndex := 118, attributes := #[] }] 48 6 #[] #[{ accessFlags := 26, nameIndex := 61, descriptorIndex := 62, attributes := #[] }, { accessFlags := 26, nameIndex := 65, descriptorIndex := 62, attributes := #[] }, { accessFlags := 24, nameIndex := 430, descriptorIndex := 62, attributes := #[] }, { accessFlags := 4120, nameIndex := 46, descriptorIndex := 47, attributes := #[] }])
  fields := #[{ name := "HI_BYTE_SHIFT", type := .int, accessFlags := 26, slot := 0, constantValue := 0 }, { name := "LO_BYTE_SHIFT", type := .int, accessFlags := 26, slot := 1, constantValue := 0 }, { name := "MAX_LENGTH", type := .int, accessFlags := 24, slot := 2, constantValue := 0 }, { name := "$assertionsDisabled", type := .boolean, accessFlags := 4120, slot := 3, constantValue := 0 }]
  methods := #[k8m0, k8m1, k8m2, k8m3]
  instanceTypes := #[]
  staticTypes := #[.int, .int, .int, .boolean]
  resolved := Array.replicate 635 none
  statics := none }

def pool9 : Array CpInfo := pool [(1, .methodref 2 3), (0, .class_ 4), (0, .nameAndType 5 6), (0, u "java/lang/Object"), (0, u "<init>"), (0, u "()V"), (0, .fieldref 8 9), (0, .class_ 10), (0, .nameAndType 11 12), (0, u "com/example/lawful_crawler/lawfulcrawler/robots/ProductToken"), (0, u "name"), (0, u "Ljava/lang/String;"), (0, .string 11), (0, .methodref 15 16), (0, .class_ 17), (0, .nameAndType 18 19), (0, u "java/util/Objects"), (0, u "requireNonNull"), (0, u "(Ljava/lang/Object;Ljava/lang/String;)Ljava/lang/Object;"), (0, .methodref 21 22), (0, .class_ 23), (0, .nameAndType 24 25), (0, u "java/lang/String"), (0, u "isEmpty"), (0, u "()Z"), (0, .methodref 8 27), (0, .nameAndType 28 29), (0, u "leadingLength"), (0, u "(Ljava/lang/CharSequence;)I"), (0, .methodref 21 31), (0, .nameAndType 32 33), (0, u "length"), (0, u "()I"), (7, .nameAndType 5 42), (0, u "(Ljava/lang/String;)V"), (0, .methodref 8 41), (7, .class_ 53), (1, u "java/lang/CharSequence"), (4, u "toString"), (0, u "()Ljava/lang/String;"), (2, u "of"), (1, .interfaceMethodref 51 31), (0, .interfaceMethodref 51 66), (0, .nameAndType 67 68), (0, u "charAt"), (0, u "(I)C"), (0, .methodref 8 70), (0, .nameAndType 71 72), (0, u "isTokenChar"), (0, u "(C)Z"), (21, u "(Ljava/lang/String;)Lcom/example/lawful_crawler/lawfulcrawler/robots/ProductToken;"), (2, u "DEFAULT"), (0, u "Lcom/example/lawful_crawler/lawfulcrawler/robots/ProductToken;")] 27

def k9c0 : Code := { maxStack := 2, maxLocals := 2, code := prog_8_method_1_code, exceptionTable := #[], attributes := #[] }
def k9m0 : Method := { name := "<init>", desc := "(Ljava/lang/String;)V", sig := { parameters := [(.object "java/lang/String")], returnType := none }, accessFlags := 2, code := some k9c0 }
def k9c1 : Code := { maxStack := 3, maxLocals := 1, code := prog_8_method_2_code, exceptionTable := #[], attributes := #[] }
def k9m1 : Method := { name := "of", desc := "(Ljava/lang/String;)Lcom/example/lawful_crawler/lawfulcrawler/robots/ProductToken;", sig := { parameters := [(.object "java/lang/String")], returnType := some (.object "com/example/lawful_crawler/lawfulcrawler/robots/ProductToken") }, accessFlags := 9, code := some k9c1 }
def k9c2 : Code := { maxStack := 2, maxLocals := 2, code := prog_8_method_4_code, exceptionTable := #[], attributes := #[] }
def k9m2 : Method := { name := "leadingLength", desc := "(Ljava/lang/CharSequence;)I", sig := { parameters := [(.object "java/lang/CharSequence")], returnType := some .int }, accessFlags := 10, code := some k9c2 }
def k9c3 : Code := { maxStack := 2, maxLocals := 1, code := prog_8_method_5_code, exceptionTable := #[], attributes := #[] }
def k9m3 : Method := { name := "isTokenChar", desc := "(C)Z", sig := { parameters := [.char], returnType := some .boolean }, accessFlags := 10, code := some k9c3 }
def k9c4 : Code := { maxStack := 1, maxLocals := 1, code := prog_8_method_8_code, exceptionTable := #[], attributes := #[] }
def k9m4 : Method := { name := "toString", desc := "()Ljava/lang/String;", sig := { parameters := [], returnType := some (.object "java/lang/String") }, accessFlags := 1, code := some k9c4 }
/-- com/example/lawful_crawler/lawfulcrawler/robots/ProductToken -/
def k9 : Class := { plain "com/example/lawful_crawler/lawfulcrawler/robots/ProductToken" (some 0) with
  accessFlags := 49
  interfaces := #[]
  cf := some (fileOf pool9 8 #[] #[{ accessFlags := 2, nameIndex := 5, descriptorIndex := 42, attributes := #[] }, { accessFlags := 9, nameIndex := 62, descriptorIndex := 94, attributes := #[] }, { accessFlags := 10, nameIndex := 28, descriptorIndex := 29, attributes := #[] }, { accessFlags := 10, nameIndex := 71, descriptorIndex := 72, attributes := #[] }, { accessFlags := 1, nameIndex := 58, descriptorIndex := 59, attributes := #[] }] 49 2 #[] #[{ accessFlags := 25, nameIndex := 97, descriptorIndex := 98, attributes := #[] }, { accessFlags := 18, nameIndex := 11, descriptorIndex := 12, attributes := #[] }])
  fields := #[{ name := "DEFAULT", type := (.object "com/example/lawful_crawler/lawfulcrawler/robots/ProductToken"), accessFlags := 25, slot := 0, constantValue := 0 }, { name := "name", type := (.object "java/lang/String"), accessFlags := 18, slot := 0, constantValue := 0 }]
  methods := #[k9m0, k9m1, k9m2, k9m3, k9m4]
  instanceTypes := #[(.object "java/lang/String")]
  staticTypes := #[(.object "com/example/lawful_crawler/lawfulcrawler/robots/ProductToken")]
  resolved := Array.replicate 126 none
  statics := none }

def pool10 : Array CpInfo := pool [(2, .class_ 4), (1, u "java/lang/Object"), (0, u "<init>"), (0, u "()V"), (35, .class_ 44), (1, u "java/util/Objects"), (0, u "requireNonNull"), (48, u "(Ljava/lang/Object;Ljava/lang/String;)Ljava/lang/Object;")] 89

def k10m0 : Method := { name := "<init>", desc := "()V", sig := { parameters := [], returnType := none }, accessFlags := 2, code := none }
def k10c1 : Code := { maxStack := 3, maxLocals := 2, code := jdk_31_method_11_code, exceptionTable := #[], attributes := #[] }
def k10m1 : Method := { name := "requireNonNull", desc := "(Ljava/lang/Object;Ljava/lang/String;)Ljava/lang/Object;", sig := { parameters := [(.object "java/lang/Object"), (.object "java/lang/String")], returnType := some (.object "java/lang/Object") }, accessFlags := 9, code := some k10c1 }
/-- java/util/Objects -/
def k10 : Class := { plain "java/util/Objects" (some 0) with
  accessFlags := 49
  interfaces := #[]
  cf := some (fileOf pool10 42 #[] #[{ accessFlags := 2, nameIndex := 5, descriptorIndex := 6, attributes := #[] }, { accessFlags := 9, nameIndex := 45, descriptorIndex := 94, attributes := #[] }] 49 2 #[] #[])
  fields := #[]
  methods := #[k10m0, k10m1]
  instanceTypes := #[]
  staticTypes := #[]
  resolved := Array.replicate 184 none
  statics := none }

def pool11 : Array CpInfo := pool [(1, .class_ 2), (0, u "java/lang/String"), (1, .class_ 6), (1, u "java/lang/Object"), (0, u "<init>"), (0, u "()V"), (0, .methodref 1 10), (0, .nameAndType 11 12), (0, u "checkIndex"), (0, u "(II)V"), (1, .class_ 16), (1, u "java/lang/StringLatin1"), (36, u "([BI)C"), (67, u "$assertionsDisabled"), (0, u "Z"), (98, .class_ 223), (1, u "java/lang/StringLatin1$LinesSpliterator"), (28, u "charAt"), (137, .class_ 391), (0, u "java/lang/StringLatin1$CharsSpliterator")] 3

def k11m0 : Method := { name := "<init>", desc := "()V", sig := { parameters := [], returnType := none }, accessFlags := 0, code := none }
def k11c1 : Code := { maxStack := 2, maxLocals := 2, code := jdk_43_method_2_code, exceptionTable := #[], attributes := #[] }
def k11m1 : Method := { name := "charAt", desc := "([BI)C", sig := { parameters := [(.array .byte), .int], returnType := some .char }, accessFlags := 9, code := some k11c1 }
/-- java/lang/StringLatin1 -/
def k11 : Class := { plain "java/lang/StringLatin1" (some 0) with
  accessFlags := 48
  interfaces := #[]
  cf := some (fileOf pool11 14 #[.nestMembers #[390, 221]] #[{ accessFlags := 0, nameIndex := 7, descriptorIndex := 8, attributes := #[] }, { accessFlags := 9, nameIndex := 252, descriptorIndex := 53, attributes := #[] }] 48 4 #[] #[{ accessFlags := 4120, nameIndex := 121, descriptorIndex := 122, attributes := #[] }])
  fields := #[{ name := "$assertionsDisabled", type := .boolean, accessFlags := 4120, slot := 0, constantValue := 0 }]
  methods := #[k11m0, k11m1]
  instanceTypes := #[]
  staticTypes := #[.boolean]
  resolved := Array.replicate 395 none
  statics := none }

def pool12 : Array CpInfo := pool [(2, .class_ 4), (1, u "java/lang/Object"), (0, u "<init>"), (0, u "()V"), (17, .class_ 26), (1, u "jdk/internal/util/Preconditions"), (6, u "checkIndex"), (21, .class_ 56), (0, u "jdk/internal/util/Preconditions$4"), (57, .class_ 115), (0, u "jdk/internal/util/Preconditions$1"), (7, u "SIOOBE_FORMATTER"), (0, u "Ljava/util/function/BiFunction;"), (0, .class_ 126), (0, u "jdk/internal/util/Preconditions$2"), (3, u "AIOOBE_FORMATTER"), (0, .class_ 132), (0, u "jdk/internal/util/Preconditions$3"), (3, u "IOOBE_FORMATTER"), (41, u "(IILjava/util/function/BiFunction;)I")] 15

def k12m0 : Method := { name := "<init>", desc := "()V", sig := { parameters := [], returnType := none }, accessFlags := 1, code := none }
def k12c1 : Code := { maxStack := 3, maxLocals := 3, code := jdk_41_method_11_code, exceptionTable := #[], attributes := #[] }
def k12m1 : Method := { name := "checkIndex", desc := "(IILjava/util/function/BiFunction;)I", sig := { parameters := [.int, .int, (.object "java/util/function/BiFunction")], returnType := some .int }, accessFlags := 9, code := some k12c1 }
/-- jdk/internal/util/Preconditions -/
def k12 : Class := { plain "jdk/internal/util/Preconditions" (some 0) with
  accessFlags := 33
  interfaces := #[]
  cf := some (fileOf pool12 24 #[.nestMembers #[55, 131, 125, 114]] #[{ accessFlags := 1, nameIndex := 5, descriptorIndex := 6, attributes := #[] }, { accessFlags := 9, nameIndex := 33, descriptorIndex := 178, attributes := #[] }] 33 2 #[] #[{ accessFlags := 25, nameIndex := 123, descriptorIndex := 124, attributes := #[] }, { accessFlags := 25, nameIndex := 130, descriptorIndex := 124, attributes := #[] }, { accessFlags := 25, nameIndex := 136, descriptorIndex := 124, attributes := #[] }])
  fields := #[{ name := "SIOOBE_FORMATTER", type := (.object "java/util/function/BiFunction"), accessFlags := 25, slot := 0, constantValue := 0 }, { name := "AIOOBE_FORMATTER", type := (.object "java/util/function/BiFunction"), accessFlags := 25, slot := 1, constantValue := 0 }, { name := "IOOBE_FORMATTER", type := (.object "java/util/function/BiFunction"), accessFlags := 25, slot := 2, constantValue := 0 }]
  methods := #[k12m0, k12m1]
  instanceTypes := #[]
  staticTypes := #[(.object "java/util/function/BiFunction"), (.object "java/util/function/BiFunction"), (.object "java/util/function/BiFunction")]
  resolved := Array.replicate 194 none
  statics := some 1 }

def pool13 : Array CpInfo := pool [(9, u "<init>"), (6, .class_ 18), (1, u "java/lang/Object"), (0, u "()V"), (1, .class_ 23), (1, u "jdk/internal/util/ArraysSupport"), (0, u "LOG2_ARRAY_LONG_INDEX_SCALE"), (0, u "I"), (2, u "U"), (0, u "Ljdk/internal/misc/Unsafe;"), (8, u "BIG_ENDIAN"), (0, u "Z"), (8, u "LOG2_BYTE_BIT_SIZE"), (4, u "LOG2_ARRAY_INT_INDEX_SCALE"), (54, u "JLA"), (0, u "Ljdk/internal/access/JavaLangAccess;"), (11, u "LOG2_ARRAY_BOOLEAN_INDEX_SCALE"), (9, u "LOG2_ARRAY_BYTE_INDEX_SCALE"), (5, u "LOG2_ARRAY_CHAR_INDEX_SCALE"), (5, u "LOG2_ARRAY_SHORT_INDEX_SCALE"), (18, u "LOG2_ARRAY_FLOAT_INDEX_SCALE"), (24, u "LOG2_ARRAY_DOUBLE_INDEX_SCALE"), (89, u "T_BOOLEAN"), (2, u "T_CHAR"), (1, u "T_FLOAT"), (1, u "T_DOUBLE"), (1, u "T_BYTE"), (1, u "T_SHORT"), (1, u "T_INT"), (1, u "T_LONG"), (1, u "SOFT_MAX_ARRAY_LENGTH")] 83

def k13m0 : Method := { name := "<init>", desc := "()V", sig := { parameters := [], returnType := none }, accessFlags := 2, code := none }
/-- jdk/internal/util/ArraysSupport -/
def k13 : Class := { plain "jdk/internal/util/ArraysSupport" (some 0) with
  accessFlags := 33
  interfaces := #[]
  cf := some (fileOf pool13 21 #[] #[{ accessFlags := 2, nameIndex := 9, descriptorIndex := 19, attributes := #[] }] 33 16 #[] #[{ accessFlags := 24, nameIndex := 28, descriptorIndex := 29, attributes := #[] }, { accessFlags := 26, nameIndex := 38, descriptorIndex := 39, attributes := #[] }, { accessFlags := 25, nameIndex := 121, descriptorIndex := 25, attributes := #[] }, { accessFlags := 25, nameIndex := 131, descriptorIndex := 25, attributes := #[] }, { accessFlags := 25, nameIndex := 137, descriptorIndex := 25, attributes := #[] }, { accessFlags := 25, nameIndex := 143, descriptorIndex := 25, attributes := #[] }, { accessFlags := 25, nameIndex := 53, descriptorIndex := 25, attributes := #[] }, { accessFlags := 25, nameIndex := 24, descriptorIndex := 25, attributes := #[] }, { accessFlags := 25, nameIndex := 162, descriptorIndex := 25, attributes := #[] }, { accessFlags := 25, nameIndex := 187, descriptorIndex := 25, attributes := #[] }, { accessFlags := 26, nameIndex := 48, descriptorIndex := 25, attributes := #[] }, { accessFlags := 25, nameIndex := 277, descriptorIndex := 25, attributes := #[] }, { accessFlags := 25, nameIndex := 280, descriptorIndex := 25, attributes := #[] }, { accessFlags := 25, nameIndex := 282, descriptorIndex := 25, attributes := #[] }, { accessFlags := 25, nameIndex := 284, descriptorIndex := 25, attributes := #[] }, { accessFlags := 25, nameIndex := 286, descriptorIndex := 25, attributes := #[] }, { accessFlags := 25, nameIndex := 288, descriptorIndex := 25, attributes := #[] }, { accessFlags := 25, nameIndex := 290, descriptorIndex := 25, attributes := #[] }, { accessFlags := 25, nameIndex := 292, descriptorIndex := 25, attributes := #[] }, { accessFlags := 26, nameIndex := 108, descriptorIndex := 109, attributes := #[] }, { accessFlags := 25, nameIndex := 294, descriptorIndex := 25, attributes := #[] }])
  fields := #[{ name := "U", type := (.object "jdk/internal/misc/Unsafe"), accessFlags := 24, slot := 0, constantValue := 0 }, { name := "BIG_ENDIAN", type := .boolean, accessFlags := 26, slot := 1, constantValue := 0 }, { name := "LOG2_ARRAY_BOOLEAN_INDEX_SCALE", type := .int, accessFlags := 25, slot := 2, constantValue := 0 }, { name := "LOG2_ARRAY_BYTE_INDEX_SCALE", type := .int, accessFlags := 25, slot := 3, constantValue := 0 }, { name := "LOG2_ARRAY_CHAR_INDEX_SCALE", type := .int, accessFlags := 25, slot := 4, constantValue := 0 }, { name := "LOG2_ARRAY_SHORT_INDEX_SCALE", type := .int, accessFlags := 25, slot := 5, constantValue := 0 }, { name := "LOG2_ARRAY_INT_INDEX_SCALE", type := .int, accessFlags := 25, slot := 6, constantValue := 0 }, { name := "LOG2_ARRAY_LONG_INDEX_SCALE", type := .int, accessFlags := 25, slot := 7, constantValue := 0 }, { name := "LOG2_ARRAY_FLOAT_INDEX_SCALE", type := .int, accessFlags := 25, slot := 8, constantValue := 0 }, { name := "LOG2_ARRAY_DOUBLE_INDEX_SCALE", type := .int, accessFlags := 25, slot := 9, constantValue := 0 }, { name := "LOG2_BYTE_BIT_SIZE", type := .int, accessFlags := 26, slot := 10, constantValue := 0 }, { name := "T_BOOLEAN", type := .int, accessFlags := 25, slot := 11, constantValue := 0 }, { name := "T_CHAR", type := .int, accessFlags := 25, slot := 12, constantValue := 0 }, { name := "T_FLOAT", type := .int, accessFlags := 25, slot := 13, constantValue := 0 }, { name := "T_DOUBLE", type := .int, accessFlags := 25, slot := 14, constantValue := 0 }, { name := "T_BYTE", type := .int, accessFlags := 25, slot := 15, constantValue := 0 }, { name := "T_SHORT", type := .int, accessFlags := 25, slot := 16, constantValue := 0 }, { name := "T_INT", type := .int, accessFlags := 25, slot := 17, constantValue := 0 }, { name := "T_LONG", type := .int, accessFlags := 25, slot := 18, constantValue := 0 }, { name := "JLA", type := (.object "jdk/internal/access/JavaLangAccess"), accessFlags := 26, slot := 19, constantValue := 0 }, { name := "SOFT_MAX_ARRAY_LENGTH", type := .int, accessFlags := 25, slot := 20, constantValue := 0 }]
  methods := #[k13m0]
  instanceTypes := #[]
  staticTypes := #[(.object "jdk/internal/misc/Unsafe"), .boolean, .int, .int, .int, .int, .int, .int, .int, .int, .int, .int, .int, .int, .int, .int, .int, .int, .int, (.object "jdk/internal/access/JavaLangAccess"), .int]
  resolved := Array.replicate 378 none
  statics := none }

def pool14 : Array CpInfo := pool [(1, u "java/lang/Cloneable"), (0, .class_ 1), (0, u "java/lang/Object"), (0, .class_ 3)] 3

/-- java/lang/Cloneable -/
def k14 : Class := { plain "java/lang/Cloneable" (some 0) with
  accessFlags := 1537
  interfaces := #[]
  cf := some (fileOf pool14 2 #[] #[] 1537 4 #[] #[])
  fields := #[]
  methods := #[]
  instanceTypes := #[]
  staticTypes := #[]
  resolved := Array.replicate 8 none
  statics := none }

/-- the primitive byte -/
def k15 : Class := { plain "byte" none with kind := .primitive 'B', accessFlags := 0x411 }
/-- [B -/
def k16 : Class := { plain "[B" (some 0) with kind := .array 15 .byte, interfaces := #[14, 2], accessFlags := 1041 }

/-- the primitive char -/
def k17 : Class := { plain "char" none with kind := .primitive 'C', accessFlags := 0x411 }
/-- [C -/
def k18 : Class := { plain "[C" (some 0) with kind := .array 17 .char, interfaces := #[14, 2], accessFlags := 1041 }

/-- the primitive int -/
def k19 : Class := { plain "int" none with kind := .primitive 'I', accessFlags := 0x411 }
/-- [I -/
def k20 : Class := { plain "[I" (some 0) with kind := .array 19 .int, interfaces := #[14, 2], accessFlags := 1041 }

def heap : Heap := #[{ cls := 7, slots := #[.long 0, .int 1, .null, .int 0, .null, .int 0, .int 0], vm := .statics 7 },
  { cls := 12, slots := #[.null, .null, .null], vm := .statics 12 }]
def classes : Array Class := #[k0, k1, k2, k3, k4, k5, k6, k7, k8, k9, k10, k11, k12, k13, k14, k15, k16, k17, k18, k19, k20]
def interned : List (Array UInt16 × Addr) := []
def slotsUsed : Nat := 10
def theMethod : MethodId := ⟨1, 1⟩
def args0 : Array Value := #[.int 5, .int 5, .int 5, .int 5]
def aboutOver (below : List Frame) : State where
  vm := { classes := classes, interned := interned.toArray }
  heap := heap
  slotsUsed := slotsUsed
  threads := #[{ frames := .invoking theMethod args0 :: below }]
def below0 : List Frame := [.native { method := ⟨0, 0⟩, args := #[] }]
def about1 : State := aboutOver below0
def p0 : Program := .bare "" "" ""
def e0 : Env := launch0.env 0 0 0
theorem w_frames : about1.frames = Frame.invoking theMethod args0 :: below0 := rfl
set_option maxRecDepth 65536 in
theorem w_args : argsFit about1.vm theMethod args0 = true := by decide +kernel
set_option maxRecDepth 65536 in
theorem w_heap : heapFits about1 = true := by decide +kernel
set_option maxRecDepth 65536 in
theorem w_runnable : about1.curStatus? = some .runnable := by decide +kernel
set_option maxRecDepth 65536 in
theorem w_alone : about1.alone = true := by decide +kernel
set_option maxRecDepth 65536 in
theorem w_named : about1.methodNamed? x = some theMethod := by decide +kernel
set_option maxRecDepth 65536 in
theorem w_hears : about1.hears theMethod below0 = true := by decide +kernel
set_option maxRecDepth 65536 in
theorem w_ripe : about1.ripe theMethod args0 below0 = true := by decide +kernel
theorem w_running : about1.status = .running := rfl
set_option maxRecDepth 65536 in
theorem w_room : about1.hasRoom e0.platform room_1 = true :=
  launch0.hasRoom_least _ room_1 (by decide +kernel) (by decide +kernel) (by decide +kernel) (by decide +kernel) (by decide +kernel) (by decide +kernel)
theorem allAtoms_all (ts : List Jvm.Cond) (a : Array Jvm.Value) (st : Jvm.State) : (allAtoms ts).before a st = ts.all (fun c => c.before a st) := by
  induction ts with
  | nil => rfl
  | cons c t ih =>
    show (Jvm.Cond.and c (allAtoms t)).before a st = _
    rw [Jvm.Cond.before_and, ih, List.all_cons]
def words1 : List Jvm.Cond := Jvm.Cond.code x code maxLocals ret :: tables_1
/-- a 'code' word, met by the world's own term for the bytes: nothing is compared byte by byte -/
theorem code_word {y : MethodName} {bytes : ByteArray} {mx : Nat} {rt : Option FieldType} {a : Array Value} {s : State} {m : MethodId} {meth : Method} {c : Code} (h1 : s.methodNamed? y = some m) (h2 : s.vm.method? m = some meth) (h3 : meth.code = some c) (h4 : c.code = bytes)
    (h5 : (c.maxLocals == mx && c.exceptionTable.isEmpty && decide (c.maxStack ≤ mostOperands) && decide (meth.sig.returnType = rt) && !meth.locks && decide (parseMethodDescriptor y.desc = some meth.sig)) = true) : (Jvm.Cond.code y bytes mx rt).before a s = true := by
  simp only [Bool.and_eq_true, beq_iff_eq, Bool.not_eq_true', decide_eq_true_eq] at h5
  obtain ⟨⟨⟨⟨⟨g1, g2⟩, g3⟩, g4⟩, g5⟩, g6⟩ := h5
  simp [Cond.before, Cond.holds, Cond.value, h1, h2, h3, h4, g1, g2, g3, g4, g5, g6]
def isCode : Jvm.Cond → Bool
  | .code _ _ _ _ => true
  | _ => false
theorem all_split {L : List Jvm.Cond} {P : Jvm.Cond → Bool} (h1 : L.all (fun c => isCode c || P c) = true) (h2 : ∀ c ∈ L.filter isCode, P c = true) : L.all P = true := by
  refine List.all_eq_true.mpr fun c hc => ?_
  have h := List.all_eq_true.mp h1 c hc
  rcases Bool.eq_false_or_eq_true (isCode c) with hi | hi
  · exact h2 c (List.mem_filter.mpr ⟨hc, hi⟩)
  · simpa [hi] using h
set_option maxRecDepth 65536 in
theorem w_c0 : (Jvm.Cond.code x code maxLocals ret).before args0 about1 = true := code_word (m := ⟨1, 1⟩) (meth := k1m1) (c := k1c1) (by decide +kernel) rfl rfl rfl (by decide +kernel)
set_option maxRecDepth 65536 in
theorem w_c1 : (Jvm.Cond.code ({ cls := "com/example/lawful_crawler/lawfulcrawler/robots/ProductTokenOfPinLaw", name := "tokenChar", desc := "(I)C" } : Jvm.MethodName) method_3_code (2 : Nat) (Option.some Jvm.ClassFile.FieldType.char)).before args0 about1 = true := code_word (m := ⟨1, 2⟩) (meth := k1m2) (c := k1c2) (by decide +kernel) rfl rfl rfl (by decide +kernel)
set_option maxRecDepth 65536 in
theorem w_c2 : (Jvm.Cond.code ({ cls := "java/lang/String", name := "<init>", desc := "([C)V" } : Jvm.MethodName) jdk_42_method_3_code (2 : Nat) (Option.none : Option Jvm.ClassFile.FieldType)).before args0 about1 = true := code_word (m := ⟨7, 1⟩) (meth := k7m1) (c := k7c1) (by decide +kernel) rfl rfl rfl (by decide +kernel)
set_option maxRecDepth 65536 in
theorem w_c3 : (Jvm.Cond.code ({ cls := "java/lang/String", name := "<init>", desc := "([CIILjava/lang/Void;)V" } : Jvm.MethodName) jdk_42_method_149_code (6 : Nat) (Option.none : Option Jvm.ClassFile.FieldType)).before args0 about1 = true := code_word (m := ⟨7, 6⟩) (meth := k7m6) (c := k7c6) (by decide +kernel) rfl rfl rfl (by decide +kernel)
set_option maxRecDepth 65536 in
theorem w_c4 : (Jvm.Cond.code ({ cls := "java/lang/Object", name := "<init>", desc := "()V" } : Jvm.MethodName) object_method_1_code (1 : Nat) (Option.none : Option Jvm.ClassFile.FieldType)).before args0 about1 = true := code_word (m := ⟨0, 0⟩) (meth := k0m0) (c := k0c0) (by decide +kernel) rfl rfl rfl (by decide +kernel)
set_option maxRecDepth 65536 in
theorem w_c5 : (Jvm.Cond.code ({ cls := "java/lang/StringUTF16", name := "compress", desc := "([CII)[B" } : Jvm.MethodName) jdk_52_method_16_code (6 : Nat) (Option.some (Jvm.ClassFile.FieldType.array Jvm.ClassFile.FieldType.byte))).before args0 about1 = true := code_word (m := ⟨8, 2⟩) (meth := k8m2) (c := k8c2) (by decide +kernel) rfl rfl rfl (by decide +kernel)
set_option maxRecDepth 65536 in
theorem w_c6 : (Jvm.Cond.code ({ cls := "java/lang/StringUTF16", name := "compress", desc := "([CI[BII)I" } : Jvm.MethodName) jdk_52_method_21_code (7 : Nat) (Option.some Jvm.ClassFile.FieldType.int)).before args0 about1 = true := code_word (m := ⟨8, 3⟩) (meth := k8m3) (c := k8c3) (by decide +kernel) rfl rfl rfl (by decide +kernel)
set_option maxRecDepth 65536 in
theorem w_c7 : (Jvm.Cond.code ({ cls := "java/lang/StringUTF16", name := "coderFromArrayLen", desc := "([BI)B" } : Jvm.MethodName) jdk_52_method_15_code (2 : Nat) (Option.some Jvm.ClassFile.FieldType.byte)).before args0 about1 = true := code_word (m := ⟨8, 1⟩) (meth := k8m1) (c := k8c1) (by decide +kernel) rfl rfl rfl (by decide +kernel)
set_option maxRecDepth 65536 in
theorem w_c8 : (Jvm.Cond.code ({ cls := "com/example/lawful_crawler/lawfulcrawler/robots/ProductToken", name := "of", desc := "(Ljava/lang/String;)Lcom/example/lawful_crawler/lawfulcrawler/robots/ProductToken;" } : Jvm.MethodName) prog_8_method_2_code (1 : Nat) (Option.some (Jvm.ClassFile.FieldType.object "com/example/lawful_crawler/lawfulcrawler/robots/ProductToken"))).before args0 about1 = true := code_word (m := ⟨9, 1⟩) (meth := k9m1) (c := k9c1) (by decide +kernel) rfl rfl rfl (by decide +kernel)
set_option maxRecDepth 65536 in
theorem w_c9 : (Jvm.Cond.code ({ cls := "java/util/Objects", name := "requireNonNull", desc := "(Ljava/lang/Object;Ljava/lang/String;)Ljava/lang/Object;" } : Jvm.MethodName) jdk_31_method_11_code (2 : Nat) (Option.some (Jvm.ClassFile.FieldType.object "java/lang/Object"))).before args0 about1 = true := code_word (m := ⟨10, 1⟩) (meth := k10m1) (c := k10c1) (by decide +kernel) rfl rfl rfl (by decide +kernel)
set_option maxRecDepth 65536 in
theorem w_c10 : (Jvm.Cond.code ({ cls := "java/lang/String", name := "isEmpty", desc := "()Z" } : Jvm.MethodName) jdk_42_method_55_code (1 : Nat) (Option.some Jvm.ClassFile.FieldType.boolean)).before args0 about1 = true := code_word (m := ⟨7, 3⟩) (meth := k7m3) (c := k7c3) (by decide +kernel) rfl rfl rfl (by decide +kernel)
set_option maxRecDepth 65536 in
theorem w_c11 : (Jvm.Cond.code ({ cls := "com/example/lawful_crawler/lawfulcrawler/robots/ProductToken", name := "leadingLength", desc := "(Ljava/lang/CharSequence;)I" } : Jvm.MethodName) prog_8_method_4_code (2 : Nat) (Option.some Jvm.ClassFile.FieldType.int)).before args0 about1 = true := code_word (m := ⟨9, 2⟩) (meth := k9m2) (c := k9c2) (by decide +kernel) rfl rfl rfl (by decide +kernel)
set_option maxRecDepth 65536 in
theorem w_c12 : (Jvm.Cond.code ({ cls := "java/lang/String", name := "length", desc := "()I" } : Jvm.MethodName) jdk_42_method_54_code (1 : Nat) (Option.some Jvm.ClassFile.FieldType.int)).before args0 about1 = true := code_word (m := ⟨7, 2⟩) (meth := k7m2) (c := k7c2) (by decide +kernel) rfl rfl rfl (by decide +kernel)
set_option maxRecDepth 65536 in
theorem w_c13 : (Jvm.Cond.code ({ cls := "java/lang/String", name := "coder", desc := "()B" } : Jvm.MethodName) jdk_42_method_152_code (1 : Nat) (Option.some Jvm.ClassFile.FieldType.byte)).before args0 about1 = true := code_word (m := ⟨7, 7⟩) (meth := k7m7) (c := k7c7) (by decide +kernel) rfl rfl rfl (by decide +kernel)
set_option maxRecDepth 65536 in
theorem w_c14 : (Jvm.Cond.code ({ cls := "java/lang/String", name := "charAt", desc := "(I)C" } : Jvm.MethodName) jdk_42_method_56_code (2 : Nat) (Option.some Jvm.ClassFile.FieldType.char)).before args0 about1 = true := code_word (m := ⟨7, 4⟩) (meth := k7m4) (c := k7c4) (by decide +kernel) rfl rfl rfl (by decide +kernel)
set_option maxRecDepth 65536 in
theorem w_c15 : (Jvm.Cond.code ({ cls := "java/lang/String", name := "isLatin1", desc := "()Z" } : Jvm.MethodName) jdk_42_method_154_code (1 : Nat) (Option.some Jvm.ClassFile.FieldType.boolean)).before args0 about1 = true := code_word (m := ⟨7, 8⟩) (meth := k7m8) (c := k7c8) (by decide +kernel) rfl rfl rfl (by decide +kernel)
set_option maxRecDepth 65536 in
theorem w_c16 : (Jvm.Cond.code ({ cls := "java/lang/StringLatin1", name := "charAt", desc := "([BI)C" } : Jvm.MethodName) jdk_43_method_2_code (2 : Nat) (Option.some Jvm.ClassFile.FieldType.char)).before args0 about1 = true := code_word (m := ⟨11, 1⟩) (meth := k11m1) (c := k11c1) (by decide +kernel) rfl rfl rfl (by decide +kernel)
set_option maxRecDepth 65536 in
theorem w_c17 : (Jvm.Cond.code ({ cls := "java/lang/String", name := "checkIndex", desc := "(II)V" } : Jvm.MethodName) jdk_42_method_155_code (2 : Nat) (Option.none : Option Jvm.ClassFile.FieldType)).before args0 about1 = true := code_word (m := ⟨7, 9⟩) (meth := k7m9) (c := k7c9) (by decide +kernel) rfl rfl rfl (by decide +kernel)
set_option maxRecDepth 65536 in
theorem w_c18 : (Jvm.Cond.code ({ cls := "jdk/internal/util/Preconditions", name := "checkIndex", desc := "(IILjava/util/function/BiFunction;)I" } : Jvm.MethodName) jdk_41_method_11_code (3 : Nat) (Option.some Jvm.ClassFile.FieldType.int)).before args0 about1 = true := code_word (m := ⟨12, 1⟩) (meth := k12m1) (c := k12c1) (by decide +kernel) rfl rfl rfl (by decide +kernel)
set_option maxRecDepth 65536 in
theorem w_c19 : (Jvm.Cond.code ({ cls := "com/example/lawful_crawler/lawfulcrawler/robots/ProductToken", name := "isTokenChar", desc := "(C)Z" } : Jvm.MethodName) prog_8_method_5_code (1 : Nat) (Option.some Jvm.ClassFile.FieldType.boolean)).before args0 about1 = true := code_word (m := ⟨9, 3⟩) (meth := k9m3) (c := k9c3) (by decide +kernel) rfl rfl rfl (by decide +kernel)
set_option maxRecDepth 65536 in
theorem w_c20 : (Jvm.Cond.code ({ cls := "com/example/lawful_crawler/lawfulcrawler/robots/ProductToken", name := "<init>", desc := "(Ljava/lang/String;)V" } : Jvm.MethodName) prog_8_method_1_code (2 : Nat) (Option.none : Option Jvm.ClassFile.FieldType)).before args0 about1 = true := code_word (m := ⟨9, 0⟩) (meth := k9m0) (c := k9c0) (by decide +kernel) rfl rfl rfl (by decide +kernel)
set_option maxRecDepth 65536 in
theorem w_c21 : (Jvm.Cond.code ({ cls := "com/example/lawful_crawler/lawfulcrawler/robots/ProductToken", name := "toString", desc := "()Ljava/lang/String;" } : Jvm.MethodName) prog_8_method_8_code (1 : Nat) (Option.some (Jvm.ClassFile.FieldType.object "java/lang/String"))).before args0 about1 = true := code_word (m := ⟨9, 4⟩) (meth := k9m4) (c := k9c4) (by decide +kernel) rfl rfl rfl (by decide +kernel)
set_option maxRecDepth 65536 in
theorem w_c22 : (Jvm.Cond.code ({ cls := "java/lang/String", name := "equals", desc := "(Ljava/lang/Object;)Z" } : Jvm.MethodName) jdk_42_method_66_code (3 : Nat) (Option.some Jvm.ClassFile.FieldType.boolean)).before args0 about1 = true := code_word (m := ⟨7, 5⟩) (meth := k7m5) (c := k7c5) (by decide +kernel) rfl rfl rfl (by decide +kernel)
def codes1 : List Jvm.Cond := [Jvm.Cond.code x code maxLocals ret, Jvm.Cond.code ({ cls := "com/example/lawful_crawler/lawfulcrawler/robots/ProductTokenOfPinLaw", name := "tokenChar", desc := "(I)C" } : Jvm.MethodName) method_3_code (2 : Nat) (Option.some Jvm.ClassFile.FieldType.char), Jvm.Cond.code ({ cls := "java/lang/String", name := "<init>", desc := "([C)V" } : Jvm.MethodName) jdk_42_method_3_code (2 : Nat) (Option.none : Option Jvm.ClassFile.FieldType), Jvm.Cond.code ({ cls := "java/lang/String", name := "<init>", desc := "([CIILjava/lang/Void;)V" } : Jvm.MethodName) jdk_42_method_149_code (6 : Nat) (Option.none : Option Jvm.ClassFile.FieldType), Jvm.Cond.code ({ cls := "java/lang/Object", name := "<init>", desc := "()V" } : Jvm.MethodName) object_method_1_code (1 : Nat) (Option.none : Option Jvm.ClassFile.FieldType), Jvm.Cond.code ({ cls := "java/lang/StringUTF16", name := "compress", desc := "([CII)[B" } : Jvm.MethodName) jdk_52_method_16_code (6 : Nat) (Option.some (Jvm.ClassFile.FieldType.array Jvm.ClassFile.FieldType.byte)), Jvm.Cond.code ({ cls := "java/lang/StringUTF16", name := "compress", desc := "([CI[BII)I" } : Jvm.MethodName) jdk_52_method_21_code (7 : Nat) (Option.some Jvm.ClassFile.FieldType.int), Jvm.Cond.code ({ cls := "java/lang/StringUTF16", name := "coderFromArrayLen", desc := "([BI)B" } : Jvm.MethodName) jdk_52_method_15_code (2 : Nat) (Option.some Jvm.ClassFile.FieldType.byte), Jvm.Cond.code ({ cls := "com/example/lawful_crawler/lawfulcrawler/robots/ProductToken", name := "of", desc := "(Ljava/lang/String;)Lcom/example/lawful_crawler/lawfulcrawler/robots/ProductToken;" } : Jvm.MethodName) prog_8_method_2_code (1 : Nat) (Option.some (Jvm.ClassFile.FieldType.object "com/example/lawful_crawler/lawfulcrawler/robots/ProductToken")), Jvm.Cond.code ({ cls := "java/util/Objects", name := "requireNonNull", desc := "(Ljava/lang/Object;Ljava/lang/String;)Ljava/lang/Object;" } : Jvm.MethodName) jdk_31_method_11_code (2 : Nat) (Option.some (Jvm.ClassFile.FieldType.object "java/lang/Object")), Jvm.Cond.code ({ cls := "java/lang/String", name := "isEmpty", desc := "()Z" } : Jvm.MethodName) jdk_42_method_55_code (1 : Nat) (Option.some Jvm.ClassFile.FieldType.boolean), Jvm.Cond.code ({ cls := "com/example/lawful_crawler/lawfulcrawler/robots/ProductToken", name := "leadingLength", desc := "(Ljava/lang/CharSequence;)I" } : Jvm.MethodName) prog_8_method_4_code (2 : Nat) (Option.some Jvm.ClassFile.FieldType.int), Jvm.Cond.code ({ cls := "java/lang/String", name := "length", desc := "()I" } : Jvm.MethodName) jdk_42_method_54_code (1 : Nat) (Option.some Jvm.ClassFile.FieldType.int), Jvm.Cond.code ({ cls := "java/lang/String", name := "coder", desc := "()B" } : Jvm.MethodName) jdk_42_method_152_code (1 : Nat) (Option.some Jvm.ClassFile.FieldType.byte), Jvm.Cond.code ({ cls := "java/lang/String", name := "charAt", desc := "(I)C" } : Jvm.MethodName) jdk_42_method_56_code (2 : Nat) (Option.some Jvm.ClassFile.FieldType.char), Jvm.Cond.code ({ cls := "java/lang/String", name := "isLatin1", desc := "()Z" } : Jvm.MethodName) jdk_42_method_154_code (1 : Nat) (Option.some Jvm.ClassFile.FieldType.boolean), Jvm.Cond.code ({ cls := "java/lang/StringLatin1", name := "charAt", desc := "([BI)C" } : Jvm.MethodName) jdk_43_method_2_code (2 : Nat) (Option.some Jvm.ClassFile.FieldType.char), Jvm.Cond.code ({ cls := "java/lang/String", name := "checkIndex", desc := "(II)V" } : Jvm.MethodName) jdk_42_method_155_code (2 : Nat) (Option.none : Option Jvm.ClassFile.FieldType), Jvm.Cond.code ({ cls := "jdk/internal/util/Preconditions", name := "checkIndex", desc := "(IILjava/util/function/BiFunction;)I" } : Jvm.MethodName) jdk_41_method_11_code (3 : Nat) (Option.some Jvm.ClassFile.FieldType.int), Jvm.Cond.code ({ cls := "com/example/lawful_crawler/lawfulcrawler/robots/ProductToken", name := "isTokenChar", desc := "(C)Z" } : Jvm.MethodName) prog_8_method_5_code (1 : Nat) (Option.some Jvm.ClassFile.FieldType.boolean), Jvm.Cond.code ({ cls := "com/example/lawful_crawler/lawfulcrawler/robots/ProductToken", name := "<init>", desc := "(Ljava/lang/String;)V" } : Jvm.MethodName) prog_8_method_1_code (2 : Nat) (Option.none : Option Jvm.ClassFile.FieldType), Jvm.Cond.code ({ cls := "com/example/lawful_crawler/lawfulcrawler/robots/ProductToken", name := "toString", desc := "()Ljava/lang/String;" } : Jvm.MethodName) prog_8_method_8_code (1 : Nat) (Option.some (Jvm.ClassFile.FieldType.object "java/lang/String")), Jvm.Cond.code ({ cls := "java/lang/String", name := "equals", desc := "(Ljava/lang/Object;)Z" } : Jvm.MethodName) jdk_42_method_66_code (3 : Nat) (Option.some Jvm.ClassFile.FieldType.boolean)]
set_option maxRecDepth 65536 in
theorem codes_eq : words1.filter isCode = codes1 := rfl
theorem w_codes : ∀ c ∈ words1.filter isCode, c.before args0 about1 = true := by
  rw [codes_eq]
  intro c hc
  simp only [codes1, List.mem_cons, List.not_mem_nil, or_false] at hc
  rcases hc with rfl | rfl | rfl | rfl | rfl | rfl | rfl | rfl | rfl | rfl | rfl | rfl | rfl | rfl | rfl | rfl | rfl | rfl | rfl | rfl | rfl | rfl | rfl
  · exact w_c0
  · exact w_c1
  · exact w_c2
  · exact w_c3
  · exact w_c4
  · exact w_c5
  · exact w_c6
  · exact w_c7
  · exact w_c8
  · exact w_c9
  · exact w_c10
  · exact w_c11
  · exact w_c12
  · exact w_c13
  · exact w_c14
  · exact w_c15
  · exact w_c16
  · exact w_c17
  · exact w_c18
  · exact w_c19
  · exact w_c20
  · exact w_c21
  · exact w_c22
set_option maxRecDepth 65536 in
theorem w_t1 : (words1.take 24).all (fun c => isCode c || c.before args0 about1) = true := by decide +kernel
set_option maxRecDepth 65536 in
theorem w_t2 : ((words1.drop 24).take 24).all (fun c => isCode c || c.before args0 about1) = true := by decide +kernel
set_option maxRecDepth 65536 in
theorem w_t3 : (((words1.drop 24).drop 24).take 24).all (fun c => isCode c || c.before args0 about1) = true := by decide +kernel
set_option maxRecDepth 65536 in
theorem w_t4 : ((((words1.drop 24).drop 24).drop 24).take 24).all (fun c => isCode c || c.before args0 about1) = true := by decide +kernel
set_option maxRecDepth 65536 in
theorem w_t5 : ((((words1.drop 24).drop 24).drop 24).drop 24).all (fun c => isCode c || c.before args0 about1) = true := by decide +kernel
theorem w_tables : (allAtoms (Jvm.Cond.code x code maxLocals ret :: tables_1)).before args0 about1 = true := by
  rw [allAtoms_all]
  show words1.all (fun c => c.before args0 about1) = true
  refine all_split ?_ w_codes
  rw [← List.take_append_drop 24 words1, List.all_append, w_t1, ← List.take_append_drop 24 (words1.drop 24), List.all_append, w_t2, ← List.take_append_drop 24 ((words1.drop 24).drop 24), List.all_append, w_t3, ← List.take_append_drop 24 (((words1.drop 24).drop 24).drop 24), List.all_append, w_t4, w_t5]
  rfl
set_option maxRecDepth 65536 in
theorem w_rest : rest_1_c.before args0 about1 = true := by decide +kernel
set_option maxRecDepth 65536 in
theorem w_case : (Jvm.Cond.and given_1 narrow_1).before args0 about1 = true := by decide +kernel
theorem w_applies : (headSpec (Jvm.Cond.code x code maxLocals ret :: tables_1) room_1).applies x e0.platform about1 = true :=
  (Spec.applies_iff w_frames).mpr ⟨w_running, w_runnable, w_alone, w_named, w_hears, w_ripe, w_room, w_tables⟩
theorem atStart : AtStart classFile x code maxLocals ret World_1 tables_1 room_1 Calls_1 rest_1 Pre_1 launch0 p0 e0 about1 theMethod args0 below0 :=
  ⟨lists_1, trivial, launch0.admits_env _ _ _, launch0.least_env, fairChoices_fair.cas, fairChoices_fair.clock, w_frames, w_args, w_heap, w_applies, trivial, w_rest, w_case⟩
end start1
theorem witness_1 : WitnessClaimed_1 := ⟨start1.p0, start1.e0, start1.about1, start1.theMethod, start1.args0, start1.below0, start1.atStart⟩
end Jvm.Pilot.@@N@@
