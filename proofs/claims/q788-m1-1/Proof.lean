import JvmDerived
import JvmDerived.Pilot.@@N@@Statement
import JvmDerived.Pilot.@@N@@Code
set_option linter.unusedVariables false
set_option linter.unusedSimpArgs false
namespace Jvm.Own
open Jvm Sem ClassFile Op Lib Jvm.Stand Jvm.Free Jvm.LawKit Jvm.RoadKit Bundle
/-- the moving data of a walk: program, environment, the start, the method, its arguments, the frames below, the method's record, its code -/
abbrev Cx : Type := Program × Env × State × MethodId × Array Value × List Frame × Method × Code
/-- from here the run ends as P says -/
def Go (K : Cx) (P : Outcome → State → Prop) (T : State) (pc : Nat) (ls : Array Slot) (st : List Value) : Prop :=
  ∃ o U, Steps K.1.tables K.2.1 K.2.2.2.2.2.1 (T.setTop (mkF K.2.2.2.1 pc ls st)) U ∧ U.status = .running ∧ Ended U K.2.2.2.2.2.1 o ∧ P o U
/-- where a walk stands: over its start re-tabled; heap h; sf: the cells that it may write -/
def Wk (l : Launch) (Z : State) (EL : List (String × Nat)) (own nm : String) (cd : ByteArray) (ml : Nat) (ret : Option FieldType) (R : Room) (ws : List Addr) (h0 : Heap) (K : Cx) (sf : List Addr) (T : State) (h : Heap) (cells slots : Nat) : Prop :=
  ∃ (vm0 : Vm) (locs : List Loc) (k0 : Nat), Stand K.1 l K.2.1 R (K.2.2.1.setVm vm0) K.2.2.2.1 K.2.2.2.2.1 K.2.2.2.2.2.1 K.2.2.2.2.2.2.1 K.2.2.2.2.2.2.2 T locs cells slots ∧ T.heap = h ∧ K.1.tables.exec = Jvm.exec ∧
    (K.2.2.2.2.2.2.2.code = cd ∧ K.2.2.2.2.2.2.2.maxLocals = ml ∧ K.2.2.2.2.2.2.1.sig.returnType = ret ∧ K.2.2.2.2.2.2.1.locks = false ∧ K.2.2.2.2.2.2.1.name = nm) ∧ K.2.2.1.heap = h0 ∧
    Z.Warmed39 vm0 ∧ vm0.findClass own = some K.2.2.2.1.cls ∧ K.2.2.1.Since vm0 k0 ∧ k0 ≤ h.size ∧ (∀ x ∈ locs, x.base ∈ ws ∨ h0.size ≤ x.base) ∧ CHr Z EL K.2.2.1.vm h0 vm0 h ∧ Old Z Z.heap.size h ∧ (∃ a0, EW Z a0 EL) ∧
    (∀ x ∈ ws, Z.heap.size ≤ x) ∧ Z.heap.size ≤ h0.size ∧ ∀ x ∈ sf, Safe Z EL vm0 h x ∧ x < h.size ∧ (x ∈ ws ∨ h0.size ≤ x)
/-- what a contract promises at the end -/
def Pst (Z : State) (EL : List (String × Nat)) (ws : List Addr) (s : State) (kc ks : Nat) (Q : Option Value → Heap → List Addr → Prop) (o : Outcome) (U : State) : Prop :=
  ∃ v L so, o = .returned v ∧ Q v U.heap so ∧ (∀ x ∈ so, Safe Z EL U.vm U.heap x ∧ s.heap.size ≤ x ∧ x < U.heap.size) ∧ (∀ x ∈ L, x.base ∈ ws ∨ s.heap.size ≤ x.base) ∧ CHr Z EL s.vm s.heap U.vm U.heap ∧ ReturnedEndW s o U L kc ks
/-- a body's contract: from the heap h and the arguments as', whatever is booked said, ws writable -/
def Ct (l : Launch) (Z : State) (EL : List (String × Nat)) (y : MethodName) (cd : ByteArray) (ml : Nat) (ret : Option FieldType) (rm : Room) (as' : Array Value) (h : Heap) (ws : List Addr) (Q : Option Value → Heap → List Addr → Prop) : Prop :=
  ∀ wl, MetFree l y (head1 (Cond.code y cd ml ret :: wl) rm) (fun a U => a = as' ∧ Z.Warmed39 U.vm ∧ U.heap = h ∧ CHv Z EL U.vm h ∧ ∀ x ∈ ws, Safe Z EL U.vm h x ∧ x < h.size) (fun _ _ _ _ _ => True) (fun _ U o U' => Pst Z EL ws U rm.cells rm.slots Q o U')
section Basics
variable {l : Launch} {Z : State} {EL : List (String × Nat)} {own nm : String} {cd : ByteArray} {ml : Nat} {ret : Option FieldType} {R : Room} {ws : List Addr} {h0 : Heap} {K : Cx} {sf : List Addr} {T : State} {h h' : Heap} {cells slots : Nat} {P : Outcome → State → Prop} {pc pc' : Nat} {ls : Array Slot} {st : List Value} {a0 : Array Value}
theorem Go.stp {T' : State} {pc' : Nat} {ls' : Array Slot} {st' : List Value} (f : ∀ t, Steps K.1.tables K.2.1 K.2.2.2.2.2.1 (T'.setTop (mkF K.2.2.2.1 pc' ls' st')) t → Steps K.1.tables K.2.1 K.2.2.2.2.2.1 (T.setTop (mkF K.2.2.2.1 pc ls st)) t) (k : Go K P T' pc' ls' st') : Go K P T pc ls st := by
  obtain ⟨o, U, r, q⟩ := k; exact ⟨o, U, f _ r, q⟩
theorem Go.top {v v' : Value} (e : v = v') (k : Go K P T pc ls (v' :: st)) : Go K P T pc ls (v :: st) := e ▸ k
theorem Wk.heapEq (W : Wk l Z EL own nm cd ml ret R ws h0 K sf T h cells slots) : T.heap = h := by obtain ⟨_, _, _, _, e, _⟩ := W; exact e
theorem Wk.old (W : Wk l Z EL own nm cd ml ret R ws h0 K sf T h cells slots) : Old Z Z.heap.size h := by obtain ⟨_, _, _, _, _, _, _, _, _, _, _, _, _, _, q, _⟩ := W; exact q
theorem Wk.grow (W : Wk l Z EL own nm cd ml ret R ws h0 K sf T h cells slots) : h0.size ≤ h.size := by obtain ⟨_, _, _, _, _, _, _, _, _, _, _, _, _, q, _⟩ := W; exact q.2.1
theorem Wk.lt (W : Wk l Z EL own nm cd ml ret R ws h0 K sf T h cells slots) {x : Addr} (hx : x ∈ sf) : x < h.size := by obtain ⟨_, _, _, _, _, _, _, _, _, _, _, _, _, _, _, _, _, _, q⟩ := W; exact (q x hx).2.1
theorem Wk.mono (W : Wk l Z EL own nm cd ml ret R ws h0 K sf T h cells slots) {cells' slots' : Nat} (hc : cells ≤ cells') (hn : slots ≤ slots') : Wk l Z EL own nm cd ml ret R ws h0 K sf T h cells' slots' := by
  obtain ⟨vm0, locs, k0, X, r⟩ := W; exact ⟨vm0, locs, k0, X.mono hc hn, r⟩
theorem Wk.less (W : Wk l Z EL own nm cd ml ret R ws h0 K sf T h cells slots) {sf' : List Addr} (hs : ∀ x ∈ sf', x ∈ sf) : Wk l Z EL own nm cd ml ret R ws h0 K sf' T h cells slots := by
  obtain ⟨vm0, locs, k0, X, e, hx, hc, e0, hZ, hown, hS, hk, hL, hC, hO, hE, hw, hz, hs'⟩ := W
  exact ⟨vm0, locs, k0, X, e, hx, hc, e0, hZ, hown, hS, hk, hL, hC, hO, hE, hw, hz, fun x q => hs' x (hs x q)⟩
/-- an object whose class is neither String nor byte[] is booked nowhere -/
theorem Wk.addE (W : Wk l Z EL own nm cd ml ret R ws h0 K sf T h cells slots) {x : Addr} {C : String} (E : Exa Z h x C) (h1 : C ≠ "java/lang/String") (h2 : C ≠ "[B") (hp : x ∈ ws ∨ h0.size ≤ x) : Wk l Z EL own nm cd ml ret R ws h0 K (x :: sf) T h cells slots := by
  obtain ⟨vm0, locs, k0, X, e, hx, hc, e0, hZ, hown, hS, hk, hL, hC, hO, hE, hw, hz, hs⟩ := W
  exact ⟨vm0, locs, k0, X, e, hx, hc, e0, hZ, hown, hS, hk, hL, hC, hO, hE, hw, hz, fun y hy => by
    rcases List.mem_cons.mp hy with rfl | hy
    · exact ⟨Safe.exa hZ.alike E h1 h2, E.lt, hp⟩
    · exact hs y hy⟩
theorem all1 {α : Type} {P : α → Prop} {y : α} {L : List α} (q : P y) (r : ∀ x ∈ L, P x) : ∀ x ∈ y :: L, P x := fun x hx => (List.mem_cons.mp hx).elim (fun e => e ▸ q) (r x)
theorem alln {α : Type} {P : α → Prop} : ∀ x ∈ ([] : List α), P x := fun _ q => nomatch q
theorem keep_of {s U : State} {L : List Loc} {k n : Nat} {ws : List Addr} (hs : s.sameButNew U L k n) (hL : ∀ x ∈ L, x.base ∈ ws ∨ s.heap.size ≤ x.base) : Keep s.heap U.heap ws := by
  obtain ⟨-, q2, -, -, -, q6⟩ := hs
  refine ⟨q2, fun x c hx hn => ?_, fun x c hx => ?_⟩
  · obtain ⟨c', r1, r2, r3, r4⟩ := q6 x c hx
    have hlt := (Array.getElem?_eq_some_iff.mp hx).1
    have e1 : c'.slots = c.slots := Array.ext_getElem? fun i => r4 i fun hm => by
      rcases hL _ hm with z | z
      · exact hn z
      · exact absurd hlt (Nat.not_lt.mpr z)
    have e2 : c' = c := by rw [r2, e1]
    rw [r1, e2]
  · obtain ⟨c', r1, r2, r3, -⟩ := q6 x c hx
    exact ⟨c', r1, by rw [r2], by rw [r2], r3⟩
/-- entering a body -/
theorem Ct.mk {y : MethodName} (own nm : String) (h1 : y.cls = own) (h2 : y.name = nm) {rm : Room} {as' : Array Value} {Q : Option Value → Heap → List Addr → Prop} (pn : plainFor y = true) (hO : Old Z Z.heap.size h) (hE : EW Z a0 EL) (hw : ∀ x ∈ ws, Z.heap.size ≤ x)
    (k : ∀ (K : Cx) (T : State), Wk l Z EL own nm cd ml ret rm ws h K ws T h 0 0 → Go K (Pst Z EL ws K.2.2.1 rm.cells rm.slots Q) T 0 (entryFrame K.2.2.2.1 as' ml).locals []) : Ct l Z EL y cd ml ret rm as' h ws Q := by
  subst h1 h2
  intro wl
  refine MetFree.of_bodySF pn hisR ?_
  intro p e s m args below meth c s₁ Bd hml hP hK
  obtain ⟨rfl, hZ, hh, hCH, hsf⟩ := hP
  have X0 := Stand.of_body Bd
  have hes : s₁.heap = h := by rw [← hh, Bd.state]; rfl
  have hvm : s₁.vm = s.vm := by rw [Bd.state]; rfl
  have hn := name_of_methodNamed Bd.named Bd.method
  obtain ⟨o, U, r1, r2, r3, r4⟩ := k (p, e, s, m, args, below, meth, c) s₁ ⟨s.vm, [], 0, X0, hes, Bd.exec, ⟨Bd.bytes, hml, Bd.returns, Bd.notSynchronized, hn.1⟩, hh, hZ, findClass_of_methodNamed Bd.named, (State.WarmedH.refl s).since 0, Nat.zero_le _, (fun x q => nomatch q), by rw [← hh] at hCH ⊢; exact CHr.refl hCH, hO, ⟨a0, hE⟩, hw, hO.1 ▸ hO.2.1, fun x q => ⟨(hsf x q).1, (hsf x q).2, Or.inl q⟩⟩
  refine ⟨U, o, ?_, r2, r3, r4⟩
  have ef : entryFrame m args ml = mkF m 0 (entryFrame m args ml).locals [] := rfl
  rw [ef]; exact r1
end Basics
section Pure
variable {l : Launch} {Z : State} {EL : List (String × Nat)} {own nm : String} {cd : ByteArray} {ml : Nat} {ret : Option FieldType} {R : Room} {ws : List Addr} {h0 : Heap} {K : Cx} {sf : List Addr} {T : State} {h h' : Heap} {cells slots : Nat} {P : Outcome → State → Prop} {pc pc' : Nat} {ls : Array Slot} {st : List Value} {a0 : Array Value}
theorem gAloadN (W : Wk l Z EL own nm cd ml ret R ws h0 K sf T h cells slots) {i : Fin 4} {v : Value} (hd : decode cd pc = .ok (.aload_n i, 1)) (hl : ls[i.val]? = some (.val v)) (hv : v.isRef = true) (hp : pc + 1 = pc') (k : Go K P T pc' ls (v :: st)) : Go K P T pc ls st := by
  obtain ⟨vm0, locs, k0, X, e, hx, ⟨hc, -⟩, -⟩ := W
  subst hp
  exact Go.stp (fun t r => XS.aloadN X.here hx rfl (hb hc hd) hl hv r) k
theorem gAload (W : Wk l Z EL own nm cd ml ret R ws h0 K sf T h cells slots) {i : Nat} {v : Value} (hd : decode cd pc = .ok (.aload i, 2)) (hl : ls[i]? = some (.val v)) (hv : v.isRef = true) (hp : pc + 2 = pc') (k : Go K P T pc' ls (v :: st)) : Go K P T pc ls st := by
  obtain ⟨vm0, locs, k0, X, e, hx, ⟨hc, -⟩, -⟩ := W
  subst hp
  exact Go.stp (fun t r => XS.aload X.here hx rfl (hb hc hd) hl hv r) k
theorem gIloadN (W : Wk l Z EL own nm cd ml ret R ws h0 K sf T h cells slots) {i : Fin 4} {v : Int32} (hd : decode cd pc = .ok (.iload_n i, 1)) (hl : ls[i.val]? = some (.val (.int v))) (hp : pc + 1 = pc') (k : Go K P T pc' ls (.int v :: st)) : Go K P T pc ls st := by
  obtain ⟨vm0, locs, k0, X, e, hx, ⟨hc, -⟩, -⟩ := W
  subst hp
  exact Go.stp (fun t r => XS.iloadN X.here hx rfl (hb hc hd) hl r) k
theorem gIload (W : Wk l Z EL own nm cd ml ret R ws h0 K sf T h cells slots) {i : Nat} {v : Int32} (hd : decode cd pc = .ok (.iload i, 2)) (hl : ls[i]? = some (.val (.int v))) (hp : pc + 2 = pc') (k : Go K P T pc' ls (.int v :: st)) : Go K P T pc ls st := by
  obtain ⟨vm0, locs, k0, X, e, hx, ⟨hc, -⟩, -⟩ := W
  subst hp
  exact Go.stp (fun t r => XS.iload X.here hx rfl (hb hc hd) hl r) k
theorem gLloadN (W : Wk l Z EL own nm cd ml ret R ws h0 K sf T h cells slots) {i : Fin 4} {v : Int64} (hd : decode cd pc = .ok (.lload_n i, 1)) (hl : ls[i.val]? = some (.val (.long v))) (hp : pc + 1 = pc') (k : Go K P T pc' ls (.long v :: st)) : Go K P T pc ls st := by
  obtain ⟨vm0, locs, k0, X, e, hx, ⟨hc, -⟩, -⟩ := W
  subst hp
  exact Go.stp (fun t r => XS.lloadN X.here hx rfl (hb hc hd) hl r) k
theorem gLload (W : Wk l Z EL own nm cd ml ret R ws h0 K sf T h cells slots) {i : Nat} {v : Int64} (hd : decode cd pc = .ok (.lload i, 2)) (hl : ls[i]? = some (.val (.long v))) (hp : pc + 2 = pc') (k : Go K P T pc' ls (.long v :: st)) : Go K P T pc ls st := by
  obtain ⟨vm0, locs, k0, X, e, hx, ⟨hc, -⟩, -⟩ := W
  subst hp
  exact Go.stp (fun t r => XS.lload X.here hx rfl (hb hc hd) hl r) k
theorem gIconst (W : Wk l Z EL own nm cd ml ret R ws h0 K sf T h cells slots) {i : Int} {z : Int32} (hd : decode cd pc = .ok (.iconst i, 1)) (hz : Int32.ofInt i = z) (hp : pc + 1 = pc') (k : Go K P T pc' ls (.int z :: st)) : Go K P T pc ls st := by
  obtain ⟨vm0, locs, k0, X, e, hx, ⟨hc, -⟩, -⟩ := W
  subst hp
  exact Go.stp (fun t r => XS.iconst X.here hx rfl (hb hc hd) <| hz ▸ r) k
theorem gBipush (W : Wk l Z EL own nm cd ml ret R ws h0 K sf T h cells slots) {i : Int} {z : Int32} (hd : decode cd pc = .ok (.bipush i, 2)) (hz : (Int8.ofInt i).toInt32 = z) (hp : pc + 2 = pc') (k : Go K P T pc' ls (.int z :: st)) : Go K P T pc ls st := by
  obtain ⟨vm0, locs, k0, X, e, hx, ⟨hc, -⟩, -⟩ := W
  subst hp
  exact Go.stp (fun t r => XS.bipush X.here hx rfl (hb hc hd) <| hz ▸ r) k
theorem gSipush (W : Wk l Z EL own nm cd ml ret R ws h0 K sf T h cells slots) {i : Int} {z : Int32} (hd : decode cd pc = .ok (.sipush i, 3)) (hz : (Int16.ofInt i).toInt32 = z) (hp : pc + 3 = pc') (k : Go K P T pc' ls (.int z :: st)) : Go K P T pc ls st := by
  obtain ⟨vm0, locs, k0, X, e, hx, ⟨hc, -⟩, -⟩ := W
  subst hp
  exact Go.stp (fun t r => XS.sipush X.here hx rfl (hb hc hd) <| hz ▸ r) k
theorem gAconstNull (W : Wk l Z EL own nm cd ml ret R ws h0 K sf T h cells slots)  (hd : decode cd pc = .ok (.aconst_null, 1))  (hp : pc + 1 = pc') (k : Go K P T pc' ls (.null :: st)) : Go K P T pc ls st := by
  obtain ⟨vm0, locs, k0, X, e, hx, ⟨hc, -⟩, -⟩ := W
  subst hp
  exact Go.stp (fun t r => XS.aconstNull X.here hx rfl (hb hc hd) r) k
theorem gLconst (W : Wk l Z EL own nm cd ml ret R ws h0 K sf T h cells slots) {i : Fin 2} {z : Int64} (hd : decode cd pc = .ok (.lconst i, 1)) (hz : (Int64.ofNat i.val) = z) (hp : pc + 1 = pc') (k : Go K P T pc' ls (.long z :: st)) : Go K P T pc ls st := by
  obtain ⟨vm0, locs, k0, X, e, hx, ⟨hc, -⟩, -⟩ := W
  subst hp
  exact Go.stp (fun t r => XS.lconst X.here hx rfl (hb hc hd) <| hz ▸ r) k
theorem gIadd (W : Wk l Z EL own nm cd ml ret R ws h0 K sf T h cells slots) {x y z : Int32} (hd : decode cd pc = .ok (.iadd, 1)) (hz : x + y = z) (hp : pc + 1 = pc') (k : Go K P T pc' ls (.int z :: st)) : Go K P T pc ls (.int y :: .int x :: st) := by
  obtain ⟨vm0, locs, k0, X, e, hx, ⟨hc, -⟩, -⟩ := W
  subst hp
  exact Go.stp (fun t r => XS.iadd X.here hx rfl (hb hc hd) rfl <| hz ▸ r) k
theorem gIsub (W : Wk l Z EL own nm cd ml ret R ws h0 K sf T h cells slots) {x y z : Int32} (hd : decode cd pc = .ok (.isub, 1)) (hz : x - y = z) (hp : pc + 1 = pc') (k : Go K P T pc' ls (.int z :: st)) : Go K P T pc ls (.int y :: .int x :: st) := by
  obtain ⟨vm0, locs, k0, X, e, hx, ⟨hc, -⟩, -⟩ := W
  subst hp
  exact Go.stp (fun t r => XS.isub X.here hx rfl (hb hc hd) rfl <| hz ▸ r) k
theorem gImul (W : Wk l Z EL own nm cd ml ret R ws h0 K sf T h cells slots) {x y z : Int32} (hd : decode cd pc = .ok (.imul, 1)) (hz : x * y = z) (hp : pc + 1 = pc') (k : Go K P T pc' ls (.int z :: st)) : Go K P T pc ls (.int y :: .int x :: st) := by
  obtain ⟨vm0, locs, k0, X, e, hx, ⟨hc, -⟩, -⟩ := W
  subst hp
  exact Go.stp (fun t r => XS.imul X.here hx rfl (hb hc hd) rfl <| hz ▸ r) k
theorem gIand (W : Wk l Z EL own nm cd ml ret R ws h0 K sf T h cells slots) {x y z : Int32} (hd : decode cd pc = .ok (.iand, 1)) (hz : x &&& y = z) (hp : pc + 1 = pc') (k : Go K P T pc' ls (.int z :: st)) : Go K P T pc ls (.int y :: .int x :: st) := by
  obtain ⟨vm0, locs, k0, X, e, hx, ⟨hc, -⟩, -⟩ := W
  subst hp
  exact Go.stp (fun t r => XS.iand X.here hx rfl (hb hc hd) rfl <| hz ▸ r) k
theorem gIor (W : Wk l Z EL own nm cd ml ret R ws h0 K sf T h cells slots) {x y z : Int32} (hd : decode cd pc = .ok (.ior, 1)) (hz : x ||| y = z) (hp : pc + 1 = pc') (k : Go K P T pc' ls (.int z :: st)) : Go K P T pc ls (.int y :: .int x :: st) := by
  obtain ⟨vm0, locs, k0, X, e, hx, ⟨hc, -⟩, -⟩ := W
  subst hp
  exact Go.stp (fun t r => XS.ior X.here hx rfl (hb hc hd) rfl <| hz ▸ r) k
theorem gIxor (W : Wk l Z EL own nm cd ml ret R ws h0 K sf T h cells slots) {x y z : Int32} (hd : decode cd pc = .ok (.ixor, 1)) (hz : x ^^^ y = z) (hp : pc + 1 = pc') (k : Go K P T pc' ls (.int z :: st)) : Go K P T pc ls (.int y :: .int x :: st) := by
  obtain ⟨vm0, locs, k0, X, e, hx, ⟨hc, -⟩, -⟩ := W
  subst hp
  exact Go.stp (fun t r => XS.ixor X.here hx rfl (hb hc hd) rfl <| hz ▸ r) k
theorem gIshl (W : Wk l Z EL own nm cd ml ret R ws h0 K sf T h cells slots) {x y z : Int32} (hd : decode cd pc = .ok (.ishl, 1)) (hz : x <<< (y &&& 31) = z) (hp : pc + 1 = pc') (k : Go K P T pc' ls (.int z :: st)) : Go K P T pc ls (.int y :: .int x :: st) := by
  obtain ⟨vm0, locs, k0, X, e, hx, ⟨hc, -⟩, -⟩ := W
  subst hp
  exact Go.stp (fun t r => XS.ishl X.here hx rfl (hb hc hd) rfl <| hz ▸ r) k
theorem gIshr (W : Wk l Z EL own nm cd ml ret R ws h0 K sf T h cells slots) {x y z : Int32} (hd : decode cd pc = .ok (.ishr, 1)) (hz : x >>> (y &&& 31) = z) (hp : pc + 1 = pc') (k : Go K P T pc' ls (.int z :: st)) : Go K P T pc ls (.int y :: .int x :: st) := by
  obtain ⟨vm0, locs, k0, X, e, hx, ⟨hc, -⟩, -⟩ := W
  subst hp
  exact Go.stp (fun t r => XS.ishr X.here hx rfl (hb hc hd) rfl <| hz ▸ r) k
theorem gIushr (W : Wk l Z EL own nm cd ml ret R ws h0 K sf T h cells slots) {x y z : Int32} (hd : decode cd pc = .ok (.iushr, 1)) (hz : (x.toUInt32 >>> (y &&& 31).toUInt32).toInt32 = z) (hp : pc + 1 = pc') (k : Go K P T pc' ls (.int z :: st)) : Go K P T pc ls (.int y :: .int x :: st) := by
  obtain ⟨vm0, locs, k0, X, e, hx, ⟨hc, -⟩, -⟩ := W
  subst hp
  exact Go.stp (fun t r => XS.iushr X.here hx rfl (hb hc hd) rfl <| hz ▸ r) k
theorem gIdiv (W : Wk l Z EL own nm cd ml ret R ws h0 K sf T h cells slots) {x y z : Int32} (hd : decode cd pc = .ok (.idiv, 1)) (hy : y ≠ 0) (hz : x / y = z) (hp : pc + 1 = pc') (k : Go K P T pc' ls (.int z :: st)) : Go K P T pc ls (.int y :: .int x :: st) := by
  obtain ⟨vm0, locs, k0, X, e, hx, ⟨hc, -⟩, -⟩ := W
  subst hp
  exact Go.stp (fun t r => XS.idiv X.here hx rfl (hb hc hd) rfl hy <| hz ▸ r) k
theorem gIrem (W : Wk l Z EL own nm cd ml ret R ws h0 K sf T h cells slots) {x y z : Int32} (hd : decode cd pc = .ok (.irem, 1)) (hy : y ≠ 0) (hz : x % y = z) (hp : pc + 1 = pc') (k : Go K P T pc' ls (.int z :: st)) : Go K P T pc ls (.int y :: .int x :: st) := by
  obtain ⟨vm0, locs, k0, X, e, hx, ⟨hc, -⟩, -⟩ := W
  subst hp
  exact Go.stp (fun t r => iremM X hx rfl (hb hc hd) rfl hy <| hz ▸ r) k
theorem gIneg (W : Wk l Z EL own nm cd ml ret R ws h0 K sf T h cells slots) {x z : Int32} (hd : decode cd pc = .ok (.ineg, 1)) (hz : -x = z) (hp : pc + 1 = pc') (k : Go K P T pc' ls (.int z :: st)) : Go K P T pc ls (.int x :: st) := by
  obtain ⟨vm0, locs, k0, X, e, hx, ⟨hc, -⟩, -⟩ := W
  subst hp
  exact Go.stp (fun t r => XS.ineg X.here hx rfl (hb hc hd) rfl <| hz ▸ r) k
theorem gI2B (W : Wk l Z EL own nm cd ml ret R ws h0 K sf T h cells slots) {x z : Int32} (hd : decode cd pc = .ok (.i2b, 1)) (hz : x.toInt8.toInt32 = z) (hp : pc + 1 = pc') (k : Go K P T pc' ls (.int z :: st)) : Go K P T pc ls (.int x :: st) := by
  obtain ⟨vm0, locs, k0, X, e, hx, ⟨hc, -⟩, -⟩ := W
  subst hp
  exact Go.stp (fun t r => XS.i2b X.here hx rfl (hb hc hd) rfl <| hz ▸ r) k
theorem gI2C (W : Wk l Z EL own nm cd ml ret R ws h0 K sf T h cells slots) {x z : Int32} (hd : decode cd pc = .ok (.i2c, 1)) (hz : x.toUInt32.toUInt16.toUInt32.toInt32 = z) (hp : pc + 1 = pc') (k : Go K P T pc' ls (.int z :: st)) : Go K P T pc ls (.int x :: st) := by
  obtain ⟨vm0, locs, k0, X, e, hx, ⟨hc, -⟩, -⟩ := W
  subst hp
  exact Go.stp (fun t r => XS.i2c X.here hx rfl (hb hc hd) rfl <| hz ▸ r) k
theorem gI2S (W : Wk l Z EL own nm cd ml ret R ws h0 K sf T h cells slots) {x z : Int32} (hd : decode cd pc = .ok (.i2s, 1)) (hz : x.toInt16.toInt32 = z) (hp : pc + 1 = pc') (k : Go K P T pc' ls (.int z :: st)) : Go K P T pc ls (.int x :: st) := by
  obtain ⟨vm0, locs, k0, X, e, hx, ⟨hc, -⟩, -⟩ := W
  subst hp
  exact Go.stp (fun t r => XS.i2s X.here hx rfl (hb hc hd) rfl <| hz ▸ r) k
theorem gI2L (W : Wk l Z EL own nm cd ml ret R ws h0 K sf T h cells slots) {x : Int32} {z : Int64} (hd : decode cd pc = .ok (.i2l, 1)) (hz : x.toInt64 = z) (hp : pc + 1 = pc') (k : Go K P T pc' ls (.long z :: st)) : Go K P T pc ls (.int x :: st) := by
  obtain ⟨vm0, locs, k0, X, e, hx, ⟨hc, -⟩, -⟩ := W
  subst hp
  exact Go.stp (fun t r => XS.i2l X.here hx rfl (hb hc hd) rfl <| hz ▸ r) k
theorem gL2I (W : Wk l Z EL own nm cd ml ret R ws h0 K sf T h cells slots) {x : Int64} {z : Int32} (hd : decode cd pc = .ok (.l2i, 1)) (hz : x.toInt32 = z) (hp : pc + 1 = pc') (k : Go K P T pc' ls (.int z :: st)) : Go K P T pc ls (.long x :: st) := by
  obtain ⟨vm0, locs, k0, X, e, hx, ⟨hc, -⟩, -⟩ := W
  subst hp
  exact Go.stp (fun t r => XS.l2i X.here hx rfl (hb hc hd) rfl <| hz ▸ r) k
theorem gLadd (W : Wk l Z EL own nm cd ml ret R ws h0 K sf T h cells slots) {x y z : Int64} (hd : decode cd pc = .ok (.ladd, 1)) (hz : x + y = z) (hp : pc + 1 = pc') (k : Go K P T pc' ls (.long z :: st)) : Go K P T pc ls (.long y :: .long x :: st) := by
  obtain ⟨vm0, locs, k0, X, e, hx, ⟨hc, -⟩, -⟩ := W
  subst hp
  exact Go.stp (fun t r => XS.ladd X.here hx rfl (hb hc hd) rfl <| hz ▸ r) k
theorem gLsub (W : Wk l Z EL own nm cd ml ret R ws h0 K sf T h cells slots) {x y z : Int64} (hd : decode cd pc = .ok (.lsub, 1)) (hz : x - y = z) (hp : pc + 1 = pc') (k : Go K P T pc' ls (.long z :: st)) : Go K P T pc ls (.long y :: .long x :: st) := by
  obtain ⟨vm0, locs, k0, X, e, hx, ⟨hc, -⟩, -⟩ := W
  subst hp
  exact Go.stp (fun t r => XS.lsub X.here hx rfl (hb hc hd) rfl <| hz ▸ r) k
theorem gLmul (W : Wk l Z EL own nm cd ml ret R ws h0 K sf T h cells slots) {x y z : Int64} (hd : decode cd pc = .ok (.lmul, 1)) (hz : x * y = z) (hp : pc + 1 = pc') (k : Go K P T pc' ls (.long z :: st)) : Go K P T pc ls (.long y :: .long x :: st) := by
  obtain ⟨vm0, locs, k0, X, e, hx, ⟨hc, -⟩, -⟩ := W
  subst hp
  exact Go.stp (fun t r => XS.lmul X.here hx rfl (hb hc hd) rfl <| hz ▸ r) k
theorem gLand (W : Wk l Z EL own nm cd ml ret R ws h0 K sf T h cells slots) {x y z : Int64} (hd : decode cd pc = .ok (.land, 1)) (hz : x &&& y = z) (hp : pc + 1 = pc') (k : Go K P T pc' ls (.long z :: st)) : Go K P T pc ls (.long y :: .long x :: st) := by
  obtain ⟨vm0, locs, k0, X, e, hx, ⟨hc, -⟩, -⟩ := W
  subst hp
  exact Go.stp (fun t r => XS.land X.here hx rfl (hb hc hd) rfl <| hz ▸ r) k
theorem gLor (W : Wk l Z EL own nm cd ml ret R ws h0 K sf T h cells slots) {x y z : Int64} (hd : decode cd pc = .ok (.lor, 1)) (hz : x ||| y = z) (hp : pc + 1 = pc') (k : Go K P T pc' ls (.long z :: st)) : Go K P T pc ls (.long y :: .long x :: st) := by
  obtain ⟨vm0, locs, k0, X, e, hx, ⟨hc, -⟩, -⟩ := W
  subst hp
  exact Go.stp (fun t r => XS.lor X.here hx rfl (hb hc hd) rfl <| hz ▸ r) k
theorem gLxor (W : Wk l Z EL own nm cd ml ret R ws h0 K sf T h cells slots) {x y z : Int64} (hd : decode cd pc = .ok (.lxor, 1)) (hz : x ^^^ y = z) (hp : pc + 1 = pc') (k : Go K P T pc' ls (.long z :: st)) : Go K P T pc ls (.long y :: .long x :: st) := by
  obtain ⟨vm0, locs, k0, X, e, hx, ⟨hc, -⟩, -⟩ := W
  subst hp
  exact Go.stp (fun t r => XS.lxor X.here hx rfl (hb hc hd) rfl <| hz ▸ r) k
theorem gLshl (W : Wk l Z EL own nm cd ml ret R ws h0 K sf T h cells slots) {x z : Int64} {y : Int32} (hd : decode cd pc = .ok (.lshl, 1)) (hz : x <<< (y &&& 0x3f).toInt64 = z) (hp : pc + 1 = pc') (k : Go K P T pc' ls (.long z :: st)) : Go K P T pc ls (.int y :: .long x :: st) := by
  obtain ⟨vm0, locs, k0, X, e, hx, ⟨hc, -⟩, -⟩ := W
  subst hp
  exact Go.stp (fun t r => XS.lshl X.here hx rfl (hb hc hd) rfl <| hz ▸ r) k
theorem gLshr (W : Wk l Z EL own nm cd ml ret R ws h0 K sf T h cells slots) {x z : Int64} {y : Int32} (hd : decode cd pc = .ok (.lshr, 1)) (hz : x >>> (y &&& 0x3f).toInt64 = z) (hp : pc + 1 = pc') (k : Go K P T pc' ls (.long z :: st)) : Go K P T pc ls (.int y :: .long x :: st) := by
  obtain ⟨vm0, locs, k0, X, e, hx, ⟨hc, -⟩, -⟩ := W
  subst hp
  exact Go.stp (fun t r => XS.lshr X.here hx rfl (hb hc hd) rfl <| hz ▸ r) k
theorem gLushr (W : Wk l Z EL own nm cd ml ret R ws h0 K sf T h cells slots) {x z : Int64} {y : Int32} (hd : decode cd pc = .ok (.lushr, 1)) (hz : (x.toUInt64 >>> (y &&& 0x3f).toInt64.toUInt64).toInt64 = z) (hp : pc + 1 = pc') (k : Go K P T pc' ls (.long z :: st)) : Go K P T pc ls (.int y :: .long x :: st) := by
  obtain ⟨vm0, locs, k0, X, e, hx, ⟨hc, -⟩, -⟩ := W
  subst hp
  exact Go.stp (fun t r => XS.lushr X.here hx rfl (hb hc hd) rfl <| hz ▸ r) k
theorem gLcmp (W : Wk l Z EL own nm cd ml ret R ws h0 K sf T h cells slots) {x y : Int64} {z : Int32} (hd : decode cd pc = .ok (.lcmp, 1)) (hz : lcmpW x y = z) (hp : pc + 1 = pc') (k : Go K P T pc' ls (.int z :: st)) : Go K P T pc ls (.long y :: .long x :: st) := by
  obtain ⟨vm0, locs, k0, X, e, hx, ⟨hc, -⟩, -⟩ := W
  subst hp
  exact Go.stp (fun t r => XS.lcmp X.here hx rfl (hb hc hd) rfl (by subst hz; exact r)) k
theorem gDup (W : Wk l Z EL own nm cd ml ret R ws h0 K sf T h cells slots) {x : Value} (hd : decode cd pc = .ok (.dup, 1)) (hc1 : x.category = 1) (hp : pc + 1 = pc') (k : Go K P T pc' ls (x :: x :: st)) : Go K P T pc ls (x :: st) := by
  obtain ⟨vm0, locs, k0, X, e, hx, ⟨hc, -⟩, -⟩ := W
  subst hp
  exact Go.stp (fun t r => XS.dup X.here hx rfl (hb hc hd) rfl hc1 r) k
theorem gPop (W : Wk l Z EL own nm cd ml ret R ws h0 K sf T h cells slots) {x : Value} (hd : decode cd pc = .ok (.pop, 1)) (hc1 : x.category = 1) (hp : pc + 1 = pc') (k : Go K P T pc' ls st) : Go K P T pc ls (x :: st) := by
  obtain ⟨vm0, locs, k0, X, e, hx, ⟨hc, -⟩, -⟩ := W
  subst hp
  exact Go.stp (fun t r => XS.pop X.here hx rfl (hb hc hd) rfl hc1 r) k
theorem gIstoreN (W : Wk l Z EL own nm cd ml ret R ws h0 K sf T h cells slots) {i : Fin 4} {x : Int32} {ls' : Array Slot} (hd : decode cd pc = .ok (.istore_n i, 1)) (hl : storeLocals ls i.val (.int x) = some ls') (hp : pc + 1 = pc') (k : Go K P T pc' ls' st) : Go K P T pc ls (.int x :: st) := by
  obtain ⟨vm0, locs, k0, X, e, hx, ⟨hc, -⟩, -⟩ := W
  subst hp
  exact Go.stp (fun t r => XS.istoreN X.here hx rfl (hb hc hd) rfl hl r) k
theorem gIstore (W : Wk l Z EL own nm cd ml ret R ws h0 K sf T h cells slots) {i : Nat} {x : Int32} {ls' : Array Slot} (hd : decode cd pc = .ok (.istore i, 2)) (hl : storeLocals ls i (.int x) = some ls') (hp : pc + 2 = pc') (k : Go K P T pc' ls' st) : Go K P T pc ls (.int x :: st) := by
  obtain ⟨vm0, locs, k0, X, e, hx, ⟨hc, -⟩, -⟩ := W
  subst hp
  exact Go.stp (fun t r => XS.istore X.here hx rfl (hb hc hd) rfl hl r) k
theorem gAstoreN (W : Wk l Z EL own nm cd ml ret R ws h0 K sf T h cells slots) {i : Fin 4} {x : Value} {ls' : Array Slot} (hd : decode cd pc = .ok (.astore_n i, 1)) (hv : x.isRef = true) (hl : storeLocals ls i.val x = some ls') (hp : pc + 1 = pc') (k : Go K P T pc' ls' st) : Go K P T pc ls (x :: st) := by
  obtain ⟨vm0, locs, k0, X, e, hx, ⟨hc, -⟩, -⟩ := W
  subst hp
  exact Go.stp (fun t r => XS.astoreN X.here hx rfl (hb hc hd) rfl hv hl r) k
theorem gAstore (W : Wk l Z EL own nm cd ml ret R ws h0 K sf T h cells slots) {i : Nat} {x : Value} {ls' : Array Slot} (hd : decode cd pc = .ok (.astore i, 2)) (hv : x.isRef = true) (hl : storeLocals ls i x = some ls') (hp : pc + 2 = pc') (k : Go K P T pc' ls' st) : Go K P T pc ls (x :: st) := by
  obtain ⟨vm0, locs, k0, X, e, hx, ⟨hc, -⟩, -⟩ := W
  subst hp
  exact Go.stp (fun t r => XS.astore X.here hx rfl (hb hc hd) rfl hv hl r) k
theorem gLstoreN (W : Wk l Z EL own nm cd ml ret R ws h0 K sf T h cells slots) {i : Fin 4} {x : Int64} {ls' : Array Slot} (hd : decode cd pc = .ok (.lstore_n i, 1)) (hl : storeLocals ls i.val (.long x) = some ls') (hp : pc + 1 = pc') (k : Go K P T pc' ls' st) : Go K P T pc ls (.long x :: st) := by
  obtain ⟨vm0, locs, k0, X, e, hx, ⟨hc, -⟩, -⟩ := W
  subst hp
  exact Go.stp (fun t r => XS.lstoreN X.here hx rfl (hb hc hd) rfl hl r) k
theorem gLstore (W : Wk l Z EL own nm cd ml ret R ws h0 K sf T h cells slots) {i : Nat} {x : Int64} {ls' : Array Slot} (hd : decode cd pc = .ok (.lstore i, 2)) (hl : storeLocals ls i (.long x) = some ls') (hp : pc + 2 = pc') (k : Go K P T pc' ls' st) : Go K P T pc ls (.long x :: st) := by
  obtain ⟨vm0, locs, k0, X, e, hx, ⟨hc, -⟩, -⟩ := W
  subst hp
  exact Go.stp (fun t r => XS.lstore X.here hx rfl (hb hc hd) rfl hl r) k
theorem gIinc (W : Wk l Z EL own nm cd ml ret R ws h0 K sf T h cells slots) {i : Nat} {c0 : Int} {x z : Int32} {ls' : Array Slot} (hd : decode cd pc = .ok (.iinc i c0, 3)) (hl : ls[i]? = some (.val (.int x))) (hz : x + Int32.ofInt c0 = z) (hl2 : storeLocals ls i (.int z) = some ls') (hp : pc + 3 = pc') (k : Go K P T pc' ls' st) : Go K P T pc ls st := by
  obtain ⟨vm0, locs, k0, X, e, hx, ⟨hc, -⟩, -⟩ := W
  subst hp
  exact Go.stp (fun t r => XS.iinc X.here hx rfl (hb hc hd) hl (hz ▸ hl2) r) k
theorem gGoto (W : Wk l Z EL own nm cd ml ret R ws h0 K sf T h cells slots) {o : Int} (hd : decode cd pc = .ok (.goto o, 3)) (ho : 0 ≤ (pc : Int) + o) (hp : ((pc : Int) + o).toNat = pc') (k : Go K P T pc' ls st) : Go K P T pc ls st := by
  obtain ⟨vm0, locs, k0, X, e, hx, ⟨hc, -⟩, -⟩ := W
  exact Go.stp (fun t r => XS.goto X.here hx rfl (pc0 := pc) rfl (hb hc hd) ho hp r) k
theorem gIfYes (W : Wk l Z EL own nm cd ml ret R ws h0 K sf T h cells slots) {cn : ClassFile.Cond} {o : Int} {x : Int32} (hd : decode cd pc = .ok (.ifCond cn o, 3)) (hq : ifCond.holds cn x = true) (ho : 0 ≤ (pc : Int) + o) (hp : ((pc : Int) + o).toNat = pc') (k : Go K P T pc' ls st) : Go K P T pc ls (.int x :: st) := by
  obtain ⟨vm0, locs, k0, X, e, hx, ⟨hc, -⟩, -⟩ := W
  exact Go.stp (fun t r => XS.ifYes X.here hx rfl (pc0 := pc) rfl (hb hc hd) rfl hq ho hp r) k
theorem gIfNo (W : Wk l Z EL own nm cd ml ret R ws h0 K sf T h cells slots) {cn : ClassFile.Cond} {o : Int} {x : Int32} (hd : decode cd pc = .ok (.ifCond cn o, 3)) (hq : ifCond.holds cn x = false) (hp : pc + 3 = pc') (k : Go K P T pc' ls st) : Go K P T pc ls (.int x :: st) := by
  obtain ⟨vm0, locs, k0, X, e, hx, ⟨hc, -⟩, -⟩ := W
  subst hp
  exact Go.stp (fun t r => XS.ifNo X.here hx rfl (hb hc hd) rfl hq r) k
theorem gIcmpYes (W : Wk l Z EL own nm cd ml ret R ws h0 K sf T h cells slots) {cn : ClassFile.Cond} {o : Int} {x y : Int32} (hd : decode cd pc = .ok (.if_icmp cn o, 3)) (hq : if_icmp.holds cn x y = true) (ho : 0 ≤ (pc : Int) + o) (hp : ((pc : Int) + o).toNat = pc') (k : Go K P T pc' ls st) : Go K P T pc ls (.int y :: .int x :: st) := by
  obtain ⟨vm0, locs, k0, X, e, hx, ⟨hc, -⟩, -⟩ := W
  exact Go.stp (fun t r => XS.icmpYes X.here hx rfl (pc0 := pc) rfl (hb hc hd) rfl hq ho hp r) k
theorem gIcmpNo (W : Wk l Z EL own nm cd ml ret R ws h0 K sf T h cells slots) {cn : ClassFile.Cond} {o : Int} {x y : Int32} (hd : decode cd pc = .ok (.if_icmp cn o, 3)) (hq : if_icmp.holds cn x y = false) (hp : pc + 3 = pc') (k : Go K P T pc' ls st) : Go K P T pc ls (.int y :: .int x :: st) := by
  obtain ⟨vm0, locs, k0, X, e, hx, ⟨hc, -⟩, -⟩ := W
  subst hp
  exact Go.stp (fun t r => XS.icmpNo X.here hx rfl (hb hc hd) rfl hq r) k
theorem gIfnullYes (W : Wk l Z EL own nm cd ml ret R ws h0 K sf T h cells slots) {o : Int} (hd : decode cd pc = .ok (.ifnull o, 3)) (ho : 0 ≤ (pc : Int) + o) (hp : ((pc : Int) + o).toNat = pc') (k : Go K P T pc' ls st) : Go K P T pc ls (.null :: st) := by
  obtain ⟨vm0, locs, k0, X, e, hx, ⟨hc, -⟩, -⟩ := W
  exact Go.stp (fun t r => XS.ifnullYes X.here hx rfl (pc0 := pc) rfl (hb hc hd) rfl ho hp r) k
theorem gIfnullNo (W : Wk l Z EL own nm cd ml ret R ws h0 K sf T h cells slots) {o : Int} {b : Addr} (hd : decode cd pc = .ok (.ifnull o, 3))  (hp : pc + 3 = pc') (k : Go K P T pc' ls st) : Go K P T pc ls (.ref b :: st) := by
  obtain ⟨vm0, locs, k0, X, e, hx, ⟨hc, -⟩, -⟩ := W
  subst hp
  exact Go.stp (fun t r => XS.ifnullNo X.here hx rfl (hb hc hd) rfl r) k
theorem gIfnonnullYes (W : Wk l Z EL own nm cd ml ret R ws h0 K sf T h cells slots) {o : Int} {b : Addr} (hd : decode cd pc = .ok (.ifnonnull o, 3)) (ho : 0 ≤ (pc : Int) + o) (hp : ((pc : Int) + o).toNat = pc') (k : Go K P T pc' ls st) : Go K P T pc ls (.ref b :: st) := by
  obtain ⟨vm0, locs, k0, X, e, hx, ⟨hc, -⟩, -⟩ := W
  exact Go.stp (fun t r => XS.ifnonnullYes X.here hx rfl (pc0 := pc) rfl (hb hc hd) rfl ho hp r) k
theorem gIfnonnullNo (W : Wk l Z EL own nm cd ml ret R ws h0 K sf T h cells slots) {o : Int} (hd : decode cd pc = .ok (.ifnonnull o, 3))  (hp : pc + 3 = pc') (k : Go K P T pc' ls st) : Go K P T pc ls (.null :: st) := by
  obtain ⟨vm0, locs, k0, X, e, hx, ⟨hc, -⟩, -⟩ := W
  subst hp
  exact Go.stp (fun t r => XS.ifnonnullNo X.here hx rfl (hb hc hd) rfl r) k
theorem gAcmp (W : Wk l Z EL own nm cd ml ret R ws h0 K sf T h cells slots) {cn : ACond} {o : Int} {x y : Value} {same : Bool} (hd : decode cd pc = .ok (.if_acmp cn o, 3)) (h1 : x.isRef = true) (h2 : y.isRef = true) (hq : decide (x = y) = same) (ho : 0 ≤ (pc : Int) + o) (hp : pc' = if acV cn same = true then ((pc : Int) + o).toNat else pc + 3) (k : Go K P T pc' ls st) : Go K P T pc ls (y :: x :: st) := by
  obtain ⟨vm0, locs, k0, X, e, hx, ⟨hc, -⟩, -⟩ := W
  exact Go.stp (fun t r => acmp X hx rfl h1 h2 (pc0 := pc) rfl (hb hc hd) rfl hq ho hp r) k
end Pure
section Laws
variable {l : Launch} {Z : State} {EL : List (String × Nat)} {own nm : String} {cd : ByteArray} {ml : Nat} {ret : Option FieldType} {R : Room} {ws : List Addr} {h0 : Heap} {K : Cx} {sf : List Addr} {T : State} {h h' : Heap} {cells slots : Nat} {P : Outcome → State → Prop} {pc pc' : Nat} {ls : Array Slot} {st : List Value} {a0 : Array Value}
/-- getfield -/
theorem wGetF (W : Wk l Z EL own nm cd ml ret R ws h0 K sf T h cells slots) {R0 O n d : String} {index : Nat} (hd : decode cd pc = .ok (.getfield index, 3)) (w : (Cond.fieldLink own index R0 n d).before a0 Z = true) (via : Via Z R0 O n d) {a : Addr} {v : Value} (F : Fld Z h a O n d v) (hp : pc + 3 = pc')
    (k : ∀ T', Wk l Z EL own nm cd ml ret R ws h0 K sf T' h cells slots → Go K P T' pc' ls (v :: st)) : Go K P T pc ls (.ref a :: st) := by
  obtain ⟨vm0, locs, k0, X, e, hx, hc, e0, hZ, hown, r⟩ := W
  subst hp
  obtain ⟨T', X', e', f⟩ := getF X hx hZ hown (host := "") (Or.inl w) via e F (g := mkF K.2.2.2.1 pc ls (.ref a :: st)) rfl rfl (hb hc.1 hd)
  exact Go.stp f (k T' ⟨vm0, locs, k0, X', e', hx, hc, e0, hZ, hown, r⟩)
/-- getstatic, of a static that stands as at the law's start -/
theorem wGetS (W : Wk l Z EL own nm cd ml ret R ws h0 K sf T h cells slots) {R0 O n d : String} {index : Nat} (hd : decode cd pc = .ok (.getstatic index, 3)) (w : (Cond.fieldLink own index R0 n d).before a0 Z = true) (via : Via Z R0 O n d) {v : Value} (F : Sta Z Z.heap O n d v) (hp : pc + 3 = pc')
    (k : ∀ T', Wk l Z EL own nm cd ml ret R ws h0 K sf T' h cells slots → Go K P T' pc' ls (v :: st)) : Go K P T pc ls st := by
  have hO := W.old
  obtain ⟨vm0, locs, k0, X, e, hx, hc, e0, hZ, hown, r⟩ := W
  subst hp
  obtain ⟨T', X', e', f⟩ := getS X hx hZ hown w via (host := "") e (Sta.ext hO.2 F) (g := mkF K.2.2.2.1 pc ls st) rfl (hb hc.1 hd)
  exact Go.stp f (k T' ⟨vm0, locs, k0, X', e', hx, hc, e0, hZ, hown, r⟩)
/-- checkcast that holds -/
theorem wCast (W : Wk l Z EL own nm cd ml ret R ws h0 K sf T h cells slots) {C : String} {index : Nat} (hd : decode cd pc = .ok (.checkcast index, 3)) (w : (Cond.classLink own index C).before a0 Z = true) {a : Addr} (F : Ins Z h a C true) (hp : pc + 3 = pc')
    (k : ∀ T', Wk l Z EL own nm cd ml ret R ws h0 K sf T' h cells slots → Go K P T' pc' ls (.ref a :: st)) : Go K P T pc ls (.ref a :: st) := by
  obtain ⟨vm0, locs, k0, X, e, hx, hc, e0, hZ, hown, r⟩ := W
  subst hp
  obtain ⟨T', X', e', f⟩ := castY X hx hZ hown w e F (g := mkF K.2.2.2.1 pc ls (.ref a :: st)) rfl rfl (hb hc.1 hd)
  exact Go.stp f (k T' ⟨vm0, locs, k0, X', e', hx, hc, e0, hZ, hown, r⟩)
/-- instanceof that holds -/
theorem wInst (W : Wk l Z EL own nm cd ml ret R ws h0 K sf T h cells slots) {C : String} {index : Nat} (hd : decode cd pc = .ok (.instanceof index, 3)) (w : (Cond.classLink own index C).before a0 Z = true) {a : Addr} (F : Ins Z h a C true) (hp : pc + 3 = pc')
    (k : ∀ T', Wk l Z EL own nm cd ml ret R ws h0 K sf T' h cells slots → Go K P T' pc' ls (.int 1 :: st)) : Go K P T pc ls (.ref a :: st) := by
  obtain ⟨vm0, locs, k0, X, e, hx, hc, e0, hZ, hown, r⟩ := W
  subst hp
  obtain ⟨T', X', e', f⟩ := instY X hx hZ hown w e F (g := mkF K.2.2.2.1 pc ls (.ref a :: st)) rfl rfl (hb hc.1 hd)
  exact Go.stp f (k T' ⟨vm0, locs, k0, X', e', hx, hc, e0, hZ, hown, r⟩)
theorem wExt {vm0 : Vm} {s : State} (hC : CHr Z EL s.vm h0 vm0 h) (hs : ∀ x ∈ sf, Safe Z EL vm0 h x ∧ x < h.size ∧ (x ∈ ws ∨ h0.size ≤ x)) (E : Ext h h') :
    CHr Z EL s.vm h0 vm0 h' ∧ ∀ x ∈ sf, Safe Z EL vm0 h' x ∧ x < h'.size ∧ (x ∈ ws ∨ h0.size ≤ x) :=
  ⟨hC.trans (CHr.ext E hC.1), fun x q => ⟨Safe.ext E hC.1 (hs x q).1, Nat.lt_of_lt_of_le (hs x q).2.1 E.1, (hs x q).2.2⟩⟩
/-- new -/
theorem wNewO (W : Wk l Z EL own nm cd ml ret R ws h0 K sf T h cells slots) {C : String} {index n : Nat} (hd : decode cd pc = .ok (.new index, 3)) (w : (Cond.classLink own index C).before a0 Z = true) (wi : (Cond.instantiable C n).before a0 Z = true) (wz : (Cond.initialized C).before a0 Z = true) (hc' : cells + 1 ≤ R.cells) (hl : slots + n ≤ R.slots) (hp : pc + 3 = pc')
    (k : ∀ T' h' a, Wk l Z EL own nm cd ml ret R ws h0 K (a :: sf) T' h' (cells + 1) (slots + n) → Ext h h' → a = h.size → Exa Z h' a C → (∀ {O nm d : String} {ty : FieldType}, Laid Z a0 C O nm d → parseFieldDescriptor d = some ty → Fld Z h' a O nm d (defaultValue ty)) → Go K P T' pc' ls (.ref a :: st)) : Go K P T pc ls st := by
  have hg := W.grow
  obtain ⟨vm0, locs, k0, X, e, hx, hc, e0, hZ, hown, hS, hk, hL, hC, hO, hE, hw, hz, hs⟩ := W
  subst hp
  obtain ⟨T', h', X', e', E, A, D, -, f⟩ := newO X hx hZ hown w wi wz e (g := mkF K.2.2.2.1 pc ls st) rfl (hb hc.1 hd) hc' hl
  obtain ⟨hC', hs'⟩ := wExt (s := K.2.2.1) hC hs E
  refine Go.stp f (k T' h' h.size ⟨vm0, locs, k0, X', e', hx, hc, e0, hZ, hown, hS, Nat.le_trans hk E.1, hL, hC', hO.ext E, hE, hw, hz, fun x q => ?_⟩ E rfl A D)
  rcases List.mem_cons.mp q with rfl | q
  · exact ⟨Safe.ext E hC.1 (Safe.new (Nat.le_refl _)), A.lt, Or.inr hg⟩
  · exact hs' x q
/-- newarray -/
theorem wNewP (W : Wk l Z EL own nm cd ml ret R ws h0 K sf T h cells slots) {aty : ArrayType} (hd : decode cd pc = .ok (.newarray aty, 2)) (w : (Cond.arrayClass (newarray.typeOf aty)).before a0 Z = true) {n : Int32} (hn : ¬ n < 0) {cap : Nat} (hcap : n.toNatClampNeg ≤ cap) (hbig : cap * 8 ≤ 536870912) (hc' : cells + 1 ≤ R.cells) (hl : slots + cap ≤ R.slots) (hp : pc + 2 = pc')
    (k : ∀ T' h' a cA, Wk l Z EL own nm cd ml ret R ws h0 K (a :: sf) T' h' (cells + 1) (slots + cap) → Ext h h' → a = h.size → (∀ m : Nat, Arv Z h' a cA (newarray.typeOf aty) n (List.replicate m (defaultValue (newarray.typeOf aty))) (defaultValue (newarray.typeOf aty))) → Go K P T' pc' ls (.ref a :: st)) : Go K P T pc ls (.int n :: st) := by
  have hg := W.grow
  obtain ⟨vm0, locs, k0, X, e, hx, hc, e0, hZ, hown, hS, hk, hL, hC, hO, hE, hw, hz, hs⟩ := W
  subst hp
  obtain ⟨T', h', cA, X', e', E, A, f⟩ := newP X hx hZ w e (g := mkF K.2.2.2.1 pc ls (.int n :: st)) rfl (hb hc.1 hd) rfl hn hcap hbig hc' hl
  obtain ⟨hC', hs'⟩ := wExt (s := K.2.2.1) hC hs E
  have F := Arv.new A hn
  refine Go.stp f (k T' h' h.size cA ⟨vm0, locs, k0, X', e', hx, hc, e0, hZ, hown, hS, Nat.le_trans hk E.1, hL, hC', hO.ext E, hE, hw, hz, fun x q => ?_⟩ E rfl (fun m => F.pad (pad_rep [] _ m)))
  rcases List.mem_cons.mp q with rfl | q
  · exact ⟨Safe.ext E hC.1 (Safe.new (Nat.le_refl _)), A.lt, Or.inr hg⟩
  · exact hs' x q
/-- anewarray -/
theorem wNewR (W : Wk l Z EL own nm cd ml ret R ws h0 K sf T h cells slots) {C : String} {index : Nat} (hd : decode cd pc = .ok (.anewarray index, 3)) (w : (Cond.classLink own index C).before a0 Z = true) (w2 : (Cond.arrayOver (.object C)).before a0 Z = true) {n : Int32} (hn : ¬ n < 0) {cap : Nat} (hcap : n.toNatClampNeg ≤ cap) (hbig : cap * 8 ≤ 536870912) (hc' : cells + 1 ≤ R.cells) (hl : slots + cap ≤ R.slots) (hp : pc + 3 = pc')
    (k : ∀ T' h' a cA, Wk l Z EL own nm cd ml ret R ws h0 K (a :: sf) T' h' (cells + 1) (slots + cap) → Ext h h' → a = h.size → (∀ m : Nat, Arv Z h' a cA (.object C) n (List.replicate m .null) .null) → Ovr Z cA C → Go K P T' pc' ls (.ref a :: st)) : Go K P T pc ls (.int n :: st) := by
  have hg := W.grow
  obtain ⟨vm0, locs, k0, X, e, hx, hc, e0, hZ, hown, hS, hk, hL, hC, hO, hE, hw, hz, hs⟩ := W
  subst hp
  obtain ⟨T', h', cA, X', e', E, A, Ov, f⟩ := newR X hx hZ hown w w2 e (g := mkF K.2.2.2.1 pc ls (.int n :: st)) rfl (hb hc.1 hd) rfl hn hcap hbig hc' hl
  obtain ⟨hC', hs'⟩ := wExt (s := K.2.2.1) hC hs E
  have F := Arv.new A hn
  refine Go.stp f (k T' h' h.size cA ⟨vm0, locs, k0, X', e', hx, hc, e0, hZ, hown, hS, Nat.le_trans hk E.1, hL, hC', hO.ext E, hE, hw, hz, fun x q => ?_⟩ E rfl (fun m => F.pad (pad_rep [] _ m)) Ov)
  rcases List.mem_cons.mp q with rfl | q
  · exact ⟨Safe.ext E hC.1 (Safe.new (Nat.le_refl _)), A.lt, Or.inr hg⟩
  · exact hs' x q
theorem wWr {vm0 : Vm} {s : State} {a : Addr} {sl : Nat} {v : Value} {locs : List Loc} (hC : CHr Z EL s.vm h0 vm0 h) (hs : ∀ x ∈ sf, Safe Z EL vm0 h x ∧ x < h.size ∧ (x ∈ ws ∨ h0.size ≤ x)) (hL : ∀ x ∈ locs, x.base ∈ ws ∨ h0.size ≤ x.base) (hO : Old Z Z.heap.size h) (hw : ∀ x ∈ ws, Z.heap.size ≤ x) (hz : Z.heap.size ≤ h0.size) (ha : a ∈ sf) (Wr' : Wr h h' a sl v) :
    CHr Z EL s.vm h0 vm0 h' ∧ (∀ x ∈ sf, Safe Z EL vm0 h' x ∧ x < h'.size ∧ (x ∈ ws ∨ h0.size ≤ x)) ∧ (∀ x ∈ locs ++ [⟨a, sl⟩], x.base ∈ ws ∨ h0.size ≤ x.base) ∧ Old Z Z.heap.size h' := by
  obtain ⟨s1, s2, s3⟩ := hs a ha
  refine ⟨hC.trans (CHr.wr Wr' s1 hC.1), fun x q => ⟨Safe.wr Wr' s1 hC.1 (hs x q).1, by rw [Wr'.size]; exact (hs x q).2.1, (hs x q).2.2⟩, fun x q => ?_, hO.wr Wr' ?_⟩
  · rcases List.mem_append.mp q with q | q
    · exact hL x q
    · cases List.mem_singleton.mp q; exact s3
  · rcases s3 with z | z
    · exact hw a z
    · exact Nat.le_trans hz z
/-- putfield -/
theorem wPutF (W : Wk l Z EL own nm cd ml ret R ws h0 K sf T h cells slots) {R0 O n d C : String} {index kk : Nat} {ty : FieldType} (hd : decode cd pc = .ok (.putfield index, 3)) (w : (Cond.fieldLink own index R0 n d).before a0 Z = true) (via : Via Z R0 O n d) {a : Addr} {v old : Value} (ha : a ∈ sf) (F : Fld Z h a O n d old) (E : Exa Z h a C)
    (L : (Cond.lays C O n d).before a0 Z = true ∨ ((Cond.laysFinal C O n d).before a0 Z = true ∧ own = O ∧ nm = "<init>")) (wi : (Cond.instantiable C kk).before a0 Z = true) (hty : parseFieldDescriptor d = some ty) (hn : narrow ty v = v) (hf : fits ty v = true) (hp : pc + 3 = pc')
    (k : ∀ T' h', Wk l Z EL own nm cd ml ret R ws h0 K sf T' h' cells slots → Wr h h' a (Jvm.RoadKit.slotOf Z O n d) v → Go K P T' pc' ls st) : Go K P T pc ls (v :: .ref a :: st) := by
  obtain ⟨vm0, locs, k0, X, e, hx, hc, e0, hZ, hown, hS, hk, hL, hC, hO, hE, hw, hz, hs⟩ := W
  subst hp
  obtain ⟨T', h', X', e', Wr', f⟩ := putF X hx hZ hown (host := "") (Or.inl w) via e F E (L.imp id fun q => ⟨q.1, q.2.1, hc.2.2.2.2.trans q.2.2⟩) wi hty hn hf (g := mkF K.2.2.2.1 pc ls (v :: .ref a :: st)) rfl rfl (hb hc.1 hd)
  obtain ⟨hC', hs', hL', hO'⟩ := wWr (s := K.2.2.1) hC hs hL hO hw hz ha Wr'
  exact Go.stp f (k T' h' ⟨vm0, _, k0, X', e', hx, hc, e0, hZ, hown, hS, by rw [Wr'.size]; exact hk, hL', hC', hO', hE, hw, hz, hs'⟩ Wr')
/-- castore -/
theorem wStC (W : Wk l Z EL own nm cd ml ret R ws h0 K sf T h cells slots) (hd : decode cd pc = .ok (.castore, 1)) {a : Addr} (ha : a ∈ sf) {kA : ClassId} {z j x y : Int32} {vs : List Value} {dv : Value} (A : Arv Z h a kA .char z vs dv) (hj : ¬ j < 0 ∧ j < z) (hy : nar .char x = y) (i : Nat) (hi : j.toNatClampNeg = i) (hil : i < vs.length) (hp : pc + 1 = pc')
    (k : ∀ T' h', Wk l Z EL own nm cd ml ret R ws h0 K sf T' h' cells slots → Wr h h' a j.toNatClampNeg (.int y) → Arv Z h' a kA .char z (vs.set i (.int y)) dv → Go K P T' pc' ls st) : Go K P T pc ls (.int x :: .int j :: .ref a :: st) := by
  obtain ⟨vm0, locs, k0, X, e, hx, hc, e0, hZ, hown, hS, hk, hL, hC, hO, hE, hw, hz, hs⟩ := W
  subst hp hy
  obtain ⟨cl, A1, A2, A3, A4, A5, A6⟩ := A
  obtain ⟨T', h', X', e', Wr', f⟩ := stC X hx hZ e A1 (inb_of A3 hj) (g := mkF K.2.2.2.1 pc ls (.int x :: .int j :: .ref a :: st)) rfl rfl (hb hc.1 hd)
  obtain ⟨hC', hs', hL', hO'⟩ := wWr (s := K.2.2.1) hC hs hL hO hw hz ha Wr'
  exact Go.stp f (k T' h' ⟨vm0, _, k0, X', e', hx, hc, e0, hZ, hown, hS, by rw [Wr'.size]; exact hk, hL', hC', hO', hE, hw, hz, hs'⟩ Wr' (Arv.set A1 A2 A3 A4 A5 A6 (fits_nar_char x) Wr' i hi hil))
/-- bastore into a byte[] -/
theorem wStB (W : Wk l Z EL own nm cd ml ret R ws h0 K sf T h cells slots) (hd : decode cd pc = .ok (.bastore, 1)) {a : Addr} (ha : a ∈ sf) {kA : ClassId} {z j x y : Int32} {vs : List Value} {dv : Value} (A : Arv Z h a kA .byte z vs dv) (hj : ¬ j < 0 ∧ j < z) (hy : x.toInt8.toInt32 = y) (i : Nat) (hi : j.toNatClampNeg = i) (hil : i < vs.length) (hp : pc + 1 = pc')
    (k : ∀ T' h', Wk l Z EL own nm cd ml ret R ws h0 K sf T' h' cells slots → Wr h h' a j.toNatClampNeg (.int y) → Arv Z h' a kA .byte z (vs.set i (.int y)) dv → Go K P T' pc' ls st) : Go K P T pc ls (.int x :: .int j :: .ref a :: st) := by
  obtain ⟨vm0, locs, k0, X, e, hx, hc, e0, hZ, hown, hS, hk, hL, hC, hO, hE, hw, hz, hs⟩ := W
  subst hp hy
  obtain ⟨cl, A1, A2, A3, A4, A5, A6⟩ := A
  obtain ⟨T', h', X', e', Wr', f⟩ := stB X hx hZ e A1 (inb_of A3 hj) (g := mkF K.2.2.2.1 pc ls (.int x :: .int j :: .ref a :: st)) rfl rfl (hb hc.1 hd)
  obtain ⟨hC', hs', hL', hO'⟩ := wWr (s := K.2.2.1) hC hs hL hO hw hz ha Wr'
  exact Go.stp f (k T' h' ⟨vm0, _, k0, X', e', hx, hc, e0, hZ, hown, hS, by rw [Wr'.size]; exact hk, hL', hC', hO', hE, hw, hz, hs'⟩ Wr' (Arv.set A1 A2 A3 A4 A5 A6 (fits_nar_byte x) Wr' i hi hil))
/-- arraylength -/
theorem wLen (W : Wk l Z EL own nm cd ml ret R ws h0 K sf T h cells slots) (hd : decode cd pc = .ok (.arraylength, 1)) {a : Addr} {kA : ClassId} {ty : FieldType} {z : Int32} {vs : List Value} {dv : Value} (A : Arv Z h a kA ty z vs dv) (hp : pc + 1 = pc')
    (k : Go K P T pc' ls (.int z :: st)) : Go K P T pc ls (.ref a :: st) := by
  obtain ⟨vm0, locs, k0, X, e, hx, hc, e0, hZ, r⟩ := W
  subst hp
  obtain ⟨cl, A1, A2, A3, A4, -⟩ := A
  refine Go.stp (fun t q => ?_) k
  have ez : cl.slots.size.toInt32 = z := len_of A3 A4
  exact X.arraylength hx (by rw [e]; exact A1.1) (State.isArrayOf_alike hZ.alike A1.2.1) (g := mkF K.2.2.2.1 pc ls (.ref a :: st)) rfl rfl (hb hc.1 hd) _ (by rw [ez]; exact q)
/-- caload -/
theorem wLdC (W : Wk l Z EL own nm cd ml ret R ws h0 K sf T h cells slots) (hd : decode cd pc = .ok (.caload, 1)) {a : Addr} {kA : ClassId} {z j : Int32} {vs : List Value} {v dv : Value} (A : Arv Z h a kA .char z vs dv) (hj : ¬ j < 0 ∧ j < z) (hv : vs.getD j.toNatClampNeg dv = v) (hp : pc + 1 = pc')
    (k : Go K P T pc' ls (v :: st)) : Go K P T pc ls (.int j :: .ref a :: st) := by
  obtain ⟨vm0, locs, k0, X, e, hx, hc, e0, hZ, r⟩ := W
  subst hp
  obtain ⟨cl, A1, A2, A3, A4, A5, -⟩ := A
  exact Go.stp (fun t q => X.caload hx (by rw [e]; exact A1.1) (State.isArrayOf_alike hZ.alike A1.2.1) A1.2.2 (inb_of A3 hj) (A5.at (inb_of A3 hj) hv) (g := mkF K.2.2.2.1 pc ls (.int j :: .ref a :: st)) rfl rfl (hb hc.1 hd) _ q) k
/-- baload of a byte[] -/
theorem wLdB (W : Wk l Z EL own nm cd ml ret R ws h0 K sf T h cells slots) (hd : decode cd pc = .ok (.baload, 1)) {a : Addr} {kA : ClassId} {z j : Int32} {vs : List Value} {v dv : Value} (A : Arv Z h a kA .byte z vs dv) (hj : ¬ j < 0 ∧ j < z) (hv : vs.getD j.toNatClampNeg dv = v) (hp : pc + 1 = pc')
    (k : Go K P T pc' ls (v :: st)) : Go K P T pc ls (.int j :: .ref a :: st) := by
  obtain ⟨vm0, locs, k0, X, e, hx, hc, e0, hZ, r⟩ := W
  subst hp
  obtain ⟨cl, A1, A2, A3, A4, A5, -⟩ := A
  exact Go.stp (fun t q => X.baloadBytes hx (by rw [e]; exact A1.1) (State.isArrayOf_alike hZ.alike A1.2.1) A1.2.2 (inb_of A3 hj) (A5.at (inb_of A3 hj) hv) (g := mkF K.2.2.2.1 pc ls (.int j :: .ref a :: st)) rfl rfl (hb hc.1 hd) _ q) k
/-- Object.<init> -/
theorem wInitO (W : Wk l Z EL own nm cd ml ret R ws h0 K sf T h cells slots) {index : Nat} (hd : decode cd pc = .ok (.invokespecial index, 3)) (w1 : (Cond.methodLink own index Lib.objectInit).before a0 Z = true) (w2 : (Cond.instanceMethod Lib.objectInit).before a0 Z = true) (w3 : (Cond.code Lib.objectInit ⟨#[0xb1]⟩ 1 none).before a0 Z = true) {a : Addr} (hsz : ls.size = ml) (hf : 1 ≤ R.frames) (Wd : Nat) (hW : (st.map fun v => v.category).sum ≤ Wd) (hl : Wd + 12 ≤ R.locals) (hp : pc + 3 = pc')
    (k : ∀ T', Wk l Z EL own nm cd ml ret R ws h0 K sf T' h cells slots → Go K P T' pc' ls st) : Go K P T pc ls (.ref a :: st) := by
  obtain ⟨vm0, locs, k0, X, e, hx, hc, e0, hZ, hown, r⟩ := W
  subst hp
  obtain ⟨T', X', e', f⟩ := initO X hx hZ hown w1 w2 w3 e (g := mkF K.2.2.2.1 pc ls (.ref a :: st)) rfl (hsz.trans hc.2.1.symm) rfl (hb hc.1 hd) hf (W := Wd) (by show 2 * 0 + _ ≤ _; omega) hl
  exact Go.stp f (k T' ⟨vm0, locs, k0, X', e', hx, hc, e0, hZ, hown, r⟩)
/-- ldc of a String constant of EL, read -/
theorem wLdcS (W : Wk l Z EL own nm cd ml ret R ws h0 K sf T h cells slots) {text : String} {index : Nat} (hd : decode cd pc = .ok (.ldc index, 2)) (w : (Cond.stringLink own index text).before a0 Z = true) (wS : ∀ a ∈ Bundle.stringAtoms, a.before a0 Z = true) (hEL : EW Z a0 EL) (hmem : (own, index) ∈ EL)
    {vs : List Value} {z : Int32} (ht : (∀ c ∈ text.toList, c.toNat < 256) ∧ text.toList.map (fun c => Value.int (Jvm.Lit.byteI c.toNat.toUInt16)) = vs) (hz' : ¬ z < 0) (hl : z.toNatClampNeg = vs.length) {n : Nat} (hn : 4 * text.toList.length ≤ n) (hbig : n ≤ 536870912) (hc' : cells + 2 ≤ R.cells) (hl' : slots + (n + 4) ≤ R.slots) (hp : pc + 2 = pc')
    (k : ∀ T' h' a b kb, Wk l Z EL own nm cd ml ret R ws h0 K sf T' h' (cells + 2) (slots + (n + 4)) → Ext h h' → Exa Z h' a "java/lang/String" → Fld Z h' a "java/lang/String" "coder" "B" (.int 0) → Fld Z h' a "java/lang/String" "value" "[B" (.ref b) → Arv Z h' b kb .byte z vs (.int 0) → (∀ x ∈ sf, x ≠ a ∧ x ≠ b) → Go K P T' pc' ls (.ref a :: st)) : Go K P T pc ls st := by
  obtain ⟨vm0, locs, k0, X, e, hx, hc, e0, hZ, hown, hS, hk, hL, hC, hO, hE, hw, hz, hs⟩ := W
  subst hp
  obtain ⟨a, T', h', k1, b, kb, X', e', E, hS', hk', hW', hown', A, F1, F2, A2, -, -, hC', -, hne, f⟩ := ldcCH X hx hZ hown w wS e hS hk hEL hmem hC.1 ht hz' hl (g := mkF K.2.2.2.1 pc ls st) rfl (hb hc.1 hd) hn hbig hc' hl'
  have hs' : ∀ x ∈ sf, Safe Z EL T'.vm h' x ∧ x < h'.size ∧ (x ∈ ws ∨ h0.size ≤ x) := fun x q => ⟨hC'.safe (hs x q).2.1 (hs x q).1, Nat.lt_of_lt_of_le (hs x q).2.1 E.1, (hs x q).2.2⟩
  exact Go.stp f (k T' h' a b kb ⟨T'.vm, locs, k1, X', e', hx, hc, e0, hW', hown', hS', hk', hL, hC.trans hC', hO.ext E, hE, hw, hz, hs'⟩ E A F1 F2 A2 fun x q => hne x (hs' x q).1)
/-- ldc of an int -/
theorem wLdcI (W : Wk l Z EL own nm cd ml ret R ws h0 K sf T h cells slots) {index : Nat} {v : Int32} (hd : decode cd pc = .ok (.ldc index, 2)) (w : (Cond.constant own index v).before a0 Z = true) (hp : pc + 2 = pc') (k : Go K P T pc' ls (.int v :: st)) : Go K P T pc ls st := by
  obtain ⟨vm0, locs, k0, X, e, hx, hc, e0, hZ, hown, r⟩ := W
  subst hp
  exact Go.stp (fun t q => X.ldcInt hx hown (mv (s := K.2.2.1.setVm vm0) hZ w) (g := mkF K.2.2.2.1 pc ls st) rfl (hb hc.1 hd) _ q) k
/-- ldc2_w of a long -/
theorem wLdcL (W : Wk l Z EL own nm cd ml ret R ws h0 K sf T h cells slots) {index : Nat} {v : Int64} (hd : decode cd pc = .ok (.ldc2_w index, 3)) (w : (Cond.constantLong own index v).before a0 Z = true) (hp : pc + 3 = pc') (k : Go K P T pc' ls (.long v :: st)) : Go K P T pc ls st := by
  obtain ⟨vm0, locs, k0, X, e, hx, hc, e0, hZ, hown, r⟩ := W
  subst hp
  exact Go.stp (fun t q => X.ldc2Long hx hown (mv (s := K.2.2.1.setVm vm0) hZ w) (g := mkF K.2.2.2.1 pc ls st) rfl (hb hc.1 hd) _ q) k
/-- ldc of any String constant, unread -/
theorem wLdcO (W : Wk l Z EL own nm cd ml ret R ws h0 K sf T h cells slots) {text : String} {index : Nat} (hd : decode cd pc = .ok (.ldc index, 2)) (w : (Cond.stringLink own index text).before a0 Z = true) (wS : ∀ a ∈ Bundle.stringAtoms, a.before a0 Z = true) (hEL : EW Z a0 EL) {n : Nat} (hn : 4 * text.toList.length ≤ n) (hbig : n ≤ 536870912) (hc' : cells + 2 ≤ R.cells) (hl' : slots + (n + 4) ≤ R.slots) (hp : pc + 2 = pc')
    (k : ∀ T' h' a, Wk l Z EL own nm cd ml ret R ws h0 K sf T' h' (cells + 2) (slots + (n + 4)) → Ext h h' → Go K P T' pc' ls (.ref a :: st)) : Go K P T pc ls st := by
  obtain ⟨vm0, locs, k0, X, e, hx, hc, e0, hZ, hown, hS, hk, hL, hC, hO, hE, hw, hz, hs⟩ := W
  subst hp
  obtain ⟨a, T', h', k1, X', e', E, hS', hk', hW', hown', hC', -, f⟩ := ldcOH X hx hZ hown w wS e hS hk hEL hC.1 (g := mkF K.2.2.2.1 pc ls st) rfl (hb hc.1 hd) hn hbig hc' hl'
  have hs' : ∀ x ∈ sf, Safe Z EL T'.vm h' x ∧ x < h'.size ∧ (x ∈ ws ∨ h0.size ≤ x) := fun x q => ⟨hC'.safe (hs x q).2.1 (hs x q).1, Nat.lt_of_lt_of_le (hs x q).2.1 E.1, (hs x q).2.2⟩
  exact Go.stp f (k T' h' a ⟨T'.vm, locs, k1, X', e', hx, hc, e0, hW', hown', hS', hk', hL, hC.trans hC', hO.ext E, hE, hw, hz, hs'⟩ E)
end Laws
section Calls
variable {l : Launch} {Z : State} {EL : List (String × Nat)} {own nm : String} {cd : ByteArray} {ml : Nat} {ret : Option FieldType} {R : Room} {ws : List Addr} {h0 : Heap} {K : Cx} {sf : List Addr} {T : State} {h h' : Heap} {cells slots : Nat} {P : Outcome → State → Prop} {pc pc' : Nat} {ls : Array Slot} {st : List Value} {a0 : Array Value}
/-- a callee's payment, whatever has been interned -/
def Cb (l : Launch) (Z : State) (EL : List (String × Nat)) (R : Room) (K : Cx) (y : MethodName) (len Wd kc ks : Nat) (as' : Array Value) (h : Heap) (wsc : List Addr) (Q : Option Value → Heap → List Addr → Prop) : Prop :=
  ∀ vm0, Z.Warmed39 vm0 → CHv Z EL vm0 h → (∀ x ∈ wsc, Safe Z EL vm0 h x ∧ x < h.size) → BackS l R K.1 K.2.1 K.2.2.2.2.2.1 (K.2.2.1.setVm vm0) K.2.2.2.2.1 y len Wd (fun A a => a = as' ∧ A.U.heap = h ∧ A.cells + kc ≤ R.cells ∧ A.slots + ks ≤ R.slots)
    (fun A _ v B => ∃ L so, Q v B.U.heap so ∧ (∀ x ∈ so, Safe Z EL B.U.vm B.U.heap x ∧ h.size ≤ x ∧ x < B.U.heap.size) ∧ (∀ x ∈ L, x.base ∈ wsc ∨ h.size ≤ x.base) ∧ Keep h B.U.heap wsc ∧ B.locs = A.locs ++ L ∧ B.cells = A.cells + kc ∧ B.slots = A.slots + ks ∧ CHr Z EL vm0 h B.U.vm B.U.heap)
/-- by a body's contract -/
theorem Cb.ct {y : MethodName} {bytes : ByteArray} {maxL : Nat} {rt : Option FieldType} {rm : Room} {len Wd : Nat} {as' : Array Value} {wsc : List Addr} {Q : Option Value → Heap → List Addr → Prop} (C : Ct l Z EL y bytes maxL rt rm as' h wsc Q) (wc : (Cond.code y bytes maxL rt).before a0 Z = true) (wz : (Cond.initialized y.cls).before a0 Z = true) (hEL : EW Z a0 EL) (hf : rm.frames + 1 ≤ R.frames) (hl : Wd + (maxL + 11) + rm.locals ≤ R.locals) :
    Cb l Z EL R K y len Wd rm.cells rm.slots as' h wsc Q := by
  intro vm0 hZ H hsafe
  refine BackS.of_freeW (bytes := bytes) (maxL := maxL) (ret := rt) (E := fun _ first o t L k n => k = rm.cells ∧ n = rm.slots ∧ ∃ v so, o = .returned v ∧ Q v t.heap so ∧ (∀ x ∈ so, Safe Z EL t.vm t.heap x ∧ first.heap.size ≤ x ∧ x < t.heap.size) ∧ (∀ x ∈ L, x.base ∈ wsc ∨ first.heap.size ≤ x.base) ∧ CHr Z EL first.vm first.heap t.vm t.heap) (C []) hf hl
    (fun m meth c A a Y hp => have hU : Z.Warmed39 A.U.vm := wtrans (s := K.2.2.1.setVm vm0) hZ Y.warmed
      ⟨by show (Cond.and _ .tt).before a A.U = true; rw [Cond.before_and, mv hU wc]; rfl, mv hU wc, mv hU wz, hp.2.2.1, hp.2.2.2⟩)
    (fun m meth c A a g mk Y hp => ⟨hp.1, wtrans (s := K.2.2.1.setVm vm0) hZ Y.warmed, hp.2.1, (CHv.at Y hZ hEL H).1, fun x q => ⟨(CHv.at Y hZ hEL H).safe (hsafe x q).2 (hsafe x q).1, (hsafe x q).2⟩⟩) (fun _ _ _ _ _ _ _ _ _ => trivial)
    (fun _ first o t ⟨v, L, so, h1, h2, h3, h4, h5, h6⟩ => ⟨L, _, _, h6, rfl, rfl, v, so, h1, h2, h3, h4, h5⟩)
    (fun m meth c A a g mk v t L k n Y hp _ hret ⟨e1, e2, v', so, e3, e4, e5, e6, e7⟩ => ?_)
  cases e3; subst e1 e2
  have eh : (A.U.calling g mk a).heap = h := hp.2.1
  have ke := keep_of (ws := wsc) hret.2.2.2 (by simpa using e6)
  rw [eh] at ke e5 e6 e7
  exact ⟨L, so, e4, e5, e6, ke, rfl, rfl, rfl, (CHv.at Y hZ hEL H).trans e7⟩
/-- by a payer that interns nothing -/
theorem Cb.bk {y : MethodName} {len Wd kc ks : Nat} {as' : Array Value} {wsc : List Addr} {Q : Option Value → Heap → List Addr → Prop} {Qb : Option Value → Heap → List Loc → Prop}
    (B : ∀ vm0, Z.Warmed39 vm0 → Back l R K.1 K.2.1 K.2.2.2.2.2.1 (K.2.2.1.setVm vm0) K.2.2.2.2.1 y len Wd (fun A a => a = as' ∧ A.U.heap = h ∧ A.cells + kc ≤ R.cells ∧ A.slots + ks ≤ R.slots) (fun A _ v B => ∃ L, Qb v B.U.heap L ∧ B.locs = A.locs ++ L ∧ B.cells = A.cells + kc ∧ B.slots = A.slots + ks))
    (hEL : EW Z a0 EL) (hq : ∀ v h' L, Qb v h' L → Q v h' [] ∧ Keep h h' wsc ∧ ∀ x ∈ L, x.base ∈ wsc ∨ h.size ≤ x.base) : Cb l Z EL R K y len Wd kc ks as' h wsc Q := by
  intro vm0 hZ H hsafe m meth c A g ig mk a X hg hsize hdg hW hn hp
  obtain ⟨v, B', X', ⟨L, q1, q2, q3, q4⟩, st⟩ := B vm0 hZ m meth c A g ig mk a X hg hsize hdg hW hn hp
  obtain ⟨r1, r2, r3⟩ := hq v _ L q1
  have hgr : A.U.heap.size ≤ B'.U.heap.size := by rw [hp.2.1]; exact r2.1
  refine ⟨v, B', X'.retabled X'.warmed.wide, X'.warmed.since _, hgr, ⟨L, [], r1, (fun x q => nomatch q), r3, r2, q2, q3, q4, ?_⟩, st⟩
  have C1 := CHr.keep r2 (fun x q => (hsafe x q).1) H
  exact C1.trans (CHv.at X' hZ hEL C1.1)
theorem Cb.mono {y : MethodName} {len Wd kc ks kc' ks' : Nat} {as' : Array Value} {wsc : List Addr} {Q : Option Value → Heap → List Addr → Prop} (C : Cb l Z EL R K y len Wd kc ks as' h wsc Q) (h1 : kc ≤ kc') (h2 : ks ≤ ks') : Cb l Z EL R K y len Wd kc' ks' as' h wsc Q := by
  intro vm0 hZ H hs m meth c A g ig mk a X hg hsz hd hW hn hp
  obtain ⟨v, B, X', hS, hgr, ⟨L, so, q1, q2, q3, q4, q5, q6, q7, q8⟩, st⟩ := C vm0 hZ H hs m meth c A g ig mk a X hg hsz hd hW hn ⟨hp.1, hp.2.1, Nat.le_trans (Nat.add_le_add_left h1 _) hp.2.2.1, Nat.le_trans (Nat.add_le_add_left h2 _) hp.2.2.2⟩
  refine ⟨v, ⟨B.U, B.locs, A.cells + kc', A.slots + ks'⟩, ?_, hS, hgr, ⟨L, so, q1, q2, q3, q4, q5, rfl, rfl, q8⟩, st⟩
  exact X'.mono (by rw [q6]; exact Nat.add_le_add_left h1 _) (by rw [q7]; exact Nat.add_le_add_left h2 _)
theorem Cb.weak {y : MethodName} {len Wd kc ks : Nat} {as' : Array Value} {wsc : List Addr} {Q Q' : Option Value → Heap → List Addr → Prop} (C : Cb l Z EL R K y len Wd kc ks as' h wsc Q) (f : ∀ v h' so, Q v h' so → Q' v h' so) : Cb l Z EL R K y len Wd kc ks as' h wsc Q' := by
  intro vm0 hZ H hs m meth c A g ig mk a X hg hsz hd hW hn hp
  obtain ⟨v, B, X', hS, hgr, ⟨L, so, q1, r⟩, st⟩ := C vm0 hZ H hs m meth c A g ig mk a X hg hsz hd hW hn hp
  exact ⟨v, B, X', hS, hgr, ⟨L, so, f _ _ _ q1, r⟩, st⟩
theorem wAfter {vm0 : Vm} {s : State} {wsc so : List Addr} {vm1 : Vm} {locs L : List Loc} (hC : CHr Z EL s.vm h0 vm0 h) (hs : ∀ x ∈ sf, Safe Z EL vm0 h x ∧ x < h.size ∧ (x ∈ ws ∨ h0.size ≤ x)) (hL : ∀ x ∈ locs, x.base ∈ ws ∨ h0.size ≤ x.base) (hO : Old Z Z.heap.size h) (hw : ∀ x ∈ ws, Z.heap.size ≤ x) (hz : Z.heap.size ≤ h0.size) (hws : ∀ x ∈ wsc, x ∈ sf)
    (q2 : ∀ x ∈ so, Safe Z EL vm1 h' x ∧ h.size ≤ x ∧ x < h'.size) (q3 : ∀ x ∈ L, x.base ∈ wsc ∨ h.size ≤ x.base) (q4 : Keep h h' wsc) (q8 : CHr Z EL vm0 h vm1 h') :
    CHr Z EL s.vm h0 vm1 h' ∧ (∀ x ∈ so ++ sf, Safe Z EL vm1 h' x ∧ x < h'.size ∧ (x ∈ ws ∨ h0.size ≤ x)) ∧ (∀ x ∈ locs ++ L, x.base ∈ ws ∨ h0.size ≤ x.base) ∧ Old Z Z.heap.size h' := by
  have hgr : h0.size ≤ h.size := hC.2.1
  refine ⟨hC.trans q8, fun x q => ?_, fun x q => ?_, hO.keep q4 fun x q => ?_⟩
  · rcases List.mem_append.mp q with q | q
    · exact ⟨(q2 x q).1, (q2 x q).2.2, Or.inr (Nat.le_trans hgr (q2 x q).2.1)⟩
    · exact ⟨q8.safe (hs x q).2.1 (hs x q).1, Nat.lt_of_lt_of_le (hs x q).2.1 q4.1, (hs x q).2.2⟩
  · rcases List.mem_append.mp q with q | q
    · exact hL x q
    · rcases q3 x q with q | q
      · exact (hs _ (hws _ q)).2.2
      · exact Or.inr (Nat.le_trans hgr q)
  · rcases (hs _ (hws _ q)).2.2 with z | z
    · exact hw _ z
    · exact Nat.le_trans hz z
/-- invokestatic -/
theorem wStatic (W : Wk l Z EL own nm cd ml ret R ws h0 K sf T h cells slots) {y : MethodName} {index : Nat} (hd : decode cd pc = .ok (.invokestatic index, 3)) (w1 : (Cond.methodLink own index y).before a0 Z = true) (w2 : (Cond.static y).before a0 Z = true) (wz : (Cond.initialized y.cls).before a0 Z = true) {bytes : ByteArray} {maxL : Nat} {rt : Option FieldType} (wc : (Cond.code y bytes maxL rt).before a0 Z = true) (hy : y.cls ≠ "java/lang/invoke/MethodHandle" ∧ y.cls ≠ "java/lang/invoke/VarHandle")
    {Wd kc ks : Nat} {argsL rest : List Value} {wsc : List Addr} {Q : Option Value → Heap → List Addr → Prop} (C : Cb l Z EL R K y 3 Wd kc ks argsL.toArray h wsc Q) (hws : ∀ x ∈ wsc, x ∈ sf) (hsz : ls.size = ml) (hlen : ∀ sig, parseMethodDescriptor y.desc = some sig → argsL.length = sig.parameters.length) (hst : st = argsL.reverse ++ rest) (hW : (rest.map fun v => v.category).sum ≤ Wd) (hc' : cells + kc ≤ R.cells) (hl' : slots + ks ≤ R.slots) (hp : pc + 3 = pc')
    (k : ∀ v so T' h', Wk l Z EL own nm cd ml ret R ws h0 K (so ++ sf) T' h' (cells + kc) (slots + ks) → Keep h h' wsc → (∀ x ∈ so, h.size ≤ x ∧ x < h'.size) → Q v h' so → Go K P T' pc' ls (v.toList ++ rest)) : Go K P T pc ls st := by
  obtain ⟨vm0, locs, k0, X, e, hx, hc, e0, hZ, hown, hS, hk, hL, hC, hO, hE, hw, hz, hs⟩ := W
  subst hp
  obtain ⟨v, vm₁, B, -, X', hS', hgr, ⟨L, so, q1, q2, q3, q4, q5, q6, q7, q8⟩, f⟩ := callSS X hx (y := y) hown (mvT hZ w1) (mvT hZ w2) (mvT hZ wz) (mvT hZ wc) hy (C vm0 hZ hC.1 fun x q => ⟨(hs x (hws x q)).1, (hs x (hws x q)).2.1⟩) (g := mkF K.2.2.2.1 pc ls st) rfl (hsz.trans hc.2.1.symm) hlen hst (by show 2 * 0 + _ ≤ _; omega) (hb hc.1 hd) (fun _ _ => ⟨rfl, e, hc', hl'⟩)
  obtain ⟨X2, hS2, hZ2, hown2⟩ := rebS (Z := Z) (own := own) (n1 := h.size) hS hk X' hS' (by rw [← e]; exact hgr) hZ hown
  obtain ⟨a1, a2, a3, a4⟩ := wAfter (s := K.2.2.1) hC hs hL hO hw hz hws q2 q3 q4 q8
  rw [q5, q6, q7] at X2
  obtain ⟨o, U, r, q⟩ := k v so B.U B.U.heap ⟨B.U.vm, _, _, X2, rfl, hx, hc, e0, hZ2, hown2, hS2, Nat.le_refl _, a3, a1, a4, hE, hw, hz, a2⟩ q4 (fun x z => ⟨(q2 x z).2.1, (q2 x z).2.2⟩) q1
  exact ⟨o, U, f.trans r, q⟩
/-- invokespecial of a constructor -/
theorem wSpecial (W : Wk l Z EL own nm cd ml ret R ws h0 K sf T h cells slots) {y : MethodName} {index : Nat} (hd : decode cd pc = .ok (.invokespecial index, 3)) (hy1 : y.name = "<init>") (w1 : (Cond.methodLink own index y).before a0 Z = true) (w2 : (Cond.instanceMethod y).before a0 Z = true) {bytes : ByteArray} {maxL : Nat} (wc : (Cond.code y bytes maxL none).before a0 Z = true) (hy : y.cls ≠ "java/lang/invoke/MethodHandle" ∧ y.cls ≠ "java/lang/invoke/VarHandle")
    {Wd kc ks : Nat} {a : Addr} {argsL rest : List Value} {wsc : List Addr} {Q : Option Value → Heap → List Addr → Prop} (C : Cb l Z EL R K y 3 Wd kc ks (.ref a :: argsL).toArray h wsc Q) (hws : ∀ x ∈ wsc, x ∈ sf) (hsz : ls.size = ml) (hlen : ∀ sig, parseMethodDescriptor y.desc = some sig → argsL.length = sig.parameters.length) (hst : st = argsL.reverse ++ .ref a :: rest) (hW : (rest.map fun v => v.category).sum ≤ Wd) (hc' : cells + kc ≤ R.cells) (hl' : slots + ks ≤ R.slots) (hp : pc + 3 = pc')
    (k : ∀ v so T' h', Wk l Z EL own nm cd ml ret R ws h0 K (so ++ sf) T' h' (cells + kc) (slots + ks) → Keep h h' wsc → (∀ x ∈ so, h.size ≤ x ∧ x < h'.size) → Q v h' so → Go K P T' pc' ls (v.toList ++ rest)) : Go K P T pc ls st := by
  obtain ⟨vm0, locs, k0, X, e, hx, hc, e0, hZ, hown, hS, hk, hL, hC, hO, hE, hw, hz, hs⟩ := W
  subst hp
  obtain ⟨v, vm₁, B, -, X', hS', hgr, ⟨L, so, q1, q2, q3, q4, q5, q6, q7, q8⟩, f⟩ := X.specialBackS hx (y := y) hy1 hown (mvT hZ w1) (mvT hZ w2) (mvT hZ wc) hy (C vm0 hZ hC.1 fun x q => ⟨(hs x (hws x q)).1, (hs x (hws x q)).2.1⟩) (g := mkF K.2.2.2.1 pc ls st) rfl (hsz.trans hc.2.1.symm) (Steps.refl _) hlen hst (by show 2 * 0 + _ ≤ _; omega) (hb hc.1 hd) (fun _ _ => ⟨rfl, e, hc', hl'⟩)
  obtain ⟨X2, hS2, hZ2, hown2⟩ := rebS (Z := Z) (own := own) (n1 := h.size) hS hk X' hS' (by rw [← e]; exact hgr) hZ hown
  obtain ⟨a1, a2, a3, a4⟩ := wAfter (s := K.2.2.1) hC hs hL hO hw hz hws q2 q3 q4 q8
  rw [q5, q6, q7] at X2
  obtain ⟨o, U, r, q⟩ := k v so B.U B.U.heap ⟨B.U.vm, _, _, X2, rfl, hx, hc, e0, hZ2, hown2, hS2, Nat.le_refl _, a3, a1, a4, hE, hw, hz, a2⟩ q4 (fun x z => ⟨(q2 x z).2.1, (q2 x z).2.2⟩) q1
  exact ⟨o, U, f.trans r, q⟩
/-- invokevirtual on an object of exactly the class C -/
theorem wVirtual (W : Wk l Z EL own nm cd ml ret R ws h0 K sf T h cells slots) {C : String} {y z : MethodName} {index : Nat} (hd : decode cd pc = .ok (.invokevirtual index, 3)) (w1 : (Cond.methodLink own index y).before a0 Z = true) (w2 : (Cond.declares y).before a0 Z = true) (w3 : (Cond.selects C y z).before a0 Z = true) (w4 : (Cond.instanceMethod z).before a0 Z = true) (nf : ∀ s : State, Z.Warmed39 s.vm → NotFace s y) (hy : y.cls ≠ "java/lang/invoke/MethodHandle" ∧ y.cls ≠ "java/lang/invoke/VarHandle")
    {Wd kc ks : Nat} {a : Addr} {argsL rest : List Value} {wsc : List Addr} {Q : Option Value → Heap → List Addr → Prop} (Cc : Cb l Z EL R K z 3 Wd kc ks (.ref a :: argsL).toArray h wsc Q) (E : Exa Z h a C) (hws : ∀ x ∈ wsc, x ∈ sf) (hsz : ls.size = ml) (hlen : ∀ sig, parseMethodDescriptor y.desc = some sig → argsL.length = sig.parameters.length) (hst : st = argsL.reverse ++ .ref a :: rest) (hW : (rest.map fun v => v.category).sum ≤ Wd) (hc' : cells + kc ≤ R.cells) (hl' : slots + ks ≤ R.slots) (hp : pc + 3 = pc')
    (k : ∀ v so T' h', Wk l Z EL own nm cd ml ret R ws h0 K (so ++ sf) T' h' (cells + kc) (slots + ks) → Keep h h' wsc → (∀ x ∈ so, h.size ≤ x ∧ x < h'.size) → Q v h' so → Go K P T' pc' ls (v.toList ++ rest)) : Go K P T pc ls st := by
  obtain ⟨vm0, locs, k0, X, e, hx, hc, e0, hZ, hown, hS, hk, hL, hC, hO, hE, hw, hz, hs⟩ := W
  subst hp
  obtain ⟨cB, kB, i1, i2, i3⟩ := isOf (s := K.2.2.1.setVm vm0) hZ e E
  obtain ⟨v, vm₁, B, -, X', hS', hgr, ⟨L, so, q1, q2, q3, q4, q5, q6, q7, q8⟩, f⟩ := X.virtualBackS hx (y := y) (z := z) hown (mvT hZ w1) (mvT hZ w2) (nf (K.2.2.1.setVm vm0) hZ) (mvT hZ w3) (mvT hZ w4) hy (Cc vm0 hZ hC.1 fun x q => ⟨(hs x (hws x q)).1, (hs x (hws x q)).2.1⟩) i1 i3 (g := mkF K.2.2.2.1 pc ls st) rfl (hsz.trans hc.2.1.symm) (Steps.refl _) hlen hst (by show 2 * 0 + _ ≤ _; omega) (hb hc.1 hd) (fun _ _ => ⟨rfl, e, hc', hl'⟩)
  obtain ⟨X2, hS2, hZ2, hown2⟩ := rebS (Z := Z) (own := own) (n1 := h.size) hS hk X' hS' (by rw [← e]; exact hgr) hZ hown
  obtain ⟨a1, a2, a3, a4⟩ := wAfter (s := K.2.2.1) hC hs hL hO hw hz hws q2 q3 q4 q8
  rw [q5, q6, q7] at X2
  obtain ⟨o, U, r, q⟩ := k v so B.U B.U.heap ⟨B.U.vm, _, _, X2, rfl, hx, hc, e0, hZ2, hown2, hS2, Nat.le_refl _, a3, a1, a4, hE, hw, hz, a2⟩ q4 (fun x z => ⟨(q2 x z).2.1, (q2 x z).2.2⟩) q1
  exact ⟨o, U, f.trans r, q⟩
/-- invokeinterface on an object of exactly the class C -/
theorem wFace (W : Wk l Z EL own nm cd ml ret R ws h0 K sf T h cells slots) {C : String} {xi y : MethodName} {index count : Nat} (hd : decode cd pc = .ok (.invokeinterface index count, 5)) (w1 : (Cond.methodLink own index xi).before a0 Z = true) (w2 : (Cond.declares xi).before a0 Z = true) (w3 : (Cond.interfaceMethod xi.cls xi.cls xi.name xi.desc).before a0 Z = true) (w4 : (Cond.selects C xi y).before a0 Z = true) (w5 : (Cond.instanceMethod y).before a0 Z = true) (w6 : (Cond.publicMethod y).before a0 Z = true) (w7 : (Cond.unhidden C xi.name xi.desc).before a0 Z = true) (w8 : (Cond.castable C xi.cls).before a0 Z = true) (hy : xi.cls ≠ "java/lang/invoke/MethodHandle" ∧ xi.cls ≠ "java/lang/invoke/VarHandle")
    {Wd kc ks : Nat} {a : Addr} {argsL rest : List Value} {wsc : List Addr} {Q : Option Value → Heap → List Addr → Prop} (Cc : Cb l Z EL R K y 5 Wd kc ks (.ref a :: argsL).toArray h wsc Q) (E : Exa Z h a C) (hws : ∀ x ∈ wsc, x ∈ sf) (hsz : ls.size = ml) (hlen : ∀ sig, parseMethodDescriptor xi.desc = some sig → argsL.length = sig.parameters.length) (hst : st = argsL.reverse ++ .ref a :: rest) (hW : (rest.map fun v => v.category).sum ≤ Wd) (hc' : cells + kc ≤ R.cells) (hl' : slots + ks ≤ R.slots) (hp : pc + 5 = pc')
    (k : ∀ v so T' h', Wk l Z EL own nm cd ml ret R ws h0 K (so ++ sf) T' h' (cells + kc) (slots + ks) → Keep h h' wsc → (∀ x ∈ so, h.size ≤ x ∧ x < h'.size) → Q v h' so → Go K P T' pc' ls (v.toList ++ rest)) : Go K P T pc ls st := by
  obtain ⟨vm0, locs, k0, X, e, hx, hc, e0, hZ, hown, hS, hk, hL, hC, hO, hE, hw, hz, hs⟩ := W
  subst hp
  obtain ⟨cB, kB, i1, i2, i3⟩ := isOf (s := K.2.2.1.setVm vm0) hZ e E
  obtain ⟨v, vm₁, B, -, X', hS', hgr, ⟨L, so, q1, q2, q3, q4, q5, q6, q7, q8⟩, f⟩ := X.interfaceBackS hx (xi := xi) (y := y) hown (mvT hZ w1) (mvT hZ w2) (mvT hZ w3 (by simp [Cond.onTables, Cond.keepsFace, Cond.faceAtom, hy.1, hy.2])) (mvT hZ w4) (mvT hZ w5) (mvT hZ w6) (mvT hZ w7) (mvT hZ w8) hy (Cc vm0 hZ hC.1 fun x q => ⟨(hs x (hws x q)).1, (hs x (hws x q)).2.1⟩) i1 i2 i3 (g := mkF K.2.2.2.1 pc ls st) rfl (hsz.trans hc.2.1.symm) (Steps.refl _) hlen hst (by show 2 * 0 + _ ≤ _; omega) (hb hc.1 hd) (fun _ _ => ⟨rfl, e, hc', hl'⟩)
  obtain ⟨X2, hS2, hZ2, hown2⟩ := rebS (Z := Z) (own := own) (n1 := h.size) hS hk X' hS' (by rw [← e]; exact hgr) hZ hown
  obtain ⟨a1, a2, a3, a4⟩ := wAfter (s := K.2.2.1) hC hs hL hO hw hz hws q2 q3 q4 q8
  rw [q5, q6, q7] at X2
  obtain ⟨o, U, r, q⟩ := k v so B.U B.U.heap ⟨B.U.vm, _, _, X2, rfl, hx, hc, e0, hZ2, hown2, hS2, Nat.le_refl _, a3, a1, a4, hE, hw, hz, a2⟩ q4 (fun x z => ⟨(q2 x z).2.1, (q2 x z).2.2⟩) q1
  exact ⟨o, U, f.trans r, q⟩
theorem nfS {C : String} {y : MethodName} (w3 : (Cond.selects C y y).before a0 Z = true) : ∀ s : State, Z.Warmed39 s.vm → NotFace s y := fun s hZ => notFace_of_selects (args := #[]) (mvT hZ w3)
/-- the end: P's post out of the walk's last standing -/
theorem wEnd {kc ks : Nat} {v : Option Value} {Q : Option Value → Heap → List Addr → Prop} {so : List Addr} (W : Wk l Z EL own nm cd ml ret R ws h0 K sf T h cells slots) (hv : ret = none → v = none) (hk : cells ≤ kc) (hn : slots ≤ ks) (hso : ∀ x ∈ so, x ∈ sf ∧ h0.size ≤ x) (q : Q v h so)
    (stp : ∀ (vm0 : Vm) (locs : List Loc) (fs : List Frame), Stand K.1 l K.2.1 R (K.2.2.1.setVm vm0) K.2.2.2.1 K.2.2.2.2.1 K.2.2.2.2.2.1 K.2.2.2.2.2.2.1 K.2.2.2.2.2.2.2 T locs cells slots → K.1.tables.exec = Jvm.exec → K.2.2.2.2.2.2.2.code = cd → K.2.2.2.2.2.2.1.sig.returnType = ret →
      (∀ (f : JFrame) (acts : List Action), f.method = K.2.2.2.1 → f.locked = none → f.entered = [] → (doReturn K.2.1 (T.setTop f) acts v).1 = T.setFrames fs) → Steps K.1.tables K.2.1 K.2.2.2.2.2.1 (T.setTop (mkF K.2.2.2.1 pc ls st)) (T.setFrames fs)) :
    Go K (Pst Z EL ws K.2.2.1 kc ks Q) T pc ls st := by
  obtain ⟨vm0, locs, k0, X, e, hx, hc, e0, hZ, hown, hS, hk0, hL, hC, hO, ⟨a0, hE⟩, hw, hz, hs⟩ := W
  have hlk := hc.2.2.2.1
  obtain ⟨fs, f1, f2, f3, f4⟩ := X.leaveW hS (by rw [e]; exact hk0) (v := v) (fun q => hv (hc.2.2.1.symm.trans q)) hlk
  have hend := CHv.at X hZ hE hC.1
  refine ⟨.returned v, T.setFrames fs, stp vm0 locs fs X hx hc.1 hc.2.2.1 f1, f2, f3, v, locs, so, rfl, ?_, fun x z => ?_, ?_, ?_, ?_⟩
  · show Q v T.heap so
    rw [e]; exact q
  · show Safe Z EL T.vm T.heap x ∧ _ ∧ x < T.heap.size
    rw [e, e0]
    exact ⟨hend.safe (hs x (hso x z).1).2.1 (hs x (hso x z).1).1, (hso x z).2, (hs x (hso x z).1).2.1⟩
  · rw [e0]; exact hL
  · show CHr Z EL K.2.2.1.vm K.2.2.1.heap T.vm T.heap
    rw [e, e0]; exact hC.trans hend
  · obtain ⟨g1, g2, g3, g4⟩ := f4
    exact ⟨g1, g2, g3, g4.mono hk hn⟩
/-- return -/
theorem wRet0 {kc ks : Nat} {Q : Option Value → Heap → List Addr → Prop} {so : List Addr} (W : Wk l Z EL own nm cd ml none R ws h0 K sf T h cells slots) (hd : decode cd pc = .ok (.return_, 1)) (hk : cells ≤ kc) (hn : slots ≤ ks) (hso : ∀ x ∈ so, x ∈ sf ∧ h0.size ≤ x) (q : Q none h so) : Go K (Pst Z EL ws K.2.2.1 kc ks Q) T pc ls [] :=
  wEnd W (fun _ => rfl) hk hn hso q fun vm0 locs fs X hx hc hr f => X.returnOut hx hr (hb hc hd) f
/-- ireturn, of an int, a boolean, a byte, a char, a short -/
theorem wRetI {t : FieldType} {z : Int32} {kc ks : Nat} {Q : Option Value → Heap → List Addr → Prop} {so : List Addr} (W : Wk l Z EL own nm cd ml (some t) R ws h0 K sf T h cells slots) (hd : decode cd pc = .ok (.ireturn, 1)) (ht : t = .int ∨ t = .boolean ∨ t = .byte ∨ t = .char ∨ t = .short) (hnr : narrow t (.int z) = .int z) (hk : cells ≤ kc) (hn : slots ≤ ks) (hso : ∀ x ∈ so, x ∈ sf ∧ h0.size ≤ x) (q : Q (some (.int z)) h so) : Go K (Pst Z EL ws K.2.2.1 kc ks Q) T pc ls (.int z :: st) :=
  wEnd W (fun q => nomatch q) hk hn hso q fun vm0 locs fs X hx hc hr f => retOut X hx hr hnr (Or.inl ⟨rfl, ht, z, rfl⟩) (hb hc hd) f
/-- areturn -/
theorem wRetA {t : FieldType} {w : Value} {kc ks : Nat} {Q : Option Value → Heap → List Addr → Prop} {so : List Addr} (W : Wk l Z EL own nm cd ml (some t) R ws h0 K sf T h cells slots) (hd : decode cd pc = .ok (.areturn, 1)) (ht : t.isReference = true) (hw : w.isRef = true) (hnr : narrow t w = w) (hk : cells ≤ kc) (hn : slots ≤ ks) (hso : ∀ x ∈ so, x ∈ sf ∧ h0.size ≤ x) (q : Q (some w) h so) : Go K (Pst Z EL ws K.2.2.1 kc ks Q) T pc ls (w :: st) :=
  wEnd W (fun q => nomatch q) hk hn hso q fun vm0 locs fs X hx hc hr f => retOut X hx hr hnr (Or.inr (Or.inr (Or.inr (Or.inr ⟨rfl, ht, hw⟩)))) (hb hc hd) f
/-- lreturn -/
theorem wRetL {z : Int64} {kc ks : Nat} {Q : Option Value → Heap → List Addr → Prop} {so : List Addr} (W : Wk l Z EL own nm cd ml (some .long) R ws h0 K sf T h cells slots) (hd : decode cd pc = .ok (.lreturn, 1)) (hk : cells ≤ kc) (hn : slots ≤ ks) (hso : ∀ x ∈ so, x ∈ sf ∧ h0.size ≤ x) (q : Q (some (.long z)) h so) : Go K (Pst Z EL ws K.2.2.1 kc ks Q) T pc ls (.long z :: st) :=
  wEnd W (fun q => nomatch q) hk hn hso q fun vm0 locs fs X hx hc hr f => retOut X hx hr rfl (Or.inr (Or.inl ⟨rfl, rfl, z, rfl⟩)) (hb hc hd) f
end Calls
section Ints
/-- a term that is said to equal a long -/
theorem eqL_v {args : Array Value} {first s : State} {o : Option Outcome} {idx : List Nat} {t : Term} {n : Int64} (h : (Cond.eq t (.long n)).value args first o s idx = some true) : t.eval args first o idx s = some (.long n) := by
  cases ht : t.eval args first o idx s with
  | none => simp [Cond.value, Term.eval, ht] at h
  | some x => cases x <;> simp [Cond.value, Term.eval, ht] at h ⊢; exact h
theorem nar_char (x : Int32) : nar .char x = x.toUInt32.toUInt16.toUInt32.toInt32 := rfl
theorem ch255 {p v w : Int32} (e : p &&& 255 = v) (e2 : v.toUInt32.toUInt16.toUInt32.toInt32 = w) : ¬ w < 0 ∧ ¬ 255 < w ∧ nar .char w = w := by
  subst e e2
  rw [i2c_mask]
  have q := c_and p 255 (by decide)
  refine ⟨?_, ?_, ?_⟩
  · rw [Int32.lt_iff_toInt_lt]; simp only [Int32.reduceToInt]; omega
  · rw [Int32.lt_iff_toInt_lt]; have h : (255 : Int32).toInt = 255 := by decide
    omega
  · rw [nar_char, i2c_mask]
theorem i32_of {v : Int32} {n : Int} (w : Int32) (hw : w.toInt = n) (h : v.toInt = n) : v = w := Int32.toInt_inj.mp (h.trans hw.symm)
theorem and3 {x v : Int32} (e : x &&& 3 = v) : v = 0 ∨ v = 1 ∨ v = 2 ∨ v = 3 := by
  subst e
  have q := c_and x 3 (by decide)
  have h3 : (3 : Int32).toInt = 3 := by decide
  rw [h3] at q
  have : (x &&& 3).toInt = 0 ∨ (x &&& 3).toInt = 1 ∨ (x &&& 3).toInt = 2 ∨ (x &&& 3).toInt = 3 := by omega
  rcases this with h | h | h | h
  · exact Or.inl (i32_of 0 (by decide) h)
  · exact Or.inr (Or.inl (i32_of 1 (by decide) h))
  · exact Or.inr (Or.inr (Or.inl (i32_of 2 (by decide) h)))
  · exact Or.inr (Or.inr (Or.inr (i32_of 3 (by decide) h)))
theorem and7 {x v : Int32} (e : x &&& 7 = v) : v = 0 ∨ v = 1 ∨ v = 2 ∨ v = 3 ∨ v = 4 ∨ v = 5 ∨ v = 6 ∨ v = 7 := by
  subst e
  have q := c_and x 7 (by decide)
  have h7 : (7 : Int32).toInt = 7 := by decide
  rw [h7] at q
  have : (x &&& 7).toInt = 0 ∨ (x &&& 7).toInt = 1 ∨ (x &&& 7).toInt = 2 ∨ (x &&& 7).toInt = 3 ∨ (x &&& 7).toInt = 4 ∨ (x &&& 7).toInt = 5 ∨ (x &&& 7).toInt = 6 ∨ (x &&& 7).toInt = 7 := by omega
  rcases this with h | h | h | h | h | h | h | h
  · exact Or.inl (i32_of 0 (by decide) h)
  · exact Or.inr (Or.inl (i32_of 1 (by decide) h))
  · exact Or.inr (Or.inr (Or.inl (i32_of 2 (by decide) h)))
  · exact Or.inr (Or.inr (Or.inr (Or.inl (i32_of 3 (by decide) h))))
  · exact Or.inr (Or.inr (Or.inr (Or.inr (Or.inl (i32_of 4 (by decide) h)))))
  · exact Or.inr (Or.inr (Or.inr (Or.inr (Or.inr (Or.inl (i32_of 5 (by decide) h))))))
  · exact Or.inr (Or.inr (Or.inr (Or.inr (Or.inr (Or.inr (Or.inl (i32_of 6 (by decide) h)))))))
  · exact Or.inr (Or.inr (Or.inr (Or.inr (Or.inr (Or.inr (Or.inr (i32_of 7 (by decide) h)))))))
theorem ch16 {p v w : Int32} (e : p &&& 65535 = v) (e2 : v.toUInt32.toUInt16.toUInt32.toInt32 = w) : (¬ w < 0 ∧ ¬ 65535 < w) ∧ nar .char w = w := by
  have q := c_i2c v
  rw [e2] at q
  have q2 := c_i2c w
  refine ⟨⟨?_, ?_⟩, ?_⟩
  · rw [Int32.lt_iff_toInt_lt]; have : (0 : Int32).toInt = 0 := by decide
    omega
  · rw [Int32.lt_iff_toInt_lt]; have : (65535 : Int32).toInt = 65535 := by decide
    omega
  · rw [nar_char]; apply Int32.toInt_inj.mp; omega
/-- an int from 0 to 255 -/
def B8 (x : Int32) : Prop := ¬ x < 0 ∧ ¬ 255 < x
theorem B8.toInt {x : Int32} (h : B8 x) : 0 ≤ x.toInt ∧ x.toInt ≤ 255 := by
  obtain ⟨h1, h2⟩ := h
  rw [Int32.lt_iff_toInt_lt] at h1 h2
  have a : (0 : Int32).toInt = 0 := by decide
  have b : (255 : Int32).toInt = 255 := by decide
  omega
theorem B8.of {x : Int32} (h : 0 ≤ x.toInt ∧ x.toInt ≤ 255) : B8 x := by
  refine ⟨?_, ?_⟩ <;> rw [Int32.lt_iff_toInt_lt]
  · have a : (0 : Int32).toInt = 0 := by decide
    omega
  · have b : (255 : Int32).toInt = 255 := by decide
    omega
theorem B8.and {p v : Int32} (e : p &&& 255 = v) : B8 v := by
  subst e; have q := c_and p 255 (by decide)
  have b : (255 : Int32).toInt = 255 := by decide
  exact B8.of (by omega)
theorem B8.mask {x : Int32} (h : B8 x) : x &&& 255 = x := by
  have q := c_mask x 255 8 (by decide) (by decide)
  have r := h.toInt
  apply Int32.toInt_inj.mp
  rw [q]; simp only [Nat.reducePow]; omega
theorem B8.i2c {c v : Int32} (h : B8 c) (e : c.toUInt32.toUInt16.toUInt32.toInt32 = v) : v = c := by
  rw [← h.mask, i2c_mask, h.mask] at e; exact e.symm
theorem B8.i2c' {c : Int32} (h : B8 c) : c.toUInt32.toUInt16.toUInt32.toInt32 = c := h.i2c rfl
theorem B8.nar {c : Int32} (h : B8 c) : nar .char c = c := h.i2c'
theorem B8.xor {x y v : Int32} (hx : B8 x) (hy : B8 y) (e : x ^^^ y = v) : B8 v := by
  subst e
  have e1 : x ^^^ y = (x ^^^ y) &&& 255 := by
    have h1 := hx.mask; have h2 := hy.mask
    rw [← Int32.toBitVec_inj] at h1 h2 ⊢
    simp only [Int32.toBitVec_and, Int32.toBitVec_xor] at h1 h2 ⊢
    rw [← h1, ← h2]
    ext i hi
    simp only [BitVec.getElem_and, BitVec.getElem_xor]
    cases (x.toBitVec[i]) <;> cases (y.toBitVec[i]) <;> cases ((255 : Int32).toBitVec[i]) <;> rfl
  exact B8.and e1.symm
theorem and31 {p v : Int32} (e : p &&& 2147483647 = v) : 0 ≤ v.toInt := by
  subst e; exact (c_and p 2147483647 (by decide)).1
/-- the remainder of a non-negative int by a positive constant -/
theorem rem_lt {v r y : Int32} {d : Int} (h : 0 ≤ v.toInt) (e : v % y = r) (hy : y.toInt = d) (hd : 0 < d) : 0 ≤ r.toInt ∧ r.toInt < d := by
  subst e
  have q := (c_irem v y d hy).1 h
  rw [q]; exact ⟨Int.emod_nonneg _ (by omega), Int.emod_lt_of_pos _ hd⟩
theorem lt_i {x y : Int32} : x < y ↔ x.toInt < y.toInt := Int32.lt_iff_toInt_lt
theorem xor_self {x y : Int32} (h : x = x ^^^ y) : y = 0 := by
  have h2 : x ^^^ x = x ^^^ (x ^^^ y) := congrArg (fun t => x ^^^ t) h
  rw [Int32.xor_self, ← Int32.xor_assoc, Int32.xor_self, Int32.zero_xor] at h2
  exact h2.symm
end Ints
section Refs0
variable {l : Launch} {Z : State} {EL : List (String × Nat)} {own nm : String} {cd : ByteArray} {ml : Nat} {ret : Option FieldType} {R : Room} {ws : List Addr} {h0 : Heap} {K : Cx} {sf : List Addr} {T : State} {h h' : Heap} {cells slots : Nat} {P : Outcome → State → Prop} {pc pc' : Nat} {ls : Array Slot} {st : List Value} {a0 : Array Value}
/-- checkcast of null -/
theorem wCastN (W : Wk l Z EL own nm cd ml ret R ws h0 K sf T h cells slots) {index : Nat} (hd : decode cd pc = .ok (.checkcast index, 3)) (hp : pc + 3 = pc')
    (k : Go K P T pc' ls (.null :: st)) : Go K P T pc ls (.null :: st) := by
  obtain ⟨vm0, locs, k0, X, e, hx, hc, r⟩ := W
  subst hp
  exact Go.stp (fun t q => X.checkcastNull hx (g := mkF K.2.2.2.1 pc ls (.null :: st)) rfl rfl (hb hc.1 hd) _ q) k
end Refs0
section Refs
variable {Z : State} {h h' : Heap} {v : Value} {C : String} {ws : List Addr}
/-- null, or an object of exactly the class C -/
def RefS (Z : State) (h : Heap) (v : Value) (C : String) : Prop := v = .null ∨ ∃ r, v = .ref r ∧ Exa Z h r C
theorem RefS.isRef (F : RefS Z h v C) : v.isRef = true := by rcases F with rfl | ⟨r, rfl, -⟩ <;> rfl
theorem RefS.ext (F : RefS Z h v C) (E : Ext h h') : RefS Z h' v C := F.imp id fun ⟨r, q, A⟩ => ⟨r, q, A.ext E⟩
theorem RefS.wr {a : Addr} {sl : Nat} {u : Value} (F : RefS Z h v C) (W : Wr h h' a sl u) : RefS Z h' v C := F.imp id fun ⟨r, q, A⟩ => ⟨r, q, A.wr W⟩
theorem RefS.keep (F : RefS Z h v C) (K : Keep h h' ws) : RefS Z h' v C := F.imp id fun ⟨r, q, A⟩ => ⟨r, q, A.keep K⟩
theorem RefS.of {r : Addr} (A : Exa Z h r C) : RefS Z h (.ref r) C := Or.inr ⟨r, rfl, A⟩
theorem RefS.null : RefS Z h .null C := Or.inl rfl
theorem catR (hv : v.isRef = true) : v.category = 1 := by rcases ref_cases hv with rfl | ⟨r, rfl⟩ <;> rfl
/-- what 'x == null ? y : x' gives -/
def selV (x y : Value) : Value := match x with | .null => y | v => v
theorem RefS.sel {u : Value} (F : RefS Z h v C) (G : RefS Z h u C) : RefS Z h (selV v u) C := by
  rcases F with rfl | ⟨r, rfl, A⟩
  · exact G
  · exact Or.inr ⟨r, rfl, A⟩
theorem narR {t : FieldType} (hv : v.isRef = true) (ht : t.isReference = true := by rfl) : narrow t v = v := by
  rcases ref_cases hv with rfl | ⟨r, rfl⟩ <;> cases t <;> rfl
theorem fitR {t : FieldType} (hv : v.isRef = true) (ht : t.isReference = true := by rfl) : fits t v = true := by
  rcases ref_cases hv with rfl | ⟨r, rfl⟩ <;> cases t <;> first | rfl | cases ht
end Refs
section Refs2
variable {l : Launch} {Z : State} {EL : List (String × Nat)} {own nm : String} {cd : ByteArray} {ml : Nat} {ret : Option FieldType} {R : Room} {ws : List Addr} {h0 : Heap} {K : Cx} {sf : List Addr} {T : State} {h h' : Heap} {cells slots : Nat} {P : Outcome → State → Prop} {pc pc' : Nat} {ls : Array Slot} {st : List Value} {a0 : Array Value}
/-- checkcast of null or of an object of that very class -/
theorem wCastR (W : Wk l Z EL own nm cd ml ret R ws h0 K sf T h cells slots) {C : String} {index : Nat} (hd : decode cd pc = .ok (.checkcast index, 3)) (w : (Cond.classLink own index C).before a0 Z = true) {v : Value} (F : RefS Z h v C) (hp : pc + 3 = pc')
    (k : ∀ T', Wk l Z EL own nm cd ml ret R ws h0 K sf T' h cells slots → Go K P T' pc' ls (v :: st)) : Go K P T pc ls (v :: st) := by
  rcases F with rfl | ⟨r, rfl, A⟩
  · exact wCastN W hd hp (k T W)
  · exact wCast W hd w (Ins.self A) hp k
end Refs2
section More
variable {l : Launch} {Z : State} {EL : List (String × Nat)} {own nm : String} {cd : ByteArray} {ml : Nat} {ret : Option FieldType} {R : Room} {ws : List Addr} {h0 : Heap} {K : Cx} {sf : List Addr} {T : State} {h h' : Heap} {cells slots : Nat} {P : Outcome → State → Prop} {pc pc' : Nat} {ls : Array Slot} {st : List Value} {a0 : Array Value}
/-- clone of an array -/
theorem wClone (W : Wk l Z EL own nm cd ml ret R ws h0 K sf T h cells slots) {ad : String} {index : Nat} (hd : decode cd pc = .ok (.invokevirtual index, 3)) (w1 : (Cond.methodLink own index ⟨ad, "clone", "()Ljava/lang/Object;"⟩).before a0 Z = true) (w2 : (Cond.sameMethod ad "java/lang/Object" "clone" "()Ljava/lang/Object;").before a0 Z = true) (w3 : (Cond.native ⟨"java/lang/Object", "clone", "()Ljava/lang/Object;"⟩).before a0 Z = true) (w4 : (Cond.instanceMethod ⟨"java/lang/Object", "clone", "()Ljava/lang/Object;"⟩).before a0 Z = true) (w5 : (Cond.selects ad ⟨ad, "clone", "()Ljava/lang/Object;"⟩ ⟨"java/lang/Object", "clone", "()Ljava/lang/Object;"⟩).before a0 Z = true) (w6 : (Cond.castable ad "java/lang/Cloneable").before a0 Z = true)
    {a : Addr} {kA : ClassId} {ty : FieldType} {z : Int32} {vs : List Value} {dv : Value} (F : Arv Z h a kA ty z vs dv) (E : Exa Z h a ad) (hsz : ls.size = ml) (hf : 1 ≤ R.frames) (Wd : Nat) (hW : (st.map fun v => v.category).sum ≤ Wd) (hl : Wd + 14 ≤ R.locals) (cap : Nat) (hcap : z.toNatClampNeg ≤ cap) (hc' : cells + 1 ≤ R.cells) (hsl : slots + cap ≤ R.slots) (hp : pc + 3 = pc')
    (k : ∀ T' h' a', Wk l Z EL own nm cd ml ret R ws h0 K (a' :: sf) T' h' (cells + 1) (slots + cap) → Ext h h' → a' = h.size → Arv Z h' a' kA ty z vs dv → Exa Z h' a' ad → Go K P T' pc' ls (.ref a' :: st)) : Go K P T pc ls (.ref a :: st) := by
  have hg := W.grow
  obtain ⟨vm0, locs, k0, X, e, hx, hc, e0, hZ, hown, hS, hk, hL, hC, hO, hE, hw, hz, hs⟩ := W
  subst hp
  obtain ⟨T', h', X', e', Ex, A, E', f⟩ := cloneH X hx hZ hown w1 w2 w3 w4 w5 w6 e F.arh E (g := mkF K.2.2.2.1 pc ls (.ref a :: st)) rfl (hsz.trans hc.2.1.symm) rfl (hb hc.1 hd) hf (W := Wd) (by show 2 * 0 + _ ≤ _; omega) hl hcap hc' hsl
  obtain ⟨hC', hs'⟩ := wExt (s := K.2.2.1) hC hs Ex
  refine Go.stp f (k T' h' h.size ⟨vm0, locs, k0, X', e', hx, hc, e0, hZ, hown, hS, Nat.le_trans hk Ex.1, hL, hC', hO.ext Ex, hE, hw, hz, fun x q => ?_⟩ Ex rfl A E')
  rcases List.mem_cons.mp q with rfl | q
  · exact ⟨Safe.ext Ex hC.1 (Safe.new (Nat.le_refl _)), E'.lt, Or.inr hg⟩
  · exact hs' x q
/-- aaload -/
theorem wLdA (W : Wk l Z EL own nm cd ml ret R ws h0 K sf T h cells slots) (hd : decode cd pc = .ok (.aaload, 1)) {a : Addr} {kA : ClassId} {ty : FieldType} (ht : ty.isReference = true) {z j : Int32} {vs : List Value} {v dv : Value} (A : Arv Z h a kA ty z vs dv) (hj : ¬ j < 0 ∧ j < z) (hv : vs.getD j.toNatClampNeg dv = v) (hp : pc + 1 = pc')
    (k : Go K P T pc' ls (v :: st)) : Go K P T pc ls (.int j :: .ref a :: st) := by
  obtain ⟨vm0, locs, k0, X, e, hx, hc, e0, hZ, r⟩ := W
  subst hp
  obtain ⟨cl, A1, A2, A3, A4, A5, -⟩ := A
  exact Go.stp (fun t q => X.aaload hx (by rw [e]; exact A1.1) (State.isArrayOf_alike hZ.alike A1.2.1) ht A1.2.2 (inb_of A3 hj) (A5.at (inb_of A3 hj) hv) (g := mkF K.2.2.2.1 pc ls (.int j :: .ref a :: st)) rfl rfl (hb hc.1 hd) _ q) k
/-- the places that a step may have written: at a cell b alone, where all others are kept -/
theorem locsAt {p : Program} {e : Env} {s : State} {m : MethodId} {args : Array Value} {below : List Frame} {meth : Method} {c : Code} {T' : State} {locs L : List Loc} {b : Addr} (X : Stand p l e R s m args below meth c T locs cells slots) (X' : Stand p l e R s m args below meth c T' L cells slots) (Ke : Keep T.heap T'.heap [b]) (n : Nat) (hn : ∀ c, T.heap[b]? = some c → c.slots.size ≤ n) :
    Stand p l e R s m args below meth c T' (locs ++ (List.range n).map fun i => (⟨b, i⟩ : Loc)) cells slots := by
  refine ⟨X'.admits, X'.cas, X'.clock, X'.frames, X'.room, X'.hears, X'.method, X'.code, X'.here, X'.tail, X'.warmed, X'.limits, X'.bytes, ?_⟩
  obtain ⟨p1, p2, p3, p4, p5, p6⟩ := X'.same
  obtain ⟨-, -, -, -, -, r6⟩ := X.same
  refine ⟨p1, p2, p3, p4, p5, fun a c hc => ?_⟩
  obtain ⟨c', q1, q2, q3, -⟩ := p6 a c hc
  refine ⟨c', q1, q2, q3, fun i hi => ?_⟩
  obtain ⟨c1, s1, s2, s3, s4⟩ := r6 a c hc
  by_cases hab : a = b
  · subst hab
    by_cases hlt : i < n
    · exact absurd (List.mem_append_right _ (List.mem_map.mpr ⟨i, List.mem_range.mpr hlt, rfl⟩)) hi
    · have hc1 : c1.slots.size ≤ n := hn c1 s1
      rw [Array.getElem?_eq_none (by omega), Array.getElem?_eq_none (by omega)]
  · have hk := Ke.2.1 a c1 s1 (by simp [hab])
    have : c' = c1 := Option.some.inj (q1.symm.trans hk)
    rw [this]
    exact s4 i (fun hm => hi (List.mem_append_left _ hm))
/-- System.arraycopy of numbers, between two arrays of one kind -/
theorem wCopy (W : Wk l Z EL own nm cd ml ret R ws h0 K sf T h cells slots) {index : Nat} (hd : decode cd pc = .ok (.invokestatic index, 3)) (w1 : (Cond.methodLink own index Jvm.Stand.acN).before a0 Z = true) (w2 : (Cond.native Jvm.Stand.acN).before a0 Z = true) (w3 : (Cond.static Jvm.Stand.acN).before a0 Z = true) (w4 : (Cond.initialized "java/lang/System").before a0 Z = true)
    {a b : Addr} (hb' : b ∈ sf) {k k' : ClassId} {ty : FieldType} {z z' sp dp nn : Int32} {vs vd us : List Value} {dv dd : Value} (A : Arv Z h a k ty z vs dv) (B : Arv Z h b k' ty z' vd dd) (hty : refKind ty = false) (h1 : ¬ sp < 0) (h2 : ¬ dp < 0) (h3 : ¬ nn < 0) (zN zN' spN dpN nN : Nat) (e1 : z.toNatClampNeg = zN) (e2 : z'.toNatClampNeg = zN') (e3 : sp.toNatClampNeg = spN) (e4 : dp.toNatClampNeg = dpN) (e5 : nn.toNatClampNeg = nN) (h4 : spN + nN ≤ zN) (h5 : dpN + nN ≤ zN')
    (hus : us = (List.range nN).map fun i => vs.getD (spN + i) dv) (hl : dpN + nN ≤ vd.length) (hsz : ls.size = ml) (hf : 1 ≤ R.frames) (Wd : Nat) (hW : (st.map fun v => v.category).sum ≤ Wd) (hlo : Wd + (nativeFrameWords "java/lang/System" "arraycopy" 5 + 11) ≤ R.locals) (hp : pc + 3 = pc')
    (kk : ∀ T' h', Wk l Z EL own nm cd ml ret R ws h0 K sf T' h' cells slots → Keep h h' [b] → Arv Z h' b k' ty z' (vd.take dpN ++ us ++ vd.drop (dpN + nN)) dd → Go K P T' pc' ls st) : Go K P T pc ls (.int nn :: .int dp :: .ref b :: .int sp :: .ref a :: st) := by
  subst e1 e2 e3 e4 e5
  obtain ⟨vm0, locs, k0, X, e, hx, hc, e0, hZ, hown, hS, hk, hL, hC, hO, hE, hw, hz, hs⟩ := W
  subst hp
  obtain ⟨T', h', L, X', e', -, Ke, B', f⟩ := cpA X hx hZ hown w1 w2 w3 w4 e A B (Or.inl ⟨rfl, hty⟩) h1 h2 h3 h4 h5 hus hl (n0 := 0) (fun _ _ => Nat.zero_le _) (Nat.zero_le _) (g := mkF K.2.2.2.1 pc ls (.int nn :: .int dp :: .ref b :: .int sp :: .ref a :: st)) rfl (hsz.trans hc.2.1.symm) rfl (hb hc.1 hd) hf (W := Wd) (by show 2 * 0 + _ ≤ _; omega) hlo
  obtain ⟨s1, s2, s3⟩ := hs b hb'
  obtain ⟨cl, B1, -, B3, -⟩ := B
  have X2 := locsAt X X' (by rw [e, e']; exact Ke) z'.toNatClampNeg (fun c hc => by rw [e] at hc; cases hc.symm.trans B1.1; exact Nat.le_of_eq B3)
  have C1 : CHr Z EL vm0 h vm0 h' := CHr.keep Ke (fun x q => by cases List.mem_singleton.mp q; exact s1) hC.1
  obtain ⟨a1, a2, a3, a4⟩ := wAfter (s := K.2.2.1) (so := []) (wsc := [b]) (L := (List.range z'.toNatClampNeg).map fun i => (⟨b, i⟩ : Loc)) hC hs hL hO hw hz (fun x q => by cases List.mem_singleton.mp q; exact hb') (fun x q => nomatch q) (fun x q => Or.inl (by obtain ⟨i, -, rfl⟩ := List.mem_map.mp q; exact List.mem_singleton.mpr rfl)) Ke C1
  exact Go.stp f (kk T' h' ⟨vm0, _, k0, X2, e', hx, hc, e0, hZ, hown, hS, Nat.le_trans hk Ke.1, a3, a1, a4, hE, hw, hz, a2⟩ Ke B')
end More
section Starts
/-- a term that is said to equal an int -/
theorem eqI_v {args : Array Value} {first s : State} {o : Option Outcome} {idx : List Nat} {t : Term} {n : Int32} (h : (Cond.eq t (.int n)).value args first o s idx = some true) : t.eval args first o idx s = some (.int n) := by
  cases ht : t.eval args first o idx s with
  | none => simp [Cond.value, Term.eval, ht] at h
  | some x => cases x <;> simp [Cond.value, Term.eval, ht] at h ⊢; exact h
/-- a term that is said to equal one that is an object -/
theorem eqR_v {args : Array Value} {first s : State} {o : Option Outcome} {idx : List Nat} {t u : Term} {r : Addr} (h : (Cond.eq t u).value args first o s idx = some true) (hu : u.eval args first o idx s = some (.ref r)) : t.eval args first o idx s = some (.ref r) := by
  cases ht : t.eval args first o idx s with
  | none => simp [Cond.value, ht] at h
  | some x => cases x <;> simp [Cond.value, hu, ht] at h ⊢; exact h
theorem arvStart {Z : State} {args : Array Value} {t : Term} {a : Addr} {ty : FieldType} {z : Int32} {vs : List Value} {dv : Value} (hf : Fit Z) (ev : t.eval args Z none [] Z = some (.ref a)) (hx : (Cond.arrayOf t ty).value args Z none Z [] = some true) (hlen : (Cond.eq (Term.length t) (.int z)).value args Z none Z [] = some true) (hz : ¬ z < 0) (hl : z.toNatClampNeg = vs.length) (H : ∀ cl, Z.heap[a]? = some cl → HasL cl 0 vs) : ∃ k, Arv Z Z.heap a k ty z vs dv := by
  obtain ⟨c, A⟩ := Arr.start ev hx
  have hL := eqI_v hlen
  simp only [Term.eval, ev, Option.bind_eq_bind, Option.bind_some] at hL
  obtain ⟨cl, hc, h2⟩ := Option.bind_eq_some_iff.mp hL
  by_cases hn : cl.slots.size < 2147483648
  · rw [if_pos hn] at h2
    have e1 : Z.heap[a]? = some cl := (State.arrayAt?_spec hc).1
    have e2 : cl.slots.size.toInt32 = z := by have q := Option.some.inj h2; injection q
    have e3 : cl = c := Option.some.inj (e1.symm.trans A.1)
    subst e3
    exact ⟨_, Arv.start hf A hn e2 hz hl (H _ A.1)⟩
  · rw [if_neg hn] at h2; cases h2
/-- an element, read -/
theorem elem_h {Z : State} {args : Array Value} {t : Term} {a : Addr} {j : Int32} {v : Value} {cl : Cell} (ev : t.eval args Z none [] Z = some (.ref a)) (he : (Term.elem t (.int j)).eval args Z none [] Z = some v) (hc : Z.heap[a]? = some cl) (i : Nat) (hi : j.toNatClampNeg = i) : cl.slots[i]? = some v := hi ▸ (elem_in he ev (Term.int_eval j) hc).2
end Starts
end Jvm.Own
/- laws to paste: Road.backV, Road.eqW (cut by pick.py; bodies as the Statement names them) -/
namespace Jvm.Pilot.@@N@@
namespace StrChars
open Jvm Sem ClassFile Op Lib Jvm.Stand Jvm.Free.XT Jvm.Free.ALB Jvm.Free.JM Jvm.Free
open Jvm.Lib.Cold (StaticIs)
/-- a char array whose places are chars -/
def Ch (a : Addr) (A : Cell) (U : State) : Prop := Arr .char a A U ∧ Typed .char A
theorem Ch.mv {a : Addr} {A : Cell} {U U' : State} (h : Ch a A U) (hal : U.vm.Alike U'.vm) (hh : U'.heap = U.heap) : Ch a A U' := ⟨h.1.mv hal hh, h.2⟩
theorem Ch.keep {a : Addr} {A : Cell} {U U' : State} (h : Ch a A U) (hal : U.vm.Alike U'.vm) (hk : U'.heap[a]? = some A) : Ch a A U' := ⟨h.1.keep hal hk, h.2⟩
/-- what place i of a char[]'s cell holds -/
def cv (A : Cell) (i : Nat) : Int32 := match A.slots[i]? with | some (.int x) => x | _ => 0
theorem Ch.get {a : Addr} {A : Cell} {U : State} (h : Ch a A U) {i : Nat} (hi : i < A.slots.size) : A.slots[i]? = some (.int (cv A i)) := by
  have e := Array.getElem?_eq_getElem hi
  have f := h.2 i _ e
  unfold cv; rw [e]
  generalize A.slots[i] = v at f
  cases v <;> simp [fits] at f ⊢
/-- the byte that i2b leaves of a char -/
def lo8 (x : Int32) : Int32 := x.toInt8.toInt32
theorem fits_lo8 (y : Int32) : fits .byte (.int (lo8 y)) = true := by
  have h1 := y.toInt8.le_toInt
  have h2 := y.toInt8.toInt_lt
  simp only [lo8, fits, Bool.and_eq_true, decide_eq_true_eq, Int32.le_iff_toInt_le, Int8.toInt_toInt32, show (-128 : Int32).toInt = -128 from by decide, show (127 : Int32).toInt = 127 from by decide]
  omega
/-- A' is A but that each place j of lo .. hi - 1 holds f j -/
def Laid (A A' : Cell) (lo hi : Nat) (f : Nat → Value) : Prop := A'.cls = A.cls ∧ A'.vm = A.vm ∧ A'.slots.size = A.slots.size ∧ ∀ i, A'.slots[i]? = if lo ≤ i ∧ i < hi then some (f i) else A.slots[i]?
theorem Laid.zero (A : Cell) (lo : Nat) (f : Nat → Value) : Laid A A lo (lo + 0) f := ⟨rfl, rfl, rfl, fun i => by rw [if_neg (by omega)]⟩
theorem Laid.step {A Ak : Cell} {lo k : Nat} {f : Nat → Value} {v : Value} (h : Laid A Ak lo k f) (hlo : lo ≤ k) (hk : k < Ak.slots.size) (hv : v = f k) : Laid A (Ak.setSlot k v) lo (k + 1) f := by
  refine ⟨h.1, h.2.1, by simpa [Cell.setSlot] using h.2.2.1, fun i => ?_⟩
  by_cases e : k = i
  · subst e; rw [Cell.slots_setSlot_self v hk, if_pos (by omega), hv]
  · rw [Cell.slots_setSlot_ne v e, h.2.2.2 i]
    by_cases q : lo ≤ i ∧ i < k
    · rw [if_pos q, if_pos (by omega)]
    · rw [if_neg q, if_neg (by omega)]
def U16 : String := "java/lang/StringUTF16"
namespace Cmp5
def yN : MethodName := ⟨"java/lang/StringUTF16", "compress", "([CI[BII)I"⟩
abbrev yB : ByteArray := jdk_52_method_21_code
theorem d0 : decode yB 0 = .ok (.iconst 0, 1) := by decide +kernel
theorem d1 : decode yB 1 = .ok (.istore 5, 2) := by decide +kernel
theorem d3 : decode yB 3 = .ok (.iload 5, 2) := by decide +kernel
theorem d5 : decode yB 5 = .ok (.iload 4, 2) := by decide +kernel
theorem d7 : decode yB 7 = .ok (.if_icmp (.ge) 37, 3) := by decide +kernel
theorem d10 : decode yB 10 = .ok (.aload_n 0, 1) := by decide +kernel
theorem d11 : decode yB 11 = .ok (.iload_n 1, 1) := by decide +kernel
theorem d12 : decode yB 12 = .ok (.caload, 1) := by decide +kernel
theorem d13 : decode yB 13 = .ok (.istore 6, 2) := by decide +kernel
theorem d15 : decode yB 15 = .ok (.iload 6, 2) := by decide +kernel
theorem d17 : decode yB 17 = .ok (.sipush 255, 3) := by decide +kernel
theorem d20 : decode yB 20 = .ok (.if_icmp (.le) 6, 3) := by decide +kernel
theorem d26 : decode yB 26 = .ok (.aload_n 2, 1) := by decide +kernel
theorem d27 : decode yB 27 = .ok (.iload_n 3, 1) := by decide +kernel
theorem d28 : decode yB 28 = .ok (.iload 6, 2) := by decide +kernel
theorem d30 : decode yB 30 = .ok (.i2b, 1) := by decide +kernel
theorem d31 : decode yB 31 = .ok (.bastore, 1) := by decide +kernel
theorem d32 : decode yB 32 = .ok (.iinc 1 1, 3) := by decide +kernel
theorem d35 : decode yB 35 = .ok (.iinc 3 1, 3) := by decide +kernel
theorem d38 : decode yB 38 = .ok (.iinc 5 1, 3) := by decide +kernel
theorem d41 : decode yB 41 = .ok (.goto (-38), 3) := by decide +kernel
theorem d44 : decode yB 44 = .ok (.iload 4, 2) := by decide +kernel
theorem d46 : decode yB 46 = .ok (.ireturn, 1) := by decide +kernel
def site : List Cond := []
def tab : Cond := tabOf yN yB 7 (some .int) site
def P (b : Addr) (A : Cell) (d : Addr) (B : Cell) (o q len : Nat) (args : Array Value) (s : State) : Prop := args = #[.ref b, .int (Int32.ofNat o), .ref d, .int (Int32.ofNat q), .int (Int32.ofNat len)] ∧ Ch b A s ∧ Arr .byte d B s ∧ b ≠ d ∧ o + len ≤ A.slots.size ∧ q + len ≤ B.slots.size ∧ ∀ i, i < len → ¬ 255 < cv A (o + i)
def E (b : Addr) (A : Cell) (d : Addr) (B : Cell) (o q len : Nat) (r : Option Value) (s u : State) : Prop := r = some (.int (Int32.ofNat len)) ∧ ∃ B', Put d B' s u ∧ Laid B B' q (q + len) (fun j => Value.int (lo8 (cv A (o + (j - q)))))
/-- no char of the range above 255: len; the places written hold each char's low byte -/
theorem law (l : Launch) (b : Addr) (A : Cell) (d : Addr) (B : Cell) (o q len : Nat) : Law l yN 5 5 0 0 yB 7 (some .int) site (P b A d B o q len) (E b A d B o q len) (copyLocs d q len) 0 0 := by
  refine Law.of_walk (plainFor_of_name (by decide +kernel)) (by decide +kernel) (by decide +kernel) (by decide) (fun _ _ h => by rw [h.1]; rfl) (fun _ U U' hal hh h => ⟨h.1, h.2.1.mv hal hh, h.2.2.1.mv hal hh, h.2.2.2⟩) (fun r U U' V V' h1 hal h2 h => ⟨h.1, h.2.elim fun B' q => ⟨B', q.1.mv h1 h2, q.2⟩⟩) ?_
  intro p e s m args below meth c s₁ X0 hexec hbytes hml hret hlk hnm hown hh0 W hP
  obtain ⟨rfl, hA, hB, hne, l1, l2, hp⟩ := hP
  have c1 : Steps p.tables e below (s₁.setTop (entryFrame m #[.ref b, .int (Int32.ofNat o), .ref d, .int (Int32.ofNat q), .int (Int32.ofNat len)] 7)) (s₁.setTop (mkF m 0 #[.val (.ref b), .val (.int (Int32.ofNat o)), .val (.ref d), .val (.int (Int32.ofNat q)), .val (.int (Int32.ofNat len)), .unset, .unset] [])) := entry rfl
  have hA0 := hA.1.mv X0.warmed.alike hh0
  have hB0 := hB.mv X0.warmed.alike hh0
  have a31 := hA.1.2.2.2
  have c2 : Steps p.tables e below (s₁.setTop (entryFrame m #[.ref b, .int (Int32.ofNat o), .ref d, .int (Int32.ofNat q), .int (Int32.ofNat len)] 7)) (s₁.setTop (mkF m 3 #[.val (.ref b), .val (.int (Int32.ofNat o)), .val (.ref d), .val (.int (Int32.ofNat q)), .val (.int (Int32.ofNat len)), .val (.int 0), .unset] [])) := c1.trans (by
    refine iconstV X0.here hexec rfl 0 (hb hbytes d0) (by decide) ?_
    refine XS.istore X0.here hexec rfl (hb hbytes d1) rfl rfl ?_
    exact Steps.refl _)
  have loop : ∀ (r i : Nat), i + r = len → ∀ (z : Slot), (z = .unset ∨ ∃ w, z = .val w ∧ w.category = 1) → ∀ (Tl : State) (Bk : Cell), Stand p l e { frames := 0, locals := 0, cells := 0, slots := 0 } s m #[.ref b, .int (Int32.ofNat o), .ref d, .int (Int32.ofNat q), .int (Int32.ofNat len)] below meth c Tl ([] ++ copyLocs d q i) 0 0 → Put d Bk s₁ Tl → Laid B Bk q (q + i) (fun j => Value.int (lo8 (cv A (o + (j - q))))) →
      Steps p.tables e below (s₁.setTop (entryFrame m #[.ref b, .int (Int32.ofNat o), .ref d, .int (Int32.ofNat q), .int (Int32.ofNat len)] 7)) (Tl.setTop (mkF m 3 #[.val (.ref b), .val (.int (Int32.ofNat (o + i))), .val (.ref d), .val (.int (Int32.ofNat (q + i))), .val (.int (Int32.ofNat len)), .val (.int (Int32.ofNat i)), z] [])) → ∃ (T' : State) (B' : Cell) (z' : Slot), Stand p l e { frames := 0, locals := 0, cells := 0, slots := 0 } s m #[.ref b, .int (Int32.ofNat o), .ref d, .int (Int32.ofNat q), .int (Int32.ofNat len)] below meth c T' ([] ++ copyLocs d q len) 0 0 ∧ Put d B' s₁ T' ∧ Laid B B' q (q + len) (fun j => Value.int (lo8 (cv A (o + (j - q))))) ∧
      Steps p.tables e below (s₁.setTop (entryFrame m #[.ref b, .int (Int32.ofNat o), .ref d, .int (Int32.ofNat q), .int (Int32.ofNat len)] 7)) (T'.setTop (mkF m 3 #[.val (.ref b), .val (.int (Int32.ofNat (o + len))), .val (.ref d), .val (.int (Int32.ofNat (q + len))), .val (.int (Int32.ofNat len)), .val (.int (Int32.ofNat len)), z'] [])) := by
    intro r
    induction r with
    | zero =>
      intro i hi z hz Tl Bk Xl pl fl cl
      have hil : i = len := by omega
      rw [hil] at Xl fl cl
      exact ⟨Tl, Bk, z, Xl, pl, fl, cl⟩
    | succ r ih =>
      intro i hi z hz Tl Bk Xl pl fl cl
      have all := X0.warmed.alike.symm.trans Xl.warmed.alike
      have hAl := hA0.keep all (pl.other hne hA0.1)
      have hBk := hB0.like all pl.1 fl.1 fl.2.1 fl.2.2.1
      have hlt : q + i < Bk.slots.size := by rw [fl.2.2.1]; omega
      have c3 : Steps p.tables e below (s₁.setTop (entryFrame m #[.ref b, .int (Int32.ofNat o), .ref d, .int (Int32.ofNat q), .int (Int32.ofNat len)] 7)) (Tl.setTop (mkF m 12 #[.val (.ref b), .val (.int (Int32.ofNat (o + i))), .val (.ref d), .val (.int (Int32.ofNat (q + i))), .val (.int (Int32.ofNat len)), .val (.int (Int32.ofNat i)), z] [.int (Int32.ofNat (o + i)), .ref b])) := cl.trans (by
        refine XS.iload Xl.here hexec rfl (hb hbytes d3) rfl ?_
        refine XS.iload Xl.here hexec rfl (hb hbytes d5) rfl ?_
        refine XS.icmpNo Xl.here hexec rfl (hb hbytes d7) rfl (ii_ge_f (lt32 (by omega) (by omega))) ?_
        refine XS.aloadN Xl.here hexec rfl (hb hbytes d10) rfl rfl ?_
        refine XS.iloadN Xl.here hexec rfl (hb hbytes d11) rfl ?_
        exact Steps.refl _)
      have c4 : Steps p.tables e below (s₁.setTop (entryFrame m #[.ref b, .int (Int32.ofNat o), .ref d, .int (Int32.ofNat q), .int (Int32.ofNat len)] 7)) (Tl.setTop (mkF m 13 #[.val (.ref b), .val (.int (Int32.ofNat (o + i))), .val (.ref d), .val (.int (Int32.ofNat (q + i))), .val (.int (Int32.ofNat len)), .val (.int (Int32.ofNat i)), z] [.int (cv A (o + i))])) := c3.trans (by
        refine Xl.aget hexec hAl rfl (hA.get (i := o + i) (by omega)) rfl rfl (hb hbytes d12) ?_
        exact Steps.refl _)
      have c5 : Steps p.tables e below (s₁.setTop (entryFrame m #[.ref b, .int (Int32.ofNat o), .ref d, .int (Int32.ofNat q), .int (Int32.ofNat len)] 7)) (Tl.setTop (mkF m 15 #[.val (.ref b), .val (.int (Int32.ofNat (o + i))), .val (.ref d), .val (.int (Int32.ofNat (q + i))), .val (.int (Int32.ofNat len)), .val (.int (Int32.ofNat i)), .val (.int (cv A (o + i)))] [])) := c4.trans (by
        refine XS.istoreS Xl.here hexec rfl (hb hbytes d13) rfl rfl hz ?_
        exact Steps.refl _)
      have c6 : Steps p.tables e below (s₁.setTop (entryFrame m #[.ref b, .int (Int32.ofNat o), .ref d, .int (Int32.ofNat q), .int (Int32.ofNat len)] 7)) (Tl.setTop (mkF m 31 #[.val (.ref b), .val (.int (Int32.ofNat (o + i))), .val (.ref d), .val (.int (Int32.ofNat (q + i))), .val (.int (Int32.ofNat len)), .val (.int (Int32.ofNat i)), .val (.int (cv A (o + i)))] [.int (lo8 (cv A (o + i))), .int (Int32.ofNat (q + i)), .ref d])) := c5.trans (by
        refine XS.iload Xl.here hexec rfl (hb hbytes d15) rfl ?_
        refine sipushV Xl.here hexec rfl 255 (hb hbytes d17) (by decide) ?_
        refine XS.icmpYes Xl.here hexec rfl (pc0 := 20) rfl (hb hbytes d20) rfl (ii_le_t (hp i (by omega))) (by decide) rfl ?_
        refine XS.aloadN Xl.here hexec rfl (hb hbytes d26) rfl rfl ?_
        refine XS.iloadN Xl.here hexec rfl (hb hbytes d27) rfl ?_
        refine XS.iload Xl.here hexec rfl (hb hbytes d28) rfl ?_
        refine i2b Xl.here hexec rfl (hb hbytes d30) rfl ?_
        exact Steps.refl _)
      obtain ⟨T7, X7, p7, st7⟩ := Xl.aput hexec hBk rfl hlt rfl (fits_lo8 (cv A (o + i))) (g := (mkF m 31 #[.val (.ref b), .val (.int (Int32.ofNat (o + i))), .val (.ref d), .val (.int (Int32.ofNat (q + i))), .val (.int (Int32.ofNat len)), .val (.int (Int32.ofNat i)), .val (.int (cv A (o + i)))] [.int (lo8 (cv A (o + i))), .int (Int32.ofNat (q + i)), .ref d])) rfl (rest := []) rfl (hb hbytes d31)
      have c8 : Steps p.tables e below (s₁.setTop (entryFrame m #[.ref b, .int (Int32.ofNat o), .ref d, .int (Int32.ofNat q), .int (Int32.ofNat len)] 7)) (T7.setTop (mkF m 32 #[.val (.ref b), .val (.int (Int32.ofNat (o + i))), .val (.ref d), .val (.int (Int32.ofNat (q + i))), .val (.int (Int32.ofNat len)), .val (.int (Int32.ofNat i)), .val (.int (cv A (o + i)))] [])) := c6.trans (st7 _ (Steps.refl _))
      have c9 : Steps p.tables e below (s₁.setTop (entryFrame m #[.ref b, .int (Int32.ofNat o), .ref d, .int (Int32.ofNat q), .int (Int32.ofNat len)] 7)) (T7.setTop (mkF m 3 #[.val (.ref b), .val (.int (Int32.ofNat (o + i) + 1)), .val (.ref d), .val (.int (Int32.ofNat (q + i) + 1)), .val (.int (Int32.ofNat len)), .val (.int (Int32.ofNat i + 1)), .val (.int (cv A (o + i)))] [])) := c8.trans (by
        refine iincV X7.here hexec rfl 1 (hb hbytes d32) (by decide) rfl rfl ?_
        refine iincV X7.here hexec rfl 1 (hb hbytes d35) (by decide) rfl rfl ?_
        refine iincV X7.here hexec rfl 1 (hb hbytes d38) (by decide) rfl rfl ?_
        refine XS.goto X7.here hexec rfl (pc0 := 41) rfl (hb hbytes d41) (by decide) rfl ?_
        exact Steps.refl _)
      have c10 : Steps p.tables e below (s₁.setTop (entryFrame m #[.ref b, .int (Int32.ofNat o), .ref d, .int (Int32.ofNat q), .int (Int32.ofNat len)] 7)) (T7.setTop (mkF m 3 #[.val (.ref b), .val (.int (Int32.ofNat (o + (i + 1)))), .val (.ref d), .val (.int (Int32.ofNat (q + (i + 1)))), .val (.int (Int32.ofNat len)), .val (.int (Int32.ofNat (i + 1))), .val (.int (cv A (o + i)))] [])) := by
        have := c9
        rw [succ32, succ32, succ32] at this
        exact this
      exact ih (i + 1) (by omega) _ (Or.inr ⟨_, rfl, rfl⟩) T7 _ (by rw [copyLocs_step, ← List.append_assoc]; exact X7) (pl.trans p7) (fl.step (by omega) hlt (by simp)) c10
  obtain ⟨T9, B9, z9, X9, p9, f9, g9⟩ := loop len 0 (by omega) .unset (Or.inl rfl) s₁ B (by simpa [copyLocs] using X0) ⟨hB0.1, fun _ _ => rfl, rfl⟩ (Laid.zero _ _ _) c2
  have c11 : Steps p.tables e below (s₁.setTop (entryFrame m #[.ref b, .int (Int32.ofNat o), .ref d, .int (Int32.ofNat q), .int (Int32.ofNat len)] 7)) (T9.setTop (mkF m 46 #[.val (.ref b), .val (.int (Int32.ofNat (o + len))), .val (.ref d), .val (.int (Int32.ofNat (q + len))), .val (.int (Int32.ofNat len)), .val (.int (Int32.ofNat len)), z9] [.int (Int32.ofNat len)])) := g9.trans (by
    refine XS.iload X9.here hexec rfl (hb hbytes d3) rfl ?_
    refine XS.iload X9.here hexec rfl (hb hbytes d5) rfl ?_
    refine XS.icmpYes X9.here hexec rfl (pc0 := 7) rfl (hb hbytes d7) rfl (ii_ge_t (nlt32 (by omega) (Nat.le_refl _))) (by decide) rfl ?_
    refine XS.iload X9.here hexec rfl (hb hbytes d44) rfl ?_
    exact Steps.refl _)
  exact ⟨T9, some (.int (Int32.ofNat len)), _, _, _, X9, by simp, rfl, rfl, (fun h => by cases h), ⟨rfl, B9, p9.from hh0, f9⟩, fun fs hl => c11.trans (X9.ireturnOut hexec hret rfl (Or.inl rfl) (hb hbytes d46) hl)⟩
end Cmp5
namespace Cmp3
def yN : MethodName := ⟨"java/lang/StringUTF16", "compress", "([CII)[B"⟩
abbrev yB : ByteArray := jdk_52_method_16_code
theorem d0 : decode yB 0 = .ok (.iload_n 2, 1) := by decide +kernel
theorem d1 : decode yB 1 = .ok (.newarray .byte, 2) := by decide +kernel
theorem d3 : decode yB 3 = .ok (.astore_n 3, 1) := by decide +kernel
theorem d4 : decode yB 4 = .ok (.aload_n 0, 1) := by decide +kernel
theorem d5 : decode yB 5 = .ok (.iload_n 1, 1) := by decide +kernel
theorem d6 : decode yB 6 = .ok (.aload_n 3, 1) := by decide +kernel
theorem d7 : decode yB 7 = .ok (.iconst 0, 1) := by decide +kernel
theorem d8 : decode yB 8 = .ok (.iload_n 2, 1) := by decide +kernel
theorem d9 : decode yB 9 = .ok (.invokestatic 115, 3) := by decide +kernel
theorem d12 : decode yB 12 = .ok (.istore 4, 2) := by decide +kernel
theorem d14 : decode yB 14 = .ok (.iload 4, 2) := by decide +kernel
theorem d16 : decode yB 16 = .ok (.iload_n 2, 1) := by decide +kernel
theorem d17 : decode yB 17 = .ok (.if_icmp (.eq) 40, 3) := by decide +kernel
theorem d57 : decode yB 57 = .ok (.aload_n 3, 1) := by decide +kernel
theorem d58 : decode yB 58 = .ok (.areturn, 1) := by decide +kernel
def site : List Cond := [.arrayClass .byte, Cmp5.tab] ++ staticW U16 115 Cmp5.yN
def tab : Cond := tabOf yN yB 6 (some (.array .byte)) site
def P (b : Addr) (A : Cell) (o len : Nat) (args : Array Value) (s : State) : Prop := args = #[.ref b, .int (Int32.ofNat o), .int (Int32.ofNat len)] ∧ Ch b A s ∧ o + len ≤ A.slots.size ∧ len ≤ 536870912 ∧ ∀ i, i < len → ¬ 255 < cv A (o + i)
def E (b : Addr) (A : Cell) (o len : Nat) (r : Option Value) (s u : State) : Prop := NewArr .byte "[B" len (fun j => .int (lo8 (cv A (o + j)))) r s u ∧ u.heap.size = s.heap.size + 1
/-- no char of the range above 255: a new byte[] of their low bytes -/
theorem law (l : Launch) (b : Addr) (A : Cell) (o len : Nat) : Law l yN 3 3 1 18 yB 6 (some (.array .byte)) site (P b A o len) (E b A o len) [] 1 len := by
  refine Law.of_walk (plainFor_of_name (by decide +kernel)) (by decide +kernel) (by decide +kernel) (by decide) (fun _ _ h => by rw [h.1]; rfl) (fun _ U U' hal hh h => ⟨h.1, h.2.1.mv hal hh, h.2.2⟩) (fun r U U' V V' h1 hal h2 h => ⟨NewArr.mv r U U' V V' h1 hal h2 h.1, by rw [h1, h2]; exact h.2⟩) ?_
  intro p e s m args below meth c s₁ X0 hexec hbytes hml hret hlk hnm hown hh0 W hP
  obtain ⟨rfl, hA, l1, l2, hp⟩ := hP
  have a31 := hA.1.2.2.2
  have c1 : Steps p.tables e below (s₁.setTop (entryFrame m #[.ref b, .int (Int32.ofNat o), .int (Int32.ofNat len)] 6)) (s₁.setTop (mkF m 0 #[.val (.ref b), .val (.int (Int32.ofNat o)), .val (.int (Int32.ofNat len)), .unset, .unset, .unset] [])) := entry rfl
  have c2 : Steps p.tables e below (s₁.setTop (entryFrame m #[.ref b, .int (Int32.ofNat o), .int (Int32.ofNat len)] 6)) (s₁.setTop (mkF m 1 #[.val (.ref b), .val (.int (Int32.ofNat o)), .val (.int (Int32.ofNat len)), .unset, .unset, .unset] [.int (Int32.ofNat len)])) := c1.trans (by
    refine XS.iloadN X0.here hexec rfl (hb hbytes d0) rfl ?_
    exact Steps.refl _)
  obtain ⟨T3, B3, X3, ba3, bs3, bv3, bh3, bf3, st3⟩ := X0.anew hexec (atype := .byte) (wk W (.arrayClass .byte)) rfl (by show len * 1 ≤ _; omega) (by omega) (g := (mkF m 1 #[.val (.ref b), .val (.int (Int32.ofNat o)), .val (.int (Int32.ofNat len)), .unset, .unset, .unset] [.int (Int32.ofNat len)])) rfl (hb hbytes d1) (rest := []) rfl (Nat.le_refl _) (by show 0 + len ≤ len; omega)
  rw [hh0] at ba3 st3
  have kp3 : XT.Kept s T3 := (XT.Kept.of_eq hh0).push bh3
  have hA3 := hA.keep X3.warmed.alike (kp3 _ _ hA.1.1)
  have hne : b ≠ s.heap.size := hA.1.ne
  have c4 : Steps p.tables e below (s₁.setTop (entryFrame m #[.ref b, .int (Int32.ofNat o), .int (Int32.ofNat len)] 6)) (T3.setTop (mkF m 3 #[.val (.ref b), .val (.int (Int32.ofNat o)), .val (.int (Int32.ofNat len)), .unset, .unset, .unset] [.ref s.heap.size])) := c2.trans (st3 _ (Steps.refl _))
  have c5 : Steps p.tables e below (s₁.setTop (entryFrame m #[.ref b, .int (Int32.ofNat o), .int (Int32.ofNat len)] 6)) (T3.setTop (mkF m 9 #[.val (.ref b), .val (.int (Int32.ofNat o)), .val (.int (Int32.ofNat len)), .val (.ref s.heap.size), .unset, .unset] [.int (Int32.ofNat len), .int 0, .ref s.heap.size, .int (Int32.ofNat o), .ref b])) := c4.trans (by
    refine XS.astoreN X3.here hexec rfl (hb hbytes d3) rfl rfl rfl ?_
    refine XS.aloadN X3.here hexec rfl (hb hbytes d4) rfl rfl ?_
    refine XS.iloadN X3.here hexec rfl (hb hbytes d5) rfl ?_
    refine XS.aloadN X3.here hexec rfl (hb hbytes d6) rfl rfl ?_
    refine iconstV X3.here hexec rfl 0 (hb hbytes d7) (by decide) ?_
    refine XS.iloadN X3.here hexec rfl (hb hbytes d8) rfl ?_
    exact Steps.refl _)
  obtain ⟨v6, T6, X6, E6, g6⟩ := X3.callS hexec (Cmp5.law l b A s.heap.size B3 o 0 len) hown (wks W (staticW U16 115 Cmp5.yN)) (wk W Cmp5.tab) (W := 0) (Nat.le_of_ble_eq_true rfl) (Nat.le_of_ble_eq_true rfl) (Nat.le_refl _) (by show 0 + len + 0 ≤ len; omega) (g := (mkF m 9 #[.val (.ref b), .val (.int (Int32.ofNat o)), .val (.int (Int32.ofNat len)), .val (.ref s.heap.size), .unset, .unset] [.int (Int32.ofNat len), .int (Int32.ofNat 0), .ref s.heap.size, .int (Int32.ofNat o), .ref b])) rfl (by rw [hml]; rfl) c5 (argsL := [.ref b, .int (Int32.ofNat o), .ref s.heap.size, .int (Int32.ofNat 0), .int (Int32.ofNat len)]) (rest := []) rfl rfl (by show 2 * 0 + 0 ≤ _; decide) (hb hbytes d9) (⟨rfl, hA3, ba3, hne, l1, by rw [bs3]; simp, hp⟩)
  obtain ⟨rfl, B6, p6, f6⟩ := E6
  have c7 : Steps p.tables e below (s₁.setTop (entryFrame m #[.ref b, .int (Int32.ofNat o), .int (Int32.ofNat len)] 6)) (T6.setTop (mkF m 12 #[.val (.ref b), .val (.int (Int32.ofNat o)), .val (.int (Int32.ofNat len)), .val (.ref s.heap.size), .unset, .unset] [.int (Int32.ofNat len)])) := g6
  have c8 : Steps p.tables e below (s₁.setTop (entryFrame m #[.ref b, .int (Int32.ofNat o), .int (Int32.ofNat len)] 6)) (T6.setTop (mkF m 58 #[.val (.ref b), .val (.int (Int32.ofNat o)), .val (.int (Int32.ofNat len)), .val (.ref s.heap.size), .val (.int (Int32.ofNat len)), .unset] [.ref s.heap.size])) := c7.trans (by
    refine XS.istore X6.here hexec rfl (hb hbytes d12) rfl rfl ?_
    refine XS.iload X6.here hexec rfl (hb hbytes d14) rfl ?_
    refine XS.iloadN X6.here hexec rfl (hb hbytes d16) rfl ?_
    refine XS.icmpYes X6.here hexec rfl (pc0 := 17) rfl (hb hbytes d17) rfl (ii_eq_t rfl) (by decide) rfl ?_
    refine XS.aloadN X6.here hexec rfl (hb hbytes d57) rfl rfl ?_
    exact Steps.refl _)
  have X8 := X6.wide (L' := []) (cells' := 1) (slots' := len) (fun x hx hlt => by
    simp only [List.nil_append, copyLocs, List.mem_map, List.mem_range] at hx
    obtain ⟨i, -, rfl⟩ := hx
    exact absurd hlt (Nat.lt_irrefl _)) (Nat.le_refl _) (by omega)
  exact ⟨T6, some (.ref s.heap.size), _, _, _, X8, rfl, rfl, rfl, (fun h => by cases h), ⟨⟨rfl, B6, ba3.like (X3.warmed.alike.symm.trans X6.warmed.alike) p6.1 f6.1 f6.2.1 f6.2.2.1, f6.2.1.trans bv3, by rw [X6.warmed.alike.findClass, f6.1]; exact bf3, by rw [f6.2.2.1, bs3]; simp, fun j hj => by rw [f6.2.2.2 j, if_pos (by omega)]; rfl, kp3.put p6 (Nat.le_refl _)⟩, by rw [p6.2.2, bh3, hh0]; simp⟩, fun fs hl => c8.trans (X8.areturnOut hexec rfl hret rfl (hb hbytes d58) hl)⟩
end Cmp3
namespace CodL
def yN : MethodName := ⟨"java/lang/StringUTF16", "coderFromArrayLen", "([BI)B"⟩
abbrev yB : ByteArray := jdk_52_method_15_code
theorem d0 : decode yB 0 = .ok (.iload_n 1, 1) := by decide +kernel
theorem d1 : decode yB 1 = .ok (.aload_n 0, 1) := by decide +kernel
theorem d2 : decode yB 2 = .ok (.arraylength, 1) := by decide +kernel
theorem d3 : decode yB 3 = .ok (.isub, 1) := by decide +kernel
theorem d4 : decode yB 4 = .ok (.bipush 31, 2) := by decide +kernel
theorem d6 : decode yB 6 = .ok (.iushr, 1) := by decide +kernel
theorem d7 : decode yB 7 = .ok (.i2b, 1) := by decide +kernel
theorem d8 : decode yB 8 = .ok (.ireturn, 1) := by decide +kernel
def site : List Cond := []
def tab : Cond := tabOf yN yB 2 (some .byte) site
def P (d : Addr) (B : Cell) (args : Array Value) (s : State) : Prop := args = #[.ref d, .int (Int32.ofNat B.slots.size)] ∧ Arr .byte d B s
def E (r : Option Value) (s u : State) : Prop := XT.PureE (some (.int 0)) r s u
/-- an array as long as the number of chars: LATIN1 -/
theorem law (l : Launch) (d : Addr) (B : Cell) : Law l yN 2 2 0 0 yB 2 (some .byte) site (P d B) E [] 0 0 := by
  refine Law.of_walk (plainFor_of_name (by decide +kernel)) (by decide +kernel) (by decide +kernel) (by decide) (fun _ _ h => by rw [h.1]; rfl) (fun _ U U' hal hh h => ⟨h.1, h.2.mv hal hh⟩) (fun r U U' V V' h1 hal h2 h => XT.PureE.mv r U U' V V' h1 hal h2 h) ?_
  intro p e s m args below meth c s₁ X0 hexec hbytes hml hret hlk hnm hown hh0 W hP
  obtain ⟨rfl, hB⟩ := hP
  have hB0 := hB.mv X0.warmed.alike hh0
  have c1 : Steps p.tables e below (s₁.setTop (entryFrame m #[.ref d, .int (Int32.ofNat B.slots.size)] 2)) (s₁.setTop (mkF m 0 #[.val (.ref d), .val (.int (Int32.ofNat B.slots.size))] [])) := entry rfl
  have c2 : Steps p.tables e below (s₁.setTop (entryFrame m #[.ref d, .int (Int32.ofNat B.slots.size)] 2)) (s₁.setTop (mkF m 2 #[.val (.ref d), .val (.int (Int32.ofNat B.slots.size))] [.ref d, .int (Int32.ofNat B.slots.size)])) := c1.trans (by
    refine XS.iloadN X0.here hexec rfl (hb hbytes d0) rfl ?_
    refine XS.aloadN X0.here hexec rfl (hb hbytes d1) rfl rfl ?_
    exact Steps.refl _)
  have c3 : Steps p.tables e below (s₁.setTop (entryFrame m #[.ref d, .int (Int32.ofNat B.slots.size)] 2)) (s₁.setTop (mkF m 8 #[.val (.ref d), .val (.int (Int32.ofNat B.slots.size))] [.int (lo8 (ushr (Int32.ofNat B.slots.size - Int32.ofNat B.slots.size) 31))])) := c2.trans (by
    refine X0.alen hexec hB0 rfl rfl (hb hbytes d2) ?_
    refine XS.isub X0.here hexec rfl (hb hbytes d3) rfl ?_
    refine bipushV X0.here hexec rfl 31 (hb hbytes d4) (by decide) ?_
    refine iushr X0.here hexec rfl (hb hbytes d6) rfl ?_
    refine i2b X0.here hexec rfl (hb hbytes d7) rfl ?_
    exact Steps.refl _)
  have e0 : lo8 (ushr (Int32.ofNat B.slots.size - Int32.ofNat B.slots.size) 31) = 0 := by rw [Int32.sub_self]; decide
  rw [e0] at c3
  exact ⟨s₁, some (.int 0), _, _, _, X0, rfl, rfl, rfl, (fun h => by cases h), ⟨rfl, hh0⟩, fun fs hl => c3.trans (X0.ireturnOut hexec hret rfl (Or.inr (Or.inr (Or.inl rfl))) (hb hbytes d8) hl)⟩
end CodL
/-- the String at a is Latin-1 over a new byte[] (the heap's one new cell): the low bytes of the len chars of A from o on; every cell but a is kept -/
def Got (a : Addr) (D : Cell) (fV fC : Field) (A : Cell) (o len : Nat) (r : Option Value) (s u : State) : Prop := r = none ∧ ∃ D' V : Cell, Blank "java/lang/String" a D' u ∧ Same D D' [fV.slot, fC.slot] ∧ D'.slots[fV.slot]? = some (.ref s.heap.size) ∧ D'.slots[fC.slot]? = some (.int 0) ∧ Arr .byte s.heap.size V u ∧ V.vm = .none ∧ u.vm.findClass "[B" = some V.cls ∧ V.slots.size = len ∧ (∀ j, j < len → V.slots[j]? = some (.int (lo8 (cv A (o + j))))) ∧ (∀ (y : Addr) (c : Cell), y ≠ a → s.heap[y]? = some c → u.heap[y]? = some c) ∧ u.heap.size = s.heap.size + 1
theorem Got.mv {a : Addr} {D A : Cell} {fV fC : Field} {o len : Nat} : ∀ r (U U' V V' : State), U'.heap = U.heap → V.vm.Alike V'.vm → V'.heap = V.heap → Got a D fV fC A o len r U V → Got a D fV fC A o len r U' V' :=
  fun r U U' V V' h1 hal h2 ⟨e0, D', X, a1, a2, a3, a4, a5, a6, a7, a8, a9, a10, a11⟩ => ⟨e0, D', X, a1.mv hal h2, a2, by rw [h1]; exact a3, a4, by rw [h1]; exact a5.mv hal h2, a6, by rw [hal.findClass]; exact a7, a8, a9, by rw [h1, h2]; exact a10, by rw [h1, h2]; exact a11⟩
namespace New4
def yN : MethodName := ⟨"java/lang/String", "<init>", "([CIILjava/lang/Void;)V"⟩
abbrev yB : ByteArray := jdk_42_method_149_code
theorem d0 : decode yB 0 = .ok (.aload_n 0, 1) := by decide +kernel
theorem d1 : decode yB 1 = .ok (.invokespecial 1, 3) := by decide +kernel
theorem d4 : decode yB 4 = .ok (.iload_n 3, 1) := by decide +kernel
theorem d5 : decode yB 5 = .ok (.ifCond (.ne) 22, 3) := by decide +kernel
theorem d27 : decode yB 27 = .ok (.getstatic 38, 3) := by decide +kernel
theorem d30 : decode yB 30 = .ok (.ifCond (.eq) 28, 3) := by decide +kernel
theorem d33 : decode yB 33 = .ok (.aload_n 1, 1) := by decide +kernel
theorem d34 : decode yB 34 = .ok (.iload_n 2, 1) := by decide +kernel
theorem d35 : decode yB 35 = .ok (.iload_n 3, 1) := by decide +kernel
theorem d36 : decode yB 36 = .ok (.invokestatic 177, 3) := by decide +kernel
theorem d39 : decode yB 39 = .ok (.astore 5, 2) := by decide +kernel
theorem d41 : decode yB 41 = .ok (.aload_n 0, 1) := by decide +kernel
theorem d42 : decode yB 42 = .ok (.aload 5, 2) := by decide +kernel
theorem d44 : decode yB 44 = .ok (.iload_n 3, 1) := by decide +kernel
theorem d45 : decode yB 45 = .ok (.invokestatic 47, 3) := by decide +kernel
theorem d48 : decode yB 48 = .ok (.putfield 15, 3) := by decide +kernel
theorem d51 : decode yB 51 = .ok (.aload_n 0, 1) := by decide +kernel
theorem d52 : decode yB 52 = .ok (.aload 5, 2) := by decide +kernel
theorem d54 : decode yB 54 = .ok (.putfield 9, 3) := by decide +kernel
theorem d57 : decode yB 57 = .ok (.return_, 1) := by decide +kernel
def site : List Cond := [.fieldLink "java/lang/String" 38 "java/lang/String" "COMPACT_STRINGS" "Z", Cmp3.tab, CodL.tab, .laysFinal "java/lang/String" "java/lang/String" "value" "[B", .fieldLink "java/lang/String" 9 "java/lang/String" "value" "[B", .laysFinal "java/lang/String" "java/lang/String" "coder" "B", .fieldLink "java/lang/String" 15 "java/lang/String" "coder" "B"] ++ objW "java/lang/String" 1 ++ staticW "java/lang/String" 177 Cmp3.yN ++ staticW "java/lang/String" 47 CodL.yN
def tab : Cond := tabOf yN yB 6 none site
def P (a : Addr) (D : Cell) (fV fC : Field) (b : Addr) (A : Cell) (z : Int32) (o len : Nat) (args : Array Value) (s : State) : Prop := args = #[.ref a, .ref b, .int (Int32.ofNat o), .int (Int32.ofNat len), .null] ∧ Blank "java/lang/String" a D s ∧ Found "java/lang/String" "value" "[B" fV s ∧ Found "java/lang/String" "coder" "B" fC s ∧ Ch b A s ∧ StaticIs s "java/lang/String" "COMPACT_STRINGS" "Z" (.int z) ∧ ¬ z = 0 ∧ 0 < len ∧ o + len ≤ A.slots.size ∧ len ≤ 536870912 ∧ ∀ i, i < len → ¬ 255 < cv A (o + i)
def E (a : Addr) (D : Cell) (fV fC : Field) (A : Cell) (o len : Nat) (r : Option Value) (s u : State) : Prop := Got a D fV fC A o len r s u
/-- len > 0, no char of the range above 255: a Latin-1 String of their low bytes -/
theorem law (l : Launch) (a : Addr) (D : Cell) (fV fC : Field) (b : Addr) (A : Cell) (z : Int32) (o len : Nat) : Law l yN 5 4 2 35 yB 6 none site (P a D fV fC b A z o len) (E a D fV fC A o len) [⟨a, fC.slot⟩, ⟨a, fV.slot⟩] 1 len := by
  refine Law.of_walk (plainFor_of_name (by decide +kernel)) (by decide +kernel) (by decide +kernel) (by decide) (fun _ _ h => by rw [h.1]; rfl) (fun _ U U' hal hh h => ⟨h.1, h.2.1.mv hal hh, h.2.2.1.al hal, h.2.2.2.1.al hal, h.2.2.2.2.1.mv hal hh, h.2.2.2.2.2.1.there hal hh, h.2.2.2.2.2.2⟩) (fun r U U' V V' h1 hal h2 h => Got.mv r U U' V V' h1 hal h2 h) ?_
  intro p e s m args below meth c s₁ X0 hexec hbytes hml hret hlk hnm hown hh0 W hP
  obtain ⟨rfl, hB, f1, f2, hA, s1, hz, l0, l1, l2, hp⟩ := hP
  have a31 := hA.1.2.2.2
  have c1 : Steps p.tables e below (s₁.setTop (entryFrame m #[.ref a, .ref b, .int (Int32.ofNat o), .int (Int32.ofNat len), .null] 6)) (s₁.setTop (mkF m 0 #[.val (.ref a), .val (.ref b), .val (.int (Int32.ofNat o)), .val (.int (Int32.ofNat len)), .val .null, .unset] [])) := entry rfl
  have c2 : Steps p.tables e below (s₁.setTop (entryFrame m #[.ref a, .ref b, .int (Int32.ofNat o), .int (Int32.ofNat len), .null] 6)) (s₁.setTop (mkF m 1 #[.val (.ref a), .val (.ref b), .val (.int (Int32.ofNat o)), .val (.int (Int32.ofNat len)), .val .null, .unset] [.ref a])) := c1.trans (by
    refine XS.aloadN X0.here hexec rfl (hb hbytes d0) rfl rfl ?_
    exact Steps.refl _)
  obtain ⟨T3, X3, q3, st3⟩ := X0.oinit hexec hown (wks W (objW "java/lang/String" 1)) (g := (mkF m 1 #[.val (.ref a), .val (.ref b), .val (.int (Int32.ofNat o)), .val (.int (Int32.ofNat len)), .val .null, .unset] [.ref a])) rfl (by rw [hml]; rfl) (rest := []) rfl (hb hbytes d1) (W := 0) (by show 2 * 0 + 0 ≤ _; decide) (Nat.le_of_ble_eq_true rfl) (Nat.le_of_ble_eq_true rfl)
  have hh3 := q3.trans hh0
  have c4 : Steps p.tables e below (s₁.setTop (entryFrame m #[.ref a, .ref b, .int (Int32.ofNat o), .int (Int32.ofNat len), .null] 6)) (T3.setTop (mkF m 27 #[.val (.ref a), .val (.ref b), .val (.int (Int32.ofNat o)), .val (.int (Int32.ofNat len)), .val .null, .unset] [])) := (c2.trans (st3 _ (Steps.refl _))).trans (by
    refine XS.iloadN X3.here hexec rfl (hb hbytes d4) rfl ?_
    refine XS.ifYes X3.here hexec rfl (pc0 := 5) rfl (hb hbytes d5) rfl (i0_ne_t (nz32 (by omega) l0)) (by decide) rfl ?_
    exact Steps.refl _)
  obtain ⟨T5, X5, q5, st5⟩ := X3.sget hexec hown (wk W (.fieldLink "java/lang/String" 38 "java/lang/String" "COMPACT_STRINGS" "Z")) s1 (fun _ _ h => by rw [hh3]; exact h) (g := (mkF m 27 #[.val (.ref a), .val (.ref b), .val (.int (Int32.ofNat o)), .val (.int (Int32.ofNat len)), .val .null, .unset] [])) rfl (hb hbytes d27)
  have hh5 := q5.trans hh3
  have c6 : Steps p.tables e below (s₁.setTop (entryFrame m #[.ref a, .ref b, .int (Int32.ofNat o), .int (Int32.ofNat len), .null] 6)) (T5.setTop (mkF m 30 #[.val (.ref a), .val (.ref b), .val (.int (Int32.ofNat o)), .val (.int (Int32.ofNat len)), .val .null, .unset] [.int z])) := c4.trans (st5 _ (Steps.refl _))
  have c7 : Steps p.tables e below (s₁.setTop (entryFrame m #[.ref a, .ref b, .int (Int32.ofNat o), .int (Int32.ofNat len), .null] 6)) (T5.setTop (mkF m 36 #[.val (.ref a), .val (.ref b), .val (.int (Int32.ofNat o)), .val (.int (Int32.ofNat len)), .val .null, .unset] [.int (Int32.ofNat len), .int (Int32.ofNat o), .ref b])) := c6.trans (by
    refine XS.ifNo X5.here hexec rfl (hb hbytes d30) rfl (i0_eq_f hz) ?_
    refine XS.aloadN X5.here hexec rfl (hb hbytes d33) rfl rfl ?_
    refine XS.iloadN X5.here hexec rfl (hb hbytes d34) rfl ?_
    refine XS.iloadN X5.here hexec rfl (hb hbytes d35) rfl ?_
    exact Steps.refl _)
  obtain ⟨v8, T8, X8, E8, g8⟩ := X5.callS hexec (Cmp3.law l b A o len) hown (wks W (staticW "java/lang/String" 177 Cmp3.yN)) (wk W Cmp3.tab) (W := 0) (Nat.le_of_ble_eq_true rfl) (Nat.le_of_ble_eq_true rfl) (Nat.le_refl _) (by show 0 + len ≤ len; omega) (g := (mkF m 36 #[.val (.ref a), .val (.ref b), .val (.int (Int32.ofNat o)), .val (.int (Int32.ofNat len)), .val .null, .unset] [.int (Int32.ofNat len), .int (Int32.ofNat o), .ref b])) rfl (by rw [hml]; rfl) c7 (argsL := [.ref b, .int (Int32.ofNat o), .int (Int32.ofNat len)]) (rest := []) rfl rfl (by show 2 * 0 + 0 ≤ _; decide) (hb hbytes d36) (⟨rfl, hA.mv X5.warmed.alike hh5, l1, l2, hp⟩)
  obtain ⟨e8, z8⟩ := E8
  obtain ⟨rfl, N, n1, n2, n3, n4, n5, n6⟩ := NewArr.mv _ T5 s _ _ hh5.symm (Vm.Alike.refl _) rfl e8
  rw [hh5] at z8
  have hB1 := hB.keep X8.warmed.alike (n6 _ _ hB.1)
  have hne : s.heap.size ≠ a := (Nat.ne_of_lt (Array.getElem?_eq_some_iff.mp hB.1).1).symm
  have c9 : Steps p.tables e below (s₁.setTop (entryFrame m #[.ref a, .ref b, .int (Int32.ofNat o), .int (Int32.ofNat len), .null] 6)) (T8.setTop (mkF m 39 #[.val (.ref a), .val (.ref b), .val (.int (Int32.ofNat o)), .val (.int (Int32.ofNat len)), .val .null, .unset] [.ref s.heap.size])) := g8
  have c10 : Steps p.tables e below (s₁.setTop (entryFrame m #[.ref a, .ref b, .int (Int32.ofNat o), .int (Int32.ofNat len), .null] 6)) (T8.setTop (mkF m 45 #[.val (.ref a), .val (.ref b), .val (.int (Int32.ofNat o)), .val (.int (Int32.ofNat len)), .val .null, .val (.ref s.heap.size)] [.int (Int32.ofNat N.slots.size), .ref s.heap.size, .ref a])) := by
    have hc : Steps p.tables e below (s₁.setTop (entryFrame m #[.ref a, .ref b, .int (Int32.ofNat o), .int (Int32.ofNat len), .null] 6)) (T8.setTop (mkF m 45 #[.val (.ref a), .val (.ref b), .val (.int (Int32.ofNat o)), .val (.int (Int32.ofNat len)), .val .null, .val (.ref s.heap.size)] [.int (Int32.ofNat len), .ref s.heap.size, .ref a])) := c9.trans (by
      refine XS.astore X8.here hexec rfl (hb hbytes d39) rfl rfl rfl ?_
      refine XS.aloadN X8.here hexec rfl (hb hbytes d41) rfl rfl ?_
      refine XS.aload X8.here hexec rfl (hb hbytes d42) rfl rfl ?_
      refine XS.iloadN X8.here hexec rfl (hb hbytes d44) rfl ?_
      exact Steps.refl _)
    rw [n4]; exact hc
  obtain ⟨v11, T11, X11, E11, g11⟩ := X8.callS hexec (CodL.law l s.heap.size N) hown (wks W (staticW "java/lang/String" 47 CodL.yN)) (wk W CodL.tab) (W := 1) (Nat.le_of_ble_eq_true rfl) (Nat.le_of_ble_eq_true rfl) (Nat.le_refl _) (by show 0 + len + 0 ≤ len; omega) (g := (mkF m 45 #[.val (.ref a), .val (.ref b), .val (.int (Int32.ofNat o)), .val (.int (Int32.ofNat len)), .val .null, .val (.ref s.heap.size)] [.int (Int32.ofNat N.slots.size), .ref s.heap.size, .ref a])) rfl (by rw [hml]; rfl) c10 (argsL := [.ref s.heap.size, .int (Int32.ofNat N.slots.size)]) (rest := [.ref a]) rfl rfl (by show 2 * 0 + (1 + 0) ≤ _; decide) (hb hbytes d45) (⟨rfl, n1⟩)
  obtain ⟨rfl, q11⟩ := E11
  have hB11 := hB1.mv (X8.warmed.alike.symm.trans X11.warmed.alike) q11
  have c12 : Steps p.tables e below (s₁.setTop (entryFrame m #[.ref a, .ref b, .int (Int32.ofNat o), .int (Int32.ofNat len), .null] 6)) (T11.setTop (mkF m 48 #[.val (.ref a), .val (.ref b), .val (.int (Int32.ofNat o)), .val (.int (Int32.ofNat len)), .val .null, .val (.ref s.heap.size)] [.int 0, .ref a])) := g11
  obtain ⟨T13, X13, p13, bl13, sl13, st13⟩ := X11.finit hexec hown (wk W (.fieldLink "java/lang/String" 15 "java/lang/String" "coder" "B")) (Or.inr ⟨_, (wk W (.laysFinal "java/lang/String" "java/lang/String" "coder" "B"))⟩) (Or.inl ⟨rfl, hnm⟩) f2 (Or.inl rfl) hB11 (t := .byte) (by decide +kernel) rfl (g := (mkF m 48 #[.val (.ref a), .val (.ref b), .val (.int (Int32.ofNat o)), .val (.int (Int32.ofNat len)), .val .null, .val (.ref s.heap.size)] [.int 0, .ref a])) rfl (rest := []) rfl (hb hbytes d48)
  have c14 : Steps p.tables e below (s₁.setTop (entryFrame m #[.ref a, .ref b, .int (Int32.ofNat o), .int (Int32.ofNat len), .null] 6)) (T13.setTop (mkF m 54 #[.val (.ref a), .val (.ref b), .val (.int (Int32.ofNat o)), .val (.int (Int32.ofNat len)), .val .null, .val (.ref s.heap.size)] [.ref s.heap.size, .ref a])) := (c12.trans (st13 _ (Steps.refl _))).trans (by
    refine XS.aloadN X13.here hexec rfl (hb hbytes d51) rfl rfl ?_
    refine XS.aload X13.here hexec rfl (hb hbytes d52) rfl rfl ?_
    exact Steps.refl _)
  obtain ⟨T15, X15, p15, bl15, sl15, st15⟩ := X13.finit hexec hown (wk W (.fieldLink "java/lang/String" 9 "java/lang/String" "value" "[B")) (Or.inr ⟨_, (wk W (.laysFinal "java/lang/String" "java/lang/String" "value" "[B"))⟩) (Or.inl ⟨rfl, hnm⟩) f1 (Or.inl rfl) bl13 (t := (.array .byte)) (by decide +kernel) rfl (g := (mkF m 54 #[.val (.ref a), .val (.ref b), .val (.int (Int32.ofNat o)), .val (.int (Int32.ofNat len)), .val .null, .val (.ref s.heap.size)] [.ref s.heap.size, .ref a])) rfl (rest := []) rfl (hb hbytes d54)
  have c16 : Steps p.tables e below (s₁.setTop (entryFrame m #[.ref a, .ref b, .int (Int32.ofNat o), .int (Int32.ofNat len), .null] 6)) (T15.setTop (mkF m 57 #[.val (.ref a), .val (.ref b), .val (.int (Int32.ofNat o)), .val (.int (Int32.ofNat len)), .val .null, .val (.ref s.heap.size)] [])) := c14.trans (st15 _ (Steps.refl _))
  have ap := apart (Or.inr ⟨_, (wk W (.laysFinal "java/lang/String" "java/lang/String" "value" "[B"))⟩) (Or.inr ⟨_, (wk W (.laysFinal "java/lang/String" "java/lang/String" "coder" "B"))⟩) f1 f2 (t₁ := .array .byte) (t₂ := .byte) (by decide +kernel) (by decide +kernel) (by decide)
  have al := X8.warmed.alike.symm.trans X15.warmed.alike
  have n7 : T11.heap[s.heap.size]? = some N := by rw [q11]; exact n1.1
  exact ⟨T15, none, _, _, _, X15, by simp, rfl, by omega, (fun _ => rfl), ⟨rfl, _, N, bl15, ((Same.refl D _).set _ (by simp)).set _ (by simp), sl15, (Cell.slots_setSlot_ne _ ap).trans sl13, n1.keep al (p15.other hne (p13.other hne n7)), n2, by rw [al.findClass]; exact n3, n4, n5, fun y c h1 h2 => p15.other h1 (p13.other h1 (by rw [q11]; exact n6 y c h2)), by rw [p15.2.2, p13.2.2, q11]; exact z8⟩, fun fs hl => c16.trans (X15.returnOut hexec hret (hb hbytes d57) hl)⟩
end New4
namespace New1
def yN : MethodName := ⟨"java/lang/String", "<init>", "([C)V"⟩
abbrev yB : ByteArray := jdk_42_method_3_code
theorem d0 : decode yB 0 = .ok (.aload_n 0, 1) := by decide +kernel
theorem d1 : decode yB 1 = .ok (.aload_n 1, 1) := by decide +kernel
theorem d2 : decode yB 2 = .ok (.iconst 0, 1) := by decide +kernel
theorem d3 : decode yB 3 = .ok (.aload_n 1, 1) := by decide +kernel
theorem d4 : decode yB 4 = .ok (.arraylength, 1) := by decide +kernel
theorem d5 : decode yB 5 = .ok (.aconst_null, 1) := by decide +kernel
theorem d6 : decode yB 6 = .ok (.invokespecial 27, 3) := by decide +kernel
theorem d9 : decode yB 9 = .ok (.return_, 1) := by decide +kernel
def site : List Cond := [New4.tab] ++ initW "java/lang/String" 27 New4.yN
def tab : Cond := tabOf yN yB 2 none site
def P (a : Addr) (D : Cell) (fV fC : Field) (b : Addr) (A : Cell) (z : Int32) (args : Array Value) (s : State) : Prop := args = #[.ref a, .ref b] ∧ Blank "java/lang/String" a D s ∧ Found "java/lang/String" "value" "[B" fV s ∧ Found "java/lang/String" "coder" "B" fC s ∧ Ch b A s ∧ StaticIs s "java/lang/String" "COMPACT_STRINGS" "Z" (.int z) ∧ ¬ z = 0 ∧ 0 < A.slots.size ∧ A.slots.size ≤ 536870912 ∧ ∀ i, i < A.slots.size → ¬ 255 < cv A i
def E (a : Addr) (D : Cell) (fV fC : Field) (A : Cell) (r : Option Value) (s u : State) : Prop := Got a D fV fC A 0 A.slots.size r s u
/-- new String(chars), not empty, no char above 255: a Latin-1 String of their low bytes -/
theorem law (l : Launch) (a : Addr) (D : Cell) (fV fC : Field) (b : Addr) (A : Cell) (z : Int32) : Law l yN 2 1 3 52 yB 2 none site (P a D fV fC b A z) (E a D fV fC A) [⟨a, fC.slot⟩, ⟨a, fV.slot⟩] 1 A.slots.size := by
  refine Law.of_walk (plainFor_of_name (by decide +kernel)) (by decide +kernel) (by decide +kernel) (by decide) (fun _ _ h => by rw [h.1]; rfl) (fun _ U U' hal hh h => ⟨h.1, h.2.1.mv hal hh, h.2.2.1.al hal, h.2.2.2.1.al hal, h.2.2.2.2.1.mv hal hh, h.2.2.2.2.2.1.there hal hh, h.2.2.2.2.2.2⟩) (fun r U U' V V' h1 hal h2 h => Got.mv r U U' V V' h1 hal h2 h) ?_
  intro p e s m args below meth c s₁ X0 hexec hbytes hml hret hlk hnm hown hh0 W hP
  obtain ⟨rfl, hB, f1, f2, hA, s1, hz, l0, l2, hp⟩ := hP
  have c1 : Steps p.tables e below (s₁.setTop (entryFrame m #[.ref a, .ref b] 2)) (s₁.setTop (mkF m 0 #[.val (.ref a), .val (.ref b)] [])) := entry rfl
  have c2 : Steps p.tables e below (s₁.setTop (entryFrame m #[.ref a, .ref b] 2)) (s₁.setTop (mkF m 6 #[.val (.ref a), .val (.ref b)] [.null, .int (Int32.ofNat A.slots.size), .int 0, .ref b, .ref a])) := c1.trans (by
    refine XS.aloadN X0.here hexec rfl (hb hbytes d0) rfl rfl ?_
    refine XS.aloadN X0.here hexec rfl (hb hbytes d1) rfl rfl ?_
    refine iconstV X0.here hexec rfl 0 (hb hbytes d2) (by decide) ?_
    refine XS.aloadN X0.here hexec rfl (hb hbytes d3) rfl rfl ?_
    refine X0.alen hexec (hA.1.mv X0.warmed.alike hh0) rfl rfl (hb hbytes d4) ?_
    refine XS.aconstNull X0.here hexec rfl (hb hbytes d5) ?_
    exact Steps.refl _)
  obtain ⟨v3, T3, X3, E3, g3⟩ := X0.callN hexec (New4.law l a D fV fC b A z 0 A.slots.size) rfl hown (wks W (initW "java/lang/String" 27 New4.yN)) (W New4.tab (by simp only [site, List.mem_cons, List.mem_append, true_or, or_true])) (W := 0) (Nat.le_of_ble_eq_true rfl) (Nat.le_of_ble_eq_true rfl) (Nat.le_refl _) (by show 0 + A.slots.size ≤ A.slots.size; omega) (g := (mkF m 6 #[.val (.ref a), .val (.ref b)] [.null, .int (Int32.ofNat A.slots.size), .int (Int32.ofNat 0), .ref b, .ref a])) rfl (by rw [hml]; rfl) c2 (argsL := [.ref b, .int (Int32.ofNat 0), .int (Int32.ofNat A.slots.size), .null]) (rest := []) rfl rfl (by show 2 * 0 + 0 ≤ _; decide) (hb hbytes d6) (⟨rfl, hB.mv X0.warmed.alike hh0, f1.al X0.warmed.alike, f2.al X0.warmed.alike, hA.mv X0.warmed.alike hh0, s1.there X0.warmed.alike hh0, hz, l0, by omega, l2, fun i hi => by rw [Nat.zero_add]; exact hp i hi⟩)
  have e0 := Got.mv _ s₁ s _ _ hh0.symm (Vm.Alike.refl _) rfl E3
  obtain rfl := e0.1
  have c4 : Steps p.tables e below (s₁.setTop (entryFrame m #[.ref a, .ref b] 2)) (T3.setTop (mkF m 9 #[.val (.ref a), .val (.ref b)] [])) := g3
  exact ⟨T3, none, _, _, _, X3, by simp, rfl, by omega, (fun _ => rfl), e0, fun fs hl => c4.trans (X3.returnOut hexec hret (hb hbytes d9) hl)⟩
theorem pays {l : Launch} {R : Room} {p : Program} {e : Env} {below : List Frame} {s : State} {sargs : Array Value} {len W : Nat} (a : Addr) (D : Cell) (fV fC : Field) (b : Addr) (A : Cell) (z : Int32) (htab : tab.before sargs s = true) (hfr : 4 ≤ R.frames) (hlo : W + 65 ≤ R.locals) :
    Back l R p e below s sargs yN len W (fun A₁ a₁ => A₁.cells + 1 ≤ R.cells ∧ A₁.slots + A.slots.size ≤ R.slots ∧ P a D fV fC b A z a₁ A₁.U) (fun A₁ _ v₁ B₁ => E a D fV fC A v₁ A₁.U B₁.U ∧ B₁.locs = A₁.locs ++ [⟨a, fC.slot⟩, ⟨a, fV.slot⟩] ∧ B₁.cells = A₁.cells + 1 ∧ B₁.slots = A₁.slots + A.slots.size) :=
  (law l a D fV fC b A z).pays htab hfr (by omega)
end New1
/-- the byte, read back as charAt reads it, is the char -/
theorem lo8_mask {x : Int32} (h0 : ¬ x < 0) (h1 : ¬ 255 < x) : lo8 x &&& 255 = x := by
  have t : ∀ k : Fin 256, lo8 (Int32.ofNat k.val) &&& 255 = Int32.ofNat k.val := by decide +kernel
  rw [Int32.lt_iff_toInt_lt] at h0 h1
  have e0 : (0 : Int32).toInt = 0 := rfl
  have e1 : (255 : Int32).toInt = 255 := rfl
  obtain ⟨k, hk⟩ : ∃ k : Nat, x.toInt = k := ⟨x.toInt.toNat, by omega⟩
  have hx : x = Int32.ofNat k := Int32.toInt_inj.mp (by rw [hk, Int32.toInt_ofNat_small (by omega)])
  rw [hx]
  exact t ⟨k, by omega⟩
end StrChars
namespace StrChars.Road
open Jvm Sem ClassFile Op Lib Jvm.Stand Jvm.Free Jvm.Free.XT
open Jvm.Lib.Cold (StaticIs)
abbrev ST : String := "java/lang/String"
/-- every table word that New1's law asks, flat -/
abbrev words : List Jvm.Cond := [.code New1.yN New1.yB 2 none, .initialized ST, .methodLink ST 27 New4.yN, .instanceMethod New4.yN,
  .code New4.yN New4.yB 6 none, .fieldLink ST 38 ST "COMPACT_STRINGS" "Z", .laysFinal ST ST "value" "[B", .fieldLink ST 9 ST "value" "[B", .laysFinal ST ST "coder" "B", .fieldLink ST 15 ST "coder" "B",
  .methodLink ST 1 Lib.objectInit, .instanceMethod Lib.objectInit, .code Lib.objectInit ⟨#[0xb1]⟩ 1 none, .methodLink ST 177 Cmp3.yN, .static Cmp3.yN, .methodLink ST 47 CodL.yN, .static CodL.yN,
  .code Cmp3.yN Cmp3.yB 6 (some (.array .byte)), .initialized U16, .arrayClass .byte, .methodLink U16 115 Cmp5.yN, .static Cmp5.yN, .code Cmp5.yN Cmp5.yB 7 (some .int), .code CodL.yN CodL.yB 2 (some .byte)]
theorem tab_of {a : Array Value} {s : State} (h : ∀ w ∈ words, w.before a s = true) : New1.tab.before a s = true := by
  have h5 : Cmp5.tab.before a s = true := unparts (wk h (.code Cmp5.yN Cmp5.yB 7 (some .int))) (wks h (.initialized Cmp5.yN.cls :: Cmp5.site))
  have hc : CodL.tab.before a s = true := unparts (wk h (.code CodL.yN CodL.yB 2 (some .byte))) (wks h (.initialized CodL.yN.cls :: CodL.site))
  have q5 : ∀ w ∈ Cmp5.tab :: words, w.before a s = true := fun w hw => (List.mem_cons.mp hw).elim (fun e => e ▸ h5) (h w)
  have h3 : Cmp3.tab.before a s = true := unparts (wk q5 (.code Cmp3.yN Cmp3.yB 6 (some (.array .byte)))) (wks q5 (.initialized Cmp3.yN.cls :: Cmp3.site))
  have q3 : ∀ w ∈ Cmp3.tab :: CodL.tab :: words, w.before a s = true := fun w hw => (List.mem_cons.mp hw).elim (fun e => e ▸ h3) fun hw => (List.mem_cons.mp hw).elim (fun e => e ▸ hc) (h w)
  have h4 : New4.tab.before a s = true := unparts (wk q3 (.code New4.yN New4.yB 6 none)) (wks q3 (.initialized New4.yN.cls :: New4.site))
  have q4 : ∀ w ∈ New4.tab :: words, w.before a s = true := fun w hw => (List.mem_cons.mp hw).elim (fun e => e ▸ h4) (h w)
  exact unparts (wk q4 (.code New1.yN New1.yB 2 none)) (wks q4 (.initialized New1.yN.cls :: New1.site))
/-- the words ride from the start Z to the walk's own state -/
theorem moved {Z s : State} {a0 args : Array Value} (hZ : Z.Warmed39 s.vm) (hw : ∀ d ∈ words, d.before a0 Z = true) : ∀ d ∈ words, d.before args s = true := fun d hd => by
  have q := hw d hd
  have t : ∀ d ∈ words, d = .arrayClass .byte ∨ (d.onTables && d.keepsFace) = true := by decide +kernel
  rcases t d hd with rfl | t
  · exact RoadKit.mvA hZ q
  · exact RoadKit.mv hZ q t
/-- WHAT COMES BACK, over the tables of the start Z: h the heap at the call, h' behind it -/
def Q (Z : State) (x : Addr) (A : Cell) (h : Heap) (v : Option Value) (h' : Heap) (L : List Loc) : Prop := v = none ∧ (∀ y ∈ L, y.base = x) ∧ RoadKit.Keep h h' [x] ∧ h'.size = h.size + 1 ∧ RoadKit.Exa Z h' x ST ∧ RoadKit.Fld Z h' x ST "value" "[B" (.ref h.size) ∧ RoadKit.Fld Z h' x ST "coder" "B" (.int 0) ∧
  (∃ V : Cell, RoadKit.Arr Z h' h.size V .byte ∧ V.vm = .none ∧ Z.vm.findClass "[B" = some V.cls ∧ V.slots.size = A.slots.size ∧ ∀ j, j < A.slots.size → V.slots[j]? = some (.int (lo8 (cv A j)))) ∧
  ∀ (O n d : String) (w : Value), RoadKit.Fld Z h x O n d w → RoadKit.slotOf Z O n d ≠ RoadKit.slotOf Z ST "value" "[B" → RoadKit.slotOf Z O n d ≠ RoadKit.slotOf Z ST "coder" "B" → RoadKit.Fld Z h' x O n d w
/-- **new String(chars) AT A CALL, IN THE ROAD'S FORM**: for specialBack behind newO: x the fresh String, b the char[] with the cell A -/
theorem back {p : Program} {l : Launch} {e : Env} {R : Room} {s : State} {args : Array Value} {below : List Frame} {len W : Nat} {Z : State} {a0 : Array Value} {h : Heap} (hZ : Z.Warmed39 s.vm) (hw : ∀ d ∈ words, d.before a0 Z = true) {kI : Nat} (wi : (Jvm.Cond.instantiable ST kI).before a0 Z = true)
    {x b : Addr} {A : Cell} {z : Int32} {v0 c0 : Value} (E : RoadKit.Exa Z h x ST) (V : RoadKit.Fld Z h x ST "value" "[B" v0) (C : RoadKit.Fld Z h x ST "coder" "B" c0) (K : RoadKit.Arr Z h b A .char) (hty : Typed .char A) (S : RoadKit.Sta Z h ST "COMPACT_STRINGS" "Z" (.int z)) (hz : ¬ z = 0)
    (l0 : 0 < A.slots.size) (l2 : A.slots.size ≤ 536870912) (hp : ∀ i, i < A.slots.size → ¬ 255 < cv A i) (hfr : 4 ≤ R.frames) (hlo : W + 65 ≤ R.locals) :
    Back l R p e below s args New1.yN len W (fun P a => a = #[.ref x, .ref b] ∧ P.U.heap = h ∧ P.cells + 1 ≤ R.cells ∧ P.slots + A.slots.size ≤ R.slots)
      (fun P _ v B => ∃ L, Q Z x A h v B.U.heap L ∧ B.locs = P.locs ++ L ∧ B.cells = P.cells + 1 ∧ B.slots = P.slots + A.slots.size) := by
  intro m meth c P g ig mk a X hg hsize hdg hW hn hp'
  obtain ⟨rfl, rfl, r1, r2⟩ := hp'
  have al : Z.vm.Alike P.U.vm := hZ.alike.trans X.warmed.alike
  obtain ⟨D, cfV, kV, iV, fV, hD, gV, stV, knV, obV, asV, slV⟩ := id V
  obtain ⟨D', cfC, kC, iC, fC, hD', gC, stC, -, -, asC, slC⟩ := id C
  cases hD.symm.trans hD'
  obtain ⟨D2, kD, e1, e2, e3, e4, e5⟩ := id E
  cases hD.symm.trans e1
  obtain ⟨c2, k2, i1, i2, i3, -⟩ := Cond.instantiable_spec wi
  cases e2.symm.trans i1
  cases e3.symm.trans i2
  obtain ⟨kU, u1, u2⟩ := al.2.2 _ _ e3
  have hB : Blank ST x D P.U := ⟨hD, ⟨knV, fun q hq => by rw [hq] at obV; cases obV⟩, by rw [al.findClass]; exact e2, kU, u1, by rw [u2]; exact i3, by rw [u2]; exact e5 i3⟩
  have F1 : Found ST "value" "[B" fV P.U := ⟨SBG.found_only al ⟨cfV, kV, iV, gV⟩, stV⟩
  have F2 : Found ST "coder" "B" fC P.U := ⟨SBG.found_only al ⟨cfC, kC, iC, gC⟩, stC⟩
  have hA : Ch b A P.U := ⟨⟨K.1, State.isArrayOf_alike al K.2.1, K.2.2, by omega⟩, hty⟩
  have hS : StaticIs P.U ST "COMPACT_STRINGS" "Z" (.int z) := by
    obtain ⟨cfS, iS, kS, fS, st, cS, t1, t2, t3, t4, t5, t6, t7⟩ := S
    exact StaticIs.there (s := { Z with heap := P.U.heap }) ⟨cfS, iS, kS, fS, st, cS, t1, t2, t3, t4, t5, (fun q => by rw [q] at t6; cases t6), t7⟩ al rfl
  obtain ⟨v, B, X', ⟨⟨hv, E', V', q1, q2, q3, q4, q5, q6, q7, q8, q9, q10, q11⟩, hl, hc, hs⟩, st⟩ := New1.pays x D fV fC b A z (tab_of (moved hZ hw)) hfr hlo m meth c P g ig mk _ X hg hsize hdg hW hn ⟨r1, r2, rfl, hB, F1, F2, hA, hS, hz, l0, l2, hp⟩
  have al' : Z.vm.Alike B.U.vm := hZ.alike.trans X'.warmed.alike
  have hsz : E'.slots.size = D.slots.size := by
    obtain ⟨-, -, -, kB, w1, w2, w3⟩ := q1
    obtain ⟨kB', y1, y2⟩ := al'.2.2 _ _ e3
    rw [q2.2.1] at w1
    cases w1.symm.trans y1
    rw [w3, e5 i3, y2]
  refine ⟨v, B, X', ⟨_, ⟨hv, ?_, ⟨by omega, fun y cy hy hn' => q10 y cy (by simpa using hn') hy, fun y cy hy => ?_⟩, q11, ⟨E', _, q1.1, by rw [q2.2.1]; exact e2, by rw [q2.2.1]; exact e3, by rw [q2.1]; exact obV, fun _ => by rw [hsz]; exact e5 i3⟩,
    ⟨E', cfV, kV, iV, fV, q1.1, gV, stV, by rw [q2.1]; exact knV, by rw [q2.1]; exact obV, by rw [q2.2.1]; exact asV, q3⟩, ⟨E', cfC, kC, iC, fC, q1.1, gC, stC, by rw [q2.1]; exact knV, by rw [q2.1]; exact obV, by rw [q2.2.1]; exact asC, q4⟩,
    ⟨V', ⟨q5.1, State.isArrayOf_alike al'.symm q5.2.1, q5.2.2.1⟩, q6, by rw [← al'.findClass]; exact q7, q8, fun j hj => by have := q9 j hj; rwa [Nat.zero_add] at this⟩, fun O n d w F n1 n2 => ?_⟩, hl, hc, hs⟩, st⟩
  · intro y hy
    simp only [List.mem_cons, List.not_mem_nil, or_false] at hy
    rcases hy with rfl | rfl <;> rfl
  · by_cases q : y = x
    · subst q
      cases hD.symm.trans hy
      exact ⟨E', q1.1, q2.2.1, q2.1, hsz⟩
    · exact ⟨cy, q10 y cy q hy, rfl, rfl, rfl⟩
  · obtain ⟨D3, cf, k, i, f, g1, g2, g3, g4, g5, g6, g7⟩ := F
    cases hD.symm.trans g1
    simp only [RoadKit.slotOf, g2, gV, gC, Option.map_some, Option.getD_some] at n1 n2
    exact ⟨E', cf, k, i, f, q1.1, g2, g3, by rw [q2.1]; exact g4, by rw [q2.1]; exact g5, by rw [q2.2.1]; exact g6, by rw [q2.2.2 f.slot (by simp [n1, n2])]; exact g7⟩
end StrChars.Road
namespace StrChars.Road
open Jvm Sem ClassFile Op Lib Jvm.Stand Jvm.Free Jvm.Free.XT
/-- WHAT COMES BACK, the byte[] as a list of values -/
def QA (Z : State) (x : Addr) (zn : Int32) (cs : List Int32) (h : Heap) (v : Option Value) (h' : Heap) (L : List Loc) : Prop := v = none ∧ (∀ y ∈ L, y.base = x) ∧ RoadKit.Keep h h' [x] ∧ h'.size = h.size + 1 ∧ RoadKit.Exa Z h' x ST ∧ RoadKit.Fld Z h' x ST "value" "[B" (.ref h.size) ∧ RoadKit.Fld Z h' x ST "coder" "B" (.int 0) ∧
  (∃ kb, Z.vm.findClass "[B" = some kb ∧ RoadKit.Arv Z h' h.size kb .byte zn (cs.map fun c => .int (lo8 c)) (.int 0)) ∧
  ∀ (O n d : String) (w : Value), RoadKit.Fld Z h x O n d w → RoadKit.slotOf Z O n d ≠ RoadKit.slotOf Z ST "value" "[B" → RoadKit.slotOf Z O n d ≠ RoadKit.slotOf Z ST "coder" "B" → RoadKit.Fld Z h' x O n d w
/-- **new String(chars) AT A CALL, THE ARRAYS AS LISTS**: the char[] at b holds cs, not empty, no char above 255 -/
theorem backArv {p : Program} {l : Launch} {e : Env} {R : Room} {s : State} {args : Array Value} {below : List Frame} {len W : Nat} {Z : State} {a0 : Array Value} {h : Heap} (hZ : Z.Warmed39 s.vm) (hw : ∀ d ∈ words, d.before a0 Z = true) {kI : Nat} (wi : (Jvm.Cond.instantiable ST kI).before a0 Z = true)
    {x b : Addr} {k : ClassId} {zn z : Int32} {cs : List Int32} {dv v0 c0 : Value} (E : RoadKit.Exa Z h x ST) (V : RoadKit.Fld Z h x ST "value" "[B" v0) (C : RoadKit.Fld Z h x ST "coder" "B" c0) (K : RoadKit.Arv Z h b k .char zn (cs.map Value.int) dv) (S : RoadKit.Sta Z h ST "COMPACT_STRINGS" "Z" (.int z)) (hz : ¬ z = 0)
    (hlen : zn.toNatClampNeg = cs.length) (h0 : 0 < cs.length) (hbig : cs.length ≤ 536870912) (hall : ∀ c ∈ cs, ¬ 255 < c) (hfr : 4 ≤ R.frames) (hlo : W + 65 ≤ R.locals) :
    Back l R p e below s args New1.yN len W (fun P a => a = #[.ref x, .ref b] ∧ P.U.heap = h ∧ P.cells + 1 ≤ R.cells ∧ P.slots + cs.length ≤ R.slots)
      (fun P _ v B => ∃ L, QA Z x zn cs h v B.U.heap L ∧ B.locs = P.locs ++ L ∧ B.cells = P.cells + 1 ∧ B.slots = P.slots + cs.length) := by
  obtain ⟨A, K1, K2, K3, K4, K5, K6⟩ := K
  have e : A.slots.size = cs.length := K3.trans hlen
  have hat : ∀ (i : Nat) (hi : i < cs.length), A.slots[i]? = some (.int cs[i]) := fun i hi => by rw [K5 i (by omega)]; simp [List.getD_eq_getElem?_getD, hi]
  have hcv : ∀ (i : Nat) (hi : i < cs.length), cv A i = cs[i] := fun i hi => by unfold cv; rw [hat i hi]
  have hty : Typed .char A := fun i v hv => by
    have hi : i < A.slots.size := (Array.getElem?_eq_some_iff.mp hv).1
    have q := K5 i hi
    rw [hv] at q
    rw [Option.some.inj q]
    exact K6 i hi
  refine Back.mono (back hZ hw wi E V C K1 hty S hz (by omega) (by omega) (fun i hi => by rw [hcv i (by omega)]; exact hall _ (List.getElem_mem _)) hfr hlo) (fun P a hp => ⟨hp.1, hp.2.1, hp.2.2.1, by rw [e]; exact hp.2.2.2⟩) (fun P a v B hp hq => ?_)
  obtain ⟨L, ⟨q1, q2, q3, q4, q5, q6, q7, ⟨V', v1, v2, v3, v4, v5⟩, q9⟩, hl, hc, hs⟩ := hq
  refine ⟨L, ⟨q1, q2, q3, q4, q5, q6, q7, ⟨V'.cls, v3, V', v1, rfl, by rw [v4, e, hlen], K4, fun i hi => ?_, fun i hi => ?_⟩, q9⟩, hl, hc, by rw [hs, e]⟩
  · have hi' : i < cs.length := by omega
    rw [v5 i (by omega), hcv i hi']; simp [List.getD_eq_getElem?_getD, hi']
  · have hi' : i < cs.length := by omega
    simp only [List.getD_eq_getElem?_getD, List.getElem?_map, List.getElem?_eq_getElem hi', Option.map_some, Option.getD_some]
    exact fits_lo8 _
end StrChars.Road
namespace StrChars.Road
open Jvm Sem ClassFile Op Lib Jvm.Stand Jvm.Free Jvm.Free.XT
/-- WHAT COMES BACK, in the writer's own shape -/
def QV (Z : State) (x : Addr) (N : Int32) (bs : List Int32) (h : Heap) (n0 : Nat) (v : Option Value) (h' : Heap) (L : List Loc) : Prop := v = none ∧ RoadKit.Fr n0 L ∧ RoadKit.Keep h h' [x] ∧ RoadKit.Exa Z h' x ST ∧ RoadKit.Fld Z h' x ST "coder" "B" (.int 0) ∧
  ∃ (t : Addr) (kb : ClassId), n0 ≤ t ∧ h.size ≤ t ∧ ¬ t = x ∧ RoadKit.Fld Z h' x ST "value" "[B" (.ref t) ∧ RoadKit.Arv Z h' t kb .byte N (bs.map Value.int) (.int 0)
/-- **new String(chars) AT A CALL, FOR THE WRITER**: a char[] of n known ints, each 0 to 255 -/
theorem backV {p : Program} {l : Launch} {e : Env} {R : Room} {s : State} {args : Array Value} {below : List Frame} {len W : Nat} {Z : State} {a0 : Array Value} {h : Heap} (hZ : Z.Warmed39 s.vm) (hw : ∀ d ∈ words, d.before a0 Z = true) {kI : Nat} (wi : (Jvm.Cond.instantiable ST kI).before a0 Z = true)
    {x b : Addr} {kC : ClassId} {cs bs : List Int32} {d v0 c0 : Value} {z N : Int32} {n n0 : Nat} (hx0 : n0 ≤ x) (hh0 : n0 ≤ h.size) (E : RoadKit.Exa Z h x ST) (V : RoadKit.Fld Z h x ST "value" "[B" v0) (C : RoadKit.Fld Z h x ST "coder" "B" c0) (K : RoadKit.Arv Z h b kC .char N (cs.map Value.int) d) (S : RoadKit.Sta Z h ST "COMPACT_STRINGS" "Z" (.int z)) (hz : ¬ z = 0)
    (hn : cs.length = n) (hN : N = Int32.ofNat n) (l0 : 0 < n) (l2 : n ≤ 4000) (hp : ∀ c ∈ cs, ¬ c < 0 ∧ ¬ (255 : Int32) < c) (hb : bs = cs.map (fun c => c.toInt8.toInt32)) (hfr : 4 ≤ R.frames) (hlo : W + 65 ≤ R.locals) :
    Back l R p e below s args (⟨"java/lang/String", "<init>", "([C)V"⟩ : MethodName) len W (fun P a => a = #[.ref x, .ref b] ∧ P.U.heap = h ∧ P.cells + 1 ≤ R.cells ∧ P.slots + n ≤ R.slots)
      (fun P _ v B => ∃ L, QV Z x N bs h n0 v B.U.heap L ∧ B.locs = P.locs ++ L ∧ B.cells = P.cells + 1 ∧ B.slots = P.slots + n) := by
  subst hn hN hb
  refine Back.mono (backArv hZ hw wi E V C K S hz (n32 (by omega)) l0 (by omega) (fun c hc => (hp c hc).2) hfr hlo) (fun P a hp => hp) (fun P a v B hp hq => ?_)
  obtain ⟨L, ⟨q1, q2, q3, q4, q5, q6, q7, ⟨kb, v1, v2⟩, q9⟩, hl, hc, hs⟩ := hq
  exact ⟨L, ⟨q1, fun y hy => by rw [q2 y hy]; exact hx0, q3, q5, q7, h.size, kb, hh0, Nat.le_refl _, Nat.ne_of_gt E.lt, q6, by rw [List.map_map]; exact v2⟩, hl, hc, hs⟩
end StrChars.Road
namespace StrChars
open Jvm Sem ClassFile Op Lib Jvm.Stand Jvm.Free.XT Jvm.Free.ALB Jvm.Free.JM Jvm.Free
open Jvm.Lib.Cold (StaticIs)
def hi8 (x : Int32) : Int32 := lo8 (x >>> ((8 : Int32) &&& 31))
/-- what StringUTF16.getChar makes of two bytes -/
def pairCh (u v : Int32) : Int32 := (((u &&& 255) <<< ((0 : Int32) &&& 31)) ||| ((v &&& 255) <<< ((8 : Int32) &&& 31))).toUInt32.toUInt16.toUInt32.toInt32
theorem lo8_and (x : Int32) : (lo8 x &&& 255).toBitVec.toNat = x.toBitVec.toNat % 256 := by
  have h : (lo8 x).toBitVec = (x.toBitVec.signExtend 8).signExtend 32 := by rw [lo8, Int8.toBitVec_toInt32, Int32.toBitVec_toInt8]
  rw [Int32.toBitVec_and, BitVec.toNat_and, h]
  have e : ((x.toBitVec.signExtend 8).signExtend 32).toNat % 256 = x.toBitVec.toNat % 256 := by
    rw [BitVec.toNat_signExtend]
    have hlt := x.toBitVec.isLt
    simp only [BitVec.toNat_setWidth, BitVec.toNat_signExtend]
    split <;> split <;> omega
  rw [← e]
  exact Nat.and_two_pow_sub_one_eq_mod _ 8
theorem pair_says {c : Int32} (h0 : ¬ c < 0) (h1 : ¬ 65535 < c) : pairCh (lo8 c) (hi8 c) = c := by
  rw [Int32.lt_iff_toInt_lt] at h0 h1
  have e0 : (0 : Int32).toInt = 0 := rfl
  have e1 : (65535 : Int32).toInt = 65535 := rfl
  have hc : c.toInt = c.toBitVec.toNat := by
    have := c.toBitVec.isLt
    have e : c.toInt = c.toBitVec.toInt := rfl
    rw [e] at h0 h1
    rw [e]
    rw [BitVec.toInt_eq_toNat_cond] at h0 h1 ⊢
    split at h0 <;> split <;> omega
  have hn : c.toBitVec.toNat < 65536 := by omega
  have a1 := lo8_and c
  have a2 : (hi8 c &&& 255).toBitVec.toNat = c.toBitVec.toNat / 256 := by
    rw [hi8, lo8_and]
    have e : ((8 : Int32) &&& 31) = 8 := by decide
    rw [e, Int32.toBitVec_shiftRight]
    have e2 : ((8 : Int32).toBitVec.smod 32) = 8#32 := by decide
    rw [e2, BitVec.sshiftRight_eq', BitVec.toNat_sshiftRight_of_msb_false (by rw [BitVec.msb_eq_false_iff_two_mul_lt]; omega)]
    show c.toBitVec.toNat >>> 8 % 256 = _
    rw [Nat.shiftRight_eq_div_pow]
    omega
  unfold pairCh
  apply Int32.toBitVec_inj.mp
  apply BitVec.eq_of_toNat_eq
  have f0 : ((0 : Int32) &&& 31) = 0 := by decide
  have f8 : ((8 : Int32) &&& 31) = 8 := by decide
  rw [f0, f8]
  have g : (((lo8 c &&& 255) <<< (0 : Int32)) ||| ((hi8 c &&& 255) <<< (8 : Int32))).toBitVec.toNat = c.toBitVec.toNat := by
    rw [Int32.toBitVec_or, Int32.toBitVec_shiftLeft, Int32.toBitVec_shiftLeft]
    have s0 : ((0 : Int32).toBitVec.smod 32) = 0#32 := by decide
    have s8 : ((8 : Int32).toBitVec.smod 32) = 8#32 := by decide
    rw [s0, s8, BitVec.toNat_or]
    simp only [BitVec.shiftLeft_eq', BitVec.toNat_shiftLeft, a1, a2]
    show (c.toBitVec.toNat % 256) <<< 0 % 2 ^ 32 ||| (c.toBitVec.toNat / 256) <<< 8 % 2 ^ 32 = _
    rw [Nat.shiftLeft_zero, Nat.mod_eq_of_lt (show c.toBitVec.toNat % 256 < 2 ^ 32 by omega), Nat.mod_eq_of_lt (show (c.toBitVec.toNat / 256) <<< 8 < 2 ^ 32 by rw [Nat.shiftLeft_eq]; omega), Nat.or_comm, ← Nat.shiftLeft_add_eq_or_of_lt (by omega), Nat.shiftLeft_eq]
    omega
  show BitVec.toNat (((((lo8 c &&& 255) <<< (0 : Int32)) ||| ((hi8 c &&& 255) <<< (8 : Int32))).toBitVec.setWidth 16).setWidth 32) = _
  rw [BitVec.toNat_setWidth, BitVec.toNat_setWidth, g]
  omega
end StrChars
namespace StrChars
open Jvm Sem ClassFile Op Lib Jvm.Stand Jvm.Free.XT Jvm.Free.ALB Jvm.Free.JM Jvm.Free
open Jvm.Lib.Cold (StaticIs)
/-- the array's cell V codes the n chars f 0 .. f (n - 1) by the coder cd, as the JDK does: coder 1 just where some char is above 255 -/
def Cod (cd : Int32) (n : Nat) (f : Nat → Int32) (V : Cell) : Prop := (cd = 0 ∧ V.slots.size = n ∧ ∀ j, j < n → V.slots[j]? = some (.int (lo8 (f j))) ∧ ¬ 255 < f j) ∨ (cd = 1 ∧ V.slots.size = 2 * n ∧ (∀ j, j < n → V.slots[2 * j]? = some (.int (lo8 (f j))) ∧ V.slots[2 * j + 1]? = some (.int (hi8 (f j)))) ∧ ∃ j, j < n ∧ 255 < f j)
/-- **x is a String of the n chars f 0 .. f (n - 1)**, Latin-1 or UTF-16; its array at t has the cell V -/
def Txt (x t : Addr) (V : Cell) (cd : Int32) (n : Nat) (f : Nat → Int32) (U : State) : Prop := Exact "java/lang/String" x U ∧ Has x "java/lang/String" "value" "[B" (.ref t) U ∧ Has x "java/lang/String" "coder" "B" (.int cd) U ∧ XT.Arr .byte t V U ∧ Cod cd n f V ∧ ∀ j, j < n → ¬ f j < 0 ∧ ¬ 65535 < f j
theorem Txt.mv {x t : Addr} {V : Cell} {cd : Int32} {n : Nat} {f : Nat → Int32} {U U' : State} (h : Txt x t V cd n f U) (hal : U.vm.Alike U'.vm) (hh : U'.heap = U.heap) : Txt x t V cd n f U' := ⟨h.1.mv hal hh, h.2.1.mv hal hh, h.2.2.1.mv hal hh, h.2.2.2.1.mv hal hh, h.2.2.2.2⟩
end StrChars
namespace StrChars.Road
open Jvm Sem ClassFile Op Lib Jvm.Stand Jvm.Free Jvm.Free.XT
open Jvm.Lib.Cold (StaticIs)
theorem consq {a : Array Value} {s : State} {c : Jvm.Cond} {L : List Jvm.Cond} (h0 : c.before a s = true) (h : ∀ w ∈ L, w.before a s = true) : ∀ w ∈ c :: L, w.before a s = true := fun w hw => (List.mem_cons.mp hw).elim (fun e => e ▸ h0) (h w)
/-- the bytes of the chars cs, low before high -/
def wideBytes : List Int32 → List Value
  | [] => []
  | c :: cs => .int (lo8 c) :: .int (hi8 c) :: wideBytes cs
theorem wide_lo (d : Value) : ∀ (cs : List Int32) (j : Nat), j < cs.length → (wideBytes cs).getD (2 * j) d = .int (lo8 (cs.getD j 0))
  | [], j, h => absurd h (Nat.not_lt_zero j)
  | c :: cs, 0, _ => rfl
  | c :: cs, j + 1, h => by
    have q := wide_lo d cs j (by simpa using h)
    rw [show 2 * (j + 1) = 2 * j + 1 + 1 from by omega]
    simpa [wideBytes] using q
theorem wide_hi (d : Value) : ∀ (cs : List Int32) (j : Nat), j < cs.length → (wideBytes cs).getD (2 * j + 1) d = .int (hi8 (cs.getD j 0))
  | [], j, h => absurd h (Nat.not_lt_zero j)
  | c :: cs, 0, _ => rfl
  | c :: cs, j + 1, h => by
    have q := wide_hi d cs j (by simpa using h)
    rw [show 2 * (j + 1) + 1 = 2 * j + 1 + 1 + 1 from by omega]
    simpa [wideBytes] using q
theorem low_at (d : Value) (cs : List Int32) (j : Nat) (h : j < cs.length) : (cs.map fun c => Value.int (lo8 c)).getD j d = .int (lo8 (cs.getD j 0)) := by
  simp [List.getD_eq_getElem?_getD, h]
/-- an array of N2 bytes vs codes the chars cs by the coder cd -/
def CodA (cs : List Int32) (cd N2 : Int32) (vs : List Value) : Prop := (cd = 0 ∧ N2 = Int32.ofNat cs.length ∧ vs = (cs.map fun c => Value.int (lo8 c)) ∧ ∀ c ∈ cs, ¬ 255 < c) ∨ (cd = 1 ∧ N2 = Int32.ofNat (2 * cs.length) ∧ vs = wideBytes cs ∧ ∃ c ∈ cs, 255 < c)
theorem CodA.cod {cs : List Int32} {cd N2 : Int32} {vs : List Value} {V : Cell} (h : CodA cs cd N2 vs) (hn : 2 * cs.length < 2 ^ 31) (hs : V.slots.size = N2.toNatClampNeg) (hv : RoadKit.Has V vs (.int 0)) : Cod cd cs.length (fun j => cs.getD j 0) V := by
  rcases h with ⟨rfl, rfl, rfl, h⟩ | ⟨rfl, rfl, rfl, c, hc, hw⟩
  · rw [n32 (by omega)] at hs
    exact Or.inl ⟨rfl, hs, fun j hj => ⟨by rw [hv j (by omega), low_at _ _ _ hj], by
      have e : cs.getD j 0 = cs[j] := by simp [List.getD_eq_getElem?_getD, hj]
      show ¬ 255 < cs.getD j 0
      rw [e]; exact h _ (List.getElem_mem _)⟩⟩
  · rw [n32 (by omega)] at hs
    obtain ⟨j, hj, rfl⟩ := List.getElem_of_mem hc
    exact Or.inr ⟨rfl, hs, fun j hj => ⟨by rw [hv _ (by omega), wide_lo _ _ _ hj], by rw [hv _ (by omega), wide_hi _ _ _ hj]⟩, j, hj, by
      have e : cs.getD j 0 = cs[j] := by simp [List.getD_eq_getElem?_getD, hj]
      show 255 < cs.getD j 0
      rw [e]; exact hw⟩
/-- an object of exactly java/lang/String, its two fields found: as the laws ask it -/
theorem strObj {Z U : State} {a0 : Array Value} {kI : Nat} (wi : (Jvm.Cond.instantiable ST kI).before a0 Z = true) (al : Z.vm.Alike U.vm) {x : Addr} {v0 c0 : Value} (E : RoadKit.Exa Z U.heap x ST) (V : RoadKit.Fld Z U.heap x ST "value" "[B" v0) (C : RoadKit.Fld Z U.heap x ST "coder" "B" c0) :
    ∃ (D : Cell) (fV fC : Field), Blank ST x D U ∧ Found ST "value" "[B" fV U ∧ Found ST "coder" "B" fC U ∧ D.slots[fV.slot]? = some v0 ∧ D.slots[fC.slot]? = some c0 ∧ RoadKit.slotOf Z ST "value" "[B" = fV.slot ∧ RoadKit.slotOf Z ST "coder" "B" = fC.slot := by
  obtain ⟨D, cfV, kV, iV, fV, hD, gV, stV, knV, obV, asV, slV⟩ := V
  obtain ⟨D', cfC, kC, iC, fC, hD', gC, stC, -, -, asC, slC⟩ := C
  cases hD.symm.trans hD'
  obtain ⟨D2, kD, e1, e2, e3, e4, e5⟩ := E
  cases hD.symm.trans e1
  obtain ⟨c2, k2, i1, i2, i3, -⟩ := Cond.instantiable_spec wi
  cases e2.symm.trans i1
  cases e3.symm.trans i2
  obtain ⟨kU, u1, u2⟩ := al.2.2 _ _ e3
  exact ⟨D, fV, fC, ⟨hD, ⟨knV, fun q hq => by rw [hq] at obV; cases obV⟩, by rw [al.findClass]; exact e2, kU, u1, by rw [u2]; exact i3, by rw [u2]; exact e5 i3⟩, ⟨SBG.found_only al ⟨cfV, kV, iV, gV⟩, stV⟩, ⟨SBG.found_only al ⟨cfC, kC, iC, gC⟩, stC⟩, slV, slC, by simp [RoadKit.slotOf, gV], by simp [RoadKit.slotOf, gC]⟩
theorem sta_is {Z U : State} (al : Z.vm.Alike U.vm) {C n d : String} {v : Value} (S : RoadKit.Sta Z U.heap C n d v) : StaticIs U C n d v := by
  obtain ⟨cfS, iS, kS, fS, st, cS, t1, t2, t3, t4, t5, t6, t7⟩ := S
  exact StaticIs.there (s := { Z with heap := U.heap }) ⟨cfS, iS, kS, fS, st, cS, t1, t2, t3, t4, t5, (fun q => by rw [q] at t6; cases t6), t7⟩ al rfl
end StrChars.Road
namespace StrChars
open Jvm Sem ClassFile Op Lib Jvm.Stand Jvm.Free.XT Jvm.Free.ALB Jvm.Free.JM Jvm.Free
open Jvm.Lib.Cold (StaticIs)
/-- what place i of a byte[]'s cell holds -/
def yv (A : Cell) (i : Nat) : Int32 := match A.slots[i]? with | some (.int x) => x | _ => 0
theorem yv_get {a : Addr} {A : Cell} {U : State} (h : XT.Arr .byte a A U) (ht : Typed .byte A) {i : Nat} (hi : i < A.slots.size) : A.slots[i]? = some (.int (yv A i)) := by
  have e := Array.getElem?_eq_getElem hi
  have f := ht i _ e
  unfold yv; rw [e]
  generalize A.slots[i] = v at f
  cases v <;> simp [fits] at f ⊢
/-- the two arrays are equal, place for place -/
def EqC (A B : Cell) : Prop := A.slots.size = B.slots.size ∧ ∀ i, i < A.slots.size → yv A i = yv B i
/-- a boolean that says whether p -/
def Says01 (q : Prop) (r : Option Value) (s u : State) : Prop := ∃ v : Int32, r = some (.int v) ∧ u.heap = s.heap ∧ ((v = 1 ∧ q) ∨ (v = 0 ∧ ¬ q))
theorem Says01.mv {q : Prop} : ∀ r (U U' V V' : State), U'.heap = U.heap → V.vm.Alike V'.vm → V'.heap = V.heap → Says01 q r U V → Says01 q r U' V' :=
  fun r U U' V V' h1 _ h2 ⟨v, a, b, c⟩ => ⟨v, a, by rw [h1, h2]; exact b, c⟩
namespace LEq
def yN : MethodName := ⟨"java/lang/StringLatin1", "equals", "([B[B)Z"⟩
abbrev yB : ByteArray := jdk_43_method_13_code
theorem d0 : decode yB 0 = .ok (.aload_n 0, 1) := by decide +kernel
theorem d1 : decode yB 1 = .ok (.arraylength, 1) := by decide +kernel
theorem d2 : decode yB 2 = .ok (.aload_n 1, 1) := by decide +kernel
theorem d3 : decode yB 3 = .ok (.arraylength, 1) := by decide +kernel
theorem d4 : decode yB 4 = .ok (.if_icmp (.ne) 30, 3) := by decide +kernel
theorem d7 : decode yB 7 = .ok (.iconst 0, 1) := by decide +kernel
theorem d8 : decode yB 8 = .ok (.istore_n 2, 1) := by decide +kernel
theorem d9 : decode yB 9 = .ok (.iload_n 2, 1) := by decide +kernel
theorem d10 : decode yB 10 = .ok (.aload_n 0, 1) := by decide +kernel
theorem d11 : decode yB 11 = .ok (.arraylength, 1) := by decide +kernel
theorem d12 : decode yB 12 = .ok (.if_icmp (.ge) 20, 3) := by decide +kernel
theorem d15 : decode yB 15 = .ok (.aload_n 0, 1) := by decide +kernel
theorem d16 : decode yB 16 = .ok (.iload_n 2, 1) := by decide +kernel
theorem d17 : decode yB 17 = .ok (.baload, 1) := by decide +kernel
theorem d18 : decode yB 18 = .ok (.aload_n 1, 1) := by decide +kernel
theorem d19 : decode yB 19 = .ok (.iload_n 2, 1) := by decide +kernel
theorem d20 : decode yB 20 = .ok (.baload, 1) := by decide +kernel
theorem d21 : decode yB 21 = .ok (.if_icmp (.eq) 5, 3) := by decide +kernel
theorem d24 : decode yB 24 = .ok (.iconst 0, 1) := by decide +kernel
theorem d25 : decode yB 25 = .ok (.ireturn, 1) := by decide +kernel
theorem d26 : decode yB 26 = .ok (.iinc 2 1, 3) := by decide +kernel
theorem d29 : decode yB 29 = .ok (.goto (-20), 3) := by decide +kernel
theorem d32 : decode yB 32 = .ok (.iconst 1, 1) := by decide +kernel
theorem d33 : decode yB 33 = .ok (.ireturn, 1) := by decide +kernel
theorem d34 : decode yB 34 = .ok (.iconst 0, 1) := by decide +kernel
theorem d35 : decode yB 35 = .ok (.ireturn, 1) := by decide +kernel
def site : List Cond := []
def tab : Cond := tabOf yN yB 3 (some .boolean) site
def P (a : Addr) (A : Cell) (b : Addr) (B : Cell) (args : Array Value) (s : State) : Prop := args = #[.ref a, .ref b] ∧ XT.Arr .byte a A s ∧ Typed .byte A ∧ XT.Arr .byte b B s ∧ Typed .byte B
/-- whether two byte[] are equal, place for place -/
theorem law (l : Launch) (a : Addr) (A : Cell) (b : Addr) (B : Cell) : Law l yN 2 2 0 0 yB 3 (some .boolean) site (P a A b B) (Says01 (EqC A B)) [] 0 0 := by
  refine Law.of_walk (plainFor_of_name (by decide +kernel)) (by decide +kernel) (by decide +kernel) (by decide) (fun _ _ h => by rw [h.1]; rfl) (fun _ U U' hal hh h => ⟨h.1, h.2.1.mv hal hh, h.2.2.1, h.2.2.2.1.mv hal hh, h.2.2.2.2⟩) (fun r U U' V V' h1 hal h2 h => Says01.mv r U U' V V' h1 hal h2 h) ?_
  intro p e s m args below meth c s₁ X0 hexec hbytes hml hret hlk hnm hown hh0 W hP
  obtain ⟨rfl, hA, tA, hB, tB⟩ := hP
  have a31 := hA.2.2.2
  have b31 := hB.2.2.2
  have hA0 := hA.mv X0.warmed.alike hh0
  have hB0 := hB.mv X0.warmed.alike hh0
  have c1 : Steps p.tables e below (s₁.setTop (entryFrame m #[.ref a, .ref b] 3)) (s₁.setTop (mkF m 0 #[.val (.ref a), .val (.ref b), .unset] [])) := entry rfl
  have c2 : Steps p.tables e below (s₁.setTop (entryFrame m #[.ref a, .ref b] 3)) (s₁.setTop (mkF m 4 #[.val (.ref a), .val (.ref b), .unset] [.int (Int32.ofNat B.slots.size), .int (Int32.ofNat A.slots.size)])) := c1.trans (by
    refine XS.aloadN X0.here hexec rfl (hb hbytes d0) rfl rfl ?_
    refine X0.alen hexec hA0 rfl rfl (hb hbytes d1) ?_
    refine XS.aloadN X0.here hexec rfl (hb hbytes d2) rfl rfl ?_
    refine X0.alen hexec hB0 rfl rfl (hb hbytes d3) ?_
    exact Steps.refl _)
  by_cases hs : A.slots.size = B.slots.size
  · have c3 : Steps p.tables e below (s₁.setTop (entryFrame m #[.ref a, .ref b] 3)) (s₁.setTop (mkF m 9 #[.val (.ref a), .val (.ref b), .val (.int 0)] [])) := c2.trans (by
      refine XS.icmpNo X0.here hexec rfl (hb hbytes d4) rfl (ii_ne_f (by rw [hs])) ?_
      refine iconstV X0.here hexec rfl 0 (hb hbytes d7) (by decide) ?_
      refine XS.istoreN X0.here hexec rfl (hb hbytes d8) rfl rfl ?_
      exact Steps.refl _)
    have loop : ∀ (r i : Nat), i + r = A.slots.size → (∀ j, j < i → yv A j = yv B j) → Steps p.tables e below (s₁.setTop (entryFrame m #[.ref a, .ref b] 3)) (s₁.setTop (mkF m 9 #[.val (.ref a), .val (.ref b), .val (.int (Int32.ofNat i))] [])) → ∃ (pc : Nat) (Ls : Array Slot) (v : Int32), (pc = 25 ∨ pc = 33) ∧ ((v = 1 ∧ EqC A B) ∨ (v = 0 ∧ ¬ EqC A B)) ∧ Steps p.tables e below (s₁.setTop (entryFrame m #[.ref a, .ref b] 3)) (s₁.setTop (mkF m pc Ls [.int v])) := by
      intro r
      induction r with
      | zero =>
        intro i hi he cl
        exact ⟨33, _, 1, Or.inr rfl, Or.inl ⟨rfl, hs, fun j hj => he j (by omega)⟩, cl.trans (by
          refine XS.iloadN X0.here hexec rfl (hb hbytes d9) rfl ?_
          refine XS.aloadN X0.here hexec rfl (hb hbytes d10) rfl rfl ?_
          refine X0.alen hexec hA0 rfl rfl (hb hbytes d11) ?_
          refine XS.icmpYes X0.here hexec rfl (pc0 := 12) rfl (hb hbytes d12) rfl (ii_ge_t (nlt32 (by omega) (by omega))) (by decide) rfl ?_
          refine iconstV X0.here hexec rfl 1 (hb hbytes d32) (by decide) ?_
          exact Steps.refl _)⟩
      | succ r ih =>
        intro i hi he cl
        have c4 : Steps p.tables e below (s₁.setTop (entryFrame m #[.ref a, .ref b] 3)) (s₁.setTop (mkF m 21 #[.val (.ref a), .val (.ref b), .val (.int (Int32.ofNat i))] [.int (yv B i), .int (yv A i)])) := cl.trans (by
          refine XS.iloadN X0.here hexec rfl (hb hbytes d9) rfl ?_
          refine XS.aloadN X0.here hexec rfl (hb hbytes d10) rfl rfl ?_
          refine X0.alen hexec hA0 rfl rfl (hb hbytes d11) ?_
          refine XS.icmpNo X0.here hexec rfl (hb hbytes d12) rfl (ii_ge_f (lt32 (by omega) (by omega))) ?_
          refine XS.aloadN X0.here hexec rfl (hb hbytes d15) rfl rfl ?_
          refine XS.iloadN X0.here hexec rfl (hb hbytes d16) rfl ?_
          refine X0.aget hexec hA0 rfl (yv_get hA tA (i := i) (by omega)) rfl rfl (hb hbytes d17) ?_
          refine XS.aloadN X0.here hexec rfl (hb hbytes d18) rfl rfl ?_
          refine XS.iloadN X0.here hexec rfl (hb hbytes d19) rfl ?_
          refine X0.aget hexec hB0 rfl (yv_get hB tB (i := i) (by omega)) rfl rfl (hb hbytes d20) ?_
          exact Steps.refl _)
        by_cases hv : yv A i = yv B i
        · have c5 : Steps p.tables e below (s₁.setTop (entryFrame m #[.ref a, .ref b] 3)) (s₁.setTop (mkF m 9 #[.val (.ref a), .val (.ref b), .val (.int (Int32.ofNat i + 1))] [])) := c4.trans (by
            refine XS.icmpYes X0.here hexec rfl (pc0 := 21) rfl (hb hbytes d21) rfl (ii_eq_t hv) (by decide) rfl ?_
            refine iincV X0.here hexec rfl 1 (hb hbytes d26) (by decide) rfl rfl ?_
            refine XS.goto X0.here hexec rfl (pc0 := 29) rfl (hb hbytes d29) (by decide) rfl ?_
            exact Steps.refl _)
          rw [succ32] at c5
          exact ih (i + 1) (by omega) (fun j hj => by
            by_cases e : j = i
            · rw [e]; exact hv
            · exact he j (by omega)) c5
        · exact ⟨25, _, 0, Or.inl rfl, Or.inr ⟨rfl, fun q => hv (q.2 i (by omega))⟩, c4.trans (by
            refine XS.icmpNo X0.here hexec rfl (hb hbytes d21) rfl (ii_eq_f hv) ?_
            refine iconstV X0.here hexec rfl 0 (hb hbytes d24) (by decide) ?_
            exact Steps.refl _)⟩
    obtain ⟨pc, Ls, v, hpc, hv, cz⟩ := loop A.slots.size 0 (by omega) (fun j hj => absurd hj (Nat.not_lt_zero j)) c3
    have nv : narrow .boolean (.int v) = .int v := by rcases hv with ⟨rfl, -⟩ | ⟨rfl, -⟩ <;> rfl
    rcases hpc with rfl | rfl
    · exact ⟨s₁, some (.int v), _, _, _, X0, rfl, rfl, rfl, (fun h => by cases h), ⟨v, rfl, hh0, hv⟩, fun fs hl => cz.trans (X0.ireturnOut hexec hret nv (Or.inr (Or.inl rfl)) (hb hbytes d25) hl)⟩
    · exact ⟨s₁, some (.int v), _, _, _, X0, rfl, rfl, rfl, (fun h => by cases h), ⟨v, rfl, hh0, hv⟩, fun fs hl => cz.trans (X0.ireturnOut hexec hret nv (Or.inr (Or.inl rfl)) (hb hbytes d33) hl)⟩
  · have c3 : Steps p.tables e below (s₁.setTop (entryFrame m #[.ref a, .ref b] 3)) (s₁.setTop (mkF m 35 #[.val (.ref a), .val (.ref b), .unset] [.int 0])) := c2.trans (by
      refine XS.icmpYes X0.here hexec rfl (pc0 := 4) rfl (hb hbytes d4) rfl (ii_ne_t (ne32 a31 b31 hs)) (by decide) rfl ?_
      refine iconstV X0.here hexec rfl 0 (hb hbytes d34) (by decide) ?_
      exact Steps.refl _)
    exact ⟨s₁, some (.int 0), _, _, _, X0, rfl, rfl, rfl, (fun h => by cases h), ⟨0, rfl, hh0, Or.inr ⟨rfl, fun q => hs q.1⟩⟩, fun fs hl => c3.trans (X0.ireturnOut hexec hret rfl (Or.inr (Or.inl rfl)) (hb hbytes d35) hl)⟩
end LEq
theorem Cod.ty {cd : Int32} {n : Nat} {f : Nat → Int32} {V : Cell} (h : Cod cd n f V) : Typed .byte V := fun i v hv => by
  have hi : i < V.slots.size := (Array.getElem?_eq_some_iff.mp hv).1
  rcases h with ⟨-, k1, k2⟩ | ⟨-, k1, k2, -⟩
  · rw [(k2 i (by omega)).1] at hv; cases hv; exact fits_lo8 _
  · rcases Nat.mod_two_eq_zero_or_one i with e | e
    · obtain ⟨j, rfl⟩ : ∃ j, i = 2 * j := ⟨i / 2, by omega⟩
      rw [(k2 j (by omega)).1] at hv; cases hv; exact fits_lo8 _
    · obtain ⟨j, rfl⟩ : ∃ j, i = 2 * j + 1 := ⟨i / 2, by omega⟩
      rw [(k2 j (by omega)).2] at hv; cases hv; exact fits_lo8 _
/-- the same text -/
def SameT (n : Nat) (f : Nat → Int32) (k : Nat) (g : Nat → Int32) : Prop := n = k ∧ ∀ j, j < n → f j = g j
theorem lo8_inj {x y : Int32} (h0 : ¬ x < 0) (h1 : ¬ 255 < x) (k0 : ¬ y < 0) (k1 : ¬ 255 < y) (h : lo8 x = lo8 y) : x = y := by
  rw [← lo8_mask h0 h1, ← lo8_mask k0 k1, h]
/-- arrays coded by one coder are equal just where the texts are -/
theorem Cod.eqv {cd : Int32} {n k : Nat} {f g : Nat → Int32} {V V' : Cell} (h : Cod cd n f V) (h' : Cod cd k g V') (hf : ∀ j, j < n → ¬ f j < 0 ∧ ¬ 65535 < f j) (hg : ∀ j, j < k → ¬ g j < 0 ∧ ¬ 65535 < g j) : EqC V V' ↔ SameT n f k g := by
  have yvv : ∀ {W : Cell} {i : Nat} {x : Int32}, W.slots[i]? = some (.int x) → yv W i = x := fun q => by unfold yv; rw [q]
  rcases h with ⟨rfl, k1, k2⟩ | ⟨rfl, k1, k2, -⟩
  · rcases h' with ⟨-, m1, m2⟩ | ⟨e, -⟩
    · constructor
      · rintro ⟨e1, e2⟩
        refine ⟨by omega, fun j hj => ?_⟩
        have q := e2 j (by omega)
        rw [yvv (k2 j hj).1, yvv (m2 j (by omega)).1] at q
        exact lo8_inj (hf j hj).1 (k2 j hj).2 (hg j (by omega)).1 (m2 j (by omega)).2 q
      · rintro ⟨rfl, e2⟩
        refine ⟨by omega, fun j hj => ?_⟩
        rw [yvv (k2 j (by omega)).1, yvv (m2 j (by omega)).1, e2 j (by omega)]
    · exact absurd e (by decide)
  · rcases h' with ⟨e, -⟩ | ⟨-, m1, m2, -⟩
    · exact absurd e (by decide)
    · constructor
      · rintro ⟨e1, e2⟩
        refine ⟨by omega, fun j hj => ?_⟩
        have q1 := e2 (2 * j) (by omega)
        have q2 := e2 (2 * j + 1) (by omega)
        rw [yvv (k2 j hj).1, yvv (m2 j (by omega)).1] at q1
        rw [yvv (k2 j hj).2, yvv (m2 j (by omega)).2] at q2
        rw [← pair_says (hf j hj).1 (hf j hj).2, ← pair_says (hg j (by omega)).1 (hg j (by omega)).2, q1, q2]
      · rintro ⟨rfl, e2⟩
        refine ⟨by omega, fun i hi => ?_⟩
        rcases Nat.mod_two_eq_zero_or_one i with e | e
        · obtain ⟨j, rfl⟩ : ∃ j, i = 2 * j := ⟨i / 2, by omega⟩
          rw [yvv (k2 j (by omega)).1, yvv (m2 j (by omega)).1, e2 j (by omega)]
        · obtain ⟨j, rfl⟩ : ∃ j, i = 2 * j + 1 := ⟨i / 2, by omega⟩
          rw [yvv (k2 j (by omega)).2, yvv (m2 j (by omega)).2, e2 j (by omega)]
/-- two codings differ: so do the texts -/
theorem Cod.dif {cd cd' : Int32} {n k : Nat} {f g : Nat → Int32} {V V' : Cell} (h : Cod cd n f V) (h' : Cod cd' k g V') (hne : ¬ cd = cd') : ¬ SameT n f k g := by
  rintro ⟨rfl, e⟩
  rcases h with ⟨rfl, -, k2⟩ | ⟨rfl, -, -, j, hj, hw⟩
  · rcases h' with ⟨rfl, -⟩ | ⟨-, -, -, j, hj, hw⟩
    · exact hne rfl
    · exact (k2 j hj).2 (by rw [e j hj]; exact hw)
  · rcases h' with ⟨-, -, m2⟩ | ⟨rfl, -⟩
    · exact (m2 j hj).2 (by rw [← e j hj]; exact hw)
    · exact hne rfl
/-- an object of exactly C is an instance of C -/
theorem cinst {p : Program} {l : Launch} {e : Env} {R : Room} {s : State} {m : MethodId} {args : Array Value} {below : List Frame} {meth : Method} {c : Code} {T : State} {locs : List Loc} {cells slots : Nat} (X : Stand p l e R s m args below meth c T locs cells slots) (hexec : p.tables.exec = Jvm.exec) {own C : String} {index : Nat} (hown : s.vm.findClass own = some m.cls) (hlink : (Cond.classLink own index C).before args s = true) {a : Addr} (hE : Exact C a T)
    {g : JFrame} (hg : g.method = m) {rest : List Value} (hstack : g.stack = .ref a :: rest) (hdg : decode c.code g.pc = .ok (.instanceof index, 3)) :
    ∃ T', Stand p l e R s m args below meth c T' locs cells slots ∧ T'.heap = T.heap ∧ ∀ target, Steps p.tables e below (T'.setTop { g with pc := g.pc + 3, stack := .int 1 :: rest }) target → Steps p.tables e below (T.setTop g) target := by
  obtain ⟨cB, h1, D, h2, h3, h4⟩ := hE
  have h1' : s.vm.findClass C = some cB := by rw [← X.warmed.alike.findClass]; exact h1
  obtain ⟨vm', X', st⟩ := X.instanceofYes hexec hown hlink h2 h4 h1' (by rw [h3]; exact Jvm.Free.SB.assignable_self _ _) hg hstack hdg
  exact ⟨_, X', rfl, st⟩
theorem cself {p : Program} {l : Launch} {e : Env} {R : Room} {s : State} {m : MethodId} {args : Array Value} {below : List Frame} {meth : Method} {c : Code} {T : State} {locs : List Loc} {cells slots : Nat} (X : Stand p l e R s m args below meth c T locs cells slots) (hexec : p.tables.exec = Jvm.exec) {own C : String} {index : Nat} (hown : s.vm.findClass own = some m.cls) (hlink : (Cond.classLink own index C).before args s = true) {a : Addr} (hE : Exact C a T)
    {g : JFrame} (hg : g.method = m) {rest : List Value} (hstack : g.stack = .ref a :: rest) (hdg : decode c.code g.pc = .ok (.checkcast index, 3)) :
    ∃ T', Stand p l e R s m args below meth c T' locs cells slots ∧ T'.heap = T.heap ∧ ∀ target, Steps p.tables e below (T'.setTop { g with pc := g.pc + 3, stack := .ref a :: rest }) target → Steps p.tables e below (T.setTop g) target := by
  obtain ⟨cB, h1, D, h2, h3, h4⟩ := hE
  have h1' : s.vm.findClass C = some cB := by rw [← X.warmed.alike.findClass]; exact h1
  obtain ⟨vm', X', st⟩ := X.checkcastYes hexec hown hlink h2 h4 h1' (by rw [h3]; exact Jvm.Free.SB.assignable_self _ _) hg hstack hdg
  exact ⟨_, X', rfl, fun t h => st t (by rw [← hstack] at h; exact h)⟩
namespace SEq
def yN : MethodName := ⟨"java/lang/String", "equals", "(Ljava/lang/Object;)Z"⟩
abbrev yB : ByteArray := jdk_42_method_66_code
theorem d0 : decode yB 0 = .ok (.aload_n 0, 1) := by decide +kernel
theorem d1 : decode yB 1 = .ok (.aload_n 1, 1) := by decide +kernel
theorem d2 : decode yB 2 = .ok (.if_acmp (.ne) 5, 3) := by decide +kernel
theorem d5 : decode yB 5 = .ok (.iconst 1, 1) := by decide +kernel
theorem d6 : decode yB 6 = .ok (.ireturn, 1) := by decide +kernel
theorem d7 : decode yB 7 = .ok (.aload_n 1, 1) := by decide +kernel
theorem d8 : decode yB 8 = .ok (.instanceof 10, 3) := by decide +kernel
theorem d11 : decode yB 11 = .ok (.ifCond (.eq) 43, 3) := by decide +kernel
theorem d14 : decode yB 14 = .ok (.aload_n 1, 1) := by decide +kernel
theorem d15 : decode yB 15 = .ok (.checkcast 10, 3) := by decide +kernel
theorem d18 : decode yB 18 = .ok (.astore_n 2, 1) := by decide +kernel
theorem d19 : decode yB 19 = .ok (.getstatic 38, 3) := by decide +kernel
theorem d22 : decode yB 22 = .ok (.ifCond (.eq) 14, 3) := by decide +kernel
theorem d25 : decode yB 25 = .ok (.aload_n 0, 1) := by decide +kernel
theorem d26 : decode yB 26 = .ok (.getfield 15, 3) := by decide +kernel
theorem d29 : decode yB 29 = .ok (.aload_n 2, 1) := by decide +kernel
theorem d30 : decode yB 30 = .ok (.getfield 15, 3) := by decide +kernel
theorem d33 : decode yB 33 = .ok (.if_icmp (.ne) 21, 3) := by decide +kernel
theorem d36 : decode yB 36 = .ok (.aload_n 0, 1) := by decide +kernel
theorem d37 : decode yB 37 = .ok (.getfield 9, 3) := by decide +kernel
theorem d40 : decode yB 40 = .ok (.aload_n 2, 1) := by decide +kernel
theorem d41 : decode yB 41 = .ok (.getfield 9, 3) := by decide +kernel
theorem d44 : decode yB 44 = .ok (.invokestatic 541, 3) := by decide +kernel
theorem d47 : decode yB 47 = .ok (.ifCond (.eq) 7, 3) := by decide +kernel
theorem d50 : decode yB 50 = .ok (.iconst 1, 1) := by decide +kernel
theorem d51 : decode yB 51 = .ok (.goto 4, 3) := by decide +kernel
theorem d54 : decode yB 54 = .ok (.iconst 0, 1) := by decide +kernel
theorem d55 : decode yB 55 = .ok (.ireturn, 1) := by decide +kernel
def site : List Cond := [.classLink "java/lang/String" 10 "java/lang/String", .fieldLink "java/lang/String" 38 "java/lang/String" "COMPACT_STRINGS" "Z", .fieldLink "java/lang/String" 15 "java/lang/String" "coder" "B", .fieldLink "java/lang/String" 9 "java/lang/String" "value" "[B", LEq.tab] ++ staticW "java/lang/String" 541 LEq.yN
def tab : Cond := tabOf yN yB 3 (some .boolean) site
def P (x t : Addr) (V : Cell) (cd : Int32) (n : Nat) (f : Nat → Int32) (y t' : Addr) (V' : Cell) (cd' : Int32) (k : Nat) (g : Nat → Int32) (z : Int32) (args : Array Value) (s : State) : Prop := args = #[.ref x, .ref y] ∧ Txt x t V cd n f s ∧ Txt y t' V' cd' k g s ∧ StaticIs s "java/lang/String" "COMPACT_STRINGS" "Z" (.int z) ∧ ¬ z = 0
/-- equals(Object) of two Strings: whether the texts are the same -/
theorem law (l : Launch) (x t : Addr) (V : Cell) (cd : Int32) (n : Nat) (f : Nat → Int32) (y t' : Addr) (V' : Cell) (cd' : Int32) (k : Nat) (g : Nat → Int32) (z : Int32) : Law l yN 2 1 1 14 yB 3 (some .boolean) site (P x t V cd n f y t' V' cd' k g z) (Says01 (SameT n f k g)) [] 0 0 := by
  refine Law.of_walk (plainFor_of_name (by decide +kernel)) (by decide +kernel) (by decide +kernel) (by decide) (fun _ _ h => by rw [h.1]; rfl) (fun _ U U' hal hh h => ⟨h.1, h.2.1.mv hal hh, h.2.2.1.mv hal hh, h.2.2.2.1.there hal hh, h.2.2.2.2⟩) (fun r U U' V V' h1 hal h2 h => Says01.mv r U U' V V' h1 hal h2 h) ?_
  intro p e s m args below meth c s₁ X0 hexec hbytes hml hret hlk hnm hown hh0 W hP
  obtain ⟨rfl, hx, hy, s1, hz⟩ := hP
  have c1 : Steps p.tables e below (s₁.setTop (entryFrame m #[.ref x, .ref y] 3)) (s₁.setTop (mkF m 2 #[.val (.ref x), .val (.ref y), .unset] [.ref y, .ref x])) := Steps.trans (entry rfl) (by
    show Steps p.tables e below (s₁.setTop (mkF m 0 #[.val (.ref x), .val (.ref y), .unset] [])) _
    refine XS.aloadN X0.here hexec rfl (hb hbytes d0) rfl rfl ?_
    refine XS.aloadN X0.here hexec rfl (hb hbytes d1) rfl rfl ?_
    exact Steps.refl _)
  by_cases hxy : x = y
  · have c2 : Steps p.tables e below (s₁.setTop (entryFrame m #[.ref x, .ref y] 3)) (s₁.setTop (mkF m 6 #[.val (.ref x), .val (.ref y), .unset] [.int 1])) := c1.trans (by
      refine acmpNo X0.here hexec rfl (hb hbytes d2) rfl rfl rfl (by simp [acmp, hxy]) ?_
      refine iconstV X0.here hexec rfl 1 (hb hbytes d5) (by decide) ?_
      exact Steps.refl _)
    subst hxy
    have ec : cd = cd' := by
      obtain ⟨D, fd, a1, a2, a3⟩ := hx.2.2.1
      obtain ⟨D', fd', b1, b2, b3⟩ := hy.2.2.1
      cases a1.symm.trans b1
      obtain ⟨q1, q2, q3, q4⟩ := a2.1
      obtain ⟨r1, r2, r3, r4⟩ := b2.1
      cases q4.symm.trans r4
      cases a3.symm.trans b3; rfl
    have et : t = t' := by
      obtain ⟨D, fd, a1, a2, a3⟩ := hx.2.1
      obtain ⟨D', fd', b1, b2, b3⟩ := hy.2.1
      cases a1.symm.trans b1
      obtain ⟨q1, q2, q3, q4⟩ := a2.1
      obtain ⟨r1, r2, r3, r4⟩ := b2.1
      cases q4.symm.trans r4
      cases a3.symm.trans b3; rfl
    subst ec et
    have ev : V = V' := by cases hx.2.2.2.1.1.symm.trans hy.2.2.2.1.1; rfl
    subst ev
    have hs : SameT n f k g := (Cod.eqv hx.2.2.2.2.1 hy.2.2.2.2.1 hx.2.2.2.2.2 hy.2.2.2.2.2).mp ⟨rfl, fun _ _ => rfl⟩
    exact ⟨s₁, some (.int 1), _, _, _, X0, rfl, rfl, rfl, (fun h => by cases h), ⟨1, rfl, hh0, Or.inl ⟨rfl, hs⟩⟩, fun fs hl => c2.trans (X0.ireturnOut hexec hret rfl (Or.inr (Or.inl rfl)) (hb hbytes d6) hl)⟩
  · have c2 : Steps p.tables e below (s₁.setTop (entryFrame m #[.ref x, .ref y] 3)) (s₁.setTop (mkF m 8 #[.val (.ref x), .val (.ref y), .unset] [.ref y])) := c1.trans (by
      refine acmpYes X0.here hexec rfl (pc0 := 2) rfl (hb hbytes d2) rfl rfl rfl (by simp [acmp, hxy]) (by decide) rfl ?_
      refine XS.aloadN X0.here hexec rfl (hb hbytes d7) rfl rfl ?_
      exact Steps.refl _)
    obtain ⟨T3, X3, q3, st3⟩ := cinst X0 hexec hown (wk W (.classLink "java/lang/String" 10 "java/lang/String")) (hy.mv X0.warmed.alike hh0).1 (g := (mkF m 8 #[.val (.ref x), .val (.ref y), .unset] [.ref y])) rfl (rest := []) rfl (hb hbytes d8)
    have hh3 := q3.trans hh0
    have c4 : Steps p.tables e below (s₁.setTop (entryFrame m #[.ref x, .ref y] 3)) (T3.setTop (mkF m 15 #[.val (.ref x), .val (.ref y), .unset] [.ref y])) := (c2.trans (st3 _ (Steps.refl _))).trans (by
      refine XS.ifNo X3.here hexec rfl (hb hbytes d11) rfl (i0_eq_f (by decide)) ?_
      refine XS.aloadN X3.here hexec rfl (hb hbytes d14) rfl rfl ?_
      exact Steps.refl _)
    obtain ⟨T5, X5, q5, st5⟩ := cself X3 hexec hown (wk W (.classLink "java/lang/String" 10 "java/lang/String")) (hy.mv X3.warmed.alike hh3).1 (g := (mkF m 15 #[.val (.ref x), .val (.ref y), .unset] [.ref y])) rfl (rest := []) rfl (hb hbytes d15)
    have hh5 := q5.trans hh3
    have c6 : Steps p.tables e below (s₁.setTop (entryFrame m #[.ref x, .ref y] 3)) (T5.setTop (mkF m 19 #[.val (.ref x), .val (.ref y), .val (.ref y)] [])) := (c4.trans (st5 _ (Steps.refl _))).trans (by
      refine XS.astoreN X5.here hexec rfl (hb hbytes d18) rfl rfl rfl ?_
      exact Steps.refl _)
    obtain ⟨T7, X7, q7, st7⟩ := X5.sget hexec hown (wk W (.fieldLink "java/lang/String" 38 "java/lang/String" "COMPACT_STRINGS" "Z")) s1 (fun _ _ h => by rw [hh5]; exact h) (g := (mkF m 19 #[.val (.ref x), .val (.ref y), .val (.ref y)] [])) rfl (hb hbytes d19)
    have hh7 := q7.trans hh5
    have c8 : Steps p.tables e below (s₁.setTop (entryFrame m #[.ref x, .ref y] 3)) (T7.setTop (mkF m 26 #[.val (.ref x), .val (.ref y), .val (.ref y)] [.ref x])) := (c6.trans (st7 _ (Steps.refl _))).trans (by
      refine XS.ifNo X7.here hexec rfl (hb hbytes d22) rfl (i0_eq_f hz) ?_
      refine XS.aloadN X7.here hexec rfl (hb hbytes d25) rfl rfl ?_
      exact Steps.refl _)
    obtain ⟨T9, X9, q9, st9⟩ := X7.hget hexec hown (wk W (.fieldLink "java/lang/String" 15 "java/lang/String" "coder" "B")) (hx.mv X7.warmed.alike hh7).2.2.1 (g := (mkF m 26 #[.val (.ref x), .val (.ref y), .val (.ref y)] [.ref x])) rfl (rest := []) rfl (hb hbytes d26)
    have hh9 := q9.trans hh7
    have c10 : Steps p.tables e below (s₁.setTop (entryFrame m #[.ref x, .ref y] 3)) (T9.setTop (mkF m 30 #[.val (.ref x), .val (.ref y), .val (.ref y)] [.ref y, .int cd])) := (c8.trans (st9 _ (Steps.refl _))).trans (by
      refine XS.aloadN X9.here hexec rfl (hb hbytes d29) rfl rfl ?_
      exact Steps.refl _)
    obtain ⟨T11, X11, q11, st11⟩ := X9.hget hexec hown (wk W (.fieldLink "java/lang/String" 15 "java/lang/String" "coder" "B")) (hy.mv X9.warmed.alike hh9).2.2.1 (g := (mkF m 30 #[.val (.ref x), .val (.ref y), .val (.ref y)] [.ref y, .int cd])) rfl (rest := [.int cd]) rfl (hb hbytes d30)
    have hh11 := q11.trans hh9
    have c12 : Steps p.tables e below (s₁.setTop (entryFrame m #[.ref x, .ref y] 3)) (T11.setTop (mkF m 33 #[.val (.ref x), .val (.ref y), .val (.ref y)] [.int cd', .int cd])) := c10.trans (st11 _ (Steps.refl _))
    by_cases hcd : cd = cd'
    · subst hcd
      have c13 : Steps p.tables e below (s₁.setTop (entryFrame m #[.ref x, .ref y] 3)) (T11.setTop (mkF m 37 #[.val (.ref x), .val (.ref y), .val (.ref y)] [.ref x])) := c12.trans (by
        refine XS.icmpNo X11.here hexec rfl (hb hbytes d33) rfl (ii_ne_f rfl) ?_
        refine XS.aloadN X11.here hexec rfl (hb hbytes d36) rfl rfl ?_
        exact Steps.refl _)
      obtain ⟨T14, X14, q14, st14⟩ := X11.hget hexec hown (wk W (.fieldLink "java/lang/String" 9 "java/lang/String" "value" "[B")) (hx.mv X11.warmed.alike hh11).2.1 (g := (mkF m 37 #[.val (.ref x), .val (.ref y), .val (.ref y)] [.ref x])) rfl (rest := []) rfl (hb hbytes d37)
      have hh14 := q14.trans hh11
      have c15 : Steps p.tables e below (s₁.setTop (entryFrame m #[.ref x, .ref y] 3)) (T14.setTop (mkF m 41 #[.val (.ref x), .val (.ref y), .val (.ref y)] [.ref y, .ref t])) := (c13.trans (st14 _ (Steps.refl _))).trans (by
        refine XS.aloadN X14.here hexec rfl (hb hbytes d40) rfl rfl ?_
        exact Steps.refl _)
      obtain ⟨T16, X16, q16, st16⟩ := X14.hget hexec hown (wk W (.fieldLink "java/lang/String" 9 "java/lang/String" "value" "[B")) (hy.mv X14.warmed.alike hh14).2.1 (g := (mkF m 41 #[.val (.ref x), .val (.ref y), .val (.ref y)] [.ref y, .ref t])) rfl (rest := [.ref t]) rfl (hb hbytes d41)
      have hh16 := q16.trans hh14
      have c17 : Steps p.tables e below (s₁.setTop (entryFrame m #[.ref x, .ref y] 3)) (T16.setTop (mkF m 44 #[.val (.ref x), .val (.ref y), .val (.ref y)] [.ref t', .ref t])) := c15.trans (st16 _ (Steps.refl _))
      obtain ⟨v18, T18, X18, E18, g18⟩ := X16.callS hexec (LEq.law l t V t' V') hown (wks W (staticW "java/lang/String" 541 LEq.yN)) (wk W LEq.tab) (W := 0) (Nat.le_of_ble_eq_true rfl) (Nat.le_of_ble_eq_true rfl) (Nat.le_refl _) (Nat.le_refl _) (g := (mkF m 44 #[.val (.ref x), .val (.ref y), .val (.ref y)] [.ref t', .ref t])) rfl (by rw [hml]; rfl) c17 (argsL := [.ref t, .ref t']) (rest := []) rfl rfl (by show 2 * 0 + 0 ≤ _; decide) (hb hbytes d44) (⟨rfl, hx.2.2.2.1.mv X16.warmed.alike hh16, hx.2.2.2.2.1.ty, hy.2.2.2.1.mv X16.warmed.alike hh16, hy.2.2.2.2.1.ty⟩)
      obtain ⟨v, rfl, q18, hv⟩ := E18
      have iff := Cod.eqv hx.2.2.2.2.1 hy.2.2.2.2.1 hx.2.2.2.2.2 hy.2.2.2.2.2
      rcases hv with ⟨rfl, he⟩ | ⟨rfl, he⟩
      · have c19 : Steps p.tables e below (s₁.setTop (entryFrame m #[.ref x, .ref y] 3)) (T18.setTop (mkF m 55 #[.val (.ref x), .val (.ref y), .val (.ref y)] [.int 1])) := Steps.trans g18 (by
          refine XS.ifNo X18.here hexec rfl (hb hbytes d47) rfl (i0_eq_f (by decide)) ?_
          refine iconstV X18.here hexec rfl 1 (hb hbytes d50) (by decide) ?_
          refine XS.goto X18.here hexec rfl (pc0 := 51) rfl (hb hbytes d51) (by decide) rfl ?_
          exact Steps.refl _)
        exact ⟨T18, some (.int 1), _, _, _, X18, rfl, rfl, rfl, (fun h => by cases h), ⟨1, rfl, q18.trans hh16, Or.inl ⟨rfl, iff.mp he⟩⟩, fun fs hl => c19.trans (X18.ireturnOut hexec hret rfl (Or.inr (Or.inl rfl)) (hb hbytes d55) hl)⟩
      · have c19 : Steps p.tables e below (s₁.setTop (entryFrame m #[.ref x, .ref y] 3)) (T18.setTop (mkF m 55 #[.val (.ref x), .val (.ref y), .val (.ref y)] [.int 0])) := Steps.trans g18 (by
          refine XS.ifYes X18.here hexec rfl (pc0 := 47) rfl (hb hbytes d47) rfl (i0_eq_t rfl) (by decide) rfl ?_
          refine iconstV X18.here hexec rfl 0 (hb hbytes d54) (by decide) ?_
          exact Steps.refl _)
        exact ⟨T18, some (.int 0), _, _, _, X18, rfl, rfl, rfl, (fun h => by cases h), ⟨0, rfl, q18.trans hh16, Or.inr ⟨rfl, fun q => he (iff.mpr q)⟩⟩, fun fs hl => c19.trans (X18.ireturnOut hexec hret rfl (Or.inr (Or.inl rfl)) (hb hbytes d55) hl)⟩
    · have c13 : Steps p.tables e below (s₁.setTop (entryFrame m #[.ref x, .ref y] 3)) (T11.setTop (mkF m 55 #[.val (.ref x), .val (.ref y), .val (.ref y)] [.int 0])) := c12.trans (by
        refine XS.icmpYes X11.here hexec rfl (pc0 := 33) rfl (hb hbytes d33) rfl (ii_ne_t hcd) (by decide) rfl ?_
        refine iconstV X11.here hexec rfl 0 (hb hbytes d54) (by decide) ?_
        exact Steps.refl _)
      exact ⟨T11, some (.int 0), _, _, _, X11, rfl, rfl, rfl, (fun h => by cases h), ⟨0, rfl, hh11, Or.inr ⟨rfl, Cod.dif hx.2.2.2.2.1 hy.2.2.2.2.1 hcd⟩⟩, fun fs hl => c13.trans (X11.ireturnOut hexec hret rfl (Or.inr (Or.inl rfl)) (hb hbytes d55) hl)⟩
theorem pays {l : Launch} {R : Room} {p : Program} {e : Env} {below : List Frame} {s : State} {sargs : Array Value} {len W : Nat} (x t : Addr) (V : Cell) (cd : Int32) (n : Nat) (f : Nat → Int32) (y t' : Addr) (V' : Cell) (cd' : Int32) (k : Nat) (g : Nat → Int32) (z : Int32) (htab : tab.before sargs s = true) (hfr : 2 ≤ R.frames) (hlo : W + 28 ≤ R.locals) :
    Back l R p e below s sargs yN len W (fun A₁ a₁ => A₁.cells + 0 ≤ R.cells ∧ A₁.slots + 0 ≤ R.slots ∧ P x t V cd n f y t' V' cd' k g z a₁ A₁.U) (fun A₁ _ v₁ B₁ => Says01 (SameT n f k g) v₁ A₁.U B₁.U ∧ B₁.locs = A₁.locs ++ [] ∧ B₁.cells = A₁.cells + 0 ∧ B₁.slots = A₁.slots + 0) :=
  (law l x t V cd n f y t' V' cd' k g z).pays htab hfr (by omega)
end SEq
end StrChars
namespace StrChars.Road
open Jvm Sem ClassFile Op Lib Jvm.Stand Jvm.Free Jvm.Free.XT
open Jvm.Lib.Cold (StaticIs)
/-- the words of String.equals(Object) -/
abbrev wordsEq : List Jvm.Cond := [.code SEq.yN SEq.yB 3 (some .boolean), .initialized ST, .classLink ST 10 ST, .fieldLink ST 38 ST "COMPACT_STRINGS" "Z", .fieldLink ST 15 ST "coder" "B", .fieldLink ST 9 ST "value" "[B", .methodLink ST 541 LEq.yN, .static LEq.yN, .code LEq.yN LEq.yB 3 (some .boolean), .initialized "java/lang/StringLatin1"]
theorem tabEq_of {a : Array Value} {s : State} (h : ∀ w ∈ wordsEq, w.before a s = true) : SEq.tab.before a s = true := by
  have hl : LEq.tab.before a s = true := unparts (wk h (.code LEq.yN LEq.yB 3 (some .boolean))) (wks h (.initialized LEq.yN.cls :: LEq.site))
  have q := consq hl h
  exact unparts (wk q (.code SEq.yN SEq.yB 3 (some .boolean))) (wks q (.initialized SEq.yN.cls :: SEq.site))
theorem movedEq {Z s : State} {a0 args : Array Value} (hZ : Z.Warmed39 s.vm) (hw : ∀ d ∈ wordsEq, d.before a0 Z = true) : ∀ d ∈ wordsEq, d.before args s = true := fun d hd => by
  have t : ∀ d ∈ wordsEq, (d.onTables && d.keepsFace) = true := by decide +kernel
  exact RoadKit.mv hZ (hw d hd) (t d hd)
/-- the road's facts of a String, as the laws ask it -/
theorem txt_of {Z U : State} {a0 : Array Value} {kI : Nat} (wi : (Jvm.Cond.instantiable ST kI).before a0 Z = true) (al : Z.vm.Alike U.vm) {x t : Addr} {kb : ClassId} {cs : List Int32} {cd N2 : Int32} {vs : List Value} (E : RoadKit.Exa Z U.heap x ST) (V : RoadKit.Fld Z U.heap x ST "value" "[B" (.ref t)) (C : RoadKit.Fld Z U.heap x ST "coder" "B" (.int cd)) (K : RoadKit.Arv Z U.heap t kb .byte N2 vs (.int 0)) (hc : CodA cs cd N2 vs) (hb : ∀ c ∈ cs, ¬ c < 0 ∧ ¬ (65535 : Int32) < c) (l2 : cs.length ≤ 4000) :
    ∃ A, Txt x t A cd cs.length (fun j => cs.getD j 0) U := by
  obtain ⟨A, K1, K2, K3, K4, K5, K6⟩ := K
  have hcod := hc.cod (by omega) K3 K5
  obtain ⟨D, fV, fC, hB, F1, F2, g1, g2, -, -⟩ := strObj wi al E V C
  exact ⟨A, ⟨_, hB.2.2.1, D, hB.1, rfl, by cases q : D.vm <;> first | rfl | exact absurd q (hB.2.1.2 _)⟩, Has.of hB F1 g1, Has.of hB F2 g2, ⟨K1.1, State.isArrayOf_alike al K1.2.1, K1.2.2, by rcases hcod with ⟨-, q, -⟩ | ⟨-, q, -⟩ <;> omega⟩, hcod, fun j hj => by
    have e : cs.getD j 0 = cs[j] := by simp [List.getD_eq_getElem?_getD, hj]
    show ¬ cs.getD j 0 < 0 ∧ ¬ 65535 < cs.getD j 0
    rw [e]; exact hb _ (List.getElem_mem _)⟩
theorem same_list (cs ds : List Int32) : SameT cs.length (fun j => cs.getD j 0) ds.length (fun j => ds.getD j 0) ↔ cs = ds := by
  constructor
  · rintro ⟨e, q⟩
    refine List.ext_getElem e fun j h1 h2 => ?_
    have := q j h1
    simpa [List.getD_eq_getElem?_getD, h1, h2] using this
  · rintro rfl
    exact ⟨rfl, fun _ _ => rfl⟩
/-- **equals(Object) OF TWO SUCH STRINGS**: 1 just where the chars are the same -/
theorem eqW {p : Program} {l : Launch} {e : Env} {R : Room} {s : State} {args : Array Value} {below : List Frame} {len W : Nat} {Z : State} {a0 : Array Value} {h : Heap} (hZ : Z.Warmed39 s.vm) (hw : ∀ d ∈ wordsEq, d.before a0 Z = true) {kI : Nat} (wi : (Jvm.Cond.instantiable ST kI).before a0 Z = true)
    {x t : Addr} {kb : ClassId} {cs : List Int32} {cd N2 : Int32} {vs : List Value} (E : RoadKit.Exa Z h x ST) (V : RoadKit.Fld Z h x ST "value" "[B" (.ref t)) (C : RoadKit.Fld Z h x ST "coder" "B" (.int cd)) (K : RoadKit.Arv Z h t kb .byte N2 vs (.int 0)) (hc : CodA cs cd N2 vs) (hb : ∀ c ∈ cs, ¬ c < 0 ∧ ¬ (65535 : Int32) < c) (l2 : cs.length ≤ 4000)
    {y t' : Addr} {kb' : ClassId} {ds : List Int32} {cd' N2' : Int32} {vs' : List Value} (E' : RoadKit.Exa Z h y ST) (V' : RoadKit.Fld Z h y ST "value" "[B" (.ref t')) (C' : RoadKit.Fld Z h y ST "coder" "B" (.int cd')) (K' : RoadKit.Arv Z h t' kb' .byte N2' vs' (.int 0)) (hc' : CodA ds cd' N2' vs') (hb' : ∀ c ∈ ds, ¬ c < 0 ∧ ¬ (65535 : Int32) < c) (l2' : ds.length ≤ 4000)
    {z : Int32} (S : RoadKit.Sta Z h ST "COMPACT_STRINGS" "Z" (.int z)) (hz : ¬ z = 0) (hfr : 2 ≤ R.frames) (hlo : W + 28 ≤ R.locals) :
    Back l R p e below s args (⟨"java/lang/String", "equals", "(Ljava/lang/Object;)Z"⟩ : MethodName) len W (fun P a => a = #[.ref x, .ref y] ∧ P.U.heap = h ∧ P.cells + 0 ≤ R.cells ∧ P.slots + 0 ≤ R.slots)
      (fun P _ v B => ∃ L, (((v = some (.int 1) ∧ cs = ds) ∨ (v = some (.int 0) ∧ ¬ cs = ds)) ∧ L = [] ∧ B.U.heap = h) ∧ B.locs = P.locs ++ L ∧ B.cells = P.cells + 0 ∧ B.slots = P.slots + 0) := by
  intro m meth c P g ig mk a X hg hsize hdg hW hn hp'
  obtain ⟨rfl, rfl, r1, r2⟩ := hp'
  have al : Z.vm.Alike P.U.vm := hZ.alike.trans X.warmed.alike
  obtain ⟨A, hx⟩ := txt_of wi al E V C K hc hb l2
  obtain ⟨A', hy⟩ := txt_of wi al E' V' C' K' hc' hb' l2'
  obtain ⟨v, B, X', ⟨⟨w, hv, hh, hq⟩, hl, hk, hs⟩, st⟩ := SEq.pays x t A cd cs.length (fun j => cs.getD j 0) y t' A' cd' ds.length (fun j => ds.getD j 0) z (tabEq_of (movedEq hZ hw)) hfr hlo m meth c P g ig mk _ X hg hsize hdg hW hn ⟨r1, r2, rfl, hx, hy, sta_is al S, hz⟩
  refine ⟨v, B, X', ⟨[], ⟨?_, rfl, hh⟩, hl, hk, hs⟩, st⟩
  rcases hq with ⟨rfl, q⟩ | ⟨rfl, q⟩
  · exact Or.inl ⟨hv, (same_list cs ds).mp q⟩
  · exact Or.inr ⟨hv, fun e => q ((same_list cs ds).mpr e)⟩
end StrChars.Road
end Jvm.Pilot.@@N@@
namespace Jvm.Pilot.@@N@@
open Jvm Jvm.ClassFile Sem Op Lib Jvm.Free Jvm.Stand Jvm.LawKit Jvm.RoadKit Bundle Jvm.Own Jvm.Pilot.@@N@@.Jvm.D
theorem owS {a0 : Array Value} {Z : State} (hw : ∀ d ∈ tables_1, d.before a0 Z = true) : ∀ a ∈ Bundle.stringAtoms, a.before a0 Z = true := fun d hd => hw d ((by decide +kernel : ∀ d ∈ Bundle.stringAtoms, d ∈ tables_1) d hd)
theorem hws' {a0 : Array Value} {Z : State} (hw : ∀ d ∈ tables_1, d.before a0 Z = true) : (Jvm.Cond.instantiable "java/lang/String" 4).before a0 Z = true := owS hw _ (by simp [Bundle.stringAtoms, Bundle.sN])
theorem strPay {l : Launch} {Z : State} {a0 : Array Value} {EL : List (String × Nat)} {R : Room} {K : Cx} {h : Heap} (hw : ∀ d ∈ tables_1, d.before a0 Z = true) (hE : EW Z a0 EL) (x b : Addr) {kC : ClassId} (N : Int32) (cs : List Int32) {d v0 c0 : Value} {z : Int32} (n Wd : Nat) (E : Exa Z h x "java/lang/String") (V : Fld Z h x "java/lang/String" "value" "[B" v0) (C : Fld Z h x "java/lang/String" "coder" "B" c0) (A : Arv Z h b kC .char N (cs.map Value.int) d) (S : Sta Z h "java/lang/String" "COMPACT_STRINGS" "Z" (.int z)) (hz : ¬ z = 0) (hn : cs.length = n) (hN : N.toNatClampNeg = cs.length) (l0 : 0 < cs.length) (l2 : cs.length ≤ 536870912) (hall : ∀ c ∈ cs, ¬ 255 < c) (hfr : 4 ≤ R.frames) (hlo : Wd + 65 ≤ R.locals) :
    Cb l Z EL R K (⟨"java/lang/String", "<init>", "([C)V"⟩ : MethodName) 3 Wd 1 n #[.ref x, .ref b] h [x] (fun v h' so => ∃ t : Addr, ∃ kb : ClassId, v = none ∧ so = [] ∧ h.size ≤ t ∧ Exa Z h' x "java/lang/String" ∧ Fld Z h' x "java/lang/String" "coder" "B" (.int (0 : Int32)) ∧ Fld Z h' x "java/lang/String" "value" "[B" (.ref t) ∧ Arv Z h' t kb .byte N (cs.map fun c => Value.int (StrChars.lo8 c)) (.int 0)) := by
  subst hn
  have hws : ∀ d ∈ StrChars.Road.words, d.before a0 Z = true := fun d hd => hw d ((by decide +kernel : ∀ d ∈ StrChars.Road.words, d ∈ tables_1) d hd)
  refine Cb.bk (a0 := a0) (fun vm0 hZ => StrChars.Road.backArv (s := K.2.2.1.setVm vm0) hZ hws (kI := 4) (hws' hw) E V C A S hz hN l0 l2 hall hfr hlo) hE ?_
  intro v h' L q
  obtain ⟨q1, q2, q3, q4, q5, q6, q7, ⟨kb, -, q8⟩, -⟩ := q
  exact ⟨⟨h.size, kb, q1, rfl, Nat.le_refl _, q5, q7, q6, q8⟩, q3, fun y hy => Or.inl (by rw [q2 y hy]; simp)⟩
/-- a String that spells cs -/
def Str (Z : State) (h : Heap) (a : Addr) (cs : List Int32) : Prop := ∃ (t : Addr) (kb : ClassId) (cd N : Int32) (vs : List Value), Exa Z h a "java/lang/String" ∧ Fld Z h a "java/lang/String" "value" "[B" (.ref t) ∧ Fld Z h a "java/lang/String" "coder" "B" (.int cd) ∧ Arv Z h t kb .byte N vs (.int 0) ∧ StrChars.Road.CodA cs cd N vs ∧ (∀ c ∈ cs, ¬ c < 0 ∧ ¬ (65535 : Int32) < c) ∧ cs.length ≤ 4000
section StrFacts
variable {Z : State} {a0 : Array Value} {h h' : Heap} {a x : Addr} {cs ds : List Int32} {ws : List Addr}
theorem Str.exa (F : Str Z h a cs) : Exa Z h a "java/lang/String" := by obtain ⟨_, _, _, _, _, A, _⟩ := F; exact A
theorem Str.lt (F : Str Z h a cs) : a < h.size := F.exa.lt
theorem Str.ext (F : Str Z h a cs) (E : Ext h h') : Str Z h' a cs := by
  obtain ⟨t, kb, cd, N, vs, A, V, C, K, r⟩ := F
  exact ⟨t, kb, cd, N, vs, A.ext E, V.ext E, C.ext E, K.ext E, r⟩
theorem Str.keep (F : Str Z h a cs) (K : Keep h h' ws) (hn : a ∉ ws) (hb : ∀ x ∈ ws, ∃ C n, Exa Z h x C ∧ (Cond.instantiable C n).before a0 Z = true) : Str Z h' a cs := by
  obtain ⟨t, kb, cd, N, vs, A, V, C, B, r⟩ := F
  have ht : t ∉ ws := fun q => by obtain ⟨D, n, E, wi⟩ := hb t q; exact (E.neArv B wi) rfl
  exact ⟨t, kb, cd, N, vs, A.keep K, V.keep K hn, C.keep K hn, B.keep K ht, r⟩
theorem Str.wrO {sl : Nat} {v : Value} {D : String} {n : Nat} (F : Str Z h a cs) (W : Wr h h' x sl v) (hn : a ≠ x) (E : Exa Z h x D) (wi : (Cond.instantiable D n).before a0 Z = true) : Str Z h' a cs := by
  obtain ⟨t, kb, cd, N, vs, A, V, C, B, r⟩ := F
  exact ⟨t, kb, cd, N, vs, A.wr W, V.other W (Or.inl hn), C.other W (Or.inl hn), B.other W (Ne.symm (E.neArv B wi)), r⟩
theorem ty_ne {ty ty' : FieldType} {k k' : ClassId} {z z' : Int32} {vs vs' : List Value} {d d' : Value} {b : Addr} (A : Arv Z h x k ty z vs d) (B : Arv Z h b k' ty' z' vs' d') (ht : ty ≠ ty') : x ≠ b := fun e => by
  subst e
  obtain ⟨c1, ⟨p1, ⟨-, k1, q1, cm1, r1⟩, -⟩, -⟩ := A
  obtain ⟨c2, ⟨p2, ⟨-, k2, q2, cm2, r2⟩, -⟩, -⟩ := B
  cases p1.symm.trans p2
  cases q1.symm.trans q2
  have := r1.symm.trans r2
  injection this with _ e
  exact ht e
theorem Str.wrA {sl : Nat} {v : Value} {ty : FieldType} {k : ClassId} {z : Int32} {vs : List Value} {d : Value} (F : Str Z h a cs) (W : Wr h h' x sl v) (hn : a ≠ x) (B : Arv Z h x k ty z vs d) (ht : ty ≠ .byte) : Str Z h' a cs := by
  obtain ⟨t, kb, cd, N, vs, A, V, C, T, r⟩ := F
  exact ⟨t, kb, cd, N, vs, A.wr W, V.other W (Or.inl hn), C.other W (Or.inl hn), T.other W (Ne.symm (ty_ne B T ht)), r⟩
theorem Str.mk {t : Addr} {kb : ClassId} {N : Int32} (A : Exa Z h a "java/lang/String") (C : Fld Z h a "java/lang/String" "coder" "B" (.int (0 : Int32))) (V : Fld Z h a "java/lang/String" "value" "[B" (.ref t)) (K : Arv Z h t kb .byte N (cs.map fun c => Value.int (StrChars.lo8 c)) (.int 0)) (hN : N = Int32.ofNat cs.length) (hb : ∀ c ∈ cs, ¬ c < 0 ∧ ¬ (255 : Int32) < c) (hl : cs.length ≤ 4000) : Str Z h a cs :=
  ⟨t, kb, 0, N, _, A, V, C, K, Or.inl ⟨rfl, hN, rfl, fun c q => (hb c q).2⟩, fun c q => ⟨(hb c q).1, fun z => (hb c q).2 (Int32.lt_trans (by decide) z)⟩, hl⟩
end StrFacts
theorem eqPay {l : Launch} {Z : State} {a0 : Array Value} {EL : List (String × Nat)} {R : Room} {K : Cx} {ln : Nat} {h : Heap} (hw : ∀ d ∈ tables_1, d.before a0 Z = true) (hE : EW Z a0 EL) (x y : Addr) (cs ds : List Int32) {z : Int32} (Wd : Nat) (F : Str Z h x cs) (G : Str Z h y ds) (S : Sta Z h "java/lang/String" "COMPACT_STRINGS" "Z" (.int z)) (hz : ¬ z = 0) (hfr : 2 ≤ R.frames) (hlo : Wd + 28 ≤ R.locals) :
    Cb l Z EL R K (⟨"java/lang/String", "equals", "(Ljava/lang/Object;)Z"⟩ : MethodName) ln Wd 0 0 #[.ref x, .ref y] h [] (fun v h' so => ∃ b : Int32, v = some (.int b) ∧ so = [] ∧ ((b = 1 ∧ cs = ds) ∨ (b = 0 ∧ ¬ cs = ds))) := by
  have hws : ∀ d ∈ StrChars.Road.wordsEq, d.before a0 Z = true := fun d hd => hw d ((by decide +kernel : ∀ d ∈ StrChars.Road.wordsEq, d ∈ tables_1) d hd)
  obtain ⟨t, kb, cd, N, vs, A, V, C, B, q1, q2, q3⟩ := F
  obtain ⟨t', kb', cd', N', vs', A', V', C', B', r1, r2, r3⟩ := G
  refine Cb.bk (a0 := a0) (Qb := fun v h' L => ((v = some (.int 1) ∧ cs = ds) ∨ (v = some (.int 0) ∧ ¬ cs = ds)) ∧ L = [] ∧ h' = h) (fun vm0 hZ => StrChars.Road.eqW (s := K.2.2.1.setVm vm0) hZ hws (kI := 4) (hws' hw) A V C B q1 q2 q3 A' V' C' B' r1 r2 r3 S hz hfr hlo) hE ?_
  rintro v h' L ⟨q, rfl, rfl⟩
  refine ⟨?_, Keep.refl _ _, fun _ q => nomatch q⟩
  rcases q with ⟨rfl, e⟩ | ⟨rfl, e⟩
  · exact ⟨1, rfl, rfl, Or.inl ⟨rfl, e⟩⟩
  · exact ⟨0, rfl, rfl, Or.inr ⟨rfl, e⟩⟩

/-- what the law's mk spells -/
def txt (n c0 c1 c2 : Int32) : List Int32 := if n = 0 then [] else if n = 1 then [c0] else if n = 2 then [c0, c1] else [c0, c1, c2]
theorem same_iff {n m t0 t1 t2 x0 x1 x2 y0 y1 y2 : Int32} (hn : n = 0 ∨ n = 1 ∨ n = 2 ∨ n = 3) (hm : m = 0 ∨ m = 1 ∨ m = 2 ∨ m = 3) (e0 : t0 ^^^ x0 = y0) (e1 : t1 ^^^ x1 = y1) (e2 : t2 ^^^ x2 = y2) :
    txt n t0 t1 t2 = txt m y0 y1 y2 ↔ (n = m ∧ (n < 1 ∨ x0 = 0) ∧ (n < 2 ∨ x1 = 0) ∧ (n < 3 ∨ x2 = 0)) := by
  have k : ∀ {t x y : Int32}, t ^^^ x = y → (t = y ↔ x = 0) := fun {t x y} e => ⟨fun h => xor_self (h.trans e.symm), fun h => by rw [← e, h, Int32.xor_zero]⟩
  rcases hn with rfl | rfl | rfl | rfl <;> rcases hm with rfl | rfl | rfl | rfl <;> simp [txt, k e0, k e1, k e2] <;> decide
theorem opn0 : plainName "java/lang/String" = true := by first | (simp [plainName, overriddenIn]; done) | decide +kernel
theorem d3_0 : decode jdk_42_method_149_code 0 = .ok (.aload_n 0, 1) := by decide +kernel
theorem d3_1 : decode jdk_42_method_149_code 1 = .ok (.invokespecial 1, 3) := by decide +kernel
theorem ow15 {a0 : Array Value} {Z : State} (hw : ∀ d ∈ tables_1, d.before a0 Z = true) : (Jvm.Cond.methodLink "java/lang/String" (1 : Nat) ({ cls := "java/lang/Object", name := "<init>", desc := "()V" } : Jvm.MethodName)).before a0 Z = true := hw _ (List.mem_of_getElem? (i := 15) rfl)
theorem ow16 {a0 : Array Value} {Z : State} (hw : ∀ d ∈ tables_1, d.before a0 Z = true) : (Jvm.Cond.instanceMethod ({ cls := "java/lang/Object", name := "<init>", desc := "()V" } : Jvm.MethodName)).before a0 Z = true := hw _ (List.mem_of_getElem? (i := 16) rfl)
theorem ow17 {a0 : Array Value} {Z : State} (hw : ∀ d ∈ tables_1, d.before a0 Z = true) : (Jvm.Cond.code ({ cls := "java/lang/Object", name := "<init>", desc := "()V" } : Jvm.MethodName) object_method_1_code (1 : Nat) (Option.none : Option Jvm.ClassFile.FieldType)).before a0 Z = true := hw _ (List.mem_of_getElem? (i := 17) rfl)
theorem d3_4 : decode jdk_42_method_149_code 4 = .ok (.iload_n 3, 1) := by decide +kernel
theorem d3_5 : decode jdk_42_method_149_code 5 = .ok (.ifCond .ne 22, 3) := by decide +kernel
theorem d3_8 : decode jdk_42_method_149_code 8 = .ok (.aload_n 0, 1) := by decide +kernel
theorem d3_9 : decode jdk_42_method_149_code 9 = .ok (.ldc 7, 2) := by decide +kernel
theorem ow34 {a0 : Array Value} {Z : State} (hw : ∀ d ∈ tables_1, d.before a0 Z = true) : (Jvm.Cond.stringLink "java/lang/String" (7 : Nat) "").before a0 Z = true := hw _ (List.mem_of_getElem? (i := 34) rfl)
theorem d3_11 : decode jdk_42_method_149_code 11 = .ok (.getfield 9, 3) := by decide +kernel
theorem ow32 {a0 : Array Value} {Z : State} (hw : ∀ d ∈ tables_1, d.before a0 Z = true) : (Jvm.Cond.fieldLink "java/lang/String" (9 : Nat) "java/lang/String" "value" "[B").before a0 Z = true := hw _ (List.mem_of_getElem? (i := 32) rfl)
theorem d3_14 : decode jdk_42_method_149_code 14 = .ok (.putfield 9, 3) := by decide +kernel
theorem ow33 {a0 : Array Value} {Z : State} (hw : ∀ d ∈ tables_1, d.before a0 Z = true) : (Jvm.Cond.laysFinal "java/lang/String" "java/lang/String" "value" "[B").before a0 Z = true := hw _ (List.mem_of_getElem? (i := 33) rfl)
theorem ow6 {a0 : Array Value} {Z : State} (hw : ∀ d ∈ tables_1, d.before a0 Z = true) : (Jvm.Cond.instantiable "java/lang/String" (4 : Nat)).before a0 Z = true := hw _ (List.mem_of_getElem? (i := 6) rfl)
theorem d3_17 : decode jdk_42_method_149_code 17 = .ok (.aload_n 0, 1) := by decide +kernel
theorem d3_18 : decode jdk_42_method_149_code 18 = .ok (.ldc 7, 2) := by decide +kernel
theorem d3_20 : decode jdk_42_method_149_code 20 = .ok (.getfield 15, 3) := by decide +kernel
theorem ow30 {a0 : Array Value} {Z : State} (hw : ∀ d ∈ tables_1, d.before a0 Z = true) : (Jvm.Cond.fieldLink "java/lang/String" (15 : Nat) "java/lang/String" "coder" "B").before a0 Z = true := hw _ (List.mem_of_getElem? (i := 30) rfl)
theorem d3_23 : decode jdk_42_method_149_code 23 = .ok (.putfield 15, 3) := by decide +kernel
theorem ow31 {a0 : Array Value} {Z : State} (hw : ∀ d ∈ tables_1, d.before a0 Z = true) : (Jvm.Cond.laysFinal "java/lang/String" "java/lang/String" "coder" "B").before a0 Z = true := hw _ (List.mem_of_getElem? (i := 31) rfl)
theorem d3_26 : decode jdk_42_method_149_code 26 = .ok (.return_, 1) := by decide +kernel
theorem oef_orm_new4E (m : MethodId) (a : Addr) (b : Addr)  : (entryFrame m #[(.ref a), (.ref b), (.int (0 : Int32)), (.int (0 : Int32)), .null] 6).locals = #[.val (.ref a), .val (.ref b), .val (.int (0 : Int32)), .val (.int (0 : Int32)), .val .null, .unset] := by first | (simp [entryFrame, argsToLocals, Value.category]; done) | rfl
set_option maxRecDepth 65536 in
set_option maxHeartbeats 40000000 in
theorem orm_new4E (l : Launch) (Z : State) (a0 : Array Value) (hw : ∀ d ∈ tables_1, d.before a0 Z = true) (hE : EW Z a0 consts_1) (a : Addr) (b : Addr) (h : Heap) (hO : Old Z Z.heap.size h) (qE : Exa Z h a "java/lang/String") (qV : Fld Z h a "java/lang/String" "value" "[B" .null) (qC : Fld Z h a "java/lang/String" "coder" "B" (.int (0 : Int32))) (ge_a : Z.heap.size ≤ a) :
    Ct l Z consts_1 (⟨"java/lang/String", "<init>", "([CIILjava/lang/Void;)V"⟩ : MethodName) jdk_42_method_149_code 6 (Option.none : Option Jvm.ClassFile.FieldType) ⟨1, 4, 8, 15⟩ #[(.ref a), (.ref b), (.int (0 : Int32)), (.int (0 : Int32)), .null] h [a] (fun rv' hp' so' => ∃ t : Addr, ∃ kb : ClassId, rv' = none ∧ so' = [] ∧ Exa Z hp' a "java/lang/String" ∧ Fld Z hp' a "java/lang/String" "coder" "B" (.int (0 : Int32)) ∧ Fld Z hp' a "java/lang/String" "value" "[B" (.ref t) ∧ Arv Z hp' t kb .byte (0 : Int32) [] (.int 0)) := by
  refine Ct.mk "java/lang/String" "<init>" rfl rfl (a0 := a0) (plainFor_of_name opn0) hO hE (fun x q => by simp at q; subst q; exact ge_a) ?_
  intro K T W
  rw [oef_orm_new4E]
  refine gAloadN W d3_0 rfl rfl rfl ?_
  refine wInitO W d3_1 (ow15 hw) (ow16 hw) (ow17 hw) rfl (by decide) 0 (Nat.le_of_eq rfl) (by decide) rfl fun T1 W2 => ?_
  refine gIloadN W2 d3_4 rfl rfl ?_
  refine gIfNo W2 d3_5 ((if0 _ _).trans (teq rfl).2) rfl ?_
  refine gAloadN W2 d3_8 rfl rfl rfl ?_
  refine wLdcS (vs := []) (z := 0) (n := 0) W2 d3_9 (ow34 hw) (owS hw) hE (by decide) (by decide) (by decide) (by decide) (by decide) (by decide) (by decide) (by decide) rfl fun T3 h5 a6 t7 k8 W4 E9 A10 f11 f12 f13 ne14 => ?_
  refine wGetF W4 d3_11 (ow32 hw) Via.refl f12 rfl fun T15 W16 => ?_
  have f17 := qV.ext E9
  have f18 := qE.ext E9
  refine wPutF (ty := .array .byte) W16 d3_14 (ow32 hw) Via.refl (by simp) f17 f18 (Or.inr ⟨(ow33 hw), rfl, rfl⟩) (ow6 hw) (by decide) rfl rfl rfl fun T19 h21 W20 wr22 => ?_
  have f23 := Fld.same wr22 f17
  refine gAloadN W20 d3_17 rfl rfl rfl ?_
  refine wLdcS (vs := []) (z := 0) (n := 0) W20 d3_18 (ow34 hw) (owS hw) hE (by decide) (by decide) (by decide) (by decide) (by decide) (by decide) (by decide) (by decide) rfl fun T24 h26 a27 t28 k29 W25 E30 A31 f32 f33 f34 ne35 => ?_
  refine wGetF W25 d3_20 (ow30 hw) Via.refl f32 rfl fun T36 W37 => ?_
  have f38 := qC.ext E9
  have f39 := f38.other wr22 (Or.inr (slot_ne (t := .byte) (t' := .array .byte) (Or.inr (ow31 hw)) (Or.inr (ow33 hw)) (by decide) (by decide) (by decide)))
  have f40 := f39.ext E30
  have f41 := f18.wr wr22
  have f42 := f41.ext E30
  refine wPutF (ty := .byte) W37 d3_23 (ow30 hw) Via.refl (by simp) f40 f42 (Or.inr ⟨(ow31 hw), rfl, rfl⟩) (ow6 hw) (by decide) rfl (by decide) rfl fun T43 h45 W44 wr46 => ?_
  have f47 := Fld.same wr46 f40
  have f48 := f42.wr wr46
  have f49 := f23.ext E30
  have f50 := f49.other wr46 (Or.inr (slot_ne (t := .array .byte) (t' := .byte) (Or.inr (ow33 hw)) (Or.inr (ow31 hw)) (by decide) (by decide) (by decide)))
  have f51 := f13.other wr22 (Ne.symm (ne14 a (by simp)).2)
  have f52 := f51.ext E30
  have f53 := f52.other wr46 (Ne.symm (ne14 a (by simp)).2)
  exact wRet0 (so := []) W44 d3_26 (by decide) (by decide) (fun _ q => nomatch q) ⟨t7, k8, rfl, rfl, f48, f47, f50, f53⟩
theorem d2_0 : decode jdk_42_method_3_code 0 = .ok (.aload_n 0, 1) := by decide +kernel
theorem d2_1 : decode jdk_42_method_3_code 1 = .ok (.aload_n 1, 1) := by decide +kernel
theorem d2_2 : decode jdk_42_method_3_code 2 = .ok (.iconst 0, 1) := by decide +kernel
theorem d2_3 : decode jdk_42_method_3_code 3 = .ok (.aload_n 1, 1) := by decide +kernel
theorem d2_4 : decode jdk_42_method_3_code 4 = .ok (.arraylength, 1) := by decide +kernel
theorem d2_5 : decode jdk_42_method_3_code 5 = .ok (.aconst_null, 1) := by decide +kernel
theorem d2_6 : decode jdk_42_method_3_code 6 = .ok (.invokespecial 27, 3) := by decide +kernel
theorem ow11 {a0 : Array Value} {Z : State} (hw : ∀ d ∈ tables_1, d.before a0 Z = true) : (Jvm.Cond.methodLink "java/lang/String" (27 : Nat) ({ cls := "java/lang/String", name := "<init>", desc := "([CIILjava/lang/Void;)V" } : Jvm.MethodName)).before a0 Z = true := hw _ (List.mem_of_getElem? (i := 11) rfl)
theorem ow7 {a0 : Array Value} {Z : State} (hw : ∀ d ∈ tables_1, d.before a0 Z = true) : (Jvm.Cond.initialized "java/lang/String").before a0 Z = true := hw _ (List.mem_of_getElem? (i := 7) rfl)
theorem ow14 {a0 : Array Value} {Z : State} (hw : ∀ d ∈ tables_1, d.before a0 Z = true) : (Jvm.Cond.code ({ cls := "java/lang/String", name := "<init>", desc := "([CIILjava/lang/Void;)V" } : Jvm.MethodName) jdk_42_method_149_code (6 : Nat) (Option.none : Option Jvm.ClassFile.FieldType)).before a0 Z = true := hw _ (List.mem_of_getElem? (i := 14) rfl)
theorem opd0 : parseMethodDescriptor "([CIILjava/lang/Void;)V" = some ⟨[.array .char, .int, .int, .object "java/lang/Void"], none⟩ := by decide +kernel
theorem ow12 {a0 : Array Value} {Z : State} (hw : ∀ d ∈ tables_1, d.before a0 Z = true) : (Jvm.Cond.instanceMethod ({ cls := "java/lang/String", name := "<init>", desc := "([CIILjava/lang/Void;)V" } : Jvm.MethodName)).before a0 Z = true := hw _ (List.mem_of_getElem? (i := 12) rfl)
theorem d2_9 : decode jdk_42_method_3_code 9 = .ok (.return_, 1) := by decide +kernel
theorem oef_orm_new1E (m : MethodId) (a : Addr) (b : Addr)  : (entryFrame m #[(.ref a), (.ref b)] 2).locals = #[.val (.ref a), .val (.ref b)] := by first | (simp [entryFrame, argsToLocals, Value.category]; done) | rfl
set_option maxRecDepth 65536 in
set_option maxHeartbeats 40000000 in
theorem orm_new1E (l : Launch) (Z : State) (a0 : Array Value) (hw : ∀ d ∈ tables_1, d.before a0 Z = true) (hE : EW Z a0 consts_1) (a : Addr) (b : Addr) (kC : ClassId) (h : Heap) (hO : Old Z Z.heap.size h) (qE : Exa Z h a "java/lang/String") (qV : Fld Z h a "java/lang/String" "value" "[B" .null) (qC : Fld Z h a "java/lang/String" "coder" "B" (.int (0 : Int32))) (qA : Arv Z h b kC .char (0 : Int32) [] (.int 0)) (ge_a : Z.heap.size ≤ a) :
    Ct l Z consts_1 (⟨"java/lang/String", "<init>", "([C)V"⟩ : MethodName) jdk_42_method_3_code 2 (Option.none : Option Jvm.ClassFile.FieldType) ⟨2, 4, 8, 32⟩ #[(.ref a), (.ref b)] h [a] (fun rv' hp' so' => ∃ t : Addr, ∃ kb : ClassId, rv' = none ∧ so' = [] ∧ Exa Z hp' a "java/lang/String" ∧ Fld Z hp' a "java/lang/String" "coder" "B" (.int (0 : Int32)) ∧ Fld Z hp' a "java/lang/String" "value" "[B" (.ref t) ∧ Arv Z hp' t kb .byte (0 : Int32) [] (.int 0)) := by
  refine Ct.mk "java/lang/String" "<init>" rfl rfl (a0 := a0) (plainFor_of_name opn0) hO hE (fun x q => by simp at q; subst q; exact ge_a) ?_
  intro K T W
  rw [oef_orm_new1E]
  refine gAloadN W d2_0 rfl rfl rfl ?_
  refine gAloadN W d2_1 rfl rfl rfl ?_
  refine gIconst (z := (0 : Int32)) W d2_2 rfl rfl ?_
  refine gAloadN W d2_3 rfl rfl rfl ?_
  refine wLen W d2_4 qA rfl ?_
  refine gAconstNull W d2_5 rfl ?_
  refine wSpecial (y := (⟨"java/lang/String", "<init>", "([CIILjava/lang/Void;)V"⟩ : MethodName)) (Wd := 0) (a := a) (argsL := [(.ref b), (.int (0 : Int32)), (.int (0 : Int32)), .null]) (rest := []) W d2_6 rfl (ow11 hw) (ow12 hw) (ow14 hw) (by decide) (Cb.ct (orm_new4E l Z a0 hw hE (a) (b) h W.old qE qV qC ge_a) (ow14 hw) (ow7 hw) hE (by decide) (by decide)) (by simp) rfl (lenOf opd0 rfl) rfl (Nat.le_of_eq rfl) (by decide) (by decide) rfl fun v58 so59 T54 h56 W55 kp57 sp60 q61 => ?_
  obtain ⟨t62, kb63, rfl, rfl, f64, f65, f66, f67⟩ := q61
  show Go K _ T54 9 #[.val (.ref a), .val (.ref b)] []
  exact wRet0 (so := []) W55 d2_9 (by decide) (by decide) (fun _ q => nomatch q) ⟨t62, kb63, rfl, rfl, f64, f65, f66, f67⟩
theorem opn1 : plainName "java/lang/StringLatin1" = true := by first | (simp [plainName, overriddenIn]; done) | decide +kernel
theorem d9_0 : decode jdk_43_method_3_code 0 = .ok (.iload_n 0, 1) := by decide +kernel
theorem d9_1 : decode jdk_43_method_3_code 1 = .ok (.sipush 255, 3) := by decide +kernel
theorem d9_4 : decode jdk_43_method_3_code 4 = .ok (.if_icmp .gt 7, 3) := by decide +kernel
theorem d9_7 : decode jdk_43_method_3_code 7 = .ok (.iconst 1, 1) := by decide +kernel
theorem d9_8 : decode jdk_43_method_3_code 8 = .ok (.goto 4, 3) := by decide +kernel
theorem d9_12 : decode jdk_43_method_3_code 12 = .ok (.ireturn, 1) := by decide +kernel
theorem oef_orm_canEnc (m : MethodId) (x : Int32)  : (entryFrame m #[(.int x)] 1).locals = #[.val (.int x)] := by first | (simp [entryFrame, argsToLocals, Value.category]; done) | rfl
set_option maxRecDepth 65536 in
set_option maxHeartbeats 40000000 in
theorem orm_canEnc (l : Launch) (Z : State) (a0 : Array Value) (hw : ∀ d ∈ tables_1, d.before a0 Z = true) (hE : EW Z a0 consts_1) (x : Int32) (h : Heap) (hO : Old Z Z.heap.size h) (hx : (¬ 255 < x))  :
    Ct l Z consts_1 (⟨"java/lang/StringLatin1", "canEncode", "(C)Z"⟩ : MethodName) jdk_43_method_3_code 1 (Option.some Jvm.ClassFile.FieldType.boolean) ⟨0, 0, 0, 0⟩ #[(.int x)] h [] (fun rv' hp' so' => rv' = some (.int (1 : Int32)) ∧ so' = []) := by
  refine Ct.mk "java/lang/StringLatin1" "canEncode" rfl rfl (a0 := a0) (plainFor_of_name opn1) hO hE (fun x q => nomatch q) ?_
  intro K T W
  rw [oef_orm_canEnc]
  refine gIloadN W d9_0 rfl rfl ?_
  refine gSipush (z := (255 : Int32)) W d9_1 rfl rfl ?_
  refine gIcmpNo W d9_4 (flt hx).2.2.1 rfl ?_
  refine gIconst (z := (1 : Int32)) W d9_7 rfl rfl ?_
  refine gGoto (pc' := 12) W d9_8 (by decide) rfl ?_
  exact wRetI (so := []) (t := .boolean) W d9_12 (by simp) rfl (by decide) (by decide) (fun _ q => nomatch q) ⟨rfl, rfl⟩
theorem d10_0 : decode jdk_43_method_46_code 0 = .ok (.iconst 1, 1) := by decide +kernel
theorem d10_1 : decode jdk_43_method_46_code 1 = .ok (.newarray .byte, 2) := by decide +kernel
theorem ow23 {a0 : Array Value} {Z : State} (hw : ∀ d ∈ tables_1, d.before a0 Z = true) : (Jvm.Cond.arrayClass Jvm.ClassFile.FieldType.byte).before a0 Z = true := hw _ (List.mem_of_getElem? (i := 23) rfl)
theorem d10_3 : decode jdk_43_method_46_code 3 = .ok (.dup, 1) := by decide +kernel
theorem d10_4 : decode jdk_43_method_46_code 4 = .ok (.iconst 0, 1) := by decide +kernel
theorem d10_5 : decode jdk_43_method_46_code 5 = .ok (.iload_n 0, 1) := by decide +kernel
theorem d10_6 : decode jdk_43_method_46_code 6 = .ok (.i2b, 1) := by decide +kernel
theorem d10_7 : decode jdk_43_method_46_code 7 = .ok (.bastore, 1) := by decide +kernel
theorem d10_8 : decode jdk_43_method_46_code 8 = .ok (.areturn, 1) := by decide +kernel
theorem oef_orm_toB (m : MethodId) (x : Int32)  : (entryFrame m #[(.int x)] 1).locals = #[.val (.int x)] := by first | (simp [entryFrame, argsToLocals, Value.category]; done) | rfl
set_option maxRecDepth 65536 in
set_option maxHeartbeats 40000000 in
theorem orm_toB (l : Launch) (Z : State) (a0 : Array Value) (hw : ∀ d ∈ tables_1, d.before a0 Z = true) (hE : EW Z a0 consts_1) (x : Int32) (h : Heap) (hO : Old Z Z.heap.size h)   :
    Ct l Z consts_1 (⟨"java/lang/StringLatin1", "toBytes", "(C)[B"⟩ : MethodName) jdk_43_method_46_code 1 (Option.some (Jvm.ClassFile.FieldType.array Jvm.ClassFile.FieldType.byte)) ⟨0, 1, 1, 0⟩ #[(.int x)] h [] (fun rv' hp' so' => ∃ r : Addr, rv' = some (.ref r) ∧ so' = [] ∧ (h.size ≤ r)) := by
  refine Ct.mk "java/lang/StringLatin1" "toBytes" rfl rfl (a0 := a0) (plainFor_of_name opn1) hO hE (fun x q => nomatch q) ?_
  intro K T W
  rw [oef_orm_toB]
  refine gIconst (z := (1 : Int32)) W d10_0 rfl rfl ?_
  refine wNewP (cap := 1) W d10_1 (ow23 hw) (by decide) (by decide) (by decide) (by decide) (by decide) rfl fun T68 h70 a71 k75 W69 E72 g73 A74 => ?_
  have f76 : Arv Z h70 a71 k75 .byte (1 : Int32) [(.int (0 : Int32))] (.int 0) := A74 1
  refine gDup W69 d10_3 rfl rfl ?_
  refine gIconst (z := (0 : Int32)) W69 d10_4 rfl rfl ?_
  refine gIloadN W69 d10_5 rfl rfl ?_
  obtain ⟨v77, e78⟩ : ∃ v : Int32, x.toInt8.toInt32 = v := ⟨_, rfl⟩
  refine gI2B W69 d10_6 e78 rfl ?_
  obtain ⟨v79, e80⟩ : ∃ v : Int32, v77.toInt8.toInt32 = v := ⟨_, rfl⟩
  refine wStB W69 d10_7 (by simp) f76 (by decide) e80 0 (by decide) (show 0 < 1 from by decide) rfl fun T81 h83 W82 wr84 A85 => ?_
  have f86 : Arv Z h83 a71 k75 .byte (1 : Int32) [(.int v79)] (.int 0) := A85
  exact wRetA (so := []) (t := .array .byte) W82 d10_8 rfl rfl rfl (by decide) (by decide) (fun _ q => nomatch q) ⟨a71, rfl, rfl, (Nat.le_of_eq g73.symm)⟩
theorem d11_0 : decode jdk_42_method_151_code 0 = .ok (.aload_n 0, 1) := by decide +kernel
theorem d11_1 : decode jdk_42_method_151_code 1 = .ok (.invokespecial 1, 3) := by decide +kernel
theorem d11_4 : decode jdk_42_method_151_code 4 = .ok (.aload_n 0, 1) := by decide +kernel
theorem d11_5 : decode jdk_42_method_151_code 5 = .ok (.aload_n 1, 1) := by decide +kernel
theorem d11_6 : decode jdk_42_method_151_code 6 = .ok (.putfield 9, 3) := by decide +kernel
theorem d11_9 : decode jdk_42_method_151_code 9 = .ok (.aload_n 0, 1) := by decide +kernel
theorem d11_10 : decode jdk_42_method_151_code 10 = .ok (.iload_n 2, 1) := by decide +kernel
theorem d11_11 : decode jdk_42_method_151_code 11 = .ok (.putfield 15, 3) := by decide +kernel
theorem d11_14 : decode jdk_42_method_151_code 14 = .ok (.return_, 1) := by decide +kernel
theorem oef_orm_initBB (m : MethodId) (a : Addr) (b : Addr)  : (entryFrame m #[(.ref a), (.ref b), (.int (0 : Int32))] 3).locals = #[.val (.ref a), .val (.ref b), .val (.int (0 : Int32))] := by first | (simp [entryFrame, argsToLocals, Value.category]; done) | rfl
set_option maxRecDepth 65536 in
set_option maxHeartbeats 40000000 in
theorem orm_initBB (l : Launch) (Z : State) (a0 : Array Value) (hw : ∀ d ∈ tables_1, d.before a0 Z = true) (hE : EW Z a0 consts_1) (a : Addr) (b : Addr) (h : Heap) (hO : Old Z Z.heap.size h) (q0 : Exa Z h a "java/lang/String") (q1 : Fld Z h a "java/lang/String" "value" "[B" .null) (q2 : Fld Z h a "java/lang/String" "coder" "B" (.int (0 : Int32))) (ge_a : Z.heap.size ≤ a) :
    Ct l Z consts_1 (⟨"java/lang/String", "<init>", "([BB)V"⟩ : MethodName) jdk_42_method_151_code 3 (Option.none : Option Jvm.ClassFile.FieldType) ⟨1, 0, 0, 12⟩ #[(.ref a), (.ref b), (.int (0 : Int32))] h [a] (fun rv' hp' so' => rv' = none ∧ so' = [] ∧ Exa Z hp' a "java/lang/String" ∧ Fld Z hp' a "java/lang/String" "coder" "B" (.int (0 : Int32)) ∧ Fld Z hp' a "java/lang/String" "value" "[B" (.ref b)) := by
  refine Ct.mk "java/lang/String" "<init>" rfl rfl (a0 := a0) (plainFor_of_name opn0) hO hE (fun x q => by simp at q; subst q; exact ge_a) ?_
  intro K T W
  rw [oef_orm_initBB]
  refine gAloadN W d11_0 rfl rfl rfl ?_
  refine wInitO W d11_1 (ow15 hw) (ow16 hw) (ow17 hw) rfl (by decide) 0 (Nat.le_of_eq rfl) (by decide) rfl fun T87 W88 => ?_
  refine gAloadN W88 d11_4 rfl rfl rfl ?_
  refine gAloadN W88 d11_5 rfl rfl rfl ?_
  refine wPutF (ty := .array .byte) W88 d11_6 (ow32 hw) Via.refl (by simp) q1 q0 (Or.inr ⟨(ow33 hw), rfl, rfl⟩) (ow6 hw) (by decide) rfl rfl rfl fun T89 h91 W90 wr92 => ?_
  have f93 := Fld.same wr92 q1
  refine gAloadN W90 d11_9 rfl rfl rfl ?_
  refine gIloadN W90 d11_10 rfl rfl ?_
  have f94 := q2.other wr92 (Or.inr (slot_ne (t := .byte) (t' := .array .byte) (Or.inr (ow31 hw)) (Or.inr (ow33 hw)) (by decide) (by decide) (by decide)))
  have f95 := q0.wr wr92
  refine wPutF (ty := .byte) W90 d11_11 (ow30 hw) Via.refl (by simp) f94 f95 (Or.inr ⟨(ow31 hw), rfl, rfl⟩) (ow6 hw) (by decide) rfl (by decide) rfl fun T96 h98 W97 wr99 => ?_
  have f100 := Fld.same wr99 f94
  have f101 := f95.wr wr99
  have f102 := f93.other wr99 (Or.inr (slot_ne (t := .array .byte) (t' := .byte) (Or.inr (ow33 hw)) (Or.inr (ow31 hw)) (by decide) (by decide) (by decide)))
  exact wRet0 (so := []) W97 d11_14 (by decide) (by decide) (fun _ q => nomatch q) ⟨rfl, rfl, f101, f100, f102⟩
theorem d8_0 : decode jdk_42_method_139_code 0 = .ok (.getstatic 38, 3) := by decide +kernel
theorem ow18 {a0 : Array Value} {Z : State} (hw : ∀ d ∈ tables_1, d.before a0 Z = true) : (Jvm.Cond.fieldLink "java/lang/String" (38 : Nat) "java/lang/String" "COMPACT_STRINGS" "Z").before a0 Z = true := hw _ (List.mem_of_getElem? (i := 18) rfl)
theorem d8_3 : decode jdk_42_method_139_code 3 = .ok (.ifCond .eq 23, 3) := by decide +kernel
theorem d8_6 : decode jdk_42_method_139_code 6 = .ok (.iload_n 0, 1) := by decide +kernel
theorem d8_7 : decode jdk_42_method_139_code 7 = .ok (.invokestatic 1015, 3) := by decide +kernel
theorem ow40 {a0 : Array Value} {Z : State} (hw : ∀ d ∈ tables_1, d.before a0 Z = true) : (Jvm.Cond.methodLink "java/lang/String" (1015 : Nat) ({ cls := "java/lang/StringLatin1", name := "canEncode", desc := "(C)Z" } : Jvm.MethodName)).before a0 Z = true := hw _ (List.mem_of_getElem? (i := 40) rfl)
theorem ow42 {a0 : Array Value} {Z : State} (hw : ∀ d ∈ tables_1, d.before a0 Z = true) : (Jvm.Cond.initialized "java/lang/StringLatin1").before a0 Z = true := hw _ (List.mem_of_getElem? (i := 42) rfl)
theorem ow43 {a0 : Array Value} {Z : State} (hw : ∀ d ∈ tables_1, d.before a0 Z = true) : (Jvm.Cond.code ({ cls := "java/lang/StringLatin1", name := "canEncode", desc := "(C)Z" } : Jvm.MethodName) jdk_43_method_3_code (1 : Nat) (Option.some Jvm.ClassFile.FieldType.boolean)).before a0 Z = true := hw _ (List.mem_of_getElem? (i := 43) rfl)
theorem opd1 : parseMethodDescriptor "(C)Z" = some ⟨[.char], some (.boolean)⟩ := by decide +kernel
theorem ow41 {a0 : Array Value} {Z : State} (hw : ∀ d ∈ tables_1, d.before a0 Z = true) : (Jvm.Cond.static ({ cls := "java/lang/StringLatin1", name := "canEncode", desc := "(C)Z" } : Jvm.MethodName)).before a0 Z = true := hw _ (List.mem_of_getElem? (i := 41) rfl)
theorem d8_10 : decode jdk_42_method_139_code 10 = .ok (.ifCond .eq 16, 3) := by decide +kernel
theorem d8_13 : decode jdk_42_method_139_code 13 = .ok (.new 10, 3) := by decide +kernel
theorem ow44 {a0 : Array Value} {Z : State} (hw : ∀ d ∈ tables_1, d.before a0 Z = true) : (Jvm.Cond.classLink "java/lang/String" (10 : Nat) "java/lang/String").before a0 Z = true := hw _ (List.mem_of_getElem? (i := 44) rfl)
theorem d8_16 : decode jdk_42_method_139_code 16 = .ok (.dup, 1) := by decide +kernel
theorem d8_17 : decode jdk_42_method_139_code 17 = .ok (.iload_n 0, 1) := by decide +kernel
theorem d8_18 : decode jdk_42_method_139_code 18 = .ok (.invokestatic 1018, 3) := by decide +kernel
theorem ow45 {a0 : Array Value} {Z : State} (hw : ∀ d ∈ tables_1, d.before a0 Z = true) : (Jvm.Cond.methodLink "java/lang/String" (1018 : Nat) ({ cls := "java/lang/StringLatin1", name := "toBytes", desc := "(C)[B" } : Jvm.MethodName)).before a0 Z = true := hw _ (List.mem_of_getElem? (i := 45) rfl)
theorem ow47 {a0 : Array Value} {Z : State} (hw : ∀ d ∈ tables_1, d.before a0 Z = true) : (Jvm.Cond.code ({ cls := "java/lang/StringLatin1", name := "toBytes", desc := "(C)[B" } : Jvm.MethodName) jdk_43_method_46_code (1 : Nat) (Option.some (Jvm.ClassFile.FieldType.array Jvm.ClassFile.FieldType.byte))).before a0 Z = true := hw _ (List.mem_of_getElem? (i := 47) rfl)
theorem opd2 : parseMethodDescriptor "(C)[B" = some ⟨[.char], some (.array .byte)⟩ := by decide +kernel
theorem ow46 {a0 : Array Value} {Z : State} (hw : ∀ d ∈ tables_1, d.before a0 Z = true) : (Jvm.Cond.static ({ cls := "java/lang/StringLatin1", name := "toBytes", desc := "(C)[B" } : Jvm.MethodName)).before a0 Z = true := hw _ (List.mem_of_getElem? (i := 46) rfl)
theorem d8_21 : decode jdk_42_method_139_code 21 = .ok (.iconst 0, 1) := by decide +kernel
theorem d8_22 : decode jdk_42_method_139_code 22 = .ok (.invokespecial 209, 3) := by decide +kernel
theorem ow48 {a0 : Array Value} {Z : State} (hw : ∀ d ∈ tables_1, d.before a0 Z = true) : (Jvm.Cond.methodLink "java/lang/String" (209 : Nat) ({ cls := "java/lang/String", name := "<init>", desc := "([BB)V" } : Jvm.MethodName)).before a0 Z = true := hw _ (List.mem_of_getElem? (i := 48) rfl)
theorem ow50 {a0 : Array Value} {Z : State} (hw : ∀ d ∈ tables_1, d.before a0 Z = true) : (Jvm.Cond.code ({ cls := "java/lang/String", name := "<init>", desc := "([BB)V" } : Jvm.MethodName) jdk_42_method_151_code (3 : Nat) (Option.none : Option Jvm.ClassFile.FieldType)).before a0 Z = true := hw _ (List.mem_of_getElem? (i := 50) rfl)
theorem opd3 : parseMethodDescriptor "([BB)V" = some ⟨[.array .byte, .byte], none⟩ := by decide +kernel
theorem ow49 {a0 : Array Value} {Z : State} (hw : ∀ d ∈ tables_1, d.before a0 Z = true) : (Jvm.Cond.instanceMethod ({ cls := "java/lang/String", name := "<init>", desc := "([BB)V" } : Jvm.MethodName)).before a0 Z = true := hw _ (List.mem_of_getElem? (i := 49) rfl)
theorem d8_25 : decode jdk_42_method_139_code 25 = .ok (.areturn, 1) := by decide +kernel
theorem oef_orm_valueOf (m : MethodId) (x : Int32)  : (entryFrame m #[(.int x)] 1).locals = #[.val (.int x)] := by first | (simp [entryFrame, argsToLocals, Value.category]; done) | rfl
set_option maxRecDepth 65536 in
set_option maxHeartbeats 40000000 in
theorem orm_valueOf (l : Launch) (Z : State) (a0 : Array Value) (hw : ∀ d ∈ tables_1, d.before a0 Z = true) (hE : EW Z a0 consts_1) (x : Int32) (z : Int32) (h : Heap) (hO : Old Z Z.heap.size h) (hx : (¬ 255 < x)) (SC : (Sta Z Z.heap "java/lang/String" "COMPACT_STRINGS" "Z" (.int z))) (hz : (¬ z = 0))  :
    Ct l Z consts_1 (⟨"java/lang/String", "valueOf", "(C)Ljava/lang/String;"⟩ : MethodName) jdk_42_method_139_code 1 (Option.some (Jvm.ClassFile.FieldType.object "java/lang/String")) ⟨2, 2, 5, 40⟩ #[(.int x)] h [] (fun rv' hp' so' => ∃ r : Addr, rv' = some (.ref r) ∧ so' = [] ∧ (h.size ≤ r) ∧ Exa Z hp' r "java/lang/String") := by
  refine Ct.mk "java/lang/String" "valueOf" rfl rfl (a0 := a0) (plainFor_of_name opn0) hO hE (fun x q => nomatch q) ?_
  intro K T W
  rw [oef_orm_valueOf]
  refine wGetS W d8_0 (ow18 hw) Via.refl SC rfl fun T103 W104 => ?_
  refine gIfNo W104 d8_3 ((if0 _ _).trans (feq hz).1) rfl ?_
  refine gIloadN W104 d8_6 rfl rfl ?_
  refine wStatic (y := (⟨"java/lang/StringLatin1", "canEncode", "(C)Z"⟩ : MethodName)) (Wd := 0) (argsL := [(.int x)]) (rest := []) W104 d8_7 (ow40 hw) (ow41 hw) (ow42 hw) (ow43 hw) (by decide) (Cb.ct (orm_canEnc l Z a0 hw hE (x) h W104.old hx ) (ow43 hw) (ow42 hw) hE (by decide) (by decide)) (by simp) rfl (lenOf opd1 rfl) rfl (Nat.le_of_eq rfl) (by decide) (by decide) rfl fun v109 so110 T105 h107 W106 kp108 sp111 q112 => ?_
  obtain ⟨rfl, rfl⟩ := q112
  show Go K _ T105 10 #[.val (.int x)] [(.int (1 : Int32))]
  refine gIfNo W106 d8_10 ((if0 _ _).trans (feq (by decide)).1) rfl ?_
  refine wNewO W106 d8_13 (ow44 hw) (ow6 hw) (ow7 hw) (by decide) (by decide) rfl fun T113 h115 a116 W114 E117 g118 A119 D120  => ?_
  have f121 : Fld Z h115 a116 "java/lang/String" "value" "[B" .null := D120 (Or.inr (ow33 hw)) (ty := .array .byte) (by decide)
  have f122 : Fld Z h115 a116 "java/lang/String" "coder" "B" (.int (0 : Int32)) := D120 (Or.inr (ow31 hw)) (ty := .byte) (by decide)
  refine gDup W114 d8_16 rfl rfl ?_
  refine gIloadN W114 d8_17 rfl rfl ?_
  refine wStatic (y := (⟨"java/lang/StringLatin1", "toBytes", "(C)[B"⟩ : MethodName)) (Wd := 2) (argsL := [(.int x)]) (rest := [(.ref a116), (.ref a116)]) W114 d8_18 (ow45 hw) (ow46 hw) (ow42 hw) (ow47 hw) (by decide) (Cb.ct (orm_toB l Z a0 hw hE (x) h115 W114.old  ) (ow47 hw) (ow42 hw) hE (by decide) (by decide)) (by simp) rfl (lenOf opd2 rfl) rfl (Nat.le_of_eq rfl) (by decide) (by decide) rfl fun v127 so128 T123 h125 W124 kp126 sp129 q130 => ?_
  obtain ⟨r131, rfl, rfl, f132⟩ := q130
  show Go K _ T123 21 #[.val (.int x)] [(.ref r131), (.ref a116), (.ref a116)]
  refine gIconst (z := (0 : Int32)) W124 d8_21 rfl rfl ?_
  have f133 := A119.keep kp126
  have f134 := f121.keep kp126 nin0
  have f135 := f122.keep kp126 nin0
  refine wSpecial (y := (⟨"java/lang/String", "<init>", "([BB)V"⟩ : MethodName)) (Wd := 1) (a := a116) (argsL := [(.ref r131), (.int (0 : Int32))]) (rest := [(.ref a116)]) W124 d8_22 rfl (ow48 hw) (ow49 hw) (ow50 hw) (by decide) (Cb.ct (orm_initBB l Z a0 hw hE (a116) (r131) h125 W124.old f133 f134 f135 (Nat.le_trans W106.old.2.1 (Nat.le_of_eq g118.symm))) (ow50 hw) (ow7 hw) hE (by decide) (by decide)) (by simp) rfl (lenOf opd3 rfl) rfl (Nat.le_of_eq rfl) (by decide) (by decide) rfl fun v140 so141 T136 h138 W137 kp139 sp142 q143 => ?_
  obtain ⟨rfl, rfl, f144, f145, f146⟩ := q143
  show Go K _ T136 25 #[.val (.int x)] [(.ref a116)]
  exact wRetA (so := []) (t := .object "java/lang/String") W137 d8_25 rfl rfl rfl (by decide) (by decide) (fun _ q => nomatch q) ⟨a116, rfl, rfl, (Nat.le_trans W106.grow (Nat.le_of_eq g118.symm)), f144⟩
theorem opn2 : plainName "com/example/tidewire/tidewire/registration/RegistrationIsReplacedPinLaw" = true := by first | (simp [plainName, overriddenIn]; done) | decide +kernel
theorem d1_0 : decode method_2_code 0 = .ok (.iload_n 0, 1) := by decide +kernel
theorem d1_1 : decode method_2_code 1 = .ok (.ifCond .ne 14, 3) := by decide +kernel
theorem d1_4 : decode method_2_code 4 = .ok (.new 7, 3) := by decide +kernel
theorem ow5 {a0 : Array Value} {Z : State} (hw : ∀ d ∈ tables_1, d.before a0 Z = true) : (Jvm.Cond.classLink "com/example/tidewire/tidewire/registration/RegistrationIsReplacedPinLaw" (7 : Nat) "java/lang/String").before a0 Z = true := hw _ (List.mem_of_getElem? (i := 5) rfl)
theorem d1_7 : decode method_2_code 7 = .ok (.dup, 1) := by decide +kernel
theorem d1_8 : decode method_2_code 8 = .ok (.iconst 0, 1) := by decide +kernel
theorem d1_9 : decode method_2_code 9 = .ok (.newarray .char, 2) := by decide +kernel
theorem ow4 {a0 : Array Value} {Z : State} (hw : ∀ d ∈ tables_1, d.before a0 Z = true) : (Jvm.Cond.arrayClass Jvm.ClassFile.FieldType.char).before a0 Z = true := hw _ (List.mem_of_getElem? (i := 4) rfl)
theorem d1_11 : decode method_2_code 11 = .ok (.invokespecial 9, 3) := by decide +kernel
theorem ow8 {a0 : Array Value} {Z : State} (hw : ∀ d ∈ tables_1, d.before a0 Z = true) : (Jvm.Cond.methodLink "com/example/tidewire/tidewire/registration/RegistrationIsReplacedPinLaw" (9 : Nat) ({ cls := "java/lang/String", name := "<init>", desc := "([C)V" } : Jvm.MethodName)).before a0 Z = true := hw _ (List.mem_of_getElem? (i := 8) rfl)
theorem ow10 {a0 : Array Value} {Z : State} (hw : ∀ d ∈ tables_1, d.before a0 Z = true) : (Jvm.Cond.code ({ cls := "java/lang/String", name := "<init>", desc := "([C)V" } : Jvm.MethodName) jdk_42_method_3_code (2 : Nat) (Option.none : Option Jvm.ClassFile.FieldType)).before a0 Z = true := hw _ (List.mem_of_getElem? (i := 10) rfl)
theorem opd4 : parseMethodDescriptor "([C)V" = some ⟨[.array .char], none⟩ := by decide +kernel
theorem ow9 {a0 : Array Value} {Z : State} (hw : ∀ d ∈ tables_1, d.before a0 Z = true) : (Jvm.Cond.instanceMethod ({ cls := "java/lang/String", name := "<init>", desc := "([C)V" } : Jvm.MethodName)).before a0 Z = true := hw _ (List.mem_of_getElem? (i := 9) rfl)
theorem d1_14 : decode method_2_code 14 = .ok (.areturn, 1) := by decide +kernel
theorem d1_15 : decode method_2_code 15 = .ok (.iload_n 0, 1) := by decide +kernel
theorem d1_16 : decode method_2_code 16 = .ok (.iconst 1, 1) := by decide +kernel
theorem d1_17 : decode method_2_code 17 = .ok (.if_icmp .ne 24, 3) := by decide +kernel
theorem d1_20 : decode method_2_code 20 = .ok (.iconst 1, 1) := by decide +kernel
theorem d1_21 : decode method_2_code 21 = .ok (.newarray .char, 2) := by decide +kernel
theorem d1_23 : decode method_2_code 23 = .ok (.astore 4, 2) := by decide +kernel
theorem d1_25 : decode method_2_code 25 = .ok (.aload 4, 2) := by decide +kernel
theorem d1_27 : decode method_2_code 27 = .ok (.iconst 0, 1) := by decide +kernel
theorem d1_28 : decode method_2_code 28 = .ok (.iload_n 1, 1) := by decide +kernel
theorem d1_29 : decode method_2_code 29 = .ok (.i2c, 1) := by decide +kernel
theorem d1_30 : decode method_2_code 30 = .ok (.castore, 1) := by decide +kernel
theorem d1_31 : decode method_2_code 31 = .ok (.new 7, 3) := by decide +kernel
theorem d1_34 : decode method_2_code 34 = .ok (.dup, 1) := by decide +kernel
theorem d1_35 : decode method_2_code 35 = .ok (.aload 4, 2) := by decide +kernel
theorem d1_37 : decode method_2_code 37 = .ok (.invokespecial 9, 3) := by decide +kernel
theorem d1_40 : decode method_2_code 40 = .ok (.areturn, 1) := by decide +kernel
theorem d1_41 : decode method_2_code 41 = .ok (.iload_n 0, 1) := by decide +kernel
theorem d1_42 : decode method_2_code 42 = .ok (.iconst 2, 1) := by decide +kernel
theorem d1_43 : decode method_2_code 43 = .ok (.if_icmp .ne 30, 3) := by decide +kernel
theorem d1_46 : decode method_2_code 46 = .ok (.iconst 2, 1) := by decide +kernel
theorem d1_47 : decode method_2_code 47 = .ok (.newarray .char, 2) := by decide +kernel
theorem d1_49 : decode method_2_code 49 = .ok (.astore 4, 2) := by decide +kernel
theorem d1_51 : decode method_2_code 51 = .ok (.aload 4, 2) := by decide +kernel
theorem d1_53 : decode method_2_code 53 = .ok (.iconst 0, 1) := by decide +kernel
theorem d1_54 : decode method_2_code 54 = .ok (.iload_n 1, 1) := by decide +kernel
theorem d1_55 : decode method_2_code 55 = .ok (.i2c, 1) := by decide +kernel
theorem d1_56 : decode method_2_code 56 = .ok (.castore, 1) := by decide +kernel
theorem d1_57 : decode method_2_code 57 = .ok (.aload 4, 2) := by decide +kernel
theorem d1_59 : decode method_2_code 59 = .ok (.iconst 1, 1) := by decide +kernel
theorem d1_60 : decode method_2_code 60 = .ok (.iload_n 2, 1) := by decide +kernel
theorem d1_61 : decode method_2_code 61 = .ok (.i2c, 1) := by decide +kernel
theorem d1_62 : decode method_2_code 62 = .ok (.castore, 1) := by decide +kernel
theorem d1_63 : decode method_2_code 63 = .ok (.new 7, 3) := by decide +kernel
theorem d1_66 : decode method_2_code 66 = .ok (.dup, 1) := by decide +kernel
theorem d1_67 : decode method_2_code 67 = .ok (.aload 4, 2) := by decide +kernel
theorem d1_69 : decode method_2_code 69 = .ok (.invokespecial 9, 3) := by decide +kernel
theorem d1_72 : decode method_2_code 72 = .ok (.areturn, 1) := by decide +kernel
theorem d1_73 : decode method_2_code 73 = .ok (.iconst 3, 1) := by decide +kernel
theorem d1_74 : decode method_2_code 74 = .ok (.newarray .char, 2) := by decide +kernel
theorem d1_76 : decode method_2_code 76 = .ok (.astore 4, 2) := by decide +kernel
theorem d1_78 : decode method_2_code 78 = .ok (.aload 4, 2) := by decide +kernel
theorem d1_80 : decode method_2_code 80 = .ok (.iconst 0, 1) := by decide +kernel
theorem d1_81 : decode method_2_code 81 = .ok (.iload_n 1, 1) := by decide +kernel
theorem d1_82 : decode method_2_code 82 = .ok (.i2c, 1) := by decide +kernel
theorem d1_83 : decode method_2_code 83 = .ok (.castore, 1) := by decide +kernel
theorem d1_84 : decode method_2_code 84 = .ok (.aload 4, 2) := by decide +kernel
theorem d1_86 : decode method_2_code 86 = .ok (.iconst 1, 1) := by decide +kernel
theorem d1_87 : decode method_2_code 87 = .ok (.iload_n 2, 1) := by decide +kernel
theorem d1_88 : decode method_2_code 88 = .ok (.i2c, 1) := by decide +kernel
theorem d1_89 : decode method_2_code 89 = .ok (.castore, 1) := by decide +kernel
theorem d1_90 : decode method_2_code 90 = .ok (.aload 4, 2) := by decide +kernel
theorem d1_92 : decode method_2_code 92 = .ok (.iconst 2, 1) := by decide +kernel
theorem d1_93 : decode method_2_code 93 = .ok (.iload_n 3, 1) := by decide +kernel
theorem d1_94 : decode method_2_code 94 = .ok (.i2c, 1) := by decide +kernel
theorem d1_95 : decode method_2_code 95 = .ok (.castore, 1) := by decide +kernel
theorem d1_96 : decode method_2_code 96 = .ok (.new 7, 3) := by decide +kernel
theorem d1_99 : decode method_2_code 99 = .ok (.dup, 1) := by decide +kernel
theorem d1_100 : decode method_2_code 100 = .ok (.aload 4, 2) := by decide +kernel
theorem d1_102 : decode method_2_code 102 = .ok (.invokespecial 9, 3) := by decide +kernel
theorem d1_105 : decode method_2_code 105 = .ok (.areturn, 1) := by decide +kernel
theorem oef_orm_mk (m : MethodId) (n : Int32) (c0 : Int32) (c1 : Int32) (c2 : Int32)  : (entryFrame m #[(.int n), (.int c0), (.int c1), (.int c2)] 5).locals = #[.val (.int n), .val (.int c0), .val (.int c1), .val (.int c2), .unset] := by first | (simp [entryFrame, argsToLocals, Value.category]; done) | rfl
set_option maxRecDepth 65536 in
set_option maxHeartbeats 40000000 in
theorem orm_mk (l : Launch) (Z : State) (a0 : Array Value) (hw : ∀ d ∈ tables_1, d.before a0 Z = true) (hE : EW Z a0 consts_1) (n : Int32) (c0 : Int32) (c1 : Int32) (c2 : Int32) (z : Int32) (h : Heap) (hO : Old Z Z.heap.size h) (SC : (Sta Z Z.heap "java/lang/String" "COMPACT_STRINGS" "Z" (.int z))) (hz : (¬ z = 0)) (bc0 : (B8 c0)) (bc1 : (B8 c1)) (bc2 : (B8 c2))  :
    Ct l Z consts_1 (⟨"com/example/tidewire/tidewire/registration/RegistrationIsReplacedPinLaw", "mk", "(IIII)Ljava/lang/String;"⟩ : MethodName) method_2_code 5 (Option.some (Jvm.ClassFile.FieldType.object "java/lang/String")) ⟨4, 6, 14, 100⟩ #[(.int n), (.int c0), (.int c1), (.int c2)] h [] (fun rv' hp' so' => ∃ r : Addr, rv' = some (.ref r) ∧ so' = [] ∧ (h.size ≤ r) ∧ Str Z hp' r (txt n c0 c1 c2)) := by
  refine Ct.mk "com/example/tidewire/tidewire/registration/RegistrationIsReplacedPinLaw" "mk" rfl rfl (a0 := a0) (plainFor_of_name opn2) hO hE (fun x q => nomatch q) ?_
  intro K T W
  rw [oef_orm_mk]
  refine gIloadN W d1_0 rfl rfl ?_
  by_cases c147 : n = (0 : Int32)
  · refine gIfNo W d1_1 ((if0 _ _).trans (teq c147).2) rfl ?_
    refine wNewO W d1_4 (ow5 hw) (ow6 hw) (ow7 hw) (by decide) (by decide) rfl fun T148 h150 a151 W149 E152 g153 A154 D155  => ?_
    have f156 : Fld Z h150 a151 "java/lang/String" "value" "[B" .null := D155 (Or.inr (ow33 hw)) (ty := .array .byte) (by decide)
    have f157 : Fld Z h150 a151 "java/lang/String" "coder" "B" (.int (0 : Int32)) := D155 (Or.inr (ow31 hw)) (ty := .byte) (by decide)
    refine gDup W149 d1_7 rfl rfl ?_
    refine gIconst (z := (0 : Int32)) W149 d1_8 rfl rfl ?_
    refine wNewP (cap := 0) W149 d1_9 (ow4 hw) (by decide) (by decide) (by decide) (by decide) (by decide) rfl fun T158 h160 a161 k165 W159 E162 g163 A164 => ?_
    have f166 : Arv Z h160 a161 k165 .char (0 : Int32) [] (.int 0) := A164 0
    have f167 := A154.ext E162
    have f168 := f156.ext E162
    have f169 := f157.ext E162
    refine wSpecial (y := (⟨"java/lang/String", "<init>", "([C)V"⟩ : MethodName)) (Wd := 1) (a := a151) (argsL := [(.ref a161)]) (rest := [(.ref a151)]) W159 d1_11 rfl (ow8 hw) (ow9 hw) (ow10 hw) (by decide) (Cb.ct (orm_new1E l Z a0 hw hE (a151) (a161) (k165) h160 W159.old f167 f168 f169 f166 (Nat.le_trans W.old.2.1 (Nat.le_of_eq g153.symm))) (ow10 hw) (ow7 hw) hE (by decide) (by decide)) (by simp) rfl (lenOf opd4 rfl) rfl (Nat.le_of_eq rfl) (by decide) (by decide) rfl fun v174 so175 T170 h172 W171 kp173 sp176 q177 => ?_
    obtain ⟨t178, kb179, rfl, rfl, f180, f181, f182, f183⟩ := q177
    show Go K _ T170 14 #[.val (.int n), .val (.int c0), .val (.int c1), .val (.int c2), .unset] [(.ref a151)]
    have f184 : Str Z h172 a151 [] := Str.mk (cs := []) f180 f181 f182 f183 (show _ = Int32.ofNat 0 from by decide) alln (show 0 ≤ 4000 from by decide)
    have f185 : Str Z h172 a151 (txt n c0 c1 c2) := by rw [show txt n c0 c1 c2 = [] from by simp [txt, c147]]; exact f184
    exact wRetA (so := []) (t := .object "java/lang/String") W171 d1_14 rfl rfl rfl (by decide) (by decide) (fun _ q => nomatch q) ⟨a151, rfl, rfl, (Nat.le_of_eq g153.symm), f185⟩
  · refine gIfYes (pc' := 15) W d1_1 ((if0 _ _).trans (feq c147).2) (by decide) rfl ?_
    refine gIloadN W d1_15 rfl rfl ?_
    refine gIconst (z := (1 : Int32)) W d1_16 rfl rfl ?_
    by_cases c186 : n = (1 : Int32)
    · refine gIcmpNo W d1_17 (teq c186).2 rfl ?_
      refine gIconst (z := (1 : Int32)) W d1_20 rfl rfl ?_
      refine wNewP (cap := 1) W d1_21 (ow4 hw) (by decide) (by decide) (by decide) (by decide) (by decide) rfl fun T187 h189 a190 k194 W188 E191 g192 A193 => ?_
      have f195 : Arv Z h189 a190 k194 .char (1 : Int32) [(.int (0 : Int32))] (.int 0) := A193 1
      refine gAstore (ls' := #[.val (.int n), .val (.int c0), .val (.int c1), .val (.int c2), .val (.ref a190)]) W188 d1_23 rfl rfl rfl ?_
      refine gAload W188 d1_25 rfl rfl rfl ?_
      refine gIconst (z := (0 : Int32)) W188 d1_27 rfl rfl ?_
      refine gIloadN W188 d1_28 rfl rfl ?_
      refine gI2C (z := c0) W188 d1_29 bc0.i2c' rfl ?_
      refine wStC W188 d1_30 (by simp) f195 (by decide) bc0.nar 0 (by decide) (show 0 < 1 from by decide) rfl fun T196 h198 W197 wr199 A200 => ?_
      have f201 : Arv Z h198 a190 k194 .char (1 : Int32) [(.int c0)] (.int 0) := A200
      refine wNewO W197 d1_31 (ow5 hw) (ow6 hw) (ow7 hw) (by decide) (by decide) rfl fun T202 h204 a205 W203 E206 g207 A208 D209  => ?_
      have f210 : Fld Z h204 a205 "java/lang/String" "value" "[B" .null := D209 (Or.inr (ow33 hw)) (ty := .array .byte) (by decide)
      have f211 : Fld Z h204 a205 "java/lang/String" "coder" "B" (.int (0 : Int32)) := D209 (Or.inr (ow31 hw)) (ty := .byte) (by decide)
      refine gDup W203 d1_34 rfl rfl ?_
      refine gAload W203 d1_35 rfl rfl rfl ?_
      have f212 := f201.ext E206
      refine wSpecial (y := (⟨"java/lang/String", "<init>", "([C)V"⟩ : MethodName)) (Wd := 1) (a := a205) (argsL := [(.ref a190)]) (rest := [(.ref a205)]) W203 d1_37 rfl (ow8 hw) (ow9 hw) (ow10 hw) (by decide) (strPay hw hE a205 a190 (1 : Int32) [c0] 1 1 A208 f210 f211 f212 (SC.ext W203.old.2) hz rfl (show Int32.toNatClampNeg (1 : Int32) = 1 from by decide) (show 0 < 1 from by decide) (show 1 ≤ 536870912 from by decide) (all1 bc0.2 alln) (by decide) (by decide)) (by simp) rfl (lenOf opd4 rfl) rfl (Nat.le_of_eq rfl) (by decide) (by decide) rfl fun v217 so218 T213 h215 W214 kp216 sp219 q220 => ?_
      obtain ⟨t221, kb222, rfl, rfl, f223, f224, f225, f226, f227⟩ := q220
      show Go K _ T213 40 #[.val (.int n), .val (.int c0), .val (.int c1), .val (.int c2), .val (.ref a190)] [(.ref a205)]
      have f228 : Str Z h215 a205 [c0] := Str.mk (cs := [c0]) f224 f225 f226 f227 (show _ = Int32.ofNat 1 from by decide) (all1 bc0 alln) (show 1 ≤ 4000 from by decide)
      have f229 : Str Z h215 a205 (txt n c0 c1 c2) := by rw [show txt n c0 c1 c2 = [c0] from by simp [txt, c147, c186]]; exact f228
      exact wRetA (so := []) (t := .object "java/lang/String") W214 d1_40 rfl rfl rfl (by decide) (by decide) (fun _ q => nomatch q) ⟨a205, rfl, rfl, (Nat.le_trans W197.grow (Nat.le_of_eq g207.symm)), f229⟩
    · refine gIcmpYes (pc' := 41) W d1_17 (feq c186).2 (by decide) rfl ?_
      refine gIloadN W d1_41 rfl rfl ?_
      refine gIconst (z := (2 : Int32)) W d1_42 rfl rfl ?_
      by_cases c230 : n = (2 : Int32)
      · refine gIcmpNo W d1_43 (teq c230).2 rfl ?_
        refine gIconst (z := (2 : Int32)) W d1_46 rfl rfl ?_
        refine wNewP (cap := 2) W d1_47 (ow4 hw) (by decide) (by decide) (by decide) (by decide) (by decide) rfl fun T231 h233 a234 k238 W232 E235 g236 A237 => ?_
        have f239 : Arv Z h233 a234 k238 .char (2 : Int32) [(.int (0 : Int32)), (.int (0 : Int32))] (.int 0) := A237 2
        refine gAstore (ls' := #[.val (.int n), .val (.int c0), .val (.int c1), .val (.int c2), .val (.ref a234)]) W232 d1_49 rfl rfl rfl ?_
        refine gAload W232 d1_51 rfl rfl rfl ?_
        refine gIconst (z := (0 : Int32)) W232 d1_53 rfl rfl ?_
        refine gIloadN W232 d1_54 rfl rfl ?_
        refine gI2C (z := c0) W232 d1_55 bc0.i2c' rfl ?_
        refine wStC W232 d1_56 (by simp) f239 (by decide) bc0.nar 0 (by decide) (show 0 < 2 from by decide) rfl fun T240 h242 W241 wr243 A244 => ?_
        have f245 : Arv Z h242 a234 k238 .char (2 : Int32) [(.int c0), (.int (0 : Int32))] (.int 0) := A244
        refine gAload W241 d1_57 rfl rfl rfl ?_
        refine gIconst (z := (1 : Int32)) W241 d1_59 rfl rfl ?_
        refine gIloadN W241 d1_60 rfl rfl ?_
        refine gI2C (z := c1) W241 d1_61 bc1.i2c' rfl ?_
        refine wStC W241 d1_62 (by simp) f245 (by decide) bc1.nar 1 (by decide) (show 1 < 2 from by decide) rfl fun T246 h248 W247 wr249 A250 => ?_
        have f251 : Arv Z h248 a234 k238 .char (2 : Int32) [(.int c0), (.int c1)] (.int 0) := A250
        refine wNewO W247 d1_63 (ow5 hw) (ow6 hw) (ow7 hw) (by decide) (by decide) rfl fun T252 h254 a255 W253 E256 g257 A258 D259  => ?_
        have f260 : Fld Z h254 a255 "java/lang/String" "value" "[B" .null := D259 (Or.inr (ow33 hw)) (ty := .array .byte) (by decide)
        have f261 : Fld Z h254 a255 "java/lang/String" "coder" "B" (.int (0 : Int32)) := D259 (Or.inr (ow31 hw)) (ty := .byte) (by decide)
        refine gDup W253 d1_66 rfl rfl ?_
        refine gAload W253 d1_67 rfl rfl rfl ?_
        have f262 := f251.ext E256
        refine wSpecial (y := (⟨"java/lang/String", "<init>", "([C)V"⟩ : MethodName)) (Wd := 1) (a := a255) (argsL := [(.ref a234)]) (rest := [(.ref a255)]) W253 d1_69 rfl (ow8 hw) (ow9 hw) (ow10 hw) (by decide) (strPay hw hE a255 a234 (2 : Int32) [c0, c1] 2 1 A258 f260 f261 f262 (SC.ext W253.old.2) hz rfl (show Int32.toNatClampNeg (2 : Int32) = 2 from by decide) (show 0 < 2 from by decide) (show 2 ≤ 536870912 from by decide) (all1 bc0.2 (all1 bc1.2 alln)) (by decide) (by decide)) (by simp) rfl (lenOf opd4 rfl) rfl (Nat.le_of_eq rfl) (by decide) (by decide) rfl fun v267 so268 T263 h265 W264 kp266 sp269 q270 => ?_
        obtain ⟨t271, kb272, rfl, rfl, f273, f274, f275, f276, f277⟩ := q270
        show Go K _ T263 72 #[.val (.int n), .val (.int c0), .val (.int c1), .val (.int c2), .val (.ref a234)] [(.ref a255)]
        have f278 : Str Z h265 a255 [c0, c1] := Str.mk (cs := [c0, c1]) f274 f275 f276 f277 (show _ = Int32.ofNat 2 from by decide) (all1 bc0 (all1 bc1 alln)) (show 2 ≤ 4000 from by decide)
        have f279 : Str Z h265 a255 (txt n c0 c1 c2) := by rw [show txt n c0 c1 c2 = [c0, c1] from by simp [txt, c147, c186, c230]]; exact f278
        exact wRetA (so := []) (t := .object "java/lang/String") W264 d1_72 rfl rfl rfl (by decide) (by decide) (fun _ q => nomatch q) ⟨a255, rfl, rfl, (Nat.le_trans W247.grow (Nat.le_of_eq g257.symm)), f279⟩
      · refine gIcmpYes (pc' := 73) W d1_43 (feq c230).2 (by decide) rfl ?_
        refine gIconst (z := (3 : Int32)) W d1_73 rfl rfl ?_
        refine wNewP (cap := 3) W d1_74 (ow4 hw) (by decide) (by decide) (by decide) (by decide) (by decide) rfl fun T280 h282 a283 k287 W281 E284 g285 A286 => ?_
        have f288 : Arv Z h282 a283 k287 .char (3 : Int32) [(.int (0 : Int32)), (.int (0 : Int32)), (.int (0 : Int32))] (.int 0) := A286 3
        refine gAstore (ls' := #[.val (.int n), .val (.int c0), .val (.int c1), .val (.int c2), .val (.ref a283)]) W281 d1_76 rfl rfl rfl ?_
        refine gAload W281 d1_78 rfl rfl rfl ?_
        refine gIconst (z := (0 : Int32)) W281 d1_80 rfl rfl ?_
        refine gIloadN W281 d1_81 rfl rfl ?_
        refine gI2C (z := c0) W281 d1_82 bc0.i2c' rfl ?_
        refine wStC W281 d1_83 (by simp) f288 (by decide) bc0.nar 0 (by decide) (show 0 < 3 from by decide) rfl fun T289 h291 W290 wr292 A293 => ?_
        have f294 : Arv Z h291 a283 k287 .char (3 : Int32) [(.int c0), (.int (0 : Int32)), (.int (0 : Int32))] (.int 0) := A293
        refine gAload W290 d1_84 rfl rfl rfl ?_
        refine gIconst (z := (1 : Int32)) W290 d1_86 rfl rfl ?_
        refine gIloadN W290 d1_87 rfl rfl ?_
        refine gI2C (z := c1) W290 d1_88 bc1.i2c' rfl ?_
        refine wStC W290 d1_89 (by simp) f294 (by decide) bc1.nar 1 (by decide) (show 1 < 3 from by decide) rfl fun T295 h297 W296 wr298 A299 => ?_
        have f300 : Arv Z h297 a283 k287 .char (3 : Int32) [(.int c0), (.int c1), (.int (0 : Int32))] (.int 0) := A299
        refine gAload W296 d1_90 rfl rfl rfl ?_
        refine gIconst (z := (2 : Int32)) W296 d1_92 rfl rfl ?_
        refine gIloadN W296 d1_93 rfl rfl ?_
        refine gI2C (z := c2) W296 d1_94 bc2.i2c' rfl ?_
        refine wStC W296 d1_95 (by simp) f300 (by decide) bc2.nar 2 (by decide) (show 2 < 3 from by decide) rfl fun T301 h303 W302 wr304 A305 => ?_
        have f306 : Arv Z h303 a283 k287 .char (3 : Int32) [(.int c0), (.int c1), (.int c2)] (.int 0) := A305
        refine wNewO W302 d1_96 (ow5 hw) (ow6 hw) (ow7 hw) (by decide) (by decide) rfl fun T307 h309 a310 W308 E311 g312 A313 D314  => ?_
        have f315 : Fld Z h309 a310 "java/lang/String" "value" "[B" .null := D314 (Or.inr (ow33 hw)) (ty := .array .byte) (by decide)
        have f316 : Fld Z h309 a310 "java/lang/String" "coder" "B" (.int (0 : Int32)) := D314 (Or.inr (ow31 hw)) (ty := .byte) (by decide)
        refine gDup W308 d1_99 rfl rfl ?_
        refine gAload W308 d1_100 rfl rfl rfl ?_
        have f317 := f306.ext E311
        refine wSpecial (y := (⟨"java/lang/String", "<init>", "([C)V"⟩ : MethodName)) (Wd := 1) (a := a310) (argsL := [(.ref a283)]) (rest := [(.ref a310)]) W308 d1_102 rfl (ow8 hw) (ow9 hw) (ow10 hw) (by decide) (strPay hw hE a310 a283 (3 : Int32) [c0, c1, c2] 3 1 A313 f315 f316 f317 (SC.ext W308.old.2) hz rfl (show Int32.toNatClampNeg (3 : Int32) = 3 from by decide) (show 0 < 3 from by decide) (show 3 ≤ 536870912 from by decide) (all1 bc0.2 (all1 bc1.2 (all1 bc2.2 alln))) (by decide) (by decide)) (by simp) rfl (lenOf opd4 rfl) rfl (Nat.le_of_eq rfl) (by decide) (by decide) rfl fun v322 so323 T318 h320 W319 kp321 sp324 q325 => ?_
        obtain ⟨t326, kb327, rfl, rfl, f328, f329, f330, f331, f332⟩ := q325
        show Go K _ T318 105 #[.val (.int n), .val (.int c0), .val (.int c1), .val (.int c2), .val (.ref a283)] [(.ref a310)]
        have f333 : Str Z h320 a310 [c0, c1, c2] := Str.mk (cs := [c0, c1, c2]) f329 f330 f331 f332 (show _ = Int32.ofNat 3 from by decide) (all1 bc0 (all1 bc1 (all1 bc2 alln))) (show 3 ≤ 4000 from by decide)
        have f334 : Str Z h320 a310 (txt n c0 c1 c2) := by rw [show txt n c0 c1 c2 = [c0, c1, c2] from by simp [txt, c147, c186, c230]]; exact f333
        exact wRetA (so := []) (t := .object "java/lang/String") W319 d1_105 rfl rfl rfl (by decide) (by decide) (fun _ q => nomatch q) ⟨a310, rfl, rfl, (Nat.le_trans W302.grow (Nat.le_of_eq g312.symm)), f334⟩
theorem opn3 : plainName "java/lang/Record" = true := by first | (simp [plainName, overriddenIn]; done) | decide +kernel
theorem d13_0 : decode jdk_30_method_1_code 0 = .ok (.aload_n 0, 1) := by decide +kernel
theorem d13_1 : decode jdk_30_method_1_code 1 = .ok (.invokespecial 1, 3) := by decide +kernel
theorem ow62 {a0 : Array Value} {Z : State} (hw : ∀ d ∈ tables_1, d.before a0 Z = true) : (Jvm.Cond.methodLink "java/lang/Record" (1 : Nat) ({ cls := "java/lang/Object", name := "<init>", desc := "()V" } : Jvm.MethodName)).before a0 Z = true := hw _ (List.mem_of_getElem? (i := 62) rfl)
theorem d13_4 : decode jdk_30_method_1_code 4 = .ok (.return_, 1) := by decide +kernel
theorem oef_orm_rec (m : MethodId) (a : Addr)  : (entryFrame m #[(.ref a)] 1).locals = #[.val (.ref a)] := by first | (simp [entryFrame, argsToLocals, Value.category]; done) | rfl
set_option maxRecDepth 65536 in
set_option maxHeartbeats 40000000 in
theorem orm_rec (l : Launch) (Z : State) (a0 : Array Value) (hw : ∀ d ∈ tables_1, d.before a0 Z = true) (hE : EW Z a0 consts_1) (a : Addr) (h : Heap) (hO : Old Z Z.heap.size h)   :
    Ct l Z consts_1 (⟨"java/lang/Record", "<init>", "()V"⟩ : MethodName) jdk_30_method_1_code 1 (Option.none : Option Jvm.ClassFile.FieldType) ⟨1, 0, 0, 12⟩ #[(.ref a)] h [] (fun rv' hp' so' => rv' = none ∧ so' = []) := by
  refine Ct.mk "java/lang/Record" "<init>" rfl rfl (a0 := a0) (plainFor_of_name opn3) hO hE (fun x q => nomatch q) ?_
  intro K T W
  rw [oef_orm_rec]
  refine gAloadN W d13_0 rfl rfl rfl ?_
  refine wInitO W d13_1 (ow62 hw) (ow16 hw) (ow17 hw) rfl (by decide) 0 (Nat.le_of_eq rfl) (by decide) rfl fun T335 W336 => ?_
  exact wRet0 (so := []) W336 d13_4 (by decide) (by decide) (fun _ q => nomatch q) ⟨rfl, rfl⟩
theorem opn4 : plainName "java/util/Objects" = true := by first | (simp [plainName, overriddenIn]; done) | decide +kernel
theorem d14_0 : decode jdk_31_method_11_code 0 = .ok (.aload_n 0, 1) := by decide +kernel
theorem d14_1 : decode jdk_31_method_11_code 1 = .ok (.ifnonnull 12, 3) := by decide +kernel
theorem d14_13 : decode jdk_31_method_11_code 13 = .ok (.aload_n 0, 1) := by decide +kernel
theorem d14_14 : decode jdk_31_method_11_code 14 = .ok (.areturn, 1) := by decide +kernel
theorem oef_orm_rnn (m : MethodId) (a : Addr) (b : Addr)  : (entryFrame m #[(.ref a), (.ref b)] 2).locals = #[.val (.ref a), .val (.ref b)] := by first | (simp [entryFrame, argsToLocals, Value.category]; done) | rfl
set_option maxRecDepth 65536 in
set_option maxHeartbeats 40000000 in
theorem orm_rnn (l : Launch) (Z : State) (a0 : Array Value) (hw : ∀ d ∈ tables_1, d.before a0 Z = true) (hE : EW Z a0 consts_1) (a : Addr) (b : Addr) (h : Heap) (hO : Old Z Z.heap.size h)   :
    Ct l Z consts_1 (⟨"java/util/Objects", "requireNonNull", "(Ljava/lang/Object;Ljava/lang/String;)Ljava/lang/Object;"⟩ : MethodName) jdk_31_method_11_code 2 (Option.some (Jvm.ClassFile.FieldType.object "java/lang/Object")) ⟨0, 0, 0, 0⟩ #[(.ref a), (.ref b)] h [] (fun rv' hp' so' => rv' = some (.ref a) ∧ so' = []) := by
  refine Ct.mk "java/util/Objects" "requireNonNull" rfl rfl (a0 := a0) (plainFor_of_name opn4) hO hE (fun x q => nomatch q) ?_
  intro K T W
  rw [oef_orm_rnn]
  refine gAloadN W d14_0 rfl rfl rfl ?_
  refine gIfnonnullYes (pc' := 13) W d14_1 (by decide) rfl ?_
  refine gAloadN W d14_13 rfl rfl rfl ?_
  exact wRetA (so := []) (t := .object "java/lang/Object") W d14_14 rfl rfl rfl (by decide) (by decide) (fun _ q => nomatch q) ⟨rfl, rfl⟩
theorem opn5 : plainName "com/example/tidewire/tidewire/registration/Registration" = true := by first | (simp [plainName, overriddenIn]; done) | decide +kernel
theorem d12_0 : decode prog_13_method_1_code 0 = .ok (.aload_n 0, 1) := by decide +kernel
theorem d12_1 : decode prog_13_method_1_code 1 = .ok (.invokespecial 1, 3) := by decide +kernel
theorem ow57 {a0 : Array Value} {Z : State} (hw : ∀ d ∈ tables_1, d.before a0 Z = true) : (Jvm.Cond.methodLink "com/example/tidewire/tidewire/registration/Registration" (1 : Nat) ({ cls := "java/lang/Record", name := "<init>", desc := "()V" } : Jvm.MethodName)).before a0 Z = true := hw _ (List.mem_of_getElem? (i := 57) rfl)
theorem ow60 {a0 : Array Value} {Z : State} (hw : ∀ d ∈ tables_1, d.before a0 Z = true) : (Jvm.Cond.initialized "java/lang/Record").before a0 Z = true := hw _ (List.mem_of_getElem? (i := 60) rfl)
theorem ow61 {a0 : Array Value} {Z : State} (hw : ∀ d ∈ tables_1, d.before a0 Z = true) : (Jvm.Cond.code ({ cls := "java/lang/Record", name := "<init>", desc := "()V" } : Jvm.MethodName) jdk_30_method_1_code (1 : Nat) (Option.none : Option Jvm.ClassFile.FieldType)).before a0 Z = true := hw _ (List.mem_of_getElem? (i := 61) rfl)
theorem opd5 : parseMethodDescriptor "()V" = some ⟨[], none⟩ := by decide +kernel
theorem ow58 {a0 : Array Value} {Z : State} (hw : ∀ d ∈ tables_1, d.before a0 Z = true) : (Jvm.Cond.instanceMethod ({ cls := "java/lang/Record", name := "<init>", desc := "()V" } : Jvm.MethodName)).before a0 Z = true := hw _ (List.mem_of_getElem? (i := 58) rfl)
theorem d12_4 : decode prog_13_method_1_code 4 = .ok (.aload_n 1, 1) := by decide +kernel
theorem d12_5 : decode prog_13_method_1_code 5 = .ok (.ldc 7, 2) := by decide +kernel
theorem ow63 {a0 : Array Value} {Z : State} (hw : ∀ d ∈ tables_1, d.before a0 Z = true) : (Jvm.Cond.stringLink "com/example/tidewire/tidewire/registration/Registration" (7 : Nat) "token").before a0 Z = true := hw _ (List.mem_of_getElem? (i := 63) rfl)
theorem d12_7 : decode prog_13_method_1_code 7 = .ok (.invokestatic 9, 3) := by decide +kernel
theorem ow64 {a0 : Array Value} {Z : State} (hw : ∀ d ∈ tables_1, d.before a0 Z = true) : (Jvm.Cond.methodLink "com/example/tidewire/tidewire/registration/Registration" (9 : Nat) ({ cls := "java/util/Objects", name := "requireNonNull", desc := "(Ljava/lang/Object;Ljava/lang/String;)Ljava/lang/Object;" } : Jvm.MethodName)).before a0 Z = true := hw _ (List.mem_of_getElem? (i := 64) rfl)
theorem ow66 {a0 : Array Value} {Z : State} (hw : ∀ d ∈ tables_1, d.before a0 Z = true) : (Jvm.Cond.initialized "java/util/Objects").before a0 Z = true := hw _ (List.mem_of_getElem? (i := 66) rfl)
theorem ow67 {a0 : Array Value} {Z : State} (hw : ∀ d ∈ tables_1, d.before a0 Z = true) : (Jvm.Cond.code ({ cls := "java/util/Objects", name := "requireNonNull", desc := "(Ljava/lang/Object;Ljava/lang/String;)Ljava/lang/Object;" } : Jvm.MethodName) jdk_31_method_11_code (2 : Nat) (Option.some (Jvm.ClassFile.FieldType.object "java/lang/Object"))).before a0 Z = true := hw _ (List.mem_of_getElem? (i := 67) rfl)
theorem opd6 : parseMethodDescriptor "(Ljava/lang/Object;Ljava/lang/String;)Ljava/lang/Object;" = some ⟨[.object "java/lang/Object", .object "java/lang/String"], some (.object "java/lang/Object")⟩ := by decide +kernel
theorem ow65 {a0 : Array Value} {Z : State} (hw : ∀ d ∈ tables_1, d.before a0 Z = true) : (Jvm.Cond.static ({ cls := "java/util/Objects", name := "requireNonNull", desc := "(Ljava/lang/Object;Ljava/lang/String;)Ljava/lang/Object;" } : Jvm.MethodName)).before a0 Z = true := hw _ (List.mem_of_getElem? (i := 65) rfl)
theorem d12_10 : decode prog_13_method_1_code 10 = .ok (.pop, 1) := by decide +kernel
theorem d12_11 : decode prog_13_method_1_code 11 = .ok (.aload_n 2, 1) := by decide +kernel
theorem d12_12 : decode prog_13_method_1_code 12 = .ok (.ldc 15, 2) := by decide +kernel
theorem ow68 {a0 : Array Value} {Z : State} (hw : ∀ d ∈ tables_1, d.before a0 Z = true) : (Jvm.Cond.stringLink "com/example/tidewire/tidewire/registration/Registration" (15 : Nat) "firstToken").before a0 Z = true := hw _ (List.mem_of_getElem? (i := 68) rfl)
theorem d12_14 : decode prog_13_method_1_code 14 = .ok (.invokestatic 9, 3) := by decide +kernel
theorem d12_17 : decode prog_13_method_1_code 17 = .ok (.pop, 1) := by decide +kernel
theorem d12_18 : decode prog_13_method_1_code 18 = .ok (.aload_n 3, 1) := by decide +kernel
theorem d12_19 : decode prog_13_method_1_code 19 = .ok (.ldc 17, 2) := by decide +kernel
theorem ow69 {a0 : Array Value} {Z : State} (hw : ∀ d ∈ tables_1, d.before a0 Z = true) : (Jvm.Cond.stringLink "com/example/tidewire/tidewire/registration/Registration" (17 : Nat) "senderId").before a0 Z = true := hw _ (List.mem_of_getElem? (i := 69) rfl)
theorem d12_21 : decode prog_13_method_1_code 21 = .ok (.invokestatic 9, 3) := by decide +kernel
theorem d12_24 : decode prog_13_method_1_code 24 = .ok (.pop, 1) := by decide +kernel
theorem d12_25 : decode prog_13_method_1_code 25 = .ok (.aload 4, 2) := by decide +kernel
theorem d12_27 : decode prog_13_method_1_code 27 = .ok (.ldc 19, 2) := by decide +kernel
theorem ow70 {a0 : Array Value} {Z : State} (hw : ∀ d ∈ tables_1, d.before a0 Z = true) : (Jvm.Cond.stringLink "com/example/tidewire/tidewire/registration/Registration" (19 : Nat) "app").before a0 Z = true := hw _ (List.mem_of_getElem? (i := 70) rfl)
theorem d12_29 : decode prog_13_method_1_code 29 = .ok (.invokestatic 9, 3) := by decide +kernel
theorem d12_32 : decode prog_13_method_1_code 32 = .ok (.pop, 1) := by decide +kernel
theorem d12_33 : decode prog_13_method_1_code 33 = .ok (.aload 5, 2) := by decide +kernel
theorem d12_35 : decode prog_13_method_1_code 35 = .ok (.ldc 21, 2) := by decide +kernel
theorem ow71 {a0 : Array Value} {Z : State} (hw : ∀ d ∈ tables_1, d.before a0 Z = true) : (Jvm.Cond.stringLink "com/example/tidewire/tidewire/registration/Registration" (21 : Nat) "canonicalToken").before a0 Z = true := hw _ (List.mem_of_getElem? (i := 71) rfl)
theorem d12_37 : decode prog_13_method_1_code 37 = .ok (.invokestatic 9, 3) := by decide +kernel
theorem d12_40 : decode prog_13_method_1_code 40 = .ok (.pop, 1) := by decide +kernel
theorem d12_41 : decode prog_13_method_1_code 41 = .ok (.aload_n 0, 1) := by decide +kernel
theorem d12_42 : decode prog_13_method_1_code 42 = .ok (.aload_n 1, 1) := by decide +kernel
theorem d12_43 : decode prog_13_method_1_code 43 = .ok (.putfield 23, 3) := by decide +kernel
theorem ow73 {a0 : Array Value} {Z : State} (hw : ∀ d ∈ tables_1, d.before a0 Z = true) : (Jvm.Cond.laysFinal "com/example/tidewire/tidewire/registration/Registration" "com/example/tidewire/tidewire/registration/Registration" "token" "Ljava/lang/String;").before a0 Z = true := hw _ (List.mem_of_getElem? (i := 73) rfl)
theorem ow72 {a0 : Array Value} {Z : State} (hw : ∀ d ∈ tables_1, d.before a0 Z = true) : (Jvm.Cond.fieldLink "com/example/tidewire/tidewire/registration/Registration" (23 : Nat) "com/example/tidewire/tidewire/registration/Registration" "token" "Ljava/lang/String;").before a0 Z = true := hw _ (List.mem_of_getElem? (i := 72) rfl)
theorem ow52 {a0 : Array Value} {Z : State} (hw : ∀ d ∈ tables_1, d.before a0 Z = true) : (Jvm.Cond.instantiable "com/example/tidewire/tidewire/registration/Registration" (6 : Nat)).before a0 Z = true := hw _ (List.mem_of_getElem? (i := 52) rfl)
theorem d12_46 : decode prog_13_method_1_code 46 = .ok (.aload_n 0, 1) := by decide +kernel
theorem d12_47 : decode prog_13_method_1_code 47 = .ok (.aload_n 2, 1) := by decide +kernel
theorem d12_48 : decode prog_13_method_1_code 48 = .ok (.putfield 28, 3) := by decide +kernel
theorem ow75 {a0 : Array Value} {Z : State} (hw : ∀ d ∈ tables_1, d.before a0 Z = true) : (Jvm.Cond.laysFinal "com/example/tidewire/tidewire/registration/Registration" "com/example/tidewire/tidewire/registration/Registration" "firstToken" "Ljava/lang/String;").before a0 Z = true := hw _ (List.mem_of_getElem? (i := 75) rfl)
theorem ow74 {a0 : Array Value} {Z : State} (hw : ∀ d ∈ tables_1, d.before a0 Z = true) : (Jvm.Cond.fieldLink "com/example/tidewire/tidewire/registration/Registration" (28 : Nat) "com/example/tidewire/tidewire/registration/Registration" "firstToken" "Ljava/lang/String;").before a0 Z = true := hw _ (List.mem_of_getElem? (i := 74) rfl)
theorem d12_51 : decode prog_13_method_1_code 51 = .ok (.aload_n 0, 1) := by decide +kernel
theorem d12_52 : decode prog_13_method_1_code 52 = .ok (.aload_n 3, 1) := by decide +kernel
theorem d12_53 : decode prog_13_method_1_code 53 = .ok (.putfield 30, 3) := by decide +kernel
theorem ow77 {a0 : Array Value} {Z : State} (hw : ∀ d ∈ tables_1, d.before a0 Z = true) : (Jvm.Cond.laysFinal "com/example/tidewire/tidewire/registration/Registration" "com/example/tidewire/tidewire/registration/Registration" "senderId" "Ljava/lang/String;").before a0 Z = true := hw _ (List.mem_of_getElem? (i := 77) rfl)
theorem ow76 {a0 : Array Value} {Z : State} (hw : ∀ d ∈ tables_1, d.before a0 Z = true) : (Jvm.Cond.fieldLink "com/example/tidewire/tidewire/registration/Registration" (30 : Nat) "com/example/tidewire/tidewire/registration/Registration" "senderId" "Ljava/lang/String;").before a0 Z = true := hw _ (List.mem_of_getElem? (i := 76) rfl)
theorem d12_56 : decode prog_13_method_1_code 56 = .ok (.aload_n 0, 1) := by decide +kernel
theorem d12_57 : decode prog_13_method_1_code 57 = .ok (.aload 4, 2) := by decide +kernel
theorem d12_59 : decode prog_13_method_1_code 59 = .ok (.putfield 32, 3) := by decide +kernel
theorem ow79 {a0 : Array Value} {Z : State} (hw : ∀ d ∈ tables_1, d.before a0 Z = true) : (Jvm.Cond.laysFinal "com/example/tidewire/tidewire/registration/Registration" "com/example/tidewire/tidewire/registration/Registration" "app" "Ljava/lang/String;").before a0 Z = true := hw _ (List.mem_of_getElem? (i := 79) rfl)
theorem ow78 {a0 : Array Value} {Z : State} (hw : ∀ d ∈ tables_1, d.before a0 Z = true) : (Jvm.Cond.fieldLink "com/example/tidewire/tidewire/registration/Registration" (32 : Nat) "com/example/tidewire/tidewire/registration/Registration" "app" "Ljava/lang/String;").before a0 Z = true := hw _ (List.mem_of_getElem? (i := 78) rfl)
theorem d12_62 : decode prog_13_method_1_code 62 = .ok (.aload_n 0, 1) := by decide +kernel
theorem d12_63 : decode prog_13_method_1_code 63 = .ok (.aload 5, 2) := by decide +kernel
theorem d12_65 : decode prog_13_method_1_code 65 = .ok (.putfield 34, 3) := by decide +kernel
theorem ow81 {a0 : Array Value} {Z : State} (hw : ∀ d ∈ tables_1, d.before a0 Z = true) : (Jvm.Cond.laysFinal "com/example/tidewire/tidewire/registration/Registration" "com/example/tidewire/tidewire/registration/Registration" "canonicalToken" "Ljava/lang/String;").before a0 Z = true := hw _ (List.mem_of_getElem? (i := 81) rfl)
theorem ow80 {a0 : Array Value} {Z : State} (hw : ∀ d ∈ tables_1, d.before a0 Z = true) : (Jvm.Cond.fieldLink "com/example/tidewire/tidewire/registration/Registration" (34 : Nat) "com/example/tidewire/tidewire/registration/Registration" "canonicalToken" "Ljava/lang/String;").before a0 Z = true := hw _ (List.mem_of_getElem? (i := 80) rfl)
theorem d12_68 : decode prog_13_method_1_code 68 = .ok (.aload_n 0, 1) := by decide +kernel
theorem d12_69 : decode prog_13_method_1_code 69 = .ok (.iload 6, 2) := by decide +kernel
theorem d12_71 : decode prog_13_method_1_code 71 = .ok (.putfield 36, 3) := by decide +kernel
theorem ow83 {a0 : Array Value} {Z : State} (hw : ∀ d ∈ tables_1, d.before a0 Z = true) : (Jvm.Cond.laysFinal "com/example/tidewire/tidewire/registration/Registration" "com/example/tidewire/tidewire/registration/Registration" "unregistered" "Z").before a0 Z = true := hw _ (List.mem_of_getElem? (i := 83) rfl)
theorem ow82 {a0 : Array Value} {Z : State} (hw : ∀ d ∈ tables_1, d.before a0 Z = true) : (Jvm.Cond.fieldLink "com/example/tidewire/tidewire/registration/Registration" (36 : Nat) "com/example/tidewire/tidewire/registration/Registration" "unregistered" "Z").before a0 Z = true := hw _ (List.mem_of_getElem? (i := 82) rfl)
theorem d12_74 : decode prog_13_method_1_code 74 = .ok (.return_, 1) := by decide +kernel
theorem oef_orm_rgInit (m : MethodId) (a : Addr) (u0 : Addr) (u1 : Addr) (u2 : Addr) (u3 : Addr) (u4 : Addr) (b : Int32)  : (entryFrame m #[(.ref a), (.ref u0), (.ref u1), (.ref u2), (.ref u3), (.ref u4), (.int b)] 7).locals = #[.val (.ref a), .val (.ref u0), .val (.ref u1), .val (.ref u2), .val (.ref u3), .val (.ref u4), .val (.int b)] := by first | (simp [entryFrame, argsToLocals, Value.category]; done) | rfl
set_option maxRecDepth 65536 in
set_option maxHeartbeats 40000000 in
theorem orm_rgInit (l : Launch) (Z : State) (a0 : Array Value) (hw : ∀ d ∈ tables_1, d.before a0 Z = true) (hE : EW Z a0 consts_1) (a : Addr) (u0 : Addr) (u1 : Addr) (u2 : Addr) (u3 : Addr) (u4 : Addr) (b : Int32) (h : Heap) (hO : Old Z Z.heap.size h) (hb : (b = 1 ∨ b = 0)) (q1 : Exa Z h a "com/example/tidewire/tidewire/registration/Registration") (q2 : Fld Z h a "com/example/tidewire/tidewire/registration/Registration" "token" "Ljava/lang/String;" .null) (q3 : Fld Z h a "com/example/tidewire/tidewire/registration/Registration" "firstToken" "Ljava/lang/String;" .null) (q4 : Fld Z h a "com/example/tidewire/tidewire/registration/Registration" "senderId" "Ljava/lang/String;" .null) (q5 : Fld Z h a "com/example/tidewire/tidewire/registration/Registration" "app" "Ljava/lang/String;" .null) (q6 : Fld Z h a "com/example/tidewire/tidewire/registration/Registration" "canonicalToken" "Ljava/lang/String;" .null) (q7 : Fld Z h a "com/example/tidewire/tidewire/registration/Registration" "unregistered" "Z" (.int (0 : Int32))) (ge_a : Z.heap.size ≤ a) :
    Ct l Z consts_1 (⟨"com/example/tidewire/tidewire/registration/Registration", "<init>", "(Ljava/lang/String;Ljava/lang/String;Ljava/lang/String;Ljava/lang/String;Ljava/lang/String;Z)V"⟩ : MethodName) prog_13_method_1_code 7 (Option.none : Option Jvm.ClassFile.FieldType) ⟨2, 10, 180, 50⟩ #[(.ref a), (.ref u0), (.ref u1), (.ref u2), (.ref u3), (.ref u4), (.int b)] h [a] (fun rv' hp' so' => rv' = none ∧ so' = [] ∧ Exa Z hp' a "com/example/tidewire/tidewire/registration/Registration" ∧ Fld Z hp' a "com/example/tidewire/tidewire/registration/Registration" "token" "Ljava/lang/String;" (.ref u0) ∧ Fld Z hp' a "com/example/tidewire/tidewire/registration/Registration" "canonicalToken" "Ljava/lang/String;" (.ref u4)) := by
  refine Ct.mk "com/example/tidewire/tidewire/registration/Registration" "<init>" rfl rfl (a0 := a0) (plainFor_of_name opn5) hO hE (fun x q => by simp at q; subst q; exact ge_a) ?_
  intro K T W
  rw [oef_orm_rgInit]
  refine gAloadN W d12_0 rfl rfl rfl ?_
  refine wSpecial (y := (⟨"java/lang/Record", "<init>", "()V"⟩ : MethodName)) (Wd := 0) (a := a) (argsL := []) (rest := []) W d12_1 rfl (ow57 hw) (ow58 hw) (ow61 hw) (by decide) (Cb.ct (orm_rec l Z a0 hw hE (a) h W.old  ) (ow61 hw) (ow60 hw) hE (by decide) (by decide)) (by simp) rfl (lenOf opd5 rfl) rfl (Nat.le_of_eq rfl) (by decide) (by decide) rfl fun v341 so342 T337 h339 W338 kp340 sp343 q344 => ?_
  obtain ⟨rfl, rfl⟩ := q344
  show Go K _ T337 4 #[.val (.ref a), .val (.ref u0), .val (.ref u1), .val (.ref u2), .val (.ref u3), .val (.ref u4), .val (.int b)] []
  refine gAloadN W338 d12_4 rfl rfl rfl ?_
  refine wLdcS (vs := [(.int 116), (.int 111), (.int 107), (.int 101), (.int 110)]) (z := 5) (n := 20) W338 d12_5 (ow63 hw) (owS hw) hE (by decide) (by decide) (by decide) (by decide) (by decide) (by decide) (by decide) (by decide) rfl fun T345 h347 a348 t349 k350 W346 E351 A352 f353 f354 f355 ne356 => ?_
  refine wStatic (y := (⟨"java/util/Objects", "requireNonNull", "(Ljava/lang/Object;Ljava/lang/String;)Ljava/lang/Object;"⟩ : MethodName)) (Wd := 0) (argsL := [(.ref u0), (.ref a348)]) (rest := []) W346 d12_7 (ow64 hw) (ow65 hw) (ow66 hw) (ow67 hw) (by decide) (Cb.ct (orm_rnn l Z a0 hw hE (u0) (a348) h347 W346.old  ) (ow67 hw) (ow66 hw) hE (by decide) (by decide)) (by simp) rfl (lenOf opd6 rfl) rfl (Nat.le_of_eq rfl) (by decide) (by decide) rfl fun v361 so362 T357 h359 W358 kp360 sp363 q364 => ?_
  obtain ⟨rfl, rfl⟩ := q364
  show Go K _ T357 10 #[.val (.ref a), .val (.ref u0), .val (.ref u1), .val (.ref u2), .val (.ref u3), .val (.ref u4), .val (.int b)] [(.ref u0)]
  refine gPop W358 d12_10 rfl rfl ?_
  refine gAloadN W358 d12_11 rfl rfl rfl ?_
  refine wLdcS (vs := [(.int 102), (.int 105), (.int 114), (.int 115), (.int 116), (.int 84), (.int 111), (.int 107), (.int 101), (.int 110)]) (z := 10) (n := 40) W358 d12_12 (ow68 hw) (owS hw) hE (by decide) (by decide) (by decide) (by decide) (by decide) (by decide) (by decide) (by decide) rfl fun T365 h367 a368 t369 k370 W366 E371 A372 f373 f374 f375 ne376 => ?_
  refine wStatic (y := (⟨"java/util/Objects", "requireNonNull", "(Ljava/lang/Object;Ljava/lang/String;)Ljava/lang/Object;"⟩ : MethodName)) (Wd := 0) (argsL := [(.ref u1), (.ref a368)]) (rest := []) W366 d12_14 (ow64 hw) (ow65 hw) (ow66 hw) (ow67 hw) (by decide) (Cb.ct (orm_rnn l Z a0 hw hE (u1) (a368) h367 W366.old  ) (ow67 hw) (ow66 hw) hE (by decide) (by decide)) (by simp) rfl (lenOf opd6 rfl) rfl (Nat.le_of_eq rfl) (by decide) (by decide) rfl fun v381 so382 T377 h379 W378 kp380 sp383 q384 => ?_
  obtain ⟨rfl, rfl⟩ := q384
  show Go K _ T377 17 #[.val (.ref a), .val (.ref u0), .val (.ref u1), .val (.ref u2), .val (.ref u3), .val (.ref u4), .val (.int b)] [(.ref u1)]
  refine gPop W378 d12_17 rfl rfl ?_
  refine gAloadN W378 d12_18 rfl rfl rfl ?_
  refine wLdcS (vs := [(.int 115), (.int 101), (.int 110), (.int 100), (.int 101), (.int 114), (.int 73), (.int 100)]) (z := 8) (n := 32) W378 d12_19 (ow69 hw) (owS hw) hE (by decide) (by decide) (by decide) (by decide) (by decide) (by decide) (by decide) (by decide) rfl fun T385 h387 a388 t389 k390 W386 E391 A392 f393 f394 f395 ne396 => ?_
  refine wStatic (y := (⟨"java/util/Objects", "requireNonNull", "(Ljava/lang/Object;Ljava/lang/String;)Ljava/lang/Object;"⟩ : MethodName)) (Wd := 0) (argsL := [(.ref u2), (.ref a388)]) (rest := []) W386 d12_21 (ow64 hw) (ow65 hw) (ow66 hw) (ow67 hw) (by decide) (Cb.ct (orm_rnn l Z a0 hw hE (u2) (a388) h387 W386.old  ) (ow67 hw) (ow66 hw) hE (by decide) (by decide)) (by simp) rfl (lenOf opd6 rfl) rfl (Nat.le_of_eq rfl) (by decide) (by decide) rfl fun v401 so402 T397 h399 W398 kp400 sp403 q404 => ?_
  obtain ⟨rfl, rfl⟩ := q404
  show Go K _ T397 24 #[.val (.ref a), .val (.ref u0), .val (.ref u1), .val (.ref u2), .val (.ref u3), .val (.ref u4), .val (.int b)] [(.ref u2)]
  refine gPop W398 d12_24 rfl rfl ?_
  refine gAload W398 d12_25 rfl rfl rfl ?_
  refine wLdcS (vs := [(.int 97), (.int 112), (.int 112)]) (z := 3) (n := 12) W398 d12_27 (ow70 hw) (owS hw) hE (by decide) (by decide) (by decide) (by decide) (by decide) (by decide) (by decide) (by decide) rfl fun T405 h407 a408 t409 k410 W406 E411 A412 f413 f414 f415 ne416 => ?_
  refine wStatic (y := (⟨"java/util/Objects", "requireNonNull", "(Ljava/lang/Object;Ljava/lang/String;)Ljava/lang/Object;"⟩ : MethodName)) (Wd := 0) (argsL := [(.ref u3), (.ref a408)]) (rest := []) W406 d12_29 (ow64 hw) (ow65 hw) (ow66 hw) (ow67 hw) (by decide) (Cb.ct (orm_rnn l Z a0 hw hE (u3) (a408) h407 W406.old  ) (ow67 hw) (ow66 hw) hE (by decide) (by decide)) (by simp) rfl (lenOf opd6 rfl) rfl (Nat.le_of_eq rfl) (by decide) (by decide) rfl fun v421 so422 T417 h419 W418 kp420 sp423 q424 => ?_
  obtain ⟨rfl, rfl⟩ := q424
  show Go K _ T417 32 #[.val (.ref a), .val (.ref u0), .val (.ref u1), .val (.ref u2), .val (.ref u3), .val (.ref u4), .val (.int b)] [(.ref u3)]
  refine gPop W418 d12_32 rfl rfl ?_
  refine gAload W418 d12_33 rfl rfl rfl ?_
  refine wLdcS (vs := [(.int 99), (.int 97), (.int 110), (.int 111), (.int 110), (.int 105), (.int 99), (.int 97), (.int 108), (.int 84), (.int 111), (.int 107), (.int 101), (.int 110)]) (z := 14) (n := 56) W418 d12_35 (ow71 hw) (owS hw) hE (by decide) (by decide) (by decide) (by decide) (by decide) (by decide) (by decide) (by decide) rfl fun T425 h427 a428 t429 k430 W426 E431 A432 f433 f434 f435 ne436 => ?_
  refine wStatic (y := (⟨"java/util/Objects", "requireNonNull", "(Ljava/lang/Object;Ljava/lang/String;)Ljava/lang/Object;"⟩ : MethodName)) (Wd := 0) (argsL := [(.ref u4), (.ref a428)]) (rest := []) W426 d12_37 (ow64 hw) (ow65 hw) (ow66 hw) (ow67 hw) (by decide) (Cb.ct (orm_rnn l Z a0 hw hE (u4) (a428) h427 W426.old  ) (ow67 hw) (ow66 hw) hE (by decide) (by decide)) (by simp) rfl (lenOf opd6 rfl) rfl (Nat.le_of_eq rfl) (by decide) (by decide) rfl fun v441 so442 T437 h439 W438 kp440 sp443 q444 => ?_
  obtain ⟨rfl, rfl⟩ := q444
  show Go K _ T437 40 #[.val (.ref a), .val (.ref u0), .val (.ref u1), .val (.ref u2), .val (.ref u3), .val (.ref u4), .val (.int b)] [(.ref u4)]
  refine gPop W438 d12_40 rfl rfl ?_
  refine gAloadN W438 d12_41 rfl rfl rfl ?_
  refine gAloadN W438 d12_42 rfl rfl rfl ?_
  have f445 := q2.keep kp340 nin0
  have f446 := f445.ext E351
  have f447 := f446.keep kp360 nin0
  have f448 := f447.ext E371
  have f449 := f448.keep kp380 nin0
  have f450 := f449.ext E391
  have f451 := f450.keep kp400 nin0
  have f452 := f451.ext E411
  have f453 := f452.keep kp420 nin0
  have f454 := f453.ext E431
  have f455 := f454.keep kp440 nin0
  have f456 := q1.keep kp340
  have f457 := f456.ext E351
  have f458 := f457.keep kp360
  have f459 := f458.ext E371
  have f460 := f459.keep kp380
  have f461 := f460.ext E391
  have f462 := f461.keep kp400
  have f463 := f462.ext E411
  have f464 := f463.keep kp420
  have f465 := f464.ext E431
  have f466 := f465.keep kp440
  refine wPutF (ty := .object "java/lang/String") W438 d12_43 (ow72 hw) Via.refl (by simp) f455 f466 (Or.inr ⟨(ow73 hw), rfl, rfl⟩) (ow52 hw) (by decide) rfl rfl rfl fun T467 h469 W468 wr470 => ?_
  have f471 := Fld.same wr470 f455
  refine gAloadN W468 d12_46 rfl rfl rfl ?_
  refine gAloadN W468 d12_47 rfl rfl rfl ?_
  have f472 := q3.keep kp340 nin0
  have f473 := f472.ext E351
  have f474 := f473.keep kp360 nin0
  have f475 := f474.ext E371
  have f476 := f475.keep kp380 nin0
  have f477 := f476.ext E391
  have f478 := f477.keep kp400 nin0
  have f479 := f478.ext E411
  have f480 := f479.keep kp420 nin0
  have f481 := f480.ext E431
  have f482 := f481.keep kp440 nin0
  have f483 := f482.other wr470 (Or.inr (slot_ne (t := .object "java/lang/String") (t' := .object "java/lang/String") (Or.inr (ow75 hw)) (Or.inr (ow73 hw)) (by decide) (by decide) (by decide)))
  have f484 := f466.wr wr470
  refine wPutF (ty := .object "java/lang/String") W468 d12_48 (ow74 hw) Via.refl (by simp) f483 f484 (Or.inr ⟨(ow75 hw), rfl, rfl⟩) (ow52 hw) (by decide) rfl rfl rfl fun T485 h487 W486 wr488 => ?_
  have f489 := Fld.same wr488 f483
  refine gAloadN W486 d12_51 rfl rfl rfl ?_
  refine gAloadN W486 d12_52 rfl rfl rfl ?_
  have f490 := q4.keep kp340 nin0
  have f491 := f490.ext E351
  have f492 := f491.keep kp360 nin0
  have f493 := f492.ext E371
  have f494 := f493.keep kp380 nin0
  have f495 := f494.ext E391
  have f496 := f495.keep kp400 nin0
  have f497 := f496.ext E411
  have f498 := f497.keep kp420 nin0
  have f499 := f498.ext E431
  have f500 := f499.keep kp440 nin0
  have f501 := f500.other wr470 (Or.inr (slot_ne (t := .object "java/lang/String") (t' := .object "java/lang/String") (Or.inr (ow77 hw)) (Or.inr (ow73 hw)) (by decide) (by decide) (by decide)))
  have f502 := f501.other wr488 (Or.inr (slot_ne (t := .object "java/lang/String") (t' := .object "java/lang/String") (Or.inr (ow77 hw)) (Or.inr (ow75 hw)) (by decide) (by decide) (by decide)))
  have f503 := f484.wr wr488
  refine wPutF (ty := .object "java/lang/String") W486 d12_53 (ow76 hw) Via.refl (by simp) f502 f503 (Or.inr ⟨(ow77 hw), rfl, rfl⟩) (ow52 hw) (by decide) rfl rfl rfl fun T504 h506 W505 wr507 => ?_
  have f508 := Fld.same wr507 f502
  refine gAloadN W505 d12_56 rfl rfl rfl ?_
  refine gAload W505 d12_57 rfl rfl rfl ?_
  have f509 := q5.keep kp340 nin0
  have f510 := f509.ext E351
  have f511 := f510.keep kp360 nin0
  have f512 := f511.ext E371
  have f513 := f512.keep kp380 nin0
  have f514 := f513.ext E391
  have f515 := f514.keep kp400 nin0
  have f516 := f515.ext E411
  have f517 := f516.keep kp420 nin0
  have f518 := f517.ext E431
  have f519 := f518.keep kp440 nin0
  have f520 := f519.other wr470 (Or.inr (slot_ne (t := .object "java/lang/String") (t' := .object "java/lang/String") (Or.inr (ow79 hw)) (Or.inr (ow73 hw)) (by decide) (by decide) (by decide)))
  have f521 := f520.other wr488 (Or.inr (slot_ne (t := .object "java/lang/String") (t' := .object "java/lang/String") (Or.inr (ow79 hw)) (Or.inr (ow75 hw)) (by decide) (by decide) (by decide)))
  have f522 := f521.other wr507 (Or.inr (slot_ne (t := .object "java/lang/String") (t' := .object "java/lang/String") (Or.inr (ow79 hw)) (Or.inr (ow77 hw)) (by decide) (by decide) (by decide)))
  have f523 := f503.wr wr507
  refine wPutF (ty := .object "java/lang/String") W505 d12_59 (ow78 hw) Via.refl (by simp) f522 f523 (Or.inr ⟨(ow79 hw), rfl, rfl⟩) (ow52 hw) (by decide) rfl rfl rfl fun T524 h526 W525 wr527 => ?_
  have f528 := Fld.same wr527 f522
  refine gAloadN W525 d12_62 rfl rfl rfl ?_
  refine gAload W525 d12_63 rfl rfl rfl ?_
  have f529 := q6.keep kp340 nin0
  have f530 := f529.ext E351
  have f531 := f530.keep kp360 nin0
  have f532 := f531.ext E371
  have f533 := f532.keep kp380 nin0
  have f534 := f533.ext E391
  have f535 := f534.keep kp400 nin0
  have f536 := f535.ext E411
  have f537 := f536.keep kp420 nin0
  have f538 := f537.ext E431
  have f539 := f538.keep kp440 nin0
  have f540 := f539.other wr470 (Or.inr (slot_ne (t := .object "java/lang/String") (t' := .object "java/lang/String") (Or.inr (ow81 hw)) (Or.inr (ow73 hw)) (by decide) (by decide) (by decide)))
  have f541 := f540.other wr488 (Or.inr (slot_ne (t := .object "java/lang/String") (t' := .object "java/lang/String") (Or.inr (ow81 hw)) (Or.inr (ow75 hw)) (by decide) (by decide) (by decide)))
  have f542 := f541.other wr507 (Or.inr (slot_ne (t := .object "java/lang/String") (t' := .object "java/lang/String") (Or.inr (ow81 hw)) (Or.inr (ow77 hw)) (by decide) (by decide) (by decide)))
  have f543 := f542.other wr527 (Or.inr (slot_ne (t := .object "java/lang/String") (t' := .object "java/lang/String") (Or.inr (ow81 hw)) (Or.inr (ow79 hw)) (by decide) (by decide) (by decide)))
  have f544 := f523.wr wr527
  refine wPutF (ty := .object "java/lang/String") W525 d12_65 (ow80 hw) Via.refl (by simp) f543 f544 (Or.inr ⟨(ow81 hw), rfl, rfl⟩) (ow52 hw) (by decide) rfl rfl rfl fun T545 h547 W546 wr548 => ?_
  have f549 := Fld.same wr548 f543
  refine gAloadN W546 d12_68 rfl rfl rfl ?_
  refine gIload W546 d12_69 rfl rfl ?_
  have f550 := q7.keep kp340 nin0
  have f551 := f550.ext E351
  have f552 := f551.keep kp360 nin0
  have f553 := f552.ext E371
  have f554 := f553.keep kp380 nin0
  have f555 := f554.ext E391
  have f556 := f555.keep kp400 nin0
  have f557 := f556.ext E411
  have f558 := f557.keep kp420 nin0
  have f559 := f558.ext E431
  have f560 := f559.keep kp440 nin0
  have f561 := f560.other wr470 (Or.inr (slot_ne (t := .boolean) (t' := .object "java/lang/String") (Or.inr (ow83 hw)) (Or.inr (ow73 hw)) (by decide) (by decide) (by decide)))
  have f562 := f561.other wr488 (Or.inr (slot_ne (t := .boolean) (t' := .object "java/lang/String") (Or.inr (ow83 hw)) (Or.inr (ow75 hw)) (by decide) (by decide) (by decide)))
  have f563 := f562.other wr507 (Or.inr (slot_ne (t := .boolean) (t' := .object "java/lang/String") (Or.inr (ow83 hw)) (Or.inr (ow77 hw)) (by decide) (by decide) (by decide)))
  have f564 := f563.other wr527 (Or.inr (slot_ne (t := .boolean) (t' := .object "java/lang/String") (Or.inr (ow83 hw)) (Or.inr (ow79 hw)) (by decide) (by decide) (by decide)))
  have f565 := f564.other wr548 (Or.inr (slot_ne (t := .boolean) (t' := .object "java/lang/String") (Or.inr (ow83 hw)) (Or.inr (ow81 hw)) (by decide) (by decide) (by decide)))
  have f566 := f544.wr wr548
  refine wPutF (ty := .boolean) W546 d12_71 (ow82 hw) Via.refl (by simp) f565 f566 (Or.inr ⟨(ow83 hw), rfl, rfl⟩) (ow52 hw) (by decide) (by rcases hb with rfl | rfl <;> rfl) (by rcases hb with rfl | rfl <;> rfl) rfl fun T567 h569 W568 wr570 => ?_
  have f571 := Fld.same wr570 f565
  have f572 := f566.wr wr570
  have f573 := f471.other wr488 (Or.inr (slot_ne (t := .object "java/lang/String") (t' := .object "java/lang/String") (Or.inr (ow73 hw)) (Or.inr (ow75 hw)) (by decide) (by decide) (by decide)))
  have f574 := f573.other wr507 (Or.inr (slot_ne (t := .object "java/lang/String") (t' := .object "java/lang/String") (Or.inr (ow73 hw)) (Or.inr (ow77 hw)) (by decide) (by decide) (by decide)))
  have f575 := f574.other wr527 (Or.inr (slot_ne (t := .object "java/lang/String") (t' := .object "java/lang/String") (Or.inr (ow73 hw)) (Or.inr (ow79 hw)) (by decide) (by decide) (by decide)))
  have f576 := f575.other wr548 (Or.inr (slot_ne (t := .object "java/lang/String") (t' := .object "java/lang/String") (Or.inr (ow73 hw)) (Or.inr (ow81 hw)) (by decide) (by decide) (by decide)))
  have f577 := f576.other wr570 (Or.inr (slot_ne (t := .object "java/lang/String") (t' := .boolean) (Or.inr (ow73 hw)) (Or.inr (ow83 hw)) (by decide) (by decide) (by decide)))
  have f578 := f549.other wr570 (Or.inr (slot_ne (t := .object "java/lang/String") (t' := .boolean) (Or.inr (ow81 hw)) (Or.inr (ow83 hw)) (by decide) (by decide) (by decide)))
  exact wRet0 (so := []) W568 d12_74 (by decide) (by decide) (fun _ q => nomatch q) ⟨rfl, rfl, f572, f577, f578⟩
theorem d15_0 : decode prog_13_method_2_code 0 = .ok (.aload_n 0, 1) := by decide +kernel
theorem d15_1 : decode prog_13_method_2_code 1 = .ok (.getfield 23, 3) := by decide +kernel
theorem d15_4 : decode prog_13_method_2_code 4 = .ok (.aload_n 0, 1) := by decide +kernel
theorem d15_5 : decode prog_13_method_2_code 5 = .ok (.getfield 34, 3) := by decide +kernel
theorem d15_8 : decode prog_13_method_2_code 8 = .ok (.invokevirtual 40, 3) := by decide +kernel
theorem opd7 : parseMethodDescriptor "(Ljava/lang/Object;)Z" = some ⟨[.object "java/lang/Object"], some (.boolean)⟩ := by decide +kernel
theorem ow89 {a0 : Array Value} {Z : State} (hw : ∀ d ∈ tables_1, d.before a0 Z = true) : (Jvm.Cond.methodLink "com/example/tidewire/tidewire/registration/Registration" (40 : Nat) ({ cls := "java/lang/String", name := "equals", desc := "(Ljava/lang/Object;)Z" } : Jvm.MethodName)).before a0 Z = true := hw _ (List.mem_of_getElem? (i := 89) rfl)
theorem ow90 {a0 : Array Value} {Z : State} (hw : ∀ d ∈ tables_1, d.before a0 Z = true) : (Jvm.Cond.declares ({ cls := "java/lang/String", name := "equals", desc := "(Ljava/lang/Object;)Z" } : Jvm.MethodName)).before a0 Z = true := hw _ (List.mem_of_getElem? (i := 90) rfl)
theorem ow92 {a0 : Array Value} {Z : State} (hw : ∀ d ∈ tables_1, d.before a0 Z = true) : (Jvm.Cond.selects "java/lang/String" ({ cls := "java/lang/String", name := "equals", desc := "(Ljava/lang/Object;)Z" } : Jvm.MethodName) ({ cls := "java/lang/String", name := "equals", desc := "(Ljava/lang/Object;)Z" } : Jvm.MethodName)).before a0 Z = true := hw _ (List.mem_of_getElem? (i := 92) rfl)
theorem ow91 {a0 : Array Value} {Z : State} (hw : ∀ d ∈ tables_1, d.before a0 Z = true) : (Jvm.Cond.instanceMethod ({ cls := "java/lang/String", name := "equals", desc := "(Ljava/lang/Object;)Z" } : Jvm.MethodName)).before a0 Z = true := hw _ (List.mem_of_getElem? (i := 91) rfl)
theorem d15_11 : decode prog_13_method_2_code 11 = .ok (.ifCond .ne 7, 3) := by decide +kernel
theorem d15_18 : decode prog_13_method_2_code 18 = .ok (.iconst 0, 1) := by decide +kernel
theorem d15_19 : decode prog_13_method_2_code 19 = .ok (.ireturn, 1) := by decide +kernel
theorem d15_14 : decode prog_13_method_2_code 14 = .ok (.iconst 1, 1) := by decide +kernel
theorem d15_15 : decode prog_13_method_2_code 15 = .ok (.goto 4, 3) := by decide +kernel
theorem oef_orm_isR (m : MethodId) (a : Addr)  : (entryFrame m #[(.ref a)] 1).locals = #[.val (.ref a)] := by first | (simp [entryFrame, argsToLocals, Value.category]; done) | rfl
set_option maxRecDepth 65536 in
set_option maxHeartbeats 40000000 in
theorem orm_isR (l : Launch) (Z : State) (a0 : Array Value) (hw : ∀ d ∈ tables_1, d.before a0 Z = true) (hE : EW Z a0 consts_1) (a : Addr) (s : Addr) (t : Addr) (cs : List Int32) (ds : List Int32) (z : Int32) (h : Heap) (hO : Old Z Z.heap.size h) (SC : (Sta Z Z.heap "java/lang/String" "COMPACT_STRINGS" "Z" (.int z))) (hz : (¬ z = 0)) (q2 : Fld Z h a "com/example/tidewire/tidewire/registration/Registration" "token" "Ljava/lang/String;" (.ref s)) (q3 : Fld Z h a "com/example/tidewire/tidewire/registration/Registration" "canonicalToken" "Ljava/lang/String;" (.ref t)) (q4 : Str Z h s cs) (q5 : Str Z h t ds)  :
    Ct l Z consts_1 (⟨"com/example/tidewire/tidewire/registration/Registration", "isReplaced", "()Z"⟩ : MethodName) prog_13_method_2_code 1 (Option.some Jvm.ClassFile.FieldType.boolean) ⟨3, 0, 0, 45⟩ #[(.ref a)] h [] (fun rv' hp' so' => ∃ b : Int32, rv' = some (.int b) ∧ so' = [] ∧ ((b = 0 ∧ cs = ds) ∨ (b = 1 ∧ ¬ cs = ds))) := by
  refine Ct.mk "com/example/tidewire/tidewire/registration/Registration" "isReplaced" rfl rfl (a0 := a0) (plainFor_of_name opn5) hO hE (fun x q => nomatch q) ?_
  intro K T W
  rw [oef_orm_isR]
  refine gAloadN W d15_0 rfl rfl rfl ?_
  refine wGetF W d15_1 (ow72 hw) Via.refl q2 rfl fun T579 W580 => ?_
  refine gAloadN W580 d15_4 rfl rfl rfl ?_
  refine wGetF W580 d15_5 (ow80 hw) Via.refl q3 rfl fun T581 W582 => ?_
  refine wVirtual (y := (⟨"java/lang/String", "equals", "(Ljava/lang/Object;)Z"⟩ : MethodName)) (z := (⟨"java/lang/String", "equals", "(Ljava/lang/Object;)Z"⟩ : MethodName)) (Wd := 0) (a := s) (argsL := [(.ref t)]) (rest := []) W582 d15_8 (ow89 hw) (ow90 hw) (ow92 hw) (ow91 hw) (nfS (ow92 hw)) (by decide) (eqPay hw hE s t cs ds 0 q4 q5 (SC.ext W582.old.2) hz (by decide) (by decide)) q4.exa (by simp) rfl (lenOf opd7 rfl) rfl (Nat.le_of_eq rfl) (by decide) (by decide) rfl fun v587 so588 T583 h585 W584 kp586 sp589 q590 => ?_
  obtain ⟨b591, rfl, rfl, f592⟩ := q590
  show Go K _ T583 11 #[.val (.ref a)] [(.int b591)]
  rcases f592 with ⟨rfl, ee⟩ | ⟨rfl, ee⟩
  · refine gIfYes (pc' := 18) W584 d15_11 ((if0 _ _).trans (feq (by decide)).2) (by decide) rfl ?_
    refine gIconst (z := (0 : Int32)) W584 d15_18 rfl rfl ?_
    exact wRetI (so := []) (t := .boolean) W584 d15_19 (by simp) rfl (by decide) (by decide) (fun _ q => nomatch q) ⟨0, rfl, rfl, (Or.inl ⟨rfl, ee⟩)⟩
  · refine gIfNo W584 d15_11 ((if0 _ _).trans (teq rfl).2) rfl ?_
    refine gIconst (z := (1 : Int32)) W584 d15_14 rfl rfl ?_
    refine gGoto (pc' := 19) W584 d15_15 (by decide) rfl ?_
    exact wRetI (so := []) (t := .boolean) W584 d15_19 (by simp) rfl (by decide) (by decide) (fun _ q => nomatch q) ⟨1, rfl, rfl, (Or.inr ⟨rfl, ee⟩)⟩
theorem ow0 {a0 : Array Value} {Z : State} (hw : ∀ d ∈ tables_1, d.before a0 Z = true) : (Jvm.Cond.methodLink "com/example/tidewire/tidewire/registration/RegistrationIsReplacedPinLaw" (12 : Nat) ({ cls := "com/example/tidewire/tidewire/registration/RegistrationIsReplacedPinLaw", name := "mk", desc := "(IIII)Ljava/lang/String;" } : Jvm.MethodName)).before a0 Z = true := hw _ (List.mem_of_getElem? (i := 0) rfl)
theorem ow2 {a0 : Array Value} {Z : State} (hw : ∀ d ∈ tables_1, d.before a0 Z = true) : (Jvm.Cond.initialized "com/example/tidewire/tidewire/registration/RegistrationIsReplacedPinLaw").before a0 Z = true := hw _ (List.mem_of_getElem? (i := 2) rfl)
theorem ow3 {a0 : Array Value} {Z : State} (hw : ∀ d ∈ tables_1, d.before a0 Z = true) : (Jvm.Cond.code ({ cls := "com/example/tidewire/tidewire/registration/RegistrationIsReplacedPinLaw", name := "mk", desc := "(IIII)Ljava/lang/String;" } : Jvm.MethodName) method_2_code (5 : Nat) (Option.some (Jvm.ClassFile.FieldType.object "java/lang/String"))).before a0 Z = true := hw _ (List.mem_of_getElem? (i := 3) rfl)
theorem opd8 : parseMethodDescriptor "(IIII)Ljava/lang/String;" = some ⟨[.int, .int, .int, .int], some (.object "java/lang/String")⟩ := by decide +kernel
theorem ow1 {a0 : Array Value} {Z : State} (hw : ∀ d ∈ tables_1, d.before a0 Z = true) : (Jvm.Cond.static ({ cls := "com/example/tidewire/tidewire/registration/RegistrationIsReplacedPinLaw", name := "mk", desc := "(IIII)Ljava/lang/String;" } : Jvm.MethodName)).before a0 Z = true := hw _ (List.mem_of_getElem? (i := 1) rfl)
theorem ow37 {a0 : Array Value} {Z : State} (hw : ∀ d ∈ tables_1, d.before a0 Z = true) : (Jvm.Cond.methodLink "com/example/tidewire/tidewire/registration/RegistrationIsReplacedPinLaw" (18 : Nat) ({ cls := "java/lang/String", name := "valueOf", desc := "(C)Ljava/lang/String;" } : Jvm.MethodName)).before a0 Z = true := hw _ (List.mem_of_getElem? (i := 37) rfl)
theorem ow39 {a0 : Array Value} {Z : State} (hw : ∀ d ∈ tables_1, d.before a0 Z = true) : (Jvm.Cond.code ({ cls := "java/lang/String", name := "valueOf", desc := "(C)Ljava/lang/String;" } : Jvm.MethodName) jdk_42_method_139_code (1 : Nat) (Option.some (Jvm.ClassFile.FieldType.object "java/lang/String"))).before a0 Z = true := hw _ (List.mem_of_getElem? (i := 39) rfl)
theorem opd9 : parseMethodDescriptor "(C)Ljava/lang/String;" = some ⟨[.char], some (.object "java/lang/String")⟩ := by decide +kernel
theorem ow38 {a0 : Array Value} {Z : State} (hw : ∀ d ∈ tables_1, d.before a0 Z = true) : (Jvm.Cond.static ({ cls := "java/lang/String", name := "valueOf", desc := "(C)Ljava/lang/String;" } : Jvm.MethodName)).before a0 Z = true := hw _ (List.mem_of_getElem? (i := 38) rfl)
theorem ow53 {a0 : Array Value} {Z : State} (hw : ∀ d ∈ tables_1, d.before a0 Z = true) : (Jvm.Cond.initialized "com/example/tidewire/tidewire/registration/Registration").before a0 Z = true := hw _ (List.mem_of_getElem? (i := 53) rfl)
theorem ow51 {a0 : Array Value} {Z : State} (hw : ∀ d ∈ tables_1, d.before a0 Z = true) : (Jvm.Cond.classLink "com/example/tidewire/tidewire/registration/RegistrationIsReplacedPinLaw" (22 : Nat) "com/example/tidewire/tidewire/registration/Registration").before a0 Z = true := hw _ (List.mem_of_getElem? (i := 51) rfl)
theorem ow54 {a0 : Array Value} {Z : State} (hw : ∀ d ∈ tables_1, d.before a0 Z = true) : (Jvm.Cond.methodLink "com/example/tidewire/tidewire/registration/RegistrationIsReplacedPinLaw" (24 : Nat) ({ cls := "com/example/tidewire/tidewire/registration/Registration", name := "<init>", desc := "(Ljava/lang/String;Ljava/lang/String;Ljava/lang/String;Ljava/lang/String;Ljava/lang/String;Z)V" } : Jvm.MethodName)).before a0 Z = true := hw _ (List.mem_of_getElem? (i := 54) rfl)
theorem ow56 {a0 : Array Value} {Z : State} (hw : ∀ d ∈ tables_1, d.before a0 Z = true) : (Jvm.Cond.code ({ cls := "com/example/tidewire/tidewire/registration/Registration", name := "<init>", desc := "(Ljava/lang/String;Ljava/lang/String;Ljava/lang/String;Ljava/lang/String;Ljava/lang/String;Z)V" } : Jvm.MethodName) prog_13_method_1_code (7 : Nat) (Option.none : Option Jvm.ClassFile.FieldType)).before a0 Z = true := hw _ (List.mem_of_getElem? (i := 56) rfl)
theorem opd10 : parseMethodDescriptor "(Ljava/lang/String;Ljava/lang/String;Ljava/lang/String;Ljava/lang/String;Ljava/lang/String;Z)V" = some ⟨[.object "java/lang/String", .object "java/lang/String", .object "java/lang/String", .object "java/lang/String", .object "java/lang/String", .boolean], none⟩ := by decide +kernel
theorem ow55 {a0 : Array Value} {Z : State} (hw : ∀ d ∈ tables_1, d.before a0 Z = true) : (Jvm.Cond.instanceMethod ({ cls := "com/example/tidewire/tidewire/registration/Registration", name := "<init>", desc := "(Ljava/lang/String;Ljava/lang/String;Ljava/lang/String;Ljava/lang/String;Ljava/lang/String;Z)V" } : Jvm.MethodName)).before a0 Z = true := hw _ (List.mem_of_getElem? (i := 55) rfl)
theorem ow88 {a0 : Array Value} {Z : State} (hw : ∀ d ∈ tables_1, d.before a0 Z = true) : (Jvm.Cond.code ({ cls := "com/example/tidewire/tidewire/registration/Registration", name := "isReplaced", desc := "()Z" } : Jvm.MethodName) prog_13_method_2_code (1 : Nat) (Option.some Jvm.ClassFile.FieldType.boolean)).before a0 Z = true := hw _ (List.mem_of_getElem? (i := 88) rfl)
theorem opd11 : parseMethodDescriptor "()Z" = some ⟨[], some (.boolean)⟩ := by decide +kernel
theorem ow84 {a0 : Array Value} {Z : State} (hw : ∀ d ∈ tables_1, d.before a0 Z = true) : (Jvm.Cond.methodLink "com/example/tidewire/tidewire/registration/RegistrationIsReplacedPinLaw" (27 : Nat) ({ cls := "com/example/tidewire/tidewire/registration/Registration", name := "isReplaced", desc := "()Z" } : Jvm.MethodName)).before a0 Z = true := hw _ (List.mem_of_getElem? (i := 84) rfl)
theorem ow85 {a0 : Array Value} {Z : State} (hw : ∀ d ∈ tables_1, d.before a0 Z = true) : (Jvm.Cond.declares ({ cls := "com/example/tidewire/tidewire/registration/Registration", name := "isReplaced", desc := "()Z" } : Jvm.MethodName)).before a0 Z = true := hw _ (List.mem_of_getElem? (i := 85) rfl)
theorem ow87 {a0 : Array Value} {Z : State} (hw : ∀ d ∈ tables_1, d.before a0 Z = true) : (Jvm.Cond.selects "com/example/tidewire/tidewire/registration/Registration" ({ cls := "com/example/tidewire/tidewire/registration/Registration", name := "isReplaced", desc := "()Z" } : Jvm.MethodName) ({ cls := "com/example/tidewire/tidewire/registration/Registration", name := "isReplaced", desc := "()Z" } : Jvm.MethodName)).before a0 Z = true := hw _ (List.mem_of_getElem? (i := 87) rfl)
theorem ow86 {a0 : Array Value} {Z : State} (hw : ∀ d ∈ tables_1, d.before a0 Z = true) : (Jvm.Cond.instanceMethod ({ cls := "com/example/tidewire/tidewire/registration/Registration", name := "isReplaced", desc := "()Z" } : Jvm.MethodName)).before a0 Z = true := hw _ (List.mem_of_getElem? (i := 86) rfl)
theorem oef_orm_law (m : MethodId) (p0 : Int32) (p1 : Int32) (p2 : Int32) (p3 : Int32)  : (entryFrame m #[(.int p0), (.int p1), (.int p2), (.int p3)] maxLocals).locals = #[.val (.int p0), .val (.int p1), .val (.int p2), .val (.int p3), .unset, .unset, .unset, .unset, .unset, .unset, .unset, .unset, .unset, .unset, .unset, .unset, .unset, .unset, .unset, .unset, .unset] := by first | (simp [entryFrame, argsToLocals, Value.category, maxLocals]; done) | rfl
set_option maxRecDepth 65536 in
set_option maxHeartbeats 40000000 in
theorem orm_law (l : Launch) (Z : State) (a0 : Array Value) (hw : ∀ d ∈ tables_1, d.before a0 Z = true) (hE : EW Z a0 consts_1) (p0 : Int32) (p1 : Int32) (p2 : Int32) (p3 : Int32) (z : Int32) (h : Heap) (hO : Old Z Z.heap.size h) (SC : (Sta Z Z.heap "java/lang/String" "COMPACT_STRINGS" "Z" (.int z))) (hz : (¬ z = 0))  :
    Ct l Z consts_1 x code maxLocals ret room_1 #[(.int p0), (.int p1), (.int p2), (.int p3)] h [] (fun rv' hp' so' => rv' = some (.int (1 : Int32)) ∧ so' = []) := by
  refine Ct.mk "com/example/tidewire/tidewire/registration/RegistrationIsReplacedPinLaw" "law" rfl rfl (a0 := a0) (plainFor_of_name opn2) hO hE (fun x q => nomatch q) ?_
  intro K T W
  rw [oef_orm_law]
  refine gIloadN W at_0 rfl rfl ?_
  refine gSipush (z := (255 : Int32)) W at_1 rfl rfl ?_
  obtain ⟨v593, e594⟩ : ∃ v : Int32, p0 &&& (255 : Int32) = v := ⟨_, rfl⟩
  refine gIand W at_4 e594 rfl ?_
  have bb595 := B8.and e594
  refine gIstore (ls' := #[.val (.int p0), .val (.int p1), .val (.int p2), .val (.int p3), .val (.int v593), .unset, .unset, .unset, .unset, .unset, .unset, .unset, .unset, .unset, .unset, .unset, .unset, .unset, .unset, .unset, .unset]) W at_5 rfl rfl ?_
  refine gIloadN W at_7 rfl rfl ?_
  refine gBipush (z := (8 : Int32)) W at_8 rfl rfl ?_
  obtain ⟨v596, e597⟩ : ∃ v : Int32, (p0.toUInt32 >>> ((8 : Int32) &&& 31).toUInt32).toInt32 = v := ⟨_, rfl⟩
  refine gIushr W at_10 e597 rfl ?_
  refine gSipush (z := (255 : Int32)) W at_11 rfl rfl ?_
  obtain ⟨v598, e599⟩ : ∃ v : Int32, v596 &&& (255 : Int32) = v := ⟨_, rfl⟩
  refine gIand W at_14 e599 rfl ?_
  have bb600 := B8.and e599
  refine gIstore (ls' := #[.val (.int p0), .val (.int p1), .val (.int p2), .val (.int p3), .val (.int v593), .val (.int v598), .unset, .unset, .unset, .unset, .unset, .unset, .unset, .unset, .unset, .unset, .unset, .unset, .unset, .unset, .unset]) W at_15 rfl rfl ?_
  refine gIloadN W at_17 rfl rfl ?_
  refine gBipush (z := (16 : Int32)) W at_18 rfl rfl ?_
  obtain ⟨v601, e602⟩ : ∃ v : Int32, (p0.toUInt32 >>> ((16 : Int32) &&& 31).toUInt32).toInt32 = v := ⟨_, rfl⟩
  refine gIushr W at_20 e602 rfl ?_
  refine gSipush (z := (255 : Int32)) W at_21 rfl rfl ?_
  obtain ⟨v603, e604⟩ : ∃ v : Int32, v601 &&& (255 : Int32) = v := ⟨_, rfl⟩
  refine gIand W at_24 e604 rfl ?_
  have bb605 := B8.and e604
  refine gIstore (ls' := #[.val (.int p0), .val (.int p1), .val (.int p2), .val (.int p3), .val (.int v593), .val (.int v598), .val (.int v603), .unset, .unset, .unset, .unset, .unset, .unset, .unset, .unset, .unset, .unset, .unset, .unset, .unset, .unset]) W at_25 rfl rfl ?_
  refine gIloadN W at_27 rfl rfl ?_
  refine gIconst (z := (5 : Int32)) W at_28 rfl rfl ?_
  obtain ⟨v606, e607⟩ : ∃ v : Int32, (p2.toUInt32 >>> ((5 : Int32) &&& 31).toUInt32).toInt32 = v := ⟨_, rfl⟩
  refine gIushr W at_29 e607 rfl ?_
  refine gIconst (z := (1 : Int32)) W at_30 rfl rfl ?_
  obtain ⟨v608, e609⟩ : ∃ v : Int32, v606 &&& (1 : Int32) = v := ⟨_, rfl⟩
  refine gIand W at_31 e609 rfl ?_
  suffices k612 : ∀ b610 : Int32, (b610 = (255 : Int32) ∧ v608 = (0 : Int32)) ∨ (b610 = (0 : Int32) ∧ ¬ v608 = (0 : Int32)) → Go K (Pst Z consts_1 [] K.2.2.1 room_1.cells room_1.slots (fun rv' hp' so' => rv' = some (.int (1 : Int32)) ∧ so' = [])) T 42 #[.val (.int p0), .val (.int p1), .val (.int p2), .val (.int p3), .val (.int v593), .val (.int v598), .val (.int v603), .unset, .unset, .unset, .unset, .unset, .unset, .unset, .unset, .unset, .unset, .unset, .unset, .unset, .unset] [(.int b610)] by
    by_cases c613 : v608 = (0 : Int32)
    · refine gIfYes (pc' := 39) W at_32 ((if0 _ _).trans (teq c613).1) (by decide) rfl ?_
      refine gSipush (z := (255 : Int32)) W at_39 rfl rfl ?_
      exact k612 _ (Or.inl ⟨rfl, c613⟩)
    · refine gIfNo W at_32 ((if0 _ _).trans (feq c613).1) rfl ?_
      refine gIconst (z := (0 : Int32)) W at_35 rfl rfl ?_
      refine gGoto (pc' := 42) W at_36 (by decide) rfl ?_
      exact k612 _ (Or.inr ⟨rfl, c613⟩)
  intro b610 hb611
  refine gIstore (ls' := #[.val (.int p0), .val (.int p1), .val (.int p2), .val (.int p3), .val (.int v593), .val (.int v598), .val (.int v603), .val (.int b610), .unset, .unset, .unset, .unset, .unset, .unset, .unset, .unset, .unset, .unset, .unset, .unset, .unset]) W at_42 rfl rfl ?_
  refine gIloadN W at_44 rfl rfl ?_
  refine gIload W at_45 rfl rfl ?_
  obtain ⟨v614, e615⟩ : ∃ v : Int32, p1 &&& b610 = v := ⟨_, rfl⟩
  refine gIand W at_47 e615 rfl ?_
  have bb616 : B8 v614 := by
    rcases hb611 with ⟨rfl, -⟩ | ⟨rfl, -⟩
    · exact B8.and e615
    · rw [← e615, Int32.and_zero]; exact ⟨by decide, by decide⟩
  refine gIstore (ls' := #[.val (.int p0), .val (.int p1), .val (.int p2), .val (.int p3), .val (.int v593), .val (.int v598), .val (.int v603), .val (.int b610), .val (.int v614), .unset, .unset, .unset, .unset, .unset, .unset, .unset, .unset, .unset, .unset, .unset, .unset]) W at_48 rfl rfl ?_
  refine gIloadN W at_50 rfl rfl ?_
  refine gBipush (z := (8 : Int32)) W at_51 rfl rfl ?_
  obtain ⟨v617, e618⟩ : ∃ v : Int32, (p1.toUInt32 >>> ((8 : Int32) &&& 31).toUInt32).toInt32 = v := ⟨_, rfl⟩
  refine gIushr W at_53 e618 rfl ?_
  refine gIload W at_54 rfl rfl ?_
  obtain ⟨v619, e620⟩ : ∃ v : Int32, v617 &&& b610 = v := ⟨_, rfl⟩
  refine gIand W at_56 e620 rfl ?_
  have bb621 : B8 v619 := by
    rcases hb611 with ⟨rfl, -⟩ | ⟨rfl, -⟩
    · exact B8.and e620
    · rw [← e620, Int32.and_zero]; exact ⟨by decide, by decide⟩
  refine gIstore (ls' := #[.val (.int p0), .val (.int p1), .val (.int p2), .val (.int p3), .val (.int v593), .val (.int v598), .val (.int v603), .val (.int b610), .val (.int v614), .val (.int v619), .unset, .unset, .unset, .unset, .unset, .unset, .unset, .unset, .unset, .unset, .unset]) W at_57 rfl rfl ?_
  refine gIloadN W at_59 rfl rfl ?_
  refine gBipush (z := (16 : Int32)) W at_60 rfl rfl ?_
  obtain ⟨v622, e623⟩ : ∃ v : Int32, (p1.toUInt32 >>> ((16 : Int32) &&& 31).toUInt32).toInt32 = v := ⟨_, rfl⟩
  refine gIushr W at_62 e623 rfl ?_
  refine gIload W at_63 rfl rfl ?_
  obtain ⟨v624, e625⟩ : ∃ v : Int32, v622 &&& b610 = v := ⟨_, rfl⟩
  refine gIand W at_65 e625 rfl ?_
  have bb626 : B8 v624 := by
    rcases hb611 with ⟨rfl, -⟩ | ⟨rfl, -⟩
    · exact B8.and e625
    · rw [← e625, Int32.and_zero]; exact ⟨by decide, by decide⟩
  refine gIstore (ls' := #[.val (.int p0), .val (.int p1), .val (.int p2), .val (.int p3), .val (.int v593), .val (.int v598), .val (.int v603), .val (.int b610), .val (.int v614), .val (.int v619), .val (.int v624), .unset, .unset, .unset, .unset, .unset, .unset, .unset, .unset, .unset, .unset]) W at_66 rfl rfl ?_
  refine gIloadN W at_68 rfl rfl ?_
  refine gIconst (z := (3 : Int32)) W at_69 rfl rfl ?_
  obtain ⟨v627, e628⟩ : ∃ v : Int32, p2 &&& (3 : Int32) = v := ⟨_, rfl⟩
  refine gIand W at_70 e628 rfl ?_
  have htl := and3 e628
  refine gIstore (ls' := #[.val (.int p0), .val (.int p1), .val (.int p2), .val (.int p3), .val (.int v593), .val (.int v598), .val (.int v603), .val (.int b610), .val (.int v614), .val (.int v619), .val (.int v624), .val (.int v627), .unset, .unset, .unset, .unset, .unset, .unset, .unset, .unset, .unset]) W at_71 rfl rfl ?_
  refine gIloadN W at_73 rfl rfl ?_
  refine gIconst (z := (2 : Int32)) W at_74 rfl rfl ?_
  obtain ⟨v629, e630⟩ : ∃ v : Int32, (p2.toUInt32 >>> ((2 : Int32) &&& 31).toUInt32).toInt32 = v := ⟨_, rfl⟩
  refine gIushr W at_75 e630 rfl ?_
  refine gIconst (z := (1 : Int32)) W at_76 rfl rfl ?_
  obtain ⟨v631, e632⟩ : ∃ v : Int32, v629 &&& (1 : Int32) = v := ⟨_, rfl⟩
  refine gIand W at_77 e632 rfl ?_
  suffices k633 : ∀ (T634 : State) (h636 : Heap) (cl : Int32), Wk l Z consts_1 "com/example/tidewire/tidewire/registration/RegistrationIsReplacedPinLaw" "law" code maxLocals ret room_1 [] h K [] T634 h636 0 0 → cl = 0 ∨ cl = 1 ∨ cl = 2 ∨ cl = 3 → Go K (Pst Z consts_1 [] K.2.2.1 room_1.cells room_1.slots (fun rv' hp' so' => rv' = some (.int (1 : Int32)) ∧ so' = [])) T634 91 #[.val (.int p0), .val (.int p1), .val (.int p2), .val (.int p3), .val (.int v593), .val (.int v598), .val (.int v603), .val (.int b610), .val (.int v614), .val (.int v619), .val (.int v624), .val (.int v627), .unset, .unset, .unset, .unset, .unset, .unset, .unset, .unset, .unset] [(.int cl)] by
    by_cases c638 : v631 = (0 : Int32)
    · refine gIfYes (pc' := 86) W at_78 ((if0 _ _).trans (teq c638).1) (by decide) rfl ?_
      refine gIloadN W at_86 rfl rfl ?_
      refine gIconst (z := (3 : Int32)) W at_87 rfl rfl ?_
      obtain ⟨v639, e640⟩ : ∃ v : Int32, (p2.toUInt32 >>> ((3 : Int32) &&& 31).toUInt32).toInt32 = v := ⟨_, rfl⟩
      refine gIushr W at_88 e640 rfl ?_
      refine gIconst (z := (3 : Int32)) W at_89 rfl rfl ?_
      obtain ⟨v641, e642⟩ : ∃ v : Int32, v639 &&& (3 : Int32) = v := ⟨_, rfl⟩
      refine gIand W at_90 e642 rfl ?_
      exact k633 _ _ (v641) ((W.mono (by decide) (by decide)).less (by simp)) (and3 e642)
    · refine gIfNo W at_78 ((if0 _ _).trans (feq c638).1) rfl ?_
      refine gIload W at_81 rfl rfl ?_
      refine gGoto (pc' := 91) W at_83 (by decide) rfl ?_
      exact k633 _ _ (v627) ((W.mono (by decide) (by decide)).less (by simp)) htl
  intro T634 h636 cl W635 f637
  refine gIstore (ls' := #[.val (.int p0), .val (.int p1), .val (.int p2), .val (.int p3), .val (.int v593), .val (.int v598), .val (.int v603), .val (.int b610), .val (.int v614), .val (.int v619), .val (.int v624), .val (.int v627), .val (.int cl), .unset, .unset, .unset, .unset, .unset, .unset, .unset, .unset]) W635 at_91 rfl rfl ?_
  refine gIload W635 at_93 rfl rfl ?_
  refine gIload W635 at_95 rfl rfl ?_
  refine gIload W635 at_97 rfl rfl ?_
  refine gIload W635 at_99 rfl rfl ?_
  refine wStatic (y := (⟨"com/example/tidewire/tidewire/registration/RegistrationIsReplacedPinLaw", "mk", "(IIII)Ljava/lang/String;"⟩ : MethodName)) (Wd := 0) (argsL := [(.int v627), (.int v593), (.int v598), (.int v603)]) (rest := []) W635 at_101 (ow0 hw) (ow1 hw) (ow2 hw) (ow3 hw) (by decide) (Cb.ct (orm_mk l Z a0 hw hE (v627) (v593) (v598) (v603) (z) h636 W635.old SC hz bb595 bb600 bb605 ) (ow3 hw) (ow2 hw) hE (by decide) (by decide)) (by simp) rfl (lenOf opd8 rfl) rfl (Nat.le_of_eq rfl) (by decide) (by decide) rfl fun v647 so648 T643 h645 W644 kp646 sp649 q650 => ?_
  obtain ⟨r651, rfl, rfl, f652, f653⟩ := q650
  show Go K _ T643 104 #[.val (.int p0), .val (.int p1), .val (.int p2), .val (.int p3), .val (.int v593), .val (.int v598), .val (.int v603), .val (.int b610), .val (.int v614), .val (.int v619), .val (.int v624), .val (.int v627), .val (.int cl), .unset, .unset, .unset, .unset, .unset, .unset, .unset, .unset] [(.ref r651)]
  refine gAstore (ls' := #[.val (.int p0), .val (.int p1), .val (.int p2), .val (.int p3), .val (.int v593), .val (.int v598), .val (.int v603), .val (.int b610), .val (.int v614), .val (.int v619), .val (.int v624), .val (.int v627), .val (.int cl), .val (.ref r651), .unset, .unset, .unset, .unset, .unset, .unset, .unset]) W644 at_104 rfl rfl rfl ?_
  refine gIload W644 at_106 rfl rfl ?_
  refine gIload W644 at_108 rfl rfl ?_
  refine gIload W644 at_110 rfl rfl ?_
  obtain ⟨v654, e655⟩ : ∃ v : Int32, v593 ^^^ v614 = v := ⟨_, rfl⟩
  refine gIxor W644 at_112 e655 rfl ?_
  have bb656 := B8.xor bb595 bb616 e655
  refine gIload W644 at_113 rfl rfl ?_
  refine gIload W644 at_115 rfl rfl ?_
  obtain ⟨v657, e658⟩ : ∃ v : Int32, v598 ^^^ v619 = v := ⟨_, rfl⟩
  refine gIxor W644 at_117 e658 rfl ?_
  have bb659 := B8.xor bb600 bb621 e658
  refine gIload W644 at_118 rfl rfl ?_
  refine gIload W644 at_120 rfl rfl ?_
  obtain ⟨v660, e661⟩ : ∃ v : Int32, v603 ^^^ v624 = v := ⟨_, rfl⟩
  refine gIxor W644 at_122 e661 rfl ?_
  have bb662 := B8.xor bb605 bb626 e661
  refine wStatic (y := (⟨"com/example/tidewire/tidewire/registration/RegistrationIsReplacedPinLaw", "mk", "(IIII)Ljava/lang/String;"⟩ : MethodName)) (Wd := 0) (argsL := [(.int cl), (.int v654), (.int v657), (.int v660)]) (rest := []) W644 at_123 (ow0 hw) (ow1 hw) (ow2 hw) (ow3 hw) (by decide) (Cb.ct (orm_mk l Z a0 hw hE (cl) (v654) (v657) (v660) (z) h645 W644.old SC hz bb656 bb659 bb662 ) (ow3 hw) (ow2 hw) hE (by decide) (by decide)) (by simp) rfl (lenOf opd8 rfl) rfl (Nat.le_of_eq rfl) (by decide) (by decide) rfl fun v667 so668 T663 h665 W664 kp666 sp669 q670 => ?_
  obtain ⟨r671, rfl, rfl, f672, f673⟩ := q670
  show Go K _ T663 126 #[.val (.int p0), .val (.int p1), .val (.int p2), .val (.int p3), .val (.int v593), .val (.int v598), .val (.int v603), .val (.int b610), .val (.int v614), .val (.int v619), .val (.int v624), .val (.int v627), .val (.int cl), .val (.ref r651), .unset, .unset, .unset, .unset, .unset, .unset, .unset] [(.ref r671)]
  refine gAstore (ls' := #[.val (.int p0), .val (.int p1), .val (.int p2), .val (.int p3), .val (.int v593), .val (.int v598), .val (.int v603), .val (.int b610), .val (.int v614), .val (.int v619), .val (.int v624), .val (.int v627), .val (.int cl), .val (.ref r651), .val (.ref r671), .unset, .unset, .unset, .unset, .unset, .unset]) W664 at_126 rfl rfl rfl ?_
  refine gIloadN W664 at_128 rfl rfl ?_
  refine gBipush (z := (24 : Int32)) W664 at_129 rfl rfl ?_
  obtain ⟨v674, e675⟩ : ∃ v : Int32, (p3.toUInt32 >>> ((24 : Int32) &&& 31).toUInt32).toInt32 = v := ⟨_, rfl⟩
  refine gIushr W664 at_131 e675 rfl ?_
  refine gIconst (z := (3 : Int32)) W664 at_132 rfl rfl ?_
  obtain ⟨v676, e677⟩ : ∃ v : Int32, v674 &&& (3 : Int32) = v := ⟨_, rfl⟩
  refine gIand W664 at_133 e677 rfl ?_
  refine gIloadN W664 at_134 rfl rfl ?_
  refine gSipush (z := (255 : Int32)) W664 at_135 rfl rfl ?_
  obtain ⟨v678, e679⟩ : ∃ v : Int32, p3 &&& (255 : Int32) = v := ⟨_, rfl⟩
  refine gIand W664 at_138 e679 rfl ?_
  have bb680 := B8.and e679
  refine gIloadN W664 at_139 rfl rfl ?_
  refine gBipush (z := (8 : Int32)) W664 at_140 rfl rfl ?_
  obtain ⟨v681, e682⟩ : ∃ v : Int32, (p3.toUInt32 >>> ((8 : Int32) &&& 31).toUInt32).toInt32 = v := ⟨_, rfl⟩
  refine gIushr W664 at_142 e682 rfl ?_
  refine gSipush (z := (255 : Int32)) W664 at_143 rfl rfl ?_
  obtain ⟨v683, e684⟩ : ∃ v : Int32, v681 &&& (255 : Int32) = v := ⟨_, rfl⟩
  refine gIand W664 at_146 e684 rfl ?_
  have bb685 := B8.and e684
  refine gIloadN W664 at_147 rfl rfl ?_
  refine gBipush (z := (16 : Int32)) W664 at_148 rfl rfl ?_
  obtain ⟨v686, e687⟩ : ∃ v : Int32, (p3.toUInt32 >>> ((16 : Int32) &&& 31).toUInt32).toInt32 = v := ⟨_, rfl⟩
  refine gIushr W664 at_150 e687 rfl ?_
  refine gSipush (z := (255 : Int32)) W664 at_151 rfl rfl ?_
  obtain ⟨v688, e689⟩ : ∃ v : Int32, v686 &&& (255 : Int32) = v := ⟨_, rfl⟩
  refine gIand W664 at_154 e689 rfl ?_
  have bb690 := B8.and e689
  refine wStatic (y := (⟨"com/example/tidewire/tidewire/registration/RegistrationIsReplacedPinLaw", "mk", "(IIII)Ljava/lang/String;"⟩ : MethodName)) (Wd := 0) (argsL := [(.int v676), (.int v678), (.int v683), (.int v688)]) (rest := []) W664 at_155 (ow0 hw) (ow1 hw) (ow2 hw) (ow3 hw) (by decide) (Cb.ct (orm_mk l Z a0 hw hE (v676) (v678) (v683) (v688) (z) h665 W664.old SC hz bb680 bb685 bb690 ) (ow3 hw) (ow2 hw) hE (by decide) (by decide)) (by simp) rfl (lenOf opd8 rfl) rfl (Nat.le_of_eq rfl) (by decide) (by decide) rfl fun v695 so696 T691 h693 W692 kp694 sp697 q698 => ?_
  obtain ⟨r699, rfl, rfl, f700, f701⟩ := q698
  show Go K _ T691 158 #[.val (.int p0), .val (.int p1), .val (.int p2), .val (.int p3), .val (.int v593), .val (.int v598), .val (.int v603), .val (.int b610), .val (.int v614), .val (.int v619), .val (.int v624), .val (.int v627), .val (.int cl), .val (.ref r651), .val (.ref r671), .unset, .unset, .unset, .unset, .unset, .unset] [(.ref r699)]
  refine gAstore (ls' := #[.val (.int p0), .val (.int p1), .val (.int p2), .val (.int p3), .val (.int v593), .val (.int v598), .val (.int v603), .val (.int b610), .val (.int v614), .val (.int v619), .val (.int v624), .val (.int v627), .val (.int cl), .val (.ref r651), .val (.ref r671), .val (.ref r699), .unset, .unset, .unset, .unset, .unset]) W692 at_158 rfl rfl rfl ?_
  refine gIloadN W692 at_160 rfl rfl ?_
  refine gBipush (z := (8 : Int32)) W692 at_161 rfl rfl ?_
  obtain ⟨v702, e703⟩ : ∃ v : Int32, (p3.toUInt32 >>> ((8 : Int32) &&& 31).toUInt32).toInt32 = v := ⟨_, rfl⟩
  refine gIushr W692 at_163 e703 rfl ?_
  refine gSipush (z := (255 : Int32)) W692 at_164 rfl rfl ?_
  obtain ⟨v704, e705⟩ : ∃ v : Int32, v702 &&& (255 : Int32) = v := ⟨_, rfl⟩
  refine gIand W692 at_167 e705 rfl ?_
  have bb706 := B8.and e705
  refine gI2C (z := v704) W692 at_168 bb706.i2c' rfl ?_
  refine wStatic (y := (⟨"java/lang/String", "valueOf", "(C)Ljava/lang/String;"⟩ : MethodName)) (Wd := 0) (argsL := [(.int v704)]) (rest := []) W692 at_169 (ow37 hw) (ow38 hw) (ow7 hw) (ow39 hw) (by decide) (Cb.ct (orm_valueOf l Z a0 hw hE (v704) (z) h693 W692.old bb706.2 SC hz ) (ow39 hw) (ow7 hw) hE (by decide) (by decide)) (by simp) rfl (lenOf opd9 rfl) rfl (Nat.le_of_eq rfl) (by decide) (by decide) rfl fun v711 so712 T707 h709 W708 kp710 sp713 q714 => ?_
  obtain ⟨r715, rfl, rfl, f716, f717⟩ := q714
  show Go K _ T707 172 #[.val (.int p0), .val (.int p1), .val (.int p2), .val (.int p3), .val (.int v593), .val (.int v598), .val (.int v603), .val (.int b610), .val (.int v614), .val (.int v619), .val (.int v624), .val (.int v627), .val (.int cl), .val (.ref r651), .val (.ref r671), .val (.ref r699), .unset, .unset, .unset, .unset, .unset] [(.ref r715)]
  refine gAstore (ls' := #[.val (.int p0), .val (.int p1), .val (.int p2), .val (.int p3), .val (.int v593), .val (.int v598), .val (.int v603), .val (.int b610), .val (.int v614), .val (.int v619), .val (.int v624), .val (.int v627), .val (.int cl), .val (.ref r651), .val (.ref r671), .val (.ref r699), .val (.ref r715), .unset, .unset, .unset, .unset]) W708 at_172 rfl rfl rfl ?_
  refine gIloadN W708 at_174 rfl rfl ?_
  refine gBipush (z := (16 : Int32)) W708 at_175 rfl rfl ?_
  obtain ⟨v718, e719⟩ : ∃ v : Int32, (p3.toUInt32 >>> ((16 : Int32) &&& 31).toUInt32).toInt32 = v := ⟨_, rfl⟩
  refine gIushr W708 at_177 e719 rfl ?_
  refine gSipush (z := (255 : Int32)) W708 at_178 rfl rfl ?_
  obtain ⟨v720, e721⟩ : ∃ v : Int32, v718 &&& (255 : Int32) = v := ⟨_, rfl⟩
  refine gIand W708 at_181 e721 rfl ?_
  have bb722 := B8.and e721
  refine gI2C (z := v720) W708 at_182 bb722.i2c' rfl ?_
  refine wStatic (y := (⟨"java/lang/String", "valueOf", "(C)Ljava/lang/String;"⟩ : MethodName)) (Wd := 0) (argsL := [(.int v720)]) (rest := []) W708 at_183 (ow37 hw) (ow38 hw) (ow7 hw) (ow39 hw) (by decide) (Cb.ct (orm_valueOf l Z a0 hw hE (v720) (z) h709 W708.old bb722.2 SC hz ) (ow39 hw) (ow7 hw) hE (by decide) (by decide)) (by simp) rfl (lenOf opd9 rfl) rfl (Nat.le_of_eq rfl) (by decide) (by decide) rfl fun v727 so728 T723 h725 W724 kp726 sp729 q730 => ?_
  obtain ⟨r731, rfl, rfl, f732, f733⟩ := q730
  show Go K _ T723 186 #[.val (.int p0), .val (.int p1), .val (.int p2), .val (.int p3), .val (.int v593), .val (.int v598), .val (.int v603), .val (.int b610), .val (.int v614), .val (.int v619), .val (.int v624), .val (.int v627), .val (.int cl), .val (.ref r651), .val (.ref r671), .val (.ref r699), .val (.ref r715), .unset, .unset, .unset, .unset] [(.ref r731)]
  refine gAstore (ls' := #[.val (.int p0), .val (.int p1), .val (.int p2), .val (.int p3), .val (.int v593), .val (.int v598), .val (.int v603), .val (.int b610), .val (.int v614), .val (.int v619), .val (.int v624), .val (.int v627), .val (.int cl), .val (.ref r651), .val (.ref r671), .val (.ref r699), .val (.ref r715), .val (.ref r731), .unset, .unset, .unset]) W724 at_186 rfl rfl rfl ?_
  refine gIloadN W724 at_188 rfl rfl ?_
  refine gBipush (z := (6 : Int32)) W724 at_189 rfl rfl ?_
  obtain ⟨v734, e735⟩ : ∃ v : Int32, (p2.toUInt32 >>> ((6 : Int32) &&& 31).toUInt32).toInt32 = v := ⟨_, rfl⟩
  refine gIushr W724 at_191 e735 rfl ?_
  refine gIconst (z := (1 : Int32)) W724 at_192 rfl rfl ?_
  obtain ⟨v736, e737⟩ : ∃ v : Int32, v734 &&& (1 : Int32) = v := ⟨_, rfl⟩
  refine gIand W724 at_193 e737 rfl ?_
  suffices k740 : ∀ b738 : Int32, (b738 = (0 : Int32) ∧ v736 = (0 : Int32)) ∨ (b738 = (1 : Int32) ∧ ¬ v736 = (0 : Int32)) → Go K (Pst Z consts_1 [] K.2.2.1 room_1.cells room_1.slots (fun rv' hp' so' => rv' = some (.int (1 : Int32)) ∧ so' = [])) T723 202 #[.val (.int p0), .val (.int p1), .val (.int p2), .val (.int p3), .val (.int v593), .val (.int v598), .val (.int v603), .val (.int b610), .val (.int v614), .val (.int v619), .val (.int v624), .val (.int v627), .val (.int cl), .val (.ref r651), .val (.ref r671), .val (.ref r699), .val (.ref r715), .val (.ref r731), .unset, .unset, .unset] [(.int b738)] by
    by_cases c741 : v736 = (0 : Int32)
    · refine gIfYes (pc' := 201) W724 at_194 ((if0 _ _).trans (teq c741).1) (by decide) rfl ?_
      refine gIconst (z := (0 : Int32)) W724 at_201 rfl rfl ?_
      exact k740 _ (Or.inl ⟨rfl, c741⟩)
    · refine gIfNo W724 at_194 ((if0 _ _).trans (feq c741).1) rfl ?_
      refine gIconst (z := (1 : Int32)) W724 at_197 rfl rfl ?_
      refine gGoto (pc' := 202) W724 at_198 (by decide) rfl ?_
      exact k740 _ (Or.inr ⟨rfl, c741⟩)
  intro b738 hb739
  refine gIstore (ls' := #[.val (.int p0), .val (.int p1), .val (.int p2), .val (.int p3), .val (.int v593), .val (.int v598), .val (.int v603), .val (.int b610), .val (.int v614), .val (.int v619), .val (.int v624), .val (.int v627), .val (.int cl), .val (.ref r651), .val (.ref r671), .val (.ref r699), .val (.ref r715), .val (.ref r731), .val (.int b738), .unset, .unset]) W724 at_202 rfl rfl ?_
  refine wNewO W724 at_204 (ow51 hw) (ow52 hw) (ow53 hw) (by decide) (by decide) rfl fun T742 h744 a745 W743 E746 g747 A748 D749  => ?_
  have f750 : Fld Z h744 a745 "com/example/tidewire/tidewire/registration/Registration" "token" "Ljava/lang/String;" .null := D749 (Or.inr (ow73 hw)) (ty := .object "java/lang/String") (by decide)
  have f751 : Fld Z h744 a745 "com/example/tidewire/tidewire/registration/Registration" "firstToken" "Ljava/lang/String;" .null := D749 (Or.inr (ow75 hw)) (ty := .object "java/lang/String") (by decide)
  have f752 : Fld Z h744 a745 "com/example/tidewire/tidewire/registration/Registration" "senderId" "Ljava/lang/String;" .null := D749 (Or.inr (ow77 hw)) (ty := .object "java/lang/String") (by decide)
  have f753 : Fld Z h744 a745 "com/example/tidewire/tidewire/registration/Registration" "app" "Ljava/lang/String;" .null := D749 (Or.inr (ow79 hw)) (ty := .object "java/lang/String") (by decide)
  have f754 : Fld Z h744 a745 "com/example/tidewire/tidewire/registration/Registration" "canonicalToken" "Ljava/lang/String;" .null := D749 (Or.inr (ow81 hw)) (ty := .object "java/lang/String") (by decide)
  have f755 : Fld Z h744 a745 "com/example/tidewire/tidewire/registration/Registration" "unregistered" "Z" (.int (0 : Int32)) := D749 (Or.inr (ow83 hw)) (ty := .boolean) (by decide)
  refine gDup W743 at_207 rfl rfl ?_
  refine gAload W743 at_208 rfl rfl rfl ?_
  refine gAload W743 at_210 rfl rfl rfl ?_
  refine gAload W743 at_212 rfl rfl rfl ?_
  refine gAload W743 at_214 rfl rfl rfl ?_
  refine gAload W743 at_216 rfl rfl rfl ?_
  refine gIload W743 at_218 rfl rfl ?_
  refine wSpecial (y := (⟨"com/example/tidewire/tidewire/registration/Registration", "<init>", "(Ljava/lang/String;Ljava/lang/String;Ljava/lang/String;Ljava/lang/String;Ljava/lang/String;Z)V"⟩ : MethodName)) (Wd := 1) (a := a745) (argsL := [(.ref r651), (.ref r699), (.ref r715), (.ref r731), (.ref r671), (.int b738)]) (rest := [(.ref a745)]) W743 at_220 rfl (ow54 hw) (ow55 hw) (ow56 hw) (by decide) (Cb.ct (orm_rgInit l Z a0 hw hE (a745) (r651) (r699) (r715) (r731) (r671) (b738) h744 W743.old (by rcases hb739 with ⟨h, -⟩ | ⟨h, -⟩ <;> simp [h]) A748 f750 f751 f752 f753 f754 f755 (Nat.le_trans W724.old.2.1 (Nat.le_of_eq g747.symm))) (ow56 hw) (ow53 hw) hE (by decide) (by decide)) (by simp) rfl (lenOf opd10 rfl) rfl (Nat.le_of_eq rfl) (by decide) (by decide) rfl fun v760 so761 T756 h758 W757 kp759 sp762 q763 => ?_
  obtain ⟨rfl, rfl, f764, f765, f766⟩ := q763
  show Go K _ T756 223 #[.val (.int p0), .val (.int p1), .val (.int p2), .val (.int p3), .val (.int v593), .val (.int v598), .val (.int v603), .val (.int b610), .val (.int v614), .val (.int v619), .val (.int v624), .val (.int v627), .val (.int cl), .val (.ref r651), .val (.ref r671), .val (.ref r699), .val (.ref r715), .val (.ref r731), .val (.int b738), .unset, .unset] [(.ref a745)]
  refine gAstore (ls' := #[.val (.int p0), .val (.int p1), .val (.int p2), .val (.int p3), .val (.int v593), .val (.int v598), .val (.int v603), .val (.int b610), .val (.int v614), .val (.int v619), .val (.int v624), .val (.int v627), .val (.int cl), .val (.ref r651), .val (.ref r671), .val (.ref r699), .val (.ref r715), .val (.ref r731), .val (.int b738), .val (.ref a745), .unset]) W757 at_223 rfl rfl rfl ?_
  refine gIload W757 at_225 rfl rfl ?_
  refine gIload W757 at_227 rfl rfl ?_
  suffices k767 : ∀ (T768 : State) (h770 : Heap) (sb : Int32), Wk l Z consts_1 "com/example/tidewire/tidewire/registration/RegistrationIsReplacedPinLaw" "law" code maxLocals ret room_1 [] h K [] T768 h770 34 400 → Fld Z h770 a745 "com/example/tidewire/tidewire/registration/Registration" "token" "Ljava/lang/String;" (.ref r651) → Fld Z h770 a745 "com/example/tidewire/tidewire/registration/Registration" "canonicalToken" "Ljava/lang/String;" (.ref r671) → Exa Z h770 a745 "com/example/tidewire/tidewire/registration/Registration" → Str Z h770 r651 (txt v627 v593 v598 v603) → Str Z h770 r671 (txt cl v654 v657 v660) → (sb = 1 ∧ txt v627 v593 v598 v603 = txt cl v654 v657 v660) ∨ (sb = 0 ∧ ¬ txt v627 v593 v598 v603 = txt cl v654 v657 v660) → Go K (Pst Z consts_1 [] K.2.2.1 room_1.cells room_1.slots (fun rv' hp' so' => rv' = some (.int (1 : Int32)) ∧ so' = [])) T768 270 #[.val (.int p0), .val (.int p1), .val (.int p2), .val (.int p3), .val (.int v593), .val (.int v598), .val (.int v603), .val (.int b610), .val (.int v614), .val (.int v619), .val (.int v624), .val (.int v627), .val (.int cl), .val (.ref r651), .val (.ref r671), .val (.ref r699), .val (.ref r715), .val (.ref r731), .val (.int b738), .val (.ref a745), .unset] [(.int sb)] by
    by_cases c777 : v627 = cl
    · refine gIcmpNo W757 at_229 (teq c777).2 rfl ?_
      refine gIload W757 at_232 rfl rfl ?_
      refine gIconst (z := (1 : Int32)) W757 at_234 rfl rfl ?_
      by_cases c778 : v627 < (1 : Int32)
      · refine gIcmpYes (pc' := 243) W757 at_235 (tlt c778).1 (by decide) rfl ?_
        refine gIload W757 at_243 rfl rfl ?_
        refine gIconst (z := (2 : Int32)) W757 at_245 rfl rfl ?_
        by_cases c779 : v627 < (2 : Int32)
        · refine gIcmpYes (pc' := 254) W757 at_246 (tlt c779).1 (by decide) rfl ?_
          refine gIload W757 at_254 rfl rfl ?_
          refine gIconst (z := (3 : Int32)) W757 at_256 rfl rfl ?_
          by_cases c780 : v627 < (3 : Int32)
          · refine gIcmpYes (pc' := 265) W757 at_257 (tlt c780).1 (by decide) rfl ?_
            refine gIconst (z := (1 : Int32)) W757 at_265 rfl rfl ?_
            refine gGoto (pc' := 270) W757 at_266 (by decide) rfl ?_
            have f781 := f653.keep kp666 nin0 (a0 := a0) alln
            have f782 := f781.keep kp694 nin0 (a0 := a0) alln
            have f783 := f782.keep kp710 nin0 (a0 := a0) alln
            have f784 := f783.keep kp726 nin0 (a0 := a0) alln
            have f785 := f784.ext E746
            have ne786 : r651 ≠ a745 := Nat.ne_of_lt (Nat.lt_of_lt_of_le f784.lt (Nat.le_of_eq g747.symm))
            have f787 := f785.keep kp759 (ninS ne786 nin0) (a0 := a0) (all1 ⟨_, _, A748, (ow52 hw)⟩ alln)
            have f788 := f673.keep kp694 nin0 (a0 := a0) alln
            have f789 := f788.keep kp710 nin0 (a0 := a0) alln
            have f790 := f789.keep kp726 nin0 (a0 := a0) alln
            have f791 := f790.ext E746
            have ne792 : r671 ≠ a745 := Nat.ne_of_lt (Nat.lt_of_lt_of_le f790.lt (Nat.le_of_eq g747.symm))
            have f793 := f791.keep kp759 (ninS ne792 nin0) (a0 := a0) (all1 ⟨_, _, A748, (ow52 hw)⟩ alln)
            exact k767 _ _ (1) ((W757.mono (by decide) (by decide)).less (by simp)) f765 f766 f764 f787 f793 (by rw [(same_iff htl f637 e655 e658 e661)]; simp [eq_true c777, eq_true c778, eq_true c779, eq_true c780])
          · refine gIcmpNo W757 at_257 (flt c780).1 rfl ?_
            refine gIload W757 at_260 rfl rfl ?_
            by_cases c794 : v624 = (0 : Int32)
            · refine gIfNo W757 at_262 ((if0 _ _).trans (teq c794).2) rfl ?_
              refine gIconst (z := (1 : Int32)) W757 at_265 rfl rfl ?_
              refine gGoto (pc' := 270) W757 at_266 (by decide) rfl ?_
              have f795 := f653.keep kp666 nin0 (a0 := a0) alln
              have f796 := f795.keep kp694 nin0 (a0 := a0) alln
              have f797 := f796.keep kp710 nin0 (a0 := a0) alln
              have f798 := f797.keep kp726 nin0 (a0 := a0) alln
              have f799 := f798.ext E746
              have ne800 : r651 ≠ a745 := Nat.ne_of_lt (Nat.lt_of_lt_of_le f798.lt (Nat.le_of_eq g747.symm))
              have f801 := f799.keep kp759 (ninS ne800 nin0) (a0 := a0) (all1 ⟨_, _, A748, (ow52 hw)⟩ alln)
              have f802 := f673.keep kp694 nin0 (a0 := a0) alln
              have f803 := f802.keep kp710 nin0 (a0 := a0) alln
              have f804 := f803.keep kp726 nin0 (a0 := a0) alln
              have f805 := f804.ext E746
              have ne806 : r671 ≠ a745 := Nat.ne_of_lt (Nat.lt_of_lt_of_le f804.lt (Nat.le_of_eq g747.symm))
              have f807 := f805.keep kp759 (ninS ne806 nin0) (a0 := a0) (all1 ⟨_, _, A748, (ow52 hw)⟩ alln)
              exact k767 _ _ (1) ((W757.mono (by decide) (by decide)).less (by simp)) f765 f766 f764 f801 f807 (by rw [(same_iff htl f637 e655 e658 e661)]; simp [eq_true c777, eq_true c778, eq_true c779, eq_false c780, eq_true c794])
            · refine gIfYes (pc' := 269) W757 at_262 ((if0 _ _).trans (feq c794).2) (by decide) rfl ?_
              refine gIconst (z := (0 : Int32)) W757 at_269 rfl rfl ?_
              have f808 := f653.keep kp666 nin0 (a0 := a0) alln
              have f809 := f808.keep kp694 nin0 (a0 := a0) alln
              have f810 := f809.keep kp710 nin0 (a0 := a0) alln
              have f811 := f810.keep kp726 nin0 (a0 := a0) alln
              have f812 := f811.ext E746
              have ne813 : r651 ≠ a745 := Nat.ne_of_lt (Nat.lt_of_lt_of_le f811.lt (Nat.le_of_eq g747.symm))
              have f814 := f812.keep kp759 (ninS ne813 nin0) (a0 := a0) (all1 ⟨_, _, A748, (ow52 hw)⟩ alln)
              have f815 := f673.keep kp694 nin0 (a0 := a0) alln
              have f816 := f815.keep kp710 nin0 (a0 := a0) alln
              have f817 := f816.keep kp726 nin0 (a0 := a0) alln
              have f818 := f817.ext E746
              have ne819 : r671 ≠ a745 := Nat.ne_of_lt (Nat.lt_of_lt_of_le f817.lt (Nat.le_of_eq g747.symm))
              have f820 := f818.keep kp759 (ninS ne819 nin0) (a0 := a0) (all1 ⟨_, _, A748, (ow52 hw)⟩ alln)
              exact k767 _ _ (0) ((W757.mono (by decide) (by decide)).less (by simp)) f765 f766 f764 f814 f820 (by rw [(same_iff htl f637 e655 e658 e661)]; simp [eq_true c777, eq_true c778, eq_true c779, eq_false c780, eq_false c794])
        · refine gIcmpNo W757 at_246 (flt c779).1 rfl ?_
          refine gIload W757 at_249 rfl rfl ?_
          by_cases c821 : v619 = (0 : Int32)
          · refine gIfNo W757 at_251 ((if0 _ _).trans (teq c821).2) rfl ?_
            refine gIload W757 at_254 rfl rfl ?_
            refine gIconst (z := (3 : Int32)) W757 at_256 rfl rfl ?_
            by_cases c822 : v627 < (3 : Int32)
            · refine gIcmpYes (pc' := 265) W757 at_257 (tlt c822).1 (by decide) rfl ?_
              refine gIconst (z := (1 : Int32)) W757 at_265 rfl rfl ?_
              refine gGoto (pc' := 270) W757 at_266 (by decide) rfl ?_
              have f823 := f653.keep kp666 nin0 (a0 := a0) alln
              have f824 := f823.keep kp694 nin0 (a0 := a0) alln
              have f825 := f824.keep kp710 nin0 (a0 := a0) alln
              have f826 := f825.keep kp726 nin0 (a0 := a0) alln
              have f827 := f826.ext E746
              have ne828 : r651 ≠ a745 := Nat.ne_of_lt (Nat.lt_of_lt_of_le f826.lt (Nat.le_of_eq g747.symm))
              have f829 := f827.keep kp759 (ninS ne828 nin0) (a0 := a0) (all1 ⟨_, _, A748, (ow52 hw)⟩ alln)
              have f830 := f673.keep kp694 nin0 (a0 := a0) alln
              have f831 := f830.keep kp710 nin0 (a0 := a0) alln
              have f832 := f831.keep kp726 nin0 (a0 := a0) alln
              have f833 := f832.ext E746
              have ne834 : r671 ≠ a745 := Nat.ne_of_lt (Nat.lt_of_lt_of_le f832.lt (Nat.le_of_eq g747.symm))
              have f835 := f833.keep kp759 (ninS ne834 nin0) (a0 := a0) (all1 ⟨_, _, A748, (ow52 hw)⟩ alln)
              exact k767 _ _ (1) ((W757.mono (by decide) (by decide)).less (by simp)) f765 f766 f764 f829 f835 (by rw [(same_iff htl f637 e655 e658 e661)]; simp [eq_true c777, eq_true c778, eq_false c779, eq_true c821, eq_true c822])
            · refine gIcmpNo W757 at_257 (flt c822).1 rfl ?_
              refine gIload W757 at_260 rfl rfl ?_
              by_cases c836 : v624 = (0 : Int32)
              · refine gIfNo W757 at_262 ((if0 _ _).trans (teq c836).2) rfl ?_
                refine gIconst (z := (1 : Int32)) W757 at_265 rfl rfl ?_
                refine gGoto (pc' := 270) W757 at_266 (by decide) rfl ?_
                have f837 := f653.keep kp666 nin0 (a0 := a0) alln
                have f838 := f837.keep kp694 nin0 (a0 := a0) alln
                have f839 := f838.keep kp710 nin0 (a0 := a0) alln
                have f840 := f839.keep kp726 nin0 (a0 := a0) alln
                have f841 := f840.ext E746
                have ne842 : r651 ≠ a745 := Nat.ne_of_lt (Nat.lt_of_lt_of_le f840.lt (Nat.le_of_eq g747.symm))
                have f843 := f841.keep kp759 (ninS ne842 nin0) (a0 := a0) (all1 ⟨_, _, A748, (ow52 hw)⟩ alln)
                have f844 := f673.keep kp694 nin0 (a0 := a0) alln
                have f845 := f844.keep kp710 nin0 (a0 := a0) alln
                have f846 := f845.keep kp726 nin0 (a0 := a0) alln
                have f847 := f846.ext E746
                have ne848 : r671 ≠ a745 := Nat.ne_of_lt (Nat.lt_of_lt_of_le f846.lt (Nat.le_of_eq g747.symm))
                have f849 := f847.keep kp759 (ninS ne848 nin0) (a0 := a0) (all1 ⟨_, _, A748, (ow52 hw)⟩ alln)
                exact k767 _ _ (1) ((W757.mono (by decide) (by decide)).less (by simp)) f765 f766 f764 f843 f849 (by rw [(same_iff htl f637 e655 e658 e661)]; simp [eq_true c777, eq_true c778, eq_false c779, eq_true c821, eq_false c822, eq_true c836])
              · refine gIfYes (pc' := 269) W757 at_262 ((if0 _ _).trans (feq c836).2) (by decide) rfl ?_
                refine gIconst (z := (0 : Int32)) W757 at_269 rfl rfl ?_
                have f850 := f653.keep kp666 nin0 (a0 := a0) alln
                have f851 := f850.keep kp694 nin0 (a0 := a0) alln
                have f852 := f851.keep kp710 nin0 (a0 := a0) alln
                have f853 := f852.keep kp726 nin0 (a0 := a0) alln
                have f854 := f853.ext E746
                have ne855 : r651 ≠ a745 := Nat.ne_of_lt (Nat.lt_of_lt_of_le f853.lt (Nat.le_of_eq g747.symm))
                have f856 := f854.keep kp759 (ninS ne855 nin0) (a0 := a0) (all1 ⟨_, _, A748, (ow52 hw)⟩ alln)
                have f857 := f673.keep kp694 nin0 (a0 := a0) alln
                have f858 := f857.keep kp710 nin0 (a0 := a0) alln
                have f859 := f858.keep kp726 nin0 (a0 := a0) alln
                have f860 := f859.ext E746
                have ne861 : r671 ≠ a745 := Nat.ne_of_lt (Nat.lt_of_lt_of_le f859.lt (Nat.le_of_eq g747.symm))
                have f862 := f860.keep kp759 (ninS ne861 nin0) (a0 := a0) (all1 ⟨_, _, A748, (ow52 hw)⟩ alln)
                exact k767 _ _ (0) ((W757.mono (by decide) (by decide)).less (by simp)) f765 f766 f764 f856 f862 (by rw [(same_iff htl f637 e655 e658 e661)]; simp [eq_true c777, eq_true c778, eq_false c779, eq_true c821, eq_false c822, eq_false c836])
          · refine gIfYes (pc' := 269) W757 at_251 ((if0 _ _).trans (feq c821).2) (by decide) rfl ?_
            refine gIconst (z := (0 : Int32)) W757 at_269 rfl rfl ?_
            have f863 := f653.keep kp666 nin0 (a0 := a0) alln
            have f864 := f863.keep kp694 nin0 (a0 := a0) alln
            have f865 := f864.keep kp710 nin0 (a0 := a0) alln
            have f866 := f865.keep kp726 nin0 (a0 := a0) alln
            have f867 := f866.ext E746
            have ne868 : r651 ≠ a745 := Nat.ne_of_lt (Nat.lt_of_lt_of_le f866.lt (Nat.le_of_eq g747.symm))
            have f869 := f867.keep kp759 (ninS ne868 nin0) (a0 := a0) (all1 ⟨_, _, A748, (ow52 hw)⟩ alln)
            have f870 := f673.keep kp694 nin0 (a0 := a0) alln
            have f871 := f870.keep kp710 nin0 (a0 := a0) alln
            have f872 := f871.keep kp726 nin0 (a0 := a0) alln
            have f873 := f872.ext E746
            have ne874 : r671 ≠ a745 := Nat.ne_of_lt (Nat.lt_of_lt_of_le f872.lt (Nat.le_of_eq g747.symm))
            have f875 := f873.keep kp759 (ninS ne874 nin0) (a0 := a0) (all1 ⟨_, _, A748, (ow52 hw)⟩ alln)
            exact k767 _ _ (0) ((W757.mono (by decide) (by decide)).less (by simp)) f765 f766 f764 f869 f875 (by rw [(same_iff htl f637 e655 e658 e661)]; simp [eq_true c777, eq_true c778, eq_false c779, eq_false c821])
      · refine gIcmpNo W757 at_235 (flt c778).1 rfl ?_
        refine gIload W757 at_238 rfl rfl ?_
        by_cases c876 : v614 = (0 : Int32)
        · refine gIfNo W757 at_240 ((if0 _ _).trans (teq c876).2) rfl ?_
          refine gIload W757 at_243 rfl rfl ?_
          refine gIconst (z := (2 : Int32)) W757 at_245 rfl rfl ?_
          by_cases c877 : v627 < (2 : Int32)
          · refine gIcmpYes (pc' := 254) W757 at_246 (tlt c877).1 (by decide) rfl ?_
            refine gIload W757 at_254 rfl rfl ?_
            refine gIconst (z := (3 : Int32)) W757 at_256 rfl rfl ?_
            by_cases c878 : v627 < (3 : Int32)
            · refine gIcmpYes (pc' := 265) W757 at_257 (tlt c878).1 (by decide) rfl ?_
              refine gIconst (z := (1 : Int32)) W757 at_265 rfl rfl ?_
              refine gGoto (pc' := 270) W757 at_266 (by decide) rfl ?_
              have f879 := f653.keep kp666 nin0 (a0 := a0) alln
              have f880 := f879.keep kp694 nin0 (a0 := a0) alln
              have f881 := f880.keep kp710 nin0 (a0 := a0) alln
              have f882 := f881.keep kp726 nin0 (a0 := a0) alln
              have f883 := f882.ext E746
              have ne884 : r651 ≠ a745 := Nat.ne_of_lt (Nat.lt_of_lt_of_le f882.lt (Nat.le_of_eq g747.symm))
              have f885 := f883.keep kp759 (ninS ne884 nin0) (a0 := a0) (all1 ⟨_, _, A748, (ow52 hw)⟩ alln)
              have f886 := f673.keep kp694 nin0 (a0 := a0) alln
              have f887 := f886.keep kp710 nin0 (a0 := a0) alln
              have f888 := f887.keep kp726 nin0 (a0 := a0) alln
              have f889 := f888.ext E746
              have ne890 : r671 ≠ a745 := Nat.ne_of_lt (Nat.lt_of_lt_of_le f888.lt (Nat.le_of_eq g747.symm))
              have f891 := f889.keep kp759 (ninS ne890 nin0) (a0 := a0) (all1 ⟨_, _, A748, (ow52 hw)⟩ alln)
              exact k767 _ _ (1) ((W757.mono (by decide) (by decide)).less (by simp)) f765 f766 f764 f885 f891 (by rw [(same_iff htl f637 e655 e658 e661)]; simp [eq_true c777, eq_false c778, eq_true c876, eq_true c877, eq_true c878])
            · refine gIcmpNo W757 at_257 (flt c878).1 rfl ?_
              refine gIload W757 at_260 rfl rfl ?_
              by_cases c892 : v624 = (0 : Int32)
              · refine gIfNo W757 at_262 ((if0 _ _).trans (teq c892).2) rfl ?_
                refine gIconst (z := (1 : Int32)) W757 at_265 rfl rfl ?_
                refine gGoto (pc' := 270) W757 at_266 (by decide) rfl ?_
                have f893 := f653.keep kp666 nin0 (a0 := a0) alln
                have f894 := f893.keep kp694 nin0 (a0 := a0) alln
                have f895 := f894.keep kp710 nin0 (a0 := a0) alln
                have f896 := f895.keep kp726 nin0 (a0 := a0) alln
                have f897 := f896.ext E746
                have ne898 : r651 ≠ a745 := Nat.ne_of_lt (Nat.lt_of_lt_of_le f896.lt (Nat.le_of_eq g747.symm))
                have f899 := f897.keep kp759 (ninS ne898 nin0) (a0 := a0) (all1 ⟨_, _, A748, (ow52 hw)⟩ alln)
                have f900 := f673.keep kp694 nin0 (a0 := a0) alln
                have f901 := f900.keep kp710 nin0 (a0 := a0) alln
                have f902 := f901.keep kp726 nin0 (a0 := a0) alln
                have f903 := f902.ext E746
                have ne904 : r671 ≠ a745 := Nat.ne_of_lt (Nat.lt_of_lt_of_le f902.lt (Nat.le_of_eq g747.symm))
                have f905 := f903.keep kp759 (ninS ne904 nin0) (a0 := a0) (all1 ⟨_, _, A748, (ow52 hw)⟩ alln)
                exact k767 _ _ (1) ((W757.mono (by decide) (by decide)).less (by simp)) f765 f766 f764 f899 f905 (by rw [(same_iff htl f637 e655 e658 e661)]; simp [eq_true c777, eq_false c778, eq_true c876, eq_true c877, eq_false c878, eq_true c892])
              · refine gIfYes (pc' := 269) W757 at_262 ((if0 _ _).trans (feq c892).2) (by decide) rfl ?_
                refine gIconst (z := (0 : Int32)) W757 at_269 rfl rfl ?_
                have f906 := f653.keep kp666 nin0 (a0 := a0) alln
                have f907 := f906.keep kp694 nin0 (a0 := a0) alln
                have f908 := f907.keep kp710 nin0 (a0 := a0) alln
                have f909 := f908.keep kp726 nin0 (a0 := a0) alln
                have f910 := f909.ext E746
                have ne911 : r651 ≠ a745 := Nat.ne_of_lt (Nat.lt_of_lt_of_le f909.lt (Nat.le_of_eq g747.symm))
                have f912 := f910.keep kp759 (ninS ne911 nin0) (a0 := a0) (all1 ⟨_, _, A748, (ow52 hw)⟩ alln)
                have f913 := f673.keep kp694 nin0 (a0 := a0) alln
                have f914 := f913.keep kp710 nin0 (a0 := a0) alln
                have f915 := f914.keep kp726 nin0 (a0 := a0) alln
                have f916 := f915.ext E746
                have ne917 : r671 ≠ a745 := Nat.ne_of_lt (Nat.lt_of_lt_of_le f915.lt (Nat.le_of_eq g747.symm))
                have f918 := f916.keep kp759 (ninS ne917 nin0) (a0 := a0) (all1 ⟨_, _, A748, (ow52 hw)⟩ alln)
                exact k767 _ _ (0) ((W757.mono (by decide) (by decide)).less (by simp)) f765 f766 f764 f912 f918 (by rw [(same_iff htl f637 e655 e658 e661)]; simp [eq_true c777, eq_false c778, eq_true c876, eq_true c877, eq_false c878, eq_false c892])
          · refine gIcmpNo W757 at_246 (flt c877).1 rfl ?_
            refine gIload W757 at_249 rfl rfl ?_
            by_cases c919 : v619 = (0 : Int32)
            · refine gIfNo W757 at_251 ((if0 _ _).trans (teq c919).2) rfl ?_
              refine gIload W757 at_254 rfl rfl ?_
              refine gIconst (z := (3 : Int32)) W757 at_256 rfl rfl ?_
              by_cases c920 : v627 < (3 : Int32)
              · refine gIcmpYes (pc' := 265) W757 at_257 (tlt c920).1 (by decide) rfl ?_
                refine gIconst (z := (1 : Int32)) W757 at_265 rfl rfl ?_
                refine gGoto (pc' := 270) W757 at_266 (by decide) rfl ?_
                have f921 := f653.keep kp666 nin0 (a0 := a0) alln
                have f922 := f921.keep kp694 nin0 (a0 := a0) alln
                have f923 := f922.keep kp710 nin0 (a0 := a0) alln
                have f924 := f923.keep kp726 nin0 (a0 := a0) alln
                have f925 := f924.ext E746
                have ne926 : r651 ≠ a745 := Nat.ne_of_lt (Nat.lt_of_lt_of_le f924.lt (Nat.le_of_eq g747.symm))
                have f927 := f925.keep kp759 (ninS ne926 nin0) (a0 := a0) (all1 ⟨_, _, A748, (ow52 hw)⟩ alln)
                have f928 := f673.keep kp694 nin0 (a0 := a0) alln
                have f929 := f928.keep kp710 nin0 (a0 := a0) alln
                have f930 := f929.keep kp726 nin0 (a0 := a0) alln
                have f931 := f930.ext E746
                have ne932 : r671 ≠ a745 := Nat.ne_of_lt (Nat.lt_of_lt_of_le f930.lt (Nat.le_of_eq g747.symm))
                have f933 := f931.keep kp759 (ninS ne932 nin0) (a0 := a0) (all1 ⟨_, _, A748, (ow52 hw)⟩ alln)
                exact k767 _ _ (1) ((W757.mono (by decide) (by decide)).less (by simp)) f765 f766 f764 f927 f933 (by rw [(same_iff htl f637 e655 e658 e661)]; simp [eq_true c777, eq_false c778, eq_true c876, eq_false c877, eq_true c919, eq_true c920])
              · refine gIcmpNo W757 at_257 (flt c920).1 rfl ?_
                refine gIload W757 at_260 rfl rfl ?_
                by_cases c934 : v624 = (0 : Int32)
                · refine gIfNo W757 at_262 ((if0 _ _).trans (teq c934).2) rfl ?_
                  refine gIconst (z := (1 : Int32)) W757 at_265 rfl rfl ?_
                  refine gGoto (pc' := 270) W757 at_266 (by decide) rfl ?_
                  have f935 := f653.keep kp666 nin0 (a0 := a0) alln
                  have f936 := f935.keep kp694 nin0 (a0 := a0) alln
                  have f937 := f936.keep kp710 nin0 (a0 := a0) alln
                  have f938 := f937.keep kp726 nin0 (a0 := a0) alln
                  have f939 := f938.ext E746
                  have ne940 : r651 ≠ a745 := Nat.ne_of_lt (Nat.lt_of_lt_of_le f938.lt (Nat.le_of_eq g747.symm))
                  have f941 := f939.keep kp759 (ninS ne940 nin0) (a0 := a0) (all1 ⟨_, _, A748, (ow52 hw)⟩ alln)
                  have f942 := f673.keep kp694 nin0 (a0 := a0) alln
                  have f943 := f942.keep kp710 nin0 (a0 := a0) alln
                  have f944 := f943.keep kp726 nin0 (a0 := a0) alln
                  have f945 := f944.ext E746
                  have ne946 : r671 ≠ a745 := Nat.ne_of_lt (Nat.lt_of_lt_of_le f944.lt (Nat.le_of_eq g747.symm))
                  have f947 := f945.keep kp759 (ninS ne946 nin0) (a0 := a0) (all1 ⟨_, _, A748, (ow52 hw)⟩ alln)
                  exact k767 _ _ (1) ((W757.mono (by decide) (by decide)).less (by simp)) f765 f766 f764 f941 f947 (by rw [(same_iff htl f637 e655 e658 e661)]; simp [eq_true c777, eq_false c778, eq_true c876, eq_false c877, eq_true c919, eq_false c920, eq_true c934])
                · refine gIfYes (pc' := 269) W757 at_262 ((if0 _ _).trans (feq c934).2) (by decide) rfl ?_
                  refine gIconst (z := (0 : Int32)) W757 at_269 rfl rfl ?_
                  have f948 := f653.keep kp666 nin0 (a0 := a0) alln
                  have f949 := f948.keep kp694 nin0 (a0 := a0) alln
                  have f950 := f949.keep kp710 nin0 (a0 := a0) alln
                  have f951 := f950.keep kp726 nin0 (a0 := a0) alln
                  have f952 := f951.ext E746
                  have ne953 : r651 ≠ a745 := Nat.ne_of_lt (Nat.lt_of_lt_of_le f951.lt (Nat.le_of_eq g747.symm))
                  have f954 := f952.keep kp759 (ninS ne953 nin0) (a0 := a0) (all1 ⟨_, _, A748, (ow52 hw)⟩ alln)
                  have f955 := f673.keep kp694 nin0 (a0 := a0) alln
                  have f956 := f955.keep kp710 nin0 (a0 := a0) alln
                  have f957 := f956.keep kp726 nin0 (a0 := a0) alln
                  have f958 := f957.ext E746
                  have ne959 : r671 ≠ a745 := Nat.ne_of_lt (Nat.lt_of_lt_of_le f957.lt (Nat.le_of_eq g747.symm))
                  have f960 := f958.keep kp759 (ninS ne959 nin0) (a0 := a0) (all1 ⟨_, _, A748, (ow52 hw)⟩ alln)
                  exact k767 _ _ (0) ((W757.mono (by decide) (by decide)).less (by simp)) f765 f766 f764 f954 f960 (by rw [(same_iff htl f637 e655 e658 e661)]; simp [eq_true c777, eq_false c778, eq_true c876, eq_false c877, eq_true c919, eq_false c920, eq_false c934])
            · refine gIfYes (pc' := 269) W757 at_251 ((if0 _ _).trans (feq c919).2) (by decide) rfl ?_
              refine gIconst (z := (0 : Int32)) W757 at_269 rfl rfl ?_
              have f961 := f653.keep kp666 nin0 (a0 := a0) alln
              have f962 := f961.keep kp694 nin0 (a0 := a0) alln
              have f963 := f962.keep kp710 nin0 (a0 := a0) alln
              have f964 := f963.keep kp726 nin0 (a0 := a0) alln
              have f965 := f964.ext E746
              have ne966 : r651 ≠ a745 := Nat.ne_of_lt (Nat.lt_of_lt_of_le f964.lt (Nat.le_of_eq g747.symm))
              have f967 := f965.keep kp759 (ninS ne966 nin0) (a0 := a0) (all1 ⟨_, _, A748, (ow52 hw)⟩ alln)
              have f968 := f673.keep kp694 nin0 (a0 := a0) alln
              have f969 := f968.keep kp710 nin0 (a0 := a0) alln
              have f970 := f969.keep kp726 nin0 (a0 := a0) alln
              have f971 := f970.ext E746
              have ne972 : r671 ≠ a745 := Nat.ne_of_lt (Nat.lt_of_lt_of_le f970.lt (Nat.le_of_eq g747.symm))
              have f973 := f971.keep kp759 (ninS ne972 nin0) (a0 := a0) (all1 ⟨_, _, A748, (ow52 hw)⟩ alln)
              exact k767 _ _ (0) ((W757.mono (by decide) (by decide)).less (by simp)) f765 f766 f764 f967 f973 (by rw [(same_iff htl f637 e655 e658 e661)]; simp [eq_true c777, eq_false c778, eq_true c876, eq_false c877, eq_false c919])
        · refine gIfYes (pc' := 269) W757 at_240 ((if0 _ _).trans (feq c876).2) (by decide) rfl ?_
          refine gIconst (z := (0 : Int32)) W757 at_269 rfl rfl ?_
          have f974 := f653.keep kp666 nin0 (a0 := a0) alln
          have f975 := f974.keep kp694 nin0 (a0 := a0) alln
          have f976 := f975.keep kp710 nin0 (a0 := a0) alln
          have f977 := f976.keep kp726 nin0 (a0 := a0) alln
          have f978 := f977.ext E746
          have ne979 : r651 ≠ a745 := Nat.ne_of_lt (Nat.lt_of_lt_of_le f977.lt (Nat.le_of_eq g747.symm))
          have f980 := f978.keep kp759 (ninS ne979 nin0) (a0 := a0) (all1 ⟨_, _, A748, (ow52 hw)⟩ alln)
          have f981 := f673.keep kp694 nin0 (a0 := a0) alln
          have f982 := f981.keep kp710 nin0 (a0 := a0) alln
          have f983 := f982.keep kp726 nin0 (a0 := a0) alln
          have f984 := f983.ext E746
          have ne985 : r671 ≠ a745 := Nat.ne_of_lt (Nat.lt_of_lt_of_le f983.lt (Nat.le_of_eq g747.symm))
          have f986 := f984.keep kp759 (ninS ne985 nin0) (a0 := a0) (all1 ⟨_, _, A748, (ow52 hw)⟩ alln)
          exact k767 _ _ (0) ((W757.mono (by decide) (by decide)).less (by simp)) f765 f766 f764 f980 f986 (by rw [(same_iff htl f637 e655 e658 e661)]; simp [eq_true c777, eq_false c778, eq_false c876])
    · refine gIcmpYes (pc' := 269) W757 at_229 (feq c777).2 (by decide) rfl ?_
      refine gIconst (z := (0 : Int32)) W757 at_269 rfl rfl ?_
      have f987 := f653.keep kp666 nin0 (a0 := a0) alln
      have f988 := f987.keep kp694 nin0 (a0 := a0) alln
      have f989 := f988.keep kp710 nin0 (a0 := a0) alln
      have f990 := f989.keep kp726 nin0 (a0 := a0) alln
      have f991 := f990.ext E746
      have ne992 : r651 ≠ a745 := Nat.ne_of_lt (Nat.lt_of_lt_of_le f990.lt (Nat.le_of_eq g747.symm))
      have f993 := f991.keep kp759 (ninS ne992 nin0) (a0 := a0) (all1 ⟨_, _, A748, (ow52 hw)⟩ alln)
      have f994 := f673.keep kp694 nin0 (a0 := a0) alln
      have f995 := f994.keep kp710 nin0 (a0 := a0) alln
      have f996 := f995.keep kp726 nin0 (a0 := a0) alln
      have f997 := f996.ext E746
      have ne998 : r671 ≠ a745 := Nat.ne_of_lt (Nat.lt_of_lt_of_le f996.lt (Nat.le_of_eq g747.symm))
      have f999 := f997.keep kp759 (ninS ne998 nin0) (a0 := a0) (all1 ⟨_, _, A748, (ow52 hw)⟩ alln)
      exact k767 _ _ (0) ((W757.mono (by decide) (by decide)).less (by simp)) f765 f766 f764 f993 f999 (by rw [(same_iff htl f637 e655 e658 e661)]; simp [eq_false c777])
  intro T768 h770 sb W769 f771 f772 f773 f774 f775 f776
  refine gIstore (ls' := #[.val (.int p0), .val (.int p1), .val (.int p2), .val (.int p3), .val (.int v593), .val (.int v598), .val (.int v603), .val (.int b610), .val (.int v614), .val (.int v619), .val (.int v624), .val (.int v627), .val (.int cl), .val (.ref r651), .val (.ref r671), .val (.ref r699), .val (.ref r715), .val (.ref r731), .val (.int b738), .val (.ref a745), .val (.int sb)]) W769 at_270 rfl rfl ?_
  refine gAload W769 at_272 rfl rfl rfl ?_
  refine wVirtual (y := (⟨"com/example/tidewire/tidewire/registration/Registration", "isReplaced", "()Z"⟩ : MethodName)) (z := (⟨"com/example/tidewire/tidewire/registration/Registration", "isReplaced", "()Z"⟩ : MethodName)) (Wd := 0) (a := a745) (argsL := []) (rest := []) W769 at_274 (ow84 hw) (ow85 hw) (ow87 hw) (ow86 hw) (nfS (ow87 hw)) (by decide) (Cb.ct (orm_isR l Z a0 hw hE (a745) (r651) (r671) ((txt v627 v593 v598 v603)) ((txt cl v654 v657 v660)) (z) h770 W769.old SC hz f771 f772 f774 f775 ) (ow88 hw) (ow53 hw) hE (by decide) (by decide)) f773 (by simp) rfl (lenOf opd11 rfl) rfl (Nat.le_of_eq rfl) (by decide) (by decide) rfl fun v1004 so1005 T1000 h1002 W1001 kp1003 sp1006 q1007 => ?_
  obtain ⟨b1008, rfl, rfl, f1009⟩ := q1007
  show Go K _ T1000 277 #[.val (.int p0), .val (.int p1), .val (.int p2), .val (.int p3), .val (.int v593), .val (.int v598), .val (.int v603), .val (.int b610), .val (.int v614), .val (.int v619), .val (.int v624), .val (.int v627), .val (.int cl), .val (.ref r651), .val (.ref r671), .val (.ref r699), .val (.ref r715), .val (.ref r731), .val (.int b738), .val (.ref a745), .val (.int sb)] [(.int b1008)]
  refine gIload W1001 at_277 rfl rfl ?_
  rcases f776 with ⟨rfl, es⟩ | ⟨rfl, es⟩ <;> rcases f1009 with ⟨rfl, er⟩ | ⟨rfl, er⟩
  · refine gIcmpNo W1001 at_279 (feq (by decide)).1 rfl ?_
    refine gIconst (z := (1 : Int32)) W1001 at_282 rfl rfl ?_
    refine gGoto (pc' := 287) W1001 at_283 (by decide) rfl ?_
    exact wRetI (so := []) (t := .boolean) W1001 at_287 (by simp) rfl (by decide) (by decide) (fun _ q => nomatch q) ⟨rfl, rfl⟩
  · exact absurd es er
  · exact absurd er es
  · refine gIcmpNo W1001 at_279 (feq (by decide)).1 rfl ?_
    refine gIconst (z := (1 : Int32)) W1001 at_282 rfl rfl ?_
    refine gGoto (pc' := 287) W1001 at_283 (by decide) rfl ?_
    exact wRetI (so := []) (t := .boolean) W1001 at_287 (by simp) rfl (by decide) (by decide) (fun _ q => nomatch q) ⟨rfl, rfl⟩
set_option maxRecDepth 65536 in
set_option maxHeartbeats 40000000 in
theorem comes_1 {Post : Tables → Env → Array Value → State → Outcome → State → Prop} (hpost : ∀ tb e args s v u, (limb_1_1.after args s (.returned v) u = true ∧ limb_1_2.after args s (.returned v) u = true ∧ True) → FramedW s (.returned v) u (Jvm.fieldLocs frame_1_writes args s ++ Jvm.arrayLocs frame_1_arrays args s ++ Jvm.staticLocs frame_1_statics s) 48 6336 → Post tb e args s (.returned v) u) :
    ArmFor flags0 classFile x code maxLocals ret World_1 tables_1 room_1 Calls_1 rest_1 Pre_1 Post := by
  intro l hfl _ _ p e ha hc hk s m args below hf hA hF happ hP
  obtain ⟨hcalls, hrest, hpre⟩ := hP
  obtain ⟨-, -, -, hnamed, -, -, -, hat⟩ := (Spec.applies_iff hf).mp happ
  obtain ⟨hg, hn⟩ := and_e (Cond.before_iff.mp (show (Jvm.Cond.and given_1 narrow_1).before args s = true from hpre))
  obtain ⟨hcount, hg0⟩ := and_e hg
  obtain ⟨hi0, hg1⟩ := and_e hg0
  obtain ⟨hi1, hg2⟩ := and_e hg1
  obtain ⟨hi2, hg3⟩ := and_e hg2
  have hi3 := hg3
  obtain ⟨w0, w1, w2, w3, rfl⟩ : ∃ w0 w1 w2 w3 : Value, args = #[w0, w1, w2, w3] := by
    have hs : args.size = 4 := by simpa [Cond.value, given_1] using hcount
    obtain ⟨L⟩ := args
    match L, hs with
    | [w0, w1, w2, w3], _ => exact ⟨w0, w1, w2, w3, rfl⟩
  have hw := fun d (hd : d ∈ tables_1) => atoms_spec (ws := Jvm.Cond.code x code maxLocals ret :: tables_1) hat d (List.mem_cons_of_mem _ hd)
  obtain ⟨hsets, hown0⟩ := atoms_of _ (rest_1_c_eq ▸ (show rest_1_c.before _ s = true from hrest))
  obtain ⟨i0, ei0⟩ := is_v hi0
  obtain rfl : w0 = (.int i0) := Option.some.inj ei0
  obtain ⟨i1, ei1⟩ := is_v hi1
  obtain rfl : w1 = (.int i1) := Option.some.inj ei1
  obtain ⟨i2, ei2⟩ := is_v hi2
  obtain rfl : w2 = (.int i2) := Option.some.inj ei2
  obtain ⟨i3, ei3⟩ := is_v hi3
  obtain rfl : w3 = (.int i3) := Option.some.inj ei3
  have n5 := not_v (Cond.before_iff.mp (hsets _ (List.mem_of_getElem? (i := 2) rfl)))
  obtain ⟨iz, ez⟩ := is_v (Cond.before_iff.mp (hsets _ (List.mem_of_getElem? (i := 1) rfl)))
  have SC : Sta s s.heap "java/lang/String" "COMPACT_STRINGS" "Z" (.int iz) := Sta.start ez (Or.inl (hsets _ (List.mem_of_getElem? (i := 0) rfl)))
  have hz : ¬ (iz = (0 : Int32)) := gotF (Cond.eq_ints ez (Term.int_eval (0))) n5
  have hE : EW s #[(.int i0), (.int i1), (.int i2), (.int i3)] consts_1 := (EW.cons (ow63 hw) (by decide) (EW.cons (ow68 hw) (by decide) (EW.cons (ow69 hw) (by decide) (EW.cons (ow70 hw) (by decide) (EW.cons (ow71 hw) (by decide) (EW.cons (ow34 hw) (by decide) EW.nil))))))
  have hcw : Jvm.Lit.compactW.before _ s = true := (hsets _ (List.mem_of_getElem? (i := 2) rfl))
  have hCH : CHv s consts_1 s.vm s.heap := CHv.start hE (fun q hq => (hcalls.1 : constsHeld consts_1 s) q hq) hcw (owS hw _ (by simp [Bundle.stringAtoms])) (hws' hw)
  obtain ⟨n, o, h1, h2, h3, v, L, so, rfl, hQ, -, hL, -, hq⟩ := orm_law l s _ hw hE i0 i1 i2 i3 iz s.heap (Old.start s) SC hz tables_1 p e ha hc hk s m _ below hf ((Spec.applies_iff_loose hf).mp happ).1 ⟨rfl, State.Warmed39.refl s, rfl, hCH, fun _ q => nomatch q⟩ trivial
  obtain ⟨rfl, -⟩ := hQ
  refine ⟨n, _, h1, h2, h3, hpost _ _ _ _ _ _ ⟨Cond.after_iff.mpr rfl, Cond.after_iff.mpr (eq_i res_at (Term.int_eval (1)) rfl), trivial⟩ ⟨hq.1, hq.2.1, hq.2.2.1, (hq.2.2.2.sift fun y hy => Or.inr ?_).mono (by decide) (by decide)⟩⟩
  rcases hL y hy with z | z
  · cases z
  · exact z
theorem main_1_1 : Claimed_1_1 := comes_1 fun _ _ _ _ _ _ h hF => ⟨h.1, hF⟩
theorem main_1_2 : Claimed_1_2 := comes_1 fun _ _ _ _ _ _ h hF => ⟨h.2.1, hF⟩
end Jvm.Pilot.@@N@@
namespace Jvm.Pilot.@@N@@
open Jvm Jvm.ClassFile Sem Op Lib Jvm.Free Jvm.Stand Jvm.Pilot.@@N@@.Jvm.D
/-! MADE BY PROGRAM (witnessworld.py) out of the Statement's table words and the real class files: 22 classes; the members and pool entries that the words name. The judged class is class 1, her method 2. -/
namespace start1
open Jvm.ClassFile
def u (s : String) : CpInfo := .utf8 (stringToUtf16 s)
/-- a pool by its gaps: so many unusable entries, then the entry; so many at the end -/
def gap : Nat → List CpInfo → List CpInfo
  | 0, r => r
  | n + 1, r => .unusable :: gap n r
def poolList (es : List (Nat × CpInfo)) (last : Nat) : List CpInfo := es.foldr (fun e r => gap e.1 (e.2 :: r)) (gap last [])
def pool (es : List (Nat × CpInfo)) (last : Nat) : Array CpInfo := ⟨poolList es last⟩
def fileOf (pool : Array CpInfo) (this : Nat) (attrs : Array Attribute := #[]) (ms : Array MethodInfo := #[]) (fl : Nat := 33) (sup : Nat := 0) (ifs : Array Nat := #[]) (fds : Array FieldInfo := #[]) : ClassFile where
  minorVersion := 0
  majorVersion := 65
  constantPool := pool
  accessFlags := fl
  thisClass := this
  superClass := sup
  interfaces := ifs
  fields := fds
  methods := ms
  attributes := attrs
def plain (name : String) (sup : Option ClassId) : Class where
  name := name
  kind := .ordinary
  loader := none
  accessFlags := 33
  super := sup
  interfaces := #[]
  cf := none
  fields := #[]
  methods := #[]
  instanceTypes := #[]
  staticTypes := #[]
  resolved := #[]
  callSites := []
  init := .initialized
  statics := none
  mirror := none

def pool0 : Array CpInfo := pool [(5, u "<init>"), (0, u "()V"), (1, .class_ 10), (1, u "java/lang/Object")] 113

def k0c0 : Code := { maxStack := 0, maxLocals := 1, code := object_method_1_code, exceptionTable := #[], attributes := #[] }
def k0m0 : Method := { name := "<init>", desc := "()V", sig := { parameters := [], returnType := none }, accessFlags := 1, code := some k0c0 }
/-- java/lang/Object -/
def k0 : Class := { plain "java/lang/Object" none with
  accessFlags := 33
  interfaces := #[]
  cf := some (fileOf pool0 8 #[] #[{ accessFlags := 1, nameIndex := 5, descriptorIndex := 6, attributes := #[] }] 33 0 #[] #[])
  fields := #[]
  methods := #[k0m0]
  instanceTypes := #[]
  staticTypes := #[]
  resolved := Array.replicate 124 none
  statics := none }

def pool1 : Array CpInfo := pool [(2, .class_ 4), (1, u "java/lang/Object"), (0, u "<init>"), (0, u "()V"), (0, .class_ 8), (0, u "java/lang/String"), (0, .methodref 7 10), (0, .nameAndType 5 11), (0, u "([C)V"), (0, .methodref 13 14), (0, .class_ 15), (0, .nameAndType 16 17), (0, u "com/example/tidewire/tidewire/registration/RegistrationIsReplacedPinLaw"), (0, u "mk"), (0, u "(IIII)Ljava/lang/String;"), (0, .methodref 7 19), (0, .nameAndType 20 21), (0, u "valueOf"), (0, u "(C)Ljava/lang/String;"), (0, .class_ 23), (0, u "com/example/tidewire/tidewire/registration/Registration"), (0, .methodref 22 25), (0, .nameAndType 5 26), (0, u "(Ljava/lang/String;Ljava/lang/String;Ljava/lang/String;Ljava/lang/String;Ljava/lang/String;Z)V"), (0, .methodref 22 28), (0, .nameAndType 29 30), (0, u "isReplaced"), (0, u "()Z"), (3, u "law"), (0, u "(IIII)Z")] 2

def k1m0 : Method := { name := "<init>", desc := "()V", sig := { parameters := [], returnType := none }, accessFlags := 1, code := none }
def k1c1 : Code := { maxStack := 3, maxLocals := 5, code := method_2_code, exceptionTable := #[], attributes := #[] }
def k1m1 : Method := { name := "mk", desc := "(IIII)Ljava/lang/String;", sig := { parameters := [.int, .int, .int, .int], returnType := some (.object "java/lang/String") }, accessFlags := 10, code := some k1c1 }
def k1c2 : Code := { maxStack := 8, maxLocals := 21, code := code, exceptionTable := #[], attributes := #[] }
def k1m2 : Method := { name := "law", desc := "(IIII)Z", sig := { parameters := [.int, .int, .int, .int], returnType := some .boolean }, accessFlags := 9, code := some k1c2 }
/-- com/example/tidewire/tidewire/registration/RegistrationIsReplacedPinLaw -/
def k1 : Class := { plain "com/example/tidewire/tidewire/registration/RegistrationIsReplacedPinLaw" (some 0) with
  accessFlags := 49
  interfaces := #[]
  cf := some (fileOf pool1 13 #[] #[{ accessFlags := 1, nameIndex := 5, descriptorIndex := 6, attributes := #[] }, { accessFlags := 10, nameIndex := 16, descriptorIndex := 17, attributes := #[] }, { accessFlags := 9, nameIndex := 34, descriptorIndex := 35, attributes := #[] }] 49 2 #[] #[])
  fields := #[]
  methods := #[k1m0, k1m1, k1m2]
  instanceTypes := #[]
  staticTypes := #[]
  resolved := Array.replicate 38 none
  statics := none }

def pool2 : Array CpInfo := pool [(1, .class_ 2), (0, u "java/io/Serializable"), (0, .class_ 4), (0, u "java/lang/Object")] 2

/-- java/io/Serializable -/
def k2 : Class := { plain "java/io/Serializable" (some 0) with
  accessFlags := 1537
  interfaces := #[]
  cf := some (fileOf pool2 1 #[] #[] 1537 3 #[] #[])
  fields := #[]
  methods := #[]
  instanceTypes := #[]
  staticTypes := #[]
  resolved := Array.replicate 7 none
  statics := none }

def pool3 : Array CpInfo := pool [(1, .class_ 2), (0, u "java/lang/Comparable"), (0, .class_ 4), (0, u "java/lang/Object")] 7

/-- java/lang/Comparable -/
def k3 : Class := { plain "java/lang/Comparable" (some 0) with
  accessFlags := 1537
  interfaces := #[]
  cf := some (fileOf pool3 1 #[] #[] 1537 3 #[] #[])
  fields := #[]
  methods := #[]
  instanceTypes := #[]
  staticTypes := #[]
  resolved := Array.replicate 12 none
  statics := none }

def pool4 : Array CpInfo := pool [(2, .class_ 4), (1, u "java/lang/CharSequence"), (42, .class_ 48), (0, u "java/lang/CharSequence$1CodePointIterator"), (10, .class_ 60), (0, u "java/lang/CharSequence$1CharIterator"), (5, .class_ 67), (0, u "java/lang/Object")] 63

/-- java/lang/CharSequence -/
def k4 : Class := { plain "java/lang/CharSequence" (some 0) with
  accessFlags := 1537
  interfaces := #[]
  cf := some (fileOf pool4 2 #[.nestMembers #[47, 59]] #[] 1537 66 #[] #[])
  fields := #[]
  methods := #[]
  instanceTypes := #[]
  staticTypes := #[]
  resolved := Array.replicate 131 none
  statics := none }

def pool5 : Array CpInfo := pool [(1, .class_ 2), (0, u "java/lang/constant/Constable"), (0, .class_ 4), (0, u "java/lang/Object")] 6

/-- java/lang/constant/Constable -/
def k5 : Class := { plain "java/lang/constant/Constable" (some 0) with
  accessFlags := 1537
  interfaces := #[]
  cf := some (fileOf pool5 1 #[] #[] 1537 3 #[] #[])
  fields := #[]
  methods := #[]
  instanceTypes := #[]
  staticTypes := #[]
  resolved := Array.replicate 11 none
  statics := none }

def pool6 : Array CpInfo := pool [(1, .class_ 2), (0, u "java/lang/constant/ConstantDesc"), (0, .class_ 4), (0, u "java/lang/Object")] 32

/-- java/lang/constant/ConstantDesc -/
def k6 : Class := { plain "java/lang/constant/ConstantDesc" (some 0) with
  accessFlags := 1537
  interfaces := #[]
  cf := some (fileOf pool6 1 #[] #[] 1537 3 #[] #[])
  fields := #[]
  methods := #[]
  instanceTypes := #[]
  staticTypes := #[]
  resolved := Array.replicate 37 none
  statics := none }

def pool7 : Array CpInfo := pool [(1, .methodref 2 3), (0, .class_ 4), (0, .nameAndType 5 6), (0, u "java/lang/Object"), (0, u "<init>"), (0, u "()V"), (0, .string 8), (0, u ""), (0, .fieldref 10 11), (0, .class_ 12), (0, .nameAndType 13 14), (0, u "java/lang/String"), (0, u "value"), (0, u "[B"), (0, .fieldref 10 16), (0, .nameAndType 17 18), (0, u "coder"), (0, u "B"), (2, u "hash"), (0, u "I"), (2, u "hashIsZero"), (0, u "Z"), (0, .methodref 10 28), (0, .nameAndType 5 29), (0, u "([CIILjava/lang/Void;)V"), (8, .fieldref 10 39), (0, .nameAndType 40 26), (0, u "COMPACT_STRINGS"), (1, .class_ 44), (1, u "java/lang/StringUTF16"), (0, u "compress"), (1, .methodref 42 48), (0, .nameAndType 49 50), (0, u "coderFromArrayLen"), (0, u "([BI)B"), (2, u "toBytes"), (53, .class_ 109), (1, u "java/lang/StringLatin1"), (67, .methodref 42 178), (0, .nameAndType 45 179), (0, u "([CII)[B"), (29, .methodref 10 210), (0, .nameAndType 5 211), (0, u "([BB)V"), (157, u "(C)Z"), (171, .methodref 107 542), (0, .nameAndType 543 544), (0, u "equals"), (0, u "([B[B)Z"), (28, u "(Ljava/lang/Object;)Z"), (1, .class_ 576), (0, u "java/lang/CharSequence"), (22, u "CASE_INSENSITIVE_ORDER"), (0, u "Ljava/util/Comparator;"), (181, u "valueOf"), (0, u "(C)Ljava/lang/String;"), (226, u "([C)V"), (4, .methodref 107 1016), (0, .nameAndType 1017 369), (0, u "canEncode"), (0, .methodref 107 1019), (0, .nameAndType 53 1020), (0, u "(C)[B"), (80, u "serialPersistentFields"), (0, u "[Ljava/io/ObjectStreamField;"), (0, .class_ 1104), (0, u "java/lang/String$CaseInsensitiveComparator"), (1, .class_ 1107), (0, u "java/io/Serializable"), (0, .class_ 1109), (0, u "java/lang/Comparable"), (0, .class_ 1111), (0, u "java/lang/constant/Constable"), (0, .class_ 1113), (0, u "java/lang/constant/ConstantDesc"), (2, u "serialVersionUID"), (0, u "J"), (3, u "REPL"), (0, u "C"), (2, u "LATIN1"), (1, u "UTF16")] 323

def k7m0 : Method := { name := "<init>", desc := "()V", sig := { parameters := [], returnType := none }, accessFlags := 1, code := none }
def k7c1 : Code := { maxStack := 5, maxLocals := 2, code := jdk_42_method_3_code, exceptionTable := #[], attributes := #[] }
def k7m1 : Method := { name := "<init>", desc := "([C)V", sig := { parameters := [(.array .char)], returnType := none }, accessFlags := 1, code := some k7c1 }
def k7c2 : Code := { maxStack := 2, maxLocals := 3, code := jdk_42_method_66_code, exceptionTable := #[], attributes := #[] }
def k7m2 : Method := { name := "equals", desc := "(Ljava/lang/Object;)Z", sig := { parameters := [(.object "java/lang/Object")], returnType := some .boolean }, accessFlags := 1, code := some k7c2 }
def k7c3 : Code := { maxStack := 4, maxLocals := 1, code := jdk_42_method_139_code, exceptionTable := #[], attributes := #[] }
def k7m3 : Method := { name := "valueOf", desc := "(C)Ljava/lang/String;", sig := { parameters := [.char], returnType := some (.object "java/lang/String") }, accessFlags := 9, code := some k7c3 }
def k7c4 : Code := { maxStack := 4, maxLocals := 6, code := jdk_42_method_149_code, exceptionTable := #[], attributes := #[] }
def k7m4 : Method := { name := "<init>", desc := "([CIILjava/lang/Void;)V", sig := { parameters := [(.array .char), .int, .int, (.object "java/lang/Void")], returnType := none }, accessFlags := 2, code := some k7c4 }
def k7c5 : Code := { maxStack := 2, maxLocals := 3, code := jdk_42_method_151_code, exceptionTable := #[], attributes := #[] }
def k7m5 : Method := { name := "<init>", desc := "([BB)V", sig := { parameters := [(.array .byte), .byte], returnType := none }, accessFlags := 0, code := some k7c5 }
/-- java/lang/String -/
def k7 : Class := { plain "java/lang/String" (some 0) with
  accessFlags := 49
  interfaces := #[2, 3, 4, 5, 6]
  cf := some (fileOf pool7 10 #[.nestMembers #[1103]] #[{ accessFlags := 1, nameIndex := 5, descriptorIndex := 6, attributes := #[] }, { accessFlags := 1, nameIndex := 5, descriptorIndex := 1010, attributes := #[] }, { accessFlags := 1, nameIndex := 543, descriptorIndex := 573, attributes := #[] }, { accessFlags := 9, nameIndex := 782, descriptorIndex := 783, attributes := #[] }, { accessFlags := 2, nameIndex := 5, descriptorIndex := 29, attributes := #[] }, { accessFlags := 0, nameIndex := 5, descriptorIndex := 211, attributes := #[] }] 49 2 #[1106, 1108, 575, 1110, 1112] #[{ accessFlags := 18, nameIndex := 13, descriptorIndex := 14, attributes := #[] }, { accessFlags := 18, nameIndex := 17, descriptorIndex := 18, attributes := #[] }, { accessFlags := 2, nameIndex := 21, descriptorIndex := 22, attributes := #[] }, { accessFlags := 2, nameIndex := 25, descriptorIndex := 26, attributes := #[] }, { accessFlags := 26, nameIndex := 1116, descriptorIndex := 1117, attributes := #[] }, { accessFlags := 24, nameIndex := 40, descriptorIndex := 26, attributes := #[] }, { accessFlags := 26, nameIndex := 1101, descriptorIndex := 1102, attributes := #[] }, { accessFlags := 26, nameIndex := 1121, descriptorIndex := 1122, attributes := #[] }, { accessFlags := 25, nameIndex := 599, descriptorIndex := 600, attributes := #[] }, { accessFlags := 24, nameIndex := 1125, descriptorIndex := 18, attributes := #[] }, { accessFlags := 24, nameIndex := 1127, descriptorIndex := 18, attributes := #[] }])
  fields := #[{ name := "value", type := (.array .byte), accessFlags := 18, slot := 0, constantValue := 0 }, { name := "coder", type := .byte, accessFlags := 18, slot := 1, constantValue := 0 }, { name := "hash", type := .int, accessFlags := 2, slot := 2, constantValue := 0 }, { name := "hashIsZero", type := .boolean, accessFlags := 2, slot := 3, constantValue := 0 }, { name := "serialVersionUID", type := .long, accessFlags := 26, slot := 0, constantValue := 0 }, { name := "COMPACT_STRINGS", type := .boolean, accessFlags := 24, slot := 1, constantValue := 0 }, { name := "serialPersistentFields", type := (.array (.object "java/io/ObjectStreamField")), accessFlags := 26, slot := 2, constantValue := 0 }, { name := "REPL", type := .char, accessFlags := 26, slot := 3, constantValue := 0 }, { name := "CASE_INSENSITIVE_ORDER", type := (.object "java/util/Comparator"), accessFlags := 25, slot := 4, constantValue := 0 }, { name := "LATIN1", type := .byte, accessFlags := 24, slot := 5, constantValue := 0 }, { name := "UTF16", type := .byte, accessFlags := 24, slot := 6, constantValue := 0 }]
  methods := #[k7m0, k7m1, k7m2, k7m3, k7m4, k7m5]
  instanceTypes := #[(.array .byte), .byte, .int, .boolean]
  staticTypes := #[.long, .boolean, (.array (.object "java/io/ObjectStreamField")), .char, (.object "java/util/Comparator"), .byte, .byte]
  resolved := Array.replicate 1451 none
  statics := some 0 }

def pool8 : Array CpInfo := pool [(6, .class_ 8), (1, u "java/lang/Object"), (0, u "<init>"), (0, u "()V"), (1, .class_ 14), (1, u "java/lang/StringUTF16"), (31, u "$assertionsDisabled"), (0, u "Z"), (13, u "HI_BYTE_SHIFT"), (0, u "I"), (2, u "LO_BYTE_SHIFT"), (49, .methodref 12 116), (0, .nameAndType 117 118), (0, u "compress"), (0, u "([CI[BII)I"), (3, u "([CII)[B"), (138, u "coderFromArrayLen"), (0, u "([BI)B"), (106, .class_ 371), (1, u "java/lang/StringUTF16$LinesSpliterator"), (58, u "MAX_LENGTH"), (196, .class_ 628), (0, u "java/lang/StringUTF16$CodePointsSpliterator"), (0, .class_ 630), (0, u "java/lang/StringUTF16$CharsSpliterator")] 4

def k8m0 : Method := { name := "<init>", desc := "()V", sig := { parameters := [], returnType := none }, accessFlags := 0, code := none }
def k8c1 : Code := { maxStack := 2, maxLocals := 2, code := jdk_52_method_15_code, exceptionTable := #[], attributes := #[] }
def k8m1 : Method := { name := "coderFromArrayLen", desc := "([BI)B", sig := { parameters := [(.array .byte), .int], returnType := some .byte }, accessFlags := 8, code := some k8c1 }
def k8c2 : Code := { maxStack := 5, maxLocals := 6, code := jdk_52_method_16_code, exceptionTable := #[], attributes := #[] }
def k8m2 : Method := { name := "compress", desc := "([CII)[B", sig := { parameters := [(.array .char), .int, .int], returnType := some (.array .byte) }, accessFlags := 9, code := some k8c2 }
def k8c3 : Code := { maxStack := 3, maxLocals := 7, code := jdk_52_method_21_code, exceptionTable := #[], attributes := #[] }
def k8m3 : Method := { name := "compress", desc := "([CI[BII)I", sig := { parameters := [(.array .char), .int, (.array .byte), .int, .int], returnType := some .int }, accessFlags := 9, code := some k8c3 }
/-- java/lang/StringUTF16 -/
def k8 : Class := { plain "java/lang/StringUTF16" (some 0) with
  accessFlags := 48
  interfaces := #[]
  cf := some (fileOf pool8 12 #[.nestMembers #[627, 629, 369]] #[{ accessFlags := 0, nameIndex := 9, descriptorIndex := 10, attributes := #[] }, { accessFlags := 8, nameIndex := 261, descriptorIndex := 262, attributes := #[] }, { accessFlags := 9, nameIndex := 117, descriptorIndex := 122, attributes := #[] }, { accessFlags := 9, nameIndex := 117, descriptorIndex := 118, attributes := #[] }] 48 6 #[] #[{ accessFlags := 26, nameIndex := 61, descriptorIndex := 62, attributes := #[] }, { accessFlags := 26, nameIndex := 65, descriptorIndex := 62, attributes := #[] }, { accessFlags := 24, nameIndex := 430, descriptorIndex := 62, attributes := #[] }, { accessFlags := 4120, nameIndex := 46, descriptorIndex := 47, attributes := #[] }])
  fields := #[{ name := "HI_BYTE_SHIFT", type := .int, accessFlags := 26, slot := 0, constantValue := 0 }, { name := "LO_BYTE_SHIFT", type := .int, accessFlags := 26, slot := 1, constantValue := 0 }, { name := "MAX_LENGTH", type := .int, accessFlags := 24, slot := 2, constantValue := 0 }, { name := "$assertionsDisabled", type := .boolean, accessFlags := 4120, slot := 3, constantValue := 0 }]
  methods := #[k8m0, k8m1, k8m2, k8m3]
  instanceTypes := #[]
  staticTypes := #[.int, .int, .int, .boolean]
  resolved := Array.replicate 635 none
  statics := none }

def pool9 : Array CpInfo := pool [(4, .class_ 6), (1, u "java/lang/Object"), (0, u "<init>"), (0, u "()V"), (5, .class_ 16), (1, u "java/lang/StringLatin1"), (73, u "canEncode"), (14, u "(C)Z"), (15, u "$assertionsDisabled"), (0, u "Z"), (98, .class_ 223), (1, u "java/lang/StringLatin1$LinesSpliterator"), (57, u "equals"), (0, u "([B[B)Z"), (97, u "toBytes"), (1, u "(C)[B"), (7, .class_ 391), (0, u "java/lang/StringLatin1$CharsSpliterator")] 3

def k9m0 : Method := { name := "<init>", desc := "()V", sig := { parameters := [], returnType := none }, accessFlags := 0, code := none }
def k9c1 : Code := { maxStack := 2, maxLocals := 1, code := jdk_43_method_3_code, exceptionTable := #[], attributes := #[] }
def k9m1 : Method := { name := "canEncode", desc := "(C)Z", sig := { parameters := [.char], returnType := some .boolean }, accessFlags := 9, code := some k9c1 }
def k9c2 : Code := { maxStack := 3, maxLocals := 3, code := jdk_43_method_13_code, exceptionTable := #[], attributes := #[] }
def k9m2 : Method := { name := "equals", desc := "([B[B)Z", sig := { parameters := [(.array .byte), (.array .byte)], returnType := some .boolean }, accessFlags := 9, code := some k9c2 }
def k9c3 : Code := { maxStack := 4, maxLocals := 1, code := jdk_43_method_46_code, exceptionTable := #[], attributes := #[] }
def k9m3 : Method := { name := "toBytes", desc := "(C)[B", sig := { parameters := [.char], returnType := some (.array .byte) }, accessFlags := 9, code := some k9c3 }
/-- java/lang/StringLatin1 -/
def k9 : Class := { plain "java/lang/StringLatin1" (some 0) with
  accessFlags := 48
  interfaces := #[]
  cf := some (fileOf pool9 14 #[.nestMembers #[390, 221]] #[{ accessFlags := 0, nameIndex := 7, descriptorIndex := 8, attributes := #[] }, { accessFlags := 9, nameIndex := 90, descriptorIndex := 105, attributes := #[] }, { accessFlags := 9, nameIndex := 281, descriptorIndex := 282, attributes := #[] }, { accessFlags := 9, nameIndex := 380, descriptorIndex := 382, attributes := #[] }] 48 4 #[] #[{ accessFlags := 4120, nameIndex := 121, descriptorIndex := 122, attributes := #[] }])
  fields := #[{ name := "$assertionsDisabled", type := .boolean, accessFlags := 4120, slot := 0, constantValue := 0 }]
  methods := #[k9m0, k9m1, k9m2, k9m3]
  instanceTypes := #[]
  staticTypes := #[.boolean]
  resolved := Array.replicate 395 none
  statics := none }

def pool10 : Array CpInfo := pool [(1, .methodref 2 3), (0, .class_ 4), (0, .nameAndType 5 6), (0, u "java/lang/Object"), (0, u "<init>"), (0, u "()V"), (0, .class_ 8), (0, u "java/lang/Record")] 13

def k10c0 : Code := { maxStack := 1, maxLocals := 1, code := jdk_30_method_1_code, exceptionTable := #[], attributes := #[] }
def k10m0 : Method := { name := "<init>", desc := "()V", sig := { parameters := [], returnType := none }, accessFlags := 4, code := some k10c0 }
/-- java/lang/Record -/
def k10 : Class := { plain "java/lang/Record" (some 0) with
  accessFlags := 1057
  interfaces := #[]
  cf := some (fileOf pool10 7 #[] #[{ accessFlags := 4, nameIndex := 5, descriptorIndex := 6, attributes := #[] }] 1057 2 #[] #[])
  fields := #[]
  methods := #[k10m0]
  instanceTypes := #[]
  staticTypes := #[]
  resolved := Array.replicate 22 none
  statics := none }

def pool11 : Array CpInfo := pool [(1, .methodref 2 3), (0, .class_ 4), (0, .nameAndType 5 6), (0, u "java/lang/Record"), (0, u "<init>"), (0, u "()V"), (0, .string 8), (0, u "token"), (0, .methodref 10 11), (0, .class_ 12), (0, .nameAndType 13 14), (0, u "java/util/Objects"), (0, u "requireNonNull"), (0, u "(Ljava/lang/Object;Ljava/lang/String;)Ljava/lang/Object;"), (0, .string 16), (0, u "firstToken"), (0, .string 18), (0, u "senderId"), (0, .string 20), (0, u "app"), (0, .string 22), (0, u "canonicalToken"), (0, .fieldref 24 25), (0, .class_ 26), (0, .nameAndType 8 27), (0, u "com/example/tidewire/tidewire/registration/Registration"), (0, u "Ljava/lang/String;"), (0, .fieldref 24 29), (0, .nameAndType 16 27), (0, .fieldref 24 31), (0, .nameAndType 18 27), (0, .fieldref 24 33), (0, .nameAndType 20 27), (0, .fieldref 24 35), (0, .nameAndType 22 27), (0, .fieldref 24 37), (0, .nameAndType 38 39), (0, u "unregistered"), (0, u "Z"), (0, .methodref 41 42), (0, .class_ 43), (0, .nameAndType 44 45), (0, u "java/lang/String"), (0, u "equals"), (0, u "(Ljava/lang/Object;)Z"), (11, u "(Ljava/lang/String;Ljava/lang/String;Ljava/lang/String;Ljava/lang/String;Ljava/lang/String;Z)V"), (3, u "isReplaced"), (0, u "()Z")] 28

def k11c0 : Code := { maxStack := 2, maxLocals := 7, code := prog_13_method_1_code, exceptionTable := #[], attributes := #[] }
def k11m0 : Method := { name := "<init>", desc := "(Ljava/lang/String;Ljava/lang/String;Ljava/lang/String;Ljava/lang/String;Ljava/lang/String;Z)V", sig := { parameters := [(.object "java/lang/String"), (.object "java/lang/String"), (.object "java/lang/String"), (.object "java/lang/String"), (.object "java/lang/String"), .boolean], returnType := none }, accessFlags := 1, code := some k11c0 }
def k11c1 : Code := { maxStack := 2, maxLocals := 1, code := prog_13_method_2_code, exceptionTable := #[], attributes := #[] }
def k11m1 : Method := { name := "isReplaced", desc := "()Z", sig := { parameters := [], returnType := some .boolean }, accessFlags := 1, code := some k11c1 }
/-- com/example/tidewire/tidewire/registration/Registration -/
def k11 : Class := { plain "com/example/tidewire/tidewire/registration/Registration" (some 10) with
  accessFlags := 49
  interfaces := #[]
  cf := some (fileOf pool11 24 #[] #[{ accessFlags := 1, nameIndex := 5, descriptorIndex := 57, attributes := #[] }, { accessFlags := 1, nameIndex := 61, descriptorIndex := 62, attributes := #[] }] 49 2 #[] #[{ accessFlags := 18, nameIndex := 8, descriptorIndex := 27, attributes := #[] }, { accessFlags := 18, nameIndex := 16, descriptorIndex := 27, attributes := #[] }, { accessFlags := 18, nameIndex := 18, descriptorIndex := 27, attributes := #[] }, { accessFlags := 18, nameIndex := 20, descriptorIndex := 27, attributes := #[] }, { accessFlags := 18, nameIndex := 22, descriptorIndex := 27, attributes := #[] }, { accessFlags := 18, nameIndex := 38, descriptorIndex := 39, attributes := #[] }])
  fields := #[{ name := "token", type := (.object "java/lang/String"), accessFlags := 18, slot := 0, constantValue := 0 }, { name := "firstToken", type := (.object "java/lang/String"), accessFlags := 18, slot := 1, constantValue := 0 }, { name := "senderId", type := (.object "java/lang/String"), accessFlags := 18, slot := 2, constantValue := 0 }, { name := "app", type := (.object "java/lang/String"), accessFlags := 18, slot := 3, constantValue := 0 }, { name := "canonicalToken", type := (.object "java/lang/String"), accessFlags := 18, slot := 4, constantValue := 0 }, { name := "unregistered", type := .boolean, accessFlags := 18, slot := 5, constantValue := 0 }]
  methods := #[k11m0, k11m1]
  instanceTypes := #[(.object "java/lang/String"), (.object "java/lang/String"), (.object "java/lang/String"), (.object "java/lang/String"), (.object "java/lang/String"), .boolean]
  staticTypes := #[]
  resolved := Array.replicate 91 none
  statics := none }

def pool12 : Array CpInfo := pool [(2, .class_ 4), (1, u "java/lang/Object"), (0, u "<init>"), (0, u "()V"), (35, .class_ 44), (1, u "java/util/Objects"), (0, u "requireNonNull"), (48, u "(Ljava/lang/Object;Ljava/lang/String;)Ljava/lang/Object;")] 89

def k12m0 : Method := { name := "<init>", desc := "()V", sig := { parameters := [], returnType := none }, accessFlags := 2, code := none }
def k12c1 : Code := { maxStack := 3, maxLocals := 2, code := jdk_31_method_11_code, exceptionTable := #[], attributes := #[] }
def k12m1 : Method := { name := "requireNonNull", desc := "(Ljava/lang/Object;Ljava/lang/String;)Ljava/lang/Object;", sig := { parameters := [(.object "java/lang/Object"), (.object "java/lang/String")], returnType := some (.object "java/lang/Object") }, accessFlags := 9, code := some k12c1 }
/-- java/util/Objects -/
def k12 : Class := { plain "java/util/Objects" (some 0) with
  accessFlags := 49
  interfaces := #[]
  cf := some (fileOf pool12 42 #[] #[{ accessFlags := 2, nameIndex := 5, descriptorIndex := 6, attributes := #[] }, { accessFlags := 9, nameIndex := 45, descriptorIndex := 94, attributes := #[] }] 49 2 #[] #[])
  fields := #[]
  methods := #[k12m0, k12m1]
  instanceTypes := #[]
  staticTypes := #[]
  resolved := Array.replicate 184 none
  statics := none }

def pool13 : Array CpInfo := pool [(2, .class_ 4), (1, u "java/lang/Object"), (0, u "<init>"), (0, u "()V"), (17, .class_ 26), (1, u "jdk/internal/util/Preconditions"), (28, .class_ 56), (0, u "jdk/internal/util/Preconditions$4"), (57, .class_ 115), (0, u "jdk/internal/util/Preconditions$1"), (7, u "SIOOBE_FORMATTER"), (0, u "Ljava/util/function/BiFunction;"), (0, .class_ 126), (0, u "jdk/internal/util/Preconditions$2"), (3, u "AIOOBE_FORMATTER"), (0, .class_ 132), (0, u "jdk/internal/util/Preconditions$3"), (3, u "IOOBE_FORMATTER")] 57

def k13m0 : Method := { name := "<init>", desc := "()V", sig := { parameters := [], returnType := none }, accessFlags := 1, code := none }
/-- jdk/internal/util/Preconditions -/
def k13 : Class := { plain "jdk/internal/util/Preconditions" (some 0) with
  accessFlags := 33
  interfaces := #[]
  cf := some (fileOf pool13 24 #[.nestMembers #[55, 131, 125, 114]] #[{ accessFlags := 1, nameIndex := 5, descriptorIndex := 6, attributes := #[] }] 33 2 #[] #[{ accessFlags := 25, nameIndex := 123, descriptorIndex := 124, attributes := #[] }, { accessFlags := 25, nameIndex := 130, descriptorIndex := 124, attributes := #[] }, { accessFlags := 25, nameIndex := 136, descriptorIndex := 124, attributes := #[] }])
  fields := #[{ name := "SIOOBE_FORMATTER", type := (.object "java/util/function/BiFunction"), accessFlags := 25, slot := 0, constantValue := 0 }, { name := "AIOOBE_FORMATTER", type := (.object "java/util/function/BiFunction"), accessFlags := 25, slot := 1, constantValue := 0 }, { name := "IOOBE_FORMATTER", type := (.object "java/util/function/BiFunction"), accessFlags := 25, slot := 2, constantValue := 0 }]
  methods := #[k13m0]
  instanceTypes := #[]
  staticTypes := #[(.object "java/util/function/BiFunction"), (.object "java/util/function/BiFunction"), (.object "java/util/function/BiFunction")]
  resolved := Array.replicate 194 none
  statics := some 1 }

def pool14 : Array CpInfo := pool [(9, u "<init>"), (6, .class_ 18), (1, u "java/lang/Object"), (0, u "()V"), (1, .class_ 23), (1, u "jdk/internal/util/ArraysSupport"), (0, u "LOG2_ARRAY_LONG_INDEX_SCALE"), (0, u "I"), (2, u "U"), (0, u "Ljdk/internal/misc/Unsafe;"), (8, u "BIG_ENDIAN"), (0, u "Z"), (8, u "LOG2_BYTE_BIT_SIZE"), (4, u "LOG2_ARRAY_INT_INDEX_SCALE"), (54, u "JLA"), (0, u "Ljdk/internal/access/JavaLangAccess;"), (11, u "LOG2_ARRAY_BOOLEAN_INDEX_SCALE"), (9, u "LOG2_ARRAY_BYTE_INDEX_SCALE"), (5, u "LOG2_ARRAY_CHAR_INDEX_SCALE"), (5, u "LOG2_ARRAY_SHORT_INDEX_SCALE"), (18, u "LOG2_ARRAY_FLOAT_INDEX_SCALE"), (24, u "LOG2_ARRAY_DOUBLE_INDEX_SCALE"), (89, u "T_BOOLEAN"), (2, u "T_CHAR"), (1, u "T_FLOAT"), (1, u "T_DOUBLE"), (1, u "T_BYTE"), (1, u "T_SHORT"), (1, u "T_INT"), (1, u "T_LONG"), (1, u "SOFT_MAX_ARRAY_LENGTH")] 83

def k14m0 : Method := { name := "<init>", desc := "()V", sig := { parameters := [], returnType := none }, accessFlags := 2, code := none }
/-- jdk/internal/util/ArraysSupport -/
def k14 : Class := { plain "jdk/internal/util/ArraysSupport" (some 0) with
  accessFlags := 33
  interfaces := #[]
  cf := some (fileOf pool14 21 #[] #[{ accessFlags := 2, nameIndex := 9, descriptorIndex := 19, attributes := #[] }] 33 16 #[] #[{ accessFlags := 24, nameIndex := 28, descriptorIndex := 29, attributes := #[] }, { accessFlags := 26, nameIndex := 38, descriptorIndex := 39, attributes := #[] }, { accessFlags := 25, nameIndex := 121, descriptorIndex := 25, attributes := #[] }, { accessFlags := 25, nameIndex := 131, descriptorIndex := 25, attributes := #[] }, { accessFlags := 25, nameIndex := 137, descriptorIndex := 25, attributes := #[] }, { accessFlags := 25, nameIndex := 143, descriptorIndex := 25, attributes := #[] }, { accessFlags := 25, nameIndex := 53, descriptorIndex := 25, attributes := #[] }, { accessFlags := 25, nameIndex := 24, descriptorIndex := 25, attributes := #[] }, { accessFlags := 25, nameIndex := 162, descriptorIndex := 25, attributes := #[] }, { accessFlags := 25, nameIndex := 187, descriptorIndex := 25, attributes := #[] }, { accessFlags := 26, nameIndex := 48, descriptorIndex := 25, attributes := #[] }, { accessFlags := 25, nameIndex := 277, descriptorIndex := 25, attributes := #[] }, { accessFlags := 25, nameIndex := 280, descriptorIndex := 25, attributes := #[] }, { accessFlags := 25, nameIndex := 282, descriptorIndex := 25, attributes := #[] }, { accessFlags := 25, nameIndex := 284, descriptorIndex := 25, attributes := #[] }, { accessFlags := 25, nameIndex := 286, descriptorIndex := 25, attributes := #[] }, { accessFlags := 25, nameIndex := 288, descriptorIndex := 25, attributes := #[] }, { accessFlags := 25, nameIndex := 290, descriptorIndex := 25, attributes := #[] }, { accessFlags := 25, nameIndex := 292, descriptorIndex := 25, attributes := #[] }, { accessFlags := 26, nameIndex := 108, descriptorIndex := 109, attributes := #[] }, { accessFlags := 25, nameIndex := 294, descriptorIndex := 25, attributes := #[] }])
  fields := #[{ name := "U", type := (.object "jdk/internal/misc/Unsafe"), accessFlags := 24, slot := 0, constantValue := 0 }, { name := "BIG_ENDIAN", type := .boolean, accessFlags := 26, slot := 1, constantValue := 0 }, { name := "LOG2_ARRAY_BOOLEAN_INDEX_SCALE", type := .int, accessFlags := 25, slot := 2, constantValue := 0 }, { name := "LOG2_ARRAY_BYTE_INDEX_SCALE", type := .int, accessFlags := 25, slot := 3, constantValue := 0 }, { name := "LOG2_ARRAY_CHAR_INDEX_SCALE", type := .int, accessFlags := 25, slot := 4, constantValue := 0 }, { name := "LOG2_ARRAY_SHORT_INDEX_SCALE", type := .int, accessFlags := 25, slot := 5, constantValue := 0 }, { name := "LOG2_ARRAY_INT_INDEX_SCALE", type := .int, accessFlags := 25, slot := 6, constantValue := 0 }, { name := "LOG2_ARRAY_LONG_INDEX_SCALE", type := .int, accessFlags := 25, slot := 7, constantValue := 0 }, { name := "LOG2_ARRAY_FLOAT_INDEX_SCALE", type := .int, accessFlags := 25, slot := 8, constantValue := 0 }, { name := "LOG2_ARRAY_DOUBLE_INDEX_SCALE", type := .int, accessFlags := 25, slot := 9, constantValue := 0 }, { name := "LOG2_BYTE_BIT_SIZE", type := .int, accessFlags := 26, slot := 10, constantValue := 0 }, { name := "T_BOOLEAN", type := .int, accessFlags := 25, slot := 11, constantValue := 0 }, { name := "T_CHAR", type := .int, accessFlags := 25, slot := 12, constantValue := 0 }, { name := "T_FLOAT", type := .int, accessFlags := 25, slot := 13, constantValue := 0 }, { name := "T_DOUBLE", type := .int, accessFlags := 25, slot := 14, constantValue := 0 }, { name := "T_BYTE", type := .int, accessFlags := 25, slot := 15, constantValue := 0 }, { name := "T_SHORT", type := .int, accessFlags := 25, slot := 16, constantValue := 0 }, { name := "T_INT", type := .int, accessFlags := 25, slot := 17, constantValue := 0 }, { name := "T_LONG", type := .int, accessFlags := 25, slot := 18, constantValue := 0 }, { name := "JLA", type := (.object "jdk/internal/access/JavaLangAccess"), accessFlags := 26, slot := 19, constantValue := 0 }, { name := "SOFT_MAX_ARRAY_LENGTH", type := .int, accessFlags := 25, slot := 20, constantValue := 0 }]
  methods := #[k14m0]
  instanceTypes := #[]
  staticTypes := #[(.object "jdk/internal/misc/Unsafe"), .boolean, .int, .int, .int, .int, .int, .int, .int, .int, .int, .int, .int, .int, .int, .int, .int, .int, .int, (.object "jdk/internal/access/JavaLangAccess"), .int]
  resolved := Array.replicate 378 none
  statics := none }

def pool15 : Array CpInfo := pool [(1, u "java/lang/Cloneable"), (0, .class_ 1), (0, u "java/lang/Object"), (0, .class_ 3)] 3

/-- java/lang/Cloneable -/
def k15 : Class := { plain "java/lang/Cloneable" (some 0) with
  accessFlags := 1537
  interfaces := #[]
  cf := some (fileOf pool15 2 #[] #[] 1537 4 #[] #[])
  fields := #[]
  methods := #[]
  instanceTypes := #[]
  staticTypes := #[]
  resolved := Array.replicate 8 none
  statics := none }

/-- the primitive byte -/
def k16 : Class := { plain "byte" none with kind := .primitive 'B', accessFlags := 0x411 }
/-- [B -/
def k17 : Class := { plain "[B" (some 0) with kind := .array 16 .byte, interfaces := #[15, 2], accessFlags := 1041 }

/-- the primitive char -/
def k18 : Class := { plain "char" none with kind := .primitive 'C', accessFlags := 0x411 }
/-- [C -/
def k19 : Class := { plain "[C" (some 0) with kind := .array 18 .char, interfaces := #[15, 2], accessFlags := 1041 }

/-- the primitive int -/
def k20 : Class := { plain "int" none with kind := .primitive 'I', accessFlags := 0x411 }
/-- [I -/
def k21 : Class := { plain "[I" (some 0) with kind := .array 20 .int, interfaces := #[15, 2], accessFlags := 1041 }

def heap : Heap := #[{ cls := 7, slots := #[.long 0, .int 1, .null, .int 0, .null, .int 0, .int 0], vm := .statics 7 },
  { cls := 13, slots := #[.null, .null, .null], vm := .statics 13 }]
def classes : Array Class := #[k0, k1, k2, k3, k4, k5, k6, k7, k8, k9, k10, k11, k12, k13, k14, k15, k16, k17, k18, k19, k20, k21]
def interned : List (Array UInt16 × Addr) := []
def slotsUsed : Nat := 10
def theMethod : MethodId := ⟨1, 2⟩
def args0 : Array Value := #[.int 5, .int 5, .int 5, .int 5]
def aboutOver (below : List Frame) : State where
  vm := { classes := classes, interned := interned.toArray }
  heap := heap
  slotsUsed := slotsUsed
  threads := #[{ frames := .invoking theMethod args0 :: below }]
def below0 : List Frame := [.native { method := ⟨0, 0⟩, args := #[] }]
def about1 : State := aboutOver below0
def p0 : Program := .bare "" "" ""
def e0 : Env := launch0.env 0 0 0
theorem w_frames : about1.frames = Frame.invoking theMethod args0 :: below0 := rfl
set_option maxRecDepth 65536 in
theorem w_args : argsFit about1.vm theMethod args0 = true := by decide +kernel
set_option maxRecDepth 65536 in
theorem w_heap : heapFits about1 = true := by decide +kernel
set_option maxRecDepth 65536 in
theorem w_runnable : about1.curStatus? = some .runnable := by decide +kernel
set_option maxRecDepth 65536 in
theorem w_alone : about1.alone = true := by decide +kernel
set_option maxRecDepth 65536 in
theorem w_named : about1.methodNamed? x = some theMethod := by decide +kernel
set_option maxRecDepth 65536 in
theorem w_hears : about1.hears theMethod below0 = true := by decide +kernel
set_option maxRecDepth 65536 in
theorem w_ripe : about1.ripe theMethod args0 below0 = true := by decide +kernel
theorem w_running : about1.status = .running := rfl
set_option maxRecDepth 65536 in
theorem w_room : about1.hasRoom e0.platform room_1 = true :=
  launch0.hasRoom_least _ room_1 (by decide +kernel) (by decide +kernel) (by decide +kernel) (by decide +kernel) (by decide +kernel) (by decide +kernel)
theorem allAtoms_all (ts : List Jvm.Cond) (a : Array Jvm.Value) (st : Jvm.State) : (allAtoms ts).before a st = ts.all (fun c => c.before a st) := by
  induction ts with
  | nil => rfl
  | cons c t ih =>
    show (Jvm.Cond.and c (allAtoms t)).before a st = _
    rw [Jvm.Cond.before_and, ih, List.all_cons]
def words1 : List Jvm.Cond := Jvm.Cond.code x code maxLocals ret :: tables_1
/-- a 'code' word, met by the world's own term for the bytes: nothing is compared byte by byte -/
theorem code_word {y : MethodName} {bytes : ByteArray} {mx : Nat} {rt : Option FieldType} {a : Array Value} {s : State} {m : MethodId} {meth : Method} {c : Code} (h1 : s.methodNamed? y = some m) (h2 : s.vm.method? m = some meth) (h3 : meth.code = some c) (h4 : c.code = bytes)
    (h5 : (c.maxLocals == mx && c.exceptionTable.isEmpty && decide (c.maxStack ≤ mostOperands) && decide (meth.sig.returnType = rt) && !meth.locks && decide (parseMethodDescriptor y.desc = some meth.sig)) = true) : (Jvm.Cond.code y bytes mx rt).before a s = true := by
  simp only [Bool.and_eq_true, beq_iff_eq, Bool.not_eq_true', decide_eq_true_eq] at h5
  obtain ⟨⟨⟨⟨⟨g1, g2⟩, g3⟩, g4⟩, g5⟩, g6⟩ := h5
  simp [Cond.before, Cond.holds, Cond.value, h1, h2, h3, h4, g1, g2, g3, g4, g5, g6]
def isCode : Jvm.Cond → Bool
  | .code _ _ _ _ => true
  | _ => false
theorem all_split {L : List Jvm.Cond} {P : Jvm.Cond → Bool} (h1 : L.all (fun c => isCode c || P c) = true) (h2 : ∀ c ∈ L.filter isCode, P c = true) : L.all P = true := by
  refine List.all_eq_true.mpr fun c hc => ?_
  have h := List.all_eq_true.mp h1 c hc
  rcases Bool.eq_false_or_eq_true (isCode c) with hi | hi
  · exact h2 c (List.mem_filter.mpr ⟨hc, hi⟩)
  · simpa [hi] using h
set_option maxRecDepth 65536 in
theorem w_c0 : (Jvm.Cond.code x code maxLocals ret).before args0 about1 = true := code_word (m := ⟨1, 2⟩) (meth := k1m2) (c := k1c2) (by decide +kernel) rfl rfl rfl (by decide +kernel)
set_option maxRecDepth 65536 in
theorem w_c1 : (Jvm.Cond.code ({ cls := "com/example/tidewire/tidewire/registration/RegistrationIsReplacedPinLaw", name := "mk", desc := "(IIII)Ljava/lang/String;" } : Jvm.MethodName) method_2_code (5 : Nat) (Option.some (Jvm.ClassFile.FieldType.object "java/lang/String"))).before args0 about1 = true := code_word (m := ⟨1, 1⟩) (meth := k1m1) (c := k1c1) (by decide +kernel) rfl rfl rfl (by decide +kernel)
set_option maxRecDepth 65536 in
theorem w_c2 : (Jvm.Cond.code ({ cls := "java/lang/String", name := "<init>", desc := "([C)V" } : Jvm.MethodName) jdk_42_method_3_code (2 : Nat) (Option.none : Option Jvm.ClassFile.FieldType)).before args0 about1 = true := code_word (m := ⟨7, 1⟩) (meth := k7m1) (c := k7c1) (by decide +kernel) rfl rfl rfl (by decide +kernel)
set_option maxRecDepth 65536 in
theorem w_c3 : (Jvm.Cond.code ({ cls := "java/lang/String", name := "<init>", desc := "([CIILjava/lang/Void;)V" } : Jvm.MethodName) jdk_42_method_149_code (6 : Nat) (Option.none : Option Jvm.ClassFile.FieldType)).before args0 about1 = true := code_word (m := ⟨7, 4⟩) (meth := k7m4) (c := k7c4) (by decide +kernel) rfl rfl rfl (by decide +kernel)
set_option maxRecDepth 65536 in
theorem w_c4 : (Jvm.Cond.code ({ cls := "java/lang/Object", name := "<init>", desc := "()V" } : Jvm.MethodName) object_method_1_code (1 : Nat) (Option.none : Option Jvm.ClassFile.FieldType)).before args0 about1 = true := code_word (m := ⟨0, 0⟩) (meth := k0m0) (c := k0c0) (by decide +kernel) rfl rfl rfl (by decide +kernel)
set_option maxRecDepth 65536 in
theorem w_c5 : (Jvm.Cond.code ({ cls := "java/lang/StringUTF16", name := "compress", desc := "([CII)[B" } : Jvm.MethodName) jdk_52_method_16_code (6 : Nat) (Option.some (Jvm.ClassFile.FieldType.array Jvm.ClassFile.FieldType.byte))).before args0 about1 = true := code_word (m := ⟨8, 2⟩) (meth := k8m2) (c := k8c2) (by decide +kernel) rfl rfl rfl (by decide +kernel)
set_option maxRecDepth 65536 in
theorem w_c6 : (Jvm.Cond.code ({ cls := "java/lang/StringUTF16", name := "compress", desc := "([CI[BII)I" } : Jvm.MethodName) jdk_52_method_21_code (7 : Nat) (Option.some Jvm.ClassFile.FieldType.int)).before args0 about1 = true := code_word (m := ⟨8, 3⟩) (meth := k8m3) (c := k8c3) (by decide +kernel) rfl rfl rfl (by decide +kernel)
set_option maxRecDepth 65536 in
theorem w_c7 : (Jvm.Cond.code ({ cls := "java/lang/StringUTF16", name := "coderFromArrayLen", desc := "([BI)B" } : Jvm.MethodName) jdk_52_method_15_code (2 : Nat) (Option.some Jvm.ClassFile.FieldType.byte)).before args0 about1 = true := code_word (m := ⟨8, 1⟩) (meth := k8m1) (c := k8c1) (by decide +kernel) rfl rfl rfl (by decide +kernel)
set_option maxRecDepth 65536 in
theorem w_c8 : (Jvm.Cond.code ({ cls := "java/lang/String", name := "valueOf", desc := "(C)Ljava/lang/String;" } : Jvm.MethodName) jdk_42_method_139_code (1 : Nat) (Option.some (Jvm.ClassFile.FieldType.object "java/lang/String"))).before args0 about1 = true := code_word (m := ⟨7, 3⟩) (meth := k7m3) (c := k7c3) (by decide +kernel) rfl rfl rfl (by decide +kernel)
set_option maxRecDepth 65536 in
theorem w_c9 : (Jvm.Cond.code ({ cls := "java/lang/StringLatin1", name := "canEncode", desc := "(C)Z" } : Jvm.MethodName) jdk_43_method_3_code (1 : Nat) (Option.some Jvm.ClassFile.FieldType.boolean)).before args0 about1 = true := code_word (m := ⟨9, 1⟩) (meth := k9m1) (c := k9c1) (by decide +kernel) rfl rfl rfl (by decide +kernel)
set_option maxRecDepth 65536 in
theorem w_c10 : (Jvm.Cond.code ({ cls := "java/lang/StringLatin1", name := "toBytes", desc := "(C)[B" } : Jvm.MethodName) jdk_43_method_46_code (1 : Nat) (Option.some (Jvm.ClassFile.FieldType.array Jvm.ClassFile.FieldType.byte))).before args0 about1 = true := code_word (m := ⟨9, 3⟩) (meth := k9m3) (c := k9c3) (by decide +kernel) rfl rfl rfl (by decide +kernel)
set_option maxRecDepth 65536 in
theorem w_c11 : (Jvm.Cond.code ({ cls := "java/lang/String", name := "<init>", desc := "([BB)V" } : Jvm.MethodName) jdk_42_method_151_code (3 : Nat) (Option.none : Option Jvm.ClassFile.FieldType)).before args0 about1 = true := code_word (m := ⟨7, 5⟩) (meth := k7m5) (c := k7c5) (by decide +kernel) rfl rfl rfl (by decide +kernel)
set_option maxRecDepth 65536 in
theorem w_c12 : (Jvm.Cond.code ({ cls := "com/example/tidewire/tidewire/registration/Registration", name := "<init>", desc := "(Ljava/lang/String;Ljava/lang/String;Ljava/lang/String;Ljava/lang/String;Ljava/lang/String;Z)V" } : Jvm.MethodName) prog_13_method_1_code (7 : Nat) (Option.none : Option Jvm.ClassFile.FieldType)).before args0 about1 = true := code_word (m := ⟨11, 0⟩) (meth := k11m0) (c := k11c0) (by decide +kernel) rfl rfl rfl (by decide +kernel)
set_option maxRecDepth 65536 in
theorem w_c13 : (Jvm.Cond.code ({ cls := "java/lang/Record", name := "<init>", desc := "()V" } : Jvm.MethodName) jdk_30_method_1_code (1 : Nat) (Option.none : Option Jvm.ClassFile.FieldType)).before args0 about1 = true := code_word (m := ⟨10, 0⟩) (meth := k10m0) (c := k10c0) (by decide +kernel) rfl rfl rfl (by decide +kernel)
set_option maxRecDepth 65536 in
theorem w_c14 : (Jvm.Cond.code ({ cls := "java/util/Objects", name := "requireNonNull", desc := "(Ljava/lang/Object;Ljava/lang/String;)Ljava/lang/Object;" } : Jvm.MethodName) jdk_31_method_11_code (2 : Nat) (Option.some (Jvm.ClassFile.FieldType.object "java/lang/Object"))).before args0 about1 = true := code_word (m := ⟨12, 1⟩) (meth := k12m1) (c := k12c1) (by decide +kernel) rfl rfl rfl (by decide +kernel)
set_option maxRecDepth 65536 in
theorem w_c15 : (Jvm.Cond.code ({ cls := "com/example/tidewire/tidewire/registration/Registration", name := "isReplaced", desc := "()Z" } : Jvm.MethodName) prog_13_method_2_code (1 : Nat) (Option.some Jvm.ClassFile.FieldType.boolean)).before args0 about1 = true := code_word (m := ⟨11, 1⟩) (meth := k11m1) (c := k11c1) (by decide +kernel) rfl rfl rfl (by decide +kernel)
set_option maxRecDepth 65536 in
theorem w_c16 : (Jvm.Cond.code ({ cls := "java/lang/String", name := "equals", desc := "(Ljava/lang/Object;)Z" } : Jvm.MethodName) jdk_42_method_66_code (3 : Nat) (Option.some Jvm.ClassFile.FieldType.boolean)).before args0 about1 = true := code_word (m := ⟨7, 2⟩) (meth := k7m2) (c := k7c2) (by decide +kernel) rfl rfl rfl (by decide +kernel)
set_option maxRecDepth 65536 in
theorem w_c17 : (Jvm.Cond.code ({ cls := "java/lang/StringLatin1", name := "equals", desc := "([B[B)Z" } : Jvm.MethodName) jdk_43_method_13_code (3 : Nat) (Option.some Jvm.ClassFile.FieldType.boolean)).before args0 about1 = true := code_word (m := ⟨9, 2⟩) (meth := k9m2) (c := k9c2) (by decide +kernel) rfl rfl rfl (by decide +kernel)
def codes1 : List Jvm.Cond := [Jvm.Cond.code x code maxLocals ret, Jvm.Cond.code ({ cls := "com/example/tidewire/tidewire/registration/RegistrationIsReplacedPinLaw", name := "mk", desc := "(IIII)Ljava/lang/String;" } : Jvm.MethodName) method_2_code (5 : Nat) (Option.some (Jvm.ClassFile.FieldType.object "java/lang/String")), Jvm.Cond.code ({ cls := "java/lang/String", name := "<init>", desc := "([C)V" } : Jvm.MethodName) jdk_42_method_3_code (2 : Nat) (Option.none : Option Jvm.ClassFile.FieldType), Jvm.Cond.code ({ cls := "java/lang/String", name := "<init>", desc := "([CIILjava/lang/Void;)V" } : Jvm.MethodName) jdk_42_method_149_code (6 : Nat) (Option.none : Option Jvm.ClassFile.FieldType), Jvm.Cond.code ({ cls := "java/lang/Object", name := "<init>", desc := "()V" } : Jvm.MethodName) object_method_1_code (1 : Nat) (Option.none : Option Jvm.ClassFile.FieldType), Jvm.Cond.code ({ cls := "java/lang/StringUTF16", name := "compress", desc := "([CII)[B" } : Jvm.MethodName) jdk_52_method_16_code (6 : Nat) (Option.some (Jvm.ClassFile.FieldType.array Jvm.ClassFile.FieldType.byte)), Jvm.Cond.code ({ cls := "java/lang/StringUTF16", name := "compress", desc := "([CI[BII)I" } : Jvm.MethodName) jdk_52_method_21_code (7 : Nat) (Option.some Jvm.ClassFile.FieldType.int), Jvm.Cond.code ({ cls := "java/lang/StringUTF16", name := "coderFromArrayLen", desc := "([BI)B" } : Jvm.MethodName) jdk_52_method_15_code (2 : Nat) (Option.some Jvm.ClassFile.FieldType.byte), Jvm.Cond.code ({ cls := "java/lang/String", name := "valueOf", desc := "(C)Ljava/lang/String;" } : Jvm.MethodName) jdk_42_method_139_code (1 : Nat) (Option.some (Jvm.ClassFile.FieldType.object "java/lang/String")), Jvm.Cond.code ({ cls := "java/lang/StringLatin1", name := "canEncode", desc := "(C)Z" } : Jvm.MethodName) jdk_43_method_3_code (1 : Nat) (Option.some Jvm.ClassFile.FieldType.boolean), Jvm.Cond.code ({ cls := "java/lang/StringLatin1", name := "toBytes", desc := "(C)[B" } : Jvm.MethodName) jdk_43_method_46_code (1 : Nat) (Option.some (Jvm.ClassFile.FieldType.array Jvm.ClassFile.FieldType.byte)), Jvm.Cond.code ({ cls := "java/lang/String", name := "<init>", desc := "([BB)V" } : Jvm.MethodName) jdk_42_method_151_code (3 : Nat) (Option.none : Option Jvm.ClassFile.FieldType), Jvm.Cond.code ({ cls := "com/example/tidewire/tidewire/registration/Registration", name := "<init>", desc := "(Ljava/lang/String;Ljava/lang/String;Ljava/lang/String;Ljava/lang/String;Ljava/lang/String;Z)V" } : Jvm.MethodName) prog_13_method_1_code (7 : Nat) (Option.none : Option Jvm.ClassFile.FieldType), Jvm.Cond.code ({ cls := "java/lang/Record", name := "<init>", desc := "()V" } : Jvm.MethodName) jdk_30_method_1_code (1 : Nat) (Option.none : Option Jvm.ClassFile.FieldType), Jvm.Cond.code ({ cls := "java/util/Objects", name := "requireNonNull", desc := "(Ljava/lang/Object;Ljava/lang/String;)Ljava/lang/Object;" } : Jvm.MethodName) jdk_31_method_11_code (2 : Nat) (Option.some (Jvm.ClassFile.FieldType.object "java/lang/Object")), Jvm.Cond.code ({ cls := "com/example/tidewire/tidewire/registration/Registration", name := "isReplaced", desc := "()Z" } : Jvm.MethodName) prog_13_method_2_code (1 : Nat) (Option.some Jvm.ClassFile.FieldType.boolean), Jvm.Cond.code ({ cls := "java/lang/String", name := "equals", desc := "(Ljava/lang/Object;)Z" } : Jvm.MethodName) jdk_42_method_66_code (3 : Nat) (Option.some Jvm.ClassFile.FieldType.boolean), Jvm.Cond.code ({ cls := "java/lang/StringLatin1", name := "equals", desc := "([B[B)Z" } : Jvm.MethodName) jdk_43_method_13_code (3 : Nat) (Option.some Jvm.ClassFile.FieldType.boolean)]
set_option maxRecDepth 65536 in
theorem codes_eq : words1.filter isCode = codes1 := rfl
theorem w_codes : ∀ c ∈ words1.filter isCode, c.before args0 about1 = true := by
  rw [codes_eq]
  intro c hc
  simp only [codes1, List.mem_cons, List.not_mem_nil, or_false] at hc
  rcases hc with rfl | rfl | rfl | rfl | rfl | rfl | rfl | rfl | rfl | rfl | rfl | rfl | rfl | rfl | rfl | rfl | rfl | rfl
  · exact w_c0
  · exact w_c1
  · exact w_c2
  · exact w_c3
  · exact w_c4
  · exact w_c5
  · exact w_c6
  · exact w_c7
  · exact w_c8
  · exact w_c9
  · exact w_c10
  · exact w_c11
  · exact w_c12
  · exact w_c13
  · exact w_c14
  · exact w_c15
  · exact w_c16
  · exact w_c17
set_option maxRecDepth 65536 in
theorem w_t1 : (words1.take 24).all (fun c => isCode c || c.before args0 about1) = true := by decide +kernel
set_option maxRecDepth 65536 in
theorem w_t2 : ((words1.drop 24).take 24).all (fun c => isCode c || c.before args0 about1) = true := by decide +kernel
set_option maxRecDepth 65536 in
theorem w_t3 : (((words1.drop 24).drop 24).take 24).all (fun c => isCode c || c.before args0 about1) = true := by decide +kernel
set_option maxRecDepth 65536 in
theorem w_t4 : ((((words1.drop 24).drop 24).drop 24).take 24).all (fun c => isCode c || c.before args0 about1) = true := by decide +kernel
set_option maxRecDepth 65536 in
theorem w_t5 : ((((words1.drop 24).drop 24).drop 24).drop 24).all (fun c => isCode c || c.before args0 about1) = true := by decide +kernel
theorem w_tables : (allAtoms (Jvm.Cond.code x code maxLocals ret :: tables_1)).before args0 about1 = true := by
  rw [allAtoms_all]
  show words1.all (fun c => c.before args0 about1) = true
  refine all_split ?_ w_codes
  rw [← List.take_append_drop 24 words1, List.all_append, w_t1, ← List.take_append_drop 24 (words1.drop 24), List.all_append, w_t2, ← List.take_append_drop 24 ((words1.drop 24).drop 24), List.all_append, w_t3, ← List.take_append_drop 24 (((words1.drop 24).drop 24).drop 24), List.all_append, w_t4, w_t5]
  rfl
set_option maxRecDepth 65536 in
theorem w_rest : rest_1_c.before args0 about1 = true := by decide +kernel
set_option maxRecDepth 65536 in
theorem w_case : (Jvm.Cond.and given_1 narrow_1).before args0 about1 = true := by decide +kernel
set_option maxRecDepth 65536 in
theorem w_consts : constsHeld consts_1 about1 := Jvm.Lit.constsHeldB_iff.mp (by decide +kernel)
theorem w_applies : (headSpec (Jvm.Cond.code x code maxLocals ret :: tables_1) room_1).applies x e0.platform about1 = true :=
  (Spec.applies_iff w_frames).mpr ⟨w_running, w_runnable, w_alone, w_named, w_hears, w_ripe, w_room, w_tables⟩
theorem atStart : AtStart classFile x code maxLocals ret World_1 tables_1 room_1 Calls_1 rest_1 Pre_1 launch0 p0 e0 about1 theMethod args0 below0 :=
  ⟨lists_1, trivial, launch0.admits_env _ _ _, launch0.least_env, fairChoices_fair.cas, fairChoices_fair.clock, w_frames, w_args, w_heap, w_applies, ⟨w_consts, trivial⟩, w_rest, w_case⟩
end start1
theorem witness_1 : WitnessClaimed_1 := ⟨start1.p0, start1.e0, start1.about1, start1.theMethod, start1.args0, start1.below0, start1.atStart⟩
end Jvm.Pilot.@@N@@
