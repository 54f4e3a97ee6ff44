import JvmDerived
import JvmDerived.Pilot.@@N@@Statement
import JvmDerived.Pilot.@@N@@Code
set_option linter.unusedVariables false
set_option linter.unusedSimpArgs false
namespace Jvm.Own
open Jvm Sem ClassFile Op Lib Jvm.Stand Jvm.Free Jvm.LawKit Jvm.RoadKit Bundle
/-- the moving data of a walk: program, environment, the start, the method, its arguments, the frames below, the method's record, its code -/
abbrev Cx : Type := Program × Env × State × MethodId × Array Value × List Frame × Method × Code
/-- from here the run ends as P says -/
def Go (K : Cx) (P : Outcome → State → Prop) (T : State) (pc : Nat) (ls : Array Slot) (st : List Value) : Prop :=
  ∃ o U, Steps K.1.tables K.2.1 K.2.2.2.2.2.1 (T.setTop (mkF K.2.2.2.1 pc ls st)) U ∧ U.status = .running ∧ Ended U K.2.2.2.2.2.1 o ∧ P o U
/-- where a walk stands: over its start re-tabled; heap h; sf: the cells that it may write -/
def Wk (l : Launch) (Z : State) (EL : List (String × Nat)) (own nm : String) (cd : ByteArray) (ml : Nat) (ret : Option FieldType) (R : Room) (ws : List Addr) (h0 : Heap) (K : Cx) (sf : List Addr) (T : State) (h : Heap) (cells slots : Nat) : Prop :=
  ∃ (vm0 : Vm) (locs : List Loc) (k0 : Nat), Stand K.1 l K.2.1 R (K.2.2.1.setVm vm0) K.2.2.2.1 K.2.2.2.2.1 K.2.2.2.2.2.1 K.2.2.2.2.2.2.1 K.2.2.2.2.2.2.2 T locs cells slots ∧ T.heap = h ∧ K.1.tables.exec = Jvm.exec ∧
    (K.2.2.2.2.2.2.2.code = cd ∧ K.2.2.2.2.2.2.2.maxLocals = ml ∧ K.2.2.2.2.2.2.1.sig.returnType = ret ∧ K.2.2.2.2.2.2.1.locks = false ∧ K.2.2.2.2.2.2.1.name = nm) ∧ K.2.2.1.heap = h0 ∧
    Z.Warmed39 vm0 ∧ vm0.findClass own = some K.2.2.2.1.cls ∧ K.2.2.1.Since vm0 k0 ∧ k0 ≤ h.size ∧ (∀ x ∈ locs, x.base ∈ ws ∨ h0.size ≤ x.base) ∧ CHr Z EL K.2.2.1.vm h0 vm0 h ∧ Old Z Z.heap.size h ∧ (∃ a0, EW Z a0 EL) ∧
    (∀ x ∈ ws, Z.heap.size ≤ x) ∧ Z.heap.size ≤ h0.size ∧ ∀ x ∈ sf, Safe Z EL vm0 h x ∧ x < h.size ∧ (x ∈ ws ∨ h0.size ≤ x)
/-- what a contract promises at the end -/
def Pst (Z : State) (EL : List (String × Nat)) (ws : List Addr) (s : State) (kc ks : Nat) (Q : Option Value → Heap → List Addr → Prop) (o : Outcome) (U : State) : Prop :=
  ∃ v L so, o = .returned v ∧ Q v U.heap so ∧ (∀ x ∈ so, Safe Z EL U.vm U.heap x ∧ s.heap.size ≤ x ∧ x < U.heap.size) ∧ (∀ x ∈ L, x.base ∈ ws ∨ s.heap.size ≤ x.base) ∧ CHr Z EL s.vm s.heap U.vm U.heap ∧ ReturnedEndW s o U L kc ks
/-- a body's contract: from the heap h and the arguments as', whatever is booked said, ws writable -/
def Ct (l : Launch) (Z : State) (EL : List (String × Nat)) (y : MethodName) (cd : ByteArray) (ml : Nat) (ret : Option FieldType) (rm : Room) (as' : Array Value) (h : Heap) (ws : List Addr) (Q : Option Value → Heap → List Addr → Prop) : Prop :=
  ∀ wl, MetFree l y (head1 (Cond.code y cd ml ret :: wl) rm) (fun a U => a = as' ∧ Z.Warmed39 U.vm ∧ U.heap = h ∧ CHv Z EL U.vm h ∧ ∀ x ∈ ws, Safe Z EL U.vm h x ∧ x < h.size) (fun _ _ _ _ _ => True) (fun _ U o U' => Pst Z EL ws U rm.cells rm.slots Q o U')
section Basics
variable {l : Launch} {Z : State} {EL : List (String × Nat)} {own nm : String} {cd : ByteArray} {ml : Nat} {ret : Option FieldType} {R : Room} {ws : List Addr} {h0 : Heap} {K : Cx} {sf : List Addr} {T : State} {h h' : Heap} {cells slots : Nat} {P : Outcome → State → Prop} {pc pc' : Nat} {ls : Array Slot} {st : List Value} {a0 : Array Value}
theorem Go.stp {T' : State} {pc' : Nat} {ls' : Array Slot} {st' : List Value} (f : ∀ t, Steps K.1.tables K.2.1 K.2.2.2.2.2.1 (T'.setTop (mkF K.2.2.2.1 pc' ls' st')) t → Steps K.1.tables K.2.1 K.2.2.2.2.2.1 (T.setTop (mkF K.2.2.2.1 pc ls st)) t) (k : Go K P T' pc' ls' st') : Go K P T pc ls st := by
  obtain ⟨o, U, r, q⟩ := k; exact ⟨o, U, f _ r, q⟩
theorem Go.top {v v' : Value} (e : v = v') (k : Go K P T pc ls (v' :: st)) : Go K P T pc ls (v :: st) := e ▸ k
theorem Wk.heapEq (W : Wk l Z EL own nm cd ml ret R ws h0 K sf T h cells slots) : T.heap = h := by obtain ⟨_, _, _, _, e, _⟩ := W; exact e
theorem Wk.old (W : Wk l Z EL own nm cd ml ret R ws h0 K sf T h cells slots) : Old Z Z.heap.size h := by obtain ⟨_, _, _, _, _, _, _, _, _, _, _, _, _, _, q, _⟩ := W; exact q
theorem Wk.grow (W : Wk l Z EL own nm cd ml ret R ws h0 K sf T h cells slots) : h0.size ≤ h.size := by obtain ⟨_, _, _, _, _, _, _, _, _, _, _, _, _, q, _⟩ := W; exact q.2.1
theorem Wk.lt (W : Wk l Z EL own nm cd ml ret R ws h0 K sf T h cells slots) {x : Addr} (hx : x ∈ sf) : x < h.size := by obtain ⟨_, _, _, _, _, _, _, _, _, _, _, _, _, _, _, _, _, _, q⟩ := W; exact (q x hx).2.1
theorem Wk.mono (W : Wk l Z EL own nm cd ml ret R ws h0 K sf T h cells slots) {cells' slots' : Nat} (hc : cells ≤ cells') (hn : slots ≤ slots') : Wk l Z EL own nm cd ml ret R ws h0 K sf T h cells' slots' := by
  obtain ⟨vm0, locs, k0, X, r⟩ := W; exact ⟨vm0, locs, k0, X.mono hc hn, r⟩
theorem Wk.less (W : Wk l Z EL own nm cd ml ret R ws h0 K sf T h cells slots) {sf' : List Addr} (hs : ∀ x ∈ sf', x ∈ sf) : Wk l Z EL own nm cd ml ret R ws h0 K sf' T h cells slots := by
  obtain ⟨vm0, locs, k0, X, e, hx, hc, e0, hZ, hown, hS, hk, hL, hC, hO, hE, hw, hz, hs'⟩ := W
  exact ⟨vm0, locs, k0, X, e, hx, hc, e0, hZ, hown, hS, hk, hL, hC, hO, hE, hw, hz, fun x q => hs' x (hs x q)⟩
/-- an object whose class is neither String nor byte[] is booked nowhere -/
theorem Wk.addE (W : Wk l Z EL own nm cd ml ret R ws h0 K sf T h cells slots) {x : Addr} {C : String} (E : Exa Z h x C) (h1 : C ≠ "java/lang/String") (h2 : C ≠ "[B") (hp : x ∈ ws ∨ h0.size ≤ x) : Wk l Z EL own nm cd ml ret R ws h0 K (x :: sf) T h cells slots := by
  obtain ⟨vm0, locs, k0, X, e, hx, hc, e0, hZ, hown, hS, hk, hL, hC, hO, hE, hw, hz, hs⟩ := W
  exact ⟨vm0, locs, k0, X, e, hx, hc, e0, hZ, hown, hS, hk, hL, hC, hO, hE, hw, hz, fun y hy => by
    rcases List.mem_cons.mp hy with rfl | hy
    · exact ⟨Safe.exa hZ.alike E h1 h2, E.lt, hp⟩
    · exact hs y hy⟩
theorem all1 {α : Type} {P : α → Prop} {y : α} {L : List α} (q : P y) (r : ∀ x ∈ L, P x) : ∀ x ∈ y :: L, P x := fun x hx => (List.mem_cons.mp hx).elim (fun e => e ▸ q) (r x)
theorem alln {α : Type} {P : α → Prop} : ∀ x ∈ ([] : List α), P x := fun _ q => nomatch q
theorem keep_of {s U : State} {L : List Loc} {k n : Nat} {ws : List Addr} (hs : s.sameButNew U L k n) (hL : ∀ x ∈ L, x.base ∈ ws ∨ s.heap.size ≤ x.base) : Keep s.heap U.heap ws := by
  obtain ⟨-, q2, -, -, -, q6⟩ := hs
  refine ⟨q2, fun x c hx hn => ?_, fun x c hx => ?_⟩
  · obtain ⟨c', r1, r2, r3, r4⟩ := q6 x c hx
    have hlt := (Array.getElem?_eq_some_iff.mp hx).1
    have e1 : c'.slots = c.slots := Array.ext_getElem? fun i => r4 i fun hm => by
      rcases hL _ hm with z | z
      · exact hn z
      · exact absurd hlt (Nat.not_lt.mpr z)
    have e2 : c' = c := by rw [r2, e1]
    rw [r1, e2]
  · obtain ⟨c', r1, r2, r3, -⟩ := q6 x c hx
    exact ⟨c', r1, by rw [r2], by rw [r2], r3⟩
/-- entering a body -/
theorem Ct.mk {y : MethodName} (own nm : String) (h1 : y.cls = own) (h2 : y.name = nm) {rm : Room} {as' : Array Value} {Q : Option Value → Heap → List Addr → Prop} (pn : plainFor y = true) (hO : Old Z Z.heap.size h) (hE : EW Z a0 EL) (hw : ∀ x ∈ ws, Z.heap.size ≤ x)
    (k : ∀ (K : Cx) (T : State), Wk l Z EL own nm cd ml ret rm ws h K ws T h 0 0 → Go K (Pst Z EL ws K.2.2.1 rm.cells rm.slots Q) T 0 (entryFrame K.2.2.2.1 as' ml).locals []) : Ct l Z EL y cd ml ret rm as' h ws Q := by
  subst h1 h2
  intro wl
  refine MetFree.of_bodySF pn hisR ?_
  intro p e s m args below meth c s₁ Bd hml hP hK
  obtain ⟨rfl, hZ, hh, hCH, hsf⟩ := hP
  have X0 := Stand.of_body Bd
  have hes : s₁.heap = h := by rw [← hh, Bd.state]; rfl
  have hvm : s₁.vm = s.vm := by rw [Bd.state]; rfl
  have hn := name_of_methodNamed Bd.named Bd.method
  obtain ⟨o, U, r1, r2, r3, r4⟩ := k (p, e, s, m, args, below, meth, c) s₁ ⟨s.vm, [], 0, X0, hes, Bd.exec, ⟨Bd.bytes, hml, Bd.returns, Bd.notSynchronized, hn.1⟩, hh, hZ, findClass_of_methodNamed Bd.named, (State.WarmedH.refl s).since 0, Nat.zero_le _, (fun x q => nomatch q), by rw [← hh] at hCH ⊢; exact CHr.refl hCH, hO, ⟨a0, hE⟩, hw, hO.1 ▸ hO.2.1, fun x q => ⟨(hsf x q).1, (hsf x q).2, Or.inl q⟩⟩
  refine ⟨U, o, ?_, r2, r3, r4⟩
  have ef : entryFrame m args ml = mkF m 0 (entryFrame m args ml).locals [] := rfl
  rw [ef]; exact r1
end Basics
section Pure
variable {l : Launch} {Z : State} {EL : List (String × Nat)} {own nm : String} {cd : ByteArray} {ml : Nat} {ret : Option FieldType} {R : Room} {ws : List Addr} {h0 : Heap} {K : Cx} {sf : List Addr} {T : State} {h h' : Heap} {cells slots : Nat} {P : Outcome → State → Prop} {pc pc' : Nat} {ls : Array Slot} {st : List Value} {a0 : Array Value}
theorem gAloadN (W : Wk l Z EL own nm cd ml ret R ws h0 K sf T h cells slots) {i : Fin 4} {v : Value} (hd : decode cd pc = .ok (.aload_n i, 1)) (hl : ls[i.val]? = some (.val v)) (hv : v.isRef = true) (hp : pc + 1 = pc') (k : Go K P T pc' ls (v :: st)) : Go K P T pc ls st := by
  obtain ⟨vm0, locs, k0, X, e, hx, ⟨hc, -⟩, -⟩ := W
  subst hp
  exact Go.stp (fun t r => XS.aloadN X.here hx rfl (hb hc hd) hl hv r) k
theorem gAload (W : Wk l Z EL own nm cd ml ret R ws h0 K sf T h cells slots) {i : Nat} {v : Value} (hd : decode cd pc = .ok (.aload i, 2)) (hl : ls[i]? = some (.val v)) (hv : v.isRef = true) (hp : pc + 2 = pc') (k : Go K P T pc' ls (v :: st)) : Go K P T pc ls st := by
  obtain ⟨vm0, locs, k0, X, e, hx, ⟨hc, -⟩, -⟩ := W
  subst hp
  exact Go.stp (fun t r => XS.aload X.here hx rfl (hb hc hd) hl hv r) k
theorem gIloadN (W : Wk l Z EL own nm cd ml ret R ws h0 K sf T h cells slots) {i : Fin 4} {v : Int32} (hd : decode cd pc = .ok (.iload_n i, 1)) (hl : ls[i.val]? = some (.val (.int v))) (hp : pc + 1 = pc') (k : Go K P T pc' ls (.int v :: st)) : Go K P T pc ls st := by
  obtain ⟨vm0, locs, k0, X, e, hx, ⟨hc, -⟩, -⟩ := W
  subst hp
  exact Go.stp (fun t r => XS.iloadN X.here hx rfl (hb hc hd) hl r) k
theorem gIload (W : Wk l Z EL own nm cd ml ret R ws h0 K sf T h cells slots) {i : Nat} {v : Int32} (hd : decode cd pc = .ok (.iload i, 2)) (hl : ls[i]? = some (.val (.int v))) (hp : pc + 2 = pc') (k : Go K P T pc' ls (.int v :: st)) : Go K P T pc ls st := by
  obtain ⟨vm0, locs, k0, X, e, hx, ⟨hc, -⟩, -⟩ := W
  subst hp
  exact Go.stp (fun t r => XS.iload X.here hx rfl (hb hc hd) hl r) k
theorem gLloadN (W : Wk l Z EL own nm cd ml ret R ws h0 K sf T h cells slots) {i : Fin 4} {v : Int64} (hd : decode cd pc = .ok (.lload_n i, 1)) (hl : ls[i.val]? = some (.val (.long v))) (hp : pc + 1 = pc') (k : Go K P T pc' ls (.long v :: st)) : Go K P T pc ls st := by
  obtain ⟨vm0, locs, k0, X, e, hx, ⟨hc, -⟩, -⟩ := W
  subst hp
  exact Go.stp (fun t r => XS.lloadN X.here hx rfl (hb hc hd) hl r) k
theorem gLload (W : Wk l Z EL own nm cd ml ret R ws h0 K sf T h cells slots) {i : Nat} {v : Int64} (hd : decode cd pc = .ok (.lload i, 2)) (hl : ls[i]? = some (.val (.long v))) (hp : pc + 2 = pc') (k : Go K P T pc' ls (.long v :: st)) : Go K P T pc ls st := by
  obtain ⟨vm0, locs, k0, X, e, hx, ⟨hc, -⟩, -⟩ := W
  subst hp
  exact Go.stp (fun t r => XS.lload X.here hx rfl (hb hc hd) hl r) k
theorem gIconst (W : Wk l Z EL own nm cd ml ret R ws h0 K sf T h cells slots) {i : Int} {z : Int32} (hd : decode cd pc = .ok (.iconst i, 1)) (hz : Int32.ofInt i = z) (hp : pc + 1 = pc') (k : Go K P T pc' ls (.int z :: st)) : Go K P T pc ls st := by
  obtain ⟨vm0, locs, k0, X, e, hx, ⟨hc, -⟩, -⟩ := W
  subst hp
  exact Go.stp (fun t r => XS.iconst X.here hx rfl (hb hc hd) <| hz ▸ r) k
theorem gBipush (W : Wk l Z EL own nm cd ml ret R ws h0 K sf T h cells slots) {i : Int} {z : Int32} (hd : decode cd pc = .ok (.bipush i, 2)) (hz : (Int8.ofInt i).toInt32 = z) (hp : pc + 2 = pc') (k : Go K P T pc' ls (.int z :: st)) : Go K P T pc ls st := by
  obtain ⟨vm0, locs, k0, X, e, hx, ⟨hc, -⟩, -⟩ := W
  subst hp
  exact Go.stp (fun t r => XS.bipush X.here hx rfl (hb hc hd) <| hz ▸ r) k
theorem gSipush (W : Wk l Z EL own nm cd ml ret R ws h0 K sf T h cells slots) {i : Int} {z : Int32} (hd : decode cd pc = .ok (.sipush i, 3)) (hz : (Int16.ofInt i).toInt32 = z) (hp : pc + 3 = pc') (k : Go K P T pc' ls (.int z :: st)) : Go K P T pc ls st := by
  obtain ⟨vm0, locs, k0, X, e, hx, ⟨hc, -⟩, -⟩ := W
  subst hp
  exact Go.stp (fun t r => XS.sipush X.here hx rfl (hb hc hd) <| hz ▸ r) k
theorem gAconstNull (W : Wk l Z EL own nm cd ml ret R ws h0 K sf T h cells slots)  (hd : decode cd pc = .ok (.aconst_null, 1))  (hp : pc + 1 = pc') (k : Go K P T pc' ls (.null :: st)) : Go K P T pc ls st := by
  obtain ⟨vm0, locs, k0, X, e, hx, ⟨hc, -⟩, -⟩ := W
  subst hp
  exact Go.stp (fun t r => XS.aconstNull X.here hx rfl (hb hc hd) r) k
theorem gLconst (W : Wk l Z EL own nm cd ml ret R ws h0 K sf T h cells slots) {i : Fin 2} {z : Int64} (hd : decode cd pc = .ok (.lconst i, 1)) (hz : (Int64.ofNat i.val) = z) (hp : pc + 1 = pc') (k : Go K P T pc' ls (.long z :: st)) : Go K P T pc ls st := by
  obtain ⟨vm0, locs, k0, X, e, hx, ⟨hc, -⟩, -⟩ := W
  subst hp
  exact Go.stp (fun t r => XS.lconst X.here hx rfl (hb hc hd) <| hz ▸ r) k
theorem gIadd (W : Wk l Z EL own nm cd ml ret R ws h0 K sf T h cells slots) {x y z : Int32} (hd : decode cd pc = .ok (.iadd, 1)) (hz : x + y = z) (hp : pc + 1 = pc') (k : Go K P T pc' ls (.int z :: st)) : Go K P T pc ls (.int y :: .int x :: st) := by
  obtain ⟨vm0, locs, k0, X, e, hx, ⟨hc, -⟩, -⟩ := W
  subst hp
  exact Go.stp (fun t r => XS.iadd X.here hx rfl (hb hc hd) rfl <| hz ▸ r) k
theorem gIsub (W : Wk l Z EL own nm cd ml ret R ws h0 K sf T h cells slots) {x y z : Int32} (hd : decode cd pc = .ok (.isub, 1)) (hz : x - y = z) (hp : pc + 1 = pc') (k : Go K P T pc' ls (.int z :: st)) : Go K P T pc ls (.int y :: .int x :: st) := by
  obtain ⟨vm0, locs, k0, X, e, hx, ⟨hc, -⟩, -⟩ := W
  subst hp
  exact Go.stp (fun t r => XS.isub X.here hx rfl (hb hc hd) rfl <| hz ▸ r) k
theorem gImul (W : Wk l Z EL own nm cd ml ret R ws h0 K sf T h cells slots) {x y z : Int32} (hd : decode cd pc = .ok (.imul, 1)) (hz : x * y = z) (hp : pc + 1 = pc') (k : Go K P T pc' ls (.int z :: st)) : Go K P T pc ls (.int y :: .int x :: st) := by
  obtain ⟨vm0, locs, k0, X, e, hx, ⟨hc, -⟩, -⟩ := W
  subst hp
  exact Go.stp (fun t r => XS.imul X.here hx rfl (hb hc hd) rfl <| hz ▸ r) k
theorem gIand (W : Wk l Z EL own nm cd ml ret R ws h0 K sf T h cells slots) {x y z : Int32} (hd : decode cd pc = .ok (.iand, 1)) (hz : x &&& y = z) (hp : pc + 1 = pc') (k : Go K P T pc' ls (.int z :: st)) : Go K P T pc ls (.int y :: .int x :: st) := by
  obtain ⟨vm0, locs, k0, X, e, hx, ⟨hc, -⟩, -⟩ := W
  subst hp
  exact Go.stp (fun t r => XS.iand X.here hx rfl (hb hc hd) rfl <| hz ▸ r) k
theorem gIor (W : Wk l Z EL own nm cd ml ret R ws h0 K sf T h cells slots) {x y z : Int32} (hd : decode cd pc = .ok (.ior, 1)) (hz : x ||| y = z) (hp : pc + 1 = pc') (k : Go K P T pc' ls (.int z :: st)) : Go K P T pc ls (.int y :: .int x :: st) := by
  obtain ⟨vm0, locs, k0, X, e, hx, ⟨hc, -⟩, -⟩ := W
  subst hp
  exact Go.stp (fun t r => XS.ior X.here hx rfl (hb hc hd) rfl <| hz ▸ r) k
theorem gIxor (W : Wk l Z EL own nm cd ml ret R ws h0 K sf T h cells slots) {x y z : Int32} (hd : decode cd pc = .ok (.ixor, 1)) (hz : x ^^^ y = z) (hp : pc + 1 = pc') (k : Go K P T pc' ls (.int z :: st)) : Go K P T pc ls (.int y :: .int x :: st) := by
  obtain ⟨vm0, locs, k0, X, e, hx, ⟨hc, -⟩, -⟩ := W
  subst hp
  exact Go.stp (fun t r => XS.ixor X.here hx rfl (hb hc hd) rfl <| hz ▸ r) k
theorem gIshl (W : Wk l Z EL own nm cd ml ret R ws h0 K sf T h cells slots) {x y z : Int32} (hd : decode cd pc = .ok (.ishl, 1)) (hz : x <<< (y &&& 31) = z) (hp : pc + 1 = pc') (k : Go K P T pc' ls (.int z :: st)) : Go K P T pc ls (.int y :: .int x :: st) := by
  obtain ⟨vm0, locs, k0, X, e, hx, ⟨hc, -⟩, -⟩ := W
  subst hp
  exact Go.stp (fun t r => XS.ishl X.here hx rfl (hb hc hd) rfl <| hz ▸ r) k
theorem gIshr (W : Wk l Z EL own nm cd ml ret R ws h0 K sf T h cells slots) {x y z : Int32} (hd : decode cd pc = .ok (.ishr, 1)) (hz : x >>> (y &&& 31) = z) (hp : pc + 1 = pc') (k : Go K P T pc' ls (.int z :: st)) : Go K P T pc ls (.int y :: .int x :: st) := by
  obtain ⟨vm0, locs, k0, X, e, hx, ⟨hc, -⟩, -⟩ := W
  subst hp
  exact Go.stp (fun t r => XS.ishr X.here hx rfl (hb hc hd) rfl <| hz ▸ r) k
theorem gIushr (W : Wk l Z EL own nm cd ml ret R ws h0 K sf T h cells slots) {x y z : Int32} (hd : decode cd pc = .ok (.iushr, 1)) (hz : (x.toUInt32 >>> (y &&& 31).toUInt32).toInt32 = z) (hp : pc + 1 = pc') (k : Go K P T pc' ls (.int z :: st)) : Go K P T pc ls (.int y :: .int x :: st) := by
  obtain ⟨vm0, locs, k0, X, e, hx, ⟨hc, -⟩, -⟩ := W
  subst hp
  exact Go.stp (fun t r => XS.iushr X.here hx rfl (hb hc hd) rfl <| hz ▸ r) k
theorem gIdiv (W : Wk l Z EL own nm cd ml ret R ws h0 K sf T h cells slots) {x y z : Int32} (hd : decode cd pc = .ok (.idiv, 1)) (hy : y ≠ 0) (hz : x / y = z) (hp : pc + 1 = pc') (k : Go K P T pc' ls (.int z :: st)) : Go K P T pc ls (.int y :: .int x :: st) := by
  obtain ⟨vm0, locs, k0, X, e, hx, ⟨hc, -⟩, -⟩ := W
  subst hp
  exact Go.stp (fun t r => XS.idiv X.here hx rfl (hb hc hd) rfl hy <| hz ▸ r) k
theorem gIrem (W : Wk l Z EL own nm cd ml ret R ws h0 K sf T h cells slots) {x y z : Int32} (hd : decode cd pc = .ok (.irem, 1)) (hy : y ≠ 0) (hz : x % y = z) (hp : pc + 1 = pc') (k : Go K P T pc' ls (.int z :: st)) : Go K P T pc ls (.int y :: .int x :: st) := by
  obtain ⟨vm0, locs, k0, X, e, hx, ⟨hc, -⟩, -⟩ := W
  subst hp
  exact Go.stp (fun t r => iremM X hx rfl (hb hc hd) rfl hy <| hz ▸ r) k
theorem gIneg (W : Wk l Z EL own nm cd ml ret R ws h0 K sf T h cells slots) {x z : Int32} (hd : decode cd pc = .ok (.ineg, 1)) (hz : -x = z) (hp : pc + 1 = pc') (k : Go K P T pc' ls (.int z :: st)) : Go K P T pc ls (.int x :: st) := by
  obtain ⟨vm0, locs, k0, X, e, hx, ⟨hc, -⟩, -⟩ := W
  subst hp
  exact Go.stp (fun t r => XS.ineg X.here hx rfl (hb hc hd) rfl <| hz ▸ r) k
theorem gI2B (W : Wk l Z EL own nm cd ml ret R ws h0 K sf T h cells slots) {x z : Int32} (hd : decode cd pc = .ok (.i2b, 1)) (hz : x.toInt8.toInt32 = z) (hp : pc + 1 = pc') (k : Go K P T pc' ls (.int z :: st)) : Go K P T pc ls (.int x :: st) := by
  obtain ⟨vm0, locs, k0, X, e, hx, ⟨hc, -⟩, -⟩ := W
  subst hp
  exact Go.stp (fun t r => XS.i2b X.here hx rfl (hb hc hd) rfl <| hz ▸ r) k
theorem gI2C (W : Wk l Z EL own nm cd ml ret R ws h0 K sf T h cells slots) {x z : Int32} (hd : decode cd pc = .ok (.i2c, 1)) (hz : x.toUInt32.toUInt16.toUInt32.toInt32 = z) (hp : pc + 1 = pc') (k : Go K P T pc' ls (.int z :: st)) : Go K P T pc ls (.int x :: st) := by
  obtain ⟨vm0, locs, k0, X, e, hx, ⟨hc, -⟩, -⟩ := W
  subst hp
  exact Go.stp (fun t r => XS.i2c X.here hx rfl (hb hc hd) rfl <| hz ▸ r) k
theorem gI2S (W : Wk l Z EL own nm cd ml ret R ws h0 K sf T h cells slots) {x z : Int32} (hd : decode cd pc = .ok (.i2s, 1)) (hz : x.toInt16.toInt32 = z) (hp : pc + 1 = pc') (k : Go K P T pc' ls (.int z :: st)) : Go K P T pc ls (.int x :: st) := by
  obtain ⟨vm0, locs, k0, X, e, hx, ⟨hc, -⟩, -⟩ := W
  subst hp
  exact Go.stp (fun t r => XS.i2s X.here hx rfl (hb hc hd) rfl <| hz ▸ r) k
theorem gI2L (W : Wk l Z EL own nm cd ml ret R ws h0 K sf T h cells slots) {x : Int32} {z : Int64} (hd : decode cd pc = .ok (.i2l, 1)) (hz : x.toInt64 = z) (hp : pc + 1 = pc') (k : Go K P T pc' ls (.long z :: st)) : Go K P T pc ls (.int x :: st) := by
  obtain ⟨vm0, locs, k0, X, e, hx, ⟨hc, -⟩, -⟩ := W
  subst hp
  exact Go.stp (fun t r => XS.i2l X.here hx rfl (hb hc hd) rfl <| hz ▸ r) k
theorem gL2I (W : Wk l Z EL own nm cd ml ret R ws h0 K sf T h cells slots) {x : Int64} {z : Int32} (hd : decode cd pc = .ok (.l2i, 1)) (hz : x.toInt32 = z) (hp : pc + 1 = pc') (k : Go K P T pc' ls (.int z :: st)) : Go K P T pc ls (.long x :: st) := by
  obtain ⟨vm0, locs, k0, X, e, hx, ⟨hc, -⟩, -⟩ := W
  subst hp
  exact Go.stp (fun t r => XS.l2i X.here hx rfl (hb hc hd) rfl <| hz ▸ r) k
theorem gLadd (W : Wk l Z EL own nm cd ml ret R ws h0 K sf T h cells slots) {x y z : Int64} (hd : decode cd pc = .ok (.ladd, 1)) (hz : x + y = z) (hp : pc + 1 = pc') (k : Go K P T pc' ls (.long z :: st)) : Go K P T pc ls (.long y :: .long x :: st) := by
  obtain ⟨vm0, locs, k0, X, e, hx, ⟨hc, -⟩, -⟩ := W
  subst hp
  exact Go.stp (fun t r => XS.ladd X.here hx rfl (hb hc hd) rfl <| hz ▸ r) k
theorem gLsub (W : Wk l Z EL own nm cd ml ret R ws h0 K sf T h cells slots) {x y z : Int64} (hd : decode cd pc = .ok (.lsub, 1)) (hz : x - y = z) (hp : pc + 1 = pc') (k : Go K P T pc' ls (.long z :: st)) : Go K P T pc ls (.long y :: .long x :: st) := by
  obtain ⟨vm0, locs, k0, X, e, hx, ⟨hc, -⟩, -⟩ := W
  subst hp
  exact Go.stp (fun t r => XS.lsub X.here hx rfl (hb hc hd) rfl <| hz ▸ r) k
theorem gLmul (W : Wk l Z EL own nm cd ml ret R ws h0 K sf T h cells slots) {x y z : Int64} (hd : decode cd pc = .ok (.lmul, 1)) (hz : x * y = z) (hp : pc + 1 = pc') (k : Go K P T pc' ls (.long z :: st)) : Go K P T pc ls (.long y :: .long x :: st) := by
  obtain ⟨vm0, locs, k0, X, e, hx, ⟨hc, -⟩, -⟩ := W
  subst hp
  exact Go.stp (fun t r => XS.lmul X.here hx rfl (hb hc hd) rfl <| hz ▸ r) k
theorem gLand (W : Wk l Z EL own nm cd ml ret R ws h0 K sf T h cells slots) {x y z : Int64} (hd : decode cd pc = .ok (.land, 1)) (hz : x &&& y = z) (hp : pc + 1 = pc') (k : Go K P T pc' ls (.long z :: st)) : Go K P T pc ls (.long y :: .long x :: st) := by
  obtain ⟨vm0, locs, k0, X, e, hx, ⟨hc, -⟩, -⟩ := W
  subst hp
  exact Go.stp (fun t r => XS.land X.here hx rfl (hb hc hd) rfl <| hz ▸ r) k
theorem gLor (W : Wk l Z EL own nm cd ml ret R ws h0 K sf T h cells slots) {x y z : Int64} (hd : decode cd pc = .ok (.lor, 1)) (hz : x ||| y = z) (hp : pc + 1 = pc') (k : Go K P T pc' ls (.long z :: st)) : Go K P T pc ls (.long y :: .long x :: st) := by
  obtain ⟨vm0, locs, k0, X, e, hx, ⟨hc, -⟩, -⟩ := W
  subst hp
  exact Go.stp (fun t r => XS.lor X.here hx rfl (hb hc hd) rfl <| hz ▸ r) k
theorem gLxor (W : Wk l Z EL own nm cd ml ret R ws h0 K sf T h cells slots) {x y z : Int64} (hd : decode cd pc = .ok (.lxor, 1)) (hz : x ^^^ y = z) (hp : pc + 1 = pc') (k : Go K P T pc' ls (.long z :: st)) : Go K P T pc ls (.long y :: .long x :: st) := by
  obtain ⟨vm0, locs, k0, X, e, hx, ⟨hc, -⟩, -⟩ := W
  subst hp
  exact Go.stp (fun t r => XS.lxor X.here hx rfl (hb hc hd) rfl <| hz ▸ r) k
theorem gLshl (W : Wk l Z EL own nm cd ml ret R ws h0 K sf T h cells slots) {x z : Int64} {y : Int32} (hd : decode cd pc = .ok (.lshl, 1)) (hz : x <<< (y &&& 0x3f).toInt64 = z) (hp : pc + 1 = pc') (k : Go K P T pc' ls (.long z :: st)) : Go K P T pc ls (.int y :: .long x :: st) := by
  obtain ⟨vm0, locs, k0, X, e, hx, ⟨hc, -⟩, -⟩ := W
  subst hp
  exact Go.stp (fun t r => XS.lshl X.here hx rfl (hb hc hd) rfl <| hz ▸ r) k
theorem gLshr (W : Wk l Z EL own nm cd ml ret R ws h0 K sf T h cells slots) {x z : Int64} {y : Int32} (hd : decode cd pc = .ok (.lshr, 1)) (hz : x >>> (y &&& 0x3f).toInt64 = z) (hp : pc + 1 = pc') (k : Go K P T pc' ls (.long z :: st)) : Go K P T pc ls (.int y :: .long x :: st) := by
  obtain ⟨vm0, locs, k0, X, e, hx, ⟨hc, -⟩, -⟩ := W
  subst hp
  exact Go.stp (fun t r => XS.lshr X.here hx rfl (hb hc hd) rfl <| hz ▸ r) k
theorem gLushr (W : Wk l Z EL own nm cd ml ret R ws h0 K sf T h cells slots) {x z : Int64} {y : Int32} (hd : decode cd pc = .ok (.lushr, 1)) (hz : (x.toUInt64 >>> (y &&& 0x3f).toInt64.toUInt64).toInt64 = z) (hp : pc + 1 = pc') (k : Go K P T pc' ls (.long z :: st)) : Go K P T pc ls (.int y :: .long x :: st) := by
  obtain ⟨vm0, locs, k0, X, e, hx, ⟨hc, -⟩, -⟩ := W
  subst hp
  exact Go.stp (fun t r => XS.lushr X.here hx rfl (hb hc hd) rfl <| hz ▸ r) k
theorem gLcmp (W : Wk l Z EL own nm cd ml ret R ws h0 K sf T h cells slots) {x y : Int64} {z : Int32} (hd : decode cd pc = .ok (.lcmp, 1)) (hz : lcmpW x y = z) (hp : pc + 1 = pc') (k : Go K P T pc' ls (.int z :: st)) : Go K P T pc ls (.long y :: .long x :: st) := by
  obtain ⟨vm0, locs, k0, X, e, hx, ⟨hc, -⟩, -⟩ := W
  subst hp
  exact Go.stp (fun t r => XS.lcmp X.here hx rfl (hb hc hd) rfl (by subst hz; exact r)) k
theorem gDup (W : Wk l Z EL own nm cd ml ret R ws h0 K sf T h cells slots) {x : Value} (hd : decode cd pc = .ok (.dup, 1)) (hc1 : x.category = 1) (hp : pc + 1 = pc') (k : Go K P T pc' ls (x :: x :: st)) : Go K P T pc ls (x :: st) := by
  obtain ⟨vm0, locs, k0, X, e, hx, ⟨hc, -⟩, -⟩ := W
  subst hp
  exact Go.stp (fun t r => XS.dup X.here hx rfl (hb hc hd) rfl hc1 r) k
theorem gPop (W : Wk l Z EL own nm cd ml ret R ws h0 K sf T h cells slots) {x : Value} (hd : decode cd pc = .ok (.pop, 1)) (hc1 : x.category = 1) (hp : pc + 1 = pc') (k : Go K P T pc' ls st) : Go K P T pc ls (x :: st) := by
  obtain ⟨vm0, locs, k0, X, e, hx, ⟨hc, -⟩, -⟩ := W
  subst hp
  exact Go.stp (fun t r => XS.pop X.here hx rfl (hb hc hd) rfl hc1 r) k
theorem gIstoreN (W : Wk l Z EL own nm cd ml ret R ws h0 K sf T h cells slots) {i : Fin 4} {x : Int32} {ls' : Array Slot} (hd : decode cd pc = .ok (.istore_n i, 1)) (hl : storeLocals ls i.val (.int x) = some ls') (hp : pc + 1 = pc') (k : Go K P T pc' ls' st) : Go K P T pc ls (.int x :: st) := by
  obtain ⟨vm0, locs, k0, X, e, hx, ⟨hc, -⟩, -⟩ := W
  subst hp
  exact Go.stp (fun t r => XS.istoreN X.here hx rfl (hb hc hd) rfl hl r) k
theorem gIstore (W : Wk l Z EL own nm cd ml ret R ws h0 K sf T h cells slots) {i : Nat} {x : Int32} {ls' : Array Slot} (hd : decode cd pc = .ok (.istore i, 2)) (hl : storeLocals ls i (.int x) = some ls') (hp : pc + 2 = pc') (k : Go K P T pc' ls' st) : Go K P T pc ls (.int x :: st) := by
  obtain ⟨vm0, locs, k0, X, e, hx, ⟨hc, -⟩, -⟩ := W
  subst hp
  exact Go.stp (fun t r => XS.istore X.here hx rfl (hb hc hd) rfl hl r) k
theorem gAstoreN (W : Wk l Z EL own nm cd ml ret R ws h0 K sf T h cells slots) {i : Fin 4} {x : Value} {ls' : Array Slot} (hd : decode cd pc = .ok (.astore_n i, 1)) (hv : x.isRef = true) (hl : storeLocals ls i.val x = some ls') (hp : pc + 1 = pc') (k : Go K P T pc' ls' st) : Go K P T pc ls (x :: st) := by
  obtain ⟨vm0, locs, k0, X, e, hx, ⟨hc, -⟩, -⟩ := W
  subst hp
  exact Go.stp (fun t r => XS.astoreN X.here hx rfl (hb hc hd) rfl hv hl r) k
theorem gAstore (W : Wk l Z EL own nm cd ml ret R ws h0 K sf T h cells slots) {i : Nat} {x : Value} {ls' : Array Slot} (hd : decode cd pc = .ok (.astore i, 2)) (hv : x.isRef = true) (hl : storeLocals ls i x = some ls') (hp : pc + 2 = pc') (k : Go K P T pc' ls' st) : Go K P T pc ls (x :: st) := by
  obtain ⟨vm0, locs, k0, X, e, hx, ⟨hc, -⟩, -⟩ := W
  subst hp
  exact Go.stp (fun t r => XS.astore X.here hx rfl (hb hc hd) rfl hv hl r) k
theorem gLstoreN (W : Wk l Z EL own nm cd ml ret R ws h0 K sf T h cells slots) {i : Fin 4} {x : Int64} {ls' : Array Slot} (hd : decode cd pc = .ok (.lstore_n i, 1)) (hl : storeLocals ls i.val (.long x) = some ls') (hp : pc + 1 = pc') (k : Go K P T pc' ls' st) : Go K P T pc ls (.long x :: st) := by
  obtain ⟨vm0, locs, k0, X, e, hx, ⟨hc, -⟩, -⟩ := W
  subst hp
  exact Go.stp (fun t r => XS.lstoreN X.here hx rfl (hb hc hd) rfl hl r) k
theorem gLstore (W : Wk l Z EL own nm cd ml ret R ws h0 K sf T h cells slots) {i : Nat} {x : Int64} {ls' : Array Slot} (hd : decode cd pc = .ok (.lstore i, 2)) (hl : storeLocals ls i (.long x) = some ls') (hp : pc + 2 = pc') (k : Go K P T pc' ls' st) : Go K P T pc ls (.long x :: st) := by
  obtain ⟨vm0, locs, k0, X, e, hx, ⟨hc, -⟩, -⟩ := W
  subst hp
  exact Go.stp (fun t r => XS.lstore X.here hx rfl (hb hc hd) rfl hl r) k
theorem gIinc (W : Wk l Z EL own nm cd ml ret R ws h0 K sf T h cells slots) {i : Nat} {c0 : Int} {x z : Int32} {ls' : Array Slot} (hd : decode cd pc = .ok (.iinc i c0, 3)) (hl : ls[i]? = some (.val (.int x))) (hz : x + Int32.ofInt c0 = z) (hl2 : storeLocals ls i (.int z) = some ls') (hp : pc + 3 = pc') (k : Go K P T pc' ls' st) : Go K P T pc ls st := by
  obtain ⟨vm0, locs, k0, X, e, hx, ⟨hc, -⟩, -⟩ := W
  subst hp
  exact Go.stp (fun t r => XS.iinc X.here hx rfl (hb hc hd) hl (hz ▸ hl2) r) k
theorem gGoto (W : Wk l Z EL own nm cd ml ret R ws h0 K sf T h cells slots) {o : Int} (hd : decode cd pc = .ok (.goto o, 3)) (ho : 0 ≤ (pc : Int) + o) (hp : ((pc : Int) + o).toNat = pc') (k : Go K P T pc' ls st) : Go K P T pc ls st := by
  obtain ⟨vm0, locs, k0, X, e, hx, ⟨hc, -⟩, -⟩ := W
  exact Go.stp (fun t r => XS.goto X.here hx rfl (pc0 := pc) rfl (hb hc hd) ho hp r) k
theorem gIfYes (W : Wk l Z EL own nm cd ml ret R ws h0 K sf T h cells slots) {cn : ClassFile.Cond} {o : Int} {x : Int32} (hd : decode cd pc = .ok (.ifCond cn o, 3)) (hq : ifCond.holds cn x = true) (ho : 0 ≤ (pc : Int) + o) (hp : ((pc : Int) + o).toNat = pc') (k : Go K P T pc' ls st) : Go K P T pc ls (.int x :: st) := by
  obtain ⟨vm0, locs, k0, X, e, hx, ⟨hc, -⟩, -⟩ := W
  exact Go.stp (fun t r => XS.ifYes X.here hx rfl (pc0 := pc) rfl (hb hc hd) rfl hq ho hp r) k
theorem gIfNo (W : Wk l Z EL own nm cd ml ret R ws h0 K sf T h cells slots) {cn : ClassFile.Cond} {o : Int} {x : Int32} (hd : decode cd pc = .ok (.ifCond cn o, 3)) (hq : ifCond.holds cn x = false) (hp : pc + 3 = pc') (k : Go K P T pc' ls st) : Go K P T pc ls (.int x :: st) := by
  obtain ⟨vm0, locs, k0, X, e, hx, ⟨hc, -⟩, -⟩ := W
  subst hp
  exact Go.stp (fun t r => XS.ifNo X.here hx rfl (hb hc hd) rfl hq r) k
theorem gIcmpYes (W : Wk l Z EL own nm cd ml ret R ws h0 K sf T h cells slots) {cn : ClassFile.Cond} {o : Int} {x y : Int32} (hd : decode cd pc = .ok (.if_icmp cn o, 3)) (hq : if_icmp.holds cn x y = true) (ho : 0 ≤ (pc : Int) + o) (hp : ((pc : Int) + o).toNat = pc') (k : Go K P T pc' ls st) : Go K P T pc ls (.int y :: .int x :: st) := by
  obtain ⟨vm0, locs, k0, X, e, hx, ⟨hc, -⟩, -⟩ := W
  exact Go.stp (fun t r => XS.icmpYes X.here hx rfl (pc0 := pc) rfl (hb hc hd) rfl hq ho hp r) k
theorem gIcmpNo (W : Wk l Z EL own nm cd ml ret R ws h0 K sf T h cells slots) {cn : ClassFile.Cond} {o : Int} {x y : Int32} (hd : decode cd pc = .ok (.if_icmp cn o, 3)) (hq : if_icmp.holds cn x y = false) (hp : pc + 3 = pc') (k : Go K P T pc' ls st) : Go K P T pc ls (.int y :: .int x :: st) := by
  obtain ⟨vm0, locs, k0, X, e, hx, ⟨hc, -⟩, -⟩ := W
  subst hp
  exact Go.stp (fun t r => XS.icmpNo X.here hx rfl (hb hc hd) rfl hq r) k
theorem gIfnullYes (W : Wk l Z EL own nm cd ml ret R ws h0 K sf T h cells slots) {o : Int} (hd : decode cd pc = .ok (.ifnull o, 3)) (ho : 0 ≤ (pc : Int) + o) (hp : ((pc : Int) + o).toNat = pc') (k : Go K P T pc' ls st) : Go K P T pc ls (.null :: st) := by
  obtain ⟨vm0, locs, k0, X, e, hx, ⟨hc, -⟩, -⟩ := W
  exact Go.stp (fun t r => XS.ifnullYes X.here hx rfl (pc0 := pc) rfl (hb hc hd) rfl ho hp r) k
theorem gIfnullNo (W : Wk l Z EL own nm cd ml ret R ws h0 K sf T h cells slots) {o : Int} {b : Addr} (hd : decode cd pc = .ok (.ifnull o, 3))  (hp : pc + 3 = pc') (k : Go K P T pc' ls st) : Go K P T pc ls (.ref b :: st) := by
  obtain ⟨vm0, locs, k0, X, e, hx, ⟨hc, -⟩, -⟩ := W
  subst hp
  exact Go.stp (fun t r => XS.ifnullNo X.here hx rfl (hb hc hd) rfl r) k
theorem gIfnonnullYes (W : Wk l Z EL own nm cd ml ret R ws h0 K sf T h cells slots) {o : Int} {b : Addr} (hd : decode cd pc = .ok (.ifnonnull o, 3)) (ho : 0 ≤ (pc : Int) + o) (hp : ((pc : Int) + o).toNat = pc') (k : Go K P T pc' ls st) : Go K P T pc ls (.ref b :: st) := by
  obtain ⟨vm0, locs, k0, X, e, hx, ⟨hc, -⟩, -⟩ := W
  exact Go.stp (fun t r => XS.ifnonnullYes X.here hx rfl (pc0 := pc) rfl (hb hc hd) rfl ho hp r) k
theorem gIfnonnullNo (W : Wk l Z EL own nm cd ml ret R ws h0 K sf T h cells slots) {o : Int} (hd : decode cd pc = .ok (.ifnonnull o, 3))  (hp : pc + 3 = pc') (k : Go K P T pc' ls st) : Go K P T pc ls (.null :: st) := by
  obtain ⟨vm0, locs, k0, X, e, hx, ⟨hc, -⟩, -⟩ := W
  subst hp
  exact Go.stp (fun t r => XS.ifnonnullNo X.here hx rfl (hb hc hd) rfl r) k
theorem gAcmp (W : Wk l Z EL own nm cd ml ret R ws h0 K sf T h cells slots) {cn : ACond} {o : Int} {x y : Value} {same : Bool} (hd : decode cd pc = .ok (.if_acmp cn o, 3)) (h1 : x.isRef = true) (h2 : y.isRef = true) (hq : decide (x = y) = same) (ho : 0 ≤ (pc : Int) + o) (hp : pc' = if acV cn same = true then ((pc : Int) + o).toNat else pc + 3) (k : Go K P T pc' ls st) : Go K P T pc ls (y :: x :: st) := by
  obtain ⟨vm0, locs, k0, X, e, hx, ⟨hc, -⟩, -⟩ := W
  exact Go.stp (fun t r => acmp X hx rfl h1 h2 (pc0 := pc) rfl (hb hc hd) rfl hq ho hp r) k
end Pure
section Laws
variable {l : Launch} {Z : State} {EL : List (String × Nat)} {own nm : String} {cd : ByteArray} {ml : Nat} {ret : Option FieldType} {R : Room} {ws : List Addr} {h0 : Heap} {K : Cx} {sf : List Addr} {T : State} {h h' : Heap} {cells slots : Nat} {P : Outcome → State → Prop} {pc pc' : Nat} {ls : Array Slot} {st : List Value} {a0 : Array Value}
/-- getfield -/
theorem wGetF (W : Wk l Z EL own nm cd ml ret R ws h0 K sf T h cells slots) {R0 O n d : String} {index : Nat} (hd : decode cd pc = .ok (.getfield index, 3)) (w : (Cond.fieldLink own index R0 n d).before a0 Z = true) (via : Via Z R0 O n d) {a : Addr} {v : Value} (F : Fld Z h a O n d v) (hp : pc + 3 = pc')
    (k : ∀ T', Wk l Z EL own nm cd ml ret R ws h0 K sf T' h cells slots → Go K P T' pc' ls (v :: st)) : Go K P T pc ls (.ref a :: st) := by
  obtain ⟨vm0, locs, k0, X, e, hx, hc, e0, hZ, hown, r⟩ := W
  subst hp
  obtain ⟨T', X', e', f⟩ := getF X hx hZ hown (host := "") (Or.inl w) via e F (g := mkF K.2.2.2.1 pc ls (.ref a :: st)) rfl rfl (hb hc.1 hd)
  exact Go.stp f (k T' ⟨vm0, locs, k0, X', e', hx, hc, e0, hZ, hown, r⟩)
/-- getstatic, of a static that stands as at the law's start -/
theorem wGetS (W : Wk l Z EL own nm cd ml ret R ws h0 K sf T h cells slots) {R0 O n d : String} {index : Nat} (hd : decode cd pc = .ok (.getstatic index, 3)) (w : (Cond.fieldLink own index R0 n d).before a0 Z = true) (via : Via Z R0 O n d) {v : Value} (F : Sta Z Z.heap O n d v) (hp : pc + 3 = pc')
    (k : ∀ T', Wk l Z EL own nm cd ml ret R ws h0 K sf T' h cells slots → Go K P T' pc' ls (v :: st)) : Go K P T pc ls st := by
  have hO := W.old
  obtain ⟨vm0, locs, k0, X, e, hx, hc, e0, hZ, hown, r⟩ := W
  subst hp
  obtain ⟨T', X', e', f⟩ := getS X hx hZ hown w via (host := "") e (Sta.ext hO.2 F) (g := mkF K.2.2.2.1 pc ls st) rfl (hb hc.1 hd)
  exact Go.stp f (k T' ⟨vm0, locs, k0, X', e', hx, hc, e0, hZ, hown, r⟩)
/-- checkcast that holds -/
theorem wCast (W : Wk l Z EL own nm cd ml ret R ws h0 K sf T h cells slots) {C : String} {index : Nat} (hd : decode cd pc = .ok (.checkcast index, 3)) (w : (Cond.classLink own index C).before a0 Z = true) {a : Addr} (F : Ins Z h a C true) (hp : pc + 3 = pc')
    (k : ∀ T', Wk l Z EL own nm cd ml ret R ws h0 K sf T' h cells slots → Go K P T' pc' ls (.ref a :: st)) : Go K P T pc ls (.ref a :: st) := by
  obtain ⟨vm0, locs, k0, X, e, hx, hc, e0, hZ, hown, r⟩ := W
  subst hp
  obtain ⟨T', X', e', f⟩ := castY X hx hZ hown w e F (g := mkF K.2.2.2.1 pc ls (.ref a :: st)) rfl rfl (hb hc.1 hd)
  exact Go.stp f (k T' ⟨vm0, locs, k0, X', e', hx, hc, e0, hZ, hown, r⟩)
/-- instanceof that holds -/
theorem wInst (W : Wk l Z EL own nm cd ml ret R ws h0 K sf T h cells slots) {C : String} {index : Nat} (hd : decode cd pc = .ok (.instanceof index, 3)) (w : (Cond.classLink own index C).before a0 Z = true) {a : Addr} (F : Ins Z h a C true) (hp : pc + 3 = pc')
    (k : ∀ T', Wk l Z EL own nm cd ml ret R ws h0 K sf T' h cells slots → Go K P T' pc' ls (.int 1 :: st)) : Go K P T pc ls (.ref a :: st) := by
  obtain ⟨vm0, locs, k0, X, e, hx, hc, e0, hZ, hown, r⟩ := W
  subst hp
  obtain ⟨T', X', e', f⟩ := instY X hx hZ hown w e F (g := mkF K.2.2.2.1 pc ls (.ref a :: st)) rfl rfl (hb hc.1 hd)
  exact Go.stp f (k T' ⟨vm0, locs, k0, X', e', hx, hc, e0, hZ, hown, r⟩)
theorem wExt {vm0 : Vm} {s : State} (hC : CHr Z EL s.vm h0 vm0 h) (hs : ∀ x ∈ sf, Safe Z EL vm0 h x ∧ x < h.size ∧ (x ∈ ws ∨ h0.size ≤ x)) (E : Ext h h') :
    CHr Z EL s.vm h0 vm0 h' ∧ ∀ x ∈ sf, Safe Z EL vm0 h' x ∧ x < h'.size ∧ (x ∈ ws ∨ h0.size ≤ x) :=
  ⟨hC.trans (CHr.ext E hC.1), fun x q => ⟨Safe.ext E hC.1 (hs x q).1, Nat.lt_of_lt_of_le (hs x q).2.1 E.1, (hs x q).2.2⟩⟩
/-- new -/
theorem wNewO (W : Wk l Z EL own nm cd ml ret R ws h0 K sf T h cells slots) {C : String} {index n : Nat} (hd : decode cd pc = .ok (.new index, 3)) (w : (Cond.classLink own index C).before a0 Z = true) (wi : (Cond.instantiable C n).before a0 Z = true) (wz : (Cond.initialized C).before a0 Z = true) (hc' : cells + 1 ≤ R.cells) (hl : slots + n ≤ R.slots) (hp : pc + 3 = pc')
    (k : ∀ T' h' a, Wk l Z EL own nm cd ml ret R ws h0 K (a :: sf) T' h' (cells + 1) (slots + n) → Ext h h' → a = h.size → Exa Z h' a C → (∀ {O nm d : String} {ty : FieldType}, Laid Z a0 C O nm d → parseFieldDescriptor d = some ty → Fld Z h' a O nm d (defaultValue ty)) → Go K P T' pc' ls (.ref a :: st)) : Go K P T pc ls st := by
  have hg := W.grow
  obtain ⟨vm0, locs, k0, X, e, hx, hc, e0, hZ, hown, hS, hk, hL, hC, hO, hE, hw, hz, hs⟩ := W
  subst hp
  obtain ⟨T', h', X', e', E, A, D, -, f⟩ := newO X hx hZ hown w wi wz e (g := mkF K.2.2.2.1 pc ls st) rfl (hb hc.1 hd) hc' hl
  obtain ⟨hC', hs'⟩ := wExt (s := K.2.2.1) hC hs E
  refine Go.stp f (k T' h' h.size ⟨vm0, locs, k0, X', e', hx, hc, e0, hZ, hown, hS, Nat.le_trans hk E.1, hL, hC', hO.ext E, hE, hw, hz, fun x q => ?_⟩ E rfl A D)
  rcases List.mem_cons.mp q with rfl | q
  · exact ⟨Safe.ext E hC.1 (Safe.new (Nat.le_refl _)), A.lt, Or.inr hg⟩
  · exact hs' x q
/-- newarray -/
theorem wNewP (W : Wk l Z EL own nm cd ml ret R ws h0 K sf T h cells slots) {aty : ArrayType} (hd : decode cd pc = .ok (.newarray aty, 2)) (w : (Cond.arrayClass (newarray.typeOf aty)).before a0 Z = true) {n : Int32} (hn : ¬ n < 0) {cap : Nat} (hcap : n.toNatClampNeg ≤ cap) (hbig : cap * 8 ≤ 536870912) (hc' : cells + 1 ≤ R.cells) (hl : slots + cap ≤ R.slots) (hp : pc + 2 = pc')
    (k : ∀ T' h' a cA, Wk l Z EL own nm cd ml ret R ws h0 K (a :: sf) T' h' (cells + 1) (slots + cap) → Ext h h' → a = h.size → (∀ m : Nat, Arv Z h' a cA (newarray.typeOf aty) n (List.replicate m (defaultValue (newarray.typeOf aty))) (defaultValue (newarray.typeOf aty))) → Go K P T' pc' ls (.ref a :: st)) : Go K P T pc ls (.int n :: st) := by
  have hg := W.grow
  obtain ⟨vm0, locs, k0, X, e, hx, hc, e0, hZ, hown, hS, hk, hL, hC, hO, hE, hw, hz, hs⟩ := W
  subst hp
  obtain ⟨T', h', cA, X', e', E, A, f⟩ := newP X hx hZ w e (g := mkF K.2.2.2.1 pc ls (.int n :: st)) rfl (hb hc.1 hd) rfl hn hcap hbig hc' hl
  obtain ⟨hC', hs'⟩ := wExt (s := K.2.2.1) hC hs E
  have F := Arv.new A hn
  refine Go.stp f (k T' h' h.size cA ⟨vm0, locs, k0, X', e', hx, hc, e0, hZ, hown, hS, Nat.le_trans hk E.1, hL, hC', hO.ext E, hE, hw, hz, fun x q => ?_⟩ E rfl (fun m => F.pad (pad_rep [] _ m)))
  rcases List.mem_cons.mp q with rfl | q
  · exact ⟨Safe.ext E hC.1 (Safe.new (Nat.le_refl _)), A.lt, Or.inr hg⟩
  · exact hs' x q
/-- anewarray -/
theorem wNewR (W : Wk l Z EL own nm cd ml ret R ws h0 K sf T h cells slots) {C : String} {index : Nat} (hd : decode cd pc = .ok (.anewarray index, 3)) (w : (Cond.classLink own index C).before a0 Z = true) (w2 : (Cond.arrayOver (.object C)).before a0 Z = true) {n : Int32} (hn : ¬ n < 0) {cap : Nat} (hcap : n.toNatClampNeg ≤ cap) (hbig : cap * 8 ≤ 536870912) (hc' : cells + 1 ≤ R.cells) (hl : slots + cap ≤ R.slots) (hp : pc + 3 = pc')
    (k : ∀ T' h' a cA, Wk l Z EL own nm cd ml ret R ws h0 K (a :: sf) T' h' (cells + 1) (slots + cap) → Ext h h' → a = h.size → (∀ m : Nat, Arv Z h' a cA (.object C) n (List.replicate m .null) .null) → Ovr Z cA C → Go K P T' pc' ls (.ref a :: st)) : Go K P T pc ls (.int n :: st) := by
  have hg := W.grow
  obtain ⟨vm0, locs, k0, X, e, hx, hc, e0, hZ, hown, hS, hk, hL, hC, hO, hE, hw, hz, hs⟩ := W
  subst hp
  obtain ⟨T', h', cA, X', e', E, A, Ov, f⟩ := newR X hx hZ hown w w2 e (g := mkF K.2.2.2.1 pc ls (.int n :: st)) rfl (hb hc.1 hd) rfl hn hcap hbig hc' hl
  obtain ⟨hC', hs'⟩ := wExt (s := K.2.2.1) hC hs E
  have F := Arv.new A hn
  refine Go.stp f (k T' h' h.size cA ⟨vm0, locs, k0, X', e', hx, hc, e0, hZ, hown, hS, Nat.le_trans hk E.1, hL, hC', hO.ext E, hE, hw, hz, fun x q => ?_⟩ E rfl (fun m => F.pad (pad_rep [] _ m)) Ov)
  rcases List.mem_cons.mp q with rfl | q
  · exact ⟨Safe.ext E hC.1 (Safe.new (Nat.le_refl _)), A.lt, Or.inr hg⟩
  · exact hs' x q
theorem wWr {vm0 : Vm} {s : State} {a : Addr} {sl : Nat} {v : Value} {locs : List Loc} (hC : CHr Z EL s.vm h0 vm0 h) (hs : ∀ x ∈ sf, Safe Z EL vm0 h x ∧ x < h.size ∧ (x ∈ ws ∨ h0.size ≤ x)) (hL : ∀ x ∈ locs, x.base ∈ ws ∨ h0.size ≤ x.base) (hO : Old Z Z.heap.size h) (hw : ∀ x ∈ ws, Z.heap.size ≤ x) (hz : Z.heap.size ≤ h0.size) (ha : a ∈ sf) (Wr' : Wr h h' a sl v) :
    CHr Z EL s.vm h0 vm0 h' ∧ (∀ x ∈ sf, Safe Z EL vm0 h' x ∧ x < h'.size ∧ (x ∈ ws ∨ h0.size ≤ x)) ∧ (∀ x ∈ locs ++ [⟨a, sl⟩], x.base ∈ ws ∨ h0.size ≤ x.base) ∧ Old Z Z.heap.size h' := by
  obtain ⟨s1, s2, s3⟩ := hs a ha
  refine ⟨hC.trans (CHr.wr Wr' s1 hC.1), fun x q => ⟨Safe.wr Wr' s1 hC.1 (hs x q).1, by rw [Wr'.size]; exact (hs x q).2.1, (hs x q).2.2⟩, fun x q => ?_, hO.wr Wr' ?_⟩
  · rcases List.mem_append.mp q with q | q
    · exact hL x q
    · cases List.mem_singleton.mp q; exact s3
  · rcases s3 with z | z
    · exact hw a z
    · exact Nat.le_trans hz z
/-- putfield -/
theorem wPutF (W : Wk l Z EL own nm cd ml ret R ws h0 K sf T h cells slots) {R0 O n d C : String} {index kk : Nat} {ty : FieldType} (hd : decode cd pc = .ok (.putfield index, 3)) (w : (Cond.fieldLink own index R0 n d).before a0 Z = true) (via : Via Z R0 O n d) {a : Addr} {v old : Value} (ha : a ∈ sf) (F : Fld Z h a O n d old) (E : Exa Z h a C)
    (L : (Cond.lays C O n d).before a0 Z = true ∨ ((Cond.laysFinal C O n d).before a0 Z = true ∧ own = O ∧ nm = "<init>")) (wi : (Cond.instantiable C kk).before a0 Z = true) (hty : parseFieldDescriptor d = some ty) (hn : narrow ty v = v) (hf : fits ty v = true) (hp : pc + 3 = pc')
    (k : ∀ T' h', Wk l Z EL own nm cd ml ret R ws h0 K sf T' h' cells slots → Wr h h' a (Jvm.RoadKit.slotOf Z O n d) v → Go K P T' pc' ls st) : Go K P T pc ls (v :: .ref a :: st) := by
  obtain ⟨vm0, locs, k0, X, e, hx, hc, e0, hZ, hown, hS, hk, hL, hC, hO, hE, hw, hz, hs⟩ := W
  subst hp
  obtain ⟨T', h', X', e', Wr', f⟩ := putF X hx hZ hown (host := "") (Or.inl w) via e F E (L.imp id fun q => ⟨q.1, q.2.1, hc.2.2.2.2.trans q.2.2⟩) wi hty hn hf (g := mkF K.2.2.2.1 pc ls (v :: .ref a :: st)) rfl rfl (hb hc.1 hd)
  obtain ⟨hC', hs', hL', hO'⟩ := wWr (s := K.2.2.1) hC hs hL hO hw hz ha Wr'
  exact Go.stp f (k T' h' ⟨vm0, _, k0, X', e', hx, hc, e0, hZ, hown, hS, by rw [Wr'.size]; exact hk, hL', hC', hO', hE, hw, hz, hs'⟩ Wr')
/-- castore -/
theorem wStC (W : Wk l Z EL own nm cd ml ret R ws h0 K sf T h cells slots) (hd : decode cd pc = .ok (.castore, 1)) {a : Addr} (ha : a ∈ sf) {kA : ClassId} {z j x y : Int32} {vs : List Value} {dv : Value} (A : Arv Z h a kA .char z vs dv) (hj : ¬ j < 0 ∧ j < z) (hy : nar .char x = y) (i : Nat) (hi : j.toNatClampNeg = i) (hil : i < vs.length) (hp : pc + 1 = pc')
    (k : ∀ T' h', Wk l Z EL own nm cd ml ret R ws h0 K sf T' h' cells slots → Wr h h' a j.toNatClampNeg (.int y) → Arv Z h' a kA .char z (vs.set i (.int y)) dv → Go K P T' pc' ls st) : Go K P T pc ls (.int x :: .int j :: .ref a :: st) := by
  obtain ⟨vm0, locs, k0, X, e, hx, hc, e0, hZ, hown, hS, hk, hL, hC, hO, hE, hw, hz, hs⟩ := W
  subst hp hy
  obtain ⟨cl, A1, A2, A3, A4, A5, A6⟩ := A
  obtain ⟨T', h', X', e', Wr', f⟩ := stC X hx hZ e A1 (inb_of A3 hj) (g := mkF K.2.2.2.1 pc ls (.int x :: .int j :: .ref a :: st)) rfl rfl (hb hc.1 hd)
  obtain ⟨hC', hs', hL', hO'⟩ := wWr (s := K.2.2.1) hC hs hL hO hw hz ha Wr'
  exact Go.stp f (k T' h' ⟨vm0, _, k0, X', e', hx, hc, e0, hZ, hown, hS, by rw [Wr'.size]; exact hk, hL', hC', hO', hE, hw, hz, hs'⟩ Wr' (Arv.set A1 A2 A3 A4 A5 A6 (fits_nar_char x) Wr' i hi hil))
/-- bastore into a byte[] -/
theorem wStB (W : Wk l Z EL own nm cd ml ret R ws h0 K sf T h cells slots) (hd : decode cd pc = .ok (.bastore, 1)) {a : Addr} (ha : a ∈ sf) {kA : ClassId} {z j x y : Int32} {vs : List Value} {dv : Value} (A : Arv Z h a kA .byte z vs dv) (hj : ¬ j < 0 ∧ j < z) (hy : x.toInt8.toInt32 = y) (i : Nat) (hi : j.toNatClampNeg = i) (hil : i < vs.length) (hp : pc + 1 = pc')
    (k : ∀ T' h', Wk l Z EL own nm cd ml ret R ws h0 K sf T' h' cells slots → Wr h h' a j.toNatClampNeg (.int y) → Arv Z h' a kA .byte z (vs.set i (.int y)) dv → Go K P T' pc' ls st) : Go K P T pc ls (.int x :: .int j :: .ref a :: st) := by
  obtain ⟨vm0, locs, k0, X, e, hx, hc, e0, hZ, hown, hS, hk, hL, hC, hO, hE, hw, hz, hs⟩ := W
  subst hp hy
  obtain ⟨cl, A1, A2, A3, A4, A5, A6⟩ := A
  obtain ⟨T', h', X', e', Wr', f⟩ := stB X hx hZ e A1 (inb_of A3 hj) (g := mkF K.2.2.2.1 pc ls (.int x :: .int j :: .ref a :: st)) rfl rfl (hb hc.1 hd)
  obtain ⟨hC', hs', hL', hO'⟩ := wWr (s := K.2.2.1) hC hs hL hO hw hz ha Wr'
  exact Go.stp f (k T' h' ⟨vm0, _, k0, X', e', hx, hc, e0, hZ, hown, hS, by rw [Wr'.size]; exact hk, hL', hC', hO', hE, hw, hz, hs'⟩ Wr' (Arv.set A1 A2 A3 A4 A5 A6 (fits_nar_byte x) Wr' i hi hil))
/-- arraylength -/
theorem wLen (W : Wk l Z EL own nm cd ml ret R ws h0 K sf T h cells slots) (hd : decode cd pc = .ok (.arraylength, 1)) {a : Addr} {kA : ClassId} {ty : FieldType} {z : Int32} {vs : List Value} {dv : Value} (A : Arv Z h a kA ty z vs dv) (hp : pc + 1 = pc')
    (k : Go K P T pc' ls (.int z :: st)) : Go K P T pc ls (.ref a :: st) := by
  obtain ⟨vm0, locs, k0, X, e, hx, hc, e0, hZ, r⟩ := W
  subst hp
  obtain ⟨cl, A1, A2, A3, A4, -⟩ := A
  refine Go.stp (fun t q => ?_) k
  have ez : cl.slots.size.toInt32 = z := len_of A3 A4
  exact X.arraylength hx (by rw [e]; exact A1.1) (State.isArrayOf_alike hZ.alike A1.2.1) (g := mkF K.2.2.2.1 pc ls (.ref a :: st)) rfl rfl (hb hc.1 hd) _ (by rw [ez]; exact q)
/-- caload -/
theorem wLdC (W : Wk l Z EL own nm cd ml ret R ws h0 K sf T h cells slots) (hd : decode cd pc = .ok (.caload, 1)) {a : Addr} {kA : ClassId} {z j : Int32} {vs : List Value} {v dv : Value} (A : Arv Z h a kA .char z vs dv) (hj : ¬ j < 0 ∧ j < z) (hv : vs.getD j.toNatClampNeg dv = v) (hp : pc + 1 = pc')
    (k : Go K P T pc' ls (v :: st)) : Go K P T pc ls (.int j :: .ref a :: st) := by
  obtain ⟨vm0, locs, k0, X, e, hx, hc, e0, hZ, r⟩ := W
  subst hp
  obtain ⟨cl, A1, A2, A3, A4, A5, -⟩ := A
  exact Go.stp (fun t q => X.caload hx (by rw [e]; exact A1.1) (State.isArrayOf_alike hZ.alike A1.2.1) A1.2.2 (inb_of A3 hj) (A5.at (inb_of A3 hj) hv) (g := mkF K.2.2.2.1 pc ls (.int j :: .ref a :: st)) rfl rfl (hb hc.1 hd) _ q) k
/-- baload of a byte[] -/
theorem wLdB (W : Wk l Z EL own nm cd ml ret R ws h0 K sf T h cells slots) (hd : decode cd pc = .ok (.baload, 1)) {a : Addr} {kA : ClassId} {z j : Int32} {vs : List Value} {v dv : Value} (A : Arv Z h a kA .byte z vs dv) (hj : ¬ j < 0 ∧ j < z) (hv : vs.getD j.toNatClampNeg dv = v) (hp : pc + 1 = pc')
    (k : Go K P T pc' ls (v :: st)) : Go K P T pc ls (.int j :: .ref a :: st) := by
  obtain ⟨vm0, locs, k0, X, e, hx, hc, e0, hZ, r⟩ := W
  subst hp
  obtain ⟨cl, A1, A2, A3, A4, A5, -⟩ := A
  exact Go.stp (fun t q => X.baloadBytes hx (by rw [e]; exact A1.1) (State.isArrayOf_alike hZ.alike A1.2.1) A1.2.2 (inb_of A3 hj) (A5.at (inb_of A3 hj) hv) (g := mkF K.2.2.2.1 pc ls (.int j :: .ref a :: st)) rfl rfl (hb hc.1 hd) _ q) k
/-- Object.<init> -/
theorem wInitO (W : Wk l Z EL own nm cd ml ret R ws h0 K sf T h cells slots) {index : Nat} (hd : decode cd pc = .ok (.invokespecial index, 3)) (w1 : (Cond.methodLink own index Lib.objectInit).before a0 Z = true) (w2 : (Cond.instanceMethod Lib.objectInit).before a0 Z = true) (w3 : (Cond.code Lib.objectInit ⟨#[0xb1]⟩ 1 none).before a0 Z = true) {a : Addr} (hsz : ls.size = ml) (hf : 1 ≤ R.frames) (Wd : Nat) (hW : (st.map fun v => v.category).sum ≤ Wd) (hl : Wd + 12 ≤ R.locals) (hp : pc + 3 = pc')
    (k : ∀ T', Wk l Z EL own nm cd ml ret R ws h0 K sf T' h cells slots → Go K P T' pc' ls st) : Go K P T pc ls (.ref a :: st) := by
  obtain ⟨vm0, locs, k0, X, e, hx, hc, e0, hZ, hown, r⟩ := W
  subst hp
  obtain ⟨T', X', e', f⟩ := initO X hx hZ hown w1 w2 w3 e (g := mkF K.2.2.2.1 pc ls (.ref a :: st)) rfl (hsz.trans hc.2.1.symm) rfl (hb hc.1 hd) hf (W := Wd) (by show 2 * 0 + _ ≤ _; omega) hl
  exact Go.stp f (k T' ⟨vm0, locs, k0, X', e', hx, hc, e0, hZ, hown, r⟩)
/-- ldc of a String constant of EL, read -/
theorem wLdcS (W : Wk l Z EL own nm cd ml ret R ws h0 K sf T h cells slots) {text : String} {index : Nat} (hd : decode cd pc = .ok (.ldc index, 2)) (w : (Cond.stringLink own index text).before a0 Z = true) (wS : ∀ a ∈ Bundle.stringAtoms, a.before a0 Z = true) (hEL : EW Z a0 EL) (hmem : (own, index) ∈ EL)
    {vs : List Value} {z : Int32} (ht : (∀ c ∈ text.toList, c.toNat < 256) ∧ text.toList.map (fun c => Value.int (Jvm.Lit.byteI c.toNat.toUInt16)) = vs) (hz' : ¬ z < 0) (hl : z.toNatClampNeg = vs.length) {n : Nat} (hn : 4 * text.toList.length ≤ n) (hbig : n ≤ 536870912) (hc' : cells + 2 ≤ R.cells) (hl' : slots + (n + 4) ≤ R.slots) (hp : pc + 2 = pc')
    (k : ∀ T' h' a b kb, Wk l Z EL own nm cd ml ret R ws h0 K sf T' h' (cells + 2) (slots + (n + 4)) → Ext h h' → Exa Z h' a "java/lang/String" → Fld Z h' a "java/lang/String" "coder" "B" (.int 0) → Fld Z h' a "java/lang/String" "value" "[B" (.ref b) → Arv Z h' b kb .byte z vs (.int 0) → (∀ x ∈ sf, x ≠ a ∧ x ≠ b) → Go K P T' pc' ls (.ref a :: st)) : Go K P T pc ls st := by
  obtain ⟨vm0, locs, k0, X, e, hx, hc, e0, hZ, hown, hS, hk, hL, hC, hO, hE, hw, hz, hs⟩ := W
  subst hp
  obtain ⟨a, T', h', k1, b, kb, X', e', E, hS', hk', hW', hown', A, F1, F2, A2, -, -, hC', -, hne, f⟩ := ldcCH X hx hZ hown w wS e hS hk hEL hmem hC.1 ht hz' hl (g := mkF K.2.2.2.1 pc ls st) rfl (hb hc.1 hd) hn hbig hc' hl'
  have hs' : ∀ x ∈ sf, Safe Z EL T'.vm h' x ∧ x < h'.size ∧ (x ∈ ws ∨ h0.size ≤ x) := fun x q => ⟨hC'.safe (hs x q).2.1 (hs x q).1, Nat.lt_of_lt_of_le (hs x q).2.1 E.1, (hs x q).2.2⟩
  exact Go.stp f (k T' h' a b kb ⟨T'.vm, locs, k1, X', e', hx, hc, e0, hW', hown', hS', hk', hL, hC.trans hC', hO.ext E, hE, hw, hz, hs'⟩ E A F1 F2 A2 fun x q => hne x (hs' x q).1)
/-- ldc of an int -/
theorem wLdcI (W : Wk l Z EL own nm cd ml ret R ws h0 K sf T h cells slots) {index : Nat} {v : Int32} (hd : decode cd pc = .ok (.ldc index, 2)) (w : (Cond.constant own index v).before a0 Z = true) (hp : pc + 2 = pc') (k : Go K P T pc' ls (.int v :: st)) : Go K P T pc ls st := by
  obtain ⟨vm0, locs, k0, X, e, hx, hc, e0, hZ, hown, r⟩ := W
  subst hp
  exact Go.stp (fun t q => X.ldcInt hx hown (mv (s := K.2.2.1.setVm vm0) hZ w) (g := mkF K.2.2.2.1 pc ls st) rfl (hb hc.1 hd) _ q) k
/-- ldc2_w of a long -/
theorem wLdcL (W : Wk l Z EL own nm cd ml ret R ws h0 K sf T h cells slots) {index : Nat} {v : Int64} (hd : decode cd pc = .ok (.ldc2_w index, 3)) (w : (Cond.constantLong own index v).before a0 Z = true) (hp : pc + 3 = pc') (k : Go K P T pc' ls (.long v :: st)) : Go K P T pc ls st := by
  obtain ⟨vm0, locs, k0, X, e, hx, hc, e0, hZ, hown, r⟩ := W
  subst hp
  exact Go.stp (fun t q => X.ldc2Long hx hown (mv (s := K.2.2.1.setVm vm0) hZ w) (g := mkF K.2.2.2.1 pc ls st) rfl (hb hc.1 hd) _ q) k
/-- ldc of any String constant, unread -/
theorem wLdcO (W : Wk l Z EL own nm cd ml ret R ws h0 K sf T h cells slots) {text : String} {index : Nat} (hd : decode cd pc = .ok (.ldc index, 2)) (w : (Cond.stringLink own index text).before a0 Z = true) (wS : ∀ a ∈ Bundle.stringAtoms, a.before a0 Z = true) (hEL : EW Z a0 EL) {n : Nat} (hn : 4 * text.toList.length ≤ n) (hbig : n ≤ 536870912) (hc' : cells + 2 ≤ R.cells) (hl' : slots + (n + 4) ≤ R.slots) (hp : pc + 2 = pc')
    (k : ∀ T' h' a, Wk l Z EL own nm cd ml ret R ws h0 K sf T' h' (cells + 2) (slots + (n + 4)) → Ext h h' → Go K P T' pc' ls (.ref a :: st)) : Go K P T pc ls st := by
  obtain ⟨vm0, locs, k0, X, e, hx, hc, e0, hZ, hown, hS, hk, hL, hC, hO, hE, hw, hz, hs⟩ := W
  subst hp
  obtain ⟨a, T', h', k1, X', e', E, hS', hk', hW', hown', hC', -, f⟩ := ldcOH X hx hZ hown w wS e hS hk hEL hC.1 (g := mkF K.2.2.2.1 pc ls st) rfl (hb hc.1 hd) hn hbig hc' hl'
  have hs' : ∀ x ∈ sf, Safe Z EL T'.vm h' x ∧ x < h'.size ∧ (x ∈ ws ∨ h0.size ≤ x) := fun x q => ⟨hC'.safe (hs x q).2.1 (hs x q).1, Nat.lt_of_lt_of_le (hs x q).2.1 E.1, (hs x q).2.2⟩
  exact Go.stp f (k T' h' a ⟨T'.vm, locs, k1, X', e', hx, hc, e0, hW', hown', hS', hk', hL, hC.trans hC', hO.ext E, hE, hw, hz, hs'⟩ E)
end Laws
section Calls
variable {l : Launch} {Z : State} {EL : List (String × Nat)} {own nm : String} {cd : ByteArray} {ml : Nat} {ret : Option FieldType} {R : Room} {ws : List Addr} {h0 : Heap} {K : Cx} {sf : List Addr} {T : State} {h h' : Heap} {cells slots : Nat} {P : Outcome → State → Prop} {pc pc' : Nat} {ls : Array Slot} {st : List Value} {a0 : Array Value}
/-- a callee's payment, whatever has been interned -/
def Cb (l : Launch) (Z : State) (EL : List (String × Nat)) (R : Room) (K : Cx) (y : MethodName) (len Wd kc ks : Nat) (as' : Array Value) (h : Heap) (wsc : List Addr) (Q : Option Value → Heap → List Addr → Prop) : Prop :=
  ∀ vm0, Z.Warmed39 vm0 → CHv Z EL vm0 h → (∀ x ∈ wsc, Safe Z EL vm0 h x ∧ x < h.size) → BackS l R K.1 K.2.1 K.2.2.2.2.2.1 (K.2.2.1.setVm vm0) K.2.2.2.2.1 y len Wd (fun A a => a = as' ∧ A.U.heap = h ∧ A.cells + kc ≤ R.cells ∧ A.slots + ks ≤ R.slots)
    (fun A _ v B => ∃ L so, Q v B.U.heap so ∧ (∀ x ∈ so, Safe Z EL B.U.vm B.U.heap x ∧ h.size ≤ x ∧ x < B.U.heap.size) ∧ (∀ x ∈ L, x.base ∈ wsc ∨ h.size ≤ x.base) ∧ Keep h B.U.heap wsc ∧ B.locs = A.locs ++ L ∧ B.cells = A.cells + kc ∧ B.slots = A.slots + ks ∧ CHr Z EL vm0 h B.U.vm B.U.heap)
/-- by a body's contract -/
theorem Cb.ct {y : MethodName} {bytes : ByteArray} {maxL : Nat} {rt : Option FieldType} {rm : Room} {len Wd : Nat} {as' : Array Value} {wsc : List Addr} {Q : Option Value → Heap → List Addr → Prop} (C : Ct l Z EL y bytes maxL rt rm as' h wsc Q) (wc : (Cond.code y bytes maxL rt).before a0 Z = true) (wz : (Cond.initialized y.cls).before a0 Z = true) (hEL : EW Z a0 EL) (hf : rm.frames + 1 ≤ R.frames) (hl : Wd + (maxL + 11) + rm.locals ≤ R.locals) :
    Cb l Z EL R K y len Wd rm.cells rm.slots as' h wsc Q := by
  intro vm0 hZ H hsafe
  refine BackS.of_freeW (bytes := bytes) (maxL := maxL) (ret := rt) (E := fun _ first o t L k n => k = rm.cells ∧ n = rm.slots ∧ ∃ v so, o = .returned v ∧ Q v t.heap so ∧ (∀ x ∈ so, Safe Z EL t.vm t.heap x ∧ first.heap.size ≤ x ∧ x < t.heap.size) ∧ (∀ x ∈ L, x.base ∈ wsc ∨ first.heap.size ≤ x.base) ∧ CHr Z EL first.vm first.heap t.vm t.heap) (C []) hf hl
    (fun m meth c A a Y hp => have hU : Z.Warmed39 A.U.vm := wtrans (s := K.2.2.1.setVm vm0) hZ Y.warmed
      ⟨by show (Cond.and _ .tt).before a A.U = true; rw [Cond.before_and, mv hU wc]; rfl, mv hU wc, mv hU wz, hp.2.2.1, hp.2.2.2⟩)
    (fun m meth c A a g mk Y hp => ⟨hp.1, wtrans (s := K.2.2.1.setVm vm0) hZ Y.warmed, hp.2.1, (CHv.at Y hZ hEL H).1, fun x q => ⟨(CHv.at Y hZ hEL H).safe (hsafe x q).2 (hsafe x q).1, (hsafe x q).2⟩⟩) (fun _ _ _ _ _ _ _ _ _ => trivial)
    (fun _ first o t ⟨v, L, so, h1, h2, h3, h4, h5, h6⟩ => ⟨L, _, _, h6, rfl, rfl, v, so, h1, h2, h3, h4, h5⟩)
    (fun m meth c A a g mk v t L k n Y hp _ hret ⟨e1, e2, v', so, e3, e4, e5, e6, e7⟩ => ?_)
  cases e3; subst e1 e2
  have eh : (A.U.calling g mk a).heap = h := hp.2.1
  have ke := keep_of (ws := wsc) hret.2.2.2 (by simpa using e6)
  rw [eh] at ke e5 e6 e7
  exact ⟨L, so, e4, e5, e6, ke, rfl, rfl, rfl, (CHv.at Y hZ hEL H).trans e7⟩
/-- by a payer that interns nothing -/
theorem Cb.bk {y : MethodName} {len Wd kc ks : Nat} {as' : Array Value} {wsc : List Addr} {Q : Option Value → Heap → List Addr → Prop} {Qb : Option Value → Heap → List Loc → Prop}
    (B : ∀ vm0, Z.Warmed39 vm0 → Back l R K.1 K.2.1 K.2.2.2.2.2.1 (K.2.2.1.setVm vm0) K.2.2.2.2.1 y len Wd (fun A a => a = as' ∧ A.U.heap = h ∧ A.cells + kc ≤ R.cells ∧ A.slots + ks ≤ R.slots) (fun A _ v B => ∃ L, Qb v B.U.heap L ∧ B.locs = A.locs ++ L ∧ B.cells = A.cells + kc ∧ B.slots = A.slots + ks))
    (hEL : EW Z a0 EL) (hq : ∀ v h' L, Qb v h' L → Q v h' [] ∧ Keep h h' wsc ∧ ∀ x ∈ L, x.base ∈ wsc ∨ h.size ≤ x.base) : Cb l Z EL R K y len Wd kc ks as' h wsc Q := by
  intro vm0 hZ H hsafe m meth c A g ig mk a X hg hsize hdg hW hn hp
  obtain ⟨v, B', X', ⟨L, q1, q2, q3, q4⟩, st⟩ := B vm0 hZ m meth c A g ig mk a X hg hsize hdg hW hn hp
  obtain ⟨r1, r2, r3⟩ := hq v _ L q1
  have hgr : A.U.heap.size ≤ B'.U.heap.size := by rw [hp.2.1]; exact r2.1
  refine ⟨v, B', X'.retabled X'.warmed.wide, X'.warmed.since _, hgr, ⟨L, [], r1, (fun x q => nomatch q), r3, r2, q2, q3, q4, ?_⟩, st⟩
  have C1 := CHr.keep r2 (fun x q => (hsafe x q).1) H
  exact C1.trans (CHv.at X' hZ hEL C1.1)
theorem Cb.mono {y : MethodName} {len Wd kc ks kc' ks' : Nat} {as' : Array Value} {wsc : List Addr} {Q : Option Value → Heap → List Addr → Prop} (C : Cb l Z EL R K y len Wd kc ks as' h wsc Q) (h1 : kc ≤ kc') (h2 : ks ≤ ks') : Cb l Z EL R K y len Wd kc' ks' as' h wsc Q := by
  intro vm0 hZ H hs m meth c A g ig mk a X hg hsz hd hW hn hp
  obtain ⟨v, B, X', hS, hgr, ⟨L, so, q1, q2, q3, q4, q5, q6, q7, q8⟩, st⟩ := C vm0 hZ H hs m meth c A g ig mk a X hg hsz hd hW hn ⟨hp.1, hp.2.1, Nat.le_trans (Nat.add_le_add_left h1 _) hp.2.2.1, Nat.le_trans (Nat.add_le_add_left h2 _) hp.2.2.2⟩
  refine ⟨v, ⟨B.U, B.locs, A.cells + kc', A.slots + ks'⟩, ?_, hS, hgr, ⟨L, so, q1, q2, q3, q4, q5, rfl, rfl, q8⟩, st⟩
  exact X'.mono (by rw [q6]; exact Nat.add_le_add_left h1 _) (by rw [q7]; exact Nat.add_le_add_left h2 _)
theorem Cb.weak {y : MethodName} {len Wd kc ks : Nat} {as' : Array Value} {wsc : List Addr} {Q Q' : Option Value → Heap → List Addr → Prop} (C : Cb l Z EL R K y len Wd kc ks as' h wsc Q) (f : ∀ v h' so, Q v h' so → Q' v h' so) : Cb l Z EL R K y len Wd kc ks as' h wsc Q' := by
  intro vm0 hZ H hs m meth c A g ig mk a X hg hsz hd hW hn hp
  obtain ⟨v, B, X', hS, hgr, ⟨L, so, q1, r⟩, st⟩ := C vm0 hZ H hs m meth c A g ig mk a X hg hsz hd hW hn hp
  exact ⟨v, B, X', hS, hgr, ⟨L, so, f _ _ _ q1, r⟩, st⟩
theorem wAfter {vm0 : Vm} {s : State} {wsc so : List Addr} {vm1 : Vm} {locs L : List Loc} (hC : CHr Z EL s.vm h0 vm0 h) (hs : ∀ x ∈ sf, Safe Z EL vm0 h x ∧ x < h.size ∧ (x ∈ ws ∨ h0.size ≤ x)) (hL : ∀ x ∈ locs, x.base ∈ ws ∨ h0.size ≤ x.base) (hO : Old Z Z.heap.size h) (hw : ∀ x ∈ ws, Z.heap.size ≤ x) (hz : Z.heap.size ≤ h0.size) (hws : ∀ x ∈ wsc, x ∈ sf)
    (q2 : ∀ x ∈ so, Safe Z EL vm1 h' x ∧ h.size ≤ x ∧ x < h'.size) (q3 : ∀ x ∈ L, x.base ∈ wsc ∨ h.size ≤ x.base) (q4 : Keep h h' wsc) (q8 : CHr Z EL vm0 h vm1 h') :
    CHr Z EL s.vm h0 vm1 h' ∧ (∀ x ∈ so ++ sf, Safe Z EL vm1 h' x ∧ x < h'.size ∧ (x ∈ ws ∨ h0.size ≤ x)) ∧ (∀ x ∈ locs ++ L, x.base ∈ ws ∨ h0.size ≤ x.base) ∧ Old Z Z.heap.size h' := by
  have hgr : h0.size ≤ h.size := hC.2.1
  refine ⟨hC.trans q8, fun x q => ?_, fun x q => ?_, hO.keep q4 fun x q => ?_⟩
  · rcases List.mem_append.mp q with q | q
    · exact ⟨(q2 x q).1, (q2 x q).2.2, Or.inr (Nat.le_trans hgr (q2 x q).2.1)⟩
    · exact ⟨q8.safe (hs x q).2.1 (hs x q).1, Nat.lt_of_lt_of_le (hs x q).2.1 q4.1, (hs x q).2.2⟩
  · rcases List.mem_append.mp q with q | q
    · exact hL x q
    · rcases q3 x q with q | q
      · exact (hs _ (hws _ q)).2.2
      · exact Or.inr (Nat.le_trans hgr q)
  · rcases (hs _ (hws _ q)).2.2 with z | z
    · exact hw _ z
    · exact Nat.le_trans hz z
/-- invokestatic -/
theorem wStatic (W : Wk l Z EL own nm cd ml ret R ws h0 K sf T h cells slots) {y : MethodName} {index : Nat} (hd : decode cd pc = .ok (.invokestatic index, 3)) (w1 : (Cond.methodLink own index y).before a0 Z = true) (w2 : (Cond.static y).before a0 Z = true) (wz : (Cond.initialized y.cls).before a0 Z = true) {bytes : ByteArray} {maxL : Nat} {rt : Option FieldType} (wc : (Cond.code y bytes maxL rt).before a0 Z = true) (hy : y.cls ≠ "java/lang/invoke/MethodHandle" ∧ y.cls ≠ "java/lang/invoke/VarHandle")
    {Wd kc ks : Nat} {argsL rest : List Value} {wsc : List Addr} {Q : Option Value → Heap → List Addr → Prop} (C : Cb l Z EL R K y 3 Wd kc ks argsL.toArray h wsc Q) (hws : ∀ x ∈ wsc, x ∈ sf) (hsz : ls.size = ml) (hlen : ∀ sig, parseMethodDescriptor y.desc = some sig → argsL.length = sig.parameters.length) (hst : st = argsL.reverse ++ rest) (hW : (rest.map fun v => v.category).sum ≤ Wd) (hc' : cells + kc ≤ R.cells) (hl' : slots + ks ≤ R.slots) (hp : pc + 3 = pc')
    (k : ∀ v so T' h', Wk l Z EL own nm cd ml ret R ws h0 K (so ++ sf) T' h' (cells + kc) (slots + ks) → Keep h h' wsc → (∀ x ∈ so, h.size ≤ x ∧ x < h'.size) → Q v h' so → Go K P T' pc' ls (v.toList ++ rest)) : Go K P T pc ls st := by
  obtain ⟨vm0, locs, k0, X, e, hx, hc, e0, hZ, hown, hS, hk, hL, hC, hO, hE, hw, hz, hs⟩ := W
  subst hp
  obtain ⟨v, vm₁, B, -, X', hS', hgr, ⟨L, so, q1, q2, q3, q4, q5, q6, q7, q8⟩, f⟩ := callSS X hx (y := y) hown (mvT hZ w1) (mvT hZ w2) (mvT hZ wz) (mvT hZ wc) hy (C vm0 hZ hC.1 fun x q => ⟨(hs x (hws x q)).1, (hs x (hws x q)).2.1⟩) (g := mkF K.2.2.2.1 pc ls st) rfl (hsz.trans hc.2.1.symm) hlen hst (by show 2 * 0 + _ ≤ _; omega) (hb hc.1 hd) (fun _ _ => ⟨rfl, e, hc', hl'⟩)
  obtain ⟨X2, hS2, hZ2, hown2⟩ := rebS (Z := Z) (own := own) (n1 := h.size) hS hk X' hS' (by rw [← e]; exact hgr) hZ hown
  obtain ⟨a1, a2, a3, a4⟩ := wAfter (s := K.2.2.1) hC hs hL hO hw hz hws q2 q3 q4 q8
  rw [q5, q6, q7] at X2
  obtain ⟨o, U, r, q⟩ := k v so B.U B.U.heap ⟨B.U.vm, _, _, X2, rfl, hx, hc, e0, hZ2, hown2, hS2, Nat.le_refl _, a3, a1, a4, hE, hw, hz, a2⟩ q4 (fun x z => ⟨(q2 x z).2.1, (q2 x z).2.2⟩) q1
  exact ⟨o, U, f.trans r, q⟩
/-- invokespecial of a constructor -/
theorem wSpecial (W : Wk l Z EL own nm cd ml ret R ws h0 K sf T h cells slots) {y : MethodName} {index : Nat} (hd : decode cd pc = .ok (.invokespecial index, 3)) (hy1 : y.name = "<init>") (w1 : (Cond.methodLink own index y).before a0 Z = true) (w2 : (Cond.instanceMethod y).before a0 Z = true) {bytes : ByteArray} {maxL : Nat} (wc : (Cond.code y bytes maxL none).before a0 Z = true) (hy : y.cls ≠ "java/lang/invoke/MethodHandle" ∧ y.cls ≠ "java/lang/invoke/VarHandle")
    {Wd kc ks : Nat} {a : Addr} {argsL rest : List Value} {wsc : List Addr} {Q : Option Value → Heap → List Addr → Prop} (C : Cb l Z EL R K y 3 Wd kc ks (.ref a :: argsL).toArray h wsc Q) (hws : ∀ x ∈ wsc, x ∈ sf) (hsz : ls.size = ml) (hlen : ∀ sig, parseMethodDescriptor y.desc = some sig → argsL.length = sig.parameters.length) (hst : st = argsL.reverse ++ .ref a :: rest) (hW : (rest.map fun v => v.category).sum ≤ Wd) (hc' : cells + kc ≤ R.cells) (hl' : slots + ks ≤ R.slots) (hp : pc + 3 = pc')
    (k : ∀ v so T' h', Wk l Z EL own nm cd ml ret R ws h0 K (so ++ sf) T' h' (cells + kc) (slots + ks) → Keep h h' wsc → (∀ x ∈ so, h.size ≤ x ∧ x < h'.size) → Q v h' so → Go K P T' pc' ls (v.toList ++ rest)) : Go K P T pc ls st := by
  obtain ⟨vm0, locs, k0, X, e, hx, hc, e0, hZ, hown, hS, hk, hL, hC, hO, hE, hw, hz, hs⟩ := W
  subst hp
  obtain ⟨v, vm₁, B, -, X', hS', hgr, ⟨L, so, q1, q2, q3, q4, q5, q6, q7, q8⟩, f⟩ := X.specialBackS hx (y := y) hy1 hown (mvT hZ w1) (mvT hZ w2) (mvT hZ wc) hy (C vm0 hZ hC.1 fun x q => ⟨(hs x (hws x q)).1, (hs x (hws x q)).2.1⟩) (g := mkF K.2.2.2.1 pc ls st) rfl (hsz.trans hc.2.1.symm) (Steps.refl _) hlen hst (by show 2 * 0 + _ ≤ _; omega) (hb hc.1 hd) (fun _ _ => ⟨rfl, e, hc', hl'⟩)
  obtain ⟨X2, hS2, hZ2, hown2⟩ := rebS (Z := Z) (own := own) (n1 := h.size) hS hk X' hS' (by rw [← e]; exact hgr) hZ hown
  obtain ⟨a1, a2, a3, a4⟩ := wAfter (s := K.2.2.1) hC hs hL hO hw hz hws q2 q3 q4 q8
  rw [q5, q6, q7] at X2
  obtain ⟨o, U, r, q⟩ := k v so B.U B.U.heap ⟨B.U.vm, _, _, X2, rfl, hx, hc, e0, hZ2, hown2, hS2, Nat.le_refl _, a3, a1, a4, hE, hw, hz, a2⟩ q4 (fun x z => ⟨(q2 x z).2.1, (q2 x z).2.2⟩) q1
  exact ⟨o, U, f.trans r, q⟩
/-- invokevirtual on an object of exactly the class C -/
theorem wVirtual (W : Wk l Z EL own nm cd ml ret R ws h0 K sf T h cells slots) {C : String} {y z : MethodName} {index : Nat} (hd : decode cd pc = .ok (.invokevirtual index, 3)) (w1 : (Cond.methodLink own index y).before a0 Z = true) (w2 : (Cond.declares y).before a0 Z = true) (w3 : (Cond.selects C y z).before a0 Z = true) (w4 : (Cond.instanceMethod z).before a0 Z = true) (nf : ∀ s : State, Z.Warmed39 s.vm → NotFace s y) (hy : y.cls ≠ "java/lang/invoke/MethodHandle" ∧ y.cls ≠ "java/lang/invoke/VarHandle")
    {Wd kc ks : Nat} {a : Addr} {argsL rest : List Value} {wsc : List Addr} {Q : Option Value → Heap → List Addr → Prop} (Cc : Cb l Z EL R K z 3 Wd kc ks (.ref a :: argsL).toArray h wsc Q) (E : Exa Z h a C) (hws : ∀ x ∈ wsc, x ∈ sf) (hsz : ls.size = ml) (hlen : ∀ sig, parseMethodDescriptor y.desc = some sig → argsL.length = sig.parameters.length) (hst : st = argsL.reverse ++ .ref a :: rest) (hW : (rest.map fun v => v.category).sum ≤ Wd) (hc' : cells + kc ≤ R.cells) (hl' : slots + ks ≤ R.slots) (hp : pc + 3 = pc')
    (k : ∀ v so T' h', Wk l Z EL own nm cd ml ret R ws h0 K (so ++ sf) T' h' (cells + kc) (slots + ks) → Keep h h' wsc → (∀ x ∈ so, h.size ≤ x ∧ x < h'.size) → Q v h' so → Go K P T' pc' ls (v.toList ++ rest)) : Go K P T pc ls st := by
  obtain ⟨vm0, locs, k0, X, e, hx, hc, e0, hZ, hown, hS, hk, hL, hC, hO, hE, hw, hz, hs⟩ := W
  subst hp
  obtain ⟨cB, kB, i1, i2, i3⟩ := isOf (s := K.2.2.1.setVm vm0) hZ e E
  obtain ⟨v, vm₁, B, -, X', hS', hgr, ⟨L, so, q1, q2, q3, q4, q5, q6, q7, q8⟩, f⟩ := X.virtualBackS hx (y := y) (z := z) hown (mvT hZ w1) (mvT hZ w2) (nf (K.2.2.1.setVm vm0) hZ) (mvT hZ w3) (mvT hZ w4) hy (Cc vm0 hZ hC.1 fun x q => ⟨(hs x (hws x q)).1, (hs x (hws x q)).2.1⟩) i1 i3 (g := mkF K.2.2.2.1 pc ls st) rfl (hsz.trans hc.2.1.symm) (Steps.refl _) hlen hst (by show 2 * 0 + _ ≤ _; omega) (hb hc.1 hd) (fun _ _ => ⟨rfl, e, hc', hl'⟩)
  obtain ⟨X2, hS2, hZ2, hown2⟩ := rebS (Z := Z) (own := own) (n1 := h.size) hS hk X' hS' (by rw [← e]; exact hgr) hZ hown
  obtain ⟨a1, a2, a3, a4⟩ := wAfter (s := K.2.2.1) hC hs hL hO hw hz hws q2 q3 q4 q8
  rw [q5, q6, q7] at X2
  obtain ⟨o, U, r, q⟩ := k v so B.U B.U.heap ⟨B.U.vm, _, _, X2, rfl, hx, hc, e0, hZ2, hown2, hS2, Nat.le_refl _, a3, a1, a4, hE, hw, hz, a2⟩ q4 (fun x z => ⟨(q2 x z).2.1, (q2 x z).2.2⟩) q1
  exact ⟨o, U, f.trans r, q⟩
/-- invokeinterface on an object of exactly the class C -/
theorem wFace (W : Wk l Z EL own nm cd ml ret R ws h0 K sf T h cells slots) {C : String} {xi y : MethodName} {index count : Nat} (hd : decode cd pc = .ok (.invokeinterface index count, 5)) (w1 : (Cond.methodLink own index xi).before a0 Z = true) (w2 : (Cond.declares xi).before a0 Z = true) (w3 : (Cond.interfaceMethod xi.cls xi.cls xi.name xi.desc).before a0 Z = true) (w4 : (Cond.selects C xi y).before a0 Z = true) (w5 : (Cond.instanceMethod y).before a0 Z = true) (w6 : (Cond.publicMethod y).before a0 Z = true) (w7 : (Cond.unhidden C xi.name xi.desc).before a0 Z = true) (w8 : (Cond.castable C xi.cls).before a0 Z = true) (hy : xi.cls ≠ "java/lang/invoke/MethodHandle" ∧ xi.cls ≠ "java/lang/invoke/VarHandle")
    {Wd kc ks : Nat} {a : Addr} {argsL rest : List Value} {wsc : List Addr} {Q : Option Value → Heap → List Addr → Prop} (Cc : Cb l Z EL R K y 5 Wd kc ks (.ref a :: argsL).toArray h wsc Q) (E : Exa Z h a C) (hws : ∀ x ∈ wsc, x ∈ sf) (hsz : ls.size = ml) (hlen : ∀ sig, parseMethodDescriptor xi.desc = some sig → argsL.length = sig.parameters.length) (hst : st = argsL.reverse ++ .ref a :: rest) (hW : (rest.map fun v => v.category).sum ≤ Wd) (hc' : cells + kc ≤ R.cells) (hl' : slots + ks ≤ R.slots) (hp : pc + 5 = pc')
    (k : ∀ v so T' h', Wk l Z EL own nm cd ml ret R ws h0 K (so ++ sf) T' h' (cells + kc) (slots + ks) → Keep h h' wsc → (∀ x ∈ so, h.size ≤ x ∧ x < h'.size) → Q v h' so → Go K P T' pc' ls (v.toList ++ rest)) : Go K P T pc ls st := by
  obtain ⟨vm0, locs, k0, X, e, hx, hc, e0, hZ, hown, hS, hk, hL, hC, hO, hE, hw, hz, hs⟩ := W
  subst hp
  obtain ⟨cB, kB, i1, i2, i3⟩ := isOf (s := K.2.2.1.setVm vm0) hZ e E
  obtain ⟨v, vm₁, B, -, X', hS', hgr, ⟨L, so, q1, q2, q3, q4, q5, q6, q7, q8⟩, f⟩ := X.interfaceBackS hx (xi := xi) (y := y) hown (mvT hZ w1) (mvT hZ w2) (mvT hZ w3 (by simp [Cond.onTables, Cond.keepsFace, Cond.faceAtom, hy.1, hy.2])) (mvT hZ w4) (mvT hZ w5) (mvT hZ w6) (mvT hZ w7) (mvT hZ w8) hy (Cc vm0 hZ hC.1 fun x q => ⟨(hs x (hws x q)).1, (hs x (hws x q)).2.1⟩) i1 i2 i3 (g := mkF K.2.2.2.1 pc ls st) rfl (hsz.trans hc.2.1.symm) (Steps.refl _) hlen hst (by show 2 * 0 + _ ≤ _; omega) (hb hc.1 hd) (fun _ _ => ⟨rfl, e, hc', hl'⟩)
  obtain ⟨X2, hS2, hZ2, hown2⟩ := rebS (Z := Z) (own := own) (n1 := h.size) hS hk X' hS' (by rw [← e]; exact hgr) hZ hown
  obtain ⟨a1, a2, a3, a4⟩ := wAfter (s := K.2.2.1) hC hs hL hO hw hz hws q2 q3 q4 q8
  rw [q5, q6, q7] at X2
  obtain ⟨o, U, r, q⟩ := k v so B.U B.U.heap ⟨B.U.vm, _, _, X2, rfl, hx, hc, e0, hZ2, hown2, hS2, Nat.le_refl _, a3, a1, a4, hE, hw, hz, a2⟩ q4 (fun x z => ⟨(q2 x z).2.1, (q2 x z).2.2⟩) q1
  exact ⟨o, U, f.trans r, q⟩
theorem nfS {C : String} {y : MethodName} (w3 : (Cond.selects C y y).before a0 Z = true) : ∀ s : State, Z.Warmed39 s.vm → NotFace s y := fun s hZ => notFace_of_selects (args := #[]) (mvT hZ w3)
/-- the end: P's post out of the walk's last standing -/
theorem wEnd {kc ks : Nat} {v : Option Value} {Q : Option Value → Heap → List Addr → Prop} {so : List Addr} (W : Wk l Z EL own nm cd ml ret R ws h0 K sf T h cells slots) (hv : ret = none → v = none) (hk : cells ≤ kc) (hn : slots ≤ ks) (hso : ∀ x ∈ so, x ∈ sf ∧ h0.size ≤ x) (q : Q v h so)
    (stp : ∀ (vm0 : Vm) (locs : List Loc) (fs : List Frame), Stand K.1 l K.2.1 R (K.2.2.1.setVm vm0) K.2.2.2.1 K.2.2.2.2.1 K.2.2.2.2.2.1 K.2.2.2.2.2.2.1 K.2.2.2.2.2.2.2 T locs cells slots → K.1.tables.exec = Jvm.exec → K.2.2.2.2.2.2.2.code = cd → K.2.2.2.2.2.2.1.sig.returnType = ret →
      (∀ (f : JFrame) (acts : List Action), f.method = K.2.2.2.1 → f.locked = none → f.entered = [] → (doReturn K.2.1 (T.setTop f) acts v).1 = T.setFrames fs) → Steps K.1.tables K.2.1 K.2.2.2.2.2.1 (T.setTop (mkF K.2.2.2.1 pc ls st)) (T.setFrames fs)) :
    Go K (Pst Z EL ws K.2.2.1 kc ks Q) T pc ls st := by
  obtain ⟨vm0, locs, k0, X, e, hx, hc, e0, hZ, hown, hS, hk0, hL, hC, hO, ⟨a0, hE⟩, hw, hz, hs⟩ := W
  have hlk := hc.2.2.2.1
  obtain ⟨fs, f1, f2, f3, f4⟩ := X.leaveW hS (by rw [e]; exact hk0) (v := v) (fun q => hv (hc.2.2.1.symm.trans q)) hlk
  have hend := CHv.at X hZ hE hC.1
  refine ⟨.returned v, T.setFrames fs, stp vm0 locs fs X hx hc.1 hc.2.2.1 f1, f2, f3, v, locs, so, rfl, ?_, fun x z => ?_, ?_, ?_, ?_⟩
  · show Q v T.heap so
    rw [e]; exact q
  · show Safe Z EL T.vm T.heap x ∧ _ ∧ x < T.heap.size
    rw [e, e0]
    exact ⟨hend.safe (hs x (hso x z).1).2.1 (hs x (hso x z).1).1, (hso x z).2, (hs x (hso x z).1).2.1⟩
  · rw [e0]; exact hL
  · show CHr Z EL K.2.2.1.vm K.2.2.1.heap T.vm T.heap
    rw [e, e0]; exact hC.trans hend
  · obtain ⟨g1, g2, g3, g4⟩ := f4
    exact ⟨g1, g2, g3, g4.mono hk hn⟩
/-- return -/
theorem wRet0 {kc ks : Nat} {Q : Option Value → Heap → List Addr → Prop} {so : List Addr} (W : Wk l Z EL own nm cd ml none R ws h0 K sf T h cells slots) (hd : decode cd pc = .ok (.return_, 1)) (hk : cells ≤ kc) (hn : slots ≤ ks) (hso : ∀ x ∈ so, x ∈ sf ∧ h0.size ≤ x) (q : Q none h so) : Go K (Pst Z EL ws K.2.2.1 kc ks Q) T pc ls [] :=
  wEnd W (fun _ => rfl) hk hn hso q fun vm0 locs fs X hx hc hr f => X.returnOut hx hr (hb hc hd) f
/-- ireturn, of an int, a boolean, a byte, a char, a short -/
theorem wRetI {t : FieldType} {z : Int32} {kc ks : Nat} {Q : Option Value → Heap → List Addr → Prop} {so : List Addr} (W : Wk l Z EL own nm cd ml (some t) R ws h0 K sf T h cells slots) (hd : decode cd pc = .ok (.ireturn, 1)) (ht : t = .int ∨ t = .boolean ∨ t = .byte ∨ t = .char ∨ t = .short) (hnr : narrow t (.int z) = .int z) (hk : cells ≤ kc) (hn : slots ≤ ks) (hso : ∀ x ∈ so, x ∈ sf ∧ h0.size ≤ x) (q : Q (some (.int z)) h so) : Go K (Pst Z EL ws K.2.2.1 kc ks Q) T pc ls (.int z :: st) :=
  wEnd W (fun q => nomatch q) hk hn hso q fun vm0 locs fs X hx hc hr f => retOut X hx hr hnr (Or.inl ⟨rfl, ht, z, rfl⟩) (hb hc hd) f
/-- areturn -/
theorem wRetA {t : FieldType} {w : Value} {kc ks : Nat} {Q : Option Value → Heap → List Addr → Prop} {so : List Addr} (W : Wk l Z EL own nm cd ml (some t) R ws h0 K sf T h cells slots) (hd : decode cd pc = .ok (.areturn, 1)) (ht : t.isReference = true) (hw : w.isRef = true) (hnr : narrow t w = w) (hk : cells ≤ kc) (hn : slots ≤ ks) (hso : ∀ x ∈ so, x ∈ sf ∧ h0.size ≤ x) (q : Q (some w) h so) : Go K (Pst Z EL ws K.2.2.1 kc ks Q) T pc ls (w :: st) :=
  wEnd W (fun q => nomatch q) hk hn hso q fun vm0 locs fs X hx hc hr f => retOut X hx hr hnr (Or.inr (Or.inr (Or.inr (Or.inr ⟨rfl, ht, hw⟩)))) (hb hc hd) f
/-- lreturn -/
theorem wRetL {z : Int64} {kc ks : Nat} {Q : Option Value → Heap → List Addr → Prop} {so : List Addr} (W : Wk l Z EL own nm cd ml (some .long) R ws h0 K sf T h cells slots) (hd : decode cd pc = .ok (.lreturn, 1)) (hk : cells ≤ kc) (hn : slots ≤ ks) (hso : ∀ x ∈ so, x ∈ sf ∧ h0.size ≤ x) (q : Q (some (.long z)) h so) : Go K (Pst Z EL ws K.2.2.1 kc ks Q) T pc ls (.long z :: st) :=
  wEnd W (fun q => nomatch q) hk hn hso q fun vm0 locs fs X hx hc hr f => retOut X hx hr rfl (Or.inr (Or.inl ⟨rfl, rfl, z, rfl⟩)) (hb hc hd) f
end Calls
section Ints
/-- a term that is said to equal a long -/
theorem eqL_v {args : Array Value} {first s : State} {o : Option Outcome} {idx : List Nat} {t : Term} {n : Int64} (h : (Cond.eq t (.long n)).value args first o s idx = some true) : t.eval args first o idx s = some (.long n) := by
  cases ht : t.eval args first o idx s with
  | none => simp [Cond.value, Term.eval, ht] at h
  | some x => cases x <;> simp [Cond.value, Term.eval, ht] at h ⊢; exact h
theorem nar_char (x : Int32) : nar .char x = x.toUInt32.toUInt16.toUInt32.toInt32 := rfl
theorem ch255 {p v w : Int32} (e : p &&& 255 = v) (e2 : v.toUInt32.toUInt16.toUInt32.toInt32 = w) : ¬ w < 0 ∧ ¬ 255 < w ∧ nar .char w = w := by
  subst e e2
  rw [i2c_mask]
  have q := c_and p 255 (by decide)
  refine ⟨?_, ?_, ?_⟩
  · rw [Int32.lt_iff_toInt_lt]; simp only [Int32.reduceToInt]; omega
  · rw [Int32.lt_iff_toInt_lt]; have h : (255 : Int32).toInt = 255 := by decide
    omega
  · rw [nar_char, i2c_mask]
theorem i32_of {v : Int32} {n : Int} (w : Int32) (hw : w.toInt = n) (h : v.toInt = n) : v = w := Int32.toInt_inj.mp (h.trans hw.symm)
theorem and3 {x v : Int32} (e : x &&& 3 = v) : v = 0 ∨ v = 1 ∨ v = 2 ∨ v = 3 := by
  subst e
  have q := c_and x 3 (by decide)
  have h3 : (3 : Int32).toInt = 3 := by decide
  rw [h3] at q
  have : (x &&& 3).toInt = 0 ∨ (x &&& 3).toInt = 1 ∨ (x &&& 3).toInt = 2 ∨ (x &&& 3).toInt = 3 := by omega
  rcases this with h | h | h | h
  · exact Or.inl (i32_of 0 (by decide) h)
  · exact Or.inr (Or.inl (i32_of 1 (by decide) h))
  · exact Or.inr (Or.inr (Or.inl (i32_of 2 (by decide) h)))
  · exact Or.inr (Or.inr (Or.inr (i32_of 3 (by decide) h)))
theorem and7 {x v : Int32} (e : x &&& 7 = v) : v = 0 ∨ v = 1 ∨ v = 2 ∨ v = 3 ∨ v = 4 ∨ v = 5 ∨ v = 6 ∨ v = 7 := by
  subst e
  have q := c_and x 7 (by decide)
  have h7 : (7 : Int32).toInt = 7 := by decide
  rw [h7] at q
  have : (x &&& 7).toInt = 0 ∨ (x &&& 7).toInt = 1 ∨ (x &&& 7).toInt = 2 ∨ (x &&& 7).toInt = 3 ∨ (x &&& 7).toInt = 4 ∨ (x &&& 7).toInt = 5 ∨ (x &&& 7).toInt = 6 ∨ (x &&& 7).toInt = 7 := by omega
  rcases this with h | h | h | h | h | h | h | h
  · exact Or.inl (i32_of 0 (by decide) h)
  · exact Or.inr (Or.inl (i32_of 1 (by decide) h))
  · exact Or.inr (Or.inr (Or.inl (i32_of 2 (by decide) h)))
  · exact Or.inr (Or.inr (Or.inr (Or.inl (i32_of 3 (by decide) h))))
  · exact Or.inr (Or.inr (Or.inr (Or.inr (Or.inl (i32_of 4 (by decide) h)))))
  · exact Or.inr (Or.inr (Or.inr (Or.inr (Or.inr (Or.inl (i32_of 5 (by decide) h))))))
  · exact Or.inr (Or.inr (Or.inr (Or.inr (Or.inr (Or.inr (Or.inl (i32_of 6 (by decide) h)))))))
  · exact Or.inr (Or.inr (Or.inr (Or.inr (Or.inr (Or.inr (Or.inr (i32_of 7 (by decide) h)))))))
theorem ch16 {p v w : Int32} (e : p &&& 65535 = v) (e2 : v.toUInt32.toUInt16.toUInt32.toInt32 = w) : (¬ w < 0 ∧ ¬ 65535 < w) ∧ nar .char w = w := by
  have q := c_i2c v
  rw [e2] at q
  have q2 := c_i2c w
  refine ⟨⟨?_, ?_⟩, ?_⟩
  · rw [Int32.lt_iff_toInt_lt]; have : (0 : Int32).toInt = 0 := by decide
    omega
  · rw [Int32.lt_iff_toInt_lt]; have : (65535 : Int32).toInt = 65535 := by decide
    omega
  · rw [nar_char]; apply Int32.toInt_inj.mp; omega
/-- an int from 0 to 255 -/
def B8 (x : Int32) : Prop := ¬ x < 0 ∧ ¬ 255 < x
theorem B8.toInt {x : Int32} (h : B8 x) : 0 ≤ x.toInt ∧ x.toInt ≤ 255 := by
  obtain ⟨h1, h2⟩ := h
  rw [Int32.lt_iff_toInt_lt] at h1 h2
  have a : (0 : Int32).toInt = 0 := by decide
  have b : (255 : Int32).toInt = 255 := by decide
  omega
theorem B8.of {x : Int32} (h : 0 ≤ x.toInt ∧ x.toInt ≤ 255) : B8 x := by
  refine ⟨?_, ?_⟩ <;> rw [Int32.lt_iff_toInt_lt]
  · have a : (0 : Int32).toInt = 0 := by decide
    omega
  · have b : (255 : Int32).toInt = 255 := by decide
    omega
theorem B8.and {p v : Int32} (e : p &&& 255 = v) : B8 v := by
  subst e; have q := c_and p 255 (by decide)
  have b : (255 : Int32).toInt = 255 := by decide
  exact B8.of (by omega)
theorem B8.mask {x : Int32} (h : B8 x) : x &&& 255 = x := by
  have q := c_mask x 255 8 (by decide) (by decide)
  have r := h.toInt
  apply Int32.toInt_inj.mp
  rw [q]; simp only [Nat.reducePow]; omega
theorem B8.i2c {c v : Int32} (h : B8 c) (e : c.toUInt32.toUInt16.toUInt32.toInt32 = v) : v = c := by
  rw [← h.mask, i2c_mask, h.mask] at e; exact e.symm
theorem B8.i2c' {c : Int32} (h : B8 c) : c.toUInt32.toUInt16.toUInt32.toInt32 = c := h.i2c rfl
theorem B8.nar {c : Int32} (h : B8 c) : nar .char c = c := h.i2c'
theorem B8.xor {x y v : Int32} (hx : B8 x) (hy : B8 y) (e : x ^^^ y = v) : B8 v := by
  subst e
  have e1 : x ^^^ y = (x ^^^ y) &&& 255 := by
    have h1 := hx.mask; have h2 := hy.mask
    rw [← Int32.toBitVec_inj] at h1 h2 ⊢
    simp only [Int32.toBitVec_and, Int32.toBitVec_xor] at h1 h2 ⊢
    rw [← h1, ← h2]
    ext i hi
    simp only [BitVec.getElem_and, BitVec.getElem_xor]
    cases (x.toBitVec[i]) <;> cases (y.toBitVec[i]) <;> cases ((255 : Int32).toBitVec[i]) <;> rfl
  exact B8.and e1.symm
theorem and31 {p v : Int32} (e : p &&& 2147483647 = v) : 0 ≤ v.toInt := by
  subst e; exact (c_and p 2147483647 (by decide)).1
/-- the remainder of a non-negative int by a positive constant -/
theorem rem_lt {v r y : Int32} {d : Int} (h : 0 ≤ v.toInt) (e : v % y = r) (hy : y.toInt = d) (hd : 0 < d) : 0 ≤ r.toInt ∧ r.toInt < d := by
  subst e
  have q := (c_irem v y d hy).1 h
  rw [q]; exact ⟨Int.emod_nonneg _ (by omega), Int.emod_lt_of_pos _ hd⟩
theorem lt_i {x y : Int32} : x < y ↔ x.toInt < y.toInt := Int32.lt_iff_toInt_lt
theorem xor_self {x y : Int32} (h : x = x ^^^ y) : y = 0 := by
  have h2 : x ^^^ x = x ^^^ (x ^^^ y) := congrArg (fun t => x ^^^ t) h
  rw [Int32.xor_self, ← Int32.xor_assoc, Int32.xor_self, Int32.zero_xor] at h2
  exact h2.symm
end Ints
section Refs0
variable {l : Launch} {Z : State} {EL : List (String × Nat)} {own nm : String} {cd : ByteArray} {ml : Nat} {ret : Option FieldType} {R : Room} {ws : List Addr} {h0 : Heap} {K : Cx} {sf : List Addr} {T : State} {h h' : Heap} {cells slots : Nat} {P : Outcome → State → Prop} {pc pc' : Nat} {ls : Array Slot} {st : List Value} {a0 : Array Value}
/-- checkcast of null -/
theorem wCastN (W : Wk l Z EL own nm cd ml ret R ws h0 K sf T h cells slots) {index : Nat} (hd : decode cd pc = .ok (.checkcast index, 3)) (hp : pc + 3 = pc')
    (k : Go K P T pc' ls (.null :: st)) : Go K P T pc ls (.null :: st) := by
  obtain ⟨vm0, locs, k0, X, e, hx, hc, r⟩ := W
  subst hp
  exact Go.stp (fun t q => X.checkcastNull hx (g := mkF K.2.2.2.1 pc ls (.null :: st)) rfl rfl (hb hc.1 hd) _ q) k
end Refs0
section Refs
variable {Z : State} {h h' : Heap} {v : Value} {C : String} {ws : List Addr}
/-- null, or an object of exactly the class C -/
def RefS (Z : State) (h : Heap) (v : Value) (C : String) : Prop := v = .null ∨ ∃ r, v = .ref r ∧ Exa Z h r C
theorem RefS.isRef (F : RefS Z h v C) : v.isRef = true := by rcases F with rfl | ⟨r, rfl, -⟩ <;> rfl
theorem RefS.ext (F : RefS Z h v C) (E : Ext h h') : RefS Z h' v C := F.imp id fun ⟨r, q, A⟩ => ⟨r, q, A.ext E⟩
theorem RefS.wr {a : Addr} {sl : Nat} {u : Value} (F : RefS Z h v C) (W : Wr h h' a sl u) : RefS Z h' v C := F.imp id fun ⟨r, q, A⟩ => ⟨r, q, A.wr W⟩
theorem RefS.keep (F : RefS Z h v C) (K : Keep h h' ws) : RefS Z h' v C := F.imp id fun ⟨r, q, A⟩ => ⟨r, q, A.keep K⟩
theorem RefS.of {r : Addr} (A : Exa Z h r C) : RefS Z h (.ref r) C := Or.inr ⟨r, rfl, A⟩
theorem RefS.null : RefS Z h .null C := Or.inl rfl
theorem catR (hv : v.isRef = true) : v.category = 1 := by rcases ref_cases hv with rfl | ⟨r, rfl⟩ <;> rfl
/-- what 'x == null ? y : x' gives -/
def selV (x y : Value) : Value := match x with | .null => y | v => v
theorem RefS.sel {u : Value} (F : RefS Z h v C) (G : RefS Z h u C) : RefS Z h (selV v u) C := by
  rcases F with rfl | ⟨r, rfl, A⟩
  · exact G
  · exact Or.inr ⟨r, rfl, A⟩
theorem narR {t : FieldType} (hv : v.isRef = true) (ht : t.isReference = true := by rfl) : narrow t v = v := by
  rcases ref_cases hv with rfl | ⟨r, rfl⟩ <;> cases t <;> rfl
theorem fitR {t : FieldType} (hv : v.isRef = true) (ht : t.isReference = true := by rfl) : fits t v = true := by
  rcases ref_cases hv with rfl | ⟨r, rfl⟩ <;> cases t <;> first | rfl | cases ht
end Refs
section Refs2
variable {l : Launch} {Z : State} {EL : List (String × Nat)} {own nm : String} {cd : ByteArray} {ml : Nat} {ret : Option FieldType} {R : Room} {ws : List Addr} {h0 : Heap} {K : Cx} {sf : List Addr} {T : State} {h h' : Heap} {cells slots : Nat} {P : Outcome → State → Prop} {pc pc' : Nat} {ls : Array Slot} {st : List Value} {a0 : Array Value}
/-- checkcast of null or of an object of that very class -/
theorem wCastR (W : Wk l Z EL own nm cd ml ret R ws h0 K sf T h cells slots) {C : String} {index : Nat} (hd : decode cd pc = .ok (.checkcast index, 3)) (w : (Cond.classLink own index C).before a0 Z = true) {v : Value} (F : RefS Z h v C) (hp : pc + 3 = pc')
    (k : ∀ T', Wk l Z EL own nm cd ml ret R ws h0 K sf T' h cells slots → Go K P T' pc' ls (v :: st)) : Go K P T pc ls (v :: st) := by
  rcases F with rfl | ⟨r, rfl, A⟩
  · exact wCastN W hd hp (k T W)
  · exact wCast W hd w (Ins.self A) hp k
end Refs2
section More
variable {l : Launch} {Z : State} {EL : List (String × Nat)} {own nm : String} {cd : ByteArray} {ml : Nat} {ret : Option FieldType} {R : Room} {ws : List Addr} {h0 : Heap} {K : Cx} {sf : List Addr} {T : State} {h h' : Heap} {cells slots : Nat} {P : Outcome → State → Prop} {pc pc' : Nat} {ls : Array Slot} {st : List Value} {a0 : Array Value}
/-- clone of an array -/
theorem wClone (W : Wk l Z EL own nm cd ml ret R ws h0 K sf T h cells slots) {ad : String} {index : Nat} (hd : decode cd pc = .ok (.invokevirtual index, 3)) (w1 : (Cond.methodLink own index ⟨ad, "clone", "()Ljava/lang/Object;"⟩).before a0 Z = true) (w2 : (Cond.sameMethod ad "java/lang/Object" "clone" "()Ljava/lang/Object;").before a0 Z = true) (w3 : (Cond.native ⟨"java/lang/Object", "clone", "()Ljava/lang/Object;"⟩).before a0 Z = true) (w4 : (Cond.instanceMethod ⟨"java/lang/Object", "clone", "()Ljava/lang/Object;"⟩).before a0 Z = true) (w5 : (Cond.selects ad ⟨ad, "clone", "()Ljava/lang/Object;"⟩ ⟨"java/lang/Object", "clone", "()Ljava/lang/Object;"⟩).before a0 Z = true) (w6 : (Cond.castable ad "java/lang/Cloneable").before a0 Z = true)
    {a : Addr} {kA : ClassId} {ty : FieldType} {z : Int32} {vs : List Value} {dv : Value} (F : Arv Z h a kA ty z vs dv) (E : Exa Z h a ad) (hsz : ls.size = ml) (hf : 1 ≤ R.frames) (Wd : Nat) (hW : (st.map fun v => v.category).sum ≤ Wd) (hl : Wd + 14 ≤ R.locals) (cap : Nat) (hcap : z.toNatClampNeg ≤ cap) (hc' : cells + 1 ≤ R.cells) (hsl : slots + cap ≤ R.slots) (hp : pc + 3 = pc')
    (k : ∀ T' h' a', Wk l Z EL own nm cd ml ret R ws h0 K (a' :: sf) T' h' (cells + 1) (slots + cap) → Ext h h' → a' = h.size → Arv Z h' a' kA ty z vs dv → Exa Z h' a' ad → Go K P T' pc' ls (.ref a' :: st)) : Go K P T pc ls (.ref a :: st) := by
  have hg := W.grow
  obtain ⟨vm0, locs, k0, X, e, hx, hc, e0, hZ, hown, hS, hk, hL, hC, hO, hE, hw, hz, hs⟩ := W
  subst hp
  obtain ⟨T', h', X', e', Ex, A, E', f⟩ := cloneH X hx hZ hown w1 w2 w3 w4 w5 w6 e F.arh E (g := mkF K.2.2.2.1 pc ls (.ref a :: st)) rfl (hsz.trans hc.2.1.symm) rfl (hb hc.1 hd) hf (W := Wd) (by show 2 * 0 + _ ≤ _; omega) hl hcap hc' hsl
  obtain ⟨hC', hs'⟩ := wExt (s := K.2.2.1) hC hs Ex
  refine Go.stp f (k T' h' h.size ⟨vm0, locs, k0, X', e', hx, hc, e0, hZ, hown, hS, Nat.le_trans hk Ex.1, hL, hC', hO.ext Ex, hE, hw, hz, fun x q => ?_⟩ Ex rfl A E')
  rcases List.mem_cons.mp q with rfl | q
  · exact ⟨Safe.ext Ex hC.1 (Safe.new (Nat.le_refl _)), E'.lt, Or.inr hg⟩
  · exact hs' x q
/-- aaload -/
theorem wLdA (W : Wk l Z EL own nm cd ml ret R ws h0 K sf T h cells slots) (hd : decode cd pc = .ok (.aaload, 1)) {a : Addr} {kA : ClassId} {ty : FieldType} (ht : ty.isReference = true) {z j : Int32} {vs : List Value} {v dv : Value} (A : Arv Z h a kA ty z vs dv) (hj : ¬ j < 0 ∧ j < z) (hv : vs.getD j.toNatClampNeg dv = v) (hp : pc + 1 = pc')
    (k : Go K P T pc' ls (v :: st)) : Go K P T pc ls (.int j :: .ref a :: st) := by
  obtain ⟨vm0, locs, k0, X, e, hx, hc, e0, hZ, r⟩ := W
  subst hp
  obtain ⟨cl, A1, A2, A3, A4, A5, -⟩ := A
  exact Go.stp (fun t q => X.aaload hx (by rw [e]; exact A1.1) (State.isArrayOf_alike hZ.alike A1.2.1) ht A1.2.2 (inb_of A3 hj) (A5.at (inb_of A3 hj) hv) (g := mkF K.2.2.2.1 pc ls (.int j :: .ref a :: st)) rfl rfl (hb hc.1 hd) _ q) k
/-- the places that a step may have written: at a cell b alone, where all others are kept -/
theorem locsAt {p : Program} {e : Env} {s : State} {m : MethodId} {args : Array Value} {below : List Frame} {meth : Method} {c : Code} {T' : State} {locs L : List Loc} {b : Addr} (X : Stand p l e R s m args below meth c T locs cells slots) (X' : Stand p l e R s m args below meth c T' L cells slots) (Ke : Keep T.heap T'.heap [b]) (n : Nat) (hn : ∀ c, T.heap[b]? = some c → c.slots.size ≤ n) :
    Stand p l e R s m args below meth c T' (locs ++ (List.range n).map fun i => (⟨b, i⟩ : Loc)) cells slots := by
  refine ⟨X'.admits, X'.cas, X'.clock, X'.frames, X'.room, X'.hears, X'.method, X'.code, X'.here, X'.tail, X'.warmed, X'.limits, X'.bytes, ?_⟩
  obtain ⟨p1, p2, p3, p4, p5, p6⟩ := X'.same
  obtain ⟨-, -, -, -, -, r6⟩ := X.same
  refine ⟨p1, p2, p3, p4, p5, fun a c hc => ?_⟩
  obtain ⟨c', q1, q2, q3, -⟩ := p6 a c hc
  refine ⟨c', q1, q2, q3, fun i hi => ?_⟩
  obtain ⟨c1, s1, s2, s3, s4⟩ := r6 a c hc
  by_cases hab : a = b
  · subst hab
    by_cases hlt : i < n
    · exact absurd (List.mem_append_right _ (List.mem_map.mpr ⟨i, List.mem_range.mpr hlt, rfl⟩)) hi
    · have hc1 : c1.slots.size ≤ n := hn c1 s1
      rw [Array.getElem?_eq_none (by omega), Array.getElem?_eq_none (by omega)]
  · have hk := Ke.2.1 a c1 s1 (by simp [hab])
    have : c' = c1 := Option.some.inj (q1.symm.trans hk)
    rw [this]
    exact s4 i (fun hm => hi (List.mem_append_left _ hm))
/-- System.arraycopy of numbers, between two arrays of one kind -/
theorem wCopy (W : Wk l Z EL own nm cd ml ret R ws h0 K sf T h cells slots) {index : Nat} (hd : decode cd pc = .ok (.invokestatic index, 3)) (w1 : (Cond.methodLink own index Jvm.Stand.acN).before a0 Z = true) (w2 : (Cond.native Jvm.Stand.acN).before a0 Z = true) (w3 : (Cond.static Jvm.Stand.acN).before a0 Z = true) (w4 : (Cond.initialized "java/lang/System").before a0 Z = true)
    {a b : Addr} (hb' : b ∈ sf) {k k' : ClassId} {ty : FieldType} {z z' sp dp nn : Int32} {vs vd us : List Value} {dv dd : Value} (A : Arv Z h a k ty z vs dv) (B : Arv Z h b k' ty z' vd dd) (hty : refKind ty = false) (h1 : ¬ sp < 0) (h2 : ¬ dp < 0) (h3 : ¬ nn < 0) (zN zN' spN dpN nN : Nat) (e1 : z.toNatClampNeg = zN) (e2 : z'.toNatClampNeg = zN') (e3 : sp.toNatClampNeg = spN) (e4 : dp.toNatClampNeg = dpN) (e5 : nn.toNatClampNeg = nN) (h4 : spN + nN ≤ zN) (h5 : dpN + nN ≤ zN')
    (hus : us = (List.range nN).map fun i => vs.getD (spN + i) dv) (hl : dpN + nN ≤ vd.length) (hsz : ls.size = ml) (hf : 1 ≤ R.frames) (Wd : Nat) (hW : (st.map fun v => v.category).sum ≤ Wd) (hlo : Wd + (nativeFrameWords "java/lang/System" "arraycopy" 5 + 11) ≤ R.locals) (hp : pc + 3 = pc')
    (kk : ∀ T' h', Wk l Z EL own nm cd ml ret R ws h0 K sf T' h' cells slots → Keep h h' [b] → Arv Z h' b k' ty z' (vd.take dpN ++ us ++ vd.drop (dpN + nN)) dd → Go K P T' pc' ls st) : Go K P T pc ls (.int nn :: .int dp :: .ref b :: .int sp :: .ref a :: st) := by
  subst e1 e2 e3 e4 e5
  obtain ⟨vm0, locs, k0, X, e, hx, hc, e0, hZ, hown, hS, hk, hL, hC, hO, hE, hw, hz, hs⟩ := W
  subst hp
  obtain ⟨T', h', L, X', e', -, Ke, B', f⟩ := cpA X hx hZ hown w1 w2 w3 w4 e A B (Or.inl ⟨rfl, hty⟩) h1 h2 h3 h4 h5 hus hl (n0 := 0) (fun _ _ => Nat.zero_le _) (Nat.zero_le _) (g := mkF K.2.2.2.1 pc ls (.int nn :: .int dp :: .ref b :: .int sp :: .ref a :: st)) rfl (hsz.trans hc.2.1.symm) rfl (hb hc.1 hd) hf (W := Wd) (by show 2 * 0 + _ ≤ _; omega) hlo
  obtain ⟨s1, s2, s3⟩ := hs b hb'
  obtain ⟨cl, B1, -, B3, -⟩ := B
  have X2 := locsAt X X' (by rw [e, e']; exact Ke) z'.toNatClampNeg (fun c hc => by rw [e] at hc; cases hc.symm.trans B1.1; exact Nat.le_of_eq B3)
  have C1 : CHr Z EL vm0 h vm0 h' := CHr.keep Ke (fun x q => by cases List.mem_singleton.mp q; exact s1) hC.1
  obtain ⟨a1, a2, a3, a4⟩ := wAfter (s := K.2.2.1) (so := []) (wsc := [b]) (L := (List.range z'.toNatClampNeg).map fun i => (⟨b, i⟩ : Loc)) hC hs hL hO hw hz (fun x q => by cases List.mem_singleton.mp q; exact hb') (fun x q => nomatch q) (fun x q => Or.inl (by obtain ⟨i, -, rfl⟩ := List.mem_map.mp q; exact List.mem_singleton.mpr rfl)) Ke C1
  exact Go.stp f (kk T' h' ⟨vm0, _, k0, X2, e', hx, hc, e0, hZ, hown, hS, Nat.le_trans hk Ke.1, a3, a1, a4, hE, hw, hz, a2⟩ Ke B')
end More
section Starts
/-- a term that is said to equal an int -/
theorem eqI_v {args : Array Value} {first s : State} {o : Option Outcome} {idx : List Nat} {t : Term} {n : Int32} (h : (Cond.eq t (.int n)).value args first o s idx = some true) : t.eval args first o idx s = some (.int n) := by
  cases ht : t.eval args first o idx s with
  | none => simp [Cond.value, Term.eval, ht] at h
  | some x => cases x <;> simp [Cond.value, Term.eval, ht] at h ⊢; exact h
/-- a term that is said to equal one that is an object -/
theorem eqR_v {args : Array Value} {first s : State} {o : Option Outcome} {idx : List Nat} {t u : Term} {r : Addr} (h : (Cond.eq t u).value args first o s idx = some true) (hu : u.eval args first o idx s = some (.ref r)) : t.eval args first o idx s = some (.ref r) := by
  cases ht : t.eval args first o idx s with
  | none => simp [Cond.value, ht] at h
  | some x => cases x <;> simp [Cond.value, hu, ht] at h ⊢; exact h
theorem arvStart {Z : State} {args : Array Value} {t : Term} {a : Addr} {ty : FieldType} {z : Int32} {vs : List Value} {dv : Value} (hf : Fit Z) (ev : t.eval args Z none [] Z = some (.ref a)) (hx : (Cond.arrayOf t ty).value args Z none Z [] = some true) (hlen : (Cond.eq (Term.length t) (.int z)).value args Z none Z [] = some true) (hz : ¬ z < 0) (hl : z.toNatClampNeg = vs.length) (H : ∀ cl, Z.heap[a]? = some cl → HasL cl 0 vs) : ∃ k, Arv Z Z.heap a k ty z vs dv := by
  obtain ⟨c, A⟩ := Arr.start ev hx
  have hL := eqI_v hlen
  simp only [Term.eval, ev, Option.bind_eq_bind, Option.bind_some] at hL
  obtain ⟨cl, hc, h2⟩ := Option.bind_eq_some_iff.mp hL
  by_cases hn : cl.slots.size < 2147483648
  · rw [if_pos hn] at h2
    have e1 : Z.heap[a]? = some cl := (State.arrayAt?_spec hc).1
    have e2 : cl.slots.size.toInt32 = z := by have q := Option.some.inj h2; injection q
    have e3 : cl = c := Option.some.inj (e1.symm.trans A.1)
    subst e3
    exact ⟨_, Arv.start hf A hn e2 hz hl (H _ A.1)⟩
  · rw [if_neg hn] at h2; cases h2
/-- an element, read -/
theorem elem_h {Z : State} {args : Array Value} {t : Term} {a : Addr} {j : Int32} {v : Value} {cl : Cell} (ev : t.eval args Z none [] Z = some (.ref a)) (he : (Term.elem t (.int j)).eval args Z none [] Z = some v) (hc : Z.heap[a]? = some cl) (i : Nat) (hi : j.toNatClampNeg = i) : cl.slots[i]? = some v := hi ▸ (elem_in he ev (Term.int_eval j) hc).2
end Starts
end Jvm.Own
/- laws to paste: Road.backV, Road.eqW, Road.chN (cut by pick.py; bodies as the Statement names them) -/
namespace Jvm.Pilot.@@N@@
namespace StrChars
open Jvm Sem ClassFile Op Lib Jvm.Stand Jvm.Free.XT Jvm.Free.ALB Jvm.Free.JM Jvm.Free
open Jvm.Lib.Cold (StaticIs)
/-- a char array whose places are chars -/
def Ch (a : Addr) (A : Cell) (U : State) : Prop := Arr .char a A U ∧ Typed .char A
theorem Ch.mv {a : Addr} {A : Cell} {U U' : State} (h : Ch a A U) (hal : U.vm.Alike U'.vm) (hh : U'.heap = U.heap) : Ch a A U' := ⟨h.1.mv hal hh, h.2⟩
theorem Ch.keep {a : Addr} {A : Cell} {U U' : State} (h : Ch a A U) (hal : U.vm.Alike U'.vm) (hk : U'.heap[a]? = some A) : Ch a A U' := ⟨h.1.keep hal hk, h.2⟩
/-- what place i of a char[]'s cell holds -/
def cv (A : Cell) (i : Nat) : Int32 := match A.slots[i]? with | some (.int x) => x | _ => 0
theorem Ch.get {a : Addr} {A : Cell} {U : State} (h : Ch a A U) {i : Nat} (hi : i < A.slots.size) : A.slots[i]? = some (.int (cv A i)) := by
  have e := Array.getElem?_eq_getElem hi
  have f := h.2 i _ e
  unfold cv; rw [e]
  generalize A.slots[i] = v at f
  cases v <;> simp [fits] at f ⊢
/-- the byte that i2b leaves of a char -/
def lo8 (x : Int32) : Int32 := x.toInt8.toInt32
theorem fits_lo8 (y : Int32) : fits .byte (.int (lo8 y)) = true := by
  have h1 := y.toInt8.le_toInt
  have h2 := y.toInt8.toInt_lt
  simp only [lo8, fits, Bool.and_eq_true, decide_eq_true_eq, Int32.le_iff_toInt_le, Int8.toInt_toInt32, show (-128 : Int32).toInt = -128 from by decide, show (127 : Int32).toInt = 127 from by decide]
  omega
/-- A' is A but that each place j of lo .. hi - 1 holds f j -/
def Laid (A A' : Cell) (lo hi : Nat) (f : Nat → Value) : Prop := A'.cls = A.cls ∧ A'.vm = A.vm ∧ A'.slots.size = A.slots.size ∧ ∀ i, A'.slots[i]? = if lo ≤ i ∧ i < hi then some (f i) else A.slots[i]?
theorem Laid.zero (A : Cell) (lo : Nat) (f : Nat → Value) : Laid A A lo (lo + 0) f := ⟨rfl, rfl, rfl, fun i => by rw [if_neg (by omega)]⟩
theorem Laid.step {A Ak : Cell} {lo k : Nat} {f : Nat → Value} {v : Value} (h : Laid A Ak lo k f) (hlo : lo ≤ k) (hk : k < Ak.slots.size) (hv : v = f k) : Laid A (Ak.setSlot k v) lo (k + 1) f := by
  refine ⟨h.1, h.2.1, by simpa [Cell.setSlot] using h.2.2.1, fun i => ?_⟩
  by_cases e : k = i
  · subst e; rw [Cell.slots_setSlot_self v hk, if_pos (by omega), hv]
  · rw [Cell.slots_setSlot_ne v e, h.2.2.2 i]
    by_cases q : lo ≤ i ∧ i < k
    · rw [if_pos q, if_pos (by omega)]
    · rw [if_neg q, if_neg (by omega)]
def U16 : String := "java/lang/StringUTF16"
namespace Cmp5
def yN : MethodName := ⟨"java/lang/StringUTF16", "compress", "([CI[BII)I"⟩
abbrev yB : ByteArray := jdk_52_method_21_code
theorem d0 : decode yB 0 = .ok (.iconst 0, 1) := by decide +kernel
theorem d1 : decode yB 1 = .ok (.istore 5, 2) := by decide +kernel
theorem d3 : decode yB 3 = .ok (.iload 5, 2) := by decide +kernel
theorem d5 : decode yB 5 = .ok (.iload 4, 2) := by decide +kernel
theorem d7 : decode yB 7 = .ok (.if_icmp (.ge) 37, 3) := by decide +kernel
theorem d10 : decode yB 10 = .ok (.aload_n 0, 1) := by decide +kernel
theorem d11 : decode yB 11 = .ok (.iload_n 1, 1) := by decide +kernel
theorem d12 : decode yB 12 = .ok (.caload, 1) := by decide +kernel
theorem d13 : decode yB 13 = .ok (.istore 6, 2) := by decide +kernel
theorem d15 : decode yB 15 = .ok (.iload 6, 2) := by decide +kernel
theorem d17 : decode yB 17 = .ok (.sipush 255, 3) := by decide +kernel
theorem d20 : decode yB 20 = .ok (.if_icmp (.le) 6, 3) := by decide +kernel
theorem d26 : decode yB 26 = .ok (.aload_n 2, 1) := by decide +kernel
theorem d27 : decode yB 27 = .ok (.iload_n 3, 1) := by decide +kernel
theorem d28 : decode yB 28 = .ok (.iload 6, 2) := by decide +kernel
theorem d30 : decode yB 30 = .ok (.i2b, 1) := by decide +kernel
theorem d31 : decode yB 31 = .ok (.bastore, 1) := by decide +kernel
theorem d32 : decode yB 32 = .ok (.iinc 1 1, 3) := by decide +kernel
theorem d35 : decode yB 35 = .ok (.iinc 3 1, 3) := by decide +kernel
theorem d38 : decode yB 38 = .ok (.iinc 5 1, 3) := by decide +kernel
theorem d41 : decode yB 41 = .ok (.goto (-38), 3) := by decide +kernel
theorem d44 : decode yB 44 = .ok (.iload 4, 2) := by decide +kernel
theorem d46 : decode yB 46 = .ok (.ireturn, 1) := by decide +kernel
def site : List Cond := []
def tab : Cond := tabOf yN yB 7 (some .int) site
def P (b : Addr) (A : Cell) (d : Addr) (B : Cell) (o q len : Nat) (args : Array Value) (s : State) : Prop := args = #[.ref b, .int (Int32.ofNat o), .ref d, .int (Int32.ofNat q), .int (Int32.ofNat len)] ∧ Ch b A s ∧ Arr .byte d B s ∧ b ≠ d ∧ o + len ≤ A.slots.size ∧ q + len ≤ B.slots.size ∧ ∀ i, i < len → ¬ 255 < cv A (o + i)
def E (b : Addr) (A : Cell) (d : Addr) (B : Cell) (o q len : Nat) (r : Option Value) (s u : State) : Prop := r = some (.int (Int32.ofNat len)) ∧ ∃ B', Put d B' s u ∧ Laid B B' q (q + len) (fun j => Value.int (lo8 (cv A (o + (j - q)))))
/-- no char of the range above 255: len; the places written hold each char's low byte -/
theorem law (l : Launch) (b : Addr) (A : Cell) (d : Addr) (B : Cell) (o q len : Nat) : Law l yN 5 5 0 0 yB 7 (some .int) site (P b A d B o q len) (E b A d B o q len) (copyLocs d q len) 0 0 := by
  refine Law.of_walk (plainFor_of_name (by decide +kernel)) (by decide +kernel) (by decide +kernel) (by decide) (fun _ _ h => by rw [h.1]; rfl) (fun _ U U' hal hh h => ⟨h.1, h.2.1.mv hal hh, h.2.2.1.mv hal hh, h.2.2.2⟩) (fun r U U' V V' h1 hal h2 h => ⟨h.1, h.2.elim fun B' q => ⟨B', q.1.mv h1 h2, q.2⟩⟩) ?_
  intro p e s m args below meth c s₁ X0 hexec hbytes hml hret hlk hnm hown hh0 W hP
  obtain ⟨rfl, hA, hB, hne, l1, l2, hp⟩ := hP
  have c1 : Steps p.tables e below (s₁.setTop (entryFrame m #[.ref b, .int (Int32.ofNat o), .ref d, .int (Int32.ofNat q), .int (Int32.ofNat len)] 7)) (s₁.setTop (mkF m 0 #[.val (.ref b), .val (.int (Int32.ofNat o)), .val (.ref d), .val (.int (Int32.ofNat q)), .val (.int (Int32.ofNat len)), .unset, .unset] [])) := entry rfl
  have hA0 := hA.1.mv X0.warmed.alike hh0
  have hB0 := hB.mv X0.warmed.alike hh0
  have a31 := hA.1.2.2.2
  have c2 : Steps p.tables e below (s₁.setTop (entryFrame m #[.ref b, .int (Int32.ofNat o), .ref d, .int (Int32.ofNat q), .int (Int32.ofNat len)] 7)) (s₁.setTop (mkF m 3 #[.val (.ref b), .val (.int (Int32.ofNat o)), .val (.ref d), .val (.int (Int32.ofNat q)), .val (.int (Int32.ofNat len)), .val (.int 0), .unset] [])) := c1.trans (by
    refine iconstV X0.here hexec rfl 0 (hb hbytes d0) (by decide) ?_
    refine XS.istore X0.here hexec rfl (hb hbytes d1) rfl rfl ?_
    exact Steps.refl _)
  have loop : ∀ (r i : Nat), i + r = len → ∀ (z : Slot), (z = .unset ∨ ∃ w, z = .val w ∧ w.category = 1) → ∀ (Tl : State) (Bk : Cell), Stand p l e { frames := 0, locals := 0, cells := 0, slots := 0 } s m #[.ref b, .int (Int32.ofNat o), .ref d, .int (Int32.ofNat q), .int (Int32.ofNat len)] below meth c Tl ([] ++ copyLocs d q i) 0 0 → Put d Bk s₁ Tl → Laid B Bk q (q + i) (fun j => Value.int (lo8 (cv A (o + (j - q))))) →
      Steps p.tables e below (s₁.setTop (entryFrame m #[.ref b, .int (Int32.ofNat o), .ref d, .int (Int32.ofNat q), .int (Int32.ofNat len)] 7)) (Tl.setTop (mkF m 3 #[.val (.ref b), .val (.int (Int32.ofNat (o + i))), .val (.ref d), .val (.int (Int32.ofNat (q + i))), .val (.int (Int32.ofNat len)), .val (.int (Int32.ofNat i)), z] [])) → ∃ (T' : State) (B' : Cell) (z' : Slot), Stand p l e { frames := 0, locals := 0, cells := 0, slots := 0 } s m #[.ref b, .int (Int32.ofNat o), .ref d, .int (Int32.ofNat q), .int (Int32.ofNat len)] below meth c T' ([] ++ copyLocs d q len) 0 0 ∧ Put d B' s₁ T' ∧ Laid B B' q (q + len) (fun j => Value.int (lo8 (cv A (o + (j - q))))) ∧
      Steps p.tables e below (s₁.setTop (entryFrame m #[.ref b, .int (Int32.ofNat o), .ref d, .int (Int32.ofNat q), .int (Int32.ofNat len)] 7)) (T'.setTop (mkF m 3 #[.val (.ref b), .val (.int (Int32.ofNat (o + len))), .val (.ref d), .val (.int (Int32.ofNat (q + len))), .val (.int (Int32.ofNat len)), .val (.int (Int32.ofNat len)), z'] [])) := by
    intro r
    induction r with
    | zero =>
      intro i hi z hz Tl Bk Xl pl fl cl
      have hil : i = len := by omega
      rw [hil] at Xl fl cl
      exact ⟨Tl, Bk, z, Xl, pl, fl, cl⟩
    | succ r ih =>
      intro i hi z hz Tl Bk Xl pl fl cl
      have all := X0.warmed.alike.symm.trans Xl.warmed.alike
      have hAl := hA0.keep all (pl.other hne hA0.1)
      have hBk := hB0.like all pl.1 fl.1 fl.2.1 fl.2.2.1
      have hlt : q + i < Bk.slots.size := by rw [fl.2.2.1]; omega
      have c3 : Steps p.tables e below (s₁.setTop (entryFrame m #[.ref b, .int (Int32.ofNat o), .ref d, .int (Int32.ofNat q), .int (Int32.ofNat len)] 7)) (Tl.setTop (mkF m 12 #[.val (.ref b), .val (.int (Int32.ofNat (o + i))), .val (.ref d), .val (.int (Int32.ofNat (q + i))), .val (.int (Int32.ofNat len)), .val (.int (Int32.ofNat i)), z] [.int (Int32.ofNat (o + i)), .ref b])) := cl.trans (by
        refine XS.iload Xl.here hexec rfl (hb hbytes d3) rfl ?_
        refine XS.iload Xl.here hexec rfl (hb hbytes d5) rfl ?_
        refine XS.icmpNo Xl.here hexec rfl (hb hbytes d7) rfl (ii_ge_f (lt32 (by omega) (by omega))) ?_
        refine XS.aloadN Xl.here hexec rfl (hb hbytes d10) rfl rfl ?_
        refine XS.iloadN Xl.here hexec rfl (hb hbytes d11) rfl ?_
        exact Steps.refl _)
      have c4 : Steps p.tables e below (s₁.setTop (entryFrame m #[.ref b, .int (Int32.ofNat o), .ref d, .int (Int32.ofNat q), .int (Int32.ofNat len)] 7)) (Tl.setTop (mkF m 13 #[.val (.ref b), .val (.int (Int32.ofNat (o + i))), .val (.ref d), .val (.int (Int32.ofNat (q + i))), .val (.int (Int32.ofNat len)), .val (.int (Int32.ofNat i)), z] [.int (cv A (o + i))])) := c3.trans (by
        refine Xl.aget hexec hAl rfl (hA.get (i := o + i) (by omega)) rfl rfl (hb hbytes d12) ?_
        exact Steps.refl _)
      have c5 : Steps p.tables e below (s₁.setTop (entryFrame m #[.ref b, .int (Int32.ofNat o), .ref d, .int (Int32.ofNat q), .int (Int32.ofNat len)] 7)) (Tl.setTop (mkF m 15 #[.val (.ref b), .val (.int (Int32.ofNat (o + i))), .val (.ref d), .val (.int (Int32.ofNat (q + i))), .val (.int (Int32.ofNat len)), .val (.int (Int32.ofNat i)), .val (.int (cv A (o + i)))] [])) := c4.trans (by
        refine XS.istoreS Xl.here hexec rfl (hb hbytes d13) rfl rfl hz ?_
        exact Steps.refl _)
      have c6 : Steps p.tables e below (s₁.setTop (entryFrame m #[.ref b, .int (Int32.ofNat o), .ref d, .int (Int32.ofNat q), .int (Int32.ofNat len)] 7)) (Tl.setTop (mkF m 31 #[.val (.ref b), .val (.int (Int32.ofNat (o + i))), .val (.ref d), .val (.int (Int32.ofNat (q + i))), .val (.int (Int32.ofNat len)), .val (.int (Int32.ofNat i)), .val (.int (cv A (o + i)))] [.int (lo8 (cv A (o + i))), .int (Int32.ofNat (q + i)), .ref d])) := c5.trans (by
        refine XS.iload Xl.here hexec rfl (hb hbytes d15) rfl ?_
        refine sipushV Xl.here hexec rfl 255 (hb hbytes d17) (by decide) ?_
        refine XS.icmpYes Xl.here hexec rfl (pc0 := 20) rfl (hb hbytes d20) rfl (ii_le_t (hp i (by omega))) (by decide) rfl ?_
        refine XS.aloadN Xl.here hexec rfl (hb hbytes d26) rfl rfl ?_
        refine XS.iloadN Xl.here hexec rfl (hb hbytes d27) rfl ?_
        refine XS.iload Xl.here hexec rfl (hb hbytes d28) rfl ?_
        refine i2b Xl.here hexec rfl (hb hbytes d30) rfl ?_
        exact Steps.refl _)
      obtain ⟨T7, X7, p7, st7⟩ := Xl.aput hexec hBk rfl hlt rfl (fits_lo8 (cv A (o + i))) (g := (mkF m 31 #[.val (.ref b), .val (.int (Int32.ofNat (o + i))), .val (.ref d), .val (.int (Int32.ofNat (q + i))), .val (.int (Int32.ofNat len)), .val (.int (Int32.ofNat i)), .val (.int (cv A (o + i)))] [.int (lo8 (cv A (o + i))), .int (Int32.ofNat (q + i)), .ref d])) rfl (rest := []) rfl (hb hbytes d31)
      have c8 : Steps p.tables e below (s₁.setTop (entryFrame m #[.ref b, .int (Int32.ofNat o), .ref d, .int (Int32.ofNat q), .int (Int32.ofNat len)] 7)) (T7.setTop (mkF m 32 #[.val (.ref b), .val (.int (Int32.ofNat (o + i))), .val (.ref d), .val (.int (Int32.ofNat (q + i))), .val (.int (Int32.ofNat len)), .val (.int (Int32.ofNat i)), .val (.int (cv A (o + i)))] [])) := c6.trans (st7 _ (Steps.refl _))
      have c9 : Steps p.tables e below (s₁.setTop (entryFrame m #[.ref b, .int (Int32.ofNat o), .ref d, .int (Int32.ofNat q), .int (Int32.ofNat len)] 7)) (T7.setTop (mkF m 3 #[.val (.ref b), .val (.int (Int32.ofNat (o + i) + 1)), .val (.ref d), .val (.int (Int32.ofNat (q + i) + 1)), .val (.int (Int32.ofNat len)), .val (.int (Int32.ofNat i + 1)), .val (.int (cv A (o + i)))] [])) := c8.trans (by
        refine iincV X7.here hexec rfl 1 (hb hbytes d32) (by decide) rfl rfl ?_
        refine iincV X7.here hexec rfl 1 (hb hbytes d35) (by decide) rfl rfl ?_
        refine iincV X7.here hexec rfl 1 (hb hbytes d38) (by decide) rfl rfl ?_
        refine XS.goto X7.here hexec rfl (pc0 := 41) rfl (hb hbytes d41) (by decide) rfl ?_
        exact Steps.refl _)
      have c10 : Steps p.tables e below (s₁.setTop (entryFrame m #[.ref b, .int (Int32.ofNat o), .ref d, .int (Int32.ofNat q), .int (Int32.ofNat len)] 7)) (T7.setTop (mkF m 3 #[.val (.ref b), .val (.int (Int32.ofNat (o + (i + 1)))), .val (.ref d), .val (.int (Int32.ofNat (q + (i + 1)))), .val (.int (Int32.ofNat len)), .val (.int (Int32.ofNat (i + 1))), .val (.int (cv A (o + i)))] [])) := by
        have := c9
        rw [succ32, succ32, succ32] at this
        exact this
      exact ih (i + 1) (by omega) _ (Or.inr ⟨_, rfl, rfl⟩) T7 _ (by rw [copyLocs_step, ← List.append_assoc]; exact X7) (pl.trans p7) (fl.step (by omega) hlt (by simp)) c10
  obtain ⟨T9, B9, z9, X9, p9, f9, g9⟩ := loop len 0 (by omega) .unset (Or.inl rfl) s₁ B (by simpa [copyLocs] using X0) ⟨hB0.1, fun _ _ => rfl, rfl⟩ (Laid.zero _ _ _) c2
  have c11 : Steps p.tables e below (s₁.setTop (entryFrame m #[.ref b, .int (Int32.ofNat o), .ref d, .int (Int32.ofNat q), .int (Int32.ofNat len)] 7)) (T9.setTop (mkF m 46 #[.val (.ref b), .val (.int (Int32.ofNat (o + len))), .val (.ref d), .val (.int (Int32.ofNat (q + len))), .val (.int (Int32.ofNat len)), .val (.int (Int32.ofNat len)), z9] [.int (Int32.ofNat len)])) := g9.trans (by
    refine XS.iload X9.here hexec rfl (hb hbytes d3) rfl ?_
    refine XS.iload X9.here hexec rfl (hb hbytes d5) rfl ?_
    refine XS.icmpYes X9.here hexec rfl (pc0 := 7) rfl (hb hbytes d7) rfl (ii_ge_t (nlt32 (by omega) (Nat.le_refl _))) (by decide) rfl ?_
    refine XS.iload X9.here hexec rfl (hb hbytes d44) rfl ?_
    exact Steps.refl _)
  exact ⟨T9, some (.int (Int32.ofNat len)), _, _, _, X9, by simp, rfl, rfl, (fun h => by cases h), ⟨rfl, B9, p9.from hh0, f9⟩, fun fs hl => c11.trans (X9.ireturnOut hexec hret rfl (Or.inl rfl) (hb hbytes d46) hl)⟩
end Cmp5
namespace Cmp3
def yN : MethodName := ⟨"java/lang/StringUTF16", "compress", "([CII)[B"⟩
abbrev yB : ByteArray := jdk_52_method_16_code
theorem d0 : decode yB 0 = .ok (.iload_n 2, 1) := by decide +kernel
theorem d1 : decode yB 1 = .ok (.newarray .byte, 2) := by decide +kernel
theorem d3 : decode yB 3 = .ok (.astore_n 3, 1) := by decide +kernel
theorem d4 : decode yB 4 = .ok (.aload_n 0, 1) := by decide +kernel
theorem d5 : decode yB 5 = .ok (.iload_n 1, 1) := by decide +kernel
theorem d6 : decode yB 6 = .ok (.aload_n 3, 1) := by decide +kernel
theorem d7 : decode yB 7 = .ok (.iconst 0, 1) := by decide +kernel
theorem d8 : decode yB 8 = .ok (.iload_n 2, 1) := by decide +kernel
theorem d9 : decode yB 9 = .ok (.invokestatic 115, 3) := by decide +kernel
theorem d12 : decode yB 12 = .ok (.istore 4, 2) := by decide +kernel
theorem d14 : decode yB 14 = .ok (.iload 4, 2) := by decide +kernel
theorem d16 : decode yB 16 = .ok (.iload_n 2, 1) := by decide +kernel
theorem d17 : decode yB 17 = .ok (.if_icmp (.eq) 40, 3) := by decide +kernel
theorem d57 : decode yB 57 = .ok (.aload_n 3, 1) := by decide +kernel
theorem d58 : decode yB 58 = .ok (.areturn, 1) := by decide +kernel
def site : List Cond := [.arrayClass .byte, Cmp5.tab] ++ staticW U16 115 Cmp5.yN
def tab : Cond := tabOf yN yB 6 (some (.array .byte)) site
def P (b : Addr) (A : Cell) (o len : Nat) (args : Array Value) (s : State) : Prop := args = #[.ref b, .int (Int32.ofNat o), .int (Int32.ofNat len)] ∧ Ch b A s ∧ o + len ≤ A.slots.size ∧ len ≤ 536870912 ∧ ∀ i, i < len → ¬ 255 < cv A (o + i)
def E (b : Addr) (A : Cell) (o len : Nat) (r : Option Value) (s u : State) : Prop := NewArr .byte "[B" len (fun j => .int (lo8 (cv A (o + j)))) r s u ∧ u.heap.size = s.heap.size + 1
/-- no char of the range above 255: a new byte[] of their low bytes -/
theorem law (l : Launch) (b : Addr) (A : Cell) (o len : Nat) : Law l yN 3 3 1 18 yB 6 (some (.array .byte)) site (P b A o len) (E b A o len) [] 1 len := by
  refine Law.of_walk (plainFor_of_name (by decide +kernel)) (by decide +kernel) (by decide +kernel) (by decide) (fun _ _ h => by rw [h.1]; rfl) (fun _ U U' hal hh h => ⟨h.1, h.2.1.mv hal hh, h.2.2⟩) (fun r U U' V V' h1 hal h2 h => ⟨NewArr.mv r U U' V V' h1 hal h2 h.1, by rw [h1, h2]; exact h.2⟩) ?_
  intro p e s m args below meth c s₁ X0 hexec hbytes hml hret hlk hnm hown hh0 W hP
  obtain ⟨rfl, hA, l1, l2, hp⟩ := hP
  have a31 := hA.1.2.2.2
  have c1 : Steps p.tables e below (s₁.setTop (entryFrame m #[.ref b, .int (Int32.ofNat o), .int (Int32.ofNat len)] 6)) (s₁.setTop (mkF m 0 #[.val (.ref b), .val (.int (Int32.ofNat o)), .val (.int (Int32.ofNat len)), .unset, .unset, .unset] [])) := entry rfl
  have c2 : Steps p.tables e below (s₁.setTop (entryFrame m #[.ref b, .int (Int32.ofNat o), .int (Int32.ofNat len)] 6)) (s₁.setTop (mkF m 1 #[.val (.ref b), .val (.int (Int32.ofNat o)), .val (.int (Int32.ofNat len)), .unset, .unset, .unset] [.int (Int32.ofNat len)])) := c1.trans (by
    refine XS.iloadN X0.here hexec rfl (hb hbytes d0) rfl ?_
    exact Steps.refl _)
  obtain ⟨T3, B3, X3, ba3, bs3, bv3, bh3, bf3, st3⟩ := X0.anew hexec (atype := .byte) (wk W (.arrayClass .byte)) rfl (by show len * 1 ≤ _; omega) (by omega) (g := (mkF m 1 #[.val (.ref b), .val (.int (Int32.ofNat o)), .val (.int (Int32.ofNat len)), .unset, .unset, .unset] [.int (Int32.ofNat len)])) rfl (hb hbytes d1) (rest := []) rfl (Nat.le_refl _) (by show 0 + len ≤ len; omega)
  rw [hh0] at ba3 st3
  have kp3 : XT.Kept s T3 := (XT.Kept.of_eq hh0).push bh3
  have hA3 := hA.keep X3.warmed.alike (kp3 _ _ hA.1.1)
  have hne : b ≠ s.heap.size := hA.1.ne
  have c4 : Steps p.tables e below (s₁.setTop (entryFrame m #[.ref b, .int (Int32.ofNat o), .int (Int32.ofNat len)] 6)) (T3.setTop (mkF m 3 #[.val (.ref b), .val (.int (Int32.ofNat o)), .val (.int (Int32.ofNat len)), .unset, .unset, .unset] [.ref s.heap.size])) := c2.trans (st3 _ (Steps.refl _))
  have c5 : Steps p.tables e below (s₁.setTop (entryFrame m #[.ref b, .int (Int32.ofNat o), .int (Int32.ofNat len)] 6)) (T3.setTop (mkF m 9 #[.val (.ref b), .val (.int (Int32.ofNat o)), .val (.int (Int32.ofNat len)), .val (.ref s.heap.size), .unset, .unset] [.int (Int32.ofNat len), .int 0, .ref s.heap.size, .int (Int32.ofNat o), .ref b])) := c4.trans (by
    refine XS.astoreN X3.here hexec rfl (hb hbytes d3) rfl rfl rfl ?_
    refine XS.aloadN X3.here hexec rfl (hb hbytes d4) rfl rfl ?_
    refine XS.iloadN X3.here hexec rfl (hb hbytes d5) rfl ?_
    refine XS.aloadN X3.here hexec rfl (hb hbytes d6) rfl rfl ?_
    refine iconstV X3.here hexec rfl 0 (hb hbytes d7) (by decide) ?_
    refine XS.iloadN X3.here hexec rfl (hb hbytes d8) rfl ?_
    exact Steps.refl _)
  obtain ⟨v6, T6, X6, E6, g6⟩ := X3.callS hexec (Cmp5.law l b A s.heap.size B3 o 0 len) hown (wks W (staticW U16 115 Cmp5.yN)) (wk W Cmp5.tab) (W := 0) (Nat.le_of_ble_eq_true rfl) (Nat.le_of_ble_eq_true rfl) (Nat.le_refl _) (by show 0 + len + 0 ≤ len; omega) (g := (mkF m 9 #[.val (.ref b), .val (.int (Int32.ofNat o)), .val (.int (Int32.ofNat len)), .val (.ref s.heap.size), .unset, .unset] [.int (Int32.ofNat len), .int (Int32.ofNat 0), .ref s.heap.size, .int (Int32.ofNat o), .ref b])) rfl (by rw [hml]; rfl) c5 (argsL := [.ref b, .int (Int32.ofNat o), .ref s.heap.size, .int (Int32.ofNat 0), .int (Int32.ofNat len)]) (rest := []) rfl rfl (by show 2 * 0 + 0 ≤ _; decide) (hb hbytes d9) (⟨rfl, hA3, ba3, hne, l1, by rw [bs3]; simp, hp⟩)
  obtain ⟨rfl, B6, p6, f6⟩ := E6
  have c7 : Steps p.tables e below (s₁.setTop (entryFrame m #[.ref b, .int (Int32.ofNat o), .int (Int32.ofNat len)] 6)) (T6.setTop (mkF m 12 #[.val (.ref b), .val (.int (Int32.ofNat o)), .val (.int (Int32.ofNat len)), .val (.ref s.heap.size), .unset, .unset] [.int (Int32.ofNat len)])) := g6
  have c8 : Steps p.tables e below (s₁.setTop (entryFrame m #[.ref b, .int (Int32.ofNat o), .int (Int32.ofNat len)] 6)) (T6.setTop (mkF m 58 #[.val (.ref b), .val (.int (Int32.ofNat o)), .val (.int (Int32.ofNat len)), .val (.ref s.heap.size), .val (.int (Int32.ofNat len)), .unset] [.ref s.heap.size])) := c7.trans (by
    refine XS.istore X6.here hexec rfl (hb hbytes d12) rfl rfl ?_
    refine XS.iload X6.here hexec rfl (hb hbytes d14) rfl ?_
    refine XS.iloadN X6.here hexec rfl (hb hbytes d16) rfl ?_
    refine XS.icmpYes X6.here hexec rfl (pc0 := 17) rfl (hb hbytes d17) rfl (ii_eq_t rfl) (by decide) rfl ?_
    refine XS.aloadN X6.here hexec rfl (hb hbytes d57) rfl rfl ?_
    exact Steps.refl _)
  have X8 := X6.wide (L' := []) (cells' := 1) (slots' := len) (fun x hx hlt => by
    simp only [List.nil_append, copyLocs, List.mem_map, List.mem_range] at hx
    obtain ⟨i, -, rfl⟩ := hx
    exact absurd hlt (Nat.lt_irrefl _)) (Nat.le_refl _) (by omega)
  exact ⟨T6, some (.ref s.heap.size), _, _, _, X8, rfl, rfl, rfl, (fun h => by cases h), ⟨⟨rfl, B6, ba3.like (X3.warmed.alike.symm.trans X6.warmed.alike) p6.1 f6.1 f6.2.1 f6.2.2.1, f6.2.1.trans bv3, by rw [X6.warmed.alike.findClass, f6.1]; exact bf3, by rw [f6.2.2.1, bs3]; simp, fun j hj => by rw [f6.2.2.2 j, if_pos (by omega)]; rfl, kp3.put p6 (Nat.le_refl _)⟩, by rw [p6.2.2, bh3, hh0]; simp⟩, fun fs hl => c8.trans (X8.areturnOut hexec rfl hret rfl (hb hbytes d58) hl)⟩
end Cmp3
namespace CodL
def yN : MethodName := ⟨"java/lang/StringUTF16", "coderFromArrayLen", "([BI)B"⟩
abbrev yB : ByteArray := jdk_52_method_15_code
theorem d0 : decode yB 0 = .ok (.iload_n 1, 1) := by decide +kernel
theorem d1 : decode yB 1 = .ok (.aload_n 0, 1) := by decide +kernel
theorem d2 : decode yB 2 = .ok (.arraylength, 1) := by decide +kernel
theorem d3 : decode yB 3 = .ok (.isub, 1) := by decide +kernel
theorem d4 : decode yB 4 = .ok (.bipush 31, 2) := by decide +kernel
theorem d6 : decode yB 6 = .ok (.iushr, 1) := by decide +kernel
theorem d7 : decode yB 7 = .ok (.i2b, 1) := by decide +kernel
theorem d8 : decode yB 8 = .ok (.ireturn, 1) := by decide +kernel
def site : List Cond := []
def tab : Cond := tabOf yN yB 2 (some .byte) site
def P (d : Addr) (B : Cell) (args : Array Value) (s : State) : Prop := args = #[.ref d, .int (Int32.ofNat B.slots.size)] ∧ Arr .byte d B s
def E (r : Option Value) (s u : State) : Prop := XT.PureE (some (.int 0)) r s u
/-- an array as long as the number of chars: LATIN1 -/
theorem law (l : Launch) (d : Addr) (B : Cell) : Law l yN 2 2 0 0 yB 2 (some .byte) site (P d B) E [] 0 0 := by
  refine Law.of_walk (plainFor_of_name (by decide +kernel)) (by decide +kernel) (by decide +kernel) (by decide) (fun _ _ h => by rw [h.1]; rfl) (fun _ U U' hal hh h => ⟨h.1, h.2.mv hal hh⟩) (fun r U U' V V' h1 hal h2 h => XT.PureE.mv r U U' V V' h1 hal h2 h) ?_
  intro p e s m args below meth c s₁ X0 hexec hbytes hml hret hlk hnm hown hh0 W hP
  obtain ⟨rfl, hB⟩ := hP
  have hB0 := hB.mv X0.warmed.alike hh0
  have c1 : Steps p.tables e below (s₁.setTop (entryFrame m #[.ref d, .int (Int32.ofNat B.slots.size)] 2)) (s₁.setTop (mkF m 0 #[.val (.ref d), .val (.int (Int32.ofNat B.slots.size))] [])) := entry rfl
  have c2 : Steps p.tables e below (s₁.setTop (entryFrame m #[.ref d, .int (Int32.ofNat B.slots.size)] 2)) (s₁.setTop (mkF m 2 #[.val (.ref d), .val (.int (Int32.ofNat B.slots.size))] [.ref d, .int (Int32.ofNat B.slots.size)])) := c1.trans (by
    refine XS.iloadN X0.here hexec rfl (hb hbytes d0) rfl ?_
    refine XS.aloadN X0.here hexec rfl (hb hbytes d1) rfl rfl ?_
    exact Steps.refl _)
  have c3 : Steps p.tables e below (s₁.setTop (entryFrame m #[.ref d, .int (Int32.ofNat B.slots.size)] 2)) (s₁.setTop (mkF m 8 #[.val (.ref d), .val (.int (Int32.ofNat B.slots.size))] [.int (lo8 (ushr (Int32.ofNat B.slots.size - Int32.ofNat B.slots.size) 31))])) := c2.trans (by
    refine X0.alen hexec hB0 rfl rfl (hb hbytes d2) ?_
    refine XS.isub X0.here hexec rfl (hb hbytes d3) rfl ?_
    refine bipushV X0.here hexec rfl 31 (hb hbytes d4) (by decide) ?_
    refine iushr X0.here hexec rfl (hb hbytes d6) rfl ?_
    refine i2b X0.here hexec rfl (hb hbytes d7) rfl ?_
    exact Steps.refl _)
  have e0 : lo8 (ushr (Int32.ofNat B.slots.size - Int32.ofNat B.slots.size) 31) = 0 := by rw [Int32.sub_self]; decide
  rw [e0] at c3
  exact ⟨s₁, some (.int 0), _, _, _, X0, rfl, rfl, rfl, (fun h => by cases h), ⟨rfl, hh0⟩, fun fs hl => c3.trans (X0.ireturnOut hexec hret rfl (Or.inr (Or.inr (Or.inl rfl))) (hb hbytes d8) hl)⟩
end CodL
/-- the String at a is Latin-1 over a new byte[] (the heap's one new cell): the low bytes of the len chars of A from o on; every cell but a is kept -/
def Got (a : Addr) (D : Cell) (fV fC : Field) (A : Cell) (o len : Nat) (r : Option Value) (s u : State) : Prop := r = none ∧ ∃ D' V : Cell, Blank "java/lang/String" a D' u ∧ Same D D' [fV.slot, fC.slot] ∧ D'.slots[fV.slot]? = some (.ref s.heap.size) ∧ D'.slots[fC.slot]? = some (.int 0) ∧ Arr .byte s.heap.size V u ∧ V.vm = .none ∧ u.vm.findClass "[B" = some V.cls ∧ V.slots.size = len ∧ (∀ j, j < len → V.slots[j]? = some (.int (lo8 (cv A (o + j))))) ∧ (∀ (y : Addr) (c : Cell), y ≠ a → s.heap[y]? = some c → u.heap[y]? = some c) ∧ u.heap.size = s.heap.size + 1
theorem Got.mv {a : Addr} {D A : Cell} {fV fC : Field} {o len : Nat} : ∀ r (U U' V V' : State), U'.heap = U.heap → V.vm.Alike V'.vm → V'.heap = V.heap → Got a D fV fC A o len r U V → Got a D fV fC A o len r U' V' :=
  fun r U U' V V' h1 hal h2 ⟨e0, D', X, a1, a2, a3, a4, a5, a6, a7, a8, a9, a10, a11⟩ => ⟨e0, D', X, a1.mv hal h2, a2, by rw [h1]; exact a3, a4, by rw [h1]; exact a5.mv hal h2, a6, by rw [hal.findClass]; exact a7, a8, a9, by rw [h1, h2]; exact a10, by rw [h1, h2]; exact a11⟩
namespace New4
def yN : MethodName := ⟨"java/lang/String", "<init>", "([CIILjava/lang/Void;)V"⟩
abbrev yB : ByteArray := jdk_42_method_149_code
theorem d0 : decode yB 0 = .ok (.aload_n 0, 1) := by decide +kernel
theorem d1 : decode yB 1 = .ok (.invokespecial 1, 3) := by decide +kernel
theorem d4 : decode yB 4 = .ok (.iload_n 3, 1) := by decide +kernel
theorem d5 : decode yB 5 = .ok (.ifCond (.ne) 22, 3) := by decide +kernel
theorem d27 : decode yB 27 = .ok (.getstatic 38, 3) := by decide +kernel
theorem d30 : decode yB 30 = .ok (.ifCond (.eq) 28, 3) := by decide +kernel
theorem d33 : decode yB 33 = .ok (.aload_n 1, 1) := by decide +kernel
theorem d34 : decode yB 34 = .ok (.iload_n 2, 1) := by decide +kernel
theorem d35 : decode yB 35 = .ok (.iload_n 3, 1) := by decide +kernel
theorem d36 : decode yB 36 = .ok (.invokestatic 177, 3) := by decide +kernel
theorem d39 : decode yB 39 = .ok (.astore 5, 2) := by decide +kernel
theorem d41 : decode yB 41 = .ok (.aload_n 0, 1) := by decide +kernel
theorem d42 : decode yB 42 = .ok (.aload 5, 2) := by decide +kernel
theorem d44 : decode yB 44 = .ok (.iload_n 3, 1) := by decide +kernel
theorem d45 : decode yB 45 = .ok (.invokestatic 47, 3) := by decide +kernel
theorem d48 : decode yB 48 = .ok (.putfield 15, 3) := by decide +kernel
theorem d51 : decode yB 51 = .ok (.aload_n 0, 1) := by decide +kernel
theorem d52 : decode yB 52 = .ok (.aload 5, 2) := by decide +kernel
theorem d54 : decode yB 54 = .ok (.putfield 9, 3) := by decide +kernel
theorem d57 : decode yB 57 = .ok (.return_, 1) := by decide +kernel
def site : List Cond := [.fieldLink "java/lang/String" 38 "java/lang/String" "COMPACT_STRINGS" "Z", Cmp3.tab, CodL.tab, .laysFinal "java/lang/String" "java/lang/String" "value" "[B", .fieldLink "java/lang/String" 9 "java/lang/String" "value" "[B", .laysFinal "java/lang/String" "java/lang/String" "coder" "B", .fieldLink "java/lang/String" 15 "java/lang/String" "coder" "B"] ++ objW "java/lang/String" 1 ++ staticW "java/lang/String" 177 Cmp3.yN ++ staticW "java/lang/String" 47 CodL.yN
def tab : Cond := tabOf yN yB 6 none site
def P (a : Addr) (D : Cell) (fV fC : Field) (b : Addr) (A : Cell) (z : Int32) (o len : Nat) (args : Array Value) (s : State) : Prop := args = #[.ref a, .ref b, .int (Int32.ofNat o), .int (Int32.ofNat len), .null] ∧ Blank "java/lang/String" a D s ∧ Found "java/lang/String" "value" "[B" fV s ∧ Found "java/lang/String" "coder" "B" fC s ∧ Ch b A s ∧ StaticIs s "java/lang/String" "COMPACT_STRINGS" "Z" (.int z) ∧ ¬ z = 0 ∧ 0 < len ∧ o + len ≤ A.slots.size ∧ len ≤ 536870912 ∧ ∀ i, i < len → ¬ 255 < cv A (o + i)
def E (a : Addr) (D : Cell) (fV fC : Field) (A : Cell) (o len : Nat) (r : Option Value) (s u : State) : Prop := Got a D fV fC A o len r s u
/-- len > 0, no char of the range above 255: a Latin-1 String of their low bytes -/
theorem law (l : Launch) (a : Addr) (D : Cell) (fV fC : Field) (b : Addr) (A : Cell) (z : Int32) (o len : Nat) : Law l yN 5 4 2 35 yB 6 none site (P a D fV fC b A z o len) (E a D fV fC A o len) [⟨a, fC.slot⟩, ⟨a, fV.slot⟩] 1 len := by
  refine Law.of_walk (plainFor_of_name (by decide +kernel)) (by decide +kernel) (by decide +kernel) (by decide) (fun _ _ h => by rw [h.1]; rfl) (fun _ U U' hal hh h => ⟨h.1, h.2.1.mv hal hh, h.2.2.1.al hal, h.2.2.2.1.al hal, h.2.2.2.2.1.mv hal hh, h.2.2.2.2.2.1.there hal hh, h.2.2.2.2.2.2⟩) (fun r U U' V V' h1 hal h2 h => Got.mv r U U' V V' h1 hal h2 h) ?_
  intro p e s m args below meth c s₁ X0 hexec hbytes hml hret hlk hnm hown hh0 W hP
  obtain ⟨rfl, hB, f1, f2, hA, s1, hz, l0, l1, l2, hp⟩ := hP
  have a31 := hA.1.2.2.2
  have c1 : Steps p.tables e below (s₁.setTop (entryFrame m #[.ref a, .ref b, .int (Int32.ofNat o), .int (Int32.ofNat len), .null] 6)) (s₁.setTop (mkF m 0 #[.val (.ref a), .val (.ref b), .val (.int (Int32.ofNat o)), .val (.int (Int32.ofNat len)), .val .null, .unset] [])) := entry rfl
  have c2 : Steps p.tables e below (s₁.setTop (entryFrame m #[.ref a, .ref b, .int (Int32.ofNat o), .int (Int32.ofNat len), .null] 6)) (s₁.setTop (mkF m 1 #[.val (.ref a), .val (.ref b), .val (.int (Int32.ofNat o)), .val (.int (Int32.ofNat len)), .val .null, .unset] [.ref a])) := c1.trans (by
    refine XS.aloadN X0.here hexec rfl (hb hbytes d0) rfl rfl ?_
    exact Steps.refl _)
  obtain ⟨T3, X3, q3, st3⟩ := X0.oinit hexec hown (wks W (objW "java/lang/String" 1)) (g := (mkF m 1 #[.val (.ref a), .val (.ref b), .val (.int (Int32.ofNat o)), .val (.int (Int32.ofNat len)), .val .null, .unset] [.ref a])) rfl (by rw [hml]; rfl) (rest := []) rfl (hb hbytes d1) (W := 0) (by show 2 * 0 + 0 ≤ _; decide) (Nat.le_of_ble_eq_true rfl) (Nat.le_of_ble_eq_true rfl)
  have hh3 := q3.trans hh0
  have c4 : Steps p.tables e below (s₁.setTop (entryFrame m #[.ref a, .ref b, .int (Int32.ofNat o), .int (Int32.ofNat len), .null] 6)) (T3.setTop (mkF m 27 #[.val (.ref a), .val (.ref b), .val (.int (Int32.ofNat o)), .val (.int (Int32.ofNat len)), .val .null, .unset] [])) := (c2.trans (st3 _ (Steps.refl _))).trans (by
    refine XS.iloadN X3.here hexec rfl (hb hbytes d4) rfl ?_
    refine XS.ifYes X3.here hexec rfl (pc0 := 5) rfl (hb hbytes d5) rfl (i0_ne_t (nz32 (by omega) l0)) (by decide) rfl ?_
    exact Steps.refl _)
  obtain ⟨T5, X5, q5, st5⟩ := X3.sget hexec hown (wk W (.fieldLink "java/lang/String" 38 "java/lang/String" "COMPACT_STRINGS" "Z")) s1 (fun _ _ h => by rw [hh3]; exact h) (g := (mkF m 27 #[.val (.ref a), .val (.ref b), .val (.int (Int32.ofNat o)), .val (.int (Int32.ofNat len)), .val .null, .unset] [])) rfl (hb hbytes d27)
  have hh5 := q5.trans hh3
  have c6 : Steps p.tables e below (s₁.setTop (entryFrame m #[.ref a, .ref b, .int (Int32.ofNat o), .int (Int32.ofNat len), .null] 6)) (T5.setTop (mkF m 30 #[.val (.ref a), .val (.ref b), .val (.int (Int32.ofNat o)), .val (.int (Int32.ofNat len)), .val .null, .unset] [.int z])) := c4.trans (st5 _ (Steps.refl _))
  have c7 : Steps p.tables e below (s₁.setTop (entryFrame m #[.ref a, .ref b, .int (Int32.ofNat o), .int (Int32.ofNat len), .null] 6)) (T5.setTop (mkF m 36 #[.val (.ref a), .val (.ref b), .val (.int (Int32.ofNat o)), .val (.int (Int32.ofNat len)), .val .null, .unset] [.int (Int32.ofNat len), .int (Int32.ofNat o), .ref b])) := c6.trans (by
    refine XS.ifNo X5.here hexec rfl (hb hbytes d30) rfl (i0_eq_f hz) ?_
    refine XS.aloadN X5.here hexec rfl (hb hbytes d33) rfl rfl ?_
    refine XS.iloadN X5.here hexec rfl (hb hbytes d34) rfl ?_
    refine XS.iloadN X5.here hexec rfl (hb hbytes d35) rfl ?_
    exact Steps.refl _)
  obtain ⟨v8, T8, X8, E8, g8⟩ := X5.callS hexec (Cmp3.law l b A o len) hown (wks W (staticW "java/lang/String" 177 Cmp3.yN)) (wk W Cmp3.tab) (W := 0) (Nat.le_of_ble_eq_true rfl) (Nat.le_of_ble_eq_true rfl) (Nat.le_refl _) (by show 0 + len ≤ len; omega) (g := (mkF m 36 #[.val (.ref a), .val (.ref b), .val (.int (Int32.ofNat o)), .val (.int (Int32.ofNat len)), .val .null, .unset] [.int (Int32.ofNat len), .int (Int32.ofNat o), .ref b])) rfl (by rw [hml]; rfl) c7 (argsL := [.ref b, .int (Int32.ofNat o), .int (Int32.ofNat len)]) (rest := []) rfl rfl (by show 2 * 0 + 0 ≤ _; decide) (hb hbytes d36) (⟨rfl, hA.mv X5.warmed.alike hh5, l1, l2, hp⟩)
  obtain ⟨e8, z8⟩ := E8
  obtain ⟨rfl, N, n1, n2, n3, n4, n5, n6⟩ := NewArr.mv _ T5 s _ _ hh5.symm (Vm.Alike.refl _) rfl e8
  rw [hh5] at z8
  have hB1 := hB.keep X8.warmed.alike (n6 _ _ hB.1)
  have hne : s.heap.size ≠ a := (Nat.ne_of_lt (Array.getElem?_eq_some_iff.mp hB.1).1).symm
  have c9 : Steps p.tables e below (s₁.setTop (entryFrame m #[.ref a, .ref b, .int (Int32.ofNat o), .int (Int32.ofNat len), .null] 6)) (T8.setTop (mkF m 39 #[.val (.ref a), .val (.ref b), .val (.int (Int32.ofNat o)), .val (.int (Int32.ofNat len)), .val .null, .unset] [.ref s.heap.size])) := g8
  have c10 : Steps p.tables e below (s₁.setTop (entryFrame m #[.ref a, .ref b, .int (Int32.ofNat o), .int (Int32.ofNat len), .null] 6)) (T8.setTop (mkF m 45 #[.val (.ref a), .val (.ref b), .val (.int (Int32.ofNat o)), .val (.int (Int32.ofNat len)), .val .null, .val (.ref s.heap.size)] [.int (Int32.ofNat N.slots.size), .ref s.heap.size, .ref a])) := by
    have hc : Steps p.tables e below (s₁.setTop (entryFrame m #[.ref a, .ref b, .int (Int32.ofNat o), .int (Int32.ofNat len), .null] 6)) (T8.setTop (mkF m 45 #[.val (.ref a), .val (.ref b), .val (.int (Int32.ofNat o)), .val (.int (Int32.ofNat len)), .val .null, .val (.ref s.heap.size)] [.int (Int32.ofNat len), .ref s.heap.size, .ref a])) := c9.trans (by
      refine XS.astore X8.here hexec rfl (hb hbytes d39) rfl rfl rfl ?_
      refine XS.aloadN X8.here hexec rfl (hb hbytes d41) rfl rfl ?_
      refine XS.aload X8.here hexec rfl (hb hbytes d42) rfl rfl ?_
      refine XS.iloadN X8.here hexec rfl (hb hbytes d44) rfl ?_
      exact Steps.refl _)
    rw [n4]; exact hc
  obtain ⟨v11, T11, X11, E11, g11⟩ := X8.callS hexec (CodL.law l s.heap.size N) hown (wks W (staticW "java/lang/String" 47 CodL.yN)) (wk W CodL.tab) (W := 1) (Nat.le_of_ble_eq_true rfl) (Nat.le_of_ble_eq_true rfl) (Nat.le_refl _) (by show 0 + len + 0 ≤ len; omega) (g := (mkF m 45 #[.val (.ref a), .val (.ref b), .val (.int (Int32.ofNat o)), .val (.int (Int32.ofNat len)), .val .null, .val (.ref s.heap.size)] [.int (Int32.ofNat N.slots.size), .ref s.heap.size, .ref a])) rfl (by rw [hml]; rfl) c10 (argsL := [.ref s.heap.size, .int (Int32.ofNat N.slots.size)]) (rest := [.ref a]) rfl rfl (by show 2 * 0 + (1 + 0) ≤ _; decide) (hb hbytes d45) (⟨rfl, n1⟩)
  obtain ⟨rfl, q11⟩ := E11
  have hB11 := hB1.mv (X8.warmed.alike.symm.trans X11.warmed.alike) q11
  have c12 : Steps p.tables e below (s₁.setTop (entryFrame m #[.ref a, .ref b, .int (Int32.ofNat o), .int (Int32.ofNat len), .null] 6)) (T11.setTop (mkF m 48 #[.val (.ref a), .val (.ref b), .val (.int (Int32.ofNat o)), .val (.int (Int32.ofNat len)), .val .null, .val (.ref s.heap.size)] [.int 0, .ref a])) := g11
  obtain ⟨T13, X13, p13, bl13, sl13, st13⟩ := X11.finit hexec hown (wk W (.fieldLink "java/lang/String" 15 "java/lang/String" "coder" "B")) (Or.inr ⟨_, (wk W (.laysFinal "java/lang/String" "java/lang/String" "coder" "B"))⟩) (Or.inl ⟨rfl, hnm⟩) f2 (Or.inl rfl) hB11 (t := .byte) (by decide +kernel) rfl (g := (mkF m 48 #[.val (.ref a), .val (.ref b), .val (.int (Int32.ofNat o)), .val (.int (Int32.ofNat len)), .val .null, .val (.ref s.heap.size)] [.int 0, .ref a])) rfl (rest := []) rfl (hb hbytes d48)
  have c14 : Steps p.tables e below (s₁.setTop (entryFrame m #[.ref a, .ref b, .int (Int32.ofNat o), .int (Int32.ofNat len), .null] 6)) (T13.setTop (mkF m 54 #[.val (.ref a), .val (.ref b), .val (.int (Int32.ofNat o)), .val (.int (Int32.ofNat len)), .val .null, .val (.ref s.heap.size)] [.ref s.heap.size, .ref a])) := (c12.trans (st13 _ (Steps.refl _))).trans (by
    refine XS.aloadN X13.here hexec rfl (hb hbytes d51) rfl rfl ?_
    refine XS.aload X13.here hexec rfl (hb hbytes d52) rfl rfl ?_
    exact Steps.refl _)
  obtain ⟨T15, X15, p15, bl15, sl15, st15⟩ := X13.finit hexec hown (wk W (.fieldLink "java/lang/String" 9 "java/lang/String" "value" "[B")) (Or.inr ⟨_, (wk W (.laysFinal "java/lang/String" "java/lang/String" "value" "[B"))⟩) (Or.inl ⟨rfl, hnm⟩) f1 (Or.inl rfl) bl13 (t := (.array .byte)) (by decide +kernel) rfl (g := (mkF m 54 #[.val (.ref a), .val (.ref b), .val (.int (Int32.ofNat o)), .val (.int (Int32.ofNat len)), .val .null, .val (.ref s.heap.size)] [.ref s.heap.size, .ref a])) rfl (rest := []) rfl (hb hbytes d54)
  have c16 : Steps p.tables e below (s₁.setTop (entryFrame m #[.ref a, .ref b, .int (Int32.ofNat o), .int (Int32.ofNat len), .null] 6)) (T15.setTop (mkF m 57 #[.val (.ref a), .val (.ref b), .val (.int (Int32.ofNat o)), .val (.int (Int32.ofNat len)), .val .null, .val (.ref s.heap.size)] [])) := c14.trans (st15 _ (Steps.refl _))
  have ap := apart (Or.inr ⟨_, (wk W (.laysFinal "java/lang/String" "java/lang/String" "value" "[B"))⟩) (Or.inr ⟨_, (wk W (.laysFinal "java/lang/String" "java/lang/String" "coder" "B"))⟩) f1 f2 (t₁ := .array .byte) (t₂ := .byte) (by decide +kernel) (by decide +kernel) (by decide)
  have al := X8.warmed.alike.symm.trans X15.warmed.alike
  have n7 : T11.heap[s.heap.size]? = some N := by rw [q11]; exact n1.1
  exact ⟨T15, none, _, _, _, X15, by simp, rfl, by omega, (fun _ => rfl), ⟨rfl, _, N, bl15, ((Same.refl D _).set _ (by simp)).set _ (by simp), sl15, (Cell.slots_setSlot_ne _ ap).trans sl13, n1.keep al (p15.other hne (p13.other hne n7)), n2, by rw [al.findClass]; exact n3, n4, n5, fun y c h1 h2 => p15.other h1 (p13.other h1 (by rw [q11]; exact n6 y c h2)), by rw [p15.2.2, p13.2.2, q11]; exact z8⟩, fun fs hl => c16.trans (X15.returnOut hexec hret (hb hbytes d57) hl)⟩
end New4
namespace New1
def yN : MethodName := ⟨"java/lang/String", "<init>", "([C)V"⟩
abbrev yB : ByteArray := jdk_42_method_3_code
theorem d0 : decode yB 0 = .ok (.aload_n 0, 1) := by decide +kernel
theorem d1 : decode yB 1 = .ok (.aload_n 1, 1) := by decide +kernel
theorem d2 : decode yB 2 = .ok (.iconst 0, 1) := by decide +kernel
theorem d3 : decode yB 3 = .ok (.aload_n 1, 1) := by decide +kernel
theorem d4 : decode yB 4 = .ok (.arraylength, 1) := by decide +kernel
theorem d5 : decode yB 5 = .ok (.aconst_null, 1) := by decide +kernel
theorem d6 : decode yB 6 = .ok (.invokespecial 27, 3) := by decide +kernel
theorem d9 : decode yB 9 = .ok (.return_, 1) := by decide +kernel
def site : List Cond := [New4.tab] ++ initW "java/lang/String" 27 New4.yN
def tab : Cond := tabOf yN yB 2 none site
def P (a : Addr) (D : Cell) (fV fC : Field) (b : Addr) (A : Cell) (z : Int32) (args : Array Value) (s : State) : Prop := args = #[.ref a, .ref b] ∧ Blank "java/lang/String" a D s ∧ Found "java/lang/String" "value" "[B" fV s ∧ Found "java/lang/String" "coder" "B" fC s ∧ Ch b A s ∧ StaticIs s "java/lang/String" "COMPACT_STRINGS" "Z" (.int z) ∧ ¬ z = 0 ∧ 0 < A.slots.size ∧ A.slots.size ≤ 536870912 ∧ ∀ i, i < A.slots.size → ¬ 255 < cv A i
def E (a : Addr) (D : Cell) (fV fC : Field) (A : Cell) (r : Option Value) (s u : State) : Prop := Got a D fV fC A 0 A.slots.size r s u
/-- new String(chars), not empty, no char above 255: a Latin-1 String of their low bytes -/
theorem law (l : Launch) (a : Addr) (D : Cell) (fV fC : Field) (b : Addr) (A : Cell) (z : Int32) : Law l yN 2 1 3 52 yB 2 none site (P a D fV fC b A z) (E a D fV fC A) [⟨a, fC.slot⟩, ⟨a, fV.slot⟩] 1 A.slots.size := by
  refine Law.of_walk (plainFor_of_name (by decide +kernel)) (by decide +kernel) (by decide +kernel) (by decide) (fun _ _ h => by rw [h.1]; rfl) (fun _ U U' hal hh h => ⟨h.1, h.2.1.mv hal hh, h.2.2.1.al hal, h.2.2.2.1.al hal, h.2.2.2.2.1.mv hal hh, h.2.2.2.2.2.1.there hal hh, h.2.2.2.2.2.2⟩) (fun r U U' V V' h1 hal h2 h => Got.mv r U U' V V' h1 hal h2 h) ?_
  intro p e s m args below meth c s₁ X0 hexec hbytes hml hret hlk hnm hown hh0 W hP
  obtain ⟨rfl, hB, f1, f2, hA, s1, hz, l0, l2, hp⟩ := hP
  have c1 : Steps p.tables e below (s₁.setTop (entryFrame m #[.ref a, .ref b] 2)) (s₁.setTop (mkF m 0 #[.val (.ref a), .val (.ref b)] [])) := entry rfl
  have c2 : Steps p.tables e below (s₁.setTop (entryFrame m #[.ref a, .ref b] 2)) (s₁.setTop (mkF m 6 #[.val (.ref a), .val (.ref b)] [.null, .int (Int32.ofNat A.slots.size), .int 0, .ref b, .ref a])) := c1.trans (by
    refine XS.aloadN X0.here hexec rfl (hb hbytes d0) rfl rfl ?_
    refine XS.aloadN X0.here hexec rfl (hb hbytes d1) rfl rfl ?_
    refine iconstV X0.here hexec rfl 0 (hb hbytes d2) (by decide) ?_
    refine XS.aloadN X0.here hexec rfl (hb hbytes d3) rfl rfl ?_
    refine X0.alen hexec (hA.1.mv X0.warmed.alike hh0) rfl rfl (hb hbytes d4) ?_
    refine XS.aconstNull X0.here hexec rfl (hb hbytes d5) ?_
    exact Steps.refl _)
  obtain ⟨v3, T3, X3, E3, g3⟩ := X0.callN hexec (New4.law l a D fV fC b A z 0 A.slots.size) rfl hown (wks W (initW "java/lang/String" 27 New4.yN)) (W New4.tab (by simp only [site, List.mem_cons, List.mem_append, true_or, or_true])) (W := 0) (Nat.le_of_ble_eq_true rfl) (Nat.le_of_ble_eq_true rfl) (Nat.le_refl _) (by show 0 + A.slots.size ≤ A.slots.size; omega) (g := (mkF m 6 #[.val (.ref a), .val (.ref b)] [.null, .int (Int32.ofNat A.slots.size), .int (Int32.ofNat 0), .ref b, .ref a])) rfl (by rw [hml]; rfl) c2 (argsL := [.ref b, .int (Int32.ofNat 0), .int (Int32.ofNat A.slots.size), .null]) (rest := []) rfl rfl (by show 2 * 0 + 0 ≤ _; decide) (hb hbytes d6) (⟨rfl, hB.mv X0.warmed.alike hh0, f1.al X0.warmed.alike, f2.al X0.warmed.alike, hA.mv X0.warmed.alike hh0, s1.there X0.warmed.alike hh0, hz, l0, by omega, l2, fun i hi => by rw [Nat.zero_add]; exact hp i hi⟩)
  have e0 := Got.mv _ s₁ s _ _ hh0.symm (Vm.Alike.refl _) rfl E3
  obtain rfl := e0.1
  have c4 : Steps p.tables e below (s₁.setTop (entryFrame m #[.ref a, .ref b] 2)) (T3.setTop (mkF m 9 #[.val (.ref a), .val (.ref b)] [])) := g3
  exact ⟨T3, none, _, _, _, X3, by simp, rfl, by omega, (fun _ => rfl), e0, fun fs hl => c4.trans (X3.returnOut hexec hret (hb hbytes d9) hl)⟩
theorem pays {l : Launch} {R : Room} {p : Program} {e : Env} {below : List Frame} {s : State} {sargs : Array Value} {len W : Nat} (a : Addr) (D : Cell) (fV fC : Field) (b : Addr) (A : Cell) (z : Int32) (htab : tab.before sargs s = true) (hfr : 4 ≤ R.frames) (hlo : W + 65 ≤ R.locals) :
    Back l R p e below s sargs yN len W (fun A₁ a₁ => A₁.cells + 1 ≤ R.cells ∧ A₁.slots + A.slots.size ≤ R.slots ∧ P a D fV fC b A z a₁ A₁.U) (fun A₁ _ v₁ B₁ => E a D fV fC A v₁ A₁.U B₁.U ∧ B₁.locs = A₁.locs ++ [⟨a, fC.slot⟩, ⟨a, fV.slot⟩] ∧ B₁.cells = A₁.cells + 1 ∧ B₁.slots = A₁.slots + A.slots.size) :=
  (law l a D fV fC b A z).pays htab hfr (by omega)
end New1
/-- the byte, read back as charAt reads it, is the char -/
theorem lo8_mask {x : Int32} (h0 : ¬ x < 0) (h1 : ¬ 255 < x) : lo8 x &&& 255 = x := by
  have t : ∀ k : Fin 256, lo8 (Int32.ofNat k.val) &&& 255 = Int32.ofNat k.val := by decide +kernel
  rw [Int32.lt_iff_toInt_lt] at h0 h1
  have e0 : (0 : Int32).toInt = 0 := rfl
  have e1 : (255 : Int32).toInt = 255 := rfl
  obtain ⟨k, hk⟩ : ∃ k : Nat, x.toInt = k := ⟨x.toInt.toNat, by omega⟩
  have hx : x = Int32.ofNat k := Int32.toInt_inj.mp (by rw [hk, Int32.toInt_ofNat_small (by omega)])
  rw [hx]
  exact t ⟨k, by omega⟩
end StrChars
namespace StrChars.Road
open Jvm Sem ClassFile Op Lib Jvm.Stand Jvm.Free Jvm.Free.XT
open Jvm.Lib.Cold (StaticIs)
abbrev ST : String := "java/lang/String"
/-- every table word that New1's law asks, flat -/
abbrev words : List Jvm.Cond := [.code New1.yN New1.yB 2 none, .initialized ST, .methodLink ST 27 New4.yN, .instanceMethod New4.yN,
  .code New4.yN New4.yB 6 none, .fieldLink ST 38 ST "COMPACT_STRINGS" "Z", .laysFinal ST ST "value" "[B", .fieldLink ST 9 ST "value" "[B", .laysFinal ST ST "coder" "B", .fieldLink ST 15 ST "coder" "B",
  .methodLink ST 1 Lib.objectInit, .instanceMethod Lib.objectInit, .code Lib.objectInit ⟨#[0xb1]⟩ 1 none, .methodLink ST 177 Cmp3.yN, .static Cmp3.yN, .methodLink ST 47 CodL.yN, .static CodL.yN,
  .code Cmp3.yN Cmp3.yB 6 (some (.array .byte)), .initialized U16, .arrayClass .byte, .methodLink U16 115 Cmp5.yN, .static Cmp5.yN, .code Cmp5.yN Cmp5.yB 7 (some .int), .code CodL.yN CodL.yB 2 (some .byte)]
theorem tab_of {a : Array Value} {s : State} (h : ∀ w ∈ words, w.before a s = true) : New1.tab.before a s = true := by
  have h5 : Cmp5.tab.before a s = true := unparts (wk h (.code Cmp5.yN Cmp5.yB 7 (some .int))) (wks h (.initialized Cmp5.yN.cls :: Cmp5.site))
  have hc : CodL.tab.before a s = true := unparts (wk h (.code CodL.yN CodL.yB 2 (some .byte))) (wks h (.initialized CodL.yN.cls :: CodL.site))
  have q5 : ∀ w ∈ Cmp5.tab :: words, w.before a s = true := fun w hw => (List.mem_cons.mp hw).elim (fun e => e ▸ h5) (h w)
  have h3 : Cmp3.tab.before a s = true := unparts (wk q5 (.code Cmp3.yN Cmp3.yB 6 (some (.array .byte)))) (wks q5 (.initialized Cmp3.yN.cls :: Cmp3.site))
  have q3 : ∀ w ∈ Cmp3.tab :: CodL.tab :: words, w.before a s = true := fun w hw => (List.mem_cons.mp hw).elim (fun e => e ▸ h3) fun hw => (List.mem_cons.mp hw).elim (fun e => e ▸ hc) (h w)
  have h4 : New4.tab.before a s = true := unparts (wk q3 (.code New4.yN New4.yB 6 none)) (wks q3 (.initialized New4.yN.cls :: New4.site))
  have q4 : ∀ w ∈ New4.tab :: words, w.before a s = true := fun w hw => (List.mem_cons.mp hw).elim (fun e => e ▸ h4) (h w)
  exact unparts (wk q4 (.code New1.yN New1.yB 2 none)) (wks q4 (.initialized New1.yN.cls :: New1.site))
/-- the words ride from the start Z to the walk's own state -/
theorem moved {Z s : State} {a0 args : Array Value} (hZ : Z.Warmed39 s.vm) (hw : ∀ d ∈ words, d.before a0 Z = true) : ∀ d ∈ words, d.before args s = true := fun d hd => by
  have q := hw d hd
  have t : ∀ d ∈ words, d = .arrayClass .byte ∨ (d.onTables && d.keepsFace) = true := by decide +kernel
  rcases t d hd with rfl | t
  · exact RoadKit.mvA hZ q
  · exact RoadKit.mv hZ q t
/-- WHAT COMES BACK, over the tables of the start Z: h the heap at the call, h' behind it -/
def Q (Z : State) (x : Addr) (A : Cell) (h : Heap) (v : Option Value) (h' : Heap) (L : List Loc) : Prop := v = none ∧ (∀ y ∈ L, y.base = x) ∧ RoadKit.Keep h h' [x] ∧ h'.size = h.size + 1 ∧ RoadKit.Exa Z h' x ST ∧ RoadKit.Fld Z h' x ST "value" "[B" (.ref h.size) ∧ RoadKit.Fld Z h' x ST "coder" "B" (.int 0) ∧
  (∃ V : Cell, RoadKit.Arr Z h' h.size V .byte ∧ V.vm = .none ∧ Z.vm.findClass "[B" = some V.cls ∧ V.slots.size = A.slots.size ∧ ∀ j, j < A.slots.size → V.slots[j]? = some (.int (lo8 (cv A j)))) ∧
  ∀ (O n d : String) (w : Value), RoadKit.Fld Z h x O n d w → RoadKit.slotOf Z O n d ≠ RoadKit.slotOf Z ST "value" "[B" → RoadKit.slotOf Z O n d ≠ RoadKit.slotOf Z ST "coder" "B" → RoadKit.Fld Z h' x O n d w
/-- **new String(chars) AT A CALL, IN THE ROAD'S FORM**: for specialBack behind newO: x the fresh String, b the char[] with the cell A -/
theorem back {p : Program} {l : Launch} {e : Env} {R : Room} {s : State} {args : Array Value} {below : List Frame} {len W : Nat} {Z : State} {a0 : Array Value} {h : Heap} (hZ : Z.Warmed39 s.vm) (hw : ∀ d ∈ words, d.before a0 Z = true) {kI : Nat} (wi : (Jvm.Cond.instantiable ST kI).before a0 Z = true)
    {x b : Addr} {A : Cell} {z : Int32} {v0 c0 : Value} (E : RoadKit.Exa Z h x ST) (V : RoadKit.Fld Z h x ST "value" "[B" v0) (C : RoadKit.Fld Z h x ST "coder" "B" c0) (K : RoadKit.Arr Z h b A .char) (hty : Typed .char A) (S : RoadKit.Sta Z h ST "COMPACT_STRINGS" "Z" (.int z)) (hz : ¬ z = 0)
    (l0 : 0 < A.slots.size) (l2 : A.slots.size ≤ 536870912) (hp : ∀ i, i < A.slots.size → ¬ 255 < cv A i) (hfr : 4 ≤ R.frames) (hlo : W + 65 ≤ R.locals) :
    Back l R p e below s args New1.yN len W (fun P a => a = #[.ref x, .ref b] ∧ P.U.heap = h ∧ P.cells + 1 ≤ R.cells ∧ P.slots + A.slots.size ≤ R.slots)
      (fun P _ v B => ∃ L, Q Z x A h v B.U.heap L ∧ B.locs = P.locs ++ L ∧ B.cells = P.cells + 1 ∧ B.slots = P.slots + A.slots.size) := by
  intro m meth c P g ig mk a X hg hsize hdg hW hn hp'
  obtain ⟨rfl, rfl, r1, r2⟩ := hp'
  have al : Z.vm.Alike P.U.vm := hZ.alike.trans X.warmed.alike
  obtain ⟨D, cfV, kV, iV, fV, hD, gV, stV, knV, obV, asV, slV⟩ := id V
  obtain ⟨D', cfC, kC, iC, fC, hD', gC, stC, -, -, asC, slC⟩ := id C
  cases hD.symm.trans hD'
  obtain ⟨D2, kD, e1, e2, e3, e4, e5⟩ := id E
  cases hD.symm.trans e1
  obtain ⟨c2, k2, i1, i2, i3, -⟩ := Cond.instantiable_spec wi
  cases e2.symm.trans i1
  cases e3.symm.trans i2
  obtain ⟨kU, u1, u2⟩ := al.2.2 _ _ e3
  have hB : Blank ST x D P.U := ⟨hD, ⟨knV, fun q hq => by rw [hq] at obV; cases obV⟩, by rw [al.findClass]; exact e2, kU, u1, by rw [u2]; exact i3, by rw [u2]; exact e5 i3⟩
  have F1 : Found ST "value" "[B" fV P.U := ⟨SBG.found_only al ⟨cfV, kV, iV, gV⟩, stV⟩
  have F2 : Found ST "coder" "B" fC P.U := ⟨SBG.found_only al ⟨cfC, kC, iC, gC⟩, stC⟩
  have hA : Ch b A P.U := ⟨⟨K.1, State.isArrayOf_alike al K.2.1, K.2.2, by omega⟩, hty⟩
  have hS : StaticIs P.U ST "COMPACT_STRINGS" "Z" (.int z) := by
    obtain ⟨cfS, iS, kS, fS, st, cS, t1, t2, t3, t4, t5, t6, t7⟩ := S
    exact StaticIs.there (s := { Z with heap := P.U.heap }) ⟨cfS, iS, kS, fS, st, cS, t1, t2, t3, t4, t5, (fun q => by rw [q] at t6; cases t6), t7⟩ al rfl
  obtain ⟨v, B, X', ⟨⟨hv, E', V', q1, q2, q3, q4, q5, q6, q7, q8, q9, q10, q11⟩, hl, hc, hs⟩, st⟩ := New1.pays x D fV fC b A z (tab_of (moved hZ hw)) hfr hlo m meth c P g ig mk _ X hg hsize hdg hW hn ⟨r1, r2, rfl, hB, F1, F2, hA, hS, hz, l0, l2, hp⟩
  have al' : Z.vm.Alike B.U.vm := hZ.alike.trans X'.warmed.alike
  have hsz : E'.slots.size = D.slots.size := by
    obtain ⟨-, -, -, kB, w1, w2, w3⟩ := q1
    obtain ⟨kB', y1, y2⟩ := al'.2.2 _ _ e3
    rw [q2.2.1] at w1
    cases w1.symm.trans y1
    rw [w3, e5 i3, y2]
  refine ⟨v, B, X', ⟨_, ⟨hv, ?_, ⟨by omega, fun y cy hy hn' => q10 y cy (by simpa using hn') hy, fun y cy hy => ?_⟩, q11, ⟨E', _, q1.1, by rw [q2.2.1]; exact e2, by rw [q2.2.1]; exact e3, by rw [q2.1]; exact obV, fun _ => by rw [hsz]; exact e5 i3⟩,
    ⟨E', cfV, kV, iV, fV, q1.1, gV, stV, by rw [q2.1]; exact knV, by rw [q2.1]; exact obV, by rw [q2.2.1]; exact asV, q3⟩, ⟨E', cfC, kC, iC, fC, q1.1, gC, stC, by rw [q2.1]; exact knV, by rw [q2.1]; exact obV, by rw [q2.2.1]; exact asC, q4⟩,
    ⟨V', ⟨q5.1, State.isArrayOf_alike al'.symm q5.2.1, q5.2.2.1⟩, q6, by rw [← al'.findClass]; exact q7, q8, fun j hj => by have := q9 j hj; rwa [Nat.zero_add] at this⟩, fun O n d w F n1 n2 => ?_⟩, hl, hc, hs⟩, st⟩
  · intro y hy
    simp only [List.mem_cons, List.not_mem_nil, or_false] at hy
    rcases hy with rfl | rfl <;> rfl
  · by_cases q : y = x
    · subst q
      cases hD.symm.trans hy
      exact ⟨E', q1.1, q2.2.1, q2.1, hsz⟩
    · exact ⟨cy, q10 y cy q hy, rfl, rfl, rfl⟩
  · obtain ⟨D3, cf, k, i, f, g1, g2, g3, g4, g5, g6, g7⟩ := F
    cases hD.symm.trans g1
    simp only [RoadKit.slotOf, g2, gV, gC, Option.map_some, Option.getD_some] at n1 n2
    exact ⟨E', cf, k, i, f, q1.1, g2, g3, by rw [q2.1]; exact g4, by rw [q2.1]; exact g5, by rw [q2.2.1]; exact g6, by rw [q2.2.2 f.slot (by simp [n1, n2])]; exact g7⟩
end StrChars.Road
namespace StrChars.Road
open Jvm Sem ClassFile Op Lib Jvm.Stand Jvm.Free Jvm.Free.XT
/-- WHAT COMES BACK, the byte[] as a list of values -/
def QA (Z : State) (x : Addr) (zn : Int32) (cs : List Int32) (h : Heap) (v : Option Value) (h' : Heap) (L : List Loc) : Prop := v = none ∧ (∀ y ∈ L, y.base = x) ∧ RoadKit.Keep h h' [x] ∧ h'.size = h.size + 1 ∧ RoadKit.Exa Z h' x ST ∧ RoadKit.Fld Z h' x ST "value" "[B" (.ref h.size) ∧ RoadKit.Fld Z h' x ST "coder" "B" (.int 0) ∧
  (∃ kb, Z.vm.findClass "[B" = some kb ∧ RoadKit.Arv Z h' h.size kb .byte zn (cs.map fun c => .int (lo8 c)) (.int 0)) ∧
  ∀ (O n d : String) (w : Value), RoadKit.Fld Z h x O n d w → RoadKit.slotOf Z O n d ≠ RoadKit.slotOf Z ST "value" "[B" → RoadKit.slotOf Z O n d ≠ RoadKit.slotOf Z ST "coder" "B" → RoadKit.Fld Z h' x O n d w
/-- **new String(chars) AT A CALL, THE ARRAYS AS LISTS**: the char[] at b holds cs, not empty, no char above 255 -/
theorem backArv {p : Program} {l : Launch} {e : Env} {R : Room} {s : State} {args : Array Value} {below : List Frame} {len W : Nat} {Z : State} {a0 : Array Value} {h : Heap} (hZ : Z.Warmed39 s.vm) (hw : ∀ d ∈ words, d.before a0 Z = true) {kI : Nat} (wi : (Jvm.Cond.instantiable ST kI).before a0 Z = true)
    {x b : Addr} {k : ClassId} {zn z : Int32} {cs : List Int32} {dv v0 c0 : Value} (E : RoadKit.Exa Z h x ST) (V : RoadKit.Fld Z h x ST "value" "[B" v0) (C : RoadKit.Fld Z h x ST "coder" "B" c0) (K : RoadKit.Arv Z h b k .char zn (cs.map Value.int) dv) (S : RoadKit.Sta Z h ST "COMPACT_STRINGS" "Z" (.int z)) (hz : ¬ z = 0)
    (hlen : zn.toNatClampNeg = cs.length) (h0 : 0 < cs.length) (hbig : cs.length ≤ 536870912) (hall : ∀ c ∈ cs, ¬ 255 < c) (hfr : 4 ≤ R.frames) (hlo : W + 65 ≤ R.locals) :
    Back l R p e below s args New1.yN len W (fun P a => a = #[.ref x, .ref b] ∧ P.U.heap = h ∧ P.cells + 1 ≤ R.cells ∧ P.slots + cs.length ≤ R.slots)
      (fun P _ v B => ∃ L, QA Z x zn cs h v B.U.heap L ∧ B.locs = P.locs ++ L ∧ B.cells = P.cells + 1 ∧ B.slots = P.slots + cs.length) := by
  obtain ⟨A, K1, K2, K3, K4, K5, K6⟩ := K
  have e : A.slots.size = cs.length := K3.trans hlen
  have hat : ∀ (i : Nat) (hi : i < cs.length), A.slots[i]? = some (.int cs[i]) := fun i hi => by rw [K5 i (by omega)]; simp [List.getD_eq_getElem?_getD, hi]
  have hcv : ∀ (i : Nat) (hi : i < cs.length), cv A i = cs[i] := fun i hi => by unfold cv; rw [hat i hi]
  have hty : Typed .char A := fun i v hv => by
    have hi : i < A.slots.size := (Array.getElem?_eq_some_iff.mp hv).1
    have q := K5 i hi
    rw [hv] at q
    rw [Option.some.inj q]
    exact K6 i hi
  refine Back.mono (back hZ hw wi E V C K1 hty S hz (by omega) (by omega) (fun i hi => by rw [hcv i (by omega)]; exact hall _ (List.getElem_mem _)) hfr hlo) (fun P a hp => ⟨hp.1, hp.2.1, hp.2.2.1, by rw [e]; exact hp.2.2.2⟩) (fun P a v B hp hq => ?_)
  obtain ⟨L, ⟨q1, q2, q3, q4, q5, q6, q7, ⟨V', v1, v2, v3, v4, v5⟩, q9⟩, hl, hc, hs⟩ := hq
  refine ⟨L, ⟨q1, q2, q3, q4, q5, q6, q7, ⟨V'.cls, v3, V', v1, rfl, by rw [v4, e, hlen], K4, fun i hi => ?_, fun i hi => ?_⟩, q9⟩, hl, hc, by rw [hs, e]⟩
  · have hi' : i < cs.length := by omega
    rw [v5 i (by omega), hcv i hi']; simp [List.getD_eq_getElem?_getD, hi']
  · have hi' : i < cs.length := by omega
    simp only [List.getD_eq_getElem?_getD, List.getElem?_map, List.getElem?_eq_getElem hi', Option.map_some, Option.getD_some]
    exact fits_lo8 _
end StrChars.Road
namespace StrChars.Road
open Jvm Sem ClassFile Op Lib Jvm.Stand Jvm.Free Jvm.Free.XT
/-- WHAT COMES BACK, in the writer's own shape -/
def QV (Z : State) (x : Addr) (N : Int32) (bs : List Int32) (h : Heap) (n0 : Nat) (v : Option Value) (h' : Heap) (L : List Loc) : Prop := v = none ∧ RoadKit.Fr n0 L ∧ RoadKit.Keep h h' [x] ∧ RoadKit.Exa Z h' x ST ∧ RoadKit.Fld Z h' x ST "coder" "B" (.int 0) ∧
  ∃ (t : Addr) (kb : ClassId), n0 ≤ t ∧ h.size ≤ t ∧ ¬ t = x ∧ RoadKit.Fld Z h' x ST "value" "[B" (.ref t) ∧ RoadKit.Arv Z h' t kb .byte N (bs.map Value.int) (.int 0)
/-- **new String(chars) AT A CALL, FOR THE WRITER**: a char[] of n known ints, each 0 to 255 -/
theorem backV {p : Program} {l : Launch} {e : Env} {R : Room} {s : State} {args : Array Value} {below : List Frame} {len W : Nat} {Z : State} {a0 : Array Value} {h : Heap} (hZ : Z.Warmed39 s.vm) (hw : ∀ d ∈ words, d.before a0 Z = true) {kI : Nat} (wi : (Jvm.Cond.instantiable ST kI).before a0 Z = true)
    {x b : Addr} {kC : ClassId} {cs bs : List Int32} {d v0 c0 : Value} {z N : Int32} {n n0 : Nat} (hx0 : n0 ≤ x) (hh0 : n0 ≤ h.size) (E : RoadKit.Exa Z h x ST) (V : RoadKit.Fld Z h x ST "value" "[B" v0) (C : RoadKit.Fld Z h x ST "coder" "B" c0) (K : RoadKit.Arv Z h b kC .char N (cs.map Value.int) d) (S : RoadKit.Sta Z h ST "COMPACT_STRINGS" "Z" (.int z)) (hz : ¬ z = 0)
    (hn : cs.length = n) (hN : N = Int32.ofNat n) (l0 : 0 < n) (l2 : n ≤ 4000) (hp : ∀ c ∈ cs, ¬ c < 0 ∧ ¬ (255 : Int32) < c) (hb : bs = cs.map (fun c => c.toInt8.toInt32)) (hfr : 4 ≤ R.frames) (hlo : W + 65 ≤ R.locals) :
    Back l R p e below s args (⟨"java/lang/String", "<init>", "([C)V"⟩ : MethodName) len W (fun P a => a = #[.ref x, .ref b] ∧ P.U.heap = h ∧ P.cells + 1 ≤ R.cells ∧ P.slots + n ≤ R.slots)
      (fun P _ v B => ∃ L, QV Z x N bs h n0 v B.U.heap L ∧ B.locs = P.locs ++ L ∧ B.cells = P.cells + 1 ∧ B.slots = P.slots + n) := by
  subst hn hN hb
  refine Back.mono (backArv hZ hw wi E V C K S hz (n32 (by omega)) l0 (by omega) (fun c hc => (hp c hc).2) hfr hlo) (fun P a hp => hp) (fun P a v B hp hq => ?_)
  obtain ⟨L, ⟨q1, q2, q3, q4, q5, q6, q7, ⟨kb, v1, v2⟩, q9⟩, hl, hc, hs⟩ := hq
  exact ⟨L, ⟨q1, fun y hy => by rw [q2 y hy]; exact hx0, q3, q5, q7, h.size, kb, hh0, Nat.le_refl _, Nat.ne_of_gt E.lt, q6, by rw [List.map_map]; exact v2⟩, hl, hc, hs⟩
end StrChars.Road
namespace StrChars
open Jvm Sem ClassFile Op Lib Jvm.Stand Jvm.Free.XT Jvm.Free.ALB Jvm.Free.JM Jvm.Free
open Jvm.Lib.Cold (StaticIs)
def hi8 (x : Int32) : Int32 := lo8 (x >>> ((8 : Int32) &&& 31))
/-- what StringUTF16.getChar makes of two bytes -/
def pairCh (u v : Int32) : Int32 := (((u &&& 255) <<< ((0 : Int32) &&& 31)) ||| ((v &&& 255) <<< ((8 : Int32) &&& 31))).toUInt32.toUInt16.toUInt32.toInt32
theorem lo8_and (x : Int32) : (lo8 x &&& 255).toBitVec.toNat = x.toBitVec.toNat % 256 := by
  have h : (lo8 x).toBitVec = (x.toBitVec.signExtend 8).signExtend 32 := by rw [lo8, Int8.toBitVec_toInt32, Int32.toBitVec_toInt8]
  rw [Int32.toBitVec_and, BitVec.toNat_and, h]
  have e : ((x.toBitVec.signExtend 8).signExtend 32).toNat % 256 = x.toBitVec.toNat % 256 := by
    rw [BitVec.toNat_signExtend]
    have hlt := x.toBitVec.isLt
    simp only [BitVec.toNat_setWidth, BitVec.toNat_signExtend]
    split <;> split <;> omega
  rw [← e]
  exact Nat.and_two_pow_sub_one_eq_mod _ 8
theorem pair_says {c : Int32} (h0 : ¬ c < 0) (h1 : ¬ 65535 < c) : pairCh (lo8 c) (hi8 c) = c := by
  rw [Int32.lt_iff_toInt_lt] at h0 h1
  have e0 : (0 : Int32).toInt = 0 := rfl
  have e1 : (65535 : Int32).toInt = 65535 := rfl
  have hc : c.toInt = c.toBitVec.toNat := by
    have := c.toBitVec.isLt
    have e : c.toInt = c.toBitVec.toInt := rfl
    rw [e] at h0 h1
    rw [e]
    rw [BitVec.toInt_eq_toNat_cond] at h0 h1 ⊢
    split at h0 <;> split <;> omega
  have hn : c.toBitVec.toNat < 65536 := by omega
  have a1 := lo8_and c
  have a2 : (hi8 c &&& 255).toBitVec.toNat = c.toBitVec.toNat / 256 := by
    rw [hi8, lo8_and]
    have e : ((8 : Int32) &&& 31) = 8 := by decide
    rw [e, Int32.toBitVec_shiftRight]
    have e2 : ((8 : Int32).toBitVec.smod 32) = 8#32 := by decide
    rw [e2, BitVec.sshiftRight_eq', BitVec.toNat_sshiftRight_of_msb_false (by rw [BitVec.msb_eq_false_iff_two_mul_lt]; omega)]
    show c.toBitVec.toNat >>> 8 % 256 = _
    rw [Nat.shiftRight_eq_div_pow]
    omega
  unfold pairCh
  apply Int32.toBitVec_inj.mp
  apply BitVec.eq_of_toNat_eq
  have f0 : ((0 : Int32) &&& 31) = 0 := by decide
  have f8 : ((8 : Int32) &&& 31) = 8 := by decide
  rw [f0, f8]
  have g : (((lo8 c &&& 255) <<< (0 : Int32)) ||| ((hi8 c &&& 255) <<< (8 : Int32))).toBitVec.toNat = c.toBitVec.toNat := by
    rw [Int32.toBitVec_or, Int32.toBitVec_shiftLeft, Int32.toBitVec_shiftLeft]
    have s0 : ((0 : Int32).toBitVec.smod 32) = 0#32 := by decide
    have s8 : ((8 : Int32).toBitVec.smod 32) = 8#32 := by decide
    rw [s0, s8, BitVec.toNat_or]
    simp only [BitVec.shiftLeft_eq', BitVec.toNat_shiftLeft, a1, a2]
    show (c.toBitVec.toNat % 256) <<< 0 % 2 ^ 32 ||| (c.toBitVec.toNat / 256) <<< 8 % 2 ^ 32 = _
    rw [Nat.shiftLeft_zero, Nat.mod_eq_of_lt (show c.toBitVec.toNat % 256 < 2 ^ 32 by omega), Nat.mod_eq_of_lt (show (c.toBitVec.toNat / 256) <<< 8 < 2 ^ 32 by rw [Nat.shiftLeft_eq]; omega), Nat.or_comm, ← Nat.shiftLeft_add_eq_or_of_lt (by omega), Nat.shiftLeft_eq]
    omega
  show BitVec.toNat (((((lo8 c &&& 255) <<< (0 : Int32)) ||| ((hi8 c &&& 255) <<< (8 : Int32))).toBitVec.setWidth 16).setWidth 32) = _
  rw [BitVec.toNat_setWidth, BitVec.toNat_setWidth, g]
  omega
end StrChars
namespace StrChars
open Jvm Sem ClassFile Op Lib Jvm.Stand Jvm.Free.XT Jvm.Free.ALB Jvm.Free.JM Jvm.Free
open Jvm.Lib.Cold (StaticIs)
/-- charAt's cast of a byte read back -/
def chr8 (u : Int32) : Int32 := (u &&& 255).toUInt32.toUInt16.toUInt32.toInt32
theorem chr8_lo8 {c : Int32} (h0 : ¬ c < 0) (h1 : ¬ 255 < c) : chr8 (lo8 c) = c := by
  have t : ∀ k : Fin 256, (Int32.ofNat k.val).toUInt32.toUInt16.toUInt32.toInt32 = Int32.ofNat k.val := by decide +kernel
  unfold chr8
  rw [lo8_mask h0 h1]
  rw [Int32.lt_iff_toInt_lt] at h0 h1
  have e0 : (0 : Int32).toInt = 0 := rfl
  have e1 : (255 : Int32).toInt = 255 := rfl
  obtain ⟨k, hk⟩ : ∃ k : Nat, c.toInt = k := ⟨c.toInt.toNat, by omega⟩
  have hx : c = Int32.ofNat k := Int32.toInt_inj.mp (by rw [hk, Int32.toInt_ofNat_small (by omega)])
  rw [hx]
  exact t ⟨k, by omega⟩
theorem narrow_ch {c : Int32} (h0 : ¬ c < 0) (h1 : ¬ 65535 < c) : narrow .char (.int c) = .int c := by
  have q : narrow .char (.int (pairCh (lo8 c) (hi8 c))) = .int (pairCh (lo8 c) (hi8 c)) := narrow_c _
  rwa [pair_says h0 h1] at q
/-- the array's cell V codes the n chars f 0 .. f (n - 1) by the coder cd, as the JDK does: coder 1 just where some char is above 255 -/
def Cod (cd : Int32) (n : Nat) (f : Nat → Int32) (V : Cell) : Prop := (cd = 0 ∧ V.slots.size = n ∧ ∀ j, j < n → V.slots[j]? = some (.int (lo8 (f j))) ∧ ¬ 255 < f j) ∨ (cd = 1 ∧ V.slots.size = 2 * n ∧ (∀ j, j < n → V.slots[2 * j]? = some (.int (lo8 (f j))) ∧ V.slots[2 * j + 1]? = some (.int (hi8 (f j)))) ∧ ∃ j, j < n ∧ 255 < f j)
theorem Cod.cd {cd : Int32} {n : Nat} {f : Nat → Int32} {V : Cell} (h : Cod cd n f V) : cd = 0 ∨ cd = 1 := h.imp (fun q => q.1) fun q => q.1
/-- **x is a String of the n chars f 0 .. f (n - 1)**, Latin-1 or UTF-16; its array at t has the cell V -/
def Txt (x t : Addr) (V : Cell) (cd : Int32) (n : Nat) (f : Nat → Int32) (U : State) : Prop := Exact "java/lang/String" x U ∧ Has x "java/lang/String" "value" "[B" (.ref t) U ∧ Has x "java/lang/String" "coder" "B" (.int cd) U ∧ XT.Arr .byte t V U ∧ Cod cd n f V ∧ ∀ j, j < n → ¬ f j < 0 ∧ ¬ 65535 < f j
theorem Txt.mv {x t : Addr} {V : Cell} {cd : Int32} {n : Nat} {f : Nat → Int32} {U U' : State} (h : Txt x t V cd n f U) (hal : U.vm.Alike U'.vm) (hh : U'.heap = U.heap) : Txt x t V cd n f U' := ⟨h.1.mv hal hh, h.2.1.mv hal hh, h.2.2.1.mv hal hh, h.2.2.2.1.mv hal hh, h.2.2.2.2⟩
namespace IsL
def yN : MethodName := ⟨"java/lang/String", "isLatin1", "()Z"⟩
abbrev yB : ByteArray := jdk_42_method_154_code
theorem d0 : decode yB 0 = .ok (.getstatic 38, 3) := by decide +kernel
theorem d3 : decode yB 3 = .ok (.ifCond (.eq) 14, 3) := by decide +kernel
theorem d6 : decode yB 6 = .ok (.aload_n 0, 1) := by decide +kernel
theorem d7 : decode yB 7 = .ok (.getfield 15, 3) := by decide +kernel
theorem d10 : decode yB 10 = .ok (.ifCond (.ne) 7, 3) := by decide +kernel
theorem d13 : decode yB 13 = .ok (.iconst 1, 1) := by decide +kernel
theorem d14 : decode yB 14 = .ok (.goto 4, 3) := by decide +kernel
theorem d17 : decode yB 17 = .ok (.iconst 0, 1) := by decide +kernel
theorem d18 : decode yB 18 = .ok (.ireturn, 1) := by decide +kernel
def site : List Cond := [.fieldLink "java/lang/String" 38 "java/lang/String" "COMPACT_STRINGS" "Z", .fieldLink "java/lang/String" 15 "java/lang/String" "coder" "B"]
def tab : Cond := tabOf yN yB 1 (some .boolean) site
def P (x : Addr) (cd z : Int32) (args : Array Value) (s : State) : Prop := args = #[.ref x] ∧ Has x "java/lang/String" "coder" "B" (.int cd) s ∧ (cd = 0 ∨ cd = 1) ∧ StaticIs s "java/lang/String" "COMPACT_STRINGS" "Z" (.int z) ∧ ¬ z = 0
def E (cd : Int32) (r : Option Value) (s u : State) : Prop := XT.PureE (some (.int (1 - cd))) r s u
theorem law (l : Launch) (x : Addr) (cd z : Int32) : Law l yN 1 0 0 0 yB 1 (some .boolean) site (P x cd z) (E cd) [] 0 0 := by
  refine Law.of_walk (plainFor_of_name (by decide +kernel)) (by decide +kernel) (by decide +kernel) (by decide) (fun _ _ h => by rw [h.1]; rfl) (fun _ U U' hal hh h => ⟨h.1, h.2.1.mv hal hh, h.2.2.1, h.2.2.2.1.there hal hh, h.2.2.2.2⟩) (fun r U U' V V' h1 hal h2 h => XT.PureE.mv r U U' V V' h1 hal h2 h) ?_
  intro p e s m args below meth c s₁ X0 hexec hbytes hml hret hlk hnm hown hh0 W hP
  obtain ⟨rfl, hx, hc, s1, hz⟩ := hP
  have c1 : Steps p.tables e below (s₁.setTop (entryFrame m #[.ref x] 1)) (s₁.setTop (mkF m 0 #[.val (.ref x)] [])) := entry rfl
  obtain ⟨T2, X2, q2, st2⟩ := X0.sget hexec hown (wk W (.fieldLink "java/lang/String" 38 "java/lang/String" "COMPACT_STRINGS" "Z")) s1 (fun _ _ h => by rw [hh0]; exact h) (g := (mkF m 0 #[.val (.ref x)] [])) rfl (hb hbytes d0)
  have hh2 := q2.trans hh0
  have c3 : Steps p.tables e below (s₁.setTop (entryFrame m #[.ref x] 1)) (T2.setTop (mkF m 7 #[.val (.ref x)] [.ref x])) := (c1.trans (st2 _ (Steps.refl _))).trans (by
    refine XS.ifNo X2.here hexec rfl (hb hbytes d3) rfl (i0_eq_f hz) ?_
    refine XS.aloadN X2.here hexec rfl (hb hbytes d6) rfl rfl ?_
    exact Steps.refl _)
  obtain ⟨T4, X4, q4, st4⟩ := X2.hget hexec hown (wk W (.fieldLink "java/lang/String" 15 "java/lang/String" "coder" "B")) (hx.mv X2.warmed.alike hh2) (g := (mkF m 7 #[.val (.ref x)] [.ref x])) rfl (rest := []) rfl (hb hbytes d7)
  have c5 : Steps p.tables e below (s₁.setTop (entryFrame m #[.ref x] 1)) (T4.setTop (mkF m 10 #[.val (.ref x)] [.int cd])) := c3.trans (st4 _ (Steps.refl _))
  have c6 : Steps p.tables e below (s₁.setTop (entryFrame m #[.ref x] 1)) (T4.setTop (mkF m 18 #[.val (.ref x)] [.int (1 - cd)])) := by
    rcases hc with rfl | rfl
    · exact c5.trans (by
        refine XS.ifNo X4.here hexec rfl (hb hbytes d10) rfl (i0_ne_f rfl) ?_
        refine iconstV X4.here hexec rfl 1 (hb hbytes d13) (by decide) ?_
        refine XS.goto X4.here hexec rfl (pc0 := 14) rfl (hb hbytes d14) (by decide) rfl ?_
        exact Steps.refl _)
    · exact c5.trans (by
        refine XS.ifYes X4.here hexec rfl (pc0 := 10) rfl (hb hbytes d10) rfl (i0_ne_t (by decide)) (by decide) rfl ?_
        refine iconstV X4.here hexec rfl 0 (hb hbytes d17) (by decide) ?_
        exact Steps.refl _)
  exact ⟨T4, some (.int (1 - cd)), _, _, _, X4, rfl, rfl, rfl, (fun h => by cases h), ⟨rfl, q4.trans hh2⟩, fun fs hl => c6.trans (X4.ireturnOut hexec hret (by rcases hc with rfl | rfl <;> rfl) (Or.inr (Or.inl rfl)) (hb hbytes d18) hl)⟩
end IsL
namespace LChA
def yN : MethodName := ⟨"java/lang/StringLatin1", "charAt", "([BI)C"⟩
abbrev yB : ByteArray := jdk_43_method_2_code
theorem d0 : decode yB 0 = .ok (.iload_n 1, 1) := by decide +kernel
theorem d1 : decode yB 1 = .ok (.aload_n 0, 1) := by decide +kernel
theorem d2 : decode yB 2 = .ok (.arraylength, 1) := by decide +kernel
theorem d3 : decode yB 3 = .ok (.invokestatic 9, 3) := by decide +kernel
theorem d6 : decode yB 6 = .ok (.aload_n 0, 1) := by decide +kernel
theorem d7 : decode yB 7 = .ok (.iload_n 1, 1) := by decide +kernel
theorem d8 : decode yB 8 = .ok (.baload, 1) := by decide +kernel
theorem d9 : decode yB 9 = .ok (.sipush 255, 3) := by decide +kernel
theorem d12 : decode yB 12 = .ok (.iand, 1) := by decide +kernel
theorem d13 : decode yB 13 = .ok (.i2c, 1) := by decide +kernel
theorem d14 : decode yB 14 = .ok (.ireturn, 1) := by decide +kernel
def site : List Cond := [JO.Str_checkIndex.tab] ++ staticW "java/lang/StringLatin1" 9 JO.Str_checkIndex.yN
def tab : Cond := tabOf yN yB 2 (some .char) site
def P (t : Addr) (V : Cell) (i : Nat) (u : Int32) (fm : Value) (args : Array Value) (s : State) : Prop := args = #[.ref t, .int (Int32.ofNat i)] ∧ XT.Arr .byte t V s ∧ V.slots[i]? = some (.int u) ∧ (StaticIs s "jdk/internal/util/Preconditions" "SIOOBE_FORMATTER" "Ljava/util/function/BiFunction;" fm ∧ fm.isRef = true)
def E (u : Int32) (r : Option Value) (s w : State) : Prop := XT.PureE (some (.int (chr8 u))) r s w
theorem law (l : Launch) (t : Addr) (V : Cell) (i : Nat) (u : Int32) (fm : Value) : Law l yN 2 2 2 27 yB 2 (some .char) site (P t V i u fm) (E u) [] 0 0 := by
  refine Law.of_walk (plainFor_of_name (by decide +kernel)) (by decide +kernel) (by decide +kernel) (by decide) (fun _ _ h => by rw [h.1]; rfl) (fun _ U U' hal hh h => ⟨h.1, h.2.1.mv hal hh, h.2.2.1, h.2.2.2.1.there hal hh, h.2.2.2.2⟩) (fun r U U' V V' h1 hal h2 h => XT.PureE.mv r U U' V V' h1 hal h2 h) ?_
  intro p e s m args below meth c s₁ X0 hexec hbytes hml hret hlk hnm hown hh0 W hP
  obtain ⟨rfl, hV, hu, s1, rf⟩ := hP
  have v31 := hV.2.2.2
  have hi : i < V.slots.size := (Array.getElem?_eq_some_iff.mp hu).1
  have c1 : Steps p.tables e below (s₁.setTop (entryFrame m #[.ref t, .int (Int32.ofNat i)] 2)) (s₁.setTop (mkF m 0 #[.val (.ref t), .val (.int (Int32.ofNat i))] [])) := entry rfl
  have c2 : Steps p.tables e below (s₁.setTop (entryFrame m #[.ref t, .int (Int32.ofNat i)] 2)) (s₁.setTop (mkF m 3 #[.val (.ref t), .val (.int (Int32.ofNat i))] [.int (Int32.ofNat V.slots.size), .int (Int32.ofNat i)])) := c1.trans (by
    refine XS.iloadN X0.here hexec rfl (hb hbytes d0) rfl ?_
    refine XS.aloadN X0.here hexec rfl (hb hbytes d1) rfl rfl ?_
    refine X0.alen hexec (hV.mv X0.warmed.alike hh0) rfl rfl (hb hbytes d2) ?_
    exact Steps.refl _)
  obtain ⟨v3, T3, X3, E3, g3⟩ := X0.callS hexec (JO.Str_checkIndex.law l (Int32.ofNat i) (Int32.ofNat V.slots.size) fm) hown (wks W (staticW "java/lang/StringLatin1" 9 JO.Str_checkIndex.yN)) (wk W JO.Str_checkIndex.tab) (W := 0) (Nat.le_of_ble_eq_true rfl) (Nat.le_of_ble_eq_true rfl) (Nat.le_refl _) (Nat.le_refl _) (g := (mkF m 3 #[.val (.ref t), .val (.int (Int32.ofNat i))] [.int (Int32.ofNat V.slots.size), .int (Int32.ofNat i)])) rfl (by rw [hml]; rfl) c2 (argsL := [.int (Int32.ofNat i), .int (Int32.ofNat V.slots.size)]) (rest := []) rfl rfl (by show 2 * 0 + 0 ≤ _; decide) (hb hbytes d3) (⟨rfl, rf, s1.there X0.warmed.alike hh0, Int32.ofNat_not_neg (by omega), lt32 v31 hi⟩)
  obtain ⟨rfl, q3⟩ := E3
  have hh3 := q3.trans hh0
  have c4 : Steps p.tables e below (s₁.setTop (entryFrame m #[.ref t, .int (Int32.ofNat i)] 2)) (T3.setTop (mkF m 14 #[.val (.ref t), .val (.int (Int32.ofNat i))] [.int (chr8 u)])) := Steps.trans g3 (by
    refine XS.aloadN X3.here hexec rfl (hb hbytes d6) rfl rfl ?_
    refine XS.iloadN X3.here hexec rfl (hb hbytes d7) rfl ?_
    refine X3.aget hexec (hV.mv X3.warmed.alike hh3) rfl hu rfl rfl (hb hbytes d8) ?_
    refine sipushV X3.here hexec rfl 255 (hb hbytes d9) (by decide) ?_
    refine XS.iand X3.here hexec rfl (hb hbytes d12) rfl ?_
    refine i2c X3.here hexec rfl (hb hbytes d13) rfl ?_
    exact Steps.refl _)
  exact ⟨T3, some (.int (chr8 u)), _, _, _, X3, rfl, rfl, rfl, (fun h => by cases h), ⟨rfl, hh3⟩, fun fs hl => c4.trans (X3.ireturnOut hexec hret (narrow_c _) (Or.inr (Or.inr (Or.inr (Or.inl rfl)))) (hb hbytes d14) hl)⟩
end LChA
end StrChars
namespace StrChars.Road
open Jvm Sem ClassFile Op Lib Jvm.Stand Jvm.Free Jvm.Free.XT
open Jvm.Lib.Cold (StaticIs)
theorem consq {a : Array Value} {s : State} {c : Jvm.Cond} {L : List Jvm.Cond} (h0 : c.before a s = true) (h : ∀ w ∈ L, w.before a s = true) : ∀ w ∈ c :: L, w.before a s = true := fun w hw => (List.mem_cons.mp hw).elim (fun e => e ▸ h0) (h w)
/-- the bytes of the chars cs, low before high -/
def wideBytes : List Int32 → List Value
  | [] => []
  | c :: cs => .int (lo8 c) :: .int (hi8 c) :: wideBytes cs
theorem wide_lo (d : Value) : ∀ (cs : List Int32) (j : Nat), j < cs.length → (wideBytes cs).getD (2 * j) d = .int (lo8 (cs.getD j 0))
  | [], j, h => absurd h (Nat.not_lt_zero j)
  | c :: cs, 0, _ => rfl
  | c :: cs, j + 1, h => by
    have q := wide_lo d cs j (by simpa using h)
    rw [show 2 * (j + 1) = 2 * j + 1 + 1 from by omega]
    simpa [wideBytes] using q
theorem wide_hi (d : Value) : ∀ (cs : List Int32) (j : Nat), j < cs.length → (wideBytes cs).getD (2 * j + 1) d = .int (hi8 (cs.getD j 0))
  | [], j, h => absurd h (Nat.not_lt_zero j)
  | c :: cs, 0, _ => rfl
  | c :: cs, j + 1, h => by
    have q := wide_hi d cs j (by simpa using h)
    rw [show 2 * (j + 1) + 1 = 2 * j + 1 + 1 + 1 from by omega]
    simpa [wideBytes] using q
theorem low_at (d : Value) (cs : List Int32) (j : Nat) (h : j < cs.length) : (cs.map fun c => Value.int (lo8 c)).getD j d = .int (lo8 (cs.getD j 0)) := by
  simp [List.getD_eq_getElem?_getD, h]
/-- an array of N2 bytes vs codes the chars cs by the coder cd -/
def CodA (cs : List Int32) (cd N2 : Int32) (vs : List Value) : Prop := (cd = 0 ∧ N2 = Int32.ofNat cs.length ∧ vs = (cs.map fun c => Value.int (lo8 c)) ∧ ∀ c ∈ cs, ¬ 255 < c) ∨ (cd = 1 ∧ N2 = Int32.ofNat (2 * cs.length) ∧ vs = wideBytes cs ∧ ∃ c ∈ cs, 255 < c)
theorem CodA.cod {cs : List Int32} {cd N2 : Int32} {vs : List Value} {V : Cell} (h : CodA cs cd N2 vs) (hn : 2 * cs.length < 2 ^ 31) (hs : V.slots.size = N2.toNatClampNeg) (hv : RoadKit.Has V vs (.int 0)) : Cod cd cs.length (fun j => cs.getD j 0) V := by
  rcases h with ⟨rfl, rfl, rfl, h⟩ | ⟨rfl, rfl, rfl, c, hc, hw⟩
  · rw [n32 (by omega)] at hs
    exact Or.inl ⟨rfl, hs, fun j hj => ⟨by rw [hv j (by omega), low_at _ _ _ hj], by
      have e : cs.getD j 0 = cs[j] := by simp [List.getD_eq_getElem?_getD, hj]
      show ¬ 255 < cs.getD j 0
      rw [e]; exact h _ (List.getElem_mem _)⟩⟩
  · rw [n32 (by omega)] at hs
    obtain ⟨j, hj, rfl⟩ := List.getElem_of_mem hc
    exact Or.inr ⟨rfl, hs, fun j hj => ⟨by rw [hv _ (by omega), wide_lo _ _ _ hj], by rw [hv _ (by omega), wide_hi _ _ _ hj]⟩, j, hj, by
      have e : cs.getD j 0 = cs[j] := by simp [List.getD_eq_getElem?_getD, hj]
      show 255 < cs.getD j 0
      rw [e]; exact hw⟩
/-- an object of exactly java/lang/String, its two fields found: as the laws ask it -/
theorem strObj {Z U : State} {a0 : Array Value} {kI : Nat} (wi : (Jvm.Cond.instantiable ST kI).before a0 Z = true) (al : Z.vm.Alike U.vm) {x : Addr} {v0 c0 : Value} (E : RoadKit.Exa Z U.heap x ST) (V : RoadKit.Fld Z U.heap x ST "value" "[B" v0) (C : RoadKit.Fld Z U.heap x ST "coder" "B" c0) :
    ∃ (D : Cell) (fV fC : Field), Blank ST x D U ∧ Found ST "value" "[B" fV U ∧ Found ST "coder" "B" fC U ∧ D.slots[fV.slot]? = some v0 ∧ D.slots[fC.slot]? = some c0 ∧ RoadKit.slotOf Z ST "value" "[B" = fV.slot ∧ RoadKit.slotOf Z ST "coder" "B" = fC.slot := by
  obtain ⟨D, cfV, kV, iV, fV, hD, gV, stV, knV, obV, asV, slV⟩ := V
  obtain ⟨D', cfC, kC, iC, fC, hD', gC, stC, -, -, asC, slC⟩ := C
  cases hD.symm.trans hD'
  obtain ⟨D2, kD, e1, e2, e3, e4, e5⟩ := E
  cases hD.symm.trans e1
  obtain ⟨c2, k2, i1, i2, i3, -⟩ := Cond.instantiable_spec wi
  cases e2.symm.trans i1
  cases e3.symm.trans i2
  obtain ⟨kU, u1, u2⟩ := al.2.2 _ _ e3
  exact ⟨D, fV, fC, ⟨hD, ⟨knV, fun q hq => by rw [hq] at obV; cases obV⟩, by rw [al.findClass]; exact e2, kU, u1, by rw [u2]; exact i3, by rw [u2]; exact e5 i3⟩, ⟨SBG.found_only al ⟨cfV, kV, iV, gV⟩, stV⟩, ⟨SBG.found_only al ⟨cfC, kC, iC, gC⟩, stC⟩, slV, slC, by simp [RoadKit.slotOf, gV], by simp [RoadKit.slotOf, gC]⟩
theorem sta_is {Z U : State} (al : Z.vm.Alike U.vm) {C n d : String} {v : Value} (S : RoadKit.Sta Z U.heap C n d v) : StaticIs U C n d v := by
  obtain ⟨cfS, iS, kS, fS, st, cS, t1, t2, t3, t4, t5, t6, t7⟩ := S
  exact StaticIs.there (s := { Z with heap := U.heap }) ⟨cfS, iS, kS, fS, st, cS, t1, t2, t3, t4, t5, (fun q => by rw [q] at t6; cases t6), t7⟩ al rfl
end StrChars.Road
namespace StrChars
open Jvm Sem ClassFile Op Lib Jvm.Stand Jvm.Free.XT Jvm.Free.ALB Jvm.Free.JM Jvm.Free
open Jvm.Lib.Cold (StaticIs)
/-- what place i of a byte[]'s cell holds -/
def yv (A : Cell) (i : Nat) : Int32 := match A.slots[i]? with | some (.int x) => x | _ => 0
theorem yv_get {a : Addr} {A : Cell} {U : State} (h : XT.Arr .byte a A U) (ht : Typed .byte A) {i : Nat} (hi : i < A.slots.size) : A.slots[i]? = some (.int (yv A i)) := by
  have e := Array.getElem?_eq_getElem hi
  have f := ht i _ e
  unfold yv; rw [e]
  generalize A.slots[i] = v at f
  cases v <;> simp [fits] at f ⊢
/-- the two arrays are equal, place for place -/
def EqC (A B : Cell) : Prop := A.slots.size = B.slots.size ∧ ∀ i, i < A.slots.size → yv A i = yv B i
/-- a boolean that says whether p -/
def Says01 (q : Prop) (r : Option Value) (s u : State) : Prop := ∃ v : Int32, r = some (.int v) ∧ u.heap = s.heap ∧ ((v = 1 ∧ q) ∨ (v = 0 ∧ ¬ q))
theorem Says01.mv {q : Prop} : ∀ r (U U' V V' : State), U'.heap = U.heap → V.vm.Alike V'.vm → V'.heap = V.heap → Says01 q r U V → Says01 q r U' V' :=
  fun r U U' V V' h1 _ h2 ⟨v, a, b, c⟩ => ⟨v, a, by rw [h1, h2]; exact b, c⟩
namespace LEq
def yN : MethodName := ⟨"java/lang/StringLatin1", "equals", "([B[B)Z"⟩
abbrev yB : ByteArray := jdk_43_method_13_code
theorem d0 : decode yB 0 = .ok (.aload_n 0, 1) := by decide +kernel
theorem d1 : decode yB 1 = .ok (.arraylength, 1) := by decide +kernel
theorem d2 : decode yB 2 = .ok (.aload_n 1, 1) := by decide +kernel
theorem d3 : decode yB 3 = .ok (.arraylength, 1) := by decide +kernel
theorem d4 : decode yB 4 = .ok (.if_icmp (.ne) 30, 3) := by decide +kernel
theorem d7 : decode yB 7 = .ok (.iconst 0, 1) := by decide +kernel
theorem d8 : decode yB 8 = .ok (.istore_n 2, 1) := by decide +kernel
theorem d9 : decode yB 9 = .ok (.iload_n 2, 1) := by decide +kernel
theorem d10 : decode yB 10 = .ok (.aload_n 0, 1) := by decide +kernel
theorem d11 : decode yB 11 = .ok (.arraylength, 1) := by decide +kernel
theorem d12 : decode yB 12 = .ok (.if_icmp (.ge) 20, 3) := by decide +kernel
theorem d15 : decode yB 15 = .ok (.aload_n 0, 1) := by decide +kernel
theorem d16 : decode yB 16 = .ok (.iload_n 2, 1) := by decide +kernel
theorem d17 : decode yB 17 = .ok (.baload, 1) := by decide +kernel
theorem d18 : decode yB 18 = .ok (.aload_n 1, 1) := by decide +kernel
theorem d19 : decode yB 19 = .ok (.iload_n 2, 1) := by decide +kernel
theorem d20 : decode yB 20 = .ok (.baload, 1) := by decide +kernel
theorem d21 : decode yB 21 = .ok (.if_icmp (.eq) 5, 3) := by decide +kernel
theorem d24 : decode yB 24 = .ok (.iconst 0, 1) := by decide +kernel
theorem d25 : decode yB 25 = .ok (.ireturn, 1) := by decide +kernel
theorem d26 : decode yB 26 = .ok (.iinc 2 1, 3) := by decide +kernel
theorem d29 : decode yB 29 = .ok (.goto (-20), 3) := by decide +kernel
theorem d32 : decode yB 32 = .ok (.iconst 1, 1) := by decide +kernel
theorem d33 : decode yB 33 = .ok (.ireturn, 1) := by decide +kernel
theorem d34 : decode yB 34 = .ok (.iconst 0, 1) := by decide +kernel
theorem d35 : decode yB 35 = .ok (.ireturn, 1) := by decide +kernel
def site : List Cond := []
def tab : Cond := tabOf yN yB 3 (some .boolean) site
def P (a : Addr) (A : Cell) (b : Addr) (B : Cell) (args : Array Value) (s : State) : Prop := args = #[.ref a, .ref b] ∧ XT.Arr .byte a A s ∧ Typed .byte A ∧ XT.Arr .byte b B s ∧ Typed .byte B
/-- whether two byte[] are equal, place for place -/
theorem law (l : Launch) (a : Addr) (A : Cell) (b : Addr) (B : Cell) : Law l yN 2 2 0 0 yB 3 (some .boolean) site (P a A b B) (Says01 (EqC A B)) [] 0 0 := by
  refine Law.of_walk (plainFor_of_name (by decide +kernel)) (by decide +kernel) (by decide +kernel) (by decide) (fun _ _ h => by rw [h.1]; rfl) (fun _ U U' hal hh h => ⟨h.1, h.2.1.mv hal hh, h.2.2.1, h.2.2.2.1.mv hal hh, h.2.2.2.2⟩) (fun r U U' V V' h1 hal h2 h => Says01.mv r U U' V V' h1 hal h2 h) ?_
  intro p e s m args below meth c s₁ X0 hexec hbytes hml hret hlk hnm hown hh0 W hP
  obtain ⟨rfl, hA, tA, hB, tB⟩ := hP
  have a31 := hA.2.2.2
  have b31 := hB.2.2.2
  have hA0 := hA.mv X0.warmed.alike hh0
  have hB0 := hB.mv X0.warmed.alike hh0
  have c1 : Steps p.tables e below (s₁.setTop (entryFrame m #[.ref a, .ref b] 3)) (s₁.setTop (mkF m 0 #[.val (.ref a), .val (.ref b), .unset] [])) := entry rfl
  have c2 : Steps p.tables e below (s₁.setTop (entryFrame m #[.ref a, .ref b] 3)) (s₁.setTop (mkF m 4 #[.val (.ref a), .val (.ref b), .unset] [.int (Int32.ofNat B.slots.size), .int (Int32.ofNat A.slots.size)])) := c1.trans (by
    refine XS.aloadN X0.here hexec rfl (hb hbytes d0) rfl rfl ?_
    refine X0.alen hexec hA0 rfl rfl (hb hbytes d1) ?_
    refine XS.aloadN X0.here hexec rfl (hb hbytes d2) rfl rfl ?_
    refine X0.alen hexec hB0 rfl rfl (hb hbytes d3) ?_
    exact Steps.refl _)
  by_cases hs : A.slots.size = B.slots.size
  · have c3 : Steps p.tables e below (s₁.setTop (entryFrame m #[.ref a, .ref b] 3)) (s₁.setTop (mkF m 9 #[.val (.ref a), .val (.ref b), .val (.int 0)] [])) := c2.trans (by
      refine XS.icmpNo X0.here hexec rfl (hb hbytes d4) rfl (ii_ne_f (by rw [hs])) ?_
      refine iconstV X0.here hexec rfl 0 (hb hbytes d7) (by decide) ?_
      refine XS.istoreN X0.here hexec rfl (hb hbytes d8) rfl rfl ?_
      exact Steps.refl _)
    have loop : ∀ (r i : Nat), i + r = A.slots.size → (∀ j, j < i → yv A j = yv B j) → Steps p.tables e below (s₁.setTop (entryFrame m #[.ref a, .ref b] 3)) (s₁.setTop (mkF m 9 #[.val (.ref a), .val (.ref b), .val (.int (Int32.ofNat i))] [])) → ∃ (pc : Nat) (Ls : Array Slot) (v : Int32), (pc = 25 ∨ pc = 33) ∧ ((v = 1 ∧ EqC A B) ∨ (v = 0 ∧ ¬ EqC A B)) ∧ Steps p.tables e below (s₁.setTop (entryFrame m #[.ref a, .ref b] 3)) (s₁.setTop (mkF m pc Ls [.int v])) := by
      intro r
      induction r with
      | zero =>
        intro i hi he cl
        exact ⟨33, _, 1, Or.inr rfl, Or.inl ⟨rfl, hs, fun j hj => he j (by omega)⟩, cl.trans (by
          refine XS.iloadN X0.here hexec rfl (hb hbytes d9) rfl ?_
          refine XS.aloadN X0.here hexec rfl (hb hbytes d10) rfl rfl ?_
          refine X0.alen hexec hA0 rfl rfl (hb hbytes d11) ?_
          refine XS.icmpYes X0.here hexec rfl (pc0 := 12) rfl (hb hbytes d12) rfl (ii_ge_t (nlt32 (by omega) (by omega))) (by decide) rfl ?_
          refine iconstV X0.here hexec rfl 1 (hb hbytes d32) (by decide) ?_
          exact Steps.refl _)⟩
      | succ r ih =>
        intro i hi he cl
        have c4 : Steps p.tables e below (s₁.setTop (entryFrame m #[.ref a, .ref b] 3)) (s₁.setTop (mkF m 21 #[.val (.ref a), .val (.ref b), .val (.int (Int32.ofNat i))] [.int (yv B i), .int (yv A i)])) := cl.trans (by
          refine XS.iloadN X0.here hexec rfl (hb hbytes d9) rfl ?_
          refine XS.aloadN X0.here hexec rfl (hb hbytes d10) rfl rfl ?_
          refine X0.alen hexec hA0 rfl rfl (hb hbytes d11) ?_
          refine XS.icmpNo X0.here hexec rfl (hb hbytes d12) rfl (ii_ge_f (lt32 (by omega) (by omega))) ?_
          refine XS.aloadN X0.here hexec rfl (hb hbytes d15) rfl rfl ?_
          refine XS.iloadN X0.here hexec rfl (hb hbytes d16) rfl ?_
          refine X0.aget hexec hA0 rfl (yv_get hA tA (i := i) (by omega)) rfl rfl (hb hbytes d17) ?_
          refine XS.aloadN X0.here hexec rfl (hb hbytes d18) rfl rfl ?_
          refine XS.iloadN X0.here hexec rfl (hb hbytes d19) rfl ?_
          refine X0.aget hexec hB0 rfl (yv_get hB tB (i := i) (by omega)) rfl rfl (hb hbytes d20) ?_
          exact Steps.refl _)
        by_cases hv : yv A i = yv B i
        · have c5 : Steps p.tables e below (s₁.setTop (entryFrame m #[.ref a, .ref b] 3)) (s₁.setTop (mkF m 9 #[.val (.ref a), .val (.ref b), .val (.int (Int32.ofNat i + 1))] [])) := c4.trans (by
            refine XS.icmpYes X0.here hexec rfl (pc0 := 21) rfl (hb hbytes d21) rfl (ii_eq_t hv) (by decide) rfl ?_
            refine iincV X0.here hexec rfl 1 (hb hbytes d26) (by decide) rfl rfl ?_
            refine XS.goto X0.here hexec rfl (pc0 := 29) rfl (hb hbytes d29) (by decide) rfl ?_
            exact Steps.refl _)
          rw [succ32] at c5
          exact ih (i + 1) (by omega) (fun j hj => by
            by_cases e : j = i
            · rw [e]; exact hv
            · exact he j (by omega)) c5
        · exact ⟨25, _, 0, Or.inl rfl, Or.inr ⟨rfl, fun q => hv (q.2 i (by omega))⟩, c4.trans (by
            refine XS.icmpNo X0.here hexec rfl (hb hbytes d21) rfl (ii_eq_f hv) ?_
            refine iconstV X0.here hexec rfl 0 (hb hbytes d24) (by decide) ?_
            exact Steps.refl _)⟩
    obtain ⟨pc, Ls, v, hpc, hv, cz⟩ := loop A.slots.size 0 (by omega) (fun j hj => absurd hj (Nat.not_lt_zero j)) c3
    have nv : narrow .boolean (.int v) = .int v := by rcases hv with ⟨rfl, -⟩ | ⟨rfl, -⟩ <;> rfl
    rcases hpc with rfl | rfl
    · exact ⟨s₁, some (.int v), _, _, _, X0, rfl, rfl, rfl, (fun h => by cases h), ⟨v, rfl, hh0, hv⟩, fun fs hl => cz.trans (X0.ireturnOut hexec hret nv (Or.inr (Or.inl rfl)) (hb hbytes d25) hl)⟩
    · exact ⟨s₁, some (.int v), _, _, _, X0, rfl, rfl, rfl, (fun h => by cases h), ⟨v, rfl, hh0, hv⟩, fun fs hl => cz.trans (X0.ireturnOut hexec hret nv (Or.inr (Or.inl rfl)) (hb hbytes d33) hl)⟩
  · have c3 : Steps p.tables e below (s₁.setTop (entryFrame m #[.ref a, .ref b] 3)) (s₁.setTop (mkF m 35 #[.val (.ref a), .val (.ref b), .unset] [.int 0])) := c2.trans (by
      refine XS.icmpYes X0.here hexec rfl (pc0 := 4) rfl (hb hbytes d4) rfl (ii_ne_t (ne32 a31 b31 hs)) (by decide) rfl ?_
      refine iconstV X0.here hexec rfl 0 (hb hbytes d34) (by decide) ?_
      exact Steps.refl _)
    exact ⟨s₁, some (.int 0), _, _, _, X0, rfl, rfl, rfl, (fun h => by cases h), ⟨0, rfl, hh0, Or.inr ⟨rfl, fun q => hs q.1⟩⟩, fun fs hl => c3.trans (X0.ireturnOut hexec hret rfl (Or.inr (Or.inl rfl)) (hb hbytes d35) hl)⟩
end LEq
theorem Cod.ty {cd : Int32} {n : Nat} {f : Nat → Int32} {V : Cell} (h : Cod cd n f V) : Typed .byte V := fun i v hv => by
  have hi : i < V.slots.size := (Array.getElem?_eq_some_iff.mp hv).1
  rcases h with ⟨-, k1, k2⟩ | ⟨-, k1, k2, -⟩
  · rw [(k2 i (by omega)).1] at hv; cases hv; exact fits_lo8 _
  · rcases Nat.mod_two_eq_zero_or_one i with e | e
    · obtain ⟨j, rfl⟩ : ∃ j, i = 2 * j := ⟨i / 2, by omega⟩
      rw [(k2 j (by omega)).1] at hv; cases hv; exact fits_lo8 _
    · obtain ⟨j, rfl⟩ : ∃ j, i = 2 * j + 1 := ⟨i / 2, by omega⟩
      rw [(k2 j (by omega)).2] at hv; cases hv; exact fits_lo8 _
/-- the same text -/
def SameT (n : Nat) (f : Nat → Int32) (k : Nat) (g : Nat → Int32) : Prop := n = k ∧ ∀ j, j < n → f j = g j
theorem lo8_inj {x y : Int32} (h0 : ¬ x < 0) (h1 : ¬ 255 < x) (k0 : ¬ y < 0) (k1 : ¬ 255 < y) (h : lo8 x = lo8 y) : x = y := by
  rw [← lo8_mask h0 h1, ← lo8_mask k0 k1, h]
/-- arrays coded by one coder are equal just where the texts are -/
theorem Cod.eqv {cd : Int32} {n k : Nat} {f g : Nat → Int32} {V V' : Cell} (h : Cod cd n f V) (h' : Cod cd k g V') (hf : ∀ j, j < n → ¬ f j < 0 ∧ ¬ 65535 < f j) (hg : ∀ j, j < k → ¬ g j < 0 ∧ ¬ 65535 < g j) : EqC V V' ↔ SameT n f k g := by
  have yvv : ∀ {W : Cell} {i : Nat} {x : Int32}, W.slots[i]? = some (.int x) → yv W i = x := fun q => by unfold yv; rw [q]
  rcases h with ⟨rfl, k1, k2⟩ | ⟨rfl, k1, k2, -⟩
  · rcases h' with ⟨-, m1, m2⟩ | ⟨e, -⟩
    · constructor
      · rintro ⟨e1, e2⟩
        refine ⟨by omega, fun j hj => ?_⟩
        have q := e2 j (by omega)
        rw [yvv (k2 j hj).1, yvv (m2 j (by omega)).1] at q
        exact lo8_inj (hf j hj).1 (k2 j hj).2 (hg j (by omega)).1 (m2 j (by omega)).2 q
      · rintro ⟨rfl, e2⟩
        refine ⟨by omega, fun j hj => ?_⟩
        rw [yvv (k2 j (by omega)).1, yvv (m2 j (by omega)).1, e2 j (by omega)]
    · exact absurd e (by decide)
  · rcases h' with ⟨e, -⟩ | ⟨-, m1, m2, -⟩
    · exact absurd e (by decide)
    · constructor
      · rintro ⟨e1, e2⟩
        refine ⟨by omega, fun j hj => ?_⟩
        have q1 := e2 (2 * j) (by omega)
        have q2 := e2 (2 * j + 1) (by omega)
        rw [yvv (k2 j hj).1, yvv (m2 j (by omega)).1] at q1
        rw [yvv (k2 j hj).2, yvv (m2 j (by omega)).2] at q2
        rw [← pair_says (hf j hj).1 (hf j hj).2, ← pair_says (hg j (by omega)).1 (hg j (by omega)).2, q1, q2]
      · rintro ⟨rfl, e2⟩
        refine ⟨by omega, fun i hi => ?_⟩
        rcases Nat.mod_two_eq_zero_or_one i with e | e
        · obtain ⟨j, rfl⟩ : ∃ j, i = 2 * j := ⟨i / 2, by omega⟩
          rw [yvv (k2 j (by omega)).1, yvv (m2 j (by omega)).1, e2 j (by omega)]
        · obtain ⟨j, rfl⟩ : ∃ j, i = 2 * j + 1 := ⟨i / 2, by omega⟩
          rw [yvv (k2 j (by omega)).2, yvv (m2 j (by omega)).2, e2 j (by omega)]
/-- two codings differ: so do the texts -/
theorem Cod.dif {cd cd' : Int32} {n k : Nat} {f g : Nat → Int32} {V V' : Cell} (h : Cod cd n f V) (h' : Cod cd' k g V') (hne : ¬ cd = cd') : ¬ SameT n f k g := by
  rintro ⟨rfl, e⟩
  rcases h with ⟨rfl, -, k2⟩ | ⟨rfl, -, -, j, hj, hw⟩
  · rcases h' with ⟨rfl, -⟩ | ⟨-, -, -, j, hj, hw⟩
    · exact hne rfl
    · exact (k2 j hj).2 (by rw [e j hj]; exact hw)
  · rcases h' with ⟨-, -, m2⟩ | ⟨rfl, -⟩
    · exact (m2 j hj).2 (by rw [← e j hj]; exact hw)
    · exact hne rfl
/-- an object of exactly C is an instance of C -/
theorem cinst {p : Program} {l : Launch} {e : Env} {R : Room} {s : State} {m : MethodId} {args : Array Value} {below : List Frame} {meth : Method} {c : Code} {T : State} {locs : List Loc} {cells slots : Nat} (X : Stand p l e R s m args below meth c T locs cells slots) (hexec : p.tables.exec = Jvm.exec) {own C : String} {index : Nat} (hown : s.vm.findClass own = some m.cls) (hlink : (Cond.classLink own index C).before args s = true) {a : Addr} (hE : Exact C a T)
    {g : JFrame} (hg : g.method = m) {rest : List Value} (hstack : g.stack = .ref a :: rest) (hdg : decode c.code g.pc = .ok (.instanceof index, 3)) :
    ∃ T', Stand p l e R s m args below meth c T' locs cells slots ∧ T'.heap = T.heap ∧ ∀ target, Steps p.tables e below (T'.setTop { g with pc := g.pc + 3, stack := .int 1 :: rest }) target → Steps p.tables e below (T.setTop g) target := by
  obtain ⟨cB, h1, D, h2, h3, h4⟩ := hE
  have h1' : s.vm.findClass C = some cB := by rw [← X.warmed.alike.findClass]; exact h1
  obtain ⟨vm', X', st⟩ := X.instanceofYes hexec hown hlink h2 h4 h1' (by rw [h3]; exact Jvm.Free.SB.assignable_self _ _) hg hstack hdg
  exact ⟨_, X', rfl, st⟩
theorem cself {p : Program} {l : Launch} {e : Env} {R : Room} {s : State} {m : MethodId} {args : Array Value} {below : List Frame} {meth : Method} {c : Code} {T : State} {locs : List Loc} {cells slots : Nat} (X : Stand p l e R s m args below meth c T locs cells slots) (hexec : p.tables.exec = Jvm.exec) {own C : String} {index : Nat} (hown : s.vm.findClass own = some m.cls) (hlink : (Cond.classLink own index C).before args s = true) {a : Addr} (hE : Exact C a T)
    {g : JFrame} (hg : g.method = m) {rest : List Value} (hstack : g.stack = .ref a :: rest) (hdg : decode c.code g.pc = .ok (.checkcast index, 3)) :
    ∃ T', Stand p l e R s m args below meth c T' locs cells slots ∧ T'.heap = T.heap ∧ ∀ target, Steps p.tables e below (T'.setTop { g with pc := g.pc + 3, stack := .ref a :: rest }) target → Steps p.tables e below (T.setTop g) target := by
  obtain ⟨cB, h1, D, h2, h3, h4⟩ := hE
  have h1' : s.vm.findClass C = some cB := by rw [← X.warmed.alike.findClass]; exact h1
  obtain ⟨vm', X', st⟩ := X.checkcastYes hexec hown hlink h2 h4 h1' (by rw [h3]; exact Jvm.Free.SB.assignable_self _ _) hg hstack hdg
  exact ⟨_, X', rfl, fun t h => st t (by rw [← hstack] at h; exact h)⟩
namespace SEq
def yN : MethodName := ⟨"java/lang/String", "equals", "(Ljava/lang/Object;)Z"⟩
abbrev yB : ByteArray := jdk_42_method_66_code
theorem d0 : decode yB 0 = .ok (.aload_n 0, 1) := by decide +kernel
theorem d1 : decode yB 1 = .ok (.aload_n 1, 1) := by decide +kernel
theorem d2 : decode yB 2 = .ok (.if_acmp (.ne) 5, 3) := by decide +kernel
theorem d5 : decode yB 5 = .ok (.iconst 1, 1) := by decide +kernel
theorem d6 : decode yB 6 = .ok (.ireturn, 1) := by decide +kernel
theorem d7 : decode yB 7 = .ok (.aload_n 1, 1) := by decide +kernel
theorem d8 : decode yB 8 = .ok (.instanceof 10, 3) := by decide +kernel
theorem d11 : decode yB 11 = .ok (.ifCond (.eq) 43, 3) := by decide +kernel
theorem d14 : decode yB 14 = .ok (.aload_n 1, 1) := by decide +kernel
theorem d15 : decode yB 15 = .ok (.checkcast 10, 3) := by decide +kernel
theorem d18 : decode yB 18 = .ok (.astore_n 2, 1) := by decide +kernel
theorem d19 : decode yB 19 = .ok (.getstatic 38, 3) := by decide +kernel
theorem d22 : decode yB 22 = .ok (.ifCond (.eq) 14, 3) := by decide +kernel
theorem d25 : decode yB 25 = .ok (.aload_n 0, 1) := by decide +kernel
theorem d26 : decode yB 26 = .ok (.getfield 15, 3) := by decide +kernel
theorem d29 : decode yB 29 = .ok (.aload_n 2, 1) := by decide +kernel
theorem d30 : decode yB 30 = .ok (.getfield 15, 3) := by decide +kernel
theorem d33 : decode yB 33 = .ok (.if_icmp (.ne) 21, 3) := by decide +kernel
theorem d36 : decode yB 36 = .ok (.aload_n 0, 1) := by decide +kernel
theorem d37 : decode yB 37 = .ok (.getfield 9, 3) := by decide +kernel
theorem d40 : decode yB 40 = .ok (.aload_n 2, 1) := by decide +kernel
theorem d41 : decode yB 41 = .ok (.getfield 9, 3) := by decide +kernel
theorem d44 : decode yB 44 = .ok (.invokestatic 541, 3) := by decide +kernel
theorem d47 : decode yB 47 = .ok (.ifCond (.eq) 7, 3) := by decide +kernel
theorem d50 : decode yB 50 = .ok (.iconst 1, 1) := by decide +kernel
theorem d51 : decode yB 51 = .ok (.goto 4, 3) := by decide +kernel
theorem d54 : decode yB 54 = .ok (.iconst 0, 1) := by decide +kernel
theorem d55 : decode yB 55 = .ok (.ireturn, 1) := by decide +kernel
def site : List Cond := [.classLink "java/lang/String" 10 "java/lang/String", .fieldLink "java/lang/String" 38 "java/lang/String" "COMPACT_STRINGS" "Z", .fieldLink "java/lang/String" 15 "java/lang/String" "coder" "B", .fieldLink "java/lang/String" 9 "java/lang/String" "value" "[B", LEq.tab] ++ staticW "java/lang/String" 541 LEq.yN
def tab : Cond := tabOf yN yB 3 (some .boolean) site
def P (x t : Addr) (V : Cell) (cd : Int32) (n : Nat) (f : Nat → Int32) (y t' : Addr) (V' : Cell) (cd' : Int32) (k : Nat) (g : Nat → Int32) (z : Int32) (args : Array Value) (s : State) : Prop := args = #[.ref x, .ref y] ∧ Txt x t V cd n f s ∧ Txt y t' V' cd' k g s ∧ StaticIs s "java/lang/String" "COMPACT_STRINGS" "Z" (.int z) ∧ ¬ z = 0
/-- equals(Object) of two Strings: whether the texts are the same -/
theorem law (l : Launch) (x t : Addr) (V : Cell) (cd : Int32) (n : Nat) (f : Nat → Int32) (y t' : Addr) (V' : Cell) (cd' : Int32) (k : Nat) (g : Nat → Int32) (z : Int32) : Law l yN 2 1 1 14 yB 3 (some .boolean) site (P x t V cd n f y t' V' cd' k g z) (Says01 (SameT n f k g)) [] 0 0 := by
  refine Law.of_walk (plainFor_of_name (by decide +kernel)) (by decide +kernel) (by decide +kernel) (by decide) (fun _ _ h => by rw [h.1]; rfl) (fun _ U U' hal hh h => ⟨h.1, h.2.1.mv hal hh, h.2.2.1.mv hal hh, h.2.2.2.1.there hal hh, h.2.2.2.2⟩) (fun r U U' V V' h1 hal h2 h => Says01.mv r U U' V V' h1 hal h2 h) ?_
  intro p e s m args below meth c s₁ X0 hexec hbytes hml hret hlk hnm hown hh0 W hP
  obtain ⟨rfl, hx, hy, s1, hz⟩ := hP
  have c1 : Steps p.tables e below (s₁.setTop (entryFrame m #[.ref x, .ref y] 3)) (s₁.setTop (mkF m 2 #[.val (.ref x), .val (.ref y), .unset] [.ref y, .ref x])) := Steps.trans (entry rfl) (by
    show Steps p.tables e below (s₁.setTop (mkF m 0 #[.val (.ref x), .val (.ref y), .unset] [])) _
    refine XS.aloadN X0.here hexec rfl (hb hbytes d0) rfl rfl ?_
    refine XS.aloadN X0.here hexec rfl (hb hbytes d1) rfl rfl ?_
    exact Steps.refl _)
  by_cases hxy : x = y
  · have c2 : Steps p.tables e below (s₁.setTop (entryFrame m #[.ref x, .ref y] 3)) (s₁.setTop (mkF m 6 #[.val (.ref x), .val (.ref y), .unset] [.int 1])) := c1.trans (by
      refine acmpNo X0.here hexec rfl (hb hbytes d2) rfl rfl rfl (by simp [acmp, hxy]) ?_
      refine iconstV X0.here hexec rfl 1 (hb hbytes d5) (by decide) ?_
      exact Steps.refl _)
    subst hxy
    have ec : cd = cd' := by
      obtain ⟨D, fd, a1, a2, a3⟩ := hx.2.2.1
      obtain ⟨D', fd', b1, b2, b3⟩ := hy.2.2.1
      cases a1.symm.trans b1
      obtain ⟨q1, q2, q3, q4⟩ := a2.1
      obtain ⟨r1, r2, r3, r4⟩ := b2.1
      cases q4.symm.trans r4
      cases a3.symm.trans b3; rfl
    have et : t = t' := by
      obtain ⟨D, fd, a1, a2, a3⟩ := hx.2.1
      obtain ⟨D', fd', b1, b2, b3⟩ := hy.2.1
      cases a1.symm.trans b1
      obtain ⟨q1, q2, q3, q4⟩ := a2.1
      obtain ⟨r1, r2, r3, r4⟩ := b2.1
      cases q4.symm.trans r4
      cases a3.symm.trans b3; rfl
    subst ec et
    have ev : V = V' := by cases hx.2.2.2.1.1.symm.trans hy.2.2.2.1.1; rfl
    subst ev
    have hs : SameT n f k g := (Cod.eqv hx.2.2.2.2.1 hy.2.2.2.2.1 hx.2.2.2.2.2 hy.2.2.2.2.2).mp ⟨rfl, fun _ _ => rfl⟩
    exact ⟨s₁, some (.int 1), _, _, _, X0, rfl, rfl, rfl, (fun h => by cases h), ⟨1, rfl, hh0, Or.inl ⟨rfl, hs⟩⟩, fun fs hl => c2.trans (X0.ireturnOut hexec hret rfl (Or.inr (Or.inl rfl)) (hb hbytes d6) hl)⟩
  · have c2 : Steps p.tables e below (s₁.setTop (entryFrame m #[.ref x, .ref y] 3)) (s₁.setTop (mkF m 8 #[.val (.ref x), .val (.ref y), .unset] [.ref y])) := c1.trans (by
      refine acmpYes X0.here hexec rfl (pc0 := 2) rfl (hb hbytes d2) rfl rfl rfl (by simp [acmp, hxy]) (by decide) rfl ?_
      refine XS.aloadN X0.here hexec rfl (hb hbytes d7) rfl rfl ?_
      exact Steps.refl _)
    obtain ⟨T3, X3, q3, st3⟩ := cinst X0 hexec hown (wk W (.classLink "java/lang/String" 10 "java/lang/String")) (hy.mv X0.warmed.alike hh0).1 (g := (mkF m 8 #[.val (.ref x), .val (.ref y), .unset] [.ref y])) rfl (rest := []) rfl (hb hbytes d8)
    have hh3 := q3.trans hh0
    have c4 : Steps p.tables e below (s₁.setTop (entryFrame m #[.ref x, .ref y] 3)) (T3.setTop (mkF m 15 #[.val (.ref x), .val (.ref y), .unset] [.ref y])) := (c2.trans (st3 _ (Steps.refl _))).trans (by
      refine XS.ifNo X3.here hexec rfl (hb hbytes d11) rfl (i0_eq_f (by decide)) ?_
      refine XS.aloadN X3.here hexec rfl (hb hbytes d14) rfl rfl ?_
      exact Steps.refl _)
    obtain ⟨T5, X5, q5, st5⟩ := cself X3 hexec hown (wk W (.classLink "java/lang/String" 10 "java/lang/String")) (hy.mv X3.warmed.alike hh3).1 (g := (mkF m 15 #[.val (.ref x), .val (.ref y), .unset] [.ref y])) rfl (rest := []) rfl (hb hbytes d15)
    have hh5 := q5.trans hh3
    have c6 : Steps p.tables e below (s₁.setTop (entryFrame m #[.ref x, .ref y] 3)) (T5.setTop (mkF m 19 #[.val (.ref x), .val (.ref y), .val (.ref y)] [])) := (c4.trans (st5 _ (Steps.refl _))).trans (by
      refine XS.astoreN X5.here hexec rfl (hb hbytes d18) rfl rfl rfl ?_
      exact Steps.refl _)
    obtain ⟨T7, X7, q7, st7⟩ := X5.sget hexec hown (wk W (.fieldLink "java/lang/String" 38 "java/lang/String" "COMPACT_STRINGS" "Z")) s1 (fun _ _ h => by rw [hh5]; exact h) (g := (mkF m 19 #[.val (.ref x), .val (.ref y), .val (.ref y)] [])) rfl (hb hbytes d19)
    have hh7 := q7.trans hh5
    have c8 : Steps p.tables e below (s₁.setTop (entryFrame m #[.ref x, .ref y] 3)) (T7.setTop (mkF m 26 #[.val (.ref x), .val (.ref y), .val (.ref y)] [.ref x])) := (c6.trans (st7 _ (Steps.refl _))).trans (by
      refine XS.ifNo X7.here hexec rfl (hb hbytes d22) rfl (i0_eq_f hz) ?_
      refine XS.aloadN X7.here hexec rfl (hb hbytes d25) rfl rfl ?_
      exact Steps.refl _)
    obtain ⟨T9, X9, q9, st9⟩ := X7.hget hexec hown (wk W (.fieldLink "java/lang/String" 15 "java/lang/String" "coder" "B")) (hx.mv X7.warmed.alike hh7).2.2.1 (g := (mkF m 26 #[.val (.ref x), .val (.ref y), .val (.ref y)] [.ref x])) rfl (rest := []) rfl (hb hbytes d26)
    have hh9 := q9.trans hh7
    have c10 : Steps p.tables e below (s₁.setTop (entryFrame m #[.ref x, .ref y] 3)) (T9.setTop (mkF m 30 #[.val (.ref x), .val (.ref y), .val (.ref y)] [.ref y, .int cd])) := (c8.trans (st9 _ (Steps.refl _))).trans (by
      refine XS.aloadN X9.here hexec rfl (hb hbytes d29) rfl rfl ?_
      exact Steps.refl _)
    obtain ⟨T11, X11, q11, st11⟩ := X9.hget hexec hown (wk W (.fieldLink "java/lang/String" 15 "java/lang/String" "coder" "B")) (hy.mv X9.warmed.alike hh9).2.2.1 (g := (mkF m 30 #[.val (.ref x), .val (.ref y), .val (.ref y)] [.ref y, .int cd])) rfl (rest := [.int cd]) rfl (hb hbytes d30)
    have hh11 := q11.trans hh9
    have c12 : Steps p.tables e below (s₁.setTop (entryFrame m #[.ref x, .ref y] 3)) (T11.setTop (mkF m 33 #[.val (.ref x), .val (.ref y), .val (.ref y)] [.int cd', .int cd])) := c10.trans (st11 _ (Steps.refl _))
    by_cases hcd : cd = cd'
    · subst hcd
      have c13 : Steps p.tables e below (s₁.setTop (entryFrame m #[.ref x, .ref y] 3)) (T11.setTop (mkF m 37 #[.val (.ref x), .val (.ref y), .val (.ref y)] [.ref x])) := c12.trans (by
        refine XS.icmpNo X11.here hexec rfl (hb hbytes d33) rfl (ii_ne_f rfl) ?_
        refine XS.aloadN X11.here hexec rfl (hb hbytes d36) rfl rfl ?_
        exact Steps.refl _)
      obtain ⟨T14, X14, q14, st14⟩ := X11.hget hexec hown (wk W (.fieldLink "java/lang/String" 9 "java/lang/String" "value" "[B")) (hx.mv X11.warmed.alike hh11).2.1 (g := (mkF m 37 #[.val (.ref x), .val (.ref y), .val (.ref y)] [.ref x])) rfl (rest := []) rfl (hb hbytes d37)
      have hh14 := q14.trans hh11
      have c15 : Steps p.tables e below (s₁.setTop (entryFrame m #[.ref x, .ref y] 3)) (T14.setTop (mkF m 41 #[.val (.ref x), .val (.ref y), .val (.ref y)] [.ref y, .ref t])) := (c13.trans (st14 _ (Steps.refl _))).trans (by
        refine XS.aloadN X14.here hexec rfl (hb hbytes d40) rfl rfl ?_
        exact Steps.refl _)
      obtain ⟨T16, X16, q16, st16⟩ := X14.hget hexec hown (wk W (.fieldLink "java/lang/String" 9 "java/lang/String" "value" "[B")) (hy.mv X14.warmed.alike hh14).2.1 (g := (mkF m 41 #[.val (.ref x), .val (.ref y), .val (.ref y)] [.ref y, .ref t])) rfl (rest := [.ref t]) rfl (hb hbytes d41)
      have hh16 := q16.trans hh14
      have c17 : Steps p.tables e below (s₁.setTop (entryFrame m #[.ref x, .ref y] 3)) (T16.setTop (mkF m 44 #[.val (.ref x), .val (.ref y), .val (.ref y)] [.ref t', .ref t])) := c15.trans (st16 _ (Steps.refl _))
      obtain ⟨v18, T18, X18, E18, g18⟩ := X16.callS hexec (LEq.law l t V t' V') hown (wks W (staticW "java/lang/String" 541 LEq.yN)) (wk W LEq.tab) (W := 0) (Nat.le_of_ble_eq_true rfl) (Nat.le_of_ble_eq_true rfl) (Nat.le_refl _) (Nat.le_refl _) (g := (mkF m 44 #[.val (.ref x), .val (.ref y), .val (.ref y)] [.ref t', .ref t])) rfl (by rw [hml]; rfl) c17 (argsL := [.ref t, .ref t']) (rest := []) rfl rfl (by show 2 * 0 + 0 ≤ _; decide) (hb hbytes d44) (⟨rfl, hx.2.2.2.1.mv X16.warmed.alike hh16, hx.2.2.2.2.1.ty, hy.2.2.2.1.mv X16.warmed.alike hh16, hy.2.2.2.2.1.ty⟩)
      obtain ⟨v, rfl, q18, hv⟩ := E18
      have iff := Cod.eqv hx.2.2.2.2.1 hy.2.2.2.2.1 hx.2.2.2.2.2 hy.2.2.2.2.2
      rcases hv with ⟨rfl, he⟩ | ⟨rfl, he⟩
      · have c19 : Steps p.tables e below (s₁.setTop (entryFrame m #[.ref x, .ref y] 3)) (T18.setTop (mkF m 55 #[.val (.ref x), .val (.ref y), .val (.ref y)] [.int 1])) := Steps.trans g18 (by
          refine XS.ifNo X18.here hexec rfl (hb hbytes d47) rfl (i0_eq_f (by decide)) ?_
          refine iconstV X18.here hexec rfl 1 (hb hbytes d50) (by decide) ?_
          refine XS.goto X18.here hexec rfl (pc0 := 51) rfl (hb hbytes d51) (by decide) rfl ?_
          exact Steps.refl _)
        exact ⟨T18, some (.int 1), _, _, _, X18, rfl, rfl, rfl, (fun h => by cases h), ⟨1, rfl, q18.trans hh16, Or.inl ⟨rfl, iff.mp he⟩⟩, fun fs hl => c19.trans (X18.ireturnOut hexec hret rfl (Or.inr (Or.inl rfl)) (hb hbytes d55) hl)⟩
      · have c19 : Steps p.tables e below (s₁.setTop (entryFrame m #[.ref x, .ref y] 3)) (T18.setTop (mkF m 55 #[.val (.ref x), .val (.ref y), .val (.ref y)] [.int 0])) := Steps.trans g18 (by
          refine XS.ifYes X18.here hexec rfl (pc0 := 47) rfl (hb hbytes d47) rfl (i0_eq_t rfl) (by decide) rfl ?_
          refine iconstV X18.here hexec rfl 0 (hb hbytes d54) (by decide) ?_
          exact Steps.refl _)
        exact ⟨T18, some (.int 0), _, _, _, X18, rfl, rfl, rfl, (fun h => by cases h), ⟨0, rfl, q18.trans hh16, Or.inr ⟨rfl, fun q => he (iff.mpr q)⟩⟩, fun fs hl => c19.trans (X18.ireturnOut hexec hret rfl (Or.inr (Or.inl rfl)) (hb hbytes d55) hl)⟩
    · have c13 : Steps p.tables e below (s₁.setTop (entryFrame m #[.ref x, .ref y] 3)) (T11.setTop (mkF m 55 #[.val (.ref x), .val (.ref y), .val (.ref y)] [.int 0])) := c12.trans (by
        refine XS.icmpYes X11.here hexec rfl (pc0 := 33) rfl (hb hbytes d33) rfl (ii_ne_t hcd) (by decide) rfl ?_
        refine iconstV X11.here hexec rfl 0 (hb hbytes d54) (by decide) ?_
        exact Steps.refl _)
      exact ⟨T11, some (.int 0), _, _, _, X11, rfl, rfl, rfl, (fun h => by cases h), ⟨0, rfl, hh11, Or.inr ⟨rfl, Cod.dif hx.2.2.2.2.1 hy.2.2.2.2.1 hcd⟩⟩, fun fs hl => c13.trans (X11.ireturnOut hexec hret rfl (Or.inr (Or.inl rfl)) (hb hbytes d55) hl)⟩
theorem pays {l : Launch} {R : Room} {p : Program} {e : Env} {below : List Frame} {s : State} {sargs : Array Value} {len W : Nat} (x t : Addr) (V : Cell) (cd : Int32) (n : Nat) (f : Nat → Int32) (y t' : Addr) (V' : Cell) (cd' : Int32) (k : Nat) (g : Nat → Int32) (z : Int32) (htab : tab.before sargs s = true) (hfr : 2 ≤ R.frames) (hlo : W + 28 ≤ R.locals) :
    Back l R p e below s sargs yN len W (fun A₁ a₁ => A₁.cells + 0 ≤ R.cells ∧ A₁.slots + 0 ≤ R.slots ∧ P x t V cd n f y t' V' cd' k g z a₁ A₁.U) (fun A₁ _ v₁ B₁ => Says01 (SameT n f k g) v₁ A₁.U B₁.U ∧ B₁.locs = A₁.locs ++ [] ∧ B₁.cells = A₁.cells + 0 ∧ B₁.slots = A₁.slots + 0) :=
  (law l x t V cd n f y t' V' cd' k g z).pays htab hfr (by omega)
end SEq
end StrChars
namespace StrChars.Road
open Jvm Sem ClassFile Op Lib Jvm.Stand Jvm.Free Jvm.Free.XT
open Jvm.Lib.Cold (StaticIs)
/-- the words of String.equals(Object) -/
abbrev wordsEq : List Jvm.Cond := [.code SEq.yN SEq.yB 3 (some .boolean), .initialized ST, .classLink ST 10 ST, .fieldLink ST 38 ST "COMPACT_STRINGS" "Z", .fieldLink ST 15 ST "coder" "B", .fieldLink ST 9 ST "value" "[B", .methodLink ST 541 LEq.yN, .static LEq.yN, .code LEq.yN LEq.yB 3 (some .boolean), .initialized "java/lang/StringLatin1"]
theorem tabEq_of {a : Array Value} {s : State} (h : ∀ w ∈ wordsEq, w.before a s = true) : SEq.tab.before a s = true := by
  have hl : LEq.tab.before a s = true := unparts (wk h (.code LEq.yN LEq.yB 3 (some .boolean))) (wks h (.initialized LEq.yN.cls :: LEq.site))
  have q := consq hl h
  exact unparts (wk q (.code SEq.yN SEq.yB 3 (some .boolean))) (wks q (.initialized SEq.yN.cls :: SEq.site))
theorem movedEq {Z s : State} {a0 args : Array Value} (hZ : Z.Warmed39 s.vm) (hw : ∀ d ∈ wordsEq, d.before a0 Z = true) : ∀ d ∈ wordsEq, d.before args s = true := fun d hd => by
  have t : ∀ d ∈ wordsEq, (d.onTables && d.keepsFace) = true := by decide +kernel
  exact RoadKit.mv hZ (hw d hd) (t d hd)
/-- the road's facts of a String, as the laws ask it -/
theorem txt_of {Z U : State} {a0 : Array Value} {kI : Nat} (wi : (Jvm.Cond.instantiable ST kI).before a0 Z = true) (al : Z.vm.Alike U.vm) {x t : Addr} {kb : ClassId} {cs : List Int32} {cd N2 : Int32} {vs : List Value} (E : RoadKit.Exa Z U.heap x ST) (V : RoadKit.Fld Z U.heap x ST "value" "[B" (.ref t)) (C : RoadKit.Fld Z U.heap x ST "coder" "B" (.int cd)) (K : RoadKit.Arv Z U.heap t kb .byte N2 vs (.int 0)) (hc : CodA cs cd N2 vs) (hb : ∀ c ∈ cs, ¬ c < 0 ∧ ¬ (65535 : Int32) < c) (l2 : cs.length ≤ 4000) :
    ∃ A, Txt x t A cd cs.length (fun j => cs.getD j 0) U := by
  obtain ⟨A, K1, K2, K3, K4, K5, K6⟩ := K
  have hcod := hc.cod (by omega) K3 K5
  obtain ⟨D, fV, fC, hB, F1, F2, g1, g2, -, -⟩ := strObj wi al E V C
  exact ⟨A, ⟨_, hB.2.2.1, D, hB.1, rfl, by cases q : D.vm <;> first | rfl | exact absurd q (hB.2.1.2 _)⟩, Has.of hB F1 g1, Has.of hB F2 g2, ⟨K1.1, State.isArrayOf_alike al K1.2.1, K1.2.2, by rcases hcod with ⟨-, q, -⟩ | ⟨-, q, -⟩ <;> omega⟩, hcod, fun j hj => by
    have e : cs.getD j 0 = cs[j] := by simp [List.getD_eq_getElem?_getD, hj]
    show ¬ cs.getD j 0 < 0 ∧ ¬ 65535 < cs.getD j 0
    rw [e]; exact hb _ (List.getElem_mem _)⟩
theorem same_list (cs ds : List Int32) : SameT cs.length (fun j => cs.getD j 0) ds.length (fun j => ds.getD j 0) ↔ cs = ds := by
  constructor
  · rintro ⟨e, q⟩
    refine List.ext_getElem e fun j h1 h2 => ?_
    have := q j h1
    simpa [List.getD_eq_getElem?_getD, h1, h2] using this
  · rintro rfl
    exact ⟨rfl, fun _ _ => rfl⟩
/-- **equals(Object) OF TWO SUCH STRINGS**: 1 just where the chars are the same -/
theorem eqW {p : Program} {l : Launch} {e : Env} {R : Room} {s : State} {args : Array Value} {below : List Frame} {len W : Nat} {Z : State} {a0 : Array Value} {h : Heap} (hZ : Z.Warmed39 s.vm) (hw : ∀ d ∈ wordsEq, d.before a0 Z = true) {kI : Nat} (wi : (Jvm.Cond.instantiable ST kI).before a0 Z = true)
    {x t : Addr} {kb : ClassId} {cs : List Int32} {cd N2 : Int32} {vs : List Value} (E : RoadKit.Exa Z h x ST) (V : RoadKit.Fld Z h x ST "value" "[B" (.ref t)) (C : RoadKit.Fld Z h x ST "coder" "B" (.int cd)) (K : RoadKit.Arv Z h t kb .byte N2 vs (.int 0)) (hc : CodA cs cd N2 vs) (hb : ∀ c ∈ cs, ¬ c < 0 ∧ ¬ (65535 : Int32) < c) (l2 : cs.length ≤ 4000)
    {y t' : Addr} {kb' : ClassId} {ds : List Int32} {cd' N2' : Int32} {vs' : List Value} (E' : RoadKit.Exa Z h y ST) (V' : RoadKit.Fld Z h y ST "value" "[B" (.ref t')) (C' : RoadKit.Fld Z h y ST "coder" "B" (.int cd')) (K' : RoadKit.Arv Z h t' kb' .byte N2' vs' (.int 0)) (hc' : CodA ds cd' N2' vs') (hb' : ∀ c ∈ ds, ¬ c < 0 ∧ ¬ (65535 : Int32) < c) (l2' : ds.length ≤ 4000)
    {z : Int32} (S : RoadKit.Sta Z h ST "COMPACT_STRINGS" "Z" (.int z)) (hz : ¬ z = 0) (hfr : 2 ≤ R.frames) (hlo : W + 28 ≤ R.locals) :
    Back l R p e below s args (⟨"java/lang/String", "equals", "(Ljava/lang/Object;)Z"⟩ : MethodName) len W (fun P a => a = #[.ref x, .ref y] ∧ P.U.heap = h ∧ P.cells + 0 ≤ R.cells ∧ P.slots + 0 ≤ R.slots)
      (fun P _ v B => ∃ L, (((v = some (.int 1) ∧ cs = ds) ∨ (v = some (.int 0) ∧ ¬ cs = ds)) ∧ L = [] ∧ B.U.heap = h) ∧ B.locs = P.locs ++ L ∧ B.cells = P.cells + 0 ∧ B.slots = P.slots + 0) := by
  intro m meth c P g ig mk a X hg hsize hdg hW hn hp'
  obtain ⟨rfl, rfl, r1, r2⟩ := hp'
  have al : Z.vm.Alike P.U.vm := hZ.alike.trans X.warmed.alike
  obtain ⟨A, hx⟩ := txt_of wi al E V C K hc hb l2
  obtain ⟨A', hy⟩ := txt_of wi al E' V' C' K' hc' hb' l2'
  obtain ⟨v, B, X', ⟨⟨w, hv, hh, hq⟩, hl, hk, hs⟩, st⟩ := SEq.pays x t A cd cs.length (fun j => cs.getD j 0) y t' A' cd' ds.length (fun j => ds.getD j 0) z (tabEq_of (movedEq hZ hw)) hfr hlo m meth c P g ig mk _ X hg hsize hdg hW hn ⟨r1, r2, rfl, hx, hy, sta_is al S, hz⟩
  refine ⟨v, B, X', ⟨[], ⟨?_, rfl, hh⟩, hl, hk, hs⟩, st⟩
  rcases hq with ⟨rfl, q⟩ | ⟨rfl, q⟩
  · exact Or.inl ⟨hv, (same_list cs ds).mp q⟩
  · exact Or.inr ⟨hv, fun e => q ((same_list cs ds).mpr e)⟩
end StrChars.Road
namespace StrChars
open Jvm Sem ClassFile Op Lib Jvm.Stand Jvm.Free.XT Jvm.Free.ALB Jvm.Free.JM Jvm.Free
open Jvm.Lib.Cold (StaticIs)
namespace ChN
def yN : MethodName := ⟨"java/lang/String", "charAt", "(I)C"⟩
abbrev yB : ByteArray := jdk_42_method_56_code
theorem d0 : decode yB 0 = .ok (.aload_n 0, 1) := by decide +kernel
theorem d1 : decode yB 1 = .ok (.invokevirtual 492, 3) := by decide +kernel
theorem d4 : decode yB 4 = .ok (.ifCond (.eq) 12, 3) := by decide +kernel
theorem d7 : decode yB 7 = .ok (.aload_n 0, 1) := by decide +kernel
theorem d8 : decode yB 8 = .ok (.getfield 9, 3) := by decide +kernel
theorem d11 : decode yB 11 = .ok (.iload_n 1, 1) := by decide +kernel
theorem d12 : decode yB 12 = .ok (.invokestatic 495, 3) := by decide +kernel
theorem d15 : decode yB 15 = .ok (.ireturn, 1) := by decide +kernel
def site : List Cond := [.fieldLink "java/lang/String" 9 "java/lang/String" "value" "[B", IsL.tab, LChA.tab] ++ virtW "java/lang/String" 492 "java/lang/String" IsL.yN IsL.yN ++ staticW "java/lang/String" 495 LChA.yN
def tab : Cond := tabOf yN yB 2 (some .char) site
def P (x t : Addr) (V : Cell) (n : Nat) (f : Nat → Int32) (z : Int32) (fm : Value) (i : Nat) (args : Array Value) (s : State) : Prop := args = #[.ref x, .int (Int32.ofNat i)] ∧ Txt x t V 0 n f s ∧ i < n ∧ StaticIs s "java/lang/String" "COMPACT_STRINGS" "Z" (.int z) ∧ ¬ z = 0 ∧ StaticIs s "jdk/internal/util/Preconditions" "SIOOBE_FORMATTER" "Ljava/util/function/BiFunction;" fm ∧ fm.isRef = true
def E (f : Nat → Int32) (i : Nat) (r : Option Value) (s u : State) : Prop := XT.PureE (some (.int (f i))) r s u
/-- charAt(i) of a Latin-1 String of n chars, i < n: f i -/
theorem law (l : Launch) (x t : Addr) (V : Cell) (n : Nat) (f : Nat → Int32) (z : Int32) (fm : Value) (i : Nat) : Law l yN 2 1 3 40 yB 2 (some .char) site (P x t V n f z fm i) (E f i) [] 0 0 := by
  refine Law.of_walk (plainFor_of_name (by decide +kernel)) (by decide +kernel) (by decide +kernel) (by decide) (fun _ _ h => by rw [h.1]; rfl) (fun _ U U' hal hh h => ⟨h.1, h.2.1.mv hal hh, h.2.2.1, h.2.2.2.1.there hal hh, h.2.2.2.2.1, h.2.2.2.2.2.1.there hal hh, h.2.2.2.2.2.2⟩) (fun r U U' V V' h1 hal h2 h => XT.PureE.mv r U U' V V' h1 hal h2 h) ?_
  intro p e s m args below meth c s₁ X0 hexec hbytes hml hret hlk hnm hown hh0 W hP
  obtain ⟨rfl, hx, hi, s1, hz, s3, rf⟩ := hP
  have v31 := hx.2.2.2.1.2.2.2
  have hr := hx.2.2.2.2.2 i hi
  have hx0 := hx.mv X0.warmed.alike hh0
  have c1 : Steps p.tables e below (s₁.setTop (entryFrame m #[.ref x, .int (Int32.ofNat i)] 2)) (s₁.setTop (mkF m 1 #[.val (.ref x), .val (.int (Int32.ofNat i))] [.ref x])) := Steps.trans (entry rfl) (by
    show Steps p.tables e below (s₁.setTop (mkF m 0 #[.val (.ref x), .val (.int (Int32.ofNat i))] [])) _
    refine XS.aloadN X0.here hexec rfl (hb hbytes d0) rfl rfl ?_
    exact Steps.refl _)
  obtain ⟨v2, T2, X2, E2, g2⟩ := X0.callV hexec (IsL.law l x 0 z) hown (wks W (virtW "java/lang/String" 492 "java/lang/String" IsL.yN IsL.yN)) rfl (by decide) (wk W IsL.tab) (W := 0) (Nat.le_of_ble_eq_true rfl) (Nat.le_of_ble_eq_true rfl) (Nat.le_refl _) (Nat.le_refl _) (hx0.1.fc X0.warmed.alike) hx0.1.is (g := (mkF m 1 #[.val (.ref x), .val (.int (Int32.ofNat i))] [.ref x])) rfl (by rw [hml]; rfl) c1 (argsL := []) (rest := []) rfl rfl (by show 2 * 0 + 0 ≤ _; decide) (hb hbytes d1) (⟨rfl, hx0.2.2.1, hx.2.2.2.2.1.cd, s1.there X0.warmed.alike hh0, hz⟩)
  obtain ⟨rfl, q2⟩ := E2
  have hh2 := q2.trans hh0
  have hx2 := hx.mv X2.warmed.alike hh2
  obtain ⟨-, k1, k2⟩ | ⟨k0, -⟩ := hx.2.2.2.2.1
  · have c3 : Steps p.tables e below (s₁.setTop (entryFrame m #[.ref x, .int (Int32.ofNat i)] 2)) (T2.setTop (mkF m 8 #[.val (.ref x), .val (.int (Int32.ofNat i))] [.ref x])) := Steps.trans g2 (by
      refine XS.ifNo X2.here hexec rfl (hb hbytes d4) rfl (i0_eq_f (by decide)) ?_
      refine XS.aloadN X2.here hexec rfl (hb hbytes d7) rfl rfl ?_
      exact Steps.refl _)
    obtain ⟨T4, X4, q4, st4⟩ := X2.hget hexec hown (wk W (.fieldLink "java/lang/String" 9 "java/lang/String" "value" "[B")) hx2.2.1 (g := (mkF m 8 #[.val (.ref x), .val (.int (Int32.ofNat i))] [.ref x])) rfl (rest := []) rfl (hb hbytes d8)
    have hh4 := q4.trans hh2
    have c5 : Steps p.tables e below (s₁.setTop (entryFrame m #[.ref x, .int (Int32.ofNat i)] 2)) (T4.setTop (mkF m 12 #[.val (.ref x), .val (.int (Int32.ofNat i))] [.int (Int32.ofNat i), .ref t])) := (c3.trans (st4 _ (Steps.refl _))).trans (by
      refine XS.iloadN X4.here hexec rfl (hb hbytes d11) rfl ?_
      exact Steps.refl _)
    obtain ⟨v6, T6, X6, E6, g6⟩ := X4.callS hexec (LChA.law l t V i (lo8 (f i)) fm) hown (wks W (staticW "java/lang/String" 495 LChA.yN)) (wk W LChA.tab) (W := 0) (Nat.le_of_ble_eq_true rfl) (Nat.le_of_ble_eq_true rfl) (Nat.le_refl _) (Nat.le_refl _) (g := (mkF m 12 #[.val (.ref x), .val (.int (Int32.ofNat i))] [.int (Int32.ofNat i), .ref t])) rfl (by rw [hml]; rfl) c5 (argsL := [.ref t, .int (Int32.ofNat i)]) (rest := []) rfl rfl (by show 2 * 0 + 0 ≤ _; decide) (hb hbytes d12) (⟨rfl, hx.2.2.2.1.mv X4.warmed.alike hh4, (k2 i hi).1, s3.there X4.warmed.alike hh4, rf⟩)
    obtain ⟨rfl, q6⟩ := E6
    rw [chr8_lo8 hr.1 (k2 i hi).2] at g6
    exact ⟨T6, some (.int (f i)), _, _, _, X6, rfl, rfl, rfl, (fun h => by cases h), ⟨rfl, q6.trans hh4⟩, fun fs hl => Steps.trans g6 (X6.ireturnOut hexec hret (narrow_ch hr.1 hr.2) (Or.inr (Or.inr (Or.inr (Or.inl rfl)))) (hb hbytes d15) hl)⟩
  · exact absurd k0 (by decide)
theorem pays {l : Launch} {R : Room} {p : Program} {e : Env} {below : List Frame} {s : State} {sargs : Array Value} {len W : Nat} (x t : Addr) (V : Cell) (n : Nat) (f : Nat → Int32) (z : Int32) (fm : Value) (i : Nat) (htab : tab.before sargs s = true) (hfr : 4 ≤ R.frames) (hlo : W + 53 ≤ R.locals) :
    Back l R p e below s sargs yN len W (fun A₁ a₁ => A₁.cells + 0 ≤ R.cells ∧ A₁.slots + 0 ≤ R.slots ∧ P x t V n f z fm i a₁ A₁.U) (fun A₁ _ v₁ B₁ => E f i v₁ A₁.U B₁.U ∧ B₁.locs = A₁.locs ++ [] ∧ B₁.cells = A₁.cells + 0 ∧ B₁.slots = A₁.slots + 0) :=
  (law l x t V n f z fm i).pays htab hfr (by omega)
end ChN
end StrChars
namespace StrChars.Road
open Jvm Sem ClassFile Op Lib Jvm.Stand Jvm.Free Jvm.Free.XT
open Jvm.Lib.Cold (StaticIs)
/-- the words of String.charAt(int), the Latin-1 road alone -/
abbrev wordsChN : List Jvm.Cond := [.code ChN.yN ChN.yB 2 (some .char), .initialized ST, .fieldLink ST 9 ST "value" "[B", .fieldLink ST 38 ST "COMPACT_STRINGS" "Z", .fieldLink ST 15 ST "coder" "B", .code IsL.yN IsL.yB 1 (some .boolean), .methodLink ST 492 IsL.yN, .declares IsL.yN, .selects ST IsL.yN IsL.yN, .instanceMethod IsL.yN,
  .methodLink ST 495 LChA.yN, .static LChA.yN, .code LChA.yN LChA.yB 2 (some .char), .initialized "java/lang/StringLatin1", .methodLink "java/lang/StringLatin1" 9 JO.Str_checkIndex.yN, .static JO.Str_checkIndex.yN, .code JO.Str_checkIndex.yN JO.Str_checkIndex.yB 2 none,
  .fieldLink ST 1053 "jdk/internal/util/Preconditions" "SIOOBE_FORMATTER" "Ljava/util/function/BiFunction;", .methodLink ST 1059 JC.PreCheck.yN, .static JC.PreCheck.yN, .code JC.PreCheck.yN JC.PreCheck.yB 3 (some .int), .initialized "jdk/internal/util/Preconditions"]
theorem tabChN_of {a : Array Value} {s : State} (h : ∀ w ∈ wordsChN, w.before a s = true) : ChN.tab.before a s = true := by
  have hp : JC.PreCheck.tab.before a s = true := unparts (wk h (.code JC.PreCheck.yN JC.PreCheck.yB 3 (some .int))) (wks h (.initialized JC.PreCheck.yN.cls :: JC.PreCheck.site))
  have qk := consq hp h
  have hk : JO.Str_checkIndex.tab.before a s = true := unparts (wk qk (.code JO.Str_checkIndex.yN JO.Str_checkIndex.yB 2 none)) (wks qk (.initialized JO.Str_checkIndex.yN.cls :: JO.Str_checkIndex.site))
  have ql := consq hk h
  have hl : LChA.tab.before a s = true := unparts (wk ql (.code LChA.yN LChA.yB 2 (some .char))) (wks ql (.initialized LChA.yN.cls :: LChA.site))
  have hi : IsL.tab.before a s = true := unparts (wk h (.code IsL.yN IsL.yB 1 (some .boolean))) (wks h (.initialized IsL.yN.cls :: IsL.site))
  have q := consq hi (consq hl h)
  exact unparts (wk q (.code ChN.yN ChN.yB 2 (some .char))) (wks q (.initialized ChN.yN.cls :: ChN.site))
theorem movedChN {Z s : State} {a0 args : Array Value} (hZ : Z.Warmed39 s.vm) (hw : ∀ d ∈ wordsChN, d.before a0 Z = true) : ∀ d ∈ wordsChN, d.before args s = true := fun d hd => by
  have t : ∀ d ∈ wordsChN, (d.onTables && d.keepsFace) = true := by decide +kernel
  exact RoadKit.mv hZ (hw d hd) (t d hd)
/-- **charAt(i) OF A LATIN-1 STRING**, i < n: the char -/
theorem chN {p : Program} {l : Launch} {e : Env} {R : Room} {s : State} {args : Array Value} {below : List Frame} {len W : Nat} {Z : State} {a0 : Array Value} {h : Heap} (hZ : Z.Warmed39 s.vm) (hw : ∀ d ∈ wordsChN, d.before a0 Z = true) {kI : Nat} (wi : (Jvm.Cond.instantiable ST kI).before a0 Z = true)
    {x t : Addr} {kb : ClassId} {cs : List Int32} {N2 z : Int32} {vs : List Value} {fm : Value} {i : Nat} {j : Int32} (E : RoadKit.Exa Z h x ST) (V : RoadKit.Fld Z h x ST "value" "[B" (.ref t)) (C : RoadKit.Fld Z h x ST "coder" "B" (.int 0)) (K : RoadKit.Arv Z h t kb .byte N2 vs (.int 0)) (hc : CodA cs 0 N2 vs) (hb : ∀ c ∈ cs, ¬ c < 0 ∧ ¬ (65535 : Int32) < c)
    (S : RoadKit.Sta Z h ST "COMPACT_STRINGS" "Z" (.int z)) (hz : ¬ z = 0) (F : RoadKit.Sta Z h "jdk/internal/util/Preconditions" "SIOOBE_FORMATTER" "Ljava/util/function/BiFunction;" fm) (rf : fm.isRef = true) (l2 : cs.length ≤ 4000) (hi : i < cs.length) (hj : j = Int32.ofNat i) (hfr : 4 ≤ R.frames) (hlo : W + 53 ≤ R.locals) :
    Back l R p e below s args (⟨"java/lang/String", "charAt", "(I)C"⟩ : MethodName) len W (fun P a => a = #[.ref x, .int j] ∧ P.U.heap = h ∧ P.cells + 0 ≤ R.cells ∧ P.slots + 0 ≤ R.slots)
      (fun P _ v B => ∃ L, (v = some (.int (cs.getD i 0)) ∧ L = [] ∧ B.U.heap = h) ∧ B.locs = P.locs ++ L ∧ B.cells = P.cells + 0 ∧ B.slots = P.slots + 0) := by
  subst hj
  intro m meth c P g ig mk a X hg hsize hdg hW hn hp'
  obtain ⟨rfl, rfl, r1, r2⟩ := hp'
  have al : Z.vm.Alike P.U.vm := hZ.alike.trans X.warmed.alike
  obtain ⟨A, hx⟩ := txt_of wi al E V C K hc hb l2
  obtain ⟨v, B, X', ⟨⟨hv, hh⟩, hl, hk, hs⟩, st⟩ := ChN.pays x t A cs.length (fun j => cs.getD j 0) z fm i (tabChN_of (movedChN hZ hw)) hfr hlo m meth c P g ig mk _ X hg hsize hdg hW hn ⟨r1, r2, rfl, hx, hi, sta_is al S, hz, sta_is al F, rf⟩
  exact ⟨v, B, X', ⟨[], ⟨hv, rfl, hh⟩, hl, hk, hs⟩, st⟩
end StrChars.Road
end Jvm.Pilot.@@N@@
namespace Jvm.Pilot.@@N@@
open Jvm Jvm.ClassFile Sem Op Lib Jvm.Free Jvm.Stand Jvm.LawKit Jvm.RoadKit Bundle Jvm.Own Jvm.Pilot.@@N@@.Jvm.D
theorem owS {a0 : Array Value} {Z : State} (hw : ∀ d ∈ tables_1, d.before a0 Z = true) : ∀ a ∈ Bundle.stringAtoms, a.before a0 Z = true := fun d hd => hw d ((by decide +kernel : ∀ d ∈ Bundle.stringAtoms, d ∈ tables_1) d hd)
theorem hws' {a0 : Array Value} {Z : State} (hw : ∀ d ∈ tables_1, d.before a0 Z = true) : (Jvm.Cond.instantiable "java/lang/String" 4).before a0 Z = true := owS hw _ (by simp [Bundle.stringAtoms, Bundle.sN])
theorem strPay {l : Launch} {Z : State} {a0 : Array Value} {EL : List (String × Nat)} {R : Room} {K : Cx} {h : Heap} (hw : ∀ d ∈ tables_1, d.before a0 Z = true) (hE : EW Z a0 EL) (x b : Addr) {kC : ClassId} (N : Int32) (cs : List Int32) {d v0 c0 : Value} {z : Int32} (n Wd : Nat) (E : Exa Z h x "java/lang/String") (V : Fld Z h x "java/lang/String" "value" "[B" v0) (C : Fld Z h x "java/lang/String" "coder" "B" c0) (A : Arv Z h b kC .char N (cs.map Value.int) d) (S : Sta Z h "java/lang/String" "COMPACT_STRINGS" "Z" (.int z)) (hz : ¬ z = 0) (hn : cs.length = n) (hN : N.toNatClampNeg = cs.length) (l0 : 0 < cs.length) (l2 : cs.length ≤ 536870912) (hall : ∀ c ∈ cs, ¬ 255 < c) (hfr : 4 ≤ R.frames) (hlo : Wd + 65 ≤ R.locals) :
    Cb l Z EL R K (⟨"java/lang/String", "<init>", "([C)V"⟩ : MethodName) 3 Wd 1 n #[.ref x, .ref b] h [x] (fun v h' so => ∃ t : Addr, ∃ kb : ClassId, v = none ∧ so = [] ∧ h.size ≤ t ∧ Exa Z h' x "java/lang/String" ∧ Fld Z h' x "java/lang/String" "coder" "B" (.int (0 : Int32)) ∧ Fld Z h' x "java/lang/String" "value" "[B" (.ref t) ∧ Arv Z h' t kb .byte N (cs.map fun c => Value.int (StrChars.lo8 c)) (.int 0)) := by
  subst hn
  have hws : ∀ d ∈ StrChars.Road.words, d.before a0 Z = true := fun d hd => hw d ((by decide +kernel : ∀ d ∈ StrChars.Road.words, d ∈ tables_1) d hd)
  refine Cb.bk (a0 := a0) (fun vm0 hZ => StrChars.Road.backArv (s := K.2.2.1.setVm vm0) hZ hws (kI := 4) (hws' hw) E V C A S hz hN l0 l2 hall hfr hlo) hE ?_
  intro v h' L q
  obtain ⟨q1, q2, q3, q4, q5, q6, q7, ⟨kb, -, q8⟩, -⟩ := q
  exact ⟨⟨h.size, kb, q1, rfl, Nat.le_refl _, q5, q7, q6, q8⟩, q3, fun y hy => Or.inl (by rw [q2 y hy]; simp)⟩
/-- a String that spells cs -/
def Str (Z : State) (h : Heap) (a : Addr) (cs : List Int32) : Prop := ∃ (t : Addr) (kb : ClassId) (cd N : Int32) (vs : List Value), Exa Z h a "java/lang/String" ∧ Fld Z h a "java/lang/String" "value" "[B" (.ref t) ∧ Fld Z h a "java/lang/String" "coder" "B" (.int cd) ∧ Arv Z h t kb .byte N vs (.int 0) ∧ StrChars.Road.CodA cs cd N vs ∧ (∀ c ∈ cs, ¬ c < 0 ∧ ¬ (65535 : Int32) < c) ∧ cs.length ≤ 4000
section StrFacts
variable {Z : State} {a0 : Array Value} {h h' : Heap} {a x : Addr} {cs ds : List Int32} {ws : List Addr}
theorem Str.exa (F : Str Z h a cs) : Exa Z h a "java/lang/String" := by obtain ⟨_, _, _, _, _, A, _⟩ := F; exact A
theorem Str.lt (F : Str Z h a cs) : a < h.size := F.exa.lt
theorem Str.ext (F : Str Z h a cs) (E : Ext h h') : Str Z h' a cs := by
  obtain ⟨t, kb, cd, N, vs, A, V, C, K, r⟩ := F
  exact ⟨t, kb, cd, N, vs, A.ext E, V.ext E, C.ext E, K.ext E, r⟩
theorem Str.keep (F : Str Z h a cs) (K : Keep h h' ws) (hn : a ∉ ws) (hb : ∀ x ∈ ws, ∃ C n, Exa Z h x C ∧ (Cond.instantiable C n).before a0 Z = true) : Str Z h' a cs := by
  obtain ⟨t, kb, cd, N, vs, A, V, C, B, r⟩ := F
  have ht : t ∉ ws := fun q => by obtain ⟨D, n, E, wi⟩ := hb t q; exact (E.neArv B wi) rfl
  exact ⟨t, kb, cd, N, vs, A.keep K, V.keep K hn, C.keep K hn, B.keep K ht, r⟩
theorem Str.wrO {sl : Nat} {v : Value} {D : String} {n : Nat} (F : Str Z h a cs) (W : Wr h h' x sl v) (hn : a ≠ x) (E : Exa Z h x D) (wi : (Cond.instantiable D n).before a0 Z = true) : Str Z h' a cs := by
  obtain ⟨t, kb, cd, N, vs, A, V, C, B, r⟩ := F
  exact ⟨t, kb, cd, N, vs, A.wr W, V.other W (Or.inl hn), C.other W (Or.inl hn), B.other W (Ne.symm (E.neArv B wi)), r⟩
theorem ty_ne {ty ty' : FieldType} {k k' : ClassId} {z z' : Int32} {vs vs' : List Value} {d d' : Value} {b : Addr} (A : Arv Z h x k ty z vs d) (B : Arv Z h b k' ty' z' vs' d') (ht : ty ≠ ty') : x ≠ b := fun e => by
  subst e
  obtain ⟨c1, ⟨p1, ⟨-, k1, q1, cm1, r1⟩, -⟩, -⟩ := A
  obtain ⟨c2, ⟨p2, ⟨-, k2, q2, cm2, r2⟩, -⟩, -⟩ := B
  cases p1.symm.trans p2
  cases q1.symm.trans q2
  have := r1.symm.trans r2
  injection this with _ e
  exact ht e
theorem Str.wrA {sl : Nat} {v : Value} {ty : FieldType} {k : ClassId} {z : Int32} {vs : List Value} {d : Value} (F : Str Z h a cs) (W : Wr h h' x sl v) (hn : a ≠ x) (B : Arv Z h x k ty z vs d) (ht : ty ≠ .byte) : Str Z h' a cs := by
  obtain ⟨t, kb, cd, N, vs, A, V, C, T, r⟩ := F
  exact ⟨t, kb, cd, N, vs, A.wr W, V.other W (Or.inl hn), C.other W (Or.inl hn), T.other W (Ne.symm (ty_ne B T ht)), r⟩
theorem Str.mk {t : Addr} {kb : ClassId} {N : Int32} (A : Exa Z h a "java/lang/String") (C : Fld Z h a "java/lang/String" "coder" "B" (.int (0 : Int32))) (V : Fld Z h a "java/lang/String" "value" "[B" (.ref t)) (K : Arv Z h t kb .byte N (cs.map fun c => Value.int (StrChars.lo8 c)) (.int 0)) (hN : N = Int32.ofNat cs.length) (hb : ∀ c ∈ cs, ¬ c < 0 ∧ ¬ (255 : Int32) < c) (hl : cs.length ≤ 4000) : Str Z h a cs :=
  ⟨t, kb, 0, N, _, A, V, C, K, Or.inl ⟨rfl, hN, rfl, fun c q => (hb c q).2⟩, fun c q => ⟨(hb c q).1, fun z => (hb c q).2 (Int32.lt_trans (by decide) z)⟩, hl⟩
end StrFacts
theorem eqPay {l : Launch} {Z : State} {a0 : Array Value} {EL : List (String × Nat)} {R : Room} {K : Cx} {ln : Nat} {h : Heap} (hw : ∀ d ∈ tables_1, d.before a0 Z = true) (hE : EW Z a0 EL) (x y : Addr) (cs ds : List Int32) {z : Int32} (Wd : Nat) (F : Str Z h x cs) (G : Str Z h y ds) (S : Sta Z h "java/lang/String" "COMPACT_STRINGS" "Z" (.int z)) (hz : ¬ z = 0) (hfr : 2 ≤ R.frames) (hlo : Wd + 28 ≤ R.locals) :
    Cb l Z EL R K (⟨"java/lang/String", "equals", "(Ljava/lang/Object;)Z"⟩ : MethodName) ln Wd 0 0 #[.ref x, .ref y] h [] (fun v h' so => ∃ b : Int32, v = some (.int b) ∧ so = [] ∧ ((b = 1 ∧ cs = ds) ∨ (b = 0 ∧ ¬ cs = ds))) := by
  have hws : ∀ d ∈ StrChars.Road.wordsEq, d.before a0 Z = true := fun d hd => hw d ((by decide +kernel : ∀ d ∈ StrChars.Road.wordsEq, d ∈ tables_1) d hd)
  obtain ⟨t, kb, cd, N, vs, A, V, C, B, q1, q2, q3⟩ := F
  obtain ⟨t', kb', cd', N', vs', A', V', C', B', r1, r2, r3⟩ := G
  refine Cb.bk (a0 := a0) (Qb := fun v h' L => ((v = some (.int 1) ∧ cs = ds) ∨ (v = some (.int 0) ∧ ¬ cs = ds)) ∧ L = [] ∧ h' = h) (fun vm0 hZ => StrChars.Road.eqW (s := K.2.2.1.setVm vm0) hZ hws (kI := 4) (hws' hw) A V C B q1 q2 q3 A' V' C' B' r1 r2 r3 S hz hfr hlo) hE ?_
  rintro v h' L ⟨q, rfl, rfl⟩
  refine ⟨?_, Keep.refl _ _, fun _ q => nomatch q⟩
  rcases q with ⟨rfl, e⟩ | ⟨rfl, e⟩
  · exact ⟨1, rfl, rfl, Or.inl ⟨rfl, e⟩⟩
  · exact ⟨0, rfl, rfl, Or.inr ⟨rfl, e⟩⟩
theorem chPay {l : Launch} {Z : State} {a0 : Array Value} {EL : List (String × Nat)} {R : Room} {K : Cx} {ln : Nat} {h : Heap} (hw : ∀ d ∈ tables_1, d.before a0 Z = true) (hE : EW Z a0 EL) (x : Addr) (cs : List Int32) {z : Int32} {fm : Value} (i : Nat) (j : Int32) (Wd : Nat) (F : Str Z h x cs) (h255 : ∀ c ∈ cs, ¬ (255 : Int32) < c) (S : Sta Z h "java/lang/String" "COMPACT_STRINGS" "Z" (.int z)) (hz : ¬ z = 0) (SF : Sta Z h "jdk/internal/util/Preconditions" "SIOOBE_FORMATTER" "Ljava/util/function/BiFunction;" fm) (rf : fm.isRef = true) (hi : i < cs.length) (hj : j = Int32.ofNat i) (hfr : 4 ≤ R.frames) (hlo : Wd + 53 ≤ R.locals) :
    Cb l Z EL R K (⟨"java/lang/String", "charAt", "(I)C"⟩ : MethodName) ln Wd 0 0 #[.ref x, .int j] h [] (fun v h' so => v = some (.int (cs.getD i 0)) ∧ so = []) := by
  have hws : ∀ d ∈ StrChars.Road.wordsChN, d.before a0 Z = true := fun d hd => hw d ((by decide +kernel : ∀ d ∈ StrChars.Road.wordsChN, d ∈ tables_1) d hd)
  obtain ⟨t, kb, cd, N, vs, A, V, C, B, q1, q2, q3⟩ := F
  rcases q1 with q1 | ⟨-, -, -, c, hc, hb⟩
  · obtain ⟨rfl, r⟩ := q1
    refine Cb.bk (a0 := a0) (Qb := fun v h' L => v = some (.int (cs.getD i 0)) ∧ L = [] ∧ h' = h) (fun vm0 hZ => StrChars.Road.chN (s := K.2.2.1.setVm vm0) hZ hws (kI := 4) (hws' hw) A V C B (Or.inl ⟨rfl, r⟩) q2 S hz SF rf q3 hi hj hfr hlo) hE ?_
    rintro v h' L ⟨rfl, rfl, rfl⟩
    exact ⟨⟨rfl, rfl⟩, Keep.refl _ _, fun _ q => nomatch q⟩
  · exact absurd hb (h255 c hc)
theorem Str.mkL {Z : State} {h : Heap} {a t : Addr} {kb : ClassId} {N : Int32} {cs : List Int32} {vs : List Value} (A : Exa Z h a "java/lang/String") (C : Fld Z h a "java/lang/String" "coder" "B" (.int (0 : Int32))) (V : Fld Z h a "java/lang/String" "value" "[B" (.ref t)) (K : Arv Z h t kb .byte N vs (.int 0)) (hvs : vs = cs.map fun c => Value.int (StrChars.lo8 c)) (hN : N = Int32.ofNat cs.length) (hb : ∀ c ∈ cs, ¬ c < 0 ∧ ¬ (255 : Int32) < c) (hl : cs.length ≤ 4000) : Str Z h a cs := by
  subst hvs; exact Str.mk A C V K hN hb hl

/-- what the law's premise says of Priority's statics and of Optional.EMPTY -/
def Wld (Z : State) (va : Addr) (kv : ClassId) (nr hi wn wh em : Addr) : Prop :=
  Sta Z Z.heap "com/example/tidewire/tidewire/message/Priority" "$VALUES" "[Lcom/example/tidewire/tidewire/message/Priority;" (.ref va) ∧ Arv Z Z.heap va kv (.object "com/example/tidewire/tidewire/message/Priority") 2 [.ref nr, .ref hi] .null ∧ Exa Z Z.heap va "[Lcom/example/tidewire/tidewire/message/Priority;" ∧ Fld Z Z.heap nr "com/example/tidewire/tidewire/message/Priority" "wireName" "Ljava/lang/String;" (.ref wn) ∧ Str Z Z.heap wn [110, 111, 114, 109, 97, 108] ∧ Fld Z Z.heap hi "com/example/tidewire/tidewire/message/Priority" "wireName" "Ljava/lang/String;" (.ref wh) ∧ Str Z Z.heap wh [104, 105, 103, 104] ∧ Sta Z Z.heap "java/util/Optional" "EMPTY" "Ljava/util/Optional;" (.ref em) ∧ Exa Z Z.heap em "java/util/Optional" ∧ Fld Z Z.heap em "java/util/Optional" "value" "Ljava/lang/Object;" .null ∧ Sta Z Z.heap "com/example/tidewire/tidewire/message/Priority" "NORMAL" "Lcom/example/tidewire/tidewire/message/Priority;" (.ref nr) ∧ Sta Z Z.heap "com/example/tidewire/tidewire/message/Priority" "HIGH" "Lcom/example/tidewire/tidewire/message/Priority;" (.ref hi)
theorem opn0 : plainName "java/lang/String" = true := by first | (simp [plainName, overriddenIn]; done) | decide +kernel
theorem d3_0 : decode jdk_42_method_149_code 0 = .ok (.aload_n 0, 1) := by decide +kernel
theorem d3_1 : decode jdk_42_method_149_code 1 = .ok (.invokespecial 1, 3) := by decide +kernel
theorem ow15 {a0 : Array Value} {Z : State} (hw : ∀ d ∈ tables_1, d.before a0 Z = true) : (Jvm.Cond.methodLink "java/lang/String" (1 : Nat) ({ cls := "java/lang/Object", name := "<init>", desc := "()V" } : Jvm.MethodName)).before a0 Z = true := hw _ (List.mem_of_getElem? (i := 15) rfl)
theorem ow16 {a0 : Array Value} {Z : State} (hw : ∀ d ∈ tables_1, d.before a0 Z = true) : (Jvm.Cond.instanceMethod ({ cls := "java/lang/Object", name := "<init>", desc := "()V" } : Jvm.MethodName)).before a0 Z = true := hw _ (List.mem_of_getElem? (i := 16) rfl)
theorem ow17 {a0 : Array Value} {Z : State} (hw : ∀ d ∈ tables_1, d.before a0 Z = true) : (Jvm.Cond.code ({ cls := "java/lang/Object", name := "<init>", desc := "()V" } : Jvm.MethodName) object_method_1_code (1 : Nat) (Option.none : Option Jvm.ClassFile.FieldType)).before a0 Z = true := hw _ (List.mem_of_getElem? (i := 17) rfl)
theorem d3_4 : decode jdk_42_method_149_code 4 = .ok (.iload_n 3, 1) := by decide +kernel
theorem d3_5 : decode jdk_42_method_149_code 5 = .ok (.ifCond .ne 22, 3) := by decide +kernel
theorem d3_8 : decode jdk_42_method_149_code 8 = .ok (.aload_n 0, 1) := by decide +kernel
theorem d3_9 : decode jdk_42_method_149_code 9 = .ok (.ldc 7, 2) := by decide +kernel
theorem ow18 {a0 : Array Value} {Z : State} (hw : ∀ d ∈ tables_1, d.before a0 Z = true) : (Jvm.Cond.stringLink "java/lang/String" (7 : Nat) "").before a0 Z = true := hw _ (List.mem_of_getElem? (i := 18) rfl)
theorem d3_11 : decode jdk_42_method_149_code 11 = .ok (.getfield 9, 3) := by decide +kernel
theorem ow24 {a0 : Array Value} {Z : State} (hw : ∀ d ∈ tables_1, d.before a0 Z = true) : (Jvm.Cond.fieldLink "java/lang/String" (9 : Nat) "java/lang/String" "value" "[B").before a0 Z = true := hw _ (List.mem_of_getElem? (i := 24) rfl)
theorem d3_14 : decode jdk_42_method_149_code 14 = .ok (.putfield 9, 3) := by decide +kernel
theorem ow20 {a0 : Array Value} {Z : State} (hw : ∀ d ∈ tables_1, d.before a0 Z = true) : (Jvm.Cond.laysFinal "java/lang/String" "java/lang/String" "value" "[B").before a0 Z = true := hw _ (List.mem_of_getElem? (i := 20) rfl)
theorem ow6 {a0 : Array Value} {Z : State} (hw : ∀ d ∈ tables_1, d.before a0 Z = true) : (Jvm.Cond.instantiable "java/lang/String" (4 : Nat)).before a0 Z = true := hw _ (List.mem_of_getElem? (i := 6) rfl)
theorem d3_17 : decode jdk_42_method_149_code 17 = .ok (.aload_n 0, 1) := by decide +kernel
theorem d3_18 : decode jdk_42_method_149_code 18 = .ok (.ldc 7, 2) := by decide +kernel
theorem d3_20 : decode jdk_42_method_149_code 20 = .ok (.getfield 15, 3) := by decide +kernel
theorem ow25 {a0 : Array Value} {Z : State} (hw : ∀ d ∈ tables_1, d.before a0 Z = true) : (Jvm.Cond.fieldLink "java/lang/String" (15 : Nat) "java/lang/String" "coder" "B").before a0 Z = true := hw _ (List.mem_of_getElem? (i := 25) rfl)
theorem d3_23 : decode jdk_42_method_149_code 23 = .ok (.putfield 15, 3) := by decide +kernel
theorem ow21 {a0 : Array Value} {Z : State} (hw : ∀ d ∈ tables_1, d.before a0 Z = true) : (Jvm.Cond.laysFinal "java/lang/String" "java/lang/String" "coder" "B").before a0 Z = true := hw _ (List.mem_of_getElem? (i := 21) rfl)
theorem d3_26 : decode jdk_42_method_149_code 26 = .ok (.return_, 1) := by decide +kernel
theorem oef_orm_new4E (m : MethodId) (a : Addr) (b : Addr)  : (entryFrame m #[(.ref a), (.ref b), (.int (0 : Int32)), (.int (0 : Int32)), .null] 6).locals = #[.val (.ref a), .val (.ref b), .val (.int (0 : Int32)), .val (.int (0 : Int32)), .val .null, .unset] := by first | (simp [entryFrame, argsToLocals, Value.category]; done) | rfl
set_option maxRecDepth 65536 in
set_option maxHeartbeats 40000000 in
theorem orm_new4E (l : Launch) (Z : State) (a0 : Array Value) (hw : ∀ d ∈ tables_1, d.before a0 Z = true) (hE : EW Z a0 consts_1) (a : Addr) (b : Addr) (h : Heap) (hO : Old Z Z.heap.size h) (qE : Exa Z h a "java/lang/String") (qV : Fld Z h a "java/lang/String" "value" "[B" .null) (qC : Fld Z h a "java/lang/String" "coder" "B" (.int (0 : Int32))) (ge_a : Z.heap.size ≤ a) :
    Ct l Z consts_1 (⟨"java/lang/String", "<init>", "([CIILjava/lang/Void;)V"⟩ : MethodName) jdk_42_method_149_code 6 (Option.none : Option Jvm.ClassFile.FieldType) ⟨1, 4, 8, 15⟩ #[(.ref a), (.ref b), (.int (0 : Int32)), (.int (0 : Int32)), .null] h [a] (fun rv' hp' so' => ∃ t : Addr, ∃ kb : ClassId, rv' = none ∧ so' = [] ∧ Exa Z hp' a "java/lang/String" ∧ Fld Z hp' a "java/lang/String" "coder" "B" (.int (0 : Int32)) ∧ Fld Z hp' a "java/lang/String" "value" "[B" (.ref t) ∧ Arv Z hp' t kb .byte (0 : Int32) [] (.int 0)) := by
  refine Ct.mk "java/lang/String" "<init>" rfl rfl (a0 := a0) (plainFor_of_name opn0) hO hE (fun x q => by simp at q; subst q; exact ge_a) ?_
  intro K T W
  rw [oef_orm_new4E]
  refine gAloadN W d3_0 rfl rfl rfl ?_
  refine wInitO W d3_1 (ow15 hw) (ow16 hw) (ow17 hw) rfl (by decide) 0 (Nat.le_of_eq rfl) (by decide) rfl fun T1 W2 => ?_
  refine gIloadN W2 d3_4 rfl rfl ?_
  refine gIfNo W2 d3_5 ((if0 _ _).trans (teq rfl).2) rfl ?_
  refine gAloadN W2 d3_8 rfl rfl rfl ?_
  refine wLdcS (vs := []) (z := 0) (n := 0) W2 d3_9 (ow18 hw) (owS hw) hE (by decide) (by decide) (by decide) (by decide) (by decide) (by decide) (by decide) (by decide) rfl fun T3 h5 a6 t7 k8 W4 E9 A10 f11 f12 f13 ne14 => ?_
  refine wGetF W4 d3_11 (ow24 hw) Via.refl f12 rfl fun T15 W16 => ?_
  have f17 := qV.ext E9
  have f18 := qE.ext E9
  refine wPutF (ty := .array .byte) W16 d3_14 (ow24 hw) Via.refl (by simp) f17 f18 (Or.inr ⟨(ow20 hw), rfl, rfl⟩) (ow6 hw) (by decide) rfl rfl rfl fun T19 h21 W20 wr22 => ?_
  have f23 := Fld.same wr22 f17
  refine gAloadN W20 d3_17 rfl rfl rfl ?_
  refine wLdcS (vs := []) (z := 0) (n := 0) W20 d3_18 (ow18 hw) (owS hw) hE (by decide) (by decide) (by decide) (by decide) (by decide) (by decide) (by decide) (by decide) rfl fun T24 h26 a27 t28 k29 W25 E30 A31 f32 f33 f34 ne35 => ?_
  refine wGetF W25 d3_20 (ow25 hw) Via.refl f32 rfl fun T36 W37 => ?_
  have f38 := qC.ext E9
  have f39 := f38.other wr22 (Or.inr (slot_ne (t := .byte) (t' := .array .byte) (Or.inr (ow21 hw)) (Or.inr (ow20 hw)) (by decide) (by decide) (by decide)))
  have f40 := f39.ext E30
  have f41 := f18.wr wr22
  have f42 := f41.ext E30
  refine wPutF (ty := .byte) W37 d3_23 (ow25 hw) Via.refl (by simp) f40 f42 (Or.inr ⟨(ow21 hw), rfl, rfl⟩) (ow6 hw) (by decide) rfl (by decide) rfl fun T43 h45 W44 wr46 => ?_
  have f47 := Fld.same wr46 f40
  have f48 := f42.wr wr46
  have f49 := f23.ext E30
  have f50 := f49.other wr46 (Or.inr (slot_ne (t := .array .byte) (t' := .byte) (Or.inr (ow20 hw)) (Or.inr (ow21 hw)) (by decide) (by decide) (by decide)))
  have f51 := f13.other wr22 (Ne.symm (ne14 a (by simp)).2)
  have f52 := f51.ext E30
  have f53 := f52.other wr46 (Ne.symm (ne14 a (by simp)).2)
  exact wRet0 (so := []) W44 d3_26 (by decide) (by decide) (fun _ q => nomatch q) ⟨t7, k8, rfl, rfl, f48, f47, f50, f53⟩
theorem d2_0 : decode jdk_42_method_3_code 0 = .ok (.aload_n 0, 1) := by decide +kernel
theorem d2_1 : decode jdk_42_method_3_code 1 = .ok (.aload_n 1, 1) := by decide +kernel
theorem d2_2 : decode jdk_42_method_3_code 2 = .ok (.iconst 0, 1) := by decide +kernel
theorem d2_3 : decode jdk_42_method_3_code 3 = .ok (.aload_n 1, 1) := by decide +kernel
theorem d2_4 : decode jdk_42_method_3_code 4 = .ok (.arraylength, 1) := by decide +kernel
theorem d2_5 : decode jdk_42_method_3_code 5 = .ok (.aconst_null, 1) := by decide +kernel
theorem d2_6 : decode jdk_42_method_3_code 6 = .ok (.invokespecial 27, 3) := by decide +kernel
theorem ow11 {a0 : Array Value} {Z : State} (hw : ∀ d ∈ tables_1, d.before a0 Z = true) : (Jvm.Cond.methodLink "java/lang/String" (27 : Nat) ({ cls := "java/lang/String", name := "<init>", desc := "([CIILjava/lang/Void;)V" } : Jvm.MethodName)).before a0 Z = true := hw _ (List.mem_of_getElem? (i := 11) rfl)
theorem ow7 {a0 : Array Value} {Z : State} (hw : ∀ d ∈ tables_1, d.before a0 Z = true) : (Jvm.Cond.initialized "java/lang/String").before a0 Z = true := hw _ (List.mem_of_getElem? (i := 7) rfl)
theorem ow14 {a0 : Array Value} {Z : State} (hw : ∀ d ∈ tables_1, d.before a0 Z = true) : (Jvm.Cond.code ({ cls := "java/lang/String", name := "<init>", desc := "([CIILjava/lang/Void;)V" } : Jvm.MethodName) jdk_42_method_149_code (6 : Nat) (Option.none : Option Jvm.ClassFile.FieldType)).before a0 Z = true := hw _ (List.mem_of_getElem? (i := 14) rfl)
theorem opd0 : parseMethodDescriptor "([CIILjava/lang/Void;)V" = some ⟨[.array .char, .int, .int, .object "java/lang/Void"], none⟩ := by decide +kernel
theorem ow12 {a0 : Array Value} {Z : State} (hw : ∀ d ∈ tables_1, d.before a0 Z = true) : (Jvm.Cond.instanceMethod ({ cls := "java/lang/String", name := "<init>", desc := "([CIILjava/lang/Void;)V" } : Jvm.MethodName)).before a0 Z = true := hw _ (List.mem_of_getElem? (i := 12) rfl)
theorem d2_9 : decode jdk_42_method_3_code 9 = .ok (.return_, 1) := by decide +kernel
theorem oef_orm_new1E (m : MethodId) (a : Addr) (b : Addr)  : (entryFrame m #[(.ref a), (.ref b)] 2).locals = #[.val (.ref a), .val (.ref b)] := by first | (simp [entryFrame, argsToLocals, Value.category]; done) | rfl
set_option maxRecDepth 65536 in
set_option maxHeartbeats 40000000 in
theorem orm_new1E (l : Launch) (Z : State) (a0 : Array Value) (hw : ∀ d ∈ tables_1, d.before a0 Z = true) (hE : EW Z a0 consts_1) (a : Addr) (b : Addr) (kC : ClassId) (h : Heap) (hO : Old Z Z.heap.size h) (qE : Exa Z h a "java/lang/String") (qV : Fld Z h a "java/lang/String" "value" "[B" .null) (qC : Fld Z h a "java/lang/String" "coder" "B" (.int (0 : Int32))) (qA : Arv Z h b kC .char (0 : Int32) [] (.int 0)) (ge_a : Z.heap.size ≤ a) :
    Ct l Z consts_1 (⟨"java/lang/String", "<init>", "([C)V"⟩ : MethodName) jdk_42_method_3_code 2 (Option.none : Option Jvm.ClassFile.FieldType) ⟨2, 4, 8, 32⟩ #[(.ref a), (.ref b)] h [a] (fun rv' hp' so' => ∃ t : Addr, ∃ kb : ClassId, rv' = none ∧ so' = [] ∧ Exa Z hp' a "java/lang/String" ∧ Fld Z hp' a "java/lang/String" "coder" "B" (.int (0 : Int32)) ∧ Fld Z hp' a "java/lang/String" "value" "[B" (.ref t) ∧ Arv Z hp' t kb .byte (0 : Int32) [] (.int 0)) := by
  refine Ct.mk "java/lang/String" "<init>" rfl rfl (a0 := a0) (plainFor_of_name opn0) hO hE (fun x q => by simp at q; subst q; exact ge_a) ?_
  intro K T W
  rw [oef_orm_new1E]
  refine gAloadN W d2_0 rfl rfl rfl ?_
  refine gAloadN W d2_1 rfl rfl rfl ?_
  refine gIconst (z := (0 : Int32)) W d2_2 rfl rfl ?_
  refine gAloadN W d2_3 rfl rfl rfl ?_
  refine wLen W d2_4 qA rfl ?_
  refine gAconstNull W d2_5 rfl ?_
  refine wSpecial (y := (⟨"java/lang/String", "<init>", "([CIILjava/lang/Void;)V"⟩ : MethodName)) (Wd := 0) (a := a) (argsL := [(.ref b), (.int (0 : Int32)), (.int (0 : Int32)), .null]) (rest := []) W d2_6 rfl (ow11 hw) (ow12 hw) (ow14 hw) (by decide) (Cb.ct (orm_new4E l Z a0 hw hE (a) (b) h W.old qE qV qC ge_a) (ow14 hw) (ow7 hw) hE (by decide) (by decide)) (by simp) rfl (lenOf opd0 rfl) rfl (Nat.le_of_eq rfl) (by decide) (by decide) rfl fun v58 so59 T54 h56 W55 kp57 sp60 q61 => ?_
  obtain ⟨t62, kb63, rfl, rfl, f64, f65, f66, f67⟩ := q61
  show Go K _ T54 9 #[.val (.ref a), .val (.ref b)] []
  exact wRet0 (so := []) W55 d2_9 (by decide) (by decide) (fun _ q => nomatch q) ⟨t62, kb63, rfl, rfl, f64, f65, f66, f67⟩
theorem opn1 : plainName "com/example/tidewire/tidewire/message/PriorityOfWireNamePinLaw" = true := by first | (simp [plainName, overriddenIn]; done) | decide +kernel
theorem d11_0 : decode method_4_code 0 = .ok (.iload 4, 2) := by decide +kernel
theorem d11_2 : decode method_4_code 2 = .ok (.iconst 1, 1) := by decide +kernel
theorem d11_3 : decode method_4_code 3 = .ok (.iand, 1) := by decide +kernel
theorem d11_4 : decode method_4_code 4 = .ok (.ifCond .eq 24, 3) := by decide +kernel
theorem d11_28 : decode method_4_code 28 = .ok (.iload_n 1, 1) := by decide +kernel
theorem d11_29 : decode method_4_code 29 = .ok (.ifCond .ne 16, 3) := by decide +kernel
theorem d11_32 : decode method_4_code 32 = .ok (.iload_n 0, 1) := by decide +kernel
theorem d11_33 : decode method_4_code 33 = .ok (.bipush 6, 2) := by decide +kernel
theorem d11_35 : decode method_4_code 35 = .ok (.if_icmp .ge 10, 3) := by decide +kernel
theorem d11_38 : decode method_4_code 38 = .ok (.ldc 28, 2) := by decide +kernel
theorem ow65 {a0 : Array Value} {Z : State} (hw : ∀ d ∈ tables_1, d.before a0 Z = true) : (Jvm.Cond.stringLink "com/example/tidewire/tidewire/message/PriorityOfWireNamePinLaw" (28 : Nat) "normal").before a0 Z = true := hw _ (List.mem_of_getElem? (i := 65) rfl)
theorem d11_40 : decode method_4_code 40 = .ok (.iload_n 0, 1) := by decide +kernel
theorem d11_41 : decode method_4_code 41 = .ok (.invokevirtual 53, 3) := by decide +kernel
theorem opd1 : parseMethodDescriptor "(I)C" = some ⟨[.int], some (.char)⟩ := by decide +kernel
theorem ow78 {a0 : Array Value} {Z : State} (hw : ∀ d ∈ tables_1, d.before a0 Z = true) : (Jvm.Cond.methodLink "com/example/tidewire/tidewire/message/PriorityOfWireNamePinLaw" (53 : Nat) ({ cls := "java/lang/String", name := "charAt", desc := "(I)C" } : Jvm.MethodName)).before a0 Z = true := hw _ (List.mem_of_getElem? (i := 78) rfl)
theorem ow79 {a0 : Array Value} {Z : State} (hw : ∀ d ∈ tables_1, d.before a0 Z = true) : (Jvm.Cond.declares ({ cls := "java/lang/String", name := "charAt", desc := "(I)C" } : Jvm.MethodName)).before a0 Z = true := hw _ (List.mem_of_getElem? (i := 79) rfl)
theorem ow81 {a0 : Array Value} {Z : State} (hw : ∀ d ∈ tables_1, d.before a0 Z = true) : (Jvm.Cond.selects "java/lang/String" ({ cls := "java/lang/String", name := "charAt", desc := "(I)C" } : Jvm.MethodName) ({ cls := "java/lang/String", name := "charAt", desc := "(I)C" } : Jvm.MethodName)).before a0 Z = true := hw _ (List.mem_of_getElem? (i := 81) rfl)
theorem ow80 {a0 : Array Value} {Z : State} (hw : ∀ d ∈ tables_1, d.before a0 Z = true) : (Jvm.Cond.instanceMethod ({ cls := "java/lang/String", name := "charAt", desc := "(I)C" } : Jvm.MethodName)).before a0 Z = true := hw _ (List.mem_of_getElem? (i := 80) rfl)
theorem d11_44 : decode method_4_code 44 = .ok (.ireturn, 1) := by decide +kernel
theorem d11_45 : decode method_4_code 45 = .ok (.iload_n 1, 1) := by decide +kernel
theorem d11_46 : decode method_4_code 46 = .ok (.iconst 1, 1) := by decide +kernel
theorem d11_47 : decode method_4_code 47 = .ok (.if_icmp .ne 15, 3) := by decide +kernel
theorem d11_50 : decode method_4_code 50 = .ok (.iload_n 0, 1) := by decide +kernel
theorem d11_51 : decode method_4_code 51 = .ok (.iconst 4, 1) := by decide +kernel
theorem d11_52 : decode method_4_code 52 = .ok (.if_icmp .ge 10, 3) := by decide +kernel
theorem d11_55 : decode method_4_code 55 = .ok (.ldc 48, 2) := by decide +kernel
theorem ow67 {a0 : Array Value} {Z : State} (hw : ∀ d ∈ tables_1, d.before a0 Z = true) : (Jvm.Cond.stringLink "com/example/tidewire/tidewire/message/PriorityOfWireNamePinLaw" (48 : Nat) "high").before a0 Z = true := hw _ (List.mem_of_getElem? (i := 67) rfl)
theorem d11_57 : decode method_4_code 57 = .ok (.iload_n 0, 1) := by decide +kernel
theorem d11_58 : decode method_4_code 58 = .ok (.invokevirtual 53, 3) := by decide +kernel
theorem d11_61 : decode method_4_code 61 = .ok (.ireturn, 1) := by decide +kernel
theorem d11_62 : decode method_4_code 62 = .ok (.iload_n 0, 1) := by decide +kernel
theorem d11_63 : decode method_4_code 63 = .ok (.iconst 4, 1) := by decide +kernel
theorem d11_64 : decode method_4_code 64 = .ok (.if_icmp .ge 7, 3) := by decide +kernel
theorem d11_67 : decode method_4_code 67 = .ok (.iload_n 2, 1) := by decide +kernel
theorem d11_68 : decode method_4_code 68 = .ok (.goto 4, 3) := by decide +kernel
theorem d11_72 : decode method_4_code 72 = .ok (.istore 5, 2) := by decide +kernel
theorem d11_74 : decode method_4_code 74 = .ok (.bipush 8, 2) := by decide +kernel
theorem d11_76 : decode method_4_code 76 = .ok (.iload_n 0, 1) := by decide +kernel
theorem d11_77 : decode method_4_code 77 = .ok (.iconst 3, 1) := by decide +kernel
theorem d11_78 : decode method_4_code 78 = .ok (.iand, 1) := by decide +kernel
theorem d11_79 : decode method_4_code 79 = .ok (.imul, 1) := by decide +kernel
theorem d11_80 : decode method_4_code 80 = .ok (.istore 6, 2) := by decide +kernel
theorem d11_82 : decode method_4_code 82 = .ok (.iload 5, 2) := by decide +kernel
theorem d11_84 : decode method_4_code 84 = .ok (.iload 6, 2) := by decide +kernel
theorem d11_86 : decode method_4_code 86 = .ok (.iushr, 1) := by decide +kernel
theorem d11_87 : decode method_4_code 87 = .ok (.sipush 255, 3) := by decide +kernel
theorem d11_90 : decode method_4_code 90 = .ok (.iand, 1) := by decide +kernel
theorem d11_91 : decode method_4_code 91 = .ok (.i2c, 1) := by decide +kernel
theorem d11_92 : decode method_4_code 92 = .ok (.ireturn, 1) := by decide +kernel
theorem d11_7 : decode method_4_code 7 = .ok (.iload 4, 2) := by decide +kernel
theorem d11_9 : decode method_4_code 9 = .ok (.iconst 1, 1) := by decide +kernel
theorem d11_10 : decode method_4_code 10 = .ok (.iushr, 1) := by decide +kernel
theorem d11_11 : decode method_4_code 11 = .ok (.bipush 7, 2) := by decide +kernel
theorem d11_13 : decode method_4_code 13 = .ok (.iand, 1) := by decide +kernel
theorem d11_14 : decode method_4_code 14 = .ok (.iload_n 0, 1) := by decide +kernel
theorem d11_15 : decode method_4_code 15 = .ok (.if_icmp .ne 13, 3) := by decide +kernel
theorem d11_18 : decode method_4_code 18 = .ok (.iload 4, 2) := by decide +kernel
theorem d11_20 : decode method_4_code 20 = .ok (.iconst 4, 1) := by decide +kernel
theorem d11_21 : decode method_4_code 21 = .ok (.iushr, 1) := by decide +kernel
theorem d11_22 : decode method_4_code 22 = .ok (.sipush 255, 3) := by decide +kernel
theorem d11_25 : decode method_4_code 25 = .ok (.iand, 1) := by decide +kernel
theorem d11_26 : decode method_4_code 26 = .ok (.i2c, 1) := by decide +kernel
theorem d11_27 : decode method_4_code 27 = .ok (.ireturn, 1) := by decide +kernel
theorem oef_orm_at0 (m : MethodId) (b : Int32) (p : Int32) (q : Int32) (e : Int32)  : (entryFrame m #[(.int (0 : Int32)), (.int b), (.int p), (.int q), (.int e)] 7).locals = #[.val (.int (0 : Int32)), .val (.int b), .val (.int p), .val (.int q), .val (.int e), .unset, .unset] := by first | (simp [entryFrame, argsToLocals, Value.category]; done) | rfl
set_option maxRecDepth 65536 in
set_option maxHeartbeats 40000000 in
theorem orm_at0 (l : Launch) (Z : State) (a0 : Array Value) (hw : ∀ d ∈ tables_1, d.before a0 Z = true) (hE : EW Z a0 consts_1) (b : Int32) (p : Int32) (q : Int32) (e : Int32) (z : Int32) (fm : Value) (h : Heap) (hO : Old Z Z.heap.size h) (SC : (Sta Z Z.heap "java/lang/String" "COMPACT_STRINGS" "Z" (.int z))) (hz : (¬ z = 0)) (SF : (Sta Z Z.heap "jdk/internal/util/Preconditions" "SIOOBE_FORMATTER" "Ljava/util/function/BiFunction;" fm)) (rf : (fm.isRef = true))  :
    Ct l Z consts_1 (⟨"com/example/tidewire/tidewire/message/PriorityOfWireNamePinLaw", "at", "(IIIII)C"⟩ : MethodName) method_4_code 7 (Option.some Jvm.ClassFile.FieldType.char) ⟨4, 2, 28, 60⟩ #[(.int (0 : Int32)), (.int b), (.int p), (.int q), (.int e)] h [] (fun rv' hp' so' => ∃ v : Int32, rv' = some (.int v) ∧ so' = [] ∧ (B8 v)) := by
  refine Ct.mk "com/example/tidewire/tidewire/message/PriorityOfWireNamePinLaw" "at" rfl rfl (a0 := a0) (plainFor_of_name opn1) hO hE (fun x q => nomatch q) ?_
  intro K T W
  rw [oef_orm_at0]
  refine gIload W d11_0 rfl rfl ?_
  refine gIconst (z := (1 : Int32)) W d11_2 rfl rfl ?_
  obtain ⟨v68, e69⟩ : ∃ v : Int32, e &&& (1 : Int32) = v := ⟨_, rfl⟩
  refine gIand W d11_3 e69 rfl ?_
  by_cases c70 : v68 = (0 : Int32)
  · refine gIfYes (pc' := 28) W d11_4 ((if0 _ _).trans (teq c70).1) (by decide) rfl ?_
    refine gIloadN W d11_28 rfl rfl ?_
    by_cases c71 : b = (0 : Int32)
    · refine gIfNo W d11_29 ((if0 _ _).trans (teq c71).2) rfl ?_
      refine gIloadN W d11_32 rfl rfl ?_
      refine gBipush (z := (6 : Int32)) W d11_33 rfl rfl ?_
      refine gIcmpNo W d11_35 (tlt (by decide)).2.1 rfl ?_
      refine wLdcS (vs := [(.int 110), (.int 111), (.int 114), (.int 109), (.int 97), (.int 108)]) (z := 6) (n := 24) W d11_38 (ow65 hw) (owS hw) hE (by decide) (by decide) (by decide) (by decide) (by decide) (by decide) (by decide) (by decide) rfl fun T72 h74 a75 t76 k77 W73 E78 A79 f80 f81 f82 ne83 => ?_
      have f84 : Str Z h74 a75 [(110 : Int32), (111 : Int32), (114 : Int32), (109 : Int32), (97 : Int32), (108 : Int32)] := Str.mkL (cs := [(110 : Int32), (111 : Int32), (114 : Int32), (109 : Int32), (97 : Int32), (108 : Int32)]) A79 f80 f81 f82 (by decide) (by decide) (by decide) (by decide)
      refine gIloadN W73 d11_40 rfl rfl ?_
      refine wVirtual (y := (⟨"java/lang/String", "charAt", "(I)C"⟩ : MethodName)) (z := (⟨"java/lang/String", "charAt", "(I)C"⟩ : MethodName)) (Wd := 0) (a := a75) (argsL := [(.int (0 : Int32))]) (rest := []) W73 d11_41 (ow78 hw) (ow79 hw) (ow81 hw) (ow80 hw) (nfS (ow81 hw)) (by decide) (chPay hw hE a75 [(110 : Int32), (111 : Int32), (114 : Int32), (109 : Int32), (97 : Int32), (108 : Int32)] 0 (0 : Int32) 0 f84 (by decide) (SC.ext W73.old.2) hz (SF.ext W73.old.2) rf (by decide) (by decide) (by decide) (by decide)) A79 (by simp) rfl (lenOf opd1 rfl) rfl (Nat.le_of_eq rfl) (by decide) (by decide) rfl fun v89 so90 T85 h87 W86 kp88 sp91 q92 => ?_
      obtain ⟨rfl, rfl⟩ := q92
      show Go K _ T85 44 #[.val (.int (0 : Int32)), .val (.int b), .val (.int p), .val (.int q), .val (.int e), .unset, .unset] [(.int ([(110 : Int32), (111 : Int32), (114 : Int32), (109 : Int32), (97 : Int32), (108 : Int32)].getD 0 0))]
      show Go K _ T85 44 #[.val (.int (0 : Int32)), .val (.int b), .val (.int p), .val (.int q), .val (.int e), .unset, .unset] [(.int (110 : Int32))]
      exact wRetI (so := []) (t := .char) W86 d11_44 (by simp) rfl (by decide) (by decide) (fun _ q => nomatch q) ⟨(110 : Int32), rfl, rfl, ⟨by decide, by decide⟩⟩
    · refine gIfYes (pc' := 45) W d11_29 ((if0 _ _).trans (feq c71).2) (by decide) rfl ?_
      refine gIloadN W d11_45 rfl rfl ?_
      refine gIconst (z := (1 : Int32)) W d11_46 rfl rfl ?_
      by_cases c93 : b = (1 : Int32)
      · refine gIcmpNo W d11_47 (teq c93).2 rfl ?_
        refine gIloadN W d11_50 rfl rfl ?_
        refine gIconst (z := (4 : Int32)) W d11_51 rfl rfl ?_
        refine gIcmpNo W d11_52 (tlt (by decide)).2.1 rfl ?_
        refine wLdcS (vs := [(.int 104), (.int 105), (.int 103), (.int 104)]) (z := 4) (n := 16) W d11_55 (ow67 hw) (owS hw) hE (by decide) (by decide) (by decide) (by decide) (by decide) (by decide) (by decide) (by decide) rfl fun T94 h96 a97 t98 k99 W95 E100 A101 f102 f103 f104 ne105 => ?_
        have f106 : Str Z h96 a97 [(104 : Int32), (105 : Int32), (103 : Int32), (104 : Int32)] := Str.mkL (cs := [(104 : Int32), (105 : Int32), (103 : Int32), (104 : Int32)]) A101 f102 f103 f104 (by decide) (by decide) (by decide) (by decide)
        refine gIloadN W95 d11_57 rfl rfl ?_
        refine wVirtual (y := (⟨"java/lang/String", "charAt", "(I)C"⟩ : MethodName)) (z := (⟨"java/lang/String", "charAt", "(I)C"⟩ : MethodName)) (Wd := 0) (a := a97) (argsL := [(.int (0 : Int32))]) (rest := []) W95 d11_58 (ow78 hw) (ow79 hw) (ow81 hw) (ow80 hw) (nfS (ow81 hw)) (by decide) (chPay hw hE a97 [(104 : Int32), (105 : Int32), (103 : Int32), (104 : Int32)] 0 (0 : Int32) 0 f106 (by decide) (SC.ext W95.old.2) hz (SF.ext W95.old.2) rf (by decide) (by decide) (by decide) (by decide)) A101 (by simp) rfl (lenOf opd1 rfl) rfl (Nat.le_of_eq rfl) (by decide) (by decide) rfl fun v111 so112 T107 h109 W108 kp110 sp113 q114 => ?_
        obtain ⟨rfl, rfl⟩ := q114
        show Go K _ T107 61 #[.val (.int (0 : Int32)), .val (.int b), .val (.int p), .val (.int q), .val (.int e), .unset, .unset] [(.int ([(104 : Int32), (105 : Int32), (103 : Int32), (104 : Int32)].getD 0 0))]
        show Go K _ T107 61 #[.val (.int (0 : Int32)), .val (.int b), .val (.int p), .val (.int q), .val (.int e), .unset, .unset] [(.int (104 : Int32))]
        exact wRetI (so := []) (t := .char) W108 d11_61 (by simp) rfl (by decide) (by decide) (fun _ q => nomatch q) ⟨(104 : Int32), rfl, rfl, ⟨by decide, by decide⟩⟩
      · refine gIcmpYes (pc' := 62) W d11_47 (feq c93).2 (by decide) rfl ?_
        refine gIloadN W d11_62 rfl rfl ?_
        refine gIconst (z := (4 : Int32)) W d11_63 rfl rfl ?_
        refine gIcmpNo W d11_64 (tlt (by decide)).2.1 rfl ?_
        refine gIloadN W d11_67 rfl rfl ?_
        refine gGoto (pc' := 72) W d11_68 (by decide) rfl ?_
        refine gIstore (ls' := #[.val (.int (0 : Int32)), .val (.int b), .val (.int p), .val (.int q), .val (.int e), .val (.int p), .unset]) W d11_72 rfl rfl ?_
        refine gBipush (z := (8 : Int32)) W d11_74 rfl rfl ?_
        refine gIloadN W d11_76 rfl rfl ?_
        refine gIconst (z := (3 : Int32)) W d11_77 rfl rfl ?_
        refine gIand (z := (0 : Int32)) W d11_78 (by decide) rfl ?_
        refine gImul (z := (0 : Int32)) W d11_79 (by decide) rfl ?_
        refine gIstore (ls' := #[.val (.int (0 : Int32)), .val (.int b), .val (.int p), .val (.int q), .val (.int e), .val (.int p), .val (.int (0 : Int32))]) W d11_80 rfl rfl ?_
        refine gIload W d11_82 rfl rfl ?_
        refine gIload W d11_84 rfl rfl ?_
        obtain ⟨v115, e116⟩ : ∃ v : Int32, (p.toUInt32 >>> ((0 : Int32) &&& 31).toUInt32).toInt32 = v := ⟨_, rfl⟩
        refine gIushr W d11_86 e116 rfl ?_
        refine gSipush (z := (255 : Int32)) W d11_87 rfl rfl ?_
        obtain ⟨v117, e118⟩ : ∃ v : Int32, v115 &&& (255 : Int32) = v := ⟨_, rfl⟩
        refine gIand W d11_90 e118 rfl ?_
        obtain ⟨v119, e120⟩ : ∃ v : Int32, v117.toUInt32.toUInt16.toUInt32.toInt32 = v := ⟨_, rfl⟩
        refine gI2C W d11_91 e120 rfl ?_
        have cb121 := ch255 e118 e120
        exact wRetI (so := []) (t := .char) W d11_92 (by simp) (by show Value.int (nar .char v119) = _; rw [cb121.2.2]) (by decide) (by decide) (fun _ q => nomatch q) ⟨v119, rfl, rfl, (And.intro cb121.1 cb121.2.1)⟩
  · refine gIfNo W d11_4 ((if0 _ _).trans (feq c70).1) rfl ?_
    refine gIload W d11_7 rfl rfl ?_
    refine gIconst (z := (1 : Int32)) W d11_9 rfl rfl ?_
    obtain ⟨v122, e123⟩ : ∃ v : Int32, (e.toUInt32 >>> ((1 : Int32) &&& 31).toUInt32).toInt32 = v := ⟨_, rfl⟩
    refine gIushr W d11_10 e123 rfl ?_
    refine gBipush (z := (7 : Int32)) W d11_11 rfl rfl ?_
    obtain ⟨v124, e125⟩ : ∃ v : Int32, v122 &&& (7 : Int32) = v := ⟨_, rfl⟩
    refine gIand W d11_13 e125 rfl ?_
    refine gIloadN W d11_14 rfl rfl ?_
    by_cases c126 : v124 = (0 : Int32)
    · refine gIcmpNo W d11_15 (teq c126).2 rfl ?_
      refine gIload W d11_18 rfl rfl ?_
      refine gIconst (z := (4 : Int32)) W d11_20 rfl rfl ?_
      obtain ⟨v127, e128⟩ : ∃ v : Int32, (e.toUInt32 >>> ((4 : Int32) &&& 31).toUInt32).toInt32 = v := ⟨_, rfl⟩
      refine gIushr W d11_21 e128 rfl ?_
      refine gSipush (z := (255 : Int32)) W d11_22 rfl rfl ?_
      obtain ⟨v129, e130⟩ : ∃ v : Int32, v127 &&& (255 : Int32) = v := ⟨_, rfl⟩
      refine gIand W d11_25 e130 rfl ?_
      obtain ⟨v131, e132⟩ : ∃ v : Int32, v129.toUInt32.toUInt16.toUInt32.toInt32 = v := ⟨_, rfl⟩
      refine gI2C W d11_26 e132 rfl ?_
      have cb133 := ch255 e130 e132
      exact wRetI (so := []) (t := .char) W d11_27 (by simp) (by show Value.int (nar .char v131) = _; rw [cb133.2.2]) (by decide) (by decide) (fun _ q => nomatch q) ⟨v131, rfl, rfl, (And.intro cb133.1 cb133.2.1)⟩
    · refine gIcmpYes (pc' := 28) W d11_15 (feq c126).2 (by decide) rfl ?_
      refine gIloadN W d11_28 rfl rfl ?_
      by_cases c134 : b = (0 : Int32)
      · refine gIfNo W d11_29 ((if0 _ _).trans (teq c134).2) rfl ?_
        refine gIloadN W d11_32 rfl rfl ?_
        refine gBipush (z := (6 : Int32)) W d11_33 rfl rfl ?_
        refine gIcmpNo W d11_35 (tlt (by decide)).2.1 rfl ?_
        refine wLdcS (vs := [(.int 110), (.int 111), (.int 114), (.int 109), (.int 97), (.int 108)]) (z := 6) (n := 24) W d11_38 (ow65 hw) (owS hw) hE (by decide) (by decide) (by decide) (by decide) (by decide) (by decide) (by decide) (by decide) rfl fun T135 h137 a138 t139 k140 W136 E141 A142 f143 f144 f145 ne146 => ?_
        have f147 : Str Z h137 a138 [(110 : Int32), (111 : Int32), (114 : Int32), (109 : Int32), (97 : Int32), (108 : Int32)] := Str.mkL (cs := [(110 : Int32), (111 : Int32), (114 : Int32), (109 : Int32), (97 : Int32), (108 : Int32)]) A142 f143 f144 f145 (by decide) (by decide) (by decide) (by decide)
        refine gIloadN W136 d11_40 rfl rfl ?_
        refine wVirtual (y := (⟨"java/lang/String", "charAt", "(I)C"⟩ : MethodName)) (z := (⟨"java/lang/String", "charAt", "(I)C"⟩ : MethodName)) (Wd := 0) (a := a138) (argsL := [(.int (0 : Int32))]) (rest := []) W136 d11_41 (ow78 hw) (ow79 hw) (ow81 hw) (ow80 hw) (nfS (ow81 hw)) (by decide) (chPay hw hE a138 [(110 : Int32), (111 : Int32), (114 : Int32), (109 : Int32), (97 : Int32), (108 : Int32)] 0 (0 : Int32) 0 f147 (by decide) (SC.ext W136.old.2) hz (SF.ext W136.old.2) rf (by decide) (by decide) (by decide) (by decide)) A142 (by simp) rfl (lenOf opd1 rfl) rfl (Nat.le_of_eq rfl) (by decide) (by decide) rfl fun v152 so153 T148 h150 W149 kp151 sp154 q155 => ?_
        obtain ⟨rfl, rfl⟩ := q155
        show Go K _ T148 44 #[.val (.int (0 : Int32)), .val (.int b), .val (.int p), .val (.int q), .val (.int e), .unset, .unset] [(.int ([(110 : Int32), (111 : Int32), (114 : Int32), (109 : Int32), (97 : Int32), (108 : Int32)].getD 0 0))]
        show Go K _ T148 44 #[.val (.int (0 : Int32)), .val (.int b), .val (.int p), .val (.int q), .val (.int e), .unset, .unset] [(.int (110 : Int32))]
        exact wRetI (so := []) (t := .char) W149 d11_44 (by simp) rfl (by decide) (by decide) (fun _ q => nomatch q) ⟨(110 : Int32), rfl, rfl, ⟨by decide, by decide⟩⟩
      · refine gIfYes (pc' := 45) W d11_29 ((if0 _ _).trans (feq c134).2) (by decide) rfl ?_
        refine gIloadN W d11_45 rfl rfl ?_
        refine gIconst (z := (1 : Int32)) W d11_46 rfl rfl ?_
        by_cases c156 : b = (1 : Int32)
        · refine gIcmpNo W d11_47 (teq c156).2 rfl ?_
          refine gIloadN W d11_50 rfl rfl ?_
          refine gIconst (z := (4 : Int32)) W d11_51 rfl rfl ?_
          refine gIcmpNo W d11_52 (tlt (by decide)).2.1 rfl ?_
          refine wLdcS (vs := [(.int 104), (.int 105), (.int 103), (.int 104)]) (z := 4) (n := 16) W d11_55 (ow67 hw) (owS hw) hE (by decide) (by decide) (by decide) (by decide) (by decide) (by decide) (by decide) (by decide) rfl fun T157 h159 a160 t161 k162 W158 E163 A164 f165 f166 f167 ne168 => ?_
          have f169 : Str Z h159 a160 [(104 : Int32), (105 : Int32), (103 : Int32), (104 : Int32)] := Str.mkL (cs := [(104 : Int32), (105 : Int32), (103 : Int32), (104 : Int32)]) A164 f165 f166 f167 (by decide) (by decide) (by decide) (by decide)
          refine gIloadN W158 d11_57 rfl rfl ?_
          refine wVirtual (y := (⟨"java/lang/String", "charAt", "(I)C"⟩ : MethodName)) (z := (⟨"java/lang/String", "charAt", "(I)C"⟩ : MethodName)) (Wd := 0) (a := a160) (argsL := [(.int (0 : Int32))]) (rest := []) W158 d11_58 (ow78 hw) (ow79 hw) (ow81 hw) (ow80 hw) (nfS (ow81 hw)) (by decide) (chPay hw hE a160 [(104 : Int32), (105 : Int32), (103 : Int32), (104 : Int32)] 0 (0 : Int32) 0 f169 (by decide) (SC.ext W158.old.2) hz (SF.ext W158.old.2) rf (by decide) (by decide) (by decide) (by decide)) A164 (by simp) rfl (lenOf opd1 rfl) rfl (Nat.le_of_eq rfl) (by decide) (by decide) rfl fun v174 so175 T170 h172 W171 kp173 sp176 q177 => ?_
          obtain ⟨rfl, rfl⟩ := q177
          show Go K _ T170 61 #[.val (.int (0 : Int32)), .val (.int b), .val (.int p), .val (.int q), .val (.int e), .unset, .unset] [(.int ([(104 : Int32), (105 : Int32), (103 : Int32), (104 : Int32)].getD 0 0))]
          show Go K _ T170 61 #[.val (.int (0 : Int32)), .val (.int b), .val (.int p), .val (.int q), .val (.int e), .unset, .unset] [(.int (104 : Int32))]
          exact wRetI (so := []) (t := .char) W171 d11_61 (by simp) rfl (by decide) (by decide) (fun _ q => nomatch q) ⟨(104 : Int32), rfl, rfl, ⟨by decide, by decide⟩⟩
        · refine gIcmpYes (pc' := 62) W d11_47 (feq c156).2 (by decide) rfl ?_
          refine gIloadN W d11_62 rfl rfl ?_
          refine gIconst (z := (4 : Int32)) W d11_63 rfl rfl ?_
          refine gIcmpNo W d11_64 (tlt (by decide)).2.1 rfl ?_
          refine gIloadN W d11_67 rfl rfl ?_
          refine gGoto (pc' := 72) W d11_68 (by decide) rfl ?_
          refine gIstore (ls' := #[.val (.int (0 : Int32)), .val (.int b), .val (.int p), .val (.int q), .val (.int e), .val (.int p), .unset]) W d11_72 rfl rfl ?_
          refine gBipush (z := (8 : Int32)) W d11_74 rfl rfl ?_
          refine gIloadN W d11_76 rfl rfl ?_
          refine gIconst (z := (3 : Int32)) W d11_77 rfl rfl ?_
          refine gIand (z := (0 : Int32)) W d11_78 (by decide) rfl ?_
          refine gImul (z := (0 : Int32)) W d11_79 (by decide) rfl ?_
          refine gIstore (ls' := #[.val (.int (0 : Int32)), .val (.int b), .val (.int p), .val (.int q), .val (.int e), .val (.int p), .val (.int (0 : Int32))]) W d11_80 rfl rfl ?_
          refine gIload W d11_82 rfl rfl ?_
          refine gIload W d11_84 rfl rfl ?_
          obtain ⟨v178, e179⟩ : ∃ v : Int32, (p.toUInt32 >>> ((0 : Int32) &&& 31).toUInt32).toInt32 = v := ⟨_, rfl⟩
          refine gIushr W d11_86 e179 rfl ?_
          refine gSipush (z := (255 : Int32)) W d11_87 rfl rfl ?_
          obtain ⟨v180, e181⟩ : ∃ v : Int32, v178 &&& (255 : Int32) = v := ⟨_, rfl⟩
          refine gIand W d11_90 e181 rfl ?_
          obtain ⟨v182, e183⟩ : ∃ v : Int32, v180.toUInt32.toUInt16.toUInt32.toInt32 = v := ⟨_, rfl⟩
          refine gI2C W d11_91 e183 rfl ?_
          have cb184 := ch255 e181 e183
          exact wRetI (so := []) (t := .char) W d11_92 (by simp) (by show Value.int (nar .char v182) = _; rw [cb184.2.2]) (by decide) (by decide) (fun _ q => nomatch q) ⟨v182, rfl, rfl, (And.intro cb184.1 cb184.2.1)⟩
theorem oef_orm_at1 (m : MethodId) (b : Int32) (p : Int32) (q : Int32) (e : Int32)  : (entryFrame m #[(.int (1 : Int32)), (.int b), (.int p), (.int q), (.int e)] 7).locals = #[.val (.int (1 : Int32)), .val (.int b), .val (.int p), .val (.int q), .val (.int e), .unset, .unset] := by first | (simp [entryFrame, argsToLocals, Value.category]; done) | rfl
set_option maxRecDepth 65536 in
set_option maxHeartbeats 40000000 in
theorem orm_at1 (l : Launch) (Z : State) (a0 : Array Value) (hw : ∀ d ∈ tables_1, d.before a0 Z = true) (hE : EW Z a0 consts_1) (b : Int32) (p : Int32) (q : Int32) (e : Int32) (z : Int32) (fm : Value) (h : Heap) (hO : Old Z Z.heap.size h) (SC : (Sta Z Z.heap "java/lang/String" "COMPACT_STRINGS" "Z" (.int z))) (hz : (¬ z = 0)) (SF : (Sta Z Z.heap "jdk/internal/util/Preconditions" "SIOOBE_FORMATTER" "Ljava/util/function/BiFunction;" fm)) (rf : (fm.isRef = true))  :
    Ct l Z consts_1 (⟨"com/example/tidewire/tidewire/message/PriorityOfWireNamePinLaw", "at", "(IIIII)C"⟩ : MethodName) method_4_code 7 (Option.some Jvm.ClassFile.FieldType.char) ⟨4, 2, 28, 60⟩ #[(.int (1 : Int32)), (.int b), (.int p), (.int q), (.int e)] h [] (fun rv' hp' so' => ∃ v : Int32, rv' = some (.int v) ∧ so' = [] ∧ (B8 v)) := by
  refine Ct.mk "com/example/tidewire/tidewire/message/PriorityOfWireNamePinLaw" "at" rfl rfl (a0 := a0) (plainFor_of_name opn1) hO hE (fun x q => nomatch q) ?_
  intro K T W
  rw [oef_orm_at1]
  refine gIload W d11_0 rfl rfl ?_
  refine gIconst (z := (1 : Int32)) W d11_2 rfl rfl ?_
  obtain ⟨v185, e186⟩ : ∃ v : Int32, e &&& (1 : Int32) = v := ⟨_, rfl⟩
  refine gIand W d11_3 e186 rfl ?_
  by_cases c187 : v185 = (0 : Int32)
  · refine gIfYes (pc' := 28) W d11_4 ((if0 _ _).trans (teq c187).1) (by decide) rfl ?_
    refine gIloadN W d11_28 rfl rfl ?_
    by_cases c188 : b = (0 : Int32)
    · refine gIfNo W d11_29 ((if0 _ _).trans (teq c188).2) rfl ?_
      refine gIloadN W d11_32 rfl rfl ?_
      refine gBipush (z := (6 : Int32)) W d11_33 rfl rfl ?_
      refine gIcmpNo W d11_35 (tlt (by decide)).2.1 rfl ?_
      refine wLdcS (vs := [(.int 110), (.int 111), (.int 114), (.int 109), (.int 97), (.int 108)]) (z := 6) (n := 24) W d11_38 (ow65 hw) (owS hw) hE (by decide) (by decide) (by decide) (by decide) (by decide) (by decide) (by decide) (by decide) rfl fun T189 h191 a192 t193 k194 W190 E195 A196 f197 f198 f199 ne200 => ?_
      have f201 : Str Z h191 a192 [(110 : Int32), (111 : Int32), (114 : Int32), (109 : Int32), (97 : Int32), (108 : Int32)] := Str.mkL (cs := [(110 : Int32), (111 : Int32), (114 : Int32), (109 : Int32), (97 : Int32), (108 : Int32)]) A196 f197 f198 f199 (by decide) (by decide) (by decide) (by decide)
      refine gIloadN W190 d11_40 rfl rfl ?_
      refine wVirtual (y := (⟨"java/lang/String", "charAt", "(I)C"⟩ : MethodName)) (z := (⟨"java/lang/String", "charAt", "(I)C"⟩ : MethodName)) (Wd := 0) (a := a192) (argsL := [(.int (1 : Int32))]) (rest := []) W190 d11_41 (ow78 hw) (ow79 hw) (ow81 hw) (ow80 hw) (nfS (ow81 hw)) (by decide) (chPay hw hE a192 [(110 : Int32), (111 : Int32), (114 : Int32), (109 : Int32), (97 : Int32), (108 : Int32)] 1 (1 : Int32) 0 f201 (by decide) (SC.ext W190.old.2) hz (SF.ext W190.old.2) rf (by decide) (by decide) (by decide) (by decide)) A196 (by simp) rfl (lenOf opd1 rfl) rfl (Nat.le_of_eq rfl) (by decide) (by decide) rfl fun v206 so207 T202 h204 W203 kp205 sp208 q209 => ?_
      obtain ⟨rfl, rfl⟩ := q209
      show Go K _ T202 44 #[.val (.int (1 : Int32)), .val (.int b), .val (.int p), .val (.int q), .val (.int e), .unset, .unset] [(.int ([(110 : Int32), (111 : Int32), (114 : Int32), (109 : Int32), (97 : Int32), (108 : Int32)].getD 1 0))]
      show Go K _ T202 44 #[.val (.int (1 : Int32)), .val (.int b), .val (.int p), .val (.int q), .val (.int e), .unset, .unset] [(.int (111 : Int32))]
      exact wRetI (so := []) (t := .char) W203 d11_44 (by simp) rfl (by decide) (by decide) (fun _ q => nomatch q) ⟨(111 : Int32), rfl, rfl, ⟨by decide, by decide⟩⟩
    · refine gIfYes (pc' := 45) W d11_29 ((if0 _ _).trans (feq c188).2) (by decide) rfl ?_
      refine gIloadN W d11_45 rfl rfl ?_
      refine gIconst (z := (1 : Int32)) W d11_46 rfl rfl ?_
      by_cases c210 : b = (1 : Int32)
      · refine gIcmpNo W d11_47 (teq c210).2 rfl ?_
        refine gIloadN W d11_50 rfl rfl ?_
        refine gIconst (z := (4 : Int32)) W d11_51 rfl rfl ?_
        refine gIcmpNo W d11_52 (tlt (by decide)).2.1 rfl ?_
        refine wLdcS (vs := [(.int 104), (.int 105), (.int 103), (.int 104)]) (z := 4) (n := 16) W d11_55 (ow67 hw) (owS hw) hE (by decide) (by decide) (by decide) (by decide) (by decide) (by decide) (by decide) (by decide) rfl fun T211 h213 a214 t215 k216 W212 E217 A218 f219 f220 f221 ne222 => ?_
        have f223 : Str Z h213 a214 [(104 : Int32), (105 : Int32), (103 : Int32), (104 : Int32)] := Str.mkL (cs := [(104 : Int32), (105 : Int32), (103 : Int32), (104 : Int32)]) A218 f219 f220 f221 (by decide) (by decide) (by decide) (by decide)
        refine gIloadN W212 d11_57 rfl rfl ?_
        refine wVirtual (y := (⟨"java/lang/String", "charAt", "(I)C"⟩ : MethodName)) (z := (⟨"java/lang/String", "charAt", "(I)C"⟩ : MethodName)) (Wd := 0) (a := a214) (argsL := [(.int (1 : Int32))]) (rest := []) W212 d11_58 (ow78 hw) (ow79 hw) (ow81 hw) (ow80 hw) (nfS (ow81 hw)) (by decide) (chPay hw hE a214 [(104 : Int32), (105 : Int32), (103 : Int32), (104 : Int32)] 1 (1 : Int32) 0 f223 (by decide) (SC.ext W212.old.2) hz (SF.ext W212.old.2) rf (by decide) (by decide) (by decide) (by decide)) A218 (by simp) rfl (lenOf opd1 rfl) rfl (Nat.le_of_eq rfl) (by decide) (by decide) rfl fun v228 so229 T224 h226 W225 kp227 sp230 q231 => ?_
        obtain ⟨rfl, rfl⟩ := q231
        show Go K _ T224 61 #[.val (.int (1 : Int32)), .val (.int b), .val (.int p), .val (.int q), .val (.int e), .unset, .unset] [(.int ([(104 : Int32), (105 : Int32), (103 : Int32), (104 : Int32)].getD 1 0))]
        show Go K _ T224 61 #[.val (.int (1 : Int32)), .val (.int b), .val (.int p), .val (.int q), .val (.int e), .unset, .unset] [(.int (105 : Int32))]
        exact wRetI (so := []) (t := .char) W225 d11_61 (by simp) rfl (by decide) (by decide) (fun _ q => nomatch q) ⟨(105 : Int32), rfl, rfl, ⟨by decide, by decide⟩⟩
      · refine gIcmpYes (pc' := 62) W d11_47 (feq c210).2 (by decide) rfl ?_
        refine gIloadN W d11_62 rfl rfl ?_
        refine gIconst (z := (4 : Int32)) W d11_63 rfl rfl ?_
        refine gIcmpNo W d11_64 (tlt (by decide)).2.1 rfl ?_
        refine gIloadN W d11_67 rfl rfl ?_
        refine gGoto (pc' := 72) W d11_68 (by decide) rfl ?_
        refine gIstore (ls' := #[.val (.int (1 : Int32)), .val (.int b), .val (.int p), .val (.int q), .val (.int e), .val (.int p), .unset]) W d11_72 rfl rfl ?_
        refine gBipush (z := (8 : Int32)) W d11_74 rfl rfl ?_
        refine gIloadN W d11_76 rfl rfl ?_
        refine gIconst (z := (3 : Int32)) W d11_77 rfl rfl ?_
        refine gIand (z := (1 : Int32)) W d11_78 (by decide) rfl ?_
        refine gImul (z := (8 : Int32)) W d11_79 (by decide) rfl ?_
        refine gIstore (ls' := #[.val (.int (1 : Int32)), .val (.int b), .val (.int p), .val (.int q), .val (.int e), .val (.int p), .val (.int (8 : Int32))]) W d11_80 rfl rfl ?_
        refine gIload W d11_82 rfl rfl ?_
        refine gIload W d11_84 rfl rfl ?_
        obtain ⟨v232, e233⟩ : ∃ v : Int32, (p.toUInt32 >>> ((8 : Int32) &&& 31).toUInt32).toInt32 = v := ⟨_, rfl⟩
        refine gIushr W d11_86 e233 rfl ?_
        refine gSipush (z := (255 : Int32)) W d11_87 rfl rfl ?_
        obtain ⟨v234, e235⟩ : ∃ v : Int32, v232 &&& (255 : Int32) = v := ⟨_, rfl⟩
        refine gIand W d11_90 e235 rfl ?_
        obtain ⟨v236, e237⟩ : ∃ v : Int32, v234.toUInt32.toUInt16.toUInt32.toInt32 = v := ⟨_, rfl⟩
        refine gI2C W d11_91 e237 rfl ?_
        have cb238 := ch255 e235 e237
        exact wRetI (so := []) (t := .char) W d11_92 (by simp) (by show Value.int (nar .char v236) = _; rw [cb238.2.2]) (by decide) (by decide) (fun _ q => nomatch q) ⟨v236, rfl, rfl, (And.intro cb238.1 cb238.2.1)⟩
  · refine gIfNo W d11_4 ((if0 _ _).trans (feq c187).1) rfl ?_
    refine gIload W d11_7 rfl rfl ?_
    refine gIconst (z := (1 : Int32)) W d11_9 rfl rfl ?_
    obtain ⟨v239, e240⟩ : ∃ v : Int32, (e.toUInt32 >>> ((1 : Int32) &&& 31).toUInt32).toInt32 = v := ⟨_, rfl⟩
    refine gIushr W d11_10 e240 rfl ?_
    refine gBipush (z := (7 : Int32)) W d11_11 rfl rfl ?_
    obtain ⟨v241, e242⟩ : ∃ v : Int32, v239 &&& (7 : Int32) = v := ⟨_, rfl⟩
    refine gIand W d11_13 e242 rfl ?_
    refine gIloadN W d11_14 rfl rfl ?_
    by_cases c243 : v241 = (1 : Int32)
    · refine gIcmpNo W d11_15 (teq c243).2 rfl ?_
      refine gIload W d11_18 rfl rfl ?_
      refine gIconst (z := (4 : Int32)) W d11_20 rfl rfl ?_
      obtain ⟨v244, e245⟩ : ∃ v : Int32, (e.toUInt32 >>> ((4 : Int32) &&& 31).toUInt32).toInt32 = v := ⟨_, rfl⟩
      refine gIushr W d11_21 e245 rfl ?_
      refine gSipush (z := (255 : Int32)) W d11_22 rfl rfl ?_
      obtain ⟨v246, e247⟩ : ∃ v : Int32, v244 &&& (255 : Int32) = v := ⟨_, rfl⟩
      refine gIand W d11_25 e247 rfl ?_
      obtain ⟨v248, e249⟩ : ∃ v : Int32, v246.toUInt32.toUInt16.toUInt32.toInt32 = v := ⟨_, rfl⟩
      refine gI2C W d11_26 e249 rfl ?_
      have cb250 := ch255 e247 e249
      exact wRetI (so := []) (t := .char) W d11_27 (by simp) (by show Value.int (nar .char v248) = _; rw [cb250.2.2]) (by decide) (by decide) (fun _ q => nomatch q) ⟨v248, rfl, rfl, (And.intro cb250.1 cb250.2.1)⟩
    · refine gIcmpYes (pc' := 28) W d11_15 (feq c243).2 (by decide) rfl ?_
      refine gIloadN W d11_28 rfl rfl ?_
      by_cases c251 : b = (0 : Int32)
      · refine gIfNo W d11_29 ((if0 _ _).trans (teq c251).2) rfl ?_
        refine gIloadN W d11_32 rfl rfl ?_
        refine gBipush (z := (6 : Int32)) W d11_33 rfl rfl ?_
        refine gIcmpNo W d11_35 (tlt (by decide)).2.1 rfl ?_
        refine wLdcS (vs := [(.int 110), (.int 111), (.int 114), (.int 109), (.int 97), (.int 108)]) (z := 6) (n := 24) W d11_38 (ow65 hw) (owS hw) hE (by decide) (by decide) (by decide) (by decide) (by decide) (by decide) (by decide) (by decide) rfl fun T252 h254 a255 t256 k257 W253 E258 A259 f260 f261 f262 ne263 => ?_
        have f264 : Str Z h254 a255 [(110 : Int32), (111 : Int32), (114 : Int32), (109 : Int32), (97 : Int32), (108 : Int32)] := Str.mkL (cs := [(110 : Int32), (111 : Int32), (114 : Int32), (109 : Int32), (97 : Int32), (108 : Int32)]) A259 f260 f261 f262 (by decide) (by decide) (by decide) (by decide)
        refine gIloadN W253 d11_40 rfl rfl ?_
        refine wVirtual (y := (⟨"java/lang/String", "charAt", "(I)C"⟩ : MethodName)) (z := (⟨"java/lang/String", "charAt", "(I)C"⟩ : MethodName)) (Wd := 0) (a := a255) (argsL := [(.int (1 : Int32))]) (rest := []) W253 d11_41 (ow78 hw) (ow79 hw) (ow81 hw) (ow80 hw) (nfS (ow81 hw)) (by decide) (chPay hw hE a255 [(110 : Int32), (111 : Int32), (114 : Int32), (109 : Int32), (97 : Int32), (108 : Int32)] 1 (1 : Int32) 0 f264 (by decide) (SC.ext W253.old.2) hz (SF.ext W253.old.2) rf (by decide) (by decide) (by decide) (by decide)) A259 (by simp) rfl (lenOf opd1 rfl) rfl (Nat.le_of_eq rfl) (by decide) (by decide) rfl fun v269 so270 T265 h267 W266 kp268 sp271 q272 => ?_
        obtain ⟨rfl, rfl⟩ := q272
        show Go K _ T265 44 #[.val (.int (1 : Int32)), .val (.int b), .val (.int p), .val (.int q), .val (.int e), .unset, .unset] [(.int ([(110 : Int32), (111 : Int32), (114 : Int32), (109 : Int32), (97 : Int32), (108 : Int32)].getD 1 0))]
        show Go K _ T265 44 #[.val (.int (1 : Int32)), .val (.int b), .val (.int p), .val (.int q), .val (.int e), .unset, .unset] [(.int (111 : Int32))]
        exact wRetI (so := []) (t := .char) W266 d11_44 (by simp) rfl (by decide) (by decide) (fun _ q => nomatch q) ⟨(111 : Int32), rfl, rfl, ⟨by decide, by decide⟩⟩
      · refine gIfYes (pc' := 45) W d11_29 ((if0 _ _).trans (feq c251).2) (by decide) rfl ?_
        refine gIloadN W d11_45 rfl rfl ?_
        refine gIconst (z := (1 : Int32)) W d11_46 rfl rfl ?_
        by_cases c273 : b = (1 : Int32)
        · refine gIcmpNo W d11_47 (teq c273).2 rfl ?_
          refine gIloadN W d11_50 rfl rfl ?_
          refine gIconst (z := (4 : Int32)) W d11_51 rfl rfl ?_
          refine gIcmpNo W d11_52 (tlt (by decide)).2.1 rfl ?_
          refine wLdcS (vs := [(.int 104), (.int 105), (.int 103), (.int 104)]) (z := 4) (n := 16) W d11_55 (ow67 hw) (owS hw) hE (by decide) (by decide) (by decide) (by decide) (by decide) (by decide) (by decide) (by decide) rfl fun T274 h276 a277 t278 k279 W275 E280 A281 f282 f283 f284 ne285 => ?_
          have f286 : Str Z h276 a277 [(104 : Int32), (105 : Int32), (103 : Int32), (104 : Int32)] := Str.mkL (cs := [(104 : Int32), (105 : Int32), (103 : Int32), (104 : Int32)]) A281 f282 f283 f284 (by decide) (by decide) (by decide) (by decide)
          refine gIloadN W275 d11_57 rfl rfl ?_
          refine wVirtual (y := (⟨"java/lang/String", "charAt", "(I)C"⟩ : MethodName)) (z := (⟨"java/lang/String", "charAt", "(I)C"⟩ : MethodName)) (Wd := 0) (a := a277) (argsL := [(.int (1 : Int32))]) (rest := []) W275 d11_58 (ow78 hw) (ow79 hw) (ow81 hw) (ow80 hw) (nfS (ow81 hw)) (by decide) (chPay hw hE a277 [(104 : Int32), (105 : Int32), (103 : Int32), (104 : Int32)] 1 (1 : Int32) 0 f286 (by decide) (SC.ext W275.old.2) hz (SF.ext W275.old.2) rf (by decide) (by decide) (by decide) (by decide)) A281 (by simp) rfl (lenOf opd1 rfl) rfl (Nat.le_of_eq rfl) (by decide) (by decide) rfl fun v291 so292 T287 h289 W288 kp290 sp293 q294 => ?_
          obtain ⟨rfl, rfl⟩ := q294
          show Go K _ T287 61 #[.val (.int (1 : Int32)), .val (.int b), .val (.int p), .val (.int q), .val (.int e), .unset, .unset] [(.int ([(104 : Int32), (105 : Int32), (103 : Int32), (104 : Int32)].getD 1 0))]
          show Go K _ T287 61 #[.val (.int (1 : Int32)), .val (.int b), .val (.int p), .val (.int q), .val (.int e), .unset, .unset] [(.int (105 : Int32))]
          exact wRetI (so := []) (t := .char) W288 d11_61 (by simp) rfl (by decide) (by decide) (fun _ q => nomatch q) ⟨(105 : Int32), rfl, rfl, ⟨by decide, by decide⟩⟩
        · refine gIcmpYes (pc' := 62) W d11_47 (feq c273).2 (by decide) rfl ?_
          refine gIloadN W d11_62 rfl rfl ?_
          refine gIconst (z := (4 : Int32)) W d11_63 rfl rfl ?_
          refine gIcmpNo W d11_64 (tlt (by decide)).2.1 rfl ?_
          refine gIloadN W d11_67 rfl rfl ?_
          refine gGoto (pc' := 72) W d11_68 (by decide) rfl ?_
          refine gIstore (ls' := #[.val (.int (1 : Int32)), .val (.int b), .val (.int p), .val (.int q), .val (.int e), .val (.int p), .unset]) W d11_72 rfl rfl ?_
          refine gBipush (z := (8 : Int32)) W d11_74 rfl rfl ?_
          refine gIloadN W d11_76 rfl rfl ?_
          refine gIconst (z := (3 : Int32)) W d11_77 rfl rfl ?_
          refine gIand (z := (1 : Int32)) W d11_78 (by decide) rfl ?_
          refine gImul (z := (8 : Int32)) W d11_79 (by decide) rfl ?_
          refine gIstore (ls' := #[.val (.int (1 : Int32)), .val (.int b), .val (.int p), .val (.int q), .val (.int e), .val (.int p), .val (.int (8 : Int32))]) W d11_80 rfl rfl ?_
          refine gIload W d11_82 rfl rfl ?_
          refine gIload W d11_84 rfl rfl ?_
          obtain ⟨v295, e296⟩ : ∃ v : Int32, (p.toUInt32 >>> ((8 : Int32) &&& 31).toUInt32).toInt32 = v := ⟨_, rfl⟩
          refine gIushr W d11_86 e296 rfl ?_
          refine gSipush (z := (255 : Int32)) W d11_87 rfl rfl ?_
          obtain ⟨v297, e298⟩ : ∃ v : Int32, v295 &&& (255 : Int32) = v := ⟨_, rfl⟩
          refine gIand W d11_90 e298 rfl ?_
          obtain ⟨v299, e300⟩ : ∃ v : Int32, v297.toUInt32.toUInt16.toUInt32.toInt32 = v := ⟨_, rfl⟩
          refine gI2C W d11_91 e300 rfl ?_
          have cb301 := ch255 e298 e300
          exact wRetI (so := []) (t := .char) W d11_92 (by simp) (by show Value.int (nar .char v299) = _; rw [cb301.2.2]) (by decide) (by decide) (fun _ q => nomatch q) ⟨v299, rfl, rfl, (And.intro cb301.1 cb301.2.1)⟩
theorem oef_orm_at2 (m : MethodId) (b : Int32) (p : Int32) (q : Int32) (e : Int32)  : (entryFrame m #[(.int (2 : Int32)), (.int b), (.int p), (.int q), (.int e)] 7).locals = #[.val (.int (2 : Int32)), .val (.int b), .val (.int p), .val (.int q), .val (.int e), .unset, .unset] := by first | (simp [entryFrame, argsToLocals, Value.category]; done) | rfl
set_option maxRecDepth 65536 in
set_option maxHeartbeats 40000000 in
theorem orm_at2 (l : Launch) (Z : State) (a0 : Array Value) (hw : ∀ d ∈ tables_1, d.before a0 Z = true) (hE : EW Z a0 consts_1) (b : Int32) (p : Int32) (q : Int32) (e : Int32) (z : Int32) (fm : Value) (h : Heap) (hO : Old Z Z.heap.size h) (SC : (Sta Z Z.heap "java/lang/String" "COMPACT_STRINGS" "Z" (.int z))) (hz : (¬ z = 0)) (SF : (Sta Z Z.heap "jdk/internal/util/Preconditions" "SIOOBE_FORMATTER" "Ljava/util/function/BiFunction;" fm)) (rf : (fm.isRef = true))  :
    Ct l Z consts_1 (⟨"com/example/tidewire/tidewire/message/PriorityOfWireNamePinLaw", "at", "(IIIII)C"⟩ : MethodName) method_4_code 7 (Option.some Jvm.ClassFile.FieldType.char) ⟨4, 2, 28, 60⟩ #[(.int (2 : Int32)), (.int b), (.int p), (.int q), (.int e)] h [] (fun rv' hp' so' => ∃ v : Int32, rv' = some (.int v) ∧ so' = [] ∧ (B8 v)) := by
  refine Ct.mk "com/example/tidewire/tidewire/message/PriorityOfWireNamePinLaw" "at" rfl rfl (a0 := a0) (plainFor_of_name opn1) hO hE (fun x q => nomatch q) ?_
  intro K T W
  rw [oef_orm_at2]
  refine gIload W d11_0 rfl rfl ?_
  refine gIconst (z := (1 : Int32)) W d11_2 rfl rfl ?_
  obtain ⟨v302, e303⟩ : ∃ v : Int32, e &&& (1 : Int32) = v := ⟨_, rfl⟩
  refine gIand W d11_3 e303 rfl ?_
  by_cases c304 : v302 = (0 : Int32)
  · refine gIfYes (pc' := 28) W d11_4 ((if0 _ _).trans (teq c304).1) (by decide) rfl ?_
    refine gIloadN W d11_28 rfl rfl ?_
    by_cases c305 : b = (0 : Int32)
    · refine gIfNo W d11_29 ((if0 _ _).trans (teq c305).2) rfl ?_
      refine gIloadN W d11_32 rfl rfl ?_
      refine gBipush (z := (6 : Int32)) W d11_33 rfl rfl ?_
      refine gIcmpNo W d11_35 (tlt (by decide)).2.1 rfl ?_
      refine wLdcS (vs := [(.int 110), (.int 111), (.int 114), (.int 109), (.int 97), (.int 108)]) (z := 6) (n := 24) W d11_38 (ow65 hw) (owS hw) hE (by decide) (by decide) (by decide) (by decide) (by decide) (by decide) (by decide) (by decide) rfl fun T306 h308 a309 t310 k311 W307 E312 A313 f314 f315 f316 ne317 => ?_
      have f318 : Str Z h308 a309 [(110 : Int32), (111 : Int32), (114 : Int32), (109 : Int32), (97 : Int32), (108 : Int32)] := Str.mkL (cs := [(110 : Int32), (111 : Int32), (114 : Int32), (109 : Int32), (97 : Int32), (108 : Int32)]) A313 f314 f315 f316 (by decide) (by decide) (by decide) (by decide)
      refine gIloadN W307 d11_40 rfl rfl ?_
      refine wVirtual (y := (⟨"java/lang/String", "charAt", "(I)C"⟩ : MethodName)) (z := (⟨"java/lang/String", "charAt", "(I)C"⟩ : MethodName)) (Wd := 0) (a := a309) (argsL := [(.int (2 : Int32))]) (rest := []) W307 d11_41 (ow78 hw) (ow79 hw) (ow81 hw) (ow80 hw) (nfS (ow81 hw)) (by decide) (chPay hw hE a309 [(110 : Int32), (111 : Int32), (114 : Int32), (109 : Int32), (97 : Int32), (108 : Int32)] 2 (2 : Int32) 0 f318 (by decide) (SC.ext W307.old.2) hz (SF.ext W307.old.2) rf (by decide) (by decide) (by decide) (by decide)) A313 (by simp) rfl (lenOf opd1 rfl) rfl (Nat.le_of_eq rfl) (by decide) (by decide) rfl fun v323 so324 T319 h321 W320 kp322 sp325 q326 => ?_
      obtain ⟨rfl, rfl⟩ := q326
      show Go K _ T319 44 #[.val (.int (2 : Int32)), .val (.int b), .val (.int p), .val (.int q), .val (.int e), .unset, .unset] [(.int ([(110 : Int32), (111 : Int32), (114 : Int32), (109 : Int32), (97 : Int32), (108 : Int32)].getD 2 0))]
      show Go K _ T319 44 #[.val (.int (2 : Int32)), .val (.int b), .val (.int p), .val (.int q), .val (.int e), .unset, .unset] [(.int (114 : Int32))]
      exact wRetI (so := []) (t := .char) W320 d11_44 (by simp) rfl (by decide) (by decide) (fun _ q => nomatch q) ⟨(114 : Int32), rfl, rfl, ⟨by decide, by decide⟩⟩
    · refine gIfYes (pc' := 45) W d11_29 ((if0 _ _).trans (feq c305).2) (by decide) rfl ?_
      refine gIloadN W d11_45 rfl rfl ?_
      refine gIconst (z := (1 : Int32)) W d11_46 rfl rfl ?_
      by_cases c327 : b = (1 : Int32)
      · refine gIcmpNo W d11_47 (teq c327).2 rfl ?_
        refine gIloadN W d11_50 rfl rfl ?_
        refine gIconst (z := (4 : Int32)) W d11_51 rfl rfl ?_
        refine gIcmpNo W d11_52 (tlt (by decide)).2.1 rfl ?_
        refine wLdcS (vs := [(.int 104), (.int 105), (.int 103), (.int 104)]) (z := 4) (n := 16) W d11_55 (ow67 hw) (owS hw) hE (by decide) (by decide) (by decide) (by decide) (by decide) (by decide) (by decide) (by decide) rfl fun T328 h330 a331 t332 k333 W329 E334 A335 f336 f337 f338 ne339 => ?_
        have f340 : Str Z h330 a331 [(104 : Int32), (105 : Int32), (103 : Int32), (104 : Int32)] := Str.mkL (cs := [(104 : Int32), (105 : Int32), (103 : Int32), (104 : Int32)]) A335 f336 f337 f338 (by decide) (by decide) (by decide) (by decide)
        refine gIloadN W329 d11_57 rfl rfl ?_
        refine wVirtual (y := (⟨"java/lang/String", "charAt", "(I)C"⟩ : MethodName)) (z := (⟨"java/lang/String", "charAt", "(I)C"⟩ : MethodName)) (Wd := 0) (a := a331) (argsL := [(.int (2 : Int32))]) (rest := []) W329 d11_58 (ow78 hw) (ow79 hw) (ow81 hw) (ow80 hw) (nfS (ow81 hw)) (by decide) (chPay hw hE a331 [(104 : Int32), (105 : Int32), (103 : Int32), (104 : Int32)] 2 (2 : Int32) 0 f340 (by decide) (SC.ext W329.old.2) hz (SF.ext W329.old.2) rf (by decide) (by decide) (by decide) (by decide)) A335 (by simp) rfl (lenOf opd1 rfl) rfl (Nat.le_of_eq rfl) (by decide) (by decide) rfl fun v345 so346 T341 h343 W342 kp344 sp347 q348 => ?_
        obtain ⟨rfl, rfl⟩ := q348
        show Go K _ T341 61 #[.val (.int (2 : Int32)), .val (.int b), .val (.int p), .val (.int q), .val (.int e), .unset, .unset] [(.int ([(104 : Int32), (105 : Int32), (103 : Int32), (104 : Int32)].getD 2 0))]
        show Go K _ T341 61 #[.val (.int (2 : Int32)), .val (.int b), .val (.int p), .val (.int q), .val (.int e), .unset, .unset] [(.int (103 : Int32))]
        exact wRetI (so := []) (t := .char) W342 d11_61 (by simp) rfl (by decide) (by decide) (fun _ q => nomatch q) ⟨(103 : Int32), rfl, rfl, ⟨by decide, by decide⟩⟩
      · refine gIcmpYes (pc' := 62) W d11_47 (feq c327).2 (by decide) rfl ?_
        refine gIloadN W d11_62 rfl rfl ?_
        refine gIconst (z := (4 : Int32)) W d11_63 rfl rfl ?_
        refine gIcmpNo W d11_64 (tlt (by decide)).2.1 rfl ?_
        refine gIloadN W d11_67 rfl rfl ?_
        refine gGoto (pc' := 72) W d11_68 (by decide) rfl ?_
        refine gIstore (ls' := #[.val (.int (2 : Int32)), .val (.int b), .val (.int p), .val (.int q), .val (.int e), .val (.int p), .unset]) W d11_72 rfl rfl ?_
        refine gBipush (z := (8 : Int32)) W d11_74 rfl rfl ?_
        refine gIloadN W d11_76 rfl rfl ?_
        refine gIconst (z := (3 : Int32)) W d11_77 rfl rfl ?_
        refine gIand (z := (2 : Int32)) W d11_78 (by decide) rfl ?_
        refine gImul (z := (16 : Int32)) W d11_79 (by decide) rfl ?_
        refine gIstore (ls' := #[.val (.int (2 : Int32)), .val (.int b), .val (.int p), .val (.int q), .val (.int e), .val (.int p), .val (.int (16 : Int32))]) W d11_80 rfl rfl ?_
        refine gIload W d11_82 rfl rfl ?_
        refine gIload W d11_84 rfl rfl ?_
        obtain ⟨v349, e350⟩ : ∃ v : Int32, (p.toUInt32 >>> ((16 : Int32) &&& 31).toUInt32).toInt32 = v := ⟨_, rfl⟩
        refine gIushr W d11_86 e350 rfl ?_
        refine gSipush (z := (255 : Int32)) W d11_87 rfl rfl ?_
        obtain ⟨v351, e352⟩ : ∃ v : Int32, v349 &&& (255 : Int32) = v := ⟨_, rfl⟩
        refine gIand W d11_90 e352 rfl ?_
        obtain ⟨v353, e354⟩ : ∃ v : Int32, v351.toUInt32.toUInt16.toUInt32.toInt32 = v := ⟨_, rfl⟩
        refine gI2C W d11_91 e354 rfl ?_
        have cb355 := ch255 e352 e354
        exact wRetI (so := []) (t := .char) W d11_92 (by simp) (by show Value.int (nar .char v353) = _; rw [cb355.2.2]) (by decide) (by decide) (fun _ q => nomatch q) ⟨v353, rfl, rfl, (And.intro cb355.1 cb355.2.1)⟩
  · refine gIfNo W d11_4 ((if0 _ _).trans (feq c304).1) rfl ?_
    refine gIload W d11_7 rfl rfl ?_
    refine gIconst (z := (1 : Int32)) W d11_9 rfl rfl ?_
    obtain ⟨v356, e357⟩ : ∃ v : Int32, (e.toUInt32 >>> ((1 : Int32) &&& 31).toUInt32).toInt32 = v := ⟨_, rfl⟩
    refine gIushr W d11_10 e357 rfl ?_
    refine gBipush (z := (7 : Int32)) W d11_11 rfl rfl ?_
    obtain ⟨v358, e359⟩ : ∃ v : Int32, v356 &&& (7 : Int32) = v := ⟨_, rfl⟩
    refine gIand W d11_13 e359 rfl ?_
    refine gIloadN W d11_14 rfl rfl ?_
    by_cases c360 : v358 = (2 : Int32)
    · refine gIcmpNo W d11_15 (teq c360).2 rfl ?_
      refine gIload W d11_18 rfl rfl ?_
      refine gIconst (z := (4 : Int32)) W d11_20 rfl rfl ?_
      obtain ⟨v361, e362⟩ : ∃ v : Int32, (e.toUInt32 >>> ((4 : Int32) &&& 31).toUInt32).toInt32 = v := ⟨_, rfl⟩
      refine gIushr W d11_21 e362 rfl ?_
      refine gSipush (z := (255 : Int32)) W d11_22 rfl rfl ?_
      obtain ⟨v363, e364⟩ : ∃ v : Int32, v361 &&& (255 : Int32) = v := ⟨_, rfl⟩
      refine gIand W d11_25 e364 rfl ?_
      obtain ⟨v365, e366⟩ : ∃ v : Int32, v363.toUInt32.toUInt16.toUInt32.toInt32 = v := ⟨_, rfl⟩
      refine gI2C W d11_26 e366 rfl ?_
      have cb367 := ch255 e364 e366
      exact wRetI (so := []) (t := .char) W d11_27 (by simp) (by show Value.int (nar .char v365) = _; rw [cb367.2.2]) (by decide) (by decide) (fun _ q => nomatch q) ⟨v365, rfl, rfl, (And.intro cb367.1 cb367.2.1)⟩
    · refine gIcmpYes (pc' := 28) W d11_15 (feq c360).2 (by decide) rfl ?_
      refine gIloadN W d11_28 rfl rfl ?_
      by_cases c368 : b = (0 : Int32)
      · refine gIfNo W d11_29 ((if0 _ _).trans (teq c368).2) rfl ?_
        refine gIloadN W d11_32 rfl rfl ?_
        refine gBipush (z := (6 : Int32)) W d11_33 rfl rfl ?_
        refine gIcmpNo W d11_35 (tlt (by decide)).2.1 rfl ?_
        refine wLdcS (vs := [(.int 110), (.int 111), (.int 114), (.int 109), (.int 97), (.int 108)]) (z := 6) (n := 24) W d11_38 (ow65 hw) (owS hw) hE (by decide) (by decide) (by decide) (by decide) (by decide) (by decide) (by decide) (by decide) rfl fun T369 h371 a372 t373 k374 W370 E375 A376 f377 f378 f379 ne380 => ?_
        have f381 : Str Z h371 a372 [(110 : Int32), (111 : Int32), (114 : Int32), (109 : Int32), (97 : Int32), (108 : Int32)] := Str.mkL (cs := [(110 : Int32), (111 : Int32), (114 : Int32), (109 : Int32), (97 : Int32), (108 : Int32)]) A376 f377 f378 f379 (by decide) (by decide) (by decide) (by decide)
        refine gIloadN W370 d11_40 rfl rfl ?_
        refine wVirtual (y := (⟨"java/lang/String", "charAt", "(I)C"⟩ : MethodName)) (z := (⟨"java/lang/String", "charAt", "(I)C"⟩ : MethodName)) (Wd := 0) (a := a372) (argsL := [(.int (2 : Int32))]) (rest := []) W370 d11_41 (ow78 hw) (ow79 hw) (ow81 hw) (ow80 hw) (nfS (ow81 hw)) (by decide) (chPay hw hE a372 [(110 : Int32), (111 : Int32), (114 : Int32), (109 : Int32), (97 : Int32), (108 : Int32)] 2 (2 : Int32) 0 f381 (by decide) (SC.ext W370.old.2) hz (SF.ext W370.old.2) rf (by decide) (by decide) (by decide) (by decide)) A376 (by simp) rfl (lenOf opd1 rfl) rfl (Nat.le_of_eq rfl) (by decide) (by decide) rfl fun v386 so387 T382 h384 W383 kp385 sp388 q389 => ?_
        obtain ⟨rfl, rfl⟩ := q389
        show Go K _ T382 44 #[.val (.int (2 : Int32)), .val (.int b), .val (.int p), .val (.int q), .val (.int e), .unset, .unset] [(.int ([(110 : Int32), (111 : Int32), (114 : Int32), (109 : Int32), (97 : Int32), (108 : Int32)].getD 2 0))]
        show Go K _ T382 44 #[.val (.int (2 : Int32)), .val (.int b), .val (.int p), .val (.int q), .val (.int e), .unset, .unset] [(.int (114 : Int32))]
        exact wRetI (so := []) (t := .char) W383 d11_44 (by simp) rfl (by decide) (by decide) (fun _ q => nomatch q) ⟨(114 : Int32), rfl, rfl, ⟨by decide, by decide⟩⟩
      · refine gIfYes (pc' := 45) W d11_29 ((if0 _ _).trans (feq c368).2) (by decide) rfl ?_
        refine gIloadN W d11_45 rfl rfl ?_
        refine gIconst (z := (1 : Int32)) W d11_46 rfl rfl ?_
        by_cases c390 : b = (1 : Int32)
        · refine gIcmpNo W d11_47 (teq c390).2 rfl ?_
          refine gIloadN W d11_50 rfl rfl ?_
          refine gIconst (z := (4 : Int32)) W d11_51 rfl rfl ?_
          refine gIcmpNo W d11_52 (tlt (by decide)).2.1 rfl ?_
          refine wLdcS (vs := [(.int 104), (.int 105), (.int 103), (.int 104)]) (z := 4) (n := 16) W d11_55 (ow67 hw) (owS hw) hE (by decide) (by decide) (by decide) (by decide) (by decide) (by decide) (by decide) (by decide) rfl fun T391 h393 a394 t395 k396 W392 E397 A398 f399 f400 f401 ne402 => ?_
          have f403 : Str Z h393 a394 [(104 : Int32), (105 : Int32), (103 : Int32), (104 : Int32)] := Str.mkL (cs := [(104 : Int32), (105 : Int32), (103 : Int32), (104 : Int32)]) A398 f399 f400 f401 (by decide) (by decide) (by decide) (by decide)
          refine gIloadN W392 d11_57 rfl rfl ?_
          refine wVirtual (y := (⟨"java/lang/String", "charAt", "(I)C"⟩ : MethodName)) (z := (⟨"java/lang/String", "charAt", "(I)C"⟩ : MethodName)) (Wd := 0) (a := a394) (argsL := [(.int (2 : Int32))]) (rest := []) W392 d11_58 (ow78 hw) (ow79 hw) (ow81 hw) (ow80 hw) (nfS (ow81 hw)) (by decide) (chPay hw hE a394 [(104 : Int32), (105 : Int32), (103 : Int32), (104 : Int32)] 2 (2 : Int32) 0 f403 (by decide) (SC.ext W392.old.2) hz (SF.ext W392.old.2) rf (by decide) (by decide) (by decide) (by decide)) A398 (by simp) rfl (lenOf opd1 rfl) rfl (Nat.le_of_eq rfl) (by decide) (by decide) rfl fun v408 so409 T404 h406 W405 kp407 sp410 q411 => ?_
          obtain ⟨rfl, rfl⟩ := q411
          show Go K _ T404 61 #[.val (.int (2 : Int32)), .val (.int b), .val (.int p), .val (.int q), .val (.int e), .unset, .unset] [(.int ([(104 : Int32), (105 : Int32), (103 : Int32), (104 : Int32)].getD 2 0))]
          show Go K _ T404 61 #[.val (.int (2 : Int32)), .val (.int b), .val (.int p), .val (.int q), .val (.int e), .unset, .unset] [(.int (103 : Int32))]
          exact wRetI (so := []) (t := .char) W405 d11_61 (by simp) rfl (by decide) (by decide) (fun _ q => nomatch q) ⟨(103 : Int32), rfl, rfl, ⟨by decide, by decide⟩⟩
        · refine gIcmpYes (pc' := 62) W d11_47 (feq c390).2 (by decide) rfl ?_
          refine gIloadN W d11_62 rfl rfl ?_
          refine gIconst (z := (4 : Int32)) W d11_63 rfl rfl ?_
          refine gIcmpNo W d11_64 (tlt (by decide)).2.1 rfl ?_
          refine gIloadN W d11_67 rfl rfl ?_
          refine gGoto (pc' := 72) W d11_68 (by decide) rfl ?_
          refine gIstore (ls' := #[.val (.int (2 : Int32)), .val (.int b), .val (.int p), .val (.int q), .val (.int e), .val (.int p), .unset]) W d11_72 rfl rfl ?_
          refine gBipush (z := (8 : Int32)) W d11_74 rfl rfl ?_
          refine gIloadN W d11_76 rfl rfl ?_
          refine gIconst (z := (3 : Int32)) W d11_77 rfl rfl ?_
          refine gIand (z := (2 : Int32)) W d11_78 (by decide) rfl ?_
          refine gImul (z := (16 : Int32)) W d11_79 (by decide) rfl ?_
          refine gIstore (ls' := #[.val (.int (2 : Int32)), .val (.int b), .val (.int p), .val (.int q), .val (.int e), .val (.int p), .val (.int (16 : Int32))]) W d11_80 rfl rfl ?_
          refine gIload W d11_82 rfl rfl ?_
          refine gIload W d11_84 rfl rfl ?_
          obtain ⟨v412, e413⟩ : ∃ v : Int32, (p.toUInt32 >>> ((16 : Int32) &&& 31).toUInt32).toInt32 = v := ⟨_, rfl⟩
          refine gIushr W d11_86 e413 rfl ?_
          refine gSipush (z := (255 : Int32)) W d11_87 rfl rfl ?_
          obtain ⟨v414, e415⟩ : ∃ v : Int32, v412 &&& (255 : Int32) = v := ⟨_, rfl⟩
          refine gIand W d11_90 e415 rfl ?_
          obtain ⟨v416, e417⟩ : ∃ v : Int32, v414.toUInt32.toUInt16.toUInt32.toInt32 = v := ⟨_, rfl⟩
          refine gI2C W d11_91 e417 rfl ?_
          have cb418 := ch255 e415 e417
          exact wRetI (so := []) (t := .char) W d11_92 (by simp) (by show Value.int (nar .char v416) = _; rw [cb418.2.2]) (by decide) (by decide) (fun _ q => nomatch q) ⟨v416, rfl, rfl, (And.intro cb418.1 cb418.2.1)⟩
theorem oef_orm_at3 (m : MethodId) (b : Int32) (p : Int32) (q : Int32) (e : Int32)  : (entryFrame m #[(.int (3 : Int32)), (.int b), (.int p), (.int q), (.int e)] 7).locals = #[.val (.int (3 : Int32)), .val (.int b), .val (.int p), .val (.int q), .val (.int e), .unset, .unset] := by first | (simp [entryFrame, argsToLocals, Value.category]; done) | rfl
set_option maxRecDepth 65536 in
set_option maxHeartbeats 40000000 in
theorem orm_at3 (l : Launch) (Z : State) (a0 : Array Value) (hw : ∀ d ∈ tables_1, d.before a0 Z = true) (hE : EW Z a0 consts_1) (b : Int32) (p : Int32) (q : Int32) (e : Int32) (z : Int32) (fm : Value) (h : Heap) (hO : Old Z Z.heap.size h) (SC : (Sta Z Z.heap "java/lang/String" "COMPACT_STRINGS" "Z" (.int z))) (hz : (¬ z = 0)) (SF : (Sta Z Z.heap "jdk/internal/util/Preconditions" "SIOOBE_FORMATTER" "Ljava/util/function/BiFunction;" fm)) (rf : (fm.isRef = true))  :
    Ct l Z consts_1 (⟨"com/example/tidewire/tidewire/message/PriorityOfWireNamePinLaw", "at", "(IIIII)C"⟩ : MethodName) method_4_code 7 (Option.some Jvm.ClassFile.FieldType.char) ⟨4, 2, 28, 60⟩ #[(.int (3 : Int32)), (.int b), (.int p), (.int q), (.int e)] h [] (fun rv' hp' so' => ∃ v : Int32, rv' = some (.int v) ∧ so' = [] ∧ (B8 v)) := by
  refine Ct.mk "com/example/tidewire/tidewire/message/PriorityOfWireNamePinLaw" "at" rfl rfl (a0 := a0) (plainFor_of_name opn1) hO hE (fun x q => nomatch q) ?_
  intro K T W
  rw [oef_orm_at3]
  refine gIload W d11_0 rfl rfl ?_
  refine gIconst (z := (1 : Int32)) W d11_2 rfl rfl ?_
  obtain ⟨v419, e420⟩ : ∃ v : Int32, e &&& (1 : Int32) = v := ⟨_, rfl⟩
  refine gIand W d11_3 e420 rfl ?_
  by_cases c421 : v419 = (0 : Int32)
  · refine gIfYes (pc' := 28) W d11_4 ((if0 _ _).trans (teq c421).1) (by decide) rfl ?_
    refine gIloadN W d11_28 rfl rfl ?_
    by_cases c422 : b = (0 : Int32)
    · refine gIfNo W d11_29 ((if0 _ _).trans (teq c422).2) rfl ?_
      refine gIloadN W d11_32 rfl rfl ?_
      refine gBipush (z := (6 : Int32)) W d11_33 rfl rfl ?_
      refine gIcmpNo W d11_35 (tlt (by decide)).2.1 rfl ?_
      refine wLdcS (vs := [(.int 110), (.int 111), (.int 114), (.int 109), (.int 97), (.int 108)]) (z := 6) (n := 24) W d11_38 (ow65 hw) (owS hw) hE (by decide) (by decide) (by decide) (by decide) (by decide) (by decide) (by decide) (by decide) rfl fun T423 h425 a426 t427 k428 W424 E429 A430 f431 f432 f433 ne434 => ?_
      have f435 : Str Z h425 a426 [(110 : Int32), (111 : Int32), (114 : Int32), (109 : Int32), (97 : Int32), (108 : Int32)] := Str.mkL (cs := [(110 : Int32), (111 : Int32), (114 : Int32), (109 : Int32), (97 : Int32), (108 : Int32)]) A430 f431 f432 f433 (by decide) (by decide) (by decide) (by decide)
      refine gIloadN W424 d11_40 rfl rfl ?_
      refine wVirtual (y := (⟨"java/lang/String", "charAt", "(I)C"⟩ : MethodName)) (z := (⟨"java/lang/String", "charAt", "(I)C"⟩ : MethodName)) (Wd := 0) (a := a426) (argsL := [(.int (3 : Int32))]) (rest := []) W424 d11_41 (ow78 hw) (ow79 hw) (ow81 hw) (ow80 hw) (nfS (ow81 hw)) (by decide) (chPay hw hE a426 [(110 : Int32), (111 : Int32), (114 : Int32), (109 : Int32), (97 : Int32), (108 : Int32)] 3 (3 : Int32) 0 f435 (by decide) (SC.ext W424.old.2) hz (SF.ext W424.old.2) rf (by decide) (by decide) (by decide) (by decide)) A430 (by simp) rfl (lenOf opd1 rfl) rfl (Nat.le_of_eq rfl) (by decide) (by decide) rfl fun v440 so441 T436 h438 W437 kp439 sp442 q443 => ?_
      obtain ⟨rfl, rfl⟩ := q443
      show Go K _ T436 44 #[.val (.int (3 : Int32)), .val (.int b), .val (.int p), .val (.int q), .val (.int e), .unset, .unset] [(.int ([(110 : Int32), (111 : Int32), (114 : Int32), (109 : Int32), (97 : Int32), (108 : Int32)].getD 3 0))]
      show Go K _ T436 44 #[.val (.int (3 : Int32)), .val (.int b), .val (.int p), .val (.int q), .val (.int e), .unset, .unset] [(.int (109 : Int32))]
      exact wRetI (so := []) (t := .char) W437 d11_44 (by simp) rfl (by decide) (by decide) (fun _ q => nomatch q) ⟨(109 : Int32), rfl, rfl, ⟨by decide, by decide⟩⟩
    · refine gIfYes (pc' := 45) W d11_29 ((if0 _ _).trans (feq c422).2) (by decide) rfl ?_
      refine gIloadN W d11_45 rfl rfl ?_
      refine gIconst (z := (1 : Int32)) W d11_46 rfl rfl ?_
      by_cases c444 : b = (1 : Int32)
      · refine gIcmpNo W d11_47 (teq c444).2 rfl ?_
        refine gIloadN W d11_50 rfl rfl ?_
        refine gIconst (z := (4 : Int32)) W d11_51 rfl rfl ?_
        refine gIcmpNo W d11_52 (tlt (by decide)).2.1 rfl ?_
        refine wLdcS (vs := [(.int 104), (.int 105), (.int 103), (.int 104)]) (z := 4) (n := 16) W d11_55 (ow67 hw) (owS hw) hE (by decide) (by decide) (by decide) (by decide) (by decide) (by decide) (by decide) (by decide) rfl fun T445 h447 a448 t449 k450 W446 E451 A452 f453 f454 f455 ne456 => ?_
        have f457 : Str Z h447 a448 [(104 : Int32), (105 : Int32), (103 : Int32), (104 : Int32)] := Str.mkL (cs := [(104 : Int32), (105 : Int32), (103 : Int32), (104 : Int32)]) A452 f453 f454 f455 (by decide) (by decide) (by decide) (by decide)
        refine gIloadN W446 d11_57 rfl rfl ?_
        refine wVirtual (y := (⟨"java/lang/String", "charAt", "(I)C"⟩ : MethodName)) (z := (⟨"java/lang/String", "charAt", "(I)C"⟩ : MethodName)) (Wd := 0) (a := a448) (argsL := [(.int (3 : Int32))]) (rest := []) W446 d11_58 (ow78 hw) (ow79 hw) (ow81 hw) (ow80 hw) (nfS (ow81 hw)) (by decide) (chPay hw hE a448 [(104 : Int32), (105 : Int32), (103 : Int32), (104 : Int32)] 3 (3 : Int32) 0 f457 (by decide) (SC.ext W446.old.2) hz (SF.ext W446.old.2) rf (by decide) (by decide) (by decide) (by decide)) A452 (by simp) rfl (lenOf opd1 rfl) rfl (Nat.le_of_eq rfl) (by decide) (by decide) rfl fun v462 so463 T458 h460 W459 kp461 sp464 q465 => ?_
        obtain ⟨rfl, rfl⟩ := q465
        show Go K _ T458 61 #[.val (.int (3 : Int32)), .val (.int b), .val (.int p), .val (.int q), .val (.int e), .unset, .unset] [(.int ([(104 : Int32), (105 : Int32), (103 : Int32), (104 : Int32)].getD 3 0))]
        show Go K _ T458 61 #[.val (.int (3 : Int32)), .val (.int b), .val (.int p), .val (.int q), .val (.int e), .unset, .unset] [(.int (104 : Int32))]
        exact wRetI (so := []) (t := .char) W459 d11_61 (by simp) rfl (by decide) (by decide) (fun _ q => nomatch q) ⟨(104 : Int32), rfl, rfl, ⟨by decide, by decide⟩⟩
      · refine gIcmpYes (pc' := 62) W d11_47 (feq c444).2 (by decide) rfl ?_
        refine gIloadN W d11_62 rfl rfl ?_
        refine gIconst (z := (4 : Int32)) W d11_63 rfl rfl ?_
        refine gIcmpNo W d11_64 (tlt (by decide)).2.1 rfl ?_
        refine gIloadN W d11_67 rfl rfl ?_
        refine gGoto (pc' := 72) W d11_68 (by decide) rfl ?_
        refine gIstore (ls' := #[.val (.int (3 : Int32)), .val (.int b), .val (.int p), .val (.int q), .val (.int e), .val (.int p), .unset]) W d11_72 rfl rfl ?_
        refine gBipush (z := (8 : Int32)) W d11_74 rfl rfl ?_
        refine gIloadN W d11_76 rfl rfl ?_
        refine gIconst (z := (3 : Int32)) W d11_77 rfl rfl ?_
        refine gIand (z := (3 : Int32)) W d11_78 (by decide) rfl ?_
        refine gImul (z := (24 : Int32)) W d11_79 (by decide) rfl ?_
        refine gIstore (ls' := #[.val (.int (3 : Int32)), .val (.int b), .val (.int p), .val (.int q), .val (.int e), .val (.int p), .val (.int (24 : Int32))]) W d11_80 rfl rfl ?_
        refine gIload W d11_82 rfl rfl ?_
        refine gIload W d11_84 rfl rfl ?_
        obtain ⟨v466, e467⟩ : ∃ v : Int32, (p.toUInt32 >>> ((24 : Int32) &&& 31).toUInt32).toInt32 = v := ⟨_, rfl⟩
        refine gIushr W d11_86 e467 rfl ?_
        refine gSipush (z := (255 : Int32)) W d11_87 rfl rfl ?_
        obtain ⟨v468, e469⟩ : ∃ v : Int32, v466 &&& (255 : Int32) = v := ⟨_, rfl⟩
        refine gIand W d11_90 e469 rfl ?_
        obtain ⟨v470, e471⟩ : ∃ v : Int32, v468.toUInt32.toUInt16.toUInt32.toInt32 = v := ⟨_, rfl⟩
        refine gI2C W d11_91 e471 rfl ?_
        have cb472 := ch255 e469 e471
        exact wRetI (so := []) (t := .char) W d11_92 (by simp) (by show Value.int (nar .char v470) = _; rw [cb472.2.2]) (by decide) (by decide) (fun _ q => nomatch q) ⟨v470, rfl, rfl, (And.intro cb472.1 cb472.2.1)⟩
  · refine gIfNo W d11_4 ((if0 _ _).trans (feq c421).1) rfl ?_
    refine gIload W d11_7 rfl rfl ?_
    refine gIconst (z := (1 : Int32)) W d11_9 rfl rfl ?_
    obtain ⟨v473, e474⟩ : ∃ v : Int32, (e.toUInt32 >>> ((1 : Int32) &&& 31).toUInt32).toInt32 = v := ⟨_, rfl⟩
    refine gIushr W d11_10 e474 rfl ?_
    refine gBipush (z := (7 : Int32)) W d11_11 rfl rfl ?_
    obtain ⟨v475, e476⟩ : ∃ v : Int32, v473 &&& (7 : Int32) = v := ⟨_, rfl⟩
    refine gIand W d11_13 e476 rfl ?_
    refine gIloadN W d11_14 rfl rfl ?_
    by_cases c477 : v475 = (3 : Int32)
    · refine gIcmpNo W d11_15 (teq c477).2 rfl ?_
      refine gIload W d11_18 rfl rfl ?_
      refine gIconst (z := (4 : Int32)) W d11_20 rfl rfl ?_
      obtain ⟨v478, e479⟩ : ∃ v : Int32, (e.toUInt32 >>> ((4 : Int32) &&& 31).toUInt32).toInt32 = v := ⟨_, rfl⟩
      refine gIushr W d11_21 e479 rfl ?_
      refine gSipush (z := (255 : Int32)) W d11_22 rfl rfl ?_
      obtain ⟨v480, e481⟩ : ∃ v : Int32, v478 &&& (255 : Int32) = v := ⟨_, rfl⟩
      refine gIand W d11_25 e481 rfl ?_
      obtain ⟨v482, e483⟩ : ∃ v : Int32, v480.toUInt32.toUInt16.toUInt32.toInt32 = v := ⟨_, rfl⟩
      refine gI2C W d11_26 e483 rfl ?_
      have cb484 := ch255 e481 e483
      exact wRetI (so := []) (t := .char) W d11_27 (by simp) (by show Value.int (nar .char v482) = _; rw [cb484.2.2]) (by decide) (by decide) (fun _ q => nomatch q) ⟨v482, rfl, rfl, (And.intro cb484.1 cb484.2.1)⟩
    · refine gIcmpYes (pc' := 28) W d11_15 (feq c477).2 (by decide) rfl ?_
      refine gIloadN W d11_28 rfl rfl ?_
      by_cases c485 : b = (0 : Int32)
      · refine gIfNo W d11_29 ((if0 _ _).trans (teq c485).2) rfl ?_
        refine gIloadN W d11_32 rfl rfl ?_
        refine gBipush (z := (6 : Int32)) W d11_33 rfl rfl ?_
        refine gIcmpNo W d11_35 (tlt (by decide)).2.1 rfl ?_
        refine wLdcS (vs := [(.int 110), (.int 111), (.int 114), (.int 109), (.int 97), (.int 108)]) (z := 6) (n := 24) W d11_38 (ow65 hw) (owS hw) hE (by decide) (by decide) (by decide) (by decide) (by decide) (by decide) (by decide) (by decide) rfl fun T486 h488 a489 t490 k491 W487 E492 A493 f494 f495 f496 ne497 => ?_
        have f498 : Str Z h488 a489 [(110 : Int32), (111 : Int32), (114 : Int32), (109 : Int32), (97 : Int32), (108 : Int32)] := Str.mkL (cs := [(110 : Int32), (111 : Int32), (114 : Int32), (109 : Int32), (97 : Int32), (108 : Int32)]) A493 f494 f495 f496 (by decide) (by decide) (by decide) (by decide)
        refine gIloadN W487 d11_40 rfl rfl ?_
        refine wVirtual (y := (⟨"java/lang/String", "charAt", "(I)C"⟩ : MethodName)) (z := (⟨"java/lang/String", "charAt", "(I)C"⟩ : MethodName)) (Wd := 0) (a := a489) (argsL := [(.int (3 : Int32))]) (rest := []) W487 d11_41 (ow78 hw) (ow79 hw) (ow81 hw) (ow80 hw) (nfS (ow81 hw)) (by decide) (chPay hw hE a489 [(110 : Int32), (111 : Int32), (114 : Int32), (109 : Int32), (97 : Int32), (108 : Int32)] 3 (3 : Int32) 0 f498 (by decide) (SC.ext W487.old.2) hz (SF.ext W487.old.2) rf (by decide) (by decide) (by decide) (by decide)) A493 (by simp) rfl (lenOf opd1 rfl) rfl (Nat.le_of_eq rfl) (by decide) (by decide) rfl fun v503 so504 T499 h501 W500 kp502 sp505 q506 => ?_
        obtain ⟨rfl, rfl⟩ := q506
        show Go K _ T499 44 #[.val (.int (3 : Int32)), .val (.int b), .val (.int p), .val (.int q), .val (.int e), .unset, .unset] [(.int ([(110 : Int32), (111 : Int32), (114 : Int32), (109 : Int32), (97 : Int32), (108 : Int32)].getD 3 0))]
        show Go K _ T499 44 #[.val (.int (3 : Int32)), .val (.int b), .val (.int p), .val (.int q), .val (.int e), .unset, .unset] [(.int (109 : Int32))]
        exact wRetI (so := []) (t := .char) W500 d11_44 (by simp) rfl (by decide) (by decide) (fun _ q => nomatch q) ⟨(109 : Int32), rfl, rfl, ⟨by decide, by decide⟩⟩
      · refine gIfYes (pc' := 45) W d11_29 ((if0 _ _).trans (feq c485).2) (by decide) rfl ?_
        refine gIloadN W d11_45 rfl rfl ?_
        refine gIconst (z := (1 : Int32)) W d11_46 rfl rfl ?_
        by_cases c507 : b = (1 : Int32)
        · refine gIcmpNo W d11_47 (teq c507).2 rfl ?_
          refine gIloadN W d11_50 rfl rfl ?_
          refine gIconst (z := (4 : Int32)) W d11_51 rfl rfl ?_
          refine gIcmpNo W d11_52 (tlt (by decide)).2.1 rfl ?_
          refine wLdcS (vs := [(.int 104), (.int 105), (.int 103), (.int 104)]) (z := 4) (n := 16) W d11_55 (ow67 hw) (owS hw) hE (by decide) (by decide) (by decide) (by decide) (by decide) (by decide) (by decide) (by decide) rfl fun T508 h510 a511 t512 k513 W509 E514 A515 f516 f517 f518 ne519 => ?_
          have f520 : Str Z h510 a511 [(104 : Int32), (105 : Int32), (103 : Int32), (104 : Int32)] := Str.mkL (cs := [(104 : Int32), (105 : Int32), (103 : Int32), (104 : Int32)]) A515 f516 f517 f518 (by decide) (by decide) (by decide) (by decide)
          refine gIloadN W509 d11_57 rfl rfl ?_
          refine wVirtual (y := (⟨"java/lang/String", "charAt", "(I)C"⟩ : MethodName)) (z := (⟨"java/lang/String", "charAt", "(I)C"⟩ : MethodName)) (Wd := 0) (a := a511) (argsL := [(.int (3 : Int32))]) (rest := []) W509 d11_58 (ow78 hw) (ow79 hw) (ow81 hw) (ow80 hw) (nfS (ow81 hw)) (by decide) (chPay hw hE a511 [(104 : Int32), (105 : Int32), (103 : Int32), (104 : Int32)] 3 (3 : Int32) 0 f520 (by decide) (SC.ext W509.old.2) hz (SF.ext W509.old.2) rf (by decide) (by decide) (by decide) (by decide)) A515 (by simp) rfl (lenOf opd1 rfl) rfl (Nat.le_of_eq rfl) (by decide) (by decide) rfl fun v525 so526 T521 h523 W522 kp524 sp527 q528 => ?_
          obtain ⟨rfl, rfl⟩ := q528
          show Go K _ T521 61 #[.val (.int (3 : Int32)), .val (.int b), .val (.int p), .val (.int q), .val (.int e), .unset, .unset] [(.int ([(104 : Int32), (105 : Int32), (103 : Int32), (104 : Int32)].getD 3 0))]
          show Go K _ T521 61 #[.val (.int (3 : Int32)), .val (.int b), .val (.int p), .val (.int q), .val (.int e), .unset, .unset] [(.int (104 : Int32))]
          exact wRetI (so := []) (t := .char) W522 d11_61 (by simp) rfl (by decide) (by decide) (fun _ q => nomatch q) ⟨(104 : Int32), rfl, rfl, ⟨by decide, by decide⟩⟩
        · refine gIcmpYes (pc' := 62) W d11_47 (feq c507).2 (by decide) rfl ?_
          refine gIloadN W d11_62 rfl rfl ?_
          refine gIconst (z := (4 : Int32)) W d11_63 rfl rfl ?_
          refine gIcmpNo W d11_64 (tlt (by decide)).2.1 rfl ?_
          refine gIloadN W d11_67 rfl rfl ?_
          refine gGoto (pc' := 72) W d11_68 (by decide) rfl ?_
          refine gIstore (ls' := #[.val (.int (3 : Int32)), .val (.int b), .val (.int p), .val (.int q), .val (.int e), .val (.int p), .unset]) W d11_72 rfl rfl ?_
          refine gBipush (z := (8 : Int32)) W d11_74 rfl rfl ?_
          refine gIloadN W d11_76 rfl rfl ?_
          refine gIconst (z := (3 : Int32)) W d11_77 rfl rfl ?_
          refine gIand (z := (3 : Int32)) W d11_78 (by decide) rfl ?_
          refine gImul (z := (24 : Int32)) W d11_79 (by decide) rfl ?_
          refine gIstore (ls' := #[.val (.int (3 : Int32)), .val (.int b), .val (.int p), .val (.int q), .val (.int e), .val (.int p), .val (.int (24 : Int32))]) W d11_80 rfl rfl ?_
          refine gIload W d11_82 rfl rfl ?_
          refine gIload W d11_84 rfl rfl ?_
          obtain ⟨v529, e530⟩ : ∃ v : Int32, (p.toUInt32 >>> ((24 : Int32) &&& 31).toUInt32).toInt32 = v := ⟨_, rfl⟩
          refine gIushr W d11_86 e530 rfl ?_
          refine gSipush (z := (255 : Int32)) W d11_87 rfl rfl ?_
          obtain ⟨v531, e532⟩ : ∃ v : Int32, v529 &&& (255 : Int32) = v := ⟨_, rfl⟩
          refine gIand W d11_90 e532 rfl ?_
          obtain ⟨v533, e534⟩ : ∃ v : Int32, v531.toUInt32.toUInt16.toUInt32.toInt32 = v := ⟨_, rfl⟩
          refine gI2C W d11_91 e534 rfl ?_
          have cb535 := ch255 e532 e534
          exact wRetI (so := []) (t := .char) W d11_92 (by simp) (by show Value.int (nar .char v533) = _; rw [cb535.2.2]) (by decide) (by decide) (fun _ q => nomatch q) ⟨v533, rfl, rfl, (And.intro cb535.1 cb535.2.1)⟩
theorem d11_71 : decode method_4_code 71 = .ok (.iload_n 3, 1) := by decide +kernel
theorem oef_orm_at4 (m : MethodId) (b : Int32) (p : Int32) (q : Int32) (e : Int32)  : (entryFrame m #[(.int (4 : Int32)), (.int b), (.int p), (.int q), (.int e)] 7).locals = #[.val (.int (4 : Int32)), .val (.int b), .val (.int p), .val (.int q), .val (.int e), .unset, .unset] := by first | (simp [entryFrame, argsToLocals, Value.category]; done) | rfl
set_option maxRecDepth 65536 in
set_option maxHeartbeats 40000000 in
theorem orm_at4 (l : Launch) (Z : State) (a0 : Array Value) (hw : ∀ d ∈ tables_1, d.before a0 Z = true) (hE : EW Z a0 consts_1) (b : Int32) (p : Int32) (q : Int32) (e : Int32) (z : Int32) (fm : Value) (h : Heap) (hO : Old Z Z.heap.size h) (SC : (Sta Z Z.heap "java/lang/String" "COMPACT_STRINGS" "Z" (.int z))) (hz : (¬ z = 0)) (SF : (Sta Z Z.heap "jdk/internal/util/Preconditions" "SIOOBE_FORMATTER" "Ljava/util/function/BiFunction;" fm)) (rf : (fm.isRef = true))  :
    Ct l Z consts_1 (⟨"com/example/tidewire/tidewire/message/PriorityOfWireNamePinLaw", "at", "(IIIII)C"⟩ : MethodName) method_4_code 7 (Option.some Jvm.ClassFile.FieldType.char) ⟨4, 2, 28, 60⟩ #[(.int (4 : Int32)), (.int b), (.int p), (.int q), (.int e)] h [] (fun rv' hp' so' => ∃ v : Int32, rv' = some (.int v) ∧ so' = [] ∧ (B8 v)) := by
  refine Ct.mk "com/example/tidewire/tidewire/message/PriorityOfWireNamePinLaw" "at" rfl rfl (a0 := a0) (plainFor_of_name opn1) hO hE (fun x q => nomatch q) ?_
  intro K T W
  rw [oef_orm_at4]
  refine gIload W d11_0 rfl rfl ?_
  refine gIconst (z := (1 : Int32)) W d11_2 rfl rfl ?_
  obtain ⟨v536, e537⟩ : ∃ v : Int32, e &&& (1 : Int32) = v := ⟨_, rfl⟩
  refine gIand W d11_3 e537 rfl ?_
  by_cases c538 : v536 = (0 : Int32)
  · refine gIfYes (pc' := 28) W d11_4 ((if0 _ _).trans (teq c538).1) (by decide) rfl ?_
    refine gIloadN W d11_28 rfl rfl ?_
    by_cases c539 : b = (0 : Int32)
    · refine gIfNo W d11_29 ((if0 _ _).trans (teq c539).2) rfl ?_
      refine gIloadN W d11_32 rfl rfl ?_
      refine gBipush (z := (6 : Int32)) W d11_33 rfl rfl ?_
      refine gIcmpNo W d11_35 (tlt (by decide)).2.1 rfl ?_
      refine wLdcS (vs := [(.int 110), (.int 111), (.int 114), (.int 109), (.int 97), (.int 108)]) (z := 6) (n := 24) W d11_38 (ow65 hw) (owS hw) hE (by decide) (by decide) (by decide) (by decide) (by decide) (by decide) (by decide) (by decide) rfl fun T540 h542 a543 t544 k545 W541 E546 A547 f548 f549 f550 ne551 => ?_
      have f552 : Str Z h542 a543 [(110 : Int32), (111 : Int32), (114 : Int32), (109 : Int32), (97 : Int32), (108 : Int32)] := Str.mkL (cs := [(110 : Int32), (111 : Int32), (114 : Int32), (109 : Int32), (97 : Int32), (108 : Int32)]) A547 f548 f549 f550 (by decide) (by decide) (by decide) (by decide)
      refine gIloadN W541 d11_40 rfl rfl ?_
      refine wVirtual (y := (⟨"java/lang/String", "charAt", "(I)C"⟩ : MethodName)) (z := (⟨"java/lang/String", "charAt", "(I)C"⟩ : MethodName)) (Wd := 0) (a := a543) (argsL := [(.int (4 : Int32))]) (rest := []) W541 d11_41 (ow78 hw) (ow79 hw) (ow81 hw) (ow80 hw) (nfS (ow81 hw)) (by decide) (chPay hw hE a543 [(110 : Int32), (111 : Int32), (114 : Int32), (109 : Int32), (97 : Int32), (108 : Int32)] 4 (4 : Int32) 0 f552 (by decide) (SC.ext W541.old.2) hz (SF.ext W541.old.2) rf (by decide) (by decide) (by decide) (by decide)) A547 (by simp) rfl (lenOf opd1 rfl) rfl (Nat.le_of_eq rfl) (by decide) (by decide) rfl fun v557 so558 T553 h555 W554 kp556 sp559 q560 => ?_
      obtain ⟨rfl, rfl⟩ := q560
      show Go K _ T553 44 #[.val (.int (4 : Int32)), .val (.int b), .val (.int p), .val (.int q), .val (.int e), .unset, .unset] [(.int ([(110 : Int32), (111 : Int32), (114 : Int32), (109 : Int32), (97 : Int32), (108 : Int32)].getD 4 0))]
      show Go K _ T553 44 #[.val (.int (4 : Int32)), .val (.int b), .val (.int p), .val (.int q), .val (.int e), .unset, .unset] [(.int (97 : Int32))]
      exact wRetI (so := []) (t := .char) W554 d11_44 (by simp) rfl (by decide) (by decide) (fun _ q => nomatch q) ⟨(97 : Int32), rfl, rfl, ⟨by decide, by decide⟩⟩
    · refine gIfYes (pc' := 45) W d11_29 ((if0 _ _).trans (feq c539).2) (by decide) rfl ?_
      refine gIloadN W d11_45 rfl rfl ?_
      refine gIconst (z := (1 : Int32)) W d11_46 rfl rfl ?_
      by_cases c561 : b = (1 : Int32)
      · refine gIcmpNo W d11_47 (teq c561).2 rfl ?_
        refine gIloadN W d11_50 rfl rfl ?_
        refine gIconst (z := (4 : Int32)) W d11_51 rfl rfl ?_
        refine gIcmpYes (pc' := 62) W d11_52 (flt (by decide)).2.1 (by decide) rfl ?_
        refine gIloadN W d11_62 rfl rfl ?_
        refine gIconst (z := (4 : Int32)) W d11_63 rfl rfl ?_
        refine gIcmpYes (pc' := 71) W d11_64 (flt (by decide)).2.1 (by decide) rfl ?_
        refine gIloadN W d11_71 rfl rfl ?_
        refine gIstore (ls' := #[.val (.int (4 : Int32)), .val (.int b), .val (.int p), .val (.int q), .val (.int e), .val (.int q), .unset]) W d11_72 rfl rfl ?_
        refine gBipush (z := (8 : Int32)) W d11_74 rfl rfl ?_
        refine gIloadN W d11_76 rfl rfl ?_
        refine gIconst (z := (3 : Int32)) W d11_77 rfl rfl ?_
        refine gIand (z := (0 : Int32)) W d11_78 (by decide) rfl ?_
        refine gImul (z := (0 : Int32)) W d11_79 (by decide) rfl ?_
        refine gIstore (ls' := #[.val (.int (4 : Int32)), .val (.int b), .val (.int p), .val (.int q), .val (.int e), .val (.int q), .val (.int (0 : Int32))]) W d11_80 rfl rfl ?_
        refine gIload W d11_82 rfl rfl ?_
        refine gIload W d11_84 rfl rfl ?_
        obtain ⟨v562, e563⟩ : ∃ v : Int32, (q.toUInt32 >>> ((0 : Int32) &&& 31).toUInt32).toInt32 = v := ⟨_, rfl⟩
        refine gIushr W d11_86 e563 rfl ?_
        refine gSipush (z := (255 : Int32)) W d11_87 rfl rfl ?_
        obtain ⟨v564, e565⟩ : ∃ v : Int32, v562 &&& (255 : Int32) = v := ⟨_, rfl⟩
        refine gIand W d11_90 e565 rfl ?_
        obtain ⟨v566, e567⟩ : ∃ v : Int32, v564.toUInt32.toUInt16.toUInt32.toInt32 = v := ⟨_, rfl⟩
        refine gI2C W d11_91 e567 rfl ?_
        have cb568 := ch255 e565 e567
        exact wRetI (so := []) (t := .char) W d11_92 (by simp) (by show Value.int (nar .char v566) = _; rw [cb568.2.2]) (by decide) (by decide) (fun _ q => nomatch q) ⟨v566, rfl, rfl, (And.intro cb568.1 cb568.2.1)⟩
      · refine gIcmpYes (pc' := 62) W d11_47 (feq c561).2 (by decide) rfl ?_
        refine gIloadN W d11_62 rfl rfl ?_
        refine gIconst (z := (4 : Int32)) W d11_63 rfl rfl ?_
        refine gIcmpYes (pc' := 71) W d11_64 (flt (by decide)).2.1 (by decide) rfl ?_
        refine gIloadN W d11_71 rfl rfl ?_
        refine gIstore (ls' := #[.val (.int (4 : Int32)), .val (.int b), .val (.int p), .val (.int q), .val (.int e), .val (.int q), .unset]) W d11_72 rfl rfl ?_
        refine gBipush (z := (8 : Int32)) W d11_74 rfl rfl ?_
        refine gIloadN W d11_76 rfl rfl ?_
        refine gIconst (z := (3 : Int32)) W d11_77 rfl rfl ?_
        refine gIand (z := (0 : Int32)) W d11_78 (by decide) rfl ?_
        refine gImul (z := (0 : Int32)) W d11_79 (by decide) rfl ?_
        refine gIstore (ls' := #[.val (.int (4 : Int32)), .val (.int b), .val (.int p), .val (.int q), .val (.int e), .val (.int q), .val (.int (0 : Int32))]) W d11_80 rfl rfl ?_
        refine gIload W d11_82 rfl rfl ?_
        refine gIload W d11_84 rfl rfl ?_
        obtain ⟨v569, e570⟩ : ∃ v : Int32, (q.toUInt32 >>> ((0 : Int32) &&& 31).toUInt32).toInt32 = v := ⟨_, rfl⟩
        refine gIushr W d11_86 e570 rfl ?_
        refine gSipush (z := (255 : Int32)) W d11_87 rfl rfl ?_
        obtain ⟨v571, e572⟩ : ∃ v : Int32, v569 &&& (255 : Int32) = v := ⟨_, rfl⟩
        refine gIand W d11_90 e572 rfl ?_
        obtain ⟨v573, e574⟩ : ∃ v : Int32, v571.toUInt32.toUInt16.toUInt32.toInt32 = v := ⟨_, rfl⟩
        refine gI2C W d11_91 e574 rfl ?_
        have cb575 := ch255 e572 e574
        exact wRetI (so := []) (t := .char) W d11_92 (by simp) (by show Value.int (nar .char v573) = _; rw [cb575.2.2]) (by decide) (by decide) (fun _ q => nomatch q) ⟨v573, rfl, rfl, (And.intro cb575.1 cb575.2.1)⟩
  · refine gIfNo W d11_4 ((if0 _ _).trans (feq c538).1) rfl ?_
    refine gIload W d11_7 rfl rfl ?_
    refine gIconst (z := (1 : Int32)) W d11_9 rfl rfl ?_
    obtain ⟨v576, e577⟩ : ∃ v : Int32, (e.toUInt32 >>> ((1 : Int32) &&& 31).toUInt32).toInt32 = v := ⟨_, rfl⟩
    refine gIushr W d11_10 e577 rfl ?_
    refine gBipush (z := (7 : Int32)) W d11_11 rfl rfl ?_
    obtain ⟨v578, e579⟩ : ∃ v : Int32, v576 &&& (7 : Int32) = v := ⟨_, rfl⟩
    refine gIand W d11_13 e579 rfl ?_
    refine gIloadN W d11_14 rfl rfl ?_
    by_cases c580 : v578 = (4 : Int32)
    · refine gIcmpNo W d11_15 (teq c580).2 rfl ?_
      refine gIload W d11_18 rfl rfl ?_
      refine gIconst (z := (4 : Int32)) W d11_20 rfl rfl ?_
      obtain ⟨v581, e582⟩ : ∃ v : Int32, (e.toUInt32 >>> ((4 : Int32) &&& 31).toUInt32).toInt32 = v := ⟨_, rfl⟩
      refine gIushr W d11_21 e582 rfl ?_
      refine gSipush (z := (255 : Int32)) W d11_22 rfl rfl ?_
      obtain ⟨v583, e584⟩ : ∃ v : Int32, v581 &&& (255 : Int32) = v := ⟨_, rfl⟩
      refine gIand W d11_25 e584 rfl ?_
      obtain ⟨v585, e586⟩ : ∃ v : Int32, v583.toUInt32.toUInt16.toUInt32.toInt32 = v := ⟨_, rfl⟩
      refine gI2C W d11_26 e586 rfl ?_
      have cb587 := ch255 e584 e586
      exact wRetI (so := []) (t := .char) W d11_27 (by simp) (by show Value.int (nar .char v585) = _; rw [cb587.2.2]) (by decide) (by decide) (fun _ q => nomatch q) ⟨v585, rfl, rfl, (And.intro cb587.1 cb587.2.1)⟩
    · refine gIcmpYes (pc' := 28) W d11_15 (feq c580).2 (by decide) rfl ?_
      refine gIloadN W d11_28 rfl rfl ?_
      by_cases c588 : b = (0 : Int32)
      · refine gIfNo W d11_29 ((if0 _ _).trans (teq c588).2) rfl ?_
        refine gIloadN W d11_32 rfl rfl ?_
        refine gBipush (z := (6 : Int32)) W d11_33 rfl rfl ?_
        refine gIcmpNo W d11_35 (tlt (by decide)).2.1 rfl ?_
        refine wLdcS (vs := [(.int 110), (.int 111), (.int 114), (.int 109), (.int 97), (.int 108)]) (z := 6) (n := 24) W d11_38 (ow65 hw) (owS hw) hE (by decide) (by decide) (by decide) (by decide) (by decide) (by decide) (by decide) (by decide) rfl fun T589 h591 a592 t593 k594 W590 E595 A596 f597 f598 f599 ne600 => ?_
        have f601 : Str Z h591 a592 [(110 : Int32), (111 : Int32), (114 : Int32), (109 : Int32), (97 : Int32), (108 : Int32)] := Str.mkL (cs := [(110 : Int32), (111 : Int32), (114 : Int32), (109 : Int32), (97 : Int32), (108 : Int32)]) A596 f597 f598 f599 (by decide) (by decide) (by decide) (by decide)
        refine gIloadN W590 d11_40 rfl rfl ?_
        refine wVirtual (y := (⟨"java/lang/String", "charAt", "(I)C"⟩ : MethodName)) (z := (⟨"java/lang/String", "charAt", "(I)C"⟩ : MethodName)) (Wd := 0) (a := a592) (argsL := [(.int (4 : Int32))]) (rest := []) W590 d11_41 (ow78 hw) (ow79 hw) (ow81 hw) (ow80 hw) (nfS (ow81 hw)) (by decide) (chPay hw hE a592 [(110 : Int32), (111 : Int32), (114 : Int32), (109 : Int32), (97 : Int32), (108 : Int32)] 4 (4 : Int32) 0 f601 (by decide) (SC.ext W590.old.2) hz (SF.ext W590.old.2) rf (by decide) (by decide) (by decide) (by decide)) A596 (by simp) rfl (lenOf opd1 rfl) rfl (Nat.le_of_eq rfl) (by decide) (by decide) rfl fun v606 so607 T602 h604 W603 kp605 sp608 q609 => ?_
        obtain ⟨rfl, rfl⟩ := q609
        show Go K _ T602 44 #[.val (.int (4 : Int32)), .val (.int b), .val (.int p), .val (.int q), .val (.int e), .unset, .unset] [(.int ([(110 : Int32), (111 : Int32), (114 : Int32), (109 : Int32), (97 : Int32), (108 : Int32)].getD 4 0))]
        show Go K _ T602 44 #[.val (.int (4 : Int32)), .val (.int b), .val (.int p), .val (.int q), .val (.int e), .unset, .unset] [(.int (97 : Int32))]
        exact wRetI (so := []) (t := .char) W603 d11_44 (by simp) rfl (by decide) (by decide) (fun _ q => nomatch q) ⟨(97 : Int32), rfl, rfl, ⟨by decide, by decide⟩⟩
      · refine gIfYes (pc' := 45) W d11_29 ((if0 _ _).trans (feq c588).2) (by decide) rfl ?_
        refine gIloadN W d11_45 rfl rfl ?_
        refine gIconst (z := (1 : Int32)) W d11_46 rfl rfl ?_
        by_cases c610 : b = (1 : Int32)
        · refine gIcmpNo W d11_47 (teq c610).2 rfl ?_
          refine gIloadN W d11_50 rfl rfl ?_
          refine gIconst (z := (4 : Int32)) W d11_51 rfl rfl ?_
          refine gIcmpYes (pc' := 62) W d11_52 (flt (by decide)).2.1 (by decide) rfl ?_
          refine gIloadN W d11_62 rfl rfl ?_
          refine gIconst (z := (4 : Int32)) W d11_63 rfl rfl ?_
          refine gIcmpYes (pc' := 71) W d11_64 (flt (by decide)).2.1 (by decide) rfl ?_
          refine gIloadN W d11_71 rfl rfl ?_
          refine gIstore (ls' := #[.val (.int (4 : Int32)), .val (.int b), .val (.int p), .val (.int q), .val (.int e), .val (.int q), .unset]) W d11_72 rfl rfl ?_
          refine gBipush (z := (8 : Int32)) W d11_74 rfl rfl ?_
          refine gIloadN W d11_76 rfl rfl ?_
          refine gIconst (z := (3 : Int32)) W d11_77 rfl rfl ?_
          refine gIand (z := (0 : Int32)) W d11_78 (by decide) rfl ?_
          refine gImul (z := (0 : Int32)) W d11_79 (by decide) rfl ?_
          refine gIstore (ls' := #[.val (.int (4 : Int32)), .val (.int b), .val (.int p), .val (.int q), .val (.int e), .val (.int q), .val (.int (0 : Int32))]) W d11_80 rfl rfl ?_
          refine gIload W d11_82 rfl rfl ?_
          refine gIload W d11_84 rfl rfl ?_
          obtain ⟨v611, e612⟩ : ∃ v : Int32, (q.toUInt32 >>> ((0 : Int32) &&& 31).toUInt32).toInt32 = v := ⟨_, rfl⟩
          refine gIushr W d11_86 e612 rfl ?_
          refine gSipush (z := (255 : Int32)) W d11_87 rfl rfl ?_
          obtain ⟨v613, e614⟩ : ∃ v : Int32, v611 &&& (255 : Int32) = v := ⟨_, rfl⟩
          refine gIand W d11_90 e614 rfl ?_
          obtain ⟨v615, e616⟩ : ∃ v : Int32, v613.toUInt32.toUInt16.toUInt32.toInt32 = v := ⟨_, rfl⟩
          refine gI2C W d11_91 e616 rfl ?_
          have cb617 := ch255 e614 e616
          exact wRetI (so := []) (t := .char) W d11_92 (by simp) (by show Value.int (nar .char v615) = _; rw [cb617.2.2]) (by decide) (by decide) (fun _ q => nomatch q) ⟨v615, rfl, rfl, (And.intro cb617.1 cb617.2.1)⟩
        · refine gIcmpYes (pc' := 62) W d11_47 (feq c610).2 (by decide) rfl ?_
          refine gIloadN W d11_62 rfl rfl ?_
          refine gIconst (z := (4 : Int32)) W d11_63 rfl rfl ?_
          refine gIcmpYes (pc' := 71) W d11_64 (flt (by decide)).2.1 (by decide) rfl ?_
          refine gIloadN W d11_71 rfl rfl ?_
          refine gIstore (ls' := #[.val (.int (4 : Int32)), .val (.int b), .val (.int p), .val (.int q), .val (.int e), .val (.int q), .unset]) W d11_72 rfl rfl ?_
          refine gBipush (z := (8 : Int32)) W d11_74 rfl rfl ?_
          refine gIloadN W d11_76 rfl rfl ?_
          refine gIconst (z := (3 : Int32)) W d11_77 rfl rfl ?_
          refine gIand (z := (0 : Int32)) W d11_78 (by decide) rfl ?_
          refine gImul (z := (0 : Int32)) W d11_79 (by decide) rfl ?_
          refine gIstore (ls' := #[.val (.int (4 : Int32)), .val (.int b), .val (.int p), .val (.int q), .val (.int e), .val (.int q), .val (.int (0 : Int32))]) W d11_80 rfl rfl ?_
          refine gIload W d11_82 rfl rfl ?_
          refine gIload W d11_84 rfl rfl ?_
          obtain ⟨v618, e619⟩ : ∃ v : Int32, (q.toUInt32 >>> ((0 : Int32) &&& 31).toUInt32).toInt32 = v := ⟨_, rfl⟩
          refine gIushr W d11_86 e619 rfl ?_
          refine gSipush (z := (255 : Int32)) W d11_87 rfl rfl ?_
          obtain ⟨v620, e621⟩ : ∃ v : Int32, v618 &&& (255 : Int32) = v := ⟨_, rfl⟩
          refine gIand W d11_90 e621 rfl ?_
          obtain ⟨v622, e623⟩ : ∃ v : Int32, v620.toUInt32.toUInt16.toUInt32.toInt32 = v := ⟨_, rfl⟩
          refine gI2C W d11_91 e623 rfl ?_
          have cb624 := ch255 e621 e623
          exact wRetI (so := []) (t := .char) W d11_92 (by simp) (by show Value.int (nar .char v622) = _; rw [cb624.2.2]) (by decide) (by decide) (fun _ q => nomatch q) ⟨v622, rfl, rfl, (And.intro cb624.1 cb624.2.1)⟩
theorem oef_orm_at5 (m : MethodId) (b : Int32) (p : Int32) (q : Int32) (e : Int32)  : (entryFrame m #[(.int (5 : Int32)), (.int b), (.int p), (.int q), (.int e)] 7).locals = #[.val (.int (5 : Int32)), .val (.int b), .val (.int p), .val (.int q), .val (.int e), .unset, .unset] := by first | (simp [entryFrame, argsToLocals, Value.category]; done) | rfl
set_option maxRecDepth 65536 in
set_option maxHeartbeats 40000000 in
theorem orm_at5 (l : Launch) (Z : State) (a0 : Array Value) (hw : ∀ d ∈ tables_1, d.before a0 Z = true) (hE : EW Z a0 consts_1) (b : Int32) (p : Int32) (q : Int32) (e : Int32) (z : Int32) (fm : Value) (h : Heap) (hO : Old Z Z.heap.size h) (SC : (Sta Z Z.heap "java/lang/String" "COMPACT_STRINGS" "Z" (.int z))) (hz : (¬ z = 0)) (SF : (Sta Z Z.heap "jdk/internal/util/Preconditions" "SIOOBE_FORMATTER" "Ljava/util/function/BiFunction;" fm)) (rf : (fm.isRef = true))  :
    Ct l Z consts_1 (⟨"com/example/tidewire/tidewire/message/PriorityOfWireNamePinLaw", "at", "(IIIII)C"⟩ : MethodName) method_4_code 7 (Option.some Jvm.ClassFile.FieldType.char) ⟨4, 2, 28, 60⟩ #[(.int (5 : Int32)), (.int b), (.int p), (.int q), (.int e)] h [] (fun rv' hp' so' => ∃ v : Int32, rv' = some (.int v) ∧ so' = [] ∧ (B8 v)) := by
  refine Ct.mk "com/example/tidewire/tidewire/message/PriorityOfWireNamePinLaw" "at" rfl rfl (a0 := a0) (plainFor_of_name opn1) hO hE (fun x q => nomatch q) ?_
  intro K T W
  rw [oef_orm_at5]
  refine gIload W d11_0 rfl rfl ?_
  refine gIconst (z := (1 : Int32)) W d11_2 rfl rfl ?_
  obtain ⟨v625, e626⟩ : ∃ v : Int32, e &&& (1 : Int32) = v := ⟨_, rfl⟩
  refine gIand W d11_3 e626 rfl ?_
  by_cases c627 : v625 = (0 : Int32)
  · refine gIfYes (pc' := 28) W d11_4 ((if0 _ _).trans (teq c627).1) (by decide) rfl ?_
    refine gIloadN W d11_28 rfl rfl ?_
    by_cases c628 : b = (0 : Int32)
    · refine gIfNo W d11_29 ((if0 _ _).trans (teq c628).2) rfl ?_
      refine gIloadN W d11_32 rfl rfl ?_
      refine gBipush (z := (6 : Int32)) W d11_33 rfl rfl ?_
      refine gIcmpNo W d11_35 (tlt (by decide)).2.1 rfl ?_
      refine wLdcS (vs := [(.int 110), (.int 111), (.int 114), (.int 109), (.int 97), (.int 108)]) (z := 6) (n := 24) W d11_38 (ow65 hw) (owS hw) hE (by decide) (by decide) (by decide) (by decide) (by decide) (by decide) (by decide) (by decide) rfl fun T629 h631 a632 t633 k634 W630 E635 A636 f637 f638 f639 ne640 => ?_
      have f641 : Str Z h631 a632 [(110 : Int32), (111 : Int32), (114 : Int32), (109 : Int32), (97 : Int32), (108 : Int32)] := Str.mkL (cs := [(110 : Int32), (111 : Int32), (114 : Int32), (109 : Int32), (97 : Int32), (108 : Int32)]) A636 f637 f638 f639 (by decide) (by decide) (by decide) (by decide)
      refine gIloadN W630 d11_40 rfl rfl ?_
      refine wVirtual (y := (⟨"java/lang/String", "charAt", "(I)C"⟩ : MethodName)) (z := (⟨"java/lang/String", "charAt", "(I)C"⟩ : MethodName)) (Wd := 0) (a := a632) (argsL := [(.int (5 : Int32))]) (rest := []) W630 d11_41 (ow78 hw) (ow79 hw) (ow81 hw) (ow80 hw) (nfS (ow81 hw)) (by decide) (chPay hw hE a632 [(110 : Int32), (111 : Int32), (114 : Int32), (109 : Int32), (97 : Int32), (108 : Int32)] 5 (5 : Int32) 0 f641 (by decide) (SC.ext W630.old.2) hz (SF.ext W630.old.2) rf (by decide) (by decide) (by decide) (by decide)) A636 (by simp) rfl (lenOf opd1 rfl) rfl (Nat.le_of_eq rfl) (by decide) (by decide) rfl fun v646 so647 T642 h644 W643 kp645 sp648 q649 => ?_
      obtain ⟨rfl, rfl⟩ := q649
      show Go K _ T642 44 #[.val (.int (5 : Int32)), .val (.int b), .val (.int p), .val (.int q), .val (.int e), .unset, .unset] [(.int ([(110 : Int32), (111 : Int32), (114 : Int32), (109 : Int32), (97 : Int32), (108 : Int32)].getD 5 0))]
      show Go K _ T642 44 #[.val (.int (5 : Int32)), .val (.int b), .val (.int p), .val (.int q), .val (.int e), .unset, .unset] [(.int (108 : Int32))]
      exact wRetI (so := []) (t := .char) W643 d11_44 (by simp) rfl (by decide) (by decide) (fun _ q => nomatch q) ⟨(108 : Int32), rfl, rfl, ⟨by decide, by decide⟩⟩
    · refine gIfYes (pc' := 45) W d11_29 ((if0 _ _).trans (feq c628).2) (by decide) rfl ?_
      refine gIloadN W d11_45 rfl rfl ?_
      refine gIconst (z := (1 : Int32)) W d11_46 rfl rfl ?_
      by_cases c650 : b = (1 : Int32)
      · refine gIcmpNo W d11_47 (teq c650).2 rfl ?_
        refine gIloadN W d11_50 rfl rfl ?_
        refine gIconst (z := (4 : Int32)) W d11_51 rfl rfl ?_
        refine gIcmpYes (pc' := 62) W d11_52 (flt (by decide)).2.1 (by decide) rfl ?_
        refine gIloadN W d11_62 rfl rfl ?_
        refine gIconst (z := (4 : Int32)) W d11_63 rfl rfl ?_
        refine gIcmpYes (pc' := 71) W d11_64 (flt (by decide)).2.1 (by decide) rfl ?_
        refine gIloadN W d11_71 rfl rfl ?_
        refine gIstore (ls' := #[.val (.int (5 : Int32)), .val (.int b), .val (.int p), .val (.int q), .val (.int e), .val (.int q), .unset]) W d11_72 rfl rfl ?_
        refine gBipush (z := (8 : Int32)) W d11_74 rfl rfl ?_
        refine gIloadN W d11_76 rfl rfl ?_
        refine gIconst (z := (3 : Int32)) W d11_77 rfl rfl ?_
        refine gIand (z := (1 : Int32)) W d11_78 (by decide) rfl ?_
        refine gImul (z := (8 : Int32)) W d11_79 (by decide) rfl ?_
        refine gIstore (ls' := #[.val (.int (5 : Int32)), .val (.int b), .val (.int p), .val (.int q), .val (.int e), .val (.int q), .val (.int (8 : Int32))]) W d11_80 rfl rfl ?_
        refine gIload W d11_82 rfl rfl ?_
        refine gIload W d11_84 rfl rfl ?_
        obtain ⟨v651, e652⟩ : ∃ v : Int32, (q.toUInt32 >>> ((8 : Int32) &&& 31).toUInt32).toInt32 = v := ⟨_, rfl⟩
        refine gIushr W d11_86 e652 rfl ?_
        refine gSipush (z := (255 : Int32)) W d11_87 rfl rfl ?_
        obtain ⟨v653, e654⟩ : ∃ v : Int32, v651 &&& (255 : Int32) = v := ⟨_, rfl⟩
        refine gIand W d11_90 e654 rfl ?_
        obtain ⟨v655, e656⟩ : ∃ v : Int32, v653.toUInt32.toUInt16.toUInt32.toInt32 = v := ⟨_, rfl⟩
        refine gI2C W d11_91 e656 rfl ?_
        have cb657 := ch255 e654 e656
        exact wRetI (so := []) (t := .char) W d11_92 (by simp) (by show Value.int (nar .char v655) = _; rw [cb657.2.2]) (by decide) (by decide) (fun _ q => nomatch q) ⟨v655, rfl, rfl, (And.intro cb657.1 cb657.2.1)⟩
      · refine gIcmpYes (pc' := 62) W d11_47 (feq c650).2 (by decide) rfl ?_
        refine gIloadN W d11_62 rfl rfl ?_
        refine gIconst (z := (4 : Int32)) W d11_63 rfl rfl ?_
        refine gIcmpYes (pc' := 71) W d11_64 (flt (by decide)).2.1 (by decide) rfl ?_
        refine gIloadN W d11_71 rfl rfl ?_
        refine gIstore (ls' := #[.val (.int (5 : Int32)), .val (.int b), .val (.int p), .val (.int q), .val (.int e), .val (.int q), .unset]) W d11_72 rfl rfl ?_
        refine gBipush (z := (8 : Int32)) W d11_74 rfl rfl ?_
        refine gIloadN W d11_76 rfl rfl ?_
        refine gIconst (z := (3 : Int32)) W d11_77 rfl rfl ?_
        refine gIand (z := (1 : Int32)) W d11_78 (by decide) rfl ?_
        refine gImul (z := (8 : Int32)) W d11_79 (by decide) rfl ?_
        refine gIstore (ls' := #[.val (.int (5 : Int32)), .val (.int b), .val (.int p), .val (.int q), .val (.int e), .val (.int q), .val (.int (8 : Int32))]) W d11_80 rfl rfl ?_
        refine gIload W d11_82 rfl rfl ?_
        refine gIload W d11_84 rfl rfl ?_
        obtain ⟨v658, e659⟩ : ∃ v : Int32, (q.toUInt32 >>> ((8 : Int32) &&& 31).toUInt32).toInt32 = v := ⟨_, rfl⟩
        refine gIushr W d11_86 e659 rfl ?_
        refine gSipush (z := (255 : Int32)) W d11_87 rfl rfl ?_
        obtain ⟨v660, e661⟩ : ∃ v : Int32, v658 &&& (255 : Int32) = v := ⟨_, rfl⟩
        refine gIand W d11_90 e661 rfl ?_
        obtain ⟨v662, e663⟩ : ∃ v : Int32, v660.toUInt32.toUInt16.toUInt32.toInt32 = v := ⟨_, rfl⟩
        refine gI2C W d11_91 e663 rfl ?_
        have cb664 := ch255 e661 e663
        exact wRetI (so := []) (t := .char) W d11_92 (by simp) (by show Value.int (nar .char v662) = _; rw [cb664.2.2]) (by decide) (by decide) (fun _ q => nomatch q) ⟨v662, rfl, rfl, (And.intro cb664.1 cb664.2.1)⟩
  · refine gIfNo W d11_4 ((if0 _ _).trans (feq c627).1) rfl ?_
    refine gIload W d11_7 rfl rfl ?_
    refine gIconst (z := (1 : Int32)) W d11_9 rfl rfl ?_
    obtain ⟨v665, e666⟩ : ∃ v : Int32, (e.toUInt32 >>> ((1 : Int32) &&& 31).toUInt32).toInt32 = v := ⟨_, rfl⟩
    refine gIushr W d11_10 e666 rfl ?_
    refine gBipush (z := (7 : Int32)) W d11_11 rfl rfl ?_
    obtain ⟨v667, e668⟩ : ∃ v : Int32, v665 &&& (7 : Int32) = v := ⟨_, rfl⟩
    refine gIand W d11_13 e668 rfl ?_
    refine gIloadN W d11_14 rfl rfl ?_
    by_cases c669 : v667 = (5 : Int32)
    · refine gIcmpNo W d11_15 (teq c669).2 rfl ?_
      refine gIload W d11_18 rfl rfl ?_
      refine gIconst (z := (4 : Int32)) W d11_20 rfl rfl ?_
      obtain ⟨v670, e671⟩ : ∃ v : Int32, (e.toUInt32 >>> ((4 : Int32) &&& 31).toUInt32).toInt32 = v := ⟨_, rfl⟩
      refine gIushr W d11_21 e671 rfl ?_
      refine gSipush (z := (255 : Int32)) W d11_22 rfl rfl ?_
      obtain ⟨v672, e673⟩ : ∃ v : Int32, v670 &&& (255 : Int32) = v := ⟨_, rfl⟩
      refine gIand W d11_25 e673 rfl ?_
      obtain ⟨v674, e675⟩ : ∃ v : Int32, v672.toUInt32.toUInt16.toUInt32.toInt32 = v := ⟨_, rfl⟩
      refine gI2C W d11_26 e675 rfl ?_
      have cb676 := ch255 e673 e675
      exact wRetI (so := []) (t := .char) W d11_27 (by simp) (by show Value.int (nar .char v674) = _; rw [cb676.2.2]) (by decide) (by decide) (fun _ q => nomatch q) ⟨v674, rfl, rfl, (And.intro cb676.1 cb676.2.1)⟩
    · refine gIcmpYes (pc' := 28) W d11_15 (feq c669).2 (by decide) rfl ?_
      refine gIloadN W d11_28 rfl rfl ?_
      by_cases c677 : b = (0 : Int32)
      · refine gIfNo W d11_29 ((if0 _ _).trans (teq c677).2) rfl ?_
        refine gIloadN W d11_32 rfl rfl ?_
        refine gBipush (z := (6 : Int32)) W d11_33 rfl rfl ?_
        refine gIcmpNo W d11_35 (tlt (by decide)).2.1 rfl ?_
        refine wLdcS (vs := [(.int 110), (.int 111), (.int 114), (.int 109), (.int 97), (.int 108)]) (z := 6) (n := 24) W d11_38 (ow65 hw) (owS hw) hE (by decide) (by decide) (by decide) (by decide) (by decide) (by decide) (by decide) (by decide) rfl fun T678 h680 a681 t682 k683 W679 E684 A685 f686 f687 f688 ne689 => ?_
        have f690 : Str Z h680 a681 [(110 : Int32), (111 : Int32), (114 : Int32), (109 : Int32), (97 : Int32), (108 : Int32)] := Str.mkL (cs := [(110 : Int32), (111 : Int32), (114 : Int32), (109 : Int32), (97 : Int32), (108 : Int32)]) A685 f686 f687 f688 (by decide) (by decide) (by decide) (by decide)
        refine gIloadN W679 d11_40 rfl rfl ?_
        refine wVirtual (y := (⟨"java/lang/String", "charAt", "(I)C"⟩ : MethodName)) (z := (⟨"java/lang/String", "charAt", "(I)C"⟩ : MethodName)) (Wd := 0) (a := a681) (argsL := [(.int (5 : Int32))]) (rest := []) W679 d11_41 (ow78 hw) (ow79 hw) (ow81 hw) (ow80 hw) (nfS (ow81 hw)) (by decide) (chPay hw hE a681 [(110 : Int32), (111 : Int32), (114 : Int32), (109 : Int32), (97 : Int32), (108 : Int32)] 5 (5 : Int32) 0 f690 (by decide) (SC.ext W679.old.2) hz (SF.ext W679.old.2) rf (by decide) (by decide) (by decide) (by decide)) A685 (by simp) rfl (lenOf opd1 rfl) rfl (Nat.le_of_eq rfl) (by decide) (by decide) rfl fun v695 so696 T691 h693 W692 kp694 sp697 q698 => ?_
        obtain ⟨rfl, rfl⟩ := q698
        show Go K _ T691 44 #[.val (.int (5 : Int32)), .val (.int b), .val (.int p), .val (.int q), .val (.int e), .unset, .unset] [(.int ([(110 : Int32), (111 : Int32), (114 : Int32), (109 : Int32), (97 : Int32), (108 : Int32)].getD 5 0))]
        show Go K _ T691 44 #[.val (.int (5 : Int32)), .val (.int b), .val (.int p), .val (.int q), .val (.int e), .unset, .unset] [(.int (108 : Int32))]
        exact wRetI (so := []) (t := .char) W692 d11_44 (by simp) rfl (by decide) (by decide) (fun _ q => nomatch q) ⟨(108 : Int32), rfl, rfl, ⟨by decide, by decide⟩⟩
      · refine gIfYes (pc' := 45) W d11_29 ((if0 _ _).trans (feq c677).2) (by decide) rfl ?_
        refine gIloadN W d11_45 rfl rfl ?_
        refine gIconst (z := (1 : Int32)) W d11_46 rfl rfl ?_
        by_cases c699 : b = (1 : Int32)
        · refine gIcmpNo W d11_47 (teq c699).2 rfl ?_
          refine gIloadN W d11_50 rfl rfl ?_
          refine gIconst (z := (4 : Int32)) W d11_51 rfl rfl ?_
          refine gIcmpYes (pc' := 62) W d11_52 (flt (by decide)).2.1 (by decide) rfl ?_
          refine gIloadN W d11_62 rfl rfl ?_
          refine gIconst (z := (4 : Int32)) W d11_63 rfl rfl ?_
          refine gIcmpYes (pc' := 71) W d11_64 (flt (by decide)).2.1 (by decide) rfl ?_
          refine gIloadN W d11_71 rfl rfl ?_
          refine gIstore (ls' := #[.val (.int (5 : Int32)), .val (.int b), .val (.int p), .val (.int q), .val (.int e), .val (.int q), .unset]) W d11_72 rfl rfl ?_
          refine gBipush (z := (8 : Int32)) W d11_74 rfl rfl ?_
          refine gIloadN W d11_76 rfl rfl ?_
          refine gIconst (z := (3 : Int32)) W d11_77 rfl rfl ?_
          refine gIand (z := (1 : Int32)) W d11_78 (by decide) rfl ?_
          refine gImul (z := (8 : Int32)) W d11_79 (by decide) rfl ?_
          refine gIstore (ls' := #[.val (.int (5 : Int32)), .val (.int b), .val (.int p), .val (.int q), .val (.int e), .val (.int q), .val (.int (8 : Int32))]) W d11_80 rfl rfl ?_
          refine gIload W d11_82 rfl rfl ?_
          refine gIload W d11_84 rfl rfl ?_
          obtain ⟨v700, e701⟩ : ∃ v : Int32, (q.toUInt32 >>> ((8 : Int32) &&& 31).toUInt32).toInt32 = v := ⟨_, rfl⟩
          refine gIushr W d11_86 e701 rfl ?_
          refine gSipush (z := (255 : Int32)) W d11_87 rfl rfl ?_
          obtain ⟨v702, e703⟩ : ∃ v : Int32, v700 &&& (255 : Int32) = v := ⟨_, rfl⟩
          refine gIand W d11_90 e703 rfl ?_
          obtain ⟨v704, e705⟩ : ∃ v : Int32, v702.toUInt32.toUInt16.toUInt32.toInt32 = v := ⟨_, rfl⟩
          refine gI2C W d11_91 e705 rfl ?_
          have cb706 := ch255 e703 e705
          exact wRetI (so := []) (t := .char) W d11_92 (by simp) (by show Value.int (nar .char v704) = _; rw [cb706.2.2]) (by decide) (by decide) (fun _ q => nomatch q) ⟨v704, rfl, rfl, (And.intro cb706.1 cb706.2.1)⟩
        · refine gIcmpYes (pc' := 62) W d11_47 (feq c699).2 (by decide) rfl ?_
          refine gIloadN W d11_62 rfl rfl ?_
          refine gIconst (z := (4 : Int32)) W d11_63 rfl rfl ?_
          refine gIcmpYes (pc' := 71) W d11_64 (flt (by decide)).2.1 (by decide) rfl ?_
          refine gIloadN W d11_71 rfl rfl ?_
          refine gIstore (ls' := #[.val (.int (5 : Int32)), .val (.int b), .val (.int p), .val (.int q), .val (.int e), .val (.int q), .unset]) W d11_72 rfl rfl ?_
          refine gBipush (z := (8 : Int32)) W d11_74 rfl rfl ?_
          refine gIloadN W d11_76 rfl rfl ?_
          refine gIconst (z := (3 : Int32)) W d11_77 rfl rfl ?_
          refine gIand (z := (1 : Int32)) W d11_78 (by decide) rfl ?_
          refine gImul (z := (8 : Int32)) W d11_79 (by decide) rfl ?_
          refine gIstore (ls' := #[.val (.int (5 : Int32)), .val (.int b), .val (.int p), .val (.int q), .val (.int e), .val (.int q), .val (.int (8 : Int32))]) W d11_80 rfl rfl ?_
          refine gIload W d11_82 rfl rfl ?_
          refine gIload W d11_84 rfl rfl ?_
          obtain ⟨v707, e708⟩ : ∃ v : Int32, (q.toUInt32 >>> ((8 : Int32) &&& 31).toUInt32).toInt32 = v := ⟨_, rfl⟩
          refine gIushr W d11_86 e708 rfl ?_
          refine gSipush (z := (255 : Int32)) W d11_87 rfl rfl ?_
          obtain ⟨v709, e710⟩ : ∃ v : Int32, v707 &&& (255 : Int32) = v := ⟨_, rfl⟩
          refine gIand W d11_90 e710 rfl ?_
          obtain ⟨v711, e712⟩ : ∃ v : Int32, v709.toUInt32.toUInt16.toUInt32.toInt32 = v := ⟨_, rfl⟩
          refine gI2C W d11_91 e712 rfl ?_
          have cb713 := ch255 e710 e712
          exact wRetI (so := []) (t := .char) W d11_92 (by simp) (by show Value.int (nar .char v711) = _; rw [cb713.2.2]) (by decide) (by decide) (fun _ q => nomatch q) ⟨v711, rfl, rfl, (And.intro cb713.1 cb713.2.1)⟩
theorem oef_orm_at6 (m : MethodId) (b : Int32) (p : Int32) (q : Int32) (e : Int32)  : (entryFrame m #[(.int (6 : Int32)), (.int b), (.int p), (.int q), (.int e)] 7).locals = #[.val (.int (6 : Int32)), .val (.int b), .val (.int p), .val (.int q), .val (.int e), .unset, .unset] := by first | (simp [entryFrame, argsToLocals, Value.category]; done) | rfl
set_option maxRecDepth 65536 in
set_option maxHeartbeats 40000000 in
theorem orm_at6 (l : Launch) (Z : State) (a0 : Array Value) (hw : ∀ d ∈ tables_1, d.before a0 Z = true) (hE : EW Z a0 consts_1) (b : Int32) (p : Int32) (q : Int32) (e : Int32) (z : Int32) (fm : Value) (h : Heap) (hO : Old Z Z.heap.size h) (SC : (Sta Z Z.heap "java/lang/String" "COMPACT_STRINGS" "Z" (.int z))) (hz : (¬ z = 0)) (SF : (Sta Z Z.heap "jdk/internal/util/Preconditions" "SIOOBE_FORMATTER" "Ljava/util/function/BiFunction;" fm)) (rf : (fm.isRef = true))  :
    Ct l Z consts_1 (⟨"com/example/tidewire/tidewire/message/PriorityOfWireNamePinLaw", "at", "(IIIII)C"⟩ : MethodName) method_4_code 7 (Option.some Jvm.ClassFile.FieldType.char) ⟨4, 0, 0, 60⟩ #[(.int (6 : Int32)), (.int b), (.int p), (.int q), (.int e)] h [] (fun rv' hp' so' => ∃ v : Int32, rv' = some (.int v) ∧ so' = [] ∧ (B8 v)) := by
  refine Ct.mk "com/example/tidewire/tidewire/message/PriorityOfWireNamePinLaw" "at" rfl rfl (a0 := a0) (plainFor_of_name opn1) hO hE (fun x q => nomatch q) ?_
  intro K T W
  rw [oef_orm_at6]
  refine gIload W d11_0 rfl rfl ?_
  refine gIconst (z := (1 : Int32)) W d11_2 rfl rfl ?_
  obtain ⟨v714, e715⟩ : ∃ v : Int32, e &&& (1 : Int32) = v := ⟨_, rfl⟩
  refine gIand W d11_3 e715 rfl ?_
  by_cases c716 : v714 = (0 : Int32)
  · refine gIfYes (pc' := 28) W d11_4 ((if0 _ _).trans (teq c716).1) (by decide) rfl ?_
    refine gIloadN W d11_28 rfl rfl ?_
    by_cases c717 : b = (0 : Int32)
    · refine gIfNo W d11_29 ((if0 _ _).trans (teq c717).2) rfl ?_
      refine gIloadN W d11_32 rfl rfl ?_
      refine gBipush (z := (6 : Int32)) W d11_33 rfl rfl ?_
      refine gIcmpYes (pc' := 45) W d11_35 (flt (by decide)).2.1 (by decide) rfl ?_
      refine gIloadN W d11_45 rfl rfl ?_
      refine gIconst (z := (1 : Int32)) W d11_46 rfl rfl ?_
      by_cases c718 : b = (1 : Int32)
      · refine gIcmpNo W d11_47 (teq c718).2 rfl ?_
        refine gIloadN W d11_50 rfl rfl ?_
        refine gIconst (z := (4 : Int32)) W d11_51 rfl rfl ?_
        refine gIcmpYes (pc' := 62) W d11_52 (flt (by decide)).2.1 (by decide) rfl ?_
        refine gIloadN W d11_62 rfl rfl ?_
        refine gIconst (z := (4 : Int32)) W d11_63 rfl rfl ?_
        refine gIcmpYes (pc' := 71) W d11_64 (flt (by decide)).2.1 (by decide) rfl ?_
        refine gIloadN W d11_71 rfl rfl ?_
        refine gIstore (ls' := #[.val (.int (6 : Int32)), .val (.int b), .val (.int p), .val (.int q), .val (.int e), .val (.int q), .unset]) W d11_72 rfl rfl ?_
        refine gBipush (z := (8 : Int32)) W d11_74 rfl rfl ?_
        refine gIloadN W d11_76 rfl rfl ?_
        refine gIconst (z := (3 : Int32)) W d11_77 rfl rfl ?_
        refine gIand (z := (2 : Int32)) W d11_78 (by decide) rfl ?_
        refine gImul (z := (16 : Int32)) W d11_79 (by decide) rfl ?_
        refine gIstore (ls' := #[.val (.int (6 : Int32)), .val (.int b), .val (.int p), .val (.int q), .val (.int e), .val (.int q), .val (.int (16 : Int32))]) W d11_80 rfl rfl ?_
        refine gIload W d11_82 rfl rfl ?_
        refine gIload W d11_84 rfl rfl ?_
        obtain ⟨v719, e720⟩ : ∃ v : Int32, (q.toUInt32 >>> ((16 : Int32) &&& 31).toUInt32).toInt32 = v := ⟨_, rfl⟩
        refine gIushr W d11_86 e720 rfl ?_
        refine gSipush (z := (255 : Int32)) W d11_87 rfl rfl ?_
        obtain ⟨v721, e722⟩ : ∃ v : Int32, v719 &&& (255 : Int32) = v := ⟨_, rfl⟩
        refine gIand W d11_90 e722 rfl ?_
        obtain ⟨v723, e724⟩ : ∃ v : Int32, v721.toUInt32.toUInt16.toUInt32.toInt32 = v := ⟨_, rfl⟩
        refine gI2C W d11_91 e724 rfl ?_
        have cb725 := ch255 e722 e724
        exact wRetI (so := []) (t := .char) W d11_92 (by simp) (by show Value.int (nar .char v723) = _; rw [cb725.2.2]) (by decide) (by decide) (fun _ q => nomatch q) ⟨v723, rfl, rfl, (And.intro cb725.1 cb725.2.1)⟩
      · refine gIcmpYes (pc' := 62) W d11_47 (feq c718).2 (by decide) rfl ?_
        refine gIloadN W d11_62 rfl rfl ?_
        refine gIconst (z := (4 : Int32)) W d11_63 rfl rfl ?_
        refine gIcmpYes (pc' := 71) W d11_64 (flt (by decide)).2.1 (by decide) rfl ?_
        refine gIloadN W d11_71 rfl rfl ?_
        refine gIstore (ls' := #[.val (.int (6 : Int32)), .val (.int b), .val (.int p), .val (.int q), .val (.int e), .val (.int q), .unset]) W d11_72 rfl rfl ?_
        refine gBipush (z := (8 : Int32)) W d11_74 rfl rfl ?_
        refine gIloadN W d11_76 rfl rfl ?_
        refine gIconst (z := (3 : Int32)) W d11_77 rfl rfl ?_
        refine gIand (z := (2 : Int32)) W d11_78 (by decide) rfl ?_
        refine gImul (z := (16 : Int32)) W d11_79 (by decide) rfl ?_
        refine gIstore (ls' := #[.val (.int (6 : Int32)), .val (.int b), .val (.int p), .val (.int q), .val (.int e), .val (.int q), .val (.int (16 : Int32))]) W d11_80 rfl rfl ?_
        refine gIload W d11_82 rfl rfl ?_
        refine gIload W d11_84 rfl rfl ?_
        obtain ⟨v726, e727⟩ : ∃ v : Int32, (q.toUInt32 >>> ((16 : Int32) &&& 31).toUInt32).toInt32 = v := ⟨_, rfl⟩
        refine gIushr W d11_86 e727 rfl ?_
        refine gSipush (z := (255 : Int32)) W d11_87 rfl rfl ?_
        obtain ⟨v728, e729⟩ : ∃ v : Int32, v726 &&& (255 : Int32) = v := ⟨_, rfl⟩
        refine gIand W d11_90 e729 rfl ?_
        obtain ⟨v730, e731⟩ : ∃ v : Int32, v728.toUInt32.toUInt16.toUInt32.toInt32 = v := ⟨_, rfl⟩
        refine gI2C W d11_91 e731 rfl ?_
        have cb732 := ch255 e729 e731
        exact wRetI (so := []) (t := .char) W d11_92 (by simp) (by show Value.int (nar .char v730) = _; rw [cb732.2.2]) (by decide) (by decide) (fun _ q => nomatch q) ⟨v730, rfl, rfl, (And.intro cb732.1 cb732.2.1)⟩
    · refine gIfYes (pc' := 45) W d11_29 ((if0 _ _).trans (feq c717).2) (by decide) rfl ?_
      refine gIloadN W d11_45 rfl rfl ?_
      refine gIconst (z := (1 : Int32)) W d11_46 rfl rfl ?_
      by_cases c733 : b = (1 : Int32)
      · refine gIcmpNo W d11_47 (teq c733).2 rfl ?_
        refine gIloadN W d11_50 rfl rfl ?_
        refine gIconst (z := (4 : Int32)) W d11_51 rfl rfl ?_
        refine gIcmpYes (pc' := 62) W d11_52 (flt (by decide)).2.1 (by decide) rfl ?_
        refine gIloadN W d11_62 rfl rfl ?_
        refine gIconst (z := (4 : Int32)) W d11_63 rfl rfl ?_
        refine gIcmpYes (pc' := 71) W d11_64 (flt (by decide)).2.1 (by decide) rfl ?_
        refine gIloadN W d11_71 rfl rfl ?_
        refine gIstore (ls' := #[.val (.int (6 : Int32)), .val (.int b), .val (.int p), .val (.int q), .val (.int e), .val (.int q), .unset]) W d11_72 rfl rfl ?_
        refine gBipush (z := (8 : Int32)) W d11_74 rfl rfl ?_
        refine gIloadN W d11_76 rfl rfl ?_
        refine gIconst (z := (3 : Int32)) W d11_77 rfl rfl ?_
        refine gIand (z := (2 : Int32)) W d11_78 (by decide) rfl ?_
        refine gImul (z := (16 : Int32)) W d11_79 (by decide) rfl ?_
        refine gIstore (ls' := #[.val (.int (6 : Int32)), .val (.int b), .val (.int p), .val (.int q), .val (.int e), .val (.int q), .val (.int (16 : Int32))]) W d11_80 rfl rfl ?_
        refine gIload W d11_82 rfl rfl ?_
        refine gIload W d11_84 rfl rfl ?_
        obtain ⟨v734, e735⟩ : ∃ v : Int32, (q.toUInt32 >>> ((16 : Int32) &&& 31).toUInt32).toInt32 = v := ⟨_, rfl⟩
        refine gIushr W d11_86 e735 rfl ?_
        refine gSipush (z := (255 : Int32)) W d11_87 rfl rfl ?_
        obtain ⟨v736, e737⟩ : ∃ v : Int32, v734 &&& (255 : Int32) = v := ⟨_, rfl⟩
        refine gIand W d11_90 e737 rfl ?_
        obtain ⟨v738, e739⟩ : ∃ v : Int32, v736.toUInt32.toUInt16.toUInt32.toInt32 = v := ⟨_, rfl⟩
        refine gI2C W d11_91 e739 rfl ?_
        have cb740 := ch255 e737 e739
        exact wRetI (so := []) (t := .char) W d11_92 (by simp) (by show Value.int (nar .char v738) = _; rw [cb740.2.2]) (by decide) (by decide) (fun _ q => nomatch q) ⟨v738, rfl, rfl, (And.intro cb740.1 cb740.2.1)⟩
      · refine gIcmpYes (pc' := 62) W d11_47 (feq c733).2 (by decide) rfl ?_
        refine gIloadN W d11_62 rfl rfl ?_
        refine gIconst (z := (4 : Int32)) W d11_63 rfl rfl ?_
        refine gIcmpYes (pc' := 71) W d11_64 (flt (by decide)).2.1 (by decide) rfl ?_
        refine gIloadN W d11_71 rfl rfl ?_
        refine gIstore (ls' := #[.val (.int (6 : Int32)), .val (.int b), .val (.int p), .val (.int q), .val (.int e), .val (.int q), .unset]) W d11_72 rfl rfl ?_
        refine gBipush (z := (8 : Int32)) W d11_74 rfl rfl ?_
        refine gIloadN W d11_76 rfl rfl ?_
        refine gIconst (z := (3 : Int32)) W d11_77 rfl rfl ?_
        refine gIand (z := (2 : Int32)) W d11_78 (by decide) rfl ?_
        refine gImul (z := (16 : Int32)) W d11_79 (by decide) rfl ?_
        refine gIstore (ls' := #[.val (.int (6 : Int32)), .val (.int b), .val (.int p), .val (.int q), .val (.int e), .val (.int q), .val (.int (16 : Int32))]) W d11_80 rfl rfl ?_
        refine gIload W d11_82 rfl rfl ?_
        refine gIload W d11_84 rfl rfl ?_
        obtain ⟨v741, e742⟩ : ∃ v : Int32, (q.toUInt32 >>> ((16 : Int32) &&& 31).toUInt32).toInt32 = v := ⟨_, rfl⟩
        refine gIushr W d11_86 e742 rfl ?_
        refine gSipush (z := (255 : Int32)) W d11_87 rfl rfl ?_
        obtain ⟨v743, e744⟩ : ∃ v : Int32, v741 &&& (255 : Int32) = v := ⟨_, rfl⟩
        refine gIand W d11_90 e744 rfl ?_
        obtain ⟨v745, e746⟩ : ∃ v : Int32, v743.toUInt32.toUInt16.toUInt32.toInt32 = v := ⟨_, rfl⟩
        refine gI2C W d11_91 e746 rfl ?_
        have cb747 := ch255 e744 e746
        exact wRetI (so := []) (t := .char) W d11_92 (by simp) (by show Value.int (nar .char v745) = _; rw [cb747.2.2]) (by decide) (by decide) (fun _ q => nomatch q) ⟨v745, rfl, rfl, (And.intro cb747.1 cb747.2.1)⟩
  · refine gIfNo W d11_4 ((if0 _ _).trans (feq c716).1) rfl ?_
    refine gIload W d11_7 rfl rfl ?_
    refine gIconst (z := (1 : Int32)) W d11_9 rfl rfl ?_
    obtain ⟨v748, e749⟩ : ∃ v : Int32, (e.toUInt32 >>> ((1 : Int32) &&& 31).toUInt32).toInt32 = v := ⟨_, rfl⟩
    refine gIushr W d11_10 e749 rfl ?_
    refine gBipush (z := (7 : Int32)) W d11_11 rfl rfl ?_
    obtain ⟨v750, e751⟩ : ∃ v : Int32, v748 &&& (7 : Int32) = v := ⟨_, rfl⟩
    refine gIand W d11_13 e751 rfl ?_
    refine gIloadN W d11_14 rfl rfl ?_
    by_cases c752 : v750 = (6 : Int32)
    · refine gIcmpNo W d11_15 (teq c752).2 rfl ?_
      refine gIload W d11_18 rfl rfl ?_
      refine gIconst (z := (4 : Int32)) W d11_20 rfl rfl ?_
      obtain ⟨v753, e754⟩ : ∃ v : Int32, (e.toUInt32 >>> ((4 : Int32) &&& 31).toUInt32).toInt32 = v := ⟨_, rfl⟩
      refine gIushr W d11_21 e754 rfl ?_
      refine gSipush (z := (255 : Int32)) W d11_22 rfl rfl ?_
      obtain ⟨v755, e756⟩ : ∃ v : Int32, v753 &&& (255 : Int32) = v := ⟨_, rfl⟩
      refine gIand W d11_25 e756 rfl ?_
      obtain ⟨v757, e758⟩ : ∃ v : Int32, v755.toUInt32.toUInt16.toUInt32.toInt32 = v := ⟨_, rfl⟩
      refine gI2C W d11_26 e758 rfl ?_
      have cb759 := ch255 e756 e758
      exact wRetI (so := []) (t := .char) W d11_27 (by simp) (by show Value.int (nar .char v757) = _; rw [cb759.2.2]) (by decide) (by decide) (fun _ q => nomatch q) ⟨v757, rfl, rfl, (And.intro cb759.1 cb759.2.1)⟩
    · refine gIcmpYes (pc' := 28) W d11_15 (feq c752).2 (by decide) rfl ?_
      refine gIloadN W d11_28 rfl rfl ?_
      by_cases c760 : b = (0 : Int32)
      · refine gIfNo W d11_29 ((if0 _ _).trans (teq c760).2) rfl ?_
        refine gIloadN W d11_32 rfl rfl ?_
        refine gBipush (z := (6 : Int32)) W d11_33 rfl rfl ?_
        refine gIcmpYes (pc' := 45) W d11_35 (flt (by decide)).2.1 (by decide) rfl ?_
        refine gIloadN W d11_45 rfl rfl ?_
        refine gIconst (z := (1 : Int32)) W d11_46 rfl rfl ?_
        by_cases c761 : b = (1 : Int32)
        · refine gIcmpNo W d11_47 (teq c761).2 rfl ?_
          refine gIloadN W d11_50 rfl rfl ?_
          refine gIconst (z := (4 : Int32)) W d11_51 rfl rfl ?_
          refine gIcmpYes (pc' := 62) W d11_52 (flt (by decide)).2.1 (by decide) rfl ?_
          refine gIloadN W d11_62 rfl rfl ?_
          refine gIconst (z := (4 : Int32)) W d11_63 rfl rfl ?_
          refine gIcmpYes (pc' := 71) W d11_64 (flt (by decide)).2.1 (by decide) rfl ?_
          refine gIloadN W d11_71 rfl rfl ?_
          refine gIstore (ls' := #[.val (.int (6 : Int32)), .val (.int b), .val (.int p), .val (.int q), .val (.int e), .val (.int q), .unset]) W d11_72 rfl rfl ?_
          refine gBipush (z := (8 : Int32)) W d11_74 rfl rfl ?_
          refine gIloadN W d11_76 rfl rfl ?_
          refine gIconst (z := (3 : Int32)) W d11_77 rfl rfl ?_
          refine gIand (z := (2 : Int32)) W d11_78 (by decide) rfl ?_
          refine gImul (z := (16 : Int32)) W d11_79 (by decide) rfl ?_
          refine gIstore (ls' := #[.val (.int (6 : Int32)), .val (.int b), .val (.int p), .val (.int q), .val (.int e), .val (.int q), .val (.int (16 : Int32))]) W d11_80 rfl rfl ?_
          refine gIload W d11_82 rfl rfl ?_
          refine gIload W d11_84 rfl rfl ?_
          obtain ⟨v762, e763⟩ : ∃ v : Int32, (q.toUInt32 >>> ((16 : Int32) &&& 31).toUInt32).toInt32 = v := ⟨_, rfl⟩
          refine gIushr W d11_86 e763 rfl ?_
          refine gSipush (z := (255 : Int32)) W d11_87 rfl rfl ?_
          obtain ⟨v764, e765⟩ : ∃ v : Int32, v762 &&& (255 : Int32) = v := ⟨_, rfl⟩
          refine gIand W d11_90 e765 rfl ?_
          obtain ⟨v766, e767⟩ : ∃ v : Int32, v764.toUInt32.toUInt16.toUInt32.toInt32 = v := ⟨_, rfl⟩
          refine gI2C W d11_91 e767 rfl ?_
          have cb768 := ch255 e765 e767
          exact wRetI (so := []) (t := .char) W d11_92 (by simp) (by show Value.int (nar .char v766) = _; rw [cb768.2.2]) (by decide) (by decide) (fun _ q => nomatch q) ⟨v766, rfl, rfl, (And.intro cb768.1 cb768.2.1)⟩
        · refine gIcmpYes (pc' := 62) W d11_47 (feq c761).2 (by decide) rfl ?_
          refine gIloadN W d11_62 rfl rfl ?_
          refine gIconst (z := (4 : Int32)) W d11_63 rfl rfl ?_
          refine gIcmpYes (pc' := 71) W d11_64 (flt (by decide)).2.1 (by decide) rfl ?_
          refine gIloadN W d11_71 rfl rfl ?_
          refine gIstore (ls' := #[.val (.int (6 : Int32)), .val (.int b), .val (.int p), .val (.int q), .val (.int e), .val (.int q), .unset]) W d11_72 rfl rfl ?_
          refine gBipush (z := (8 : Int32)) W d11_74 rfl rfl ?_
          refine gIloadN W d11_76 rfl rfl ?_
          refine gIconst (z := (3 : Int32)) W d11_77 rfl rfl ?_
          refine gIand (z := (2 : Int32)) W d11_78 (by decide) rfl ?_
          refine gImul (z := (16 : Int32)) W d11_79 (by decide) rfl ?_
          refine gIstore (ls' := #[.val (.int (6 : Int32)), .val (.int b), .val (.int p), .val (.int q), .val (.int e), .val (.int q), .val (.int (16 : Int32))]) W d11_80 rfl rfl ?_
          refine gIload W d11_82 rfl rfl ?_
          refine gIload W d11_84 rfl rfl ?_
          obtain ⟨v769, e770⟩ : ∃ v : Int32, (q.toUInt32 >>> ((16 : Int32) &&& 31).toUInt32).toInt32 = v := ⟨_, rfl⟩
          refine gIushr W d11_86 e770 rfl ?_
          refine gSipush (z := (255 : Int32)) W d11_87 rfl rfl ?_
          obtain ⟨v771, e772⟩ : ∃ v : Int32, v769 &&& (255 : Int32) = v := ⟨_, rfl⟩
          refine gIand W d11_90 e772 rfl ?_
          obtain ⟨v773, e774⟩ : ∃ v : Int32, v771.toUInt32.toUInt16.toUInt32.toInt32 = v := ⟨_, rfl⟩
          refine gI2C W d11_91 e774 rfl ?_
          have cb775 := ch255 e772 e774
          exact wRetI (so := []) (t := .char) W d11_92 (by simp) (by show Value.int (nar .char v773) = _; rw [cb775.2.2]) (by decide) (by decide) (fun _ q => nomatch q) ⟨v773, rfl, rfl, (And.intro cb775.1 cb775.2.1)⟩
      · refine gIfYes (pc' := 45) W d11_29 ((if0 _ _).trans (feq c760).2) (by decide) rfl ?_
        refine gIloadN W d11_45 rfl rfl ?_
        refine gIconst (z := (1 : Int32)) W d11_46 rfl rfl ?_
        by_cases c776 : b = (1 : Int32)
        · refine gIcmpNo W d11_47 (teq c776).2 rfl ?_
          refine gIloadN W d11_50 rfl rfl ?_
          refine gIconst (z := (4 : Int32)) W d11_51 rfl rfl ?_
          refine gIcmpYes (pc' := 62) W d11_52 (flt (by decide)).2.1 (by decide) rfl ?_
          refine gIloadN W d11_62 rfl rfl ?_
          refine gIconst (z := (4 : Int32)) W d11_63 rfl rfl ?_
          refine gIcmpYes (pc' := 71) W d11_64 (flt (by decide)).2.1 (by decide) rfl ?_
          refine gIloadN W d11_71 rfl rfl ?_
          refine gIstore (ls' := #[.val (.int (6 : Int32)), .val (.int b), .val (.int p), .val (.int q), .val (.int e), .val (.int q), .unset]) W d11_72 rfl rfl ?_
          refine gBipush (z := (8 : Int32)) W d11_74 rfl rfl ?_
          refine gIloadN W d11_76 rfl rfl ?_
          refine gIconst (z := (3 : Int32)) W d11_77 rfl rfl ?_
          refine gIand (z := (2 : Int32)) W d11_78 (by decide) rfl ?_
          refine gImul (z := (16 : Int32)) W d11_79 (by decide) rfl ?_
          refine gIstore (ls' := #[.val (.int (6 : Int32)), .val (.int b), .val (.int p), .val (.int q), .val (.int e), .val (.int q), .val (.int (16 : Int32))]) W d11_80 rfl rfl ?_
          refine gIload W d11_82 rfl rfl ?_
          refine gIload W d11_84 rfl rfl ?_
          obtain ⟨v777, e778⟩ : ∃ v : Int32, (q.toUInt32 >>> ((16 : Int32) &&& 31).toUInt32).toInt32 = v := ⟨_, rfl⟩
          refine gIushr W d11_86 e778 rfl ?_
          refine gSipush (z := (255 : Int32)) W d11_87 rfl rfl ?_
          obtain ⟨v779, e780⟩ : ∃ v : Int32, v777 &&& (255 : Int32) = v := ⟨_, rfl⟩
          refine gIand W d11_90 e780 rfl ?_
          obtain ⟨v781, e782⟩ : ∃ v : Int32, v779.toUInt32.toUInt16.toUInt32.toInt32 = v := ⟨_, rfl⟩
          refine gI2C W d11_91 e782 rfl ?_
          have cb783 := ch255 e780 e782
          exact wRetI (so := []) (t := .char) W d11_92 (by simp) (by show Value.int (nar .char v781) = _; rw [cb783.2.2]) (by decide) (by decide) (fun _ q => nomatch q) ⟨v781, rfl, rfl, (And.intro cb783.1 cb783.2.1)⟩
        · refine gIcmpYes (pc' := 62) W d11_47 (feq c776).2 (by decide) rfl ?_
          refine gIloadN W d11_62 rfl rfl ?_
          refine gIconst (z := (4 : Int32)) W d11_63 rfl rfl ?_
          refine gIcmpYes (pc' := 71) W d11_64 (flt (by decide)).2.1 (by decide) rfl ?_
          refine gIloadN W d11_71 rfl rfl ?_
          refine gIstore (ls' := #[.val (.int (6 : Int32)), .val (.int b), .val (.int p), .val (.int q), .val (.int e), .val (.int q), .unset]) W d11_72 rfl rfl ?_
          refine gBipush (z := (8 : Int32)) W d11_74 rfl rfl ?_
          refine gIloadN W d11_76 rfl rfl ?_
          refine gIconst (z := (3 : Int32)) W d11_77 rfl rfl ?_
          refine gIand (z := (2 : Int32)) W d11_78 (by decide) rfl ?_
          refine gImul (z := (16 : Int32)) W d11_79 (by decide) rfl ?_
          refine gIstore (ls' := #[.val (.int (6 : Int32)), .val (.int b), .val (.int p), .val (.int q), .val (.int e), .val (.int q), .val (.int (16 : Int32))]) W d11_80 rfl rfl ?_
          refine gIload W d11_82 rfl rfl ?_
          refine gIload W d11_84 rfl rfl ?_
          obtain ⟨v784, e785⟩ : ∃ v : Int32, (q.toUInt32 >>> ((16 : Int32) &&& 31).toUInt32).toInt32 = v := ⟨_, rfl⟩
          refine gIushr W d11_86 e785 rfl ?_
          refine gSipush (z := (255 : Int32)) W d11_87 rfl rfl ?_
          obtain ⟨v786, e787⟩ : ∃ v : Int32, v784 &&& (255 : Int32) = v := ⟨_, rfl⟩
          refine gIand W d11_90 e787 rfl ?_
          obtain ⟨v788, e789⟩ : ∃ v : Int32, v786.toUInt32.toUInt16.toUInt32.toInt32 = v := ⟨_, rfl⟩
          refine gI2C W d11_91 e789 rfl ?_
          have cb790 := ch255 e787 e789
          exact wRetI (so := []) (t := .char) W d11_92 (by simp) (by show Value.int (nar .char v788) = _; rw [cb790.2.2]) (by decide) (by decide) (fun _ q => nomatch q) ⟨v788, rfl, rfl, (And.intro cb790.1 cb790.2.1)⟩
theorem d1_0 : decode method_3_code 0 = .ok (.iload_n 0, 1) := by decide +kernel
theorem d1_1 : decode method_3_code 1 = .ok (.ifCond .ne 7, 3) := by decide +kernel
theorem d1_4 : decode method_3_code 4 = .ok (.iconst 0, 1) := by decide +kernel
theorem d1_5 : decode method_3_code 5 = .ok (.newarray .char, 2) := by decide +kernel
theorem ow4 {a0 : Array Value} {Z : State} (hw : ∀ d ∈ tables_1, d.before a0 Z = true) : (Jvm.Cond.arrayClass Jvm.ClassFile.FieldType.char).before a0 Z = true := hw _ (List.mem_of_getElem? (i := 4) rfl)
theorem d1_7 : decode method_3_code 7 = .ok (.areturn, 1) := by decide +kernel
theorem oef_orm_al0 (m : MethodId)   : (entryFrame m #[(.int (0 : Int32))] 1).locals = #[.val (.int (0 : Int32))] := by first | (simp [entryFrame, argsToLocals, Value.category]; done) | rfl
set_option maxRecDepth 65536 in
set_option maxHeartbeats 40000000 in
theorem orm_al0 (l : Launch) (Z : State) (a0 : Array Value) (hw : ∀ d ∈ tables_1, d.before a0 Z = true) (hE : EW Z a0 consts_1)  (h : Heap) (hO : Old Z Z.heap.size h)   :
    Ct l Z consts_1 (⟨"com/example/tidewire/tidewire/message/PriorityOfWireNamePinLaw", "alloc", "(I)[C"⟩ : MethodName) method_3_code 1 (Option.some (Jvm.ClassFile.FieldType.array Jvm.ClassFile.FieldType.char)) ⟨0, 1, 0, 0⟩ #[(.int (0 : Int32))] h [] (fun rv' hp' so' => ∃ r : Addr, ∃ kC : ClassId, rv' = some (.ref r) ∧ so' = [r] ∧ (h.size ≤ r) ∧ Arv Z hp' r kC .char (0 : Int32) [] (.int 0)) := by
  refine Ct.mk "com/example/tidewire/tidewire/message/PriorityOfWireNamePinLaw" "alloc" rfl rfl (a0 := a0) (plainFor_of_name opn1) hO hE (fun x q => nomatch q) ?_
  intro K T W
  rw [oef_orm_al0]
  refine gIloadN W d1_0 rfl rfl ?_
  refine gIfNo W d1_1 ((if0 _ _).trans (teq (by decide)).2) rfl ?_
  refine gIconst (z := (0 : Int32)) W d1_4 rfl rfl ?_
  refine wNewP (cap := 0) W d1_5 (ow4 hw) (by decide) (by decide) (by decide) (by decide) (by decide) rfl fun T791 h793 a794 k798 W792 E795 g796 A797 => ?_
  have f799 : Arv Z h793 a794 k798 .char (0 : Int32) [] (.int 0) := A797 0
  exact wRetA (so := [a794]) (t := .array .char) W792 d1_7 rfl rfl rfl (by decide) (by decide) (fun y q => by simp at q; subst q; exact ⟨by simp, (Nat.le_of_eq g796.symm)⟩) ⟨a794, k798, rfl, rfl, (Nat.le_of_eq g796.symm), f799⟩
theorem d1_8 : decode method_3_code 8 = .ok (.iload_n 0, 1) := by decide +kernel
theorem d1_9 : decode method_3_code 9 = .ok (.iconst 1, 1) := by decide +kernel
theorem d1_10 : decode method_3_code 10 = .ok (.if_icmp .ne 7, 3) := by decide +kernel
theorem d1_13 : decode method_3_code 13 = .ok (.iconst 1, 1) := by decide +kernel
theorem d1_14 : decode method_3_code 14 = .ok (.newarray .char, 2) := by decide +kernel
theorem d1_16 : decode method_3_code 16 = .ok (.areturn, 1) := by decide +kernel
theorem oef_orm_al1 (m : MethodId)   : (entryFrame m #[(.int (1 : Int32))] 1).locals = #[.val (.int (1 : Int32))] := by first | (simp [entryFrame, argsToLocals, Value.category]; done) | rfl
set_option maxRecDepth 65536 in
set_option maxHeartbeats 40000000 in
theorem orm_al1 (l : Launch) (Z : State) (a0 : Array Value) (hw : ∀ d ∈ tables_1, d.before a0 Z = true) (hE : EW Z a0 consts_1)  (h : Heap) (hO : Old Z Z.heap.size h)   :
    Ct l Z consts_1 (⟨"com/example/tidewire/tidewire/message/PriorityOfWireNamePinLaw", "alloc", "(I)[C"⟩ : MethodName) method_3_code 1 (Option.some (Jvm.ClassFile.FieldType.array Jvm.ClassFile.FieldType.char)) ⟨0, 1, 1, 0⟩ #[(.int (1 : Int32))] h [] (fun rv' hp' so' => ∃ r : Addr, ∃ kC : ClassId, rv' = some (.ref r) ∧ so' = [r] ∧ (h.size ≤ r) ∧ Arv Z hp' r kC .char (1 : Int32) [(.int (0 : Int32))] (.int 0)) := by
  refine Ct.mk "com/example/tidewire/tidewire/message/PriorityOfWireNamePinLaw" "alloc" rfl rfl (a0 := a0) (plainFor_of_name opn1) hO hE (fun x q => nomatch q) ?_
  intro K T W
  rw [oef_orm_al1]
  refine gIloadN W d1_0 rfl rfl ?_
  refine gIfYes (pc' := 8) W d1_1 ((if0 _ _).trans (feq (by decide)).2) (by decide) rfl ?_
  refine gIloadN W d1_8 rfl rfl ?_
  refine gIconst (z := (1 : Int32)) W d1_9 rfl rfl ?_
  refine gIcmpNo W d1_10 (teq (by decide)).2 rfl ?_
  refine gIconst (z := (1 : Int32)) W d1_13 rfl rfl ?_
  refine wNewP (cap := 1) W d1_14 (ow4 hw) (by decide) (by decide) (by decide) (by decide) (by decide) rfl fun T800 h802 a803 k807 W801 E804 g805 A806 => ?_
  have f808 : Arv Z h802 a803 k807 .char (1 : Int32) [(.int (0 : Int32))] (.int 0) := A806 1
  exact wRetA (so := [a803]) (t := .array .char) W801 d1_16 rfl rfl rfl (by decide) (by decide) (fun y q => by simp at q; subst q; exact ⟨by simp, (Nat.le_of_eq g805.symm)⟩) ⟨a803, k807, rfl, rfl, (Nat.le_of_eq g805.symm), f808⟩
theorem d1_17 : decode method_3_code 17 = .ok (.iload_n 0, 1) := by decide +kernel
theorem d1_18 : decode method_3_code 18 = .ok (.iconst 2, 1) := by decide +kernel
theorem d1_19 : decode method_3_code 19 = .ok (.if_icmp .ne 7, 3) := by decide +kernel
theorem d1_22 : decode method_3_code 22 = .ok (.iconst 2, 1) := by decide +kernel
theorem d1_23 : decode method_3_code 23 = .ok (.newarray .char, 2) := by decide +kernel
theorem d1_25 : decode method_3_code 25 = .ok (.areturn, 1) := by decide +kernel
theorem oef_orm_al2 (m : MethodId)   : (entryFrame m #[(.int (2 : Int32))] 1).locals = #[.val (.int (2 : Int32))] := by first | (simp [entryFrame, argsToLocals, Value.category]; done) | rfl
set_option maxRecDepth 65536 in
set_option maxHeartbeats 40000000 in
theorem orm_al2 (l : Launch) (Z : State) (a0 : Array Value) (hw : ∀ d ∈ tables_1, d.before a0 Z = true) (hE : EW Z a0 consts_1)  (h : Heap) (hO : Old Z Z.heap.size h)   :
    Ct l Z consts_1 (⟨"com/example/tidewire/tidewire/message/PriorityOfWireNamePinLaw", "alloc", "(I)[C"⟩ : MethodName) method_3_code 1 (Option.some (Jvm.ClassFile.FieldType.array Jvm.ClassFile.FieldType.char)) ⟨0, 1, 2, 0⟩ #[(.int (2 : Int32))] h [] (fun rv' hp' so' => ∃ r : Addr, ∃ kC : ClassId, rv' = some (.ref r) ∧ so' = [r] ∧ (h.size ≤ r) ∧ Arv Z hp' r kC .char (2 : Int32) [(.int (0 : Int32)), (.int (0 : Int32))] (.int 0)) := by
  refine Ct.mk "com/example/tidewire/tidewire/message/PriorityOfWireNamePinLaw" "alloc" rfl rfl (a0 := a0) (plainFor_of_name opn1) hO hE (fun x q => nomatch q) ?_
  intro K T W
  rw [oef_orm_al2]
  refine gIloadN W d1_0 rfl rfl ?_
  refine gIfYes (pc' := 8) W d1_1 ((if0 _ _).trans (feq (by decide)).2) (by decide) rfl ?_
  refine gIloadN W d1_8 rfl rfl ?_
  refine gIconst (z := (1 : Int32)) W d1_9 rfl rfl ?_
  refine gIcmpYes (pc' := 17) W d1_10 (feq (by decide)).2 (by decide) rfl ?_
  refine gIloadN W d1_17 rfl rfl ?_
  refine gIconst (z := (2 : Int32)) W d1_18 rfl rfl ?_
  refine gIcmpNo W d1_19 (teq (by decide)).2 rfl ?_
  refine gIconst (z := (2 : Int32)) W d1_22 rfl rfl ?_
  refine wNewP (cap := 2) W d1_23 (ow4 hw) (by decide) (by decide) (by decide) (by decide) (by decide) rfl fun T809 h811 a812 k816 W810 E813 g814 A815 => ?_
  have f817 : Arv Z h811 a812 k816 .char (2 : Int32) [(.int (0 : Int32)), (.int (0 : Int32))] (.int 0) := A815 2
  exact wRetA (so := [a812]) (t := .array .char) W810 d1_25 rfl rfl rfl (by decide) (by decide) (fun y q => by simp at q; subst q; exact ⟨by simp, (Nat.le_of_eq g814.symm)⟩) ⟨a812, k816, rfl, rfl, (Nat.le_of_eq g814.symm), f817⟩
theorem d1_26 : decode method_3_code 26 = .ok (.iload_n 0, 1) := by decide +kernel
theorem d1_27 : decode method_3_code 27 = .ok (.iconst 3, 1) := by decide +kernel
theorem d1_28 : decode method_3_code 28 = .ok (.if_icmp .ne 7, 3) := by decide +kernel
theorem d1_31 : decode method_3_code 31 = .ok (.iconst 3, 1) := by decide +kernel
theorem d1_32 : decode method_3_code 32 = .ok (.newarray .char, 2) := by decide +kernel
theorem d1_34 : decode method_3_code 34 = .ok (.areturn, 1) := by decide +kernel
theorem oef_orm_al3 (m : MethodId)   : (entryFrame m #[(.int (3 : Int32))] 1).locals = #[.val (.int (3 : Int32))] := by first | (simp [entryFrame, argsToLocals, Value.category]; done) | rfl
set_option maxRecDepth 65536 in
set_option maxHeartbeats 40000000 in
theorem orm_al3 (l : Launch) (Z : State) (a0 : Array Value) (hw : ∀ d ∈ tables_1, d.before a0 Z = true) (hE : EW Z a0 consts_1)  (h : Heap) (hO : Old Z Z.heap.size h)   :
    Ct l Z consts_1 (⟨"com/example/tidewire/tidewire/message/PriorityOfWireNamePinLaw", "alloc", "(I)[C"⟩ : MethodName) method_3_code 1 (Option.some (Jvm.ClassFile.FieldType.array Jvm.ClassFile.FieldType.char)) ⟨0, 1, 3, 0⟩ #[(.int (3 : Int32))] h [] (fun rv' hp' so' => ∃ r : Addr, ∃ kC : ClassId, rv' = some (.ref r) ∧ so' = [r] ∧ (h.size ≤ r) ∧ Arv Z hp' r kC .char (3 : Int32) [(.int (0 : Int32)), (.int (0 : Int32)), (.int (0 : Int32))] (.int 0)) := by
  refine Ct.mk "com/example/tidewire/tidewire/message/PriorityOfWireNamePinLaw" "alloc" rfl rfl (a0 := a0) (plainFor_of_name opn1) hO hE (fun x q => nomatch q) ?_
  intro K T W
  rw [oef_orm_al3]
  refine gIloadN W d1_0 rfl rfl ?_
  refine gIfYes (pc' := 8) W d1_1 ((if0 _ _).trans (feq (by decide)).2) (by decide) rfl ?_
  refine gIloadN W d1_8 rfl rfl ?_
  refine gIconst (z := (1 : Int32)) W d1_9 rfl rfl ?_
  refine gIcmpYes (pc' := 17) W d1_10 (feq (by decide)).2 (by decide) rfl ?_
  refine gIloadN W d1_17 rfl rfl ?_
  refine gIconst (z := (2 : Int32)) W d1_18 rfl rfl ?_
  refine gIcmpYes (pc' := 26) W d1_19 (feq (by decide)).2 (by decide) rfl ?_
  refine gIloadN W d1_26 rfl rfl ?_
  refine gIconst (z := (3 : Int32)) W d1_27 rfl rfl ?_
  refine gIcmpNo W d1_28 (teq (by decide)).2 rfl ?_
  refine gIconst (z := (3 : Int32)) W d1_31 rfl rfl ?_
  refine wNewP (cap := 3) W d1_32 (ow4 hw) (by decide) (by decide) (by decide) (by decide) (by decide) rfl fun T818 h820 a821 k825 W819 E822 g823 A824 => ?_
  have f826 : Arv Z h820 a821 k825 .char (3 : Int32) [(.int (0 : Int32)), (.int (0 : Int32)), (.int (0 : Int32))] (.int 0) := A824 3
  exact wRetA (so := [a821]) (t := .array .char) W819 d1_34 rfl rfl rfl (by decide) (by decide) (fun y q => by simp at q; subst q; exact ⟨by simp, (Nat.le_of_eq g823.symm)⟩) ⟨a821, k825, rfl, rfl, (Nat.le_of_eq g823.symm), f826⟩
theorem d1_35 : decode method_3_code 35 = .ok (.iload_n 0, 1) := by decide +kernel
theorem d1_36 : decode method_3_code 36 = .ok (.iconst 4, 1) := by decide +kernel
theorem d1_37 : decode method_3_code 37 = .ok (.if_icmp .ne 7, 3) := by decide +kernel
theorem d1_40 : decode method_3_code 40 = .ok (.iconst 4, 1) := by decide +kernel
theorem d1_41 : decode method_3_code 41 = .ok (.newarray .char, 2) := by decide +kernel
theorem d1_43 : decode method_3_code 43 = .ok (.areturn, 1) := by decide +kernel
theorem oef_orm_al4 (m : MethodId)   : (entryFrame m #[(.int (4 : Int32))] 1).locals = #[.val (.int (4 : Int32))] := by first | (simp [entryFrame, argsToLocals, Value.category]; done) | rfl
set_option maxRecDepth 65536 in
set_option maxHeartbeats 40000000 in
theorem orm_al4 (l : Launch) (Z : State) (a0 : Array Value) (hw : ∀ d ∈ tables_1, d.before a0 Z = true) (hE : EW Z a0 consts_1)  (h : Heap) (hO : Old Z Z.heap.size h)   :
    Ct l Z consts_1 (⟨"com/example/tidewire/tidewire/message/PriorityOfWireNamePinLaw", "alloc", "(I)[C"⟩ : MethodName) method_3_code 1 (Option.some (Jvm.ClassFile.FieldType.array Jvm.ClassFile.FieldType.char)) ⟨0, 1, 4, 0⟩ #[(.int (4 : Int32))] h [] (fun rv' hp' so' => ∃ r : Addr, ∃ kC : ClassId, rv' = some (.ref r) ∧ so' = [r] ∧ (h.size ≤ r) ∧ Arv Z hp' r kC .char (4 : Int32) [(.int (0 : Int32)), (.int (0 : Int32)), (.int (0 : Int32)), (.int (0 : Int32))] (.int 0)) := by
  refine Ct.mk "com/example/tidewire/tidewire/message/PriorityOfWireNamePinLaw" "alloc" rfl rfl (a0 := a0) (plainFor_of_name opn1) hO hE (fun x q => nomatch q) ?_
  intro K T W
  rw [oef_orm_al4]
  refine gIloadN W d1_0 rfl rfl ?_
  refine gIfYes (pc' := 8) W d1_1 ((if0 _ _).trans (feq (by decide)).2) (by decide) rfl ?_
  refine gIloadN W d1_8 rfl rfl ?_
  refine gIconst (z := (1 : Int32)) W d1_9 rfl rfl ?_
  refine gIcmpYes (pc' := 17) W d1_10 (feq (by decide)).2 (by decide) rfl ?_
  refine gIloadN W d1_17 rfl rfl ?_
  refine gIconst (z := (2 : Int32)) W d1_18 rfl rfl ?_
  refine gIcmpYes (pc' := 26) W d1_19 (feq (by decide)).2 (by decide) rfl ?_
  refine gIloadN W d1_26 rfl rfl ?_
  refine gIconst (z := (3 : Int32)) W d1_27 rfl rfl ?_
  refine gIcmpYes (pc' := 35) W d1_28 (feq (by decide)).2 (by decide) rfl ?_
  refine gIloadN W d1_35 rfl rfl ?_
  refine gIconst (z := (4 : Int32)) W d1_36 rfl rfl ?_
  refine gIcmpNo W d1_37 (teq (by decide)).2 rfl ?_
  refine gIconst (z := (4 : Int32)) W d1_40 rfl rfl ?_
  refine wNewP (cap := 4) W d1_41 (ow4 hw) (by decide) (by decide) (by decide) (by decide) (by decide) rfl fun T827 h829 a830 k834 W828 E831 g832 A833 => ?_
  have f835 : Arv Z h829 a830 k834 .char (4 : Int32) [(.int (0 : Int32)), (.int (0 : Int32)), (.int (0 : Int32)), (.int (0 : Int32))] (.int 0) := A833 4
  exact wRetA (so := [a830]) (t := .array .char) W828 d1_43 rfl rfl rfl (by decide) (by decide) (fun y q => by simp at q; subst q; exact ⟨by simp, (Nat.le_of_eq g832.symm)⟩) ⟨a830, k834, rfl, rfl, (Nat.le_of_eq g832.symm), f835⟩
theorem d1_44 : decode method_3_code 44 = .ok (.iload_n 0, 1) := by decide +kernel
theorem d1_45 : decode method_3_code 45 = .ok (.iconst 5, 1) := by decide +kernel
theorem d1_46 : decode method_3_code 46 = .ok (.if_icmp .ne 7, 3) := by decide +kernel
theorem d1_49 : decode method_3_code 49 = .ok (.iconst 5, 1) := by decide +kernel
theorem d1_50 : decode method_3_code 50 = .ok (.newarray .char, 2) := by decide +kernel
theorem d1_52 : decode method_3_code 52 = .ok (.areturn, 1) := by decide +kernel
theorem oef_orm_al5 (m : MethodId)   : (entryFrame m #[(.int (5 : Int32))] 1).locals = #[.val (.int (5 : Int32))] := by first | (simp [entryFrame, argsToLocals, Value.category]; done) | rfl
set_option maxRecDepth 65536 in
set_option maxHeartbeats 40000000 in
theorem orm_al5 (l : Launch) (Z : State) (a0 : Array Value) (hw : ∀ d ∈ tables_1, d.before a0 Z = true) (hE : EW Z a0 consts_1)  (h : Heap) (hO : Old Z Z.heap.size h)   :
    Ct l Z consts_1 (⟨"com/example/tidewire/tidewire/message/PriorityOfWireNamePinLaw", "alloc", "(I)[C"⟩ : MethodName) method_3_code 1 (Option.some (Jvm.ClassFile.FieldType.array Jvm.ClassFile.FieldType.char)) ⟨0, 1, 5, 0⟩ #[(.int (5 : Int32))] h [] (fun rv' hp' so' => ∃ r : Addr, ∃ kC : ClassId, rv' = some (.ref r) ∧ so' = [r] ∧ (h.size ≤ r) ∧ Arv Z hp' r kC .char (5 : Int32) [(.int (0 : Int32)), (.int (0 : Int32)), (.int (0 : Int32)), (.int (0 : Int32)), (.int (0 : Int32))] (.int 0)) := by
  refine Ct.mk "com/example/tidewire/tidewire/message/PriorityOfWireNamePinLaw" "alloc" rfl rfl (a0 := a0) (plainFor_of_name opn1) hO hE (fun x q => nomatch q) ?_
  intro K T W
  rw [oef_orm_al5]
  refine gIloadN W d1_0 rfl rfl ?_
  refine gIfYes (pc' := 8) W d1_1 ((if0 _ _).trans (feq (by decide)).2) (by decide) rfl ?_
  refine gIloadN W d1_8 rfl rfl ?_
  refine gIconst (z := (1 : Int32)) W d1_9 rfl rfl ?_
  refine gIcmpYes (pc' := 17) W d1_10 (feq (by decide)).2 (by decide) rfl ?_
  refine gIloadN W d1_17 rfl rfl ?_
  refine gIconst (z := (2 : Int32)) W d1_18 rfl rfl ?_
  refine gIcmpYes (pc' := 26) W d1_19 (feq (by decide)).2 (by decide) rfl ?_
  refine gIloadN W d1_26 rfl rfl ?_
  refine gIconst (z := (3 : Int32)) W d1_27 rfl rfl ?_
  refine gIcmpYes (pc' := 35) W d1_28 (feq (by decide)).2 (by decide) rfl ?_
  refine gIloadN W d1_35 rfl rfl ?_
  refine gIconst (z := (4 : Int32)) W d1_36 rfl rfl ?_
  refine gIcmpYes (pc' := 44) W d1_37 (feq (by decide)).2 (by decide) rfl ?_
  refine gIloadN W d1_44 rfl rfl ?_
  refine gIconst (z := (5 : Int32)) W d1_45 rfl rfl ?_
  refine gIcmpNo W d1_46 (teq (by decide)).2 rfl ?_
  refine gIconst (z := (5 : Int32)) W d1_49 rfl rfl ?_
  refine wNewP (cap := 5) W d1_50 (ow4 hw) (by decide) (by decide) (by decide) (by decide) (by decide) rfl fun T836 h838 a839 k843 W837 E840 g841 A842 => ?_
  have f844 : Arv Z h838 a839 k843 .char (5 : Int32) [(.int (0 : Int32)), (.int (0 : Int32)), (.int (0 : Int32)), (.int (0 : Int32)), (.int (0 : Int32))] (.int 0) := A842 5
  exact wRetA (so := [a839]) (t := .array .char) W837 d1_52 rfl rfl rfl (by decide) (by decide) (fun y q => by simp at q; subst q; exact ⟨by simp, (Nat.le_of_eq g841.symm)⟩) ⟨a839, k843, rfl, rfl, (Nat.le_of_eq g841.symm), f844⟩
theorem d1_53 : decode method_3_code 53 = .ok (.iload_n 0, 1) := by decide +kernel
theorem d1_54 : decode method_3_code 54 = .ok (.bipush 6, 2) := by decide +kernel
theorem d1_56 : decode method_3_code 56 = .ok (.if_icmp .ne 8, 3) := by decide +kernel
theorem d1_59 : decode method_3_code 59 = .ok (.bipush 6, 2) := by decide +kernel
theorem d1_61 : decode method_3_code 61 = .ok (.newarray .char, 2) := by decide +kernel
theorem d1_63 : decode method_3_code 63 = .ok (.areturn, 1) := by decide +kernel
theorem oef_orm_al6 (m : MethodId)   : (entryFrame m #[(.int (6 : Int32))] 1).locals = #[.val (.int (6 : Int32))] := by first | (simp [entryFrame, argsToLocals, Value.category]; done) | rfl
set_option maxRecDepth 65536 in
set_option maxHeartbeats 40000000 in
theorem orm_al6 (l : Launch) (Z : State) (a0 : Array Value) (hw : ∀ d ∈ tables_1, d.before a0 Z = true) (hE : EW Z a0 consts_1)  (h : Heap) (hO : Old Z Z.heap.size h)   :
    Ct l Z consts_1 (⟨"com/example/tidewire/tidewire/message/PriorityOfWireNamePinLaw", "alloc", "(I)[C"⟩ : MethodName) method_3_code 1 (Option.some (Jvm.ClassFile.FieldType.array Jvm.ClassFile.FieldType.char)) ⟨0, 1, 6, 0⟩ #[(.int (6 : Int32))] h [] (fun rv' hp' so' => ∃ r : Addr, ∃ kC : ClassId, rv' = some (.ref r) ∧ so' = [r] ∧ (h.size ≤ r) ∧ Arv Z hp' r kC .char (6 : Int32) [(.int (0 : Int32)), (.int (0 : Int32)), (.int (0 : Int32)), (.int (0 : Int32)), (.int (0 : Int32)), (.int (0 : Int32))] (.int 0)) := by
  refine Ct.mk "com/example/tidewire/tidewire/message/PriorityOfWireNamePinLaw" "alloc" rfl rfl (a0 := a0) (plainFor_of_name opn1) hO hE (fun x q => nomatch q) ?_
  intro K T W
  rw [oef_orm_al6]
  refine gIloadN W d1_0 rfl rfl ?_
  refine gIfYes (pc' := 8) W d1_1 ((if0 _ _).trans (feq (by decide)).2) (by decide) rfl ?_
  refine gIloadN W d1_8 rfl rfl ?_
  refine gIconst (z := (1 : Int32)) W d1_9 rfl rfl ?_
  refine gIcmpYes (pc' := 17) W d1_10 (feq (by decide)).2 (by decide) rfl ?_
  refine gIloadN W d1_17 rfl rfl ?_
  refine gIconst (z := (2 : Int32)) W d1_18 rfl rfl ?_
  refine gIcmpYes (pc' := 26) W d1_19 (feq (by decide)).2 (by decide) rfl ?_
  refine gIloadN W d1_26 rfl rfl ?_
  refine gIconst (z := (3 : Int32)) W d1_27 rfl rfl ?_
  refine gIcmpYes (pc' := 35) W d1_28 (feq (by decide)).2 (by decide) rfl ?_
  refine gIloadN W d1_35 rfl rfl ?_
  refine gIconst (z := (4 : Int32)) W d1_36 rfl rfl ?_
  refine gIcmpYes (pc' := 44) W d1_37 (feq (by decide)).2 (by decide) rfl ?_
  refine gIloadN W d1_44 rfl rfl ?_
  refine gIconst (z := (5 : Int32)) W d1_45 rfl rfl ?_
  refine gIcmpYes (pc' := 53) W d1_46 (feq (by decide)).2 (by decide) rfl ?_
  refine gIloadN W d1_53 rfl rfl ?_
  refine gBipush (z := (6 : Int32)) W d1_54 rfl rfl ?_
  refine gIcmpNo W d1_56 (teq (by decide)).2 rfl ?_
  refine gBipush (z := (6 : Int32)) W d1_59 rfl rfl ?_
  refine wNewP (cap := 6) W d1_61 (ow4 hw) (by decide) (by decide) (by decide) (by decide) (by decide) rfl fun T845 h847 a848 k852 W846 E849 g850 A851 => ?_
  have f853 : Arv Z h847 a848 k852 .char (6 : Int32) [(.int (0 : Int32)), (.int (0 : Int32)), (.int (0 : Int32)), (.int (0 : Int32)), (.int (0 : Int32)), (.int (0 : Int32))] (.int 0) := A851 6
  exact wRetA (so := [a848]) (t := .array .char) W846 d1_63 rfl rfl rfl (by decide) (by decide) (fun y q => by simp at q; subst q; exact ⟨by simp, (Nat.le_of_eq g850.symm)⟩) ⟨a848, k852, rfl, rfl, (Nat.le_of_eq g850.symm), f853⟩
theorem d1_64 : decode method_3_code 64 = .ok (.bipush 7, 2) := by decide +kernel
theorem d1_66 : decode method_3_code 66 = .ok (.newarray .char, 2) := by decide +kernel
theorem d1_68 : decode method_3_code 68 = .ok (.areturn, 1) := by decide +kernel
theorem oef_orm_al7 (m : MethodId)   : (entryFrame m #[(.int (7 : Int32))] 1).locals = #[.val (.int (7 : Int32))] := by first | (simp [entryFrame, argsToLocals, Value.category]; done) | rfl
set_option maxRecDepth 65536 in
set_option maxHeartbeats 40000000 in
theorem orm_al7 (l : Launch) (Z : State) (a0 : Array Value) (hw : ∀ d ∈ tables_1, d.before a0 Z = true) (hE : EW Z a0 consts_1)  (h : Heap) (hO : Old Z Z.heap.size h)   :
    Ct l Z consts_1 (⟨"com/example/tidewire/tidewire/message/PriorityOfWireNamePinLaw", "alloc", "(I)[C"⟩ : MethodName) method_3_code 1 (Option.some (Jvm.ClassFile.FieldType.array Jvm.ClassFile.FieldType.char)) ⟨0, 1, 7, 0⟩ #[(.int (7 : Int32))] h [] (fun rv' hp' so' => ∃ r : Addr, ∃ kC : ClassId, rv' = some (.ref r) ∧ so' = [r] ∧ (h.size ≤ r) ∧ Arv Z hp' r kC .char (7 : Int32) [(.int (0 : Int32)), (.int (0 : Int32)), (.int (0 : Int32)), (.int (0 : Int32)), (.int (0 : Int32)), (.int (0 : Int32)), (.int (0 : Int32))] (.int 0)) := by
  refine Ct.mk "com/example/tidewire/tidewire/message/PriorityOfWireNamePinLaw" "alloc" rfl rfl (a0 := a0) (plainFor_of_name opn1) hO hE (fun x q => nomatch q) ?_
  intro K T W
  rw [oef_orm_al7]
  refine gIloadN W d1_0 rfl rfl ?_
  refine gIfYes (pc' := 8) W d1_1 ((if0 _ _).trans (feq (by decide)).2) (by decide) rfl ?_
  refine gIloadN W d1_8 rfl rfl ?_
  refine gIconst (z := (1 : Int32)) W d1_9 rfl rfl ?_
  refine gIcmpYes (pc' := 17) W d1_10 (feq (by decide)).2 (by decide) rfl ?_
  refine gIloadN W d1_17 rfl rfl ?_
  refine gIconst (z := (2 : Int32)) W d1_18 rfl rfl ?_
  refine gIcmpYes (pc' := 26) W d1_19 (feq (by decide)).2 (by decide) rfl ?_
  refine gIloadN W d1_26 rfl rfl ?_
  refine gIconst (z := (3 : Int32)) W d1_27 rfl rfl ?_
  refine gIcmpYes (pc' := 35) W d1_28 (feq (by decide)).2 (by decide) rfl ?_
  refine gIloadN W d1_35 rfl rfl ?_
  refine gIconst (z := (4 : Int32)) W d1_36 rfl rfl ?_
  refine gIcmpYes (pc' := 44) W d1_37 (feq (by decide)).2 (by decide) rfl ?_
  refine gIloadN W d1_44 rfl rfl ?_
  refine gIconst (z := (5 : Int32)) W d1_45 rfl rfl ?_
  refine gIcmpYes (pc' := 53) W d1_46 (feq (by decide)).2 (by decide) rfl ?_
  refine gIloadN W d1_53 rfl rfl ?_
  refine gBipush (z := (6 : Int32)) W d1_54 rfl rfl ?_
  refine gIcmpYes (pc' := 64) W d1_56 (feq (by decide)).2 (by decide) rfl ?_
  refine gBipush (z := (7 : Int32)) W d1_64 rfl rfl ?_
  refine wNewP (cap := 7) W d1_66 (ow4 hw) (by decide) (by decide) (by decide) (by decide) (by decide) rfl fun T854 h856 a857 k861 W855 E858 g859 A860 => ?_
  have f862 : Arv Z h856 a857 k861 .char (7 : Int32) [(.int (0 : Int32)), (.int (0 : Int32)), (.int (0 : Int32)), (.int (0 : Int32)), (.int (0 : Int32)), (.int (0 : Int32)), (.int (0 : Int32))] (.int 0) := A860 7
  exact wRetA (so := [a857]) (t := .array .char) W855 d1_68 rfl rfl rfl (by decide) (by decide) (fun y q => by simp at q; subst q; exact ⟨by simp, (Nat.le_of_eq g859.symm)⟩) ⟨a857, k861, rfl, rfl, (Nat.le_of_eq g859.symm), f862⟩
theorem opn2 : plainName "com/example/tidewire/tidewire/message/Priority" = true := by first | (simp [plainName, overriddenIn]; done) | decide +kernel
theorem d6_0 : decode prog_10_method_1_code 0 = .ok (.getstatic 10, 3) := by decide +kernel
theorem ow33 {a0 : Array Value} {Z : State} (hw : ∀ d ∈ tables_1, d.before a0 Z = true) : (Jvm.Cond.fieldLink "com/example/tidewire/tidewire/message/Priority" (10 : Nat) "com/example/tidewire/tidewire/message/Priority" "$VALUES" "[Lcom/example/tidewire/tidewire/message/Priority;").before a0 Z = true := hw _ (List.mem_of_getElem? (i := 33) rfl)
theorem d6_3 : decode prog_10_method_1_code 3 = .ok (.invokevirtual 14, 3) := by decide +kernel
theorem ow35 {a0 : Array Value} {Z : State} (hw : ∀ d ∈ tables_1, d.before a0 Z = true) : (Jvm.Cond.methodLink "com/example/tidewire/tidewire/message/Priority" (14 : Nat) ({ cls := "[Lcom/example/tidewire/tidewire/message/Priority;", name := "clone", desc := "()Ljava/lang/Object;" } : Jvm.MethodName)).before a0 Z = true := hw _ (List.mem_of_getElem? (i := 35) rfl)
theorem ow36 {a0 : Array Value} {Z : State} (hw : ∀ d ∈ tables_1, d.before a0 Z = true) : (Jvm.Cond.sameMethod "[Lcom/example/tidewire/tidewire/message/Priority;" "java/lang/Object" "clone" "()Ljava/lang/Object;").before a0 Z = true := hw _ (List.mem_of_getElem? (i := 36) rfl)
theorem ow40 {a0 : Array Value} {Z : State} (hw : ∀ d ∈ tables_1, d.before a0 Z = true) : (Jvm.Cond.native ({ cls := "java/lang/Object", name := "clone", desc := "()Ljava/lang/Object;" } : Jvm.MethodName)).before a0 Z = true := hw _ (List.mem_of_getElem? (i := 40) rfl)
theorem ow38 {a0 : Array Value} {Z : State} (hw : ∀ d ∈ tables_1, d.before a0 Z = true) : (Jvm.Cond.instanceMethod ({ cls := "java/lang/Object", name := "clone", desc := "()Ljava/lang/Object;" } : Jvm.MethodName)).before a0 Z = true := hw _ (List.mem_of_getElem? (i := 38) rfl)
theorem ow39 {a0 : Array Value} {Z : State} (hw : ∀ d ∈ tables_1, d.before a0 Z = true) : (Jvm.Cond.selects "[Lcom/example/tidewire/tidewire/message/Priority;" ({ cls := "[Lcom/example/tidewire/tidewire/message/Priority;", name := "clone", desc := "()Ljava/lang/Object;" } : Jvm.MethodName) ({ cls := "java/lang/Object", name := "clone", desc := "()Ljava/lang/Object;" } : Jvm.MethodName)).before a0 Z = true := hw _ (List.mem_of_getElem? (i := 39) rfl)
theorem ow41 {a0 : Array Value} {Z : State} (hw : ∀ d ∈ tables_1, d.before a0 Z = true) : (Jvm.Cond.castable "[Lcom/example/tidewire/tidewire/message/Priority;" "java/lang/Cloneable").before a0 Z = true := hw _ (List.mem_of_getElem? (i := 41) rfl)
theorem d6_6 : decode prog_10_method_1_code 6 = .ok (.checkcast 15, 3) := by decide +kernel
theorem ow45 {a0 : Array Value} {Z : State} (hw : ∀ d ∈ tables_1, d.before a0 Z = true) : (Jvm.Cond.classLink "com/example/tidewire/tidewire/message/Priority" (15 : Nat) "[Lcom/example/tidewire/tidewire/message/Priority;").before a0 Z = true := hw _ (List.mem_of_getElem? (i := 45) rfl)
theorem d6_9 : decode prog_10_method_1_code 9 = .ok (.areturn, 1) := by decide +kernel
theorem oef_orm_vals (m : MethodId)   : (entryFrame m #[] 0).locals = #[] := by first | (simp [entryFrame, argsToLocals, Value.category]; done) | rfl
set_option maxRecDepth 65536 in
set_option maxHeartbeats 40000000 in
theorem orm_vals (l : Launch) (Z : State) (a0 : Array Value) (hw : ∀ d ∈ tables_1, d.before a0 Z = true) (hE : EW Z a0 consts_1) (va : Addr) (kv : ClassId) (nr : Addr) (hi : Addr) (wn : Addr) (wh : Addr) (em : Addr) (h : Heap) (hO : Old Z Z.heap.size h) (hP : (Wld Z va kv nr hi wn wh em))  :
    Ct l Z consts_1 (⟨"com/example/tidewire/tidewire/message/Priority", "values", "()[Lcom/example/tidewire/tidewire/message/Priority;"⟩ : MethodName) prog_10_method_1_code 0 (Option.some (Jvm.ClassFile.FieldType.array (Jvm.ClassFile.FieldType.object "com/example/tidewire/tidewire/message/Priority"))) ⟨1, 1, 2, 14⟩ #[] h [] (fun rv' hp' so' => ∃ r : Addr, rv' = some (.ref r) ∧ so' = [] ∧ (h.size ≤ r) ∧ Arv Z hp' r kv (.object "com/example/tidewire/tidewire/message/Priority") (2 : Int32) [(.ref nr), (.ref hi)] .null) := by
  refine Ct.mk "com/example/tidewire/tidewire/message/Priority" "values" rfl rfl (a0 := a0) (plainFor_of_name opn2) hO hE (fun x q => nomatch q) ?_
  intro K T W
  rw [oef_orm_vals]
  refine wGetS W d6_0 (ow33 hw) Via.refl hP.1 rfl fun T863 W864 => ?_
  have f865 := (hP.2.1).ext W864.old.2
  have f866 := (hP.2.2.1).ext W864.old.2
  refine wClone W864 d6_3 (ow35 hw) (ow36 hw) (ow40 hw) (ow38 hw) (ow39 hw) (ow41 hw) f865 f866 rfl (by decide) 0 (Nat.le_of_eq rfl) (by decide) 2 (by decide) (by decide) (by decide) rfl fun T867 h869 a870 W868 E871 g872 A873 E874 => ?_
  refine wCast W868 d6_6 (ow45 hw) (Ins.self E874) rfl fun T875 W876 => ?_
  exact wRetA (so := []) (t := .array (.object "com/example/tidewire/tidewire/message/Priority")) W876 d6_9 rfl rfl rfl (by decide) (by decide) (fun _ q => nomatch q) ⟨a870, rfl, rfl, (Nat.le_of_eq g872.symm), A873⟩
theorem opn3 : plainName "java/util/Optional" = true := by first | (simp [plainName, overriddenIn]; done) | decide +kernel
theorem d22_0 : decode jdk_32_method_2_code 0 = .ok (.aload_n 0, 1) := by decide +kernel
theorem d22_1 : decode jdk_32_method_2_code 1 = .ok (.invokespecial 7, 3) := by decide +kernel
theorem ow122 {a0 : Array Value} {Z : State} (hw : ∀ d ∈ tables_1, d.before a0 Z = true) : (Jvm.Cond.methodLink "java/util/Optional" (7 : Nat) ({ cls := "java/lang/Object", name := "<init>", desc := "()V" } : Jvm.MethodName)).before a0 Z = true := hw _ (List.mem_of_getElem? (i := 122) rfl)
theorem d22_4 : decode jdk_32_method_2_code 4 = .ok (.aload_n 0, 1) := by decide +kernel
theorem d22_5 : decode jdk_32_method_2_code 5 = .ok (.aload_n 1, 1) := by decide +kernel
theorem d22_6 : decode jdk_32_method_2_code 6 = .ok (.putfield 13, 3) := by decide +kernel
theorem ow74 {a0 : Array Value} {Z : State} (hw : ∀ d ∈ tables_1, d.before a0 Z = true) : (Jvm.Cond.laysFinal "java/util/Optional" "java/util/Optional" "value" "Ljava/lang/Object;").before a0 Z = true := hw _ (List.mem_of_getElem? (i := 74) rfl)
theorem ow73 {a0 : Array Value} {Z : State} (hw : ∀ d ∈ tables_1, d.before a0 Z = true) : (Jvm.Cond.fieldLink "java/util/Optional" (13 : Nat) "java/util/Optional" "value" "Ljava/lang/Object;").before a0 Z = true := hw _ (List.mem_of_getElem? (i := 73) rfl)
theorem ow113 {a0 : Array Value} {Z : State} (hw : ∀ d ∈ tables_1, d.before a0 Z = true) : (Jvm.Cond.instantiable "java/util/Optional" (1 : Nat)).before a0 Z = true := hw _ (List.mem_of_getElem? (i := 113) rfl)
theorem d22_9 : decode jdk_32_method_2_code 9 = .ok (.return_, 1) := by decide +kernel
theorem oef_orm_oi (m : MethodId) (a : Addr) (v : Addr)  : (entryFrame m #[(.ref a), (.ref v)] 2).locals = #[.val (.ref a), .val (.ref v)] := by first | (simp [entryFrame, argsToLocals, Value.category]; done) | rfl
set_option maxRecDepth 65536 in
set_option maxHeartbeats 40000000 in
theorem orm_oi (l : Launch) (Z : State) (a0 : Array Value) (hw : ∀ d ∈ tables_1, d.before a0 Z = true) (hE : EW Z a0 consts_1) (a : Addr) (v : Addr) (h : Heap) (hO : Old Z Z.heap.size h) (q0 : Exa Z h a "java/util/Optional") (q1 : Fld Z h a "java/util/Optional" "value" "Ljava/lang/Object;" .null) (ge_a : Z.heap.size ≤ a) :
    Ct l Z consts_1 (⟨"java/util/Optional", "<init>", "(Ljava/lang/Object;)V"⟩ : MethodName) jdk_32_method_2_code 2 (Option.none : Option Jvm.ClassFile.FieldType) ⟨1, 0, 0, 12⟩ #[(.ref a), (.ref v)] h [a] (fun rv' hp' so' => rv' = none ∧ so' = [] ∧ Exa Z hp' a "java/util/Optional" ∧ Fld Z hp' a "java/util/Optional" "value" "Ljava/lang/Object;" (.ref v)) := by
  refine Ct.mk "java/util/Optional" "<init>" rfl rfl (a0 := a0) (plainFor_of_name opn3) hO hE (fun x q => by simp at q; subst q; exact ge_a) ?_
  intro K T W
  rw [oef_orm_oi]
  refine gAloadN W d22_0 rfl rfl rfl ?_
  refine wInitO W d22_1 (ow122 hw) (ow16 hw) (ow17 hw) rfl (by decide) 0 (Nat.le_of_eq rfl) (by decide) rfl fun T877 W878 => ?_
  refine gAloadN W878 d22_4 rfl rfl rfl ?_
  refine gAloadN W878 d22_5 rfl rfl rfl ?_
  refine wPutF (ty := .object "java/lang/Object") W878 d22_6 (ow73 hw) Via.refl (by simp) q1 q0 (Or.inr ⟨(ow74 hw), rfl, rfl⟩) (ow113 hw) (by decide) rfl rfl rfl fun T879 h881 W880 wr882 => ?_
  have f883 := Fld.same wr882 q1
  have f884 := q0.wr wr882
  exact wRet0 (so := []) W880 d22_9 (by decide) (by decide) (fun _ q => nomatch q) ⟨rfl, rfl, f884, f883⟩
theorem opn4 : plainName "java/util/Objects" = true := by first | (simp [plainName, overriddenIn]; done) | decide +kernel
theorem d21_0 : decode jdk_31_method_10_code 0 = .ok (.aload_n 0, 1) := by decide +kernel
theorem d21_1 : decode jdk_31_method_10_code 1 = .ok (.ifnonnull 11, 3) := by decide +kernel
theorem d21_12 : decode jdk_31_method_10_code 12 = .ok (.aload_n 0, 1) := by decide +kernel
theorem d21_13 : decode jdk_31_method_10_code 13 = .ok (.areturn, 1) := by decide +kernel
theorem oef_orm_rnn (m : MethodId) (a : Addr)  : (entryFrame m #[(.ref a)] 1).locals = #[.val (.ref a)] := by first | (simp [entryFrame, argsToLocals, Value.category]; done) | rfl
set_option maxRecDepth 65536 in
set_option maxHeartbeats 40000000 in
theorem orm_rnn (l : Launch) (Z : State) (a0 : Array Value) (hw : ∀ d ∈ tables_1, d.before a0 Z = true) (hE : EW Z a0 consts_1) (a : Addr) (h : Heap) (hO : Old Z Z.heap.size h)   :
    Ct l Z consts_1 (⟨"java/util/Objects", "requireNonNull", "(Ljava/lang/Object;)Ljava/lang/Object;"⟩ : MethodName) jdk_31_method_10_code 1 (Option.some (Jvm.ClassFile.FieldType.object "java/lang/Object")) ⟨0, 0, 0, 0⟩ #[(.ref a)] h [] (fun rv' hp' so' => rv' = some (.ref a) ∧ so' = []) := by
  refine Ct.mk "java/util/Objects" "requireNonNull" rfl rfl (a0 := a0) (plainFor_of_name opn4) hO hE (fun x q => nomatch q) ?_
  intro K T W
  rw [oef_orm_rnn]
  refine gAloadN W d21_0 rfl rfl rfl ?_
  refine gIfnonnullYes (pc' := 12) W d21_1 (by decide) rfl ?_
  refine gAloadN W d21_12 rfl rfl rfl ?_
  exact wRetA (so := []) (t := .object "java/lang/Object") W d21_13 rfl rfl rfl (by decide) (by decide) (fun _ q => nomatch q) ⟨rfl, rfl⟩
theorem d20_0 : decode jdk_32_method_3_code 0 = .ok (.new 2, 3) := by decide +kernel
theorem ow62 {a0 : Array Value} {Z : State} (hw : ∀ d ∈ tables_1, d.before a0 Z = true) : (Jvm.Cond.initialized "java/util/Optional").before a0 Z = true := hw _ (List.mem_of_getElem? (i := 62) rfl)
theorem ow112 {a0 : Array Value} {Z : State} (hw : ∀ d ∈ tables_1, d.before a0 Z = true) : (Jvm.Cond.classLink "java/util/Optional" (2 : Nat) "java/util/Optional").before a0 Z = true := hw _ (List.mem_of_getElem? (i := 112) rfl)
theorem d20_3 : decode jdk_32_method_3_code 3 = .ok (.dup, 1) := by decide +kernel
theorem d20_4 : decode jdk_32_method_3_code 4 = .ok (.aload_n 0, 1) := by decide +kernel
theorem d20_5 : decode jdk_32_method_3_code 5 = .ok (.invokestatic 17, 3) := by decide +kernel
theorem ow114 {a0 : Array Value} {Z : State} (hw : ∀ d ∈ tables_1, d.before a0 Z = true) : (Jvm.Cond.methodLink "java/util/Optional" (17 : Nat) ({ cls := "java/util/Objects", name := "requireNonNull", desc := "(Ljava/lang/Object;)Ljava/lang/Object;" } : Jvm.MethodName)).before a0 Z = true := hw _ (List.mem_of_getElem? (i := 114) rfl)
theorem ow116 {a0 : Array Value} {Z : State} (hw : ∀ d ∈ tables_1, d.before a0 Z = true) : (Jvm.Cond.initialized "java/util/Objects").before a0 Z = true := hw _ (List.mem_of_getElem? (i := 116) rfl)
theorem ow117 {a0 : Array Value} {Z : State} (hw : ∀ d ∈ tables_1, d.before a0 Z = true) : (Jvm.Cond.code ({ cls := "java/util/Objects", name := "requireNonNull", desc := "(Ljava/lang/Object;)Ljava/lang/Object;" } : Jvm.MethodName) jdk_31_method_10_code (1 : Nat) (Option.some (Jvm.ClassFile.FieldType.object "java/lang/Object"))).before a0 Z = true := hw _ (List.mem_of_getElem? (i := 117) rfl)
theorem opd2 : parseMethodDescriptor "(Ljava/lang/Object;)Ljava/lang/Object;" = some ⟨[.object "java/lang/Object"], some (.object "java/lang/Object")⟩ := by decide +kernel
theorem ow115 {a0 : Array Value} {Z : State} (hw : ∀ d ∈ tables_1, d.before a0 Z = true) : (Jvm.Cond.static ({ cls := "java/util/Objects", name := "requireNonNull", desc := "(Ljava/lang/Object;)Ljava/lang/Object;" } : Jvm.MethodName)).before a0 Z = true := hw _ (List.mem_of_getElem? (i := 115) rfl)
theorem d20_8 : decode jdk_32_method_3_code 8 = .ok (.invokespecial 23, 3) := by decide +kernel
theorem ow118 {a0 : Array Value} {Z : State} (hw : ∀ d ∈ tables_1, d.before a0 Z = true) : (Jvm.Cond.methodLink "java/util/Optional" (23 : Nat) ({ cls := "java/util/Optional", name := "<init>", desc := "(Ljava/lang/Object;)V" } : Jvm.MethodName)).before a0 Z = true := hw _ (List.mem_of_getElem? (i := 118) rfl)
theorem ow121 {a0 : Array Value} {Z : State} (hw : ∀ d ∈ tables_1, d.before a0 Z = true) : (Jvm.Cond.code ({ cls := "java/util/Optional", name := "<init>", desc := "(Ljava/lang/Object;)V" } : Jvm.MethodName) jdk_32_method_2_code (2 : Nat) (Option.none : Option Jvm.ClassFile.FieldType)).before a0 Z = true := hw _ (List.mem_of_getElem? (i := 121) rfl)
theorem opd3 : parseMethodDescriptor "(Ljava/lang/Object;)V" = some ⟨[.object "java/lang/Object"], none⟩ := by decide +kernel
theorem ow119 {a0 : Array Value} {Z : State} (hw : ∀ d ∈ tables_1, d.before a0 Z = true) : (Jvm.Cond.instanceMethod ({ cls := "java/util/Optional", name := "<init>", desc := "(Ljava/lang/Object;)V" } : Jvm.MethodName)).before a0 Z = true := hw _ (List.mem_of_getElem? (i := 119) rfl)
theorem d20_11 : decode jdk_32_method_3_code 11 = .ok (.areturn, 1) := by decide +kernel
theorem oef_orm_oo (m : MethodId) (v : Addr)  : (entryFrame m #[(.ref v)] 1).locals = #[.val (.ref v)] := by first | (simp [entryFrame, argsToLocals, Value.category]; done) | rfl
set_option maxRecDepth 65536 in
set_option maxHeartbeats 40000000 in
theorem orm_oo (l : Launch) (Z : State) (a0 : Array Value) (hw : ∀ d ∈ tables_1, d.before a0 Z = true) (hE : EW Z a0 consts_1) (v : Addr) (h : Heap) (hO : Old Z Z.heap.size h)   :
    Ct l Z consts_1 (⟨"java/util/Optional", "of", "(Ljava/lang/Object;)Ljava/util/Optional;"⟩ : MethodName) jdk_32_method_3_code 1 (Option.some (Jvm.ClassFile.FieldType.object "java/util/Optional")) ⟨2, 1, 1, 30⟩ #[(.ref v)] h [] (fun rv' hp' so' => ∃ r : Addr, rv' = some (.ref r) ∧ so' = [] ∧ (h.size ≤ r) ∧ Exa Z hp' r "java/util/Optional" ∧ Fld Z hp' r "java/util/Optional" "value" "Ljava/lang/Object;" (.ref v)) := by
  refine Ct.mk "java/util/Optional" "of" rfl rfl (a0 := a0) (plainFor_of_name opn3) hO hE (fun x q => nomatch q) ?_
  intro K T W
  rw [oef_orm_oo]
  refine wNewO W d20_0 (ow112 hw) (ow113 hw) (ow62 hw) (by decide) (by decide) rfl fun T885 h887 a888 W886 E889 g890 A891 D892  => ?_
  have f893 : Fld Z h887 a888 "java/util/Optional" "value" "Ljava/lang/Object;" .null := D892 (Or.inr (ow74 hw)) (ty := .object "java/lang/Object") (by decide)
  refine gDup W886 d20_3 rfl rfl ?_
  refine gAloadN W886 d20_4 rfl rfl rfl ?_
  refine wStatic (y := (⟨"java/util/Objects", "requireNonNull", "(Ljava/lang/Object;)Ljava/lang/Object;"⟩ : MethodName)) (Wd := 2) (argsL := [(.ref v)]) (rest := [(.ref a888), (.ref a888)]) W886 d20_5 (ow114 hw) (ow115 hw) (ow116 hw) (ow117 hw) (by decide) (Cb.ct (orm_rnn l Z a0 hw hE (v) h887 W886.old  ) (ow117 hw) (ow116 hw) hE (by decide) (by decide)) (by simp) rfl (lenOf opd2 rfl) rfl (Nat.le_of_eq rfl) (by decide) (by decide) rfl fun v898 so899 T894 h896 W895 kp897 sp900 q901 => ?_
  obtain ⟨rfl, rfl⟩ := q901
  show Go K _ T894 8 #[.val (.ref v)] [(.ref v), (.ref a888), (.ref a888)]
  have f902 := A891.keep kp897
  have f903 := f893.keep kp897 nin0
  refine wSpecial (y := (⟨"java/util/Optional", "<init>", "(Ljava/lang/Object;)V"⟩ : MethodName)) (Wd := 1) (a := a888) (argsL := [(.ref v)]) (rest := [(.ref a888)]) W895 d20_8 rfl (ow118 hw) (ow119 hw) (ow121 hw) (by decide) (Cb.ct (orm_oi l Z a0 hw hE (a888) (v) h896 W895.old f902 f903 (Nat.le_trans W.old.2.1 (Nat.le_of_eq g890.symm))) (ow121 hw) (ow62 hw) hE (by decide) (by decide)) (by simp) rfl (lenOf opd3 rfl) rfl (Nat.le_of_eq rfl) (by decide) (by decide) rfl fun v908 so909 T904 h906 W905 kp907 sp910 q911 => ?_
  obtain ⟨rfl, rfl, f912, f913⟩ := q911
  show Go K _ T904 11 #[.val (.ref v)] [(.ref a888)]
  exact wRetA (so := []) (t := .object "java/util/Optional") W905 d20_11 rfl rfl rfl (by decide) (by decide) (fun _ q => nomatch q) ⟨a888, rfl, rfl, (Nat.le_of_eq g890.symm), f912, f913⟩
theorem d9_0 : decode jdk_32_method_1_code 0 = .ok (.getstatic 1, 3) := by decide +kernel
theorem ow64 {a0 : Array Value} {Z : State} (hw : ∀ d ∈ tables_1, d.before a0 Z = true) : (Jvm.Cond.fieldLink "java/util/Optional" (1 : Nat) "java/util/Optional" "EMPTY" "Ljava/util/Optional;").before a0 Z = true := hw _ (List.mem_of_getElem? (i := 64) rfl)
theorem d9_3 : decode jdk_32_method_1_code 3 = .ok (.astore_n 0, 1) := by decide +kernel
theorem d9_4 : decode jdk_32_method_1_code 4 = .ok (.aload_n 0, 1) := by decide +kernel
theorem d9_5 : decode jdk_32_method_1_code 5 = .ok (.areturn, 1) := by decide +kernel
theorem oef_orm_oe (m : MethodId)   : (entryFrame m #[] 1).locals = #[.unset] := by first | (simp [entryFrame, argsToLocals, Value.category]; done) | rfl
set_option maxRecDepth 65536 in
set_option maxHeartbeats 40000000 in
theorem orm_oe (l : Launch) (Z : State) (a0 : Array Value) (hw : ∀ d ∈ tables_1, d.before a0 Z = true) (hE : EW Z a0 consts_1) (va : Addr) (kv : ClassId) (nr : Addr) (hi : Addr) (wn : Addr) (wh : Addr) (em : Addr) (h : Heap) (hO : Old Z Z.heap.size h) (hP : (Wld Z va kv nr hi wn wh em))  :
    Ct l Z consts_1 (⟨"java/util/Optional", "empty", "()Ljava/util/Optional;"⟩ : MethodName) jdk_32_method_1_code 1 (Option.some (Jvm.ClassFile.FieldType.object "java/util/Optional")) ⟨0, 0, 0, 0⟩ #[] h [] (fun rv' hp' so' => rv' = some (.ref em) ∧ so' = []) := by
  refine Ct.mk "java/util/Optional" "empty" rfl rfl (a0 := a0) (plainFor_of_name opn3) hO hE (fun x q => nomatch q) ?_
  intro K T W
  rw [oef_orm_oe]
  refine wGetS W d9_0 (ow64 hw) Via.refl hP.2.2.2.2.2.2.2.1 rfl fun T914 W915 => ?_
  refine gAstoreN (ls' := #[.val (.ref em)]) W915 d9_3 rfl rfl rfl ?_
  refine gAloadN W915 d9_4 rfl rfl rfl ?_
  exact wRetA (so := []) (t := .object "java/util/Optional") W915 d9_5 rfl rfl rfl (by decide) (by decide) (fun _ q => nomatch q) ⟨rfl, rfl⟩
theorem d10_0 : decode jdk_32_method_6_code 0 = .ok (.aload_n 0, 1) := by decide +kernel
theorem d10_1 : decode jdk_32_method_6_code 1 = .ok (.getfield 13, 3) := by decide +kernel
theorem d10_4 : decode jdk_32_method_6_code 4 = .ok (.ifnull 7, 3) := by decide +kernel
theorem d10_7 : decode jdk_32_method_6_code 7 = .ok (.iconst 1, 1) := by decide +kernel
theorem d10_8 : decode jdk_32_method_6_code 8 = .ok (.goto 4, 3) := by decide +kernel
theorem d10_12 : decode jdk_32_method_6_code 12 = .ok (.ireturn, 1) := by decide +kernel
theorem oef_orm_ip1 (m : MethodId) (a : Addr)  : (entryFrame m #[(.ref a)] 1).locals = #[.val (.ref a)] := by first | (simp [entryFrame, argsToLocals, Value.category]; done) | rfl
set_option maxRecDepth 65536 in
set_option maxHeartbeats 40000000 in
theorem orm_ip1 (l : Launch) (Z : State) (a0 : Array Value) (hw : ∀ d ∈ tables_1, d.before a0 Z = true) (hE : EW Z a0 consts_1) (a : Addr) (v : Addr) (h : Heap) (hO : Old Z Z.heap.size h) (q0 : Fld Z h a "java/util/Optional" "value" "Ljava/lang/Object;" (.ref v))  :
    Ct l Z consts_1 (⟨"java/util/Optional", "isPresent", "()Z"⟩ : MethodName) jdk_32_method_6_code 1 (Option.some Jvm.ClassFile.FieldType.boolean) ⟨0, 0, 0, 0⟩ #[(.ref a)] h [] (fun rv' hp' so' => rv' = some (.int (1 : Int32)) ∧ so' = []) := by
  refine Ct.mk "java/util/Optional" "isPresent" rfl rfl (a0 := a0) (plainFor_of_name opn3) hO hE (fun x q => nomatch q) ?_
  intro K T W
  rw [oef_orm_ip1]
  refine gAloadN W d10_0 rfl rfl rfl ?_
  refine wGetF W d10_1 (ow73 hw) Via.refl q0 rfl fun T916 W917 => ?_
  refine gIfnullNo W917 d10_4 rfl ?_
  refine gIconst (z := (1 : Int32)) W917 d10_7 rfl rfl ?_
  refine gGoto (pc' := 12) W917 d10_8 (by decide) rfl ?_
  exact wRetI (so := []) (t := .boolean) W917 d10_12 (by simp) rfl (by decide) (by decide) (fun _ q => nomatch q) ⟨rfl, rfl⟩
theorem d10_11 : decode jdk_32_method_6_code 11 = .ok (.iconst 0, 1) := by decide +kernel
theorem oef_orm_ip0 (m : MethodId) (a : Addr)  : (entryFrame m #[(.ref a)] 1).locals = #[.val (.ref a)] := by first | (simp [entryFrame, argsToLocals, Value.category]; done) | rfl
set_option maxRecDepth 65536 in
set_option maxHeartbeats 40000000 in
theorem orm_ip0 (l : Launch) (Z : State) (a0 : Array Value) (hw : ∀ d ∈ tables_1, d.before a0 Z = true) (hE : EW Z a0 consts_1) (a : Addr) (h : Heap) (hO : Old Z Z.heap.size h) (q0 : Fld Z h a "java/util/Optional" "value" "Ljava/lang/Object;" .null)  :
    Ct l Z consts_1 (⟨"java/util/Optional", "isPresent", "()Z"⟩ : MethodName) jdk_32_method_6_code 1 (Option.some Jvm.ClassFile.FieldType.boolean) ⟨0, 0, 0, 0⟩ #[(.ref a)] h [] (fun rv' hp' so' => rv' = some (.int (0 : Int32)) ∧ so' = []) := by
  refine Ct.mk "java/util/Optional" "isPresent" rfl rfl (a0 := a0) (plainFor_of_name opn3) hO hE (fun x q => nomatch q) ?_
  intro K T W
  rw [oef_orm_ip0]
  refine gAloadN W d10_0 rfl rfl rfl ?_
  refine wGetF W d10_1 (ow73 hw) Via.refl q0 rfl fun T918 W919 => ?_
  refine gIfnullYes (pc' := 11) W919 d10_4 (by decide) rfl ?_
  refine gIconst (z := (0 : Int32)) W919 d10_11 rfl rfl ?_
  exact wRetI (so := []) (t := .boolean) W919 d10_12 (by simp) rfl (by decide) (by decide) (fun _ q => nomatch q) ⟨rfl, rfl⟩
theorem d23_0 : decode jdk_32_method_5_code 0 = .ok (.aload_n 0, 1) := by decide +kernel
theorem d23_1 : decode jdk_32_method_5_code 1 = .ok (.getfield 13, 3) := by decide +kernel
theorem d23_4 : decode jdk_32_method_5_code 4 = .ok (.ifnonnull 13, 3) := by decide +kernel
theorem d23_17 : decode jdk_32_method_5_code 17 = .ok (.aload_n 0, 1) := by decide +kernel
theorem d23_18 : decode jdk_32_method_5_code 18 = .ok (.getfield 13, 3) := by decide +kernel
theorem d23_21 : decode jdk_32_method_5_code 21 = .ok (.areturn, 1) := by decide +kernel
theorem oef_orm_og (m : MethodId) (a : Addr)  : (entryFrame m #[(.ref a)] 1).locals = #[.val (.ref a)] := by first | (simp [entryFrame, argsToLocals, Value.category]; done) | rfl
set_option maxRecDepth 65536 in
set_option maxHeartbeats 40000000 in
theorem orm_og (l : Launch) (Z : State) (a0 : Array Value) (hw : ∀ d ∈ tables_1, d.before a0 Z = true) (hE : EW Z a0 consts_1) (a : Addr) (v : Addr) (h : Heap) (hO : Old Z Z.heap.size h) (q0 : Fld Z h a "java/util/Optional" "value" "Ljava/lang/Object;" (.ref v))  :
    Ct l Z consts_1 (⟨"java/util/Optional", "get", "()Ljava/lang/Object;"⟩ : MethodName) jdk_32_method_5_code 1 (Option.some (Jvm.ClassFile.FieldType.object "java/lang/Object")) ⟨0, 0, 0, 0⟩ #[(.ref a)] h [] (fun rv' hp' so' => rv' = some (.ref v) ∧ so' = []) := by
  refine Ct.mk "java/util/Optional" "get" rfl rfl (a0 := a0) (plainFor_of_name opn3) hO hE (fun x q => nomatch q) ?_
  intro K T W
  rw [oef_orm_og]
  refine gAloadN W d23_0 rfl rfl rfl ?_
  refine wGetF W d23_1 (ow73 hw) Via.refl q0 rfl fun T920 W921 => ?_
  refine gIfnonnullYes (pc' := 17) W921 d23_4 (by decide) rfl ?_
  refine gAloadN W921 d23_17 rfl rfl rfl ?_
  refine wGetF W921 d23_18 (ow73 hw) Via.refl q0 rfl fun T922 W923 => ?_
  exact wRetA (so := []) (t := .object "java/lang/Object") W923 d23_21 rfl rfl rfl (by decide) (by decide) (fun _ q => nomatch q) ⟨rfl, rfl⟩
theorem d5_0 : decode prog_10_method_5_code 0 = .ok (.invokestatic 33, 3) := by decide +kernel
theorem ow30 {a0 : Array Value} {Z : State} (hw : ∀ d ∈ tables_1, d.before a0 Z = true) : (Jvm.Cond.methodLink "com/example/tidewire/tidewire/message/Priority" (33 : Nat) ({ cls := "com/example/tidewire/tidewire/message/Priority", name := "values", desc := "()[Lcom/example/tidewire/tidewire/message/Priority;" } : Jvm.MethodName)).before a0 Z = true := hw _ (List.mem_of_getElem? (i := 30) rfl)
theorem ow28 {a0 : Array Value} {Z : State} (hw : ∀ d ∈ tables_1, d.before a0 Z = true) : (Jvm.Cond.initialized "com/example/tidewire/tidewire/message/Priority").before a0 Z = true := hw _ (List.mem_of_getElem? (i := 28) rfl)
theorem ow32 {a0 : Array Value} {Z : State} (hw : ∀ d ∈ tables_1, d.before a0 Z = true) : (Jvm.Cond.code ({ cls := "com/example/tidewire/tidewire/message/Priority", name := "values", desc := "()[Lcom/example/tidewire/tidewire/message/Priority;" } : Jvm.MethodName) prog_10_method_1_code (0 : Nat) (Option.some (Jvm.ClassFile.FieldType.array (Jvm.ClassFile.FieldType.object "com/example/tidewire/tidewire/message/Priority")))).before a0 Z = true := hw _ (List.mem_of_getElem? (i := 32) rfl)
theorem opd4 : parseMethodDescriptor "()[Lcom/example/tidewire/tidewire/message/Priority;" = some ⟨[], some (.array (.object "com/example/tidewire/tidewire/message/Priority"))⟩ := by decide +kernel
theorem ow31 {a0 : Array Value} {Z : State} (hw : ∀ d ∈ tables_1, d.before a0 Z = true) : (Jvm.Cond.static ({ cls := "com/example/tidewire/tidewire/message/Priority", name := "values", desc := "()[Lcom/example/tidewire/tidewire/message/Priority;" } : Jvm.MethodName)).before a0 Z = true := hw _ (List.mem_of_getElem? (i := 31) rfl)
theorem d5_3 : decode prog_10_method_5_code 3 = .ok (.astore_n 1, 1) := by decide +kernel
theorem d5_4 : decode prog_10_method_5_code 4 = .ok (.aload_n 1, 1) := by decide +kernel
theorem d5_5 : decode prog_10_method_5_code 5 = .ok (.arraylength, 1) := by decide +kernel
theorem d5_6 : decode prog_10_method_5_code 6 = .ok (.istore_n 2, 1) := by decide +kernel
theorem d5_7 : decode prog_10_method_5_code 7 = .ok (.iconst 0, 1) := by decide +kernel
theorem d5_8 : decode prog_10_method_5_code 8 = .ok (.istore_n 3, 1) := by decide +kernel
theorem d5_9 : decode prog_10_method_5_code 9 = .ok (.iload_n 3, 1) := by decide +kernel
theorem d5_10 : decode prog_10_method_5_code 10 = .ok (.iload_n 2, 1) := by decide +kernel
theorem d5_11 : decode prog_10_method_5_code 11 = .ok (.if_icmp .ge 32, 3) := by decide +kernel
theorem d5_14 : decode prog_10_method_5_code 14 = .ok (.aload_n 1, 1) := by decide +kernel
theorem d5_15 : decode prog_10_method_5_code 15 = .ok (.iload_n 3, 1) := by decide +kernel
theorem d5_16 : decode prog_10_method_5_code 16 = .ok (.aaload, 1) := by decide +kernel
theorem d5_17 : decode prog_10_method_5_code 17 = .ok (.astore 4, 2) := by decide +kernel
theorem d5_19 : decode prog_10_method_5_code 19 = .ok (.aload 4, 2) := by decide +kernel
theorem d5_21 : decode prog_10_method_5_code 21 = .ok (.getfield 29, 3) := by decide +kernel
theorem ow47 {a0 : Array Value} {Z : State} (hw : ∀ d ∈ tables_1, d.before a0 Z = true) : (Jvm.Cond.fieldLink "com/example/tidewire/tidewire/message/Priority" (29 : Nat) "com/example/tidewire/tidewire/message/Priority" "wireName" "Ljava/lang/String;").before a0 Z = true := hw _ (List.mem_of_getElem? (i := 47) rfl)
theorem d5_24 : decode prog_10_method_5_code 24 = .ok (.aload_n 0, 1) := by decide +kernel
theorem d5_25 : decode prog_10_method_5_code 25 = .ok (.invokevirtual 37, 3) := by decide +kernel
theorem opd5 : parseMethodDescriptor "(Ljava/lang/Object;)Z" = some ⟨[.object "java/lang/Object"], some (.boolean)⟩ := by decide +kernel
theorem ow49 {a0 : Array Value} {Z : State} (hw : ∀ d ∈ tables_1, d.before a0 Z = true) : (Jvm.Cond.methodLink "com/example/tidewire/tidewire/message/Priority" (37 : Nat) ({ cls := "java/lang/String", name := "equals", desc := "(Ljava/lang/Object;)Z" } : Jvm.MethodName)).before a0 Z = true := hw _ (List.mem_of_getElem? (i := 49) rfl)
theorem ow50 {a0 : Array Value} {Z : State} (hw : ∀ d ∈ tables_1, d.before a0 Z = true) : (Jvm.Cond.declares ({ cls := "java/lang/String", name := "equals", desc := "(Ljava/lang/Object;)Z" } : Jvm.MethodName)).before a0 Z = true := hw _ (List.mem_of_getElem? (i := 50) rfl)
theorem ow52 {a0 : Array Value} {Z : State} (hw : ∀ d ∈ tables_1, d.before a0 Z = true) : (Jvm.Cond.selects "java/lang/String" ({ cls := "java/lang/String", name := "equals", desc := "(Ljava/lang/Object;)Z" } : Jvm.MethodName) ({ cls := "java/lang/String", name := "equals", desc := "(Ljava/lang/Object;)Z" } : Jvm.MethodName)).before a0 Z = true := hw _ (List.mem_of_getElem? (i := 52) rfl)
theorem ow51 {a0 : Array Value} {Z : State} (hw : ∀ d ∈ tables_1, d.before a0 Z = true) : (Jvm.Cond.instanceMethod ({ cls := "java/lang/String", name := "equals", desc := "(Ljava/lang/Object;)Z" } : Jvm.MethodName)).before a0 Z = true := hw _ (List.mem_of_getElem? (i := 51) rfl)
theorem d5_28 : decode prog_10_method_5_code 28 = .ok (.ifCond .eq 9, 3) := by decide +kernel
theorem d5_31 : decode prog_10_method_5_code 31 = .ok (.aload 4, 2) := by decide +kernel
theorem d5_33 : decode prog_10_method_5_code 33 = .ok (.invokestatic 43, 3) := by decide +kernel
theorem ow109 {a0 : Array Value} {Z : State} (hw : ∀ d ∈ tables_1, d.before a0 Z = true) : (Jvm.Cond.methodLink "com/example/tidewire/tidewire/message/Priority" (43 : Nat) ({ cls := "java/util/Optional", name := "of", desc := "(Ljava/lang/Object;)Ljava/util/Optional;" } : Jvm.MethodName)).before a0 Z = true := hw _ (List.mem_of_getElem? (i := 109) rfl)
theorem ow111 {a0 : Array Value} {Z : State} (hw : ∀ d ∈ tables_1, d.before a0 Z = true) : (Jvm.Cond.code ({ cls := "java/util/Optional", name := "of", desc := "(Ljava/lang/Object;)Ljava/util/Optional;" } : Jvm.MethodName) jdk_32_method_3_code (1 : Nat) (Option.some (Jvm.ClassFile.FieldType.object "java/util/Optional"))).before a0 Z = true := hw _ (List.mem_of_getElem? (i := 111) rfl)
theorem opd6 : parseMethodDescriptor "(Ljava/lang/Object;)Ljava/util/Optional;" = some ⟨[.object "java/lang/Object"], some (.object "java/util/Optional")⟩ := by decide +kernel
theorem ow110 {a0 : Array Value} {Z : State} (hw : ∀ d ∈ tables_1, d.before a0 Z = true) : (Jvm.Cond.static ({ cls := "java/util/Optional", name := "of", desc := "(Ljava/lang/Object;)Ljava/util/Optional;" } : Jvm.MethodName)).before a0 Z = true := hw _ (List.mem_of_getElem? (i := 110) rfl)
theorem d5_36 : decode prog_10_method_5_code 36 = .ok (.areturn, 1) := by decide +kernel
theorem oef_orm_ofn (m : MethodId) (s : Addr)  : (entryFrame m #[(.ref s)] 5).locals = #[.val (.ref s), .unset, .unset, .unset, .unset] := by first | (simp [entryFrame, argsToLocals, Value.category]; done) | rfl
set_option maxRecDepth 65536 in
set_option maxHeartbeats 40000000 in
theorem orm_ofn (l : Launch) (Z : State) (a0 : Array Value) (hw : ∀ d ∈ tables_1, d.before a0 Z = true) (hE : EW Z a0 consts_1) (va : Addr) (kv : ClassId) (nr : Addr) (hi : Addr) (wn : Addr) (wh : Addr) (em : Addr) (s : Addr) (z : Int32) (h : Heap) (hO : Old Z Z.heap.size h) (hP : (Wld Z va kv nr hi wn wh em)) (SC : (Sta Z Z.heap "java/lang/String" "COMPACT_STRINGS" "Z" (.int z))) (hz : (¬ z = 0)) (q3 : Str Z h s [110, 111, 114, 109, 97, 108])  :
    Ct l Z consts_1 (⟨"com/example/tidewire/tidewire/message/Priority", "ofWireName", "(Ljava/lang/String;)Ljava/util/Optional;"⟩ : MethodName) prog_10_method_5_code 5 (Option.some (Jvm.ClassFile.FieldType.object "java/util/Optional")) ⟨3, 2, 3, 45⟩ #[(.ref s)] h [] (fun rv' hp' so' => ∃ r : Addr, rv' = some (.ref r) ∧ so' = [] ∧ Exa Z hp' r "java/util/Optional" ∧ Fld Z hp' r "java/util/Optional" "value" "Ljava/lang/Object;" (.ref nr)) := by
  refine Ct.mk "com/example/tidewire/tidewire/message/Priority" "ofWireName" rfl rfl (a0 := a0) (plainFor_of_name opn2) hO hE (fun x q => nomatch q) ?_
  intro K T W
  rw [oef_orm_ofn]
  refine wStatic (y := (⟨"com/example/tidewire/tidewire/message/Priority", "values", "()[Lcom/example/tidewire/tidewire/message/Priority;"⟩ : MethodName)) (Wd := 0) (argsL := []) (rest := []) W d5_0 (ow30 hw) (ow31 hw) (ow28 hw) (ow32 hw) (by decide) (Cb.ct (orm_vals l Z a0 hw hE (va) (kv) (nr) (hi) (wn) (wh) (em) h W.old hP ) (ow32 hw) (ow28 hw) hE (by decide) (by decide)) (by simp) rfl (lenOf opd4 rfl) rfl (Nat.le_of_eq rfl) (by decide) (by decide) rfl fun v928 so929 T924 h926 W925 kp927 sp930 q931 => ?_
  obtain ⟨r932, rfl, rfl, f933, f934⟩ := q931
  show Go K _ T924 3 #[.val (.ref s), .unset, .unset, .unset, .unset] [(.ref r932)]
  refine gAstoreN (ls' := #[.val (.ref s), .val (.ref r932), .unset, .unset, .unset]) W925 d5_3 rfl rfl rfl ?_
  refine gAloadN W925 d5_4 rfl rfl rfl ?_
  refine wLen W925 d5_5 f934 rfl ?_
  refine gIstoreN (ls' := #[.val (.ref s), .val (.ref r932), .val (.int (2 : Int32)), .unset, .unset]) W925 d5_6 rfl rfl ?_
  refine gIconst (z := (0 : Int32)) W925 d5_7 rfl rfl ?_
  refine gIstoreN (ls' := #[.val (.ref s), .val (.ref r932), .val (.int (2 : Int32)), .val (.int (0 : Int32)), .unset]) W925 d5_8 rfl rfl ?_
  refine gIloadN W925 d5_9 rfl rfl ?_
  refine gIloadN W925 d5_10 rfl rfl ?_
  refine gIcmpNo W925 d5_11 (tlt (by decide)).2.1 rfl ?_
  refine gAloadN W925 d5_14 rfl rfl rfl ?_
  refine gIloadN W925 d5_15 rfl rfl ?_
  refine wLdA (v := (.ref nr)) W925 d5_16 rfl f934 (by decide) rfl rfl ?_
  refine gAstore (ls' := #[.val (.ref s), .val (.ref r932), .val (.int (2 : Int32)), .val (.int (0 : Int32)), .val (.ref nr)]) W925 d5_17 rfl rfl rfl ?_
  refine gAload W925 d5_19 rfl rfl rfl ?_
  have f935 := (hP.2.2.2.1).ext W925.old.2
  refine wGetF W925 d5_21 (ow47 hw) Via.refl f935 rfl fun T936 W937 => ?_
  refine gAloadN W937 d5_24 rfl rfl rfl ?_
  have f938 := (hP.2.2.2.2.1).ext W937.old.2
  have f939 := q3.keep kp927 nin0 (a0 := a0) alln
  refine wVirtual (y := (⟨"java/lang/String", "equals", "(Ljava/lang/Object;)Z"⟩ : MethodName)) (z := (⟨"java/lang/String", "equals", "(Ljava/lang/Object;)Z"⟩ : MethodName)) (Wd := 0) (a := wn) (argsL := [(.ref s)]) (rest := []) W937 d5_25 (ow49 hw) (ow50 hw) (ow52 hw) (ow51 hw) (nfS (ow52 hw)) (by decide) (eqPay hw hE wn s [110, 111, 114, 109, 97, 108] [110, 111, 114, 109, 97, 108] 0 f938 f939 (SC.ext W937.old.2) hz (by decide) (by decide)) f938.exa (by simp) rfl (lenOf opd5 rfl) rfl (Nat.le_of_eq rfl) (by decide) (by decide) rfl fun v944 so945 T940 h942 W941 kp943 sp946 q947 => ?_
  obtain ⟨b948, rfl, rfl, f949⟩ := q947
  show Go K _ T940 28 #[.val (.ref s), .val (.ref r932), .val (.int (2 : Int32)), .val (.int (0 : Int32)), .val (.ref nr)] [(.int b948)]
  rcases f949 with ⟨rfl, ee0⟩ | ⟨rfl, ee0⟩
  · refine gIfNo W941 d5_28 ((if0 _ _).trans (feq (by decide)).1) rfl ?_
    refine gAload W941 d5_31 rfl rfl rfl ?_
    refine wStatic (y := (⟨"java/util/Optional", "of", "(Ljava/lang/Object;)Ljava/util/Optional;"⟩ : MethodName)) (Wd := 0) (argsL := [(.ref nr)]) (rest := []) W941 d5_33 (ow109 hw) (ow110 hw) (ow62 hw) (ow111 hw) (by decide) (Cb.ct (orm_oo l Z a0 hw hE (nr) h942 W941.old  ) (ow111 hw) (ow62 hw) hE (by decide) (by decide)) (by simp) rfl (lenOf opd6 rfl) rfl (Nat.le_of_eq rfl) (by decide) (by decide) rfl fun v954 so955 T950 h952 W951 kp953 sp956 q957 => ?_
    obtain ⟨r958, rfl, rfl, f959, f960, f961⟩ := q957
    show Go K _ T950 36 #[.val (.ref s), .val (.ref r932), .val (.int (2 : Int32)), .val (.int (0 : Int32)), .val (.ref nr)] [(.ref r958)]
    exact wRetA (so := []) (t := .object "java/util/Optional") W951 d5_36 rfl rfl rfl (by decide) (by decide) (fun _ q => nomatch q) ⟨r958, rfl, rfl, f960, f961⟩
  · exact absurd rfl ee0
theorem d5_37 : decode prog_10_method_5_code 37 = .ok (.iinc 3 1, 3) := by decide +kernel
theorem d5_40 : decode prog_10_method_5_code 40 = .ok (.goto (-31), 3) := by decide +kernel
theorem oef_orm_ofh (m : MethodId) (s : Addr)  : (entryFrame m #[(.ref s)] 5).locals = #[.val (.ref s), .unset, .unset, .unset, .unset] := by first | (simp [entryFrame, argsToLocals, Value.category]; done) | rfl
set_option maxRecDepth 65536 in
set_option maxHeartbeats 40000000 in
theorem orm_ofh (l : Launch) (Z : State) (a0 : Array Value) (hw : ∀ d ∈ tables_1, d.before a0 Z = true) (hE : EW Z a0 consts_1) (va : Addr) (kv : ClassId) (nr : Addr) (hi : Addr) (wn : Addr) (wh : Addr) (em : Addr) (s : Addr) (z : Int32) (h : Heap) (hO : Old Z Z.heap.size h) (hP : (Wld Z va kv nr hi wn wh em)) (SC : (Sta Z Z.heap "java/lang/String" "COMPACT_STRINGS" "Z" (.int z))) (hz : (¬ z = 0)) (q3 : Str Z h s [104, 105, 103, 104])  :
    Ct l Z consts_1 (⟨"com/example/tidewire/tidewire/message/Priority", "ofWireName", "(Ljava/lang/String;)Ljava/util/Optional;"⟩ : MethodName) prog_10_method_5_code 5 (Option.some (Jvm.ClassFile.FieldType.object "java/util/Optional")) ⟨3, 2, 3, 45⟩ #[(.ref s)] h [] (fun rv' hp' so' => ∃ r : Addr, rv' = some (.ref r) ∧ so' = [] ∧ Exa Z hp' r "java/util/Optional" ∧ Fld Z hp' r "java/util/Optional" "value" "Ljava/lang/Object;" (.ref hi)) := by
  refine Ct.mk "com/example/tidewire/tidewire/message/Priority" "ofWireName" rfl rfl (a0 := a0) (plainFor_of_name opn2) hO hE (fun x q => nomatch q) ?_
  intro K T W
  rw [oef_orm_ofh]
  refine wStatic (y := (⟨"com/example/tidewire/tidewire/message/Priority", "values", "()[Lcom/example/tidewire/tidewire/message/Priority;"⟩ : MethodName)) (Wd := 0) (argsL := []) (rest := []) W d5_0 (ow30 hw) (ow31 hw) (ow28 hw) (ow32 hw) (by decide) (Cb.ct (orm_vals l Z a0 hw hE (va) (kv) (nr) (hi) (wn) (wh) (em) h W.old hP ) (ow32 hw) (ow28 hw) hE (by decide) (by decide)) (by simp) rfl (lenOf opd4 rfl) rfl (Nat.le_of_eq rfl) (by decide) (by decide) rfl fun v966 so967 T962 h964 W963 kp965 sp968 q969 => ?_
  obtain ⟨r970, rfl, rfl, f971, f972⟩ := q969
  show Go K _ T962 3 #[.val (.ref s), .unset, .unset, .unset, .unset] [(.ref r970)]
  refine gAstoreN (ls' := #[.val (.ref s), .val (.ref r970), .unset, .unset, .unset]) W963 d5_3 rfl rfl rfl ?_
  refine gAloadN W963 d5_4 rfl rfl rfl ?_
  refine wLen W963 d5_5 f972 rfl ?_
  refine gIstoreN (ls' := #[.val (.ref s), .val (.ref r970), .val (.int (2 : Int32)), .unset, .unset]) W963 d5_6 rfl rfl ?_
  refine gIconst (z := (0 : Int32)) W963 d5_7 rfl rfl ?_
  refine gIstoreN (ls' := #[.val (.ref s), .val (.ref r970), .val (.int (2 : Int32)), .val (.int (0 : Int32)), .unset]) W963 d5_8 rfl rfl ?_
  refine gIloadN W963 d5_9 rfl rfl ?_
  refine gIloadN W963 d5_10 rfl rfl ?_
  refine gIcmpNo W963 d5_11 (tlt (by decide)).2.1 rfl ?_
  refine gAloadN W963 d5_14 rfl rfl rfl ?_
  refine gIloadN W963 d5_15 rfl rfl ?_
  refine wLdA (v := (.ref nr)) W963 d5_16 rfl f972 (by decide) rfl rfl ?_
  refine gAstore (ls' := #[.val (.ref s), .val (.ref r970), .val (.int (2 : Int32)), .val (.int (0 : Int32)), .val (.ref nr)]) W963 d5_17 rfl rfl rfl ?_
  refine gAload W963 d5_19 rfl rfl rfl ?_
  have f973 := (hP.2.2.2.1).ext W963.old.2
  refine wGetF W963 d5_21 (ow47 hw) Via.refl f973 rfl fun T974 W975 => ?_
  refine gAloadN W975 d5_24 rfl rfl rfl ?_
  have f976 := (hP.2.2.2.2.1).ext W975.old.2
  have f977 := q3.keep kp965 nin0 (a0 := a0) alln
  refine wVirtual (y := (⟨"java/lang/String", "equals", "(Ljava/lang/Object;)Z"⟩ : MethodName)) (z := (⟨"java/lang/String", "equals", "(Ljava/lang/Object;)Z"⟩ : MethodName)) (Wd := 0) (a := wn) (argsL := [(.ref s)]) (rest := []) W975 d5_25 (ow49 hw) (ow50 hw) (ow52 hw) (ow51 hw) (nfS (ow52 hw)) (by decide) (eqPay hw hE wn s [110, 111, 114, 109, 97, 108] [104, 105, 103, 104] 0 f976 f977 (SC.ext W975.old.2) hz (by decide) (by decide)) f976.exa (by simp) rfl (lenOf opd5 rfl) rfl (Nat.le_of_eq rfl) (by decide) (by decide) rfl fun v982 so983 T978 h980 W979 kp981 sp984 q985 => ?_
  obtain ⟨b986, rfl, rfl, f987⟩ := q985
  show Go K _ T978 28 #[.val (.ref s), .val (.ref r970), .val (.int (2 : Int32)), .val (.int (0 : Int32)), .val (.ref nr)] [(.int b986)]
  rcases f987 with ⟨rfl, ee0⟩ | ⟨rfl, ee0⟩
  · exact absurd ee0 (by decide)
  refine gIfYes (pc' := 37) W979 d5_28 ((if0 _ _).trans (teq rfl).1) (by decide) rfl ?_
  refine gIinc (z := (1 : Int32)) (ls' := #[.val (.ref s), .val (.ref r970), .val (.int (2 : Int32)), .val (.int (1 : Int32)), .val (.ref nr)]) W979 d5_37 rfl (by decide) rfl rfl ?_
  refine gGoto (pc' := 9) W979 d5_40 (by decide) rfl ?_
  refine gIloadN W979 d5_9 rfl rfl ?_
  refine gIloadN W979 d5_10 rfl rfl ?_
  refine gIcmpNo W979 d5_11 (tlt (by decide)).2.1 rfl ?_
  refine gAloadN W979 d5_14 rfl rfl rfl ?_
  refine gIloadN W979 d5_15 rfl rfl ?_
  have f988 := f972.keep kp981 nin0
  refine wLdA (v := (.ref hi)) W979 d5_16 rfl f988 (by decide) rfl rfl ?_
  refine gAstore (ls' := #[.val (.ref s), .val (.ref r970), .val (.int (2 : Int32)), .val (.int (1 : Int32)), .val (.ref hi)]) W979 d5_17 rfl rfl rfl ?_
  refine gAload W979 d5_19 rfl rfl rfl ?_
  have f989 := (hP.2.2.2.2.2.1).ext W979.old.2
  refine wGetF W979 d5_21 (ow47 hw) Via.refl f989 rfl fun T990 W991 => ?_
  refine gAloadN W991 d5_24 rfl rfl rfl ?_
  have f992 := (hP.2.2.2.2.2.2.1).ext W991.old.2
  have f993 := f977.keep kp981 nin0 (a0 := a0) alln
  refine wVirtual (y := (⟨"java/lang/String", "equals", "(Ljava/lang/Object;)Z"⟩ : MethodName)) (z := (⟨"java/lang/String", "equals", "(Ljava/lang/Object;)Z"⟩ : MethodName)) (Wd := 0) (a := wh) (argsL := [(.ref s)]) (rest := []) W991 d5_25 (ow49 hw) (ow50 hw) (ow52 hw) (ow51 hw) (nfS (ow52 hw)) (by decide) (eqPay hw hE wh s [104, 105, 103, 104] [104, 105, 103, 104] 0 f992 f993 (SC.ext W991.old.2) hz (by decide) (by decide)) f992.exa (by simp) rfl (lenOf opd5 rfl) rfl (Nat.le_of_eq rfl) (by decide) (by decide) rfl fun v998 so999 T994 h996 W995 kp997 sp1000 q1001 => ?_
  obtain ⟨b1002, rfl, rfl, f1003⟩ := q1001
  show Go K _ T994 28 #[.val (.ref s), .val (.ref r970), .val (.int (2 : Int32)), .val (.int (1 : Int32)), .val (.ref hi)] [(.int b1002)]
  rcases f1003 with ⟨rfl, ee1⟩ | ⟨rfl, ee1⟩
  · refine gIfNo W995 d5_28 ((if0 _ _).trans (feq (by decide)).1) rfl ?_
    refine gAload W995 d5_31 rfl rfl rfl ?_
    refine wStatic (y := (⟨"java/util/Optional", "of", "(Ljava/lang/Object;)Ljava/util/Optional;"⟩ : MethodName)) (Wd := 0) (argsL := [(.ref hi)]) (rest := []) W995 d5_33 (ow109 hw) (ow110 hw) (ow62 hw) (ow111 hw) (by decide) (Cb.ct (orm_oo l Z a0 hw hE (hi) h996 W995.old  ) (ow111 hw) (ow62 hw) hE (by decide) (by decide)) (by simp) rfl (lenOf opd6 rfl) rfl (Nat.le_of_eq rfl) (by decide) (by decide) rfl fun v1008 so1009 T1004 h1006 W1005 kp1007 sp1010 q1011 => ?_
    obtain ⟨r1012, rfl, rfl, f1013, f1014, f1015⟩ := q1011
    show Go K _ T1004 36 #[.val (.ref s), .val (.ref r970), .val (.int (2 : Int32)), .val (.int (1 : Int32)), .val (.ref hi)] [(.ref r1012)]
    exact wRetA (so := []) (t := .object "java/util/Optional") W1005 d5_36 rfl rfl rfl (by decide) (by decide) (fun _ q => nomatch q) ⟨r1012, rfl, rfl, f1014, f1015⟩
  · exact absurd rfl ee1
theorem d5_43 : decode prog_10_method_5_code 43 = .ok (.invokestatic 49, 3) := by decide +kernel
theorem ow60 {a0 : Array Value} {Z : State} (hw : ∀ d ∈ tables_1, d.before a0 Z = true) : (Jvm.Cond.methodLink "com/example/tidewire/tidewire/message/Priority" (49 : Nat) ({ cls := "java/util/Optional", name := "empty", desc := "()Ljava/util/Optional;" } : Jvm.MethodName)).before a0 Z = true := hw _ (List.mem_of_getElem? (i := 60) rfl)
theorem ow63 {a0 : Array Value} {Z : State} (hw : ∀ d ∈ tables_1, d.before a0 Z = true) : (Jvm.Cond.code ({ cls := "java/util/Optional", name := "empty", desc := "()Ljava/util/Optional;" } : Jvm.MethodName) jdk_32_method_1_code (1 : Nat) (Option.some (Jvm.ClassFile.FieldType.object "java/util/Optional"))).before a0 Z = true := hw _ (List.mem_of_getElem? (i := 63) rfl)
theorem opd7 : parseMethodDescriptor "()Ljava/util/Optional;" = some ⟨[], some (.object "java/util/Optional")⟩ := by decide +kernel
theorem ow61 {a0 : Array Value} {Z : State} (hw : ∀ d ∈ tables_1, d.before a0 Z = true) : (Jvm.Cond.static ({ cls := "java/util/Optional", name := "empty", desc := "()Ljava/util/Optional;" } : Jvm.MethodName)).before a0 Z = true := hw _ (List.mem_of_getElem? (i := 61) rfl)
theorem d5_46 : decode prog_10_method_5_code 46 = .ok (.areturn, 1) := by decide +kernel
theorem oef_orm_ofe (m : MethodId) (s : Addr)  : (entryFrame m #[(.ref s)] 5).locals = #[.val (.ref s), .unset, .unset, .unset, .unset] := by first | (simp [entryFrame, argsToLocals, Value.category]; done) | rfl
set_option maxRecDepth 65536 in
set_option maxHeartbeats 40000000 in
theorem orm_ofe (l : Launch) (Z : State) (a0 : Array Value) (hw : ∀ d ∈ tables_1, d.before a0 Z = true) (hE : EW Z a0 consts_1) (va : Addr) (kv : ClassId) (nr : Addr) (hi : Addr) (wn : Addr) (wh : Addr) (em : Addr) (s : Addr) (z : Int32) (cs : List Int32) (h : Heap) (hO : Old Z Z.heap.size h) (hP : (Wld Z va kv nr hi wn wh em)) (SC : (Sta Z Z.heap "java/lang/String" "COMPACT_STRINGS" "Z" (.int z))) (hz : (¬ z = 0)) (q3 : Str Z h s cs) (n1 : (¬ [110, 111, 114, 109, 97, 108] = cs)) (n2 : (¬ [104, 105, 103, 104] = cs))  :
    Ct l Z consts_1 (⟨"com/example/tidewire/tidewire/message/Priority", "ofWireName", "(Ljava/lang/String;)Ljava/util/Optional;"⟩ : MethodName) prog_10_method_5_code 5 (Option.some (Jvm.ClassFile.FieldType.object "java/util/Optional")) ⟨3, 2, 3, 45⟩ #[(.ref s)] h [] (fun rv' hp' so' => rv' = some (.ref em) ∧ so' = [] ∧ Exa Z hp' em "java/util/Optional" ∧ Fld Z hp' em "java/util/Optional" "value" "Ljava/lang/Object;" .null) := by
  refine Ct.mk "com/example/tidewire/tidewire/message/Priority" "ofWireName" rfl rfl (a0 := a0) (plainFor_of_name opn2) hO hE (fun x q => nomatch q) ?_
  intro K T W
  rw [oef_orm_ofe]
  refine wStatic (y := (⟨"com/example/tidewire/tidewire/message/Priority", "values", "()[Lcom/example/tidewire/tidewire/message/Priority;"⟩ : MethodName)) (Wd := 0) (argsL := []) (rest := []) W d5_0 (ow30 hw) (ow31 hw) (ow28 hw) (ow32 hw) (by decide) (Cb.ct (orm_vals l Z a0 hw hE (va) (kv) (nr) (hi) (wn) (wh) (em) h W.old hP ) (ow32 hw) (ow28 hw) hE (by decide) (by decide)) (by simp) rfl (lenOf opd4 rfl) rfl (Nat.le_of_eq rfl) (by decide) (by decide) rfl fun v1020 so1021 T1016 h1018 W1017 kp1019 sp1022 q1023 => ?_
  obtain ⟨r1024, rfl, rfl, f1025, f1026⟩ := q1023
  show Go K _ T1016 3 #[.val (.ref s), .unset, .unset, .unset, .unset] [(.ref r1024)]
  refine gAstoreN (ls' := #[.val (.ref s), .val (.ref r1024), .unset, .unset, .unset]) W1017 d5_3 rfl rfl rfl ?_
  refine gAloadN W1017 d5_4 rfl rfl rfl ?_
  refine wLen W1017 d5_5 f1026 rfl ?_
  refine gIstoreN (ls' := #[.val (.ref s), .val (.ref r1024), .val (.int (2 : Int32)), .unset, .unset]) W1017 d5_6 rfl rfl ?_
  refine gIconst (z := (0 : Int32)) W1017 d5_7 rfl rfl ?_
  refine gIstoreN (ls' := #[.val (.ref s), .val (.ref r1024), .val (.int (2 : Int32)), .val (.int (0 : Int32)), .unset]) W1017 d5_8 rfl rfl ?_
  refine gIloadN W1017 d5_9 rfl rfl ?_
  refine gIloadN W1017 d5_10 rfl rfl ?_
  refine gIcmpNo W1017 d5_11 (tlt (by decide)).2.1 rfl ?_
  refine gAloadN W1017 d5_14 rfl rfl rfl ?_
  refine gIloadN W1017 d5_15 rfl rfl ?_
  refine wLdA (v := (.ref nr)) W1017 d5_16 rfl f1026 (by decide) rfl rfl ?_
  refine gAstore (ls' := #[.val (.ref s), .val (.ref r1024), .val (.int (2 : Int32)), .val (.int (0 : Int32)), .val (.ref nr)]) W1017 d5_17 rfl rfl rfl ?_
  refine gAload W1017 d5_19 rfl rfl rfl ?_
  have f1027 := (hP.2.2.2.1).ext W1017.old.2
  refine wGetF W1017 d5_21 (ow47 hw) Via.refl f1027 rfl fun T1028 W1029 => ?_
  refine gAloadN W1029 d5_24 rfl rfl rfl ?_
  have f1030 := (hP.2.2.2.2.1).ext W1029.old.2
  have f1031 := q3.keep kp1019 nin0 (a0 := a0) alln
  refine wVirtual (y := (⟨"java/lang/String", "equals", "(Ljava/lang/Object;)Z"⟩ : MethodName)) (z := (⟨"java/lang/String", "equals", "(Ljava/lang/Object;)Z"⟩ : MethodName)) (Wd := 0) (a := wn) (argsL := [(.ref s)]) (rest := []) W1029 d5_25 (ow49 hw) (ow50 hw) (ow52 hw) (ow51 hw) (nfS (ow52 hw)) (by decide) (eqPay hw hE wn s [110, 111, 114, 109, 97, 108] cs 0 f1030 f1031 (SC.ext W1029.old.2) hz (by decide) (by decide)) f1030.exa (by simp) rfl (lenOf opd5 rfl) rfl (Nat.le_of_eq rfl) (by decide) (by decide) rfl fun v1036 so1037 T1032 h1034 W1033 kp1035 sp1038 q1039 => ?_
  obtain ⟨b1040, rfl, rfl, f1041⟩ := q1039
  show Go K _ T1032 28 #[.val (.ref s), .val (.ref r1024), .val (.int (2 : Int32)), .val (.int (0 : Int32)), .val (.ref nr)] [(.int b1040)]
  rcases f1041 with ⟨rfl, ee0⟩ | ⟨rfl, ee0⟩
  · exact absurd ee0 n1
  refine gIfYes (pc' := 37) W1033 d5_28 ((if0 _ _).trans (teq rfl).1) (by decide) rfl ?_
  refine gIinc (z := (1 : Int32)) (ls' := #[.val (.ref s), .val (.ref r1024), .val (.int (2 : Int32)), .val (.int (1 : Int32)), .val (.ref nr)]) W1033 d5_37 rfl (by decide) rfl rfl ?_
  refine gGoto (pc' := 9) W1033 d5_40 (by decide) rfl ?_
  refine gIloadN W1033 d5_9 rfl rfl ?_
  refine gIloadN W1033 d5_10 rfl rfl ?_
  refine gIcmpNo W1033 d5_11 (tlt (by decide)).2.1 rfl ?_
  refine gAloadN W1033 d5_14 rfl rfl rfl ?_
  refine gIloadN W1033 d5_15 rfl rfl ?_
  have f1042 := f1026.keep kp1035 nin0
  refine wLdA (v := (.ref hi)) W1033 d5_16 rfl f1042 (by decide) rfl rfl ?_
  refine gAstore (ls' := #[.val (.ref s), .val (.ref r1024), .val (.int (2 : Int32)), .val (.int (1 : Int32)), .val (.ref hi)]) W1033 d5_17 rfl rfl rfl ?_
  refine gAload W1033 d5_19 rfl rfl rfl ?_
  have f1043 := (hP.2.2.2.2.2.1).ext W1033.old.2
  refine wGetF W1033 d5_21 (ow47 hw) Via.refl f1043 rfl fun T1044 W1045 => ?_
  refine gAloadN W1045 d5_24 rfl rfl rfl ?_
  have f1046 := (hP.2.2.2.2.2.2.1).ext W1045.old.2
  have f1047 := f1031.keep kp1035 nin0 (a0 := a0) alln
  refine wVirtual (y := (⟨"java/lang/String", "equals", "(Ljava/lang/Object;)Z"⟩ : MethodName)) (z := (⟨"java/lang/String", "equals", "(Ljava/lang/Object;)Z"⟩ : MethodName)) (Wd := 0) (a := wh) (argsL := [(.ref s)]) (rest := []) W1045 d5_25 (ow49 hw) (ow50 hw) (ow52 hw) (ow51 hw) (nfS (ow52 hw)) (by decide) (eqPay hw hE wh s [104, 105, 103, 104] cs 0 f1046 f1047 (SC.ext W1045.old.2) hz (by decide) (by decide)) f1046.exa (by simp) rfl (lenOf opd5 rfl) rfl (Nat.le_of_eq rfl) (by decide) (by decide) rfl fun v1052 so1053 T1048 h1050 W1049 kp1051 sp1054 q1055 => ?_
  obtain ⟨b1056, rfl, rfl, f1057⟩ := q1055
  show Go K _ T1048 28 #[.val (.ref s), .val (.ref r1024), .val (.int (2 : Int32)), .val (.int (1 : Int32)), .val (.ref hi)] [(.int b1056)]
  rcases f1057 with ⟨rfl, ee1⟩ | ⟨rfl, ee1⟩
  · exact absurd ee1 n2
  refine gIfYes (pc' := 37) W1049 d5_28 ((if0 _ _).trans (teq rfl).1) (by decide) rfl ?_
  refine gIinc (z := (2 : Int32)) (ls' := #[.val (.ref s), .val (.ref r1024), .val (.int (2 : Int32)), .val (.int (2 : Int32)), .val (.ref hi)]) W1049 d5_37 rfl (by decide) rfl rfl ?_
  refine gGoto (pc' := 9) W1049 d5_40 (by decide) rfl ?_
  refine gIloadN W1049 d5_9 rfl rfl ?_
  refine gIloadN W1049 d5_10 rfl rfl ?_
  refine gIcmpYes (pc' := 43) W1049 d5_11 (flt (by decide)).2.1 (by decide) rfl ?_
  refine wStatic (y := (⟨"java/util/Optional", "empty", "()Ljava/util/Optional;"⟩ : MethodName)) (Wd := 0) (argsL := []) (rest := []) W1049 d5_43 (ow60 hw) (ow61 hw) (ow62 hw) (ow63 hw) (by decide) (Cb.ct (orm_oe l Z a0 hw hE (va) (kv) (nr) (hi) (wn) (wh) (em) h1050 W1049.old hP ) (ow63 hw) (ow62 hw) hE (by decide) (by decide)) (by simp) rfl (lenOf opd7 rfl) rfl (Nat.le_of_eq rfl) (by decide) (by decide) rfl fun v1062 so1063 T1058 h1060 W1059 kp1061 sp1064 q1065 => ?_
  obtain ⟨rfl, rfl⟩ := q1065
  show Go K _ T1058 46 #[.val (.ref s), .val (.ref r1024), .val (.int (2 : Int32)), .val (.int (2 : Int32)), .val (.ref hi)] [(.ref em)]
  have f1066 := (hP.2.2.2.2.2.2.2.2.1).ext W1059.old.2
  have f1067 := (hP.2.2.2.2.2.2.2.2.2.1).ext W1059.old.2
  exact wRetA (so := []) (t := .object "java/util/Optional") W1059 d5_46 rfl rfl rfl (by decide) (by decide) (fun _ q => nomatch q) ⟨rfl, rfl, f1066, f1067⟩
theorem ow0 {a0 : Array Value} {Z : State} (hw : ∀ d ∈ tables_1, d.before a0 Z = true) : (Jvm.Cond.methodLink "com/example/tidewire/tidewire/message/PriorityOfWireNamePinLaw" (7 : Nat) ({ cls := "com/example/tidewire/tidewire/message/PriorityOfWireNamePinLaw", name := "alloc", desc := "(I)[C" } : Jvm.MethodName)).before a0 Z = true := hw _ (List.mem_of_getElem? (i := 0) rfl)
theorem ow2 {a0 : Array Value} {Z : State} (hw : ∀ d ∈ tables_1, d.before a0 Z = true) : (Jvm.Cond.initialized "com/example/tidewire/tidewire/message/PriorityOfWireNamePinLaw").before a0 Z = true := hw _ (List.mem_of_getElem? (i := 2) rfl)
theorem ow3 {a0 : Array Value} {Z : State} (hw : ∀ d ∈ tables_1, d.before a0 Z = true) : (Jvm.Cond.code ({ cls := "com/example/tidewire/tidewire/message/PriorityOfWireNamePinLaw", name := "alloc", desc := "(I)[C" } : Jvm.MethodName) method_3_code (1 : Nat) (Option.some (Jvm.ClassFile.FieldType.array Jvm.ClassFile.FieldType.char))).before a0 Z = true := hw _ (List.mem_of_getElem? (i := 3) rfl)
theorem opd8 : parseMethodDescriptor "(I)[C" = some ⟨[.int], some (.array .char)⟩ := by decide +kernel
theorem ow1 {a0 : Array Value} {Z : State} (hw : ∀ d ∈ tables_1, d.before a0 Z = true) : (Jvm.Cond.static ({ cls := "com/example/tidewire/tidewire/message/PriorityOfWireNamePinLaw", name := "alloc", desc := "(I)[C" } : Jvm.MethodName)).before a0 Z = true := hw _ (List.mem_of_getElem? (i := 1) rfl)
theorem ow5 {a0 : Array Value} {Z : State} (hw : ∀ d ∈ tables_1, d.before a0 Z = true) : (Jvm.Cond.classLink "com/example/tidewire/tidewire/message/PriorityOfWireNamePinLaw" (17 : Nat) "java/lang/String").before a0 Z = true := hw _ (List.mem_of_getElem? (i := 5) rfl)
theorem ow8 {a0 : Array Value} {Z : State} (hw : ∀ d ∈ tables_1, d.before a0 Z = true) : (Jvm.Cond.methodLink "com/example/tidewire/tidewire/message/PriorityOfWireNamePinLaw" (19 : Nat) ({ cls := "java/lang/String", name := "<init>", desc := "([C)V" } : Jvm.MethodName)).before a0 Z = true := hw _ (List.mem_of_getElem? (i := 8) rfl)
theorem ow10 {a0 : Array Value} {Z : State} (hw : ∀ d ∈ tables_1, d.before a0 Z = true) : (Jvm.Cond.code ({ cls := "java/lang/String", name := "<init>", desc := "([C)V" } : Jvm.MethodName) jdk_42_method_3_code (2 : Nat) (Option.none : Option Jvm.ClassFile.FieldType)).before a0 Z = true := hw _ (List.mem_of_getElem? (i := 10) rfl)
theorem opd9 : parseMethodDescriptor "([C)V" = some ⟨[.array .char], none⟩ := by decide +kernel
theorem ow9 {a0 : Array Value} {Z : State} (hw : ∀ d ∈ tables_1, d.before a0 Z = true) : (Jvm.Cond.instanceMethod ({ cls := "java/lang/String", name := "<init>", desc := "([C)V" } : Jvm.MethodName)).before a0 Z = true := hw _ (List.mem_of_getElem? (i := 9) rfl)
theorem ow75 {a0 : Array Value} {Z : State} (hw : ∀ d ∈ tables_1, d.before a0 Z = true) : (Jvm.Cond.methodLink "com/example/tidewire/tidewire/message/PriorityOfWireNamePinLaw" (13 : Nat) ({ cls := "com/example/tidewire/tidewire/message/PriorityOfWireNamePinLaw", name := "at", desc := "(IIIII)C" } : Jvm.MethodName)).before a0 Z = true := hw _ (List.mem_of_getElem? (i := 75) rfl)
theorem ow77 {a0 : Array Value} {Z : State} (hw : ∀ d ∈ tables_1, d.before a0 Z = true) : (Jvm.Cond.code ({ cls := "com/example/tidewire/tidewire/message/PriorityOfWireNamePinLaw", name := "at", desc := "(IIIII)C" } : Jvm.MethodName) method_4_code (7 : Nat) (Option.some Jvm.ClassFile.FieldType.char)).before a0 Z = true := hw _ (List.mem_of_getElem? (i := 77) rfl)
theorem opd10 : parseMethodDescriptor "(IIIII)C" = some ⟨[.int, .int, .int, .int, .int], some (.char)⟩ := by decide +kernel
theorem ow76 {a0 : Array Value} {Z : State} (hw : ∀ d ∈ tables_1, d.before a0 Z = true) : (Jvm.Cond.static ({ cls := "com/example/tidewire/tidewire/message/PriorityOfWireNamePinLaw", name := "at", desc := "(IIIII)C" } : Jvm.MethodName)).before a0 Z = true := hw _ (List.mem_of_getElem? (i := 76) rfl)
theorem ow26 {a0 : Array Value} {Z : State} (hw : ∀ d ∈ tables_1, d.before a0 Z = true) : (Jvm.Cond.methodLink "com/example/tidewire/tidewire/message/PriorityOfWireNamePinLaw" (22 : Nat) ({ cls := "com/example/tidewire/tidewire/message/Priority", name := "ofWireName", desc := "(Ljava/lang/String;)Ljava/util/Optional;" } : Jvm.MethodName)).before a0 Z = true := hw _ (List.mem_of_getElem? (i := 26) rfl)
theorem ow29 {a0 : Array Value} {Z : State} (hw : ∀ d ∈ tables_1, d.before a0 Z = true) : (Jvm.Cond.code ({ cls := "com/example/tidewire/tidewire/message/Priority", name := "ofWireName", desc := "(Ljava/lang/String;)Ljava/util/Optional;" } : Jvm.MethodName) prog_10_method_5_code (5 : Nat) (Option.some (Jvm.ClassFile.FieldType.object "java/util/Optional"))).before a0 Z = true := hw _ (List.mem_of_getElem? (i := 29) rfl)
theorem opd11 : parseMethodDescriptor "(Ljava/lang/String;)Ljava/util/Optional;" = some ⟨[.object "java/lang/String"], some (.object "java/util/Optional")⟩ := by decide +kernel
theorem ow27 {a0 : Array Value} {Z : State} (hw : ∀ d ∈ tables_1, d.before a0 Z = true) : (Jvm.Cond.static ({ cls := "com/example/tidewire/tidewire/message/Priority", name := "ofWireName", desc := "(Ljava/lang/String;)Ljava/util/Optional;" } : Jvm.MethodName)).before a0 Z = true := hw _ (List.mem_of_getElem? (i := 27) rfl)
theorem ow66 {a0 : Array Value} {Z : State} (hw : ∀ d ∈ tables_1, d.before a0 Z = true) : (Jvm.Cond.methodLink "com/example/tidewire/tidewire/message/PriorityOfWireNamePinLaw" (30 : Nat) ({ cls := "java/lang/String", name := "equals", desc := "(Ljava/lang/Object;)Z" } : Jvm.MethodName)).before a0 Z = true := hw _ (List.mem_of_getElem? (i := 66) rfl)
theorem ow72 {a0 : Array Value} {Z : State} (hw : ∀ d ∈ tables_1, d.before a0 Z = true) : (Jvm.Cond.code ({ cls := "java/util/Optional", name := "isPresent", desc := "()Z" } : Jvm.MethodName) jdk_32_method_6_code (1 : Nat) (Option.some Jvm.ClassFile.FieldType.boolean)).before a0 Z = true := hw _ (List.mem_of_getElem? (i := 72) rfl)
theorem opd12 : parseMethodDescriptor "()Z" = some ⟨[], some (.boolean)⟩ := by decide +kernel
theorem ow68 {a0 : Array Value} {Z : State} (hw : ∀ d ∈ tables_1, d.before a0 Z = true) : (Jvm.Cond.methodLink "com/example/tidewire/tidewire/message/PriorityOfWireNamePinLaw" (34 : Nat) ({ cls := "java/util/Optional", name := "isPresent", desc := "()Z" } : Jvm.MethodName)).before a0 Z = true := hw _ (List.mem_of_getElem? (i := 68) rfl)
theorem ow69 {a0 : Array Value} {Z : State} (hw : ∀ d ∈ tables_1, d.before a0 Z = true) : (Jvm.Cond.declares ({ cls := "java/util/Optional", name := "isPresent", desc := "()Z" } : Jvm.MethodName)).before a0 Z = true := hw _ (List.mem_of_getElem? (i := 69) rfl)
theorem ow71 {a0 : Array Value} {Z : State} (hw : ∀ d ∈ tables_1, d.before a0 Z = true) : (Jvm.Cond.selects "java/util/Optional" ({ cls := "java/util/Optional", name := "isPresent", desc := "()Z" } : Jvm.MethodName) ({ cls := "java/util/Optional", name := "isPresent", desc := "()Z" } : Jvm.MethodName)).before a0 Z = true := hw _ (List.mem_of_getElem? (i := 71) rfl)
theorem ow70 {a0 : Array Value} {Z : State} (hw : ∀ d ∈ tables_1, d.before a0 Z = true) : (Jvm.Cond.instanceMethod ({ cls := "java/util/Optional", name := "isPresent", desc := "()Z" } : Jvm.MethodName)).before a0 Z = true := hw _ (List.mem_of_getElem? (i := 70) rfl)
theorem ow127 {a0 : Array Value} {Z : State} (hw : ∀ d ∈ tables_1, d.before a0 Z = true) : (Jvm.Cond.code ({ cls := "java/util/Optional", name := "get", desc := "()Ljava/lang/Object;" } : Jvm.MethodName) jdk_32_method_5_code (1 : Nat) (Option.some (Jvm.ClassFile.FieldType.object "java/lang/Object"))).before a0 Z = true := hw _ (List.mem_of_getElem? (i := 127) rfl)
theorem opd13 : parseMethodDescriptor "()Ljava/lang/Object;" = some ⟨[], some (.object "java/lang/Object")⟩ := by decide +kernel
theorem ow123 {a0 : Array Value} {Z : State} (hw : ∀ d ∈ tables_1, d.before a0 Z = true) : (Jvm.Cond.methodLink "com/example/tidewire/tidewire/message/PriorityOfWireNamePinLaw" (40 : Nat) ({ cls := "java/util/Optional", name := "get", desc := "()Ljava/lang/Object;" } : Jvm.MethodName)).before a0 Z = true := hw _ (List.mem_of_getElem? (i := 123) rfl)
theorem ow124 {a0 : Array Value} {Z : State} (hw : ∀ d ∈ tables_1, d.before a0 Z = true) : (Jvm.Cond.declares ({ cls := "java/util/Optional", name := "get", desc := "()Ljava/lang/Object;" } : Jvm.MethodName)).before a0 Z = true := hw _ (List.mem_of_getElem? (i := 124) rfl)
theorem ow126 {a0 : Array Value} {Z : State} (hw : ∀ d ∈ tables_1, d.before a0 Z = true) : (Jvm.Cond.selects "java/util/Optional" ({ cls := "java/util/Optional", name := "get", desc := "()Ljava/lang/Object;" } : Jvm.MethodName) ({ cls := "java/util/Optional", name := "get", desc := "()Ljava/lang/Object;" } : Jvm.MethodName)).before a0 Z = true := hw _ (List.mem_of_getElem? (i := 126) rfl)
theorem ow125 {a0 : Array Value} {Z : State} (hw : ∀ d ∈ tables_1, d.before a0 Z = true) : (Jvm.Cond.instanceMethod ({ cls := "java/util/Optional", name := "get", desc := "()Ljava/lang/Object;" } : Jvm.MethodName)).before a0 Z = true := hw _ (List.mem_of_getElem? (i := 125) rfl)
theorem ow129 {a0 : Array Value} {Z : State} (hw : ∀ d ∈ tables_1, d.before a0 Z = true) : (Jvm.Cond.fieldLink "com/example/tidewire/tidewire/message/PriorityOfWireNamePinLaw" (44 : Nat) "com/example/tidewire/tidewire/message/Priority" "NORMAL" "Lcom/example/tidewire/tidewire/message/Priority;").before a0 Z = true := hw _ (List.mem_of_getElem? (i := 129) rfl)
theorem ow128 {a0 : Array Value} {Z : State} (hw : ∀ d ∈ tables_1, d.before a0 Z = true) : (Jvm.Cond.fieldLink "com/example/tidewire/tidewire/message/PriorityOfWireNamePinLaw" (50 : Nat) "com/example/tidewire/tidewire/message/Priority" "HIGH" "Lcom/example/tidewire/tidewire/message/Priority;").before a0 Z = true := hw _ (List.mem_of_getElem? (i := 128) rfl)
theorem oef_orm_law (m : MethodId) (p0 : Int32) (p1 : Int32) (p2 : Int32) (p3 : Int32)  : (entryFrame m #[(.int p0), (.int p1), (.int p2), (.int p3)] maxLocals).locals = #[.val (.int p0), .val (.int p1), .val (.int p2), .val (.int p3), .unset, .unset, .unset, .unset, .unset] := by first | (simp [entryFrame, argsToLocals, Value.category, maxLocals]; done) | rfl
set_option maxRecDepth 65536 in
set_option maxHeartbeats 40000000 in
theorem orm_law (l : Launch) (Z : State) (a0 : Array Value) (hw : ∀ d ∈ tables_1, d.before a0 Z = true) (hE : EW Z a0 consts_1) (p0 : Int32) (p1 : Int32) (p2 : Int32) (p3 : Int32) (z : Int32) (fm : Value) (va : Addr) (kv : ClassId) (nr : Addr) (hi : Addr) (wn : Addr) (wh : Addr) (em : Addr) (h : Heap) (hO : Old Z Z.heap.size h) (SC : (Sta Z Z.heap "java/lang/String" "COMPACT_STRINGS" "Z" (.int z))) (hz : (¬ z = 0)) (SF : (Sta Z Z.heap "jdk/internal/util/Preconditions" "SIOOBE_FORMATTER" "Ljava/util/function/BiFunction;" fm)) (rf : (fm.isRef = true)) (hP : (Wld Z va kv nr hi wn wh em))  :
    Ct l Z consts_1 x code maxLocals ret room_1 #[(.int p0), (.int p1), (.int p2), (.int p3)] h [] (fun rv' hp' so' => rv' = some (.int (1 : Int32)) ∧ so' = []) := by
  refine Ct.mk "com/example/tidewire/tidewire/message/PriorityOfWireNamePinLaw" "law" rfl rfl (a0 := a0) (plainFor_of_name opn1) hO hE (fun x q => nomatch q) ?_
  intro K T W
  rw [oef_orm_law]
  refine gIloadN W at_0 rfl rfl ?_
  refine gIconst (z := (3 : Int32)) W at_1 rfl rfl ?_
  obtain ⟨v1068, e1069⟩ : ∃ v : Int32, p0 &&& (3 : Int32) = v := ⟨_, rfl⟩
  refine gIand W at_2 e1069 rfl ?_
  refine gIstore (ls' := #[.val (.int p0), .val (.int p1), .val (.int p2), .val (.int p3), .val (.int v1068), .unset, .unset, .unset, .unset]) W at_3 rfl rfl ?_
  refine gIloadN W at_5 rfl rfl ?_
  refine gIconst (z := (2 : Int32)) W at_6 rfl rfl ?_
  obtain ⟨v1070, e1071⟩ : ∃ v : Int32, (p0.toUInt32 >>> ((2 : Int32) &&& 31).toUInt32).toInt32 = v := ⟨_, rfl⟩
  refine gIushr W at_7 e1071 rfl ?_
  refine gBipush (z := (7 : Int32)) W at_8 rfl rfl ?_
  obtain ⟨v1072, e1073⟩ : ∃ v : Int32, v1070 &&& (7 : Int32) = v := ⟨_, rfl⟩
  refine gIand W at_10 e1073 rfl ?_
  have hn := and7 e1073
  refine gIstore (ls' := #[.val (.int p0), .val (.int p1), .val (.int p2), .val (.int p3), .val (.int v1068), .val (.int v1072), .unset, .unset, .unset]) W at_11 rfl rfl ?_
  refine gIload W at_13 rfl rfl ?_
  suffices k1074 : ∀ (T1075 : State) (h1077 : Heap) (s : Addr) (ar : Addr) (cs : List Int32), Wk l Z consts_1 "com/example/tidewire/tidewire/message/PriorityOfWireNamePinLaw" "law" code maxLocals ret room_1 [] h K [] T1075 h1077 18 400 → Str Z h1077 s cs → Go K (Pst Z consts_1 [] K.2.2.1 room_1.cells room_1.slots (fun rv' hp' so' => rv' = some (.int (1 : Int32)) ∧ so' = [])) T1075 166 #[.val (.int p0), .val (.int p1), .val (.int p2), .val (.int p3), .val (.int v1068), .val (.int v1072), .val (.ref ar), .val (.ref s), .unset] [] by
    rcases hn with rfl | rfl | rfl | rfl | rfl | rfl | rfl | rfl
    · refine wStatic (y := (⟨"com/example/tidewire/tidewire/message/PriorityOfWireNamePinLaw", "alloc", "(I)[C"⟩ : MethodName)) (Wd := 0) (argsL := [(.int (0 : Int32))]) (rest := []) W at_15 (ow0 hw) (ow1 hw) (ow2 hw) (ow3 hw) (by decide) (Cb.ct (orm_al0 l Z a0 hw hE  h W.old  ) (ow3 hw) (ow2 hw) hE (by decide) (by decide)) (by simp) rfl (lenOf opd8 rfl) rfl (Nat.le_of_eq rfl) (by decide) (by decide) rfl fun v1083 so1084 T1079 h1081 W1080 kp1082 sp1085 q1086 => ?_
      obtain ⟨r1087, kC1088, rfl, rfl, f1089, f1090⟩ := q1086
      show Go K _ T1079 18 #[.val (.int p0), .val (.int p1), .val (.int p2), .val (.int p3), .val (.int v1068), .val (.int (0 : Int32)), .unset, .unset, .unset] [(.ref r1087)]
      refine gAstore (ls' := #[.val (.int p0), .val (.int p1), .val (.int p2), .val (.int p3), .val (.int v1068), .val (.int (0 : Int32)), .val (.ref r1087), .unset, .unset]) W1080 at_18 rfl rfl rfl ?_
      refine gIload W1080 at_20 rfl rfl ?_
      refine gIfYes (pc' := 38) W1080 at_22 ((if0 _ _).trans (flt (by decide)).2.2.2) (by decide) rfl ?_
      refine gIload W1080 at_38 rfl rfl ?_
      refine gIconst (z := (1 : Int32)) W1080 at_40 rfl rfl ?_
      refine gIcmpYes (pc' := 57) W1080 at_41 (flt (by decide)).2.2.2 (by decide) rfl ?_
      refine gIload W1080 at_57 rfl rfl ?_
      refine gIconst (z := (2 : Int32)) W1080 at_59 rfl rfl ?_
      refine gIcmpYes (pc' := 76) W1080 at_60 (flt (by decide)).2.2.2 (by decide) rfl ?_
      refine gIload W1080 at_76 rfl rfl ?_
      refine gIconst (z := (3 : Int32)) W1080 at_78 rfl rfl ?_
      refine gIcmpYes (pc' := 95) W1080 at_79 (flt (by decide)).2.2.2 (by decide) rfl ?_
      refine gIload W1080 at_95 rfl rfl ?_
      refine gIconst (z := (4 : Int32)) W1080 at_97 rfl rfl ?_
      refine gIcmpYes (pc' := 114) W1080 at_98 (flt (by decide)).2.2.2 (by decide) rfl ?_
      refine gIload W1080 at_114 rfl rfl ?_
      refine gIconst (z := (5 : Int32)) W1080 at_116 rfl rfl ?_
      refine gIcmpYes (pc' := 133) W1080 at_117 (flt (by decide)).2.2.2 (by decide) rfl ?_
      refine gIload W1080 at_133 rfl rfl ?_
      refine gBipush (z := (6 : Int32)) W1080 at_135 rfl rfl ?_
      refine gIcmpYes (pc' := 155) W1080 at_137 (flt (by decide)).2.2.2 (by decide) rfl ?_
      refine wNewO W1080 at_155 (ow5 hw) (ow6 hw) (ow7 hw) (by decide) (by decide) rfl fun T1091 h1093 a1094 W1092 E1095 g1096 A1097 D1098  => ?_
      have f1099 : Fld Z h1093 a1094 "java/lang/String" "value" "[B" .null := D1098 (Or.inr (ow20 hw)) (ty := .array .byte) (by decide)
      have f1100 : Fld Z h1093 a1094 "java/lang/String" "coder" "B" (.int (0 : Int32)) := D1098 (Or.inr (ow21 hw)) (ty := .byte) (by decide)
      refine gDup W1092 at_158 rfl rfl ?_
      refine gAload W1092 at_159 rfl rfl rfl ?_
      have f1101 := f1090.ext E1095
      refine wSpecial (y := (⟨"java/lang/String", "<init>", "([C)V"⟩ : MethodName)) (Wd := 1) (a := a1094) (argsL := [(.ref r1087)]) (rest := [(.ref a1094)]) W1092 at_161 rfl (ow8 hw) (ow9 hw) (ow10 hw) (by decide) (Cb.ct (orm_new1E l Z a0 hw hE (a1094) (r1087) (kC1088) h1093 W1092.old A1097 f1099 f1100 f1101 (Nat.le_trans W1080.old.2.1 (Nat.le_of_eq g1096.symm))) (ow10 hw) (ow7 hw) hE (by decide) (by decide)) (by simp) rfl (lenOf opd9 rfl) rfl (Nat.le_of_eq rfl) (by decide) (by decide) rfl fun v1106 so1107 T1102 h1104 W1103 kp1105 sp1108 q1109 => ?_
      obtain ⟨t1110, kb1111, rfl, rfl, f1112, f1113, f1114, f1115⟩ := q1109
      show Go K _ T1102 164 #[.val (.int p0), .val (.int p1), .val (.int p2), .val (.int p3), .val (.int v1068), .val (.int (0 : Int32)), .val (.ref r1087), .unset, .unset] [(.ref a1094)]
      have f1116 : Str Z h1104 a1094 [] := Str.mk (cs := []) f1112 f1113 f1114 f1115 (show _ = Int32.ofNat 0 from by decide) alln (show 0 ≤ 4000 from by decide)
      refine gAstore (ls' := #[.val (.int p0), .val (.int p1), .val (.int p2), .val (.int p3), .val (.int v1068), .val (.int (0 : Int32)), .val (.ref r1087), .val (.ref a1094), .unset]) W1103 at_164 rfl rfl rfl ?_
      exact k1074 _ _ (a1094) (r1087) ([]) ((W1103.mono (by decide) (by decide)).less (by simp)) f1116
    · refine wStatic (y := (⟨"com/example/tidewire/tidewire/message/PriorityOfWireNamePinLaw", "alloc", "(I)[C"⟩ : MethodName)) (Wd := 0) (argsL := [(.int (1 : Int32))]) (rest := []) W at_15 (ow0 hw) (ow1 hw) (ow2 hw) (ow3 hw) (by decide) (Cb.ct (orm_al1 l Z a0 hw hE  h W.old  ) (ow3 hw) (ow2 hw) hE (by decide) (by decide)) (by simp) rfl (lenOf opd8 rfl) rfl (Nat.le_of_eq rfl) (by decide) (by decide) rfl fun v1121 so1122 T1117 h1119 W1118 kp1120 sp1123 q1124 => ?_
      obtain ⟨r1125, kC1126, rfl, rfl, f1127, f1128⟩ := q1124
      show Go K _ T1117 18 #[.val (.int p0), .val (.int p1), .val (.int p2), .val (.int p3), .val (.int v1068), .val (.int (1 : Int32)), .unset, .unset, .unset] [(.ref r1125)]
      refine gAstore (ls' := #[.val (.int p0), .val (.int p1), .val (.int p2), .val (.int p3), .val (.int v1068), .val (.int (1 : Int32)), .val (.ref r1125), .unset, .unset]) W1118 at_18 rfl rfl rfl ?_
      refine gIload W1118 at_20 rfl rfl ?_
      refine gIfNo W1118 at_22 ((if0 _ _).trans (tlt (by decide)).2.2.2) rfl ?_
      refine gAload W1118 at_25 rfl rfl rfl ?_
      refine gIconst (z := (0 : Int32)) W1118 at_27 rfl rfl ?_
      refine gIconst (z := (0 : Int32)) W1118 at_28 rfl rfl ?_
      refine gIload W1118 at_29 rfl rfl ?_
      refine gIloadN W1118 at_31 rfl rfl ?_
      refine gIloadN W1118 at_32 rfl rfl ?_
      refine gIloadN W1118 at_33 rfl rfl ?_
      refine wStatic (y := (⟨"com/example/tidewire/tidewire/message/PriorityOfWireNamePinLaw", "at", "(IIIII)C"⟩ : MethodName)) (Wd := 2) (argsL := [(.int (0 : Int32)), (.int v1068), (.int p1), (.int p2), (.int p3)]) (rest := [(.int (0 : Int32)), (.ref r1125)]) W1118 at_34 (ow75 hw) (ow76 hw) (ow2 hw) (ow77 hw) (by decide) (Cb.ct (orm_at0 l Z a0 hw hE (v1068) (p1) (p2) (p3) (z) (fm) h1119 W1118.old SC hz SF rf ) (ow77 hw) (ow2 hw) hE (by decide) (by decide)) (by simp) rfl (lenOf opd10 rfl) rfl (Nat.le_of_eq rfl) (by decide) (by decide) rfl fun v1133 so1134 T1129 h1131 W1130 kp1132 sp1135 q1136 => ?_
      obtain ⟨v1137, rfl, rfl, f1138⟩ := q1136
      show Go K _ T1129 37 #[.val (.int p0), .val (.int p1), .val (.int p2), .val (.int p3), .val (.int v1068), .val (.int (1 : Int32)), .val (.ref r1125), .unset, .unset] [(.int v1137), (.int (0 : Int32)), (.ref r1125)]
      have f1139 := f1128.keep kp1132 nin0
      refine wStC W1130 at_37 (by simp) f1139 (by decide) f1138.nar 0 (by decide) (show 0 < 1 from by decide) rfl fun T1140 h1142 W1141 wr1143 A1144 => ?_
      have f1145 : Arv Z h1142 r1125 kC1126 .char (1 : Int32) [(.int v1137)] (.int 0) := A1144
      refine gIload W1141 at_38 rfl rfl ?_
      refine gIconst (z := (1 : Int32)) W1141 at_40 rfl rfl ?_
      refine gIcmpYes (pc' := 57) W1141 at_41 (flt (by decide)).2.2.2 (by decide) rfl ?_
      refine gIload W1141 at_57 rfl rfl ?_
      refine gIconst (z := (2 : Int32)) W1141 at_59 rfl rfl ?_
      refine gIcmpYes (pc' := 76) W1141 at_60 (flt (by decide)).2.2.2 (by decide) rfl ?_
      refine gIload W1141 at_76 rfl rfl ?_
      refine gIconst (z := (3 : Int32)) W1141 at_78 rfl rfl ?_
      refine gIcmpYes (pc' := 95) W1141 at_79 (flt (by decide)).2.2.2 (by decide) rfl ?_
      refine gIload W1141 at_95 rfl rfl ?_
      refine gIconst (z := (4 : Int32)) W1141 at_97 rfl rfl ?_
      refine gIcmpYes (pc' := 114) W1141 at_98 (flt (by decide)).2.2.2 (by decide) rfl ?_
      refine gIload W1141 at_114 rfl rfl ?_
      refine gIconst (z := (5 : Int32)) W1141 at_116 rfl rfl ?_
      refine gIcmpYes (pc' := 133) W1141 at_117 (flt (by decide)).2.2.2 (by decide) rfl ?_
      refine gIload W1141 at_133 rfl rfl ?_
      refine gBipush (z := (6 : Int32)) W1141 at_135 rfl rfl ?_
      refine gIcmpYes (pc' := 155) W1141 at_137 (flt (by decide)).2.2.2 (by decide) rfl ?_
      refine wNewO W1141 at_155 (ow5 hw) (ow6 hw) (ow7 hw) (by decide) (by decide) rfl fun T1146 h1148 a1149 W1147 E1150 g1151 A1152 D1153  => ?_
      have f1154 : Fld Z h1148 a1149 "java/lang/String" "value" "[B" .null := D1153 (Or.inr (ow20 hw)) (ty := .array .byte) (by decide)
      have f1155 : Fld Z h1148 a1149 "java/lang/String" "coder" "B" (.int (0 : Int32)) := D1153 (Or.inr (ow21 hw)) (ty := .byte) (by decide)
      refine gDup W1147 at_158 rfl rfl ?_
      refine gAload W1147 at_159 rfl rfl rfl ?_
      have f1156 := f1145.ext E1150
      refine wSpecial (y := (⟨"java/lang/String", "<init>", "([C)V"⟩ : MethodName)) (Wd := 1) (a := a1149) (argsL := [(.ref r1125)]) (rest := [(.ref a1149)]) W1147 at_161 rfl (ow8 hw) (ow9 hw) (ow10 hw) (by decide) (strPay hw hE a1149 r1125 (1 : Int32) [v1137] 1 1 A1152 f1154 f1155 f1156 (SC.ext W1147.old.2) hz rfl (show Int32.toNatClampNeg (1 : Int32) = 1 from by decide) (show 0 < 1 from by decide) (show 1 ≤ 536870912 from by decide) (all1 f1138.2 alln) (by decide) (by decide)) (by simp) rfl (lenOf opd9 rfl) rfl (Nat.le_of_eq rfl) (by decide) (by decide) rfl fun v1161 so1162 T1157 h1159 W1158 kp1160 sp1163 q1164 => ?_
      obtain ⟨t1165, kb1166, rfl, rfl, f1167, f1168, f1169, f1170, f1171⟩ := q1164
      show Go K _ T1157 164 #[.val (.int p0), .val (.int p1), .val (.int p2), .val (.int p3), .val (.int v1068), .val (.int (1 : Int32)), .val (.ref r1125), .unset, .unset] [(.ref a1149)]
      have f1172 : Str Z h1159 a1149 [v1137] := Str.mk (cs := [v1137]) f1168 f1169 f1170 f1171 (show _ = Int32.ofNat 1 from by decide) (all1 f1138 alln) (show 1 ≤ 4000 from by decide)
      refine gAstore (ls' := #[.val (.int p0), .val (.int p1), .val (.int p2), .val (.int p3), .val (.int v1068), .val (.int (1 : Int32)), .val (.ref r1125), .val (.ref a1149), .unset]) W1158 at_164 rfl rfl rfl ?_
      exact k1074 _ _ (a1149) (r1125) ([v1137]) ((W1158.mono (by decide) (by decide)).less (by simp)) f1172
    · refine wStatic (y := (⟨"com/example/tidewire/tidewire/message/PriorityOfWireNamePinLaw", "alloc", "(I)[C"⟩ : MethodName)) (Wd := 0) (argsL := [(.int (2 : Int32))]) (rest := []) W at_15 (ow0 hw) (ow1 hw) (ow2 hw) (ow3 hw) (by decide) (Cb.ct (orm_al2 l Z a0 hw hE  h W.old  ) (ow3 hw) (ow2 hw) hE (by decide) (by decide)) (by simp) rfl (lenOf opd8 rfl) rfl (Nat.le_of_eq rfl) (by decide) (by decide) rfl fun v1177 so1178 T1173 h1175 W1174 kp1176 sp1179 q1180 => ?_
      obtain ⟨r1181, kC1182, rfl, rfl, f1183, f1184⟩ := q1180
      show Go K _ T1173 18 #[.val (.int p0), .val (.int p1), .val (.int p2), .val (.int p3), .val (.int v1068), .val (.int (2 : Int32)), .unset, .unset, .unset] [(.ref r1181)]
      refine gAstore (ls' := #[.val (.int p0), .val (.int p1), .val (.int p2), .val (.int p3), .val (.int v1068), .val (.int (2 : Int32)), .val (.ref r1181), .unset, .unset]) W1174 at_18 rfl rfl rfl ?_
      refine gIload W1174 at_20 rfl rfl ?_
      refine gIfNo W1174 at_22 ((if0 _ _).trans (tlt (by decide)).2.2.2) rfl ?_
      refine gAload W1174 at_25 rfl rfl rfl ?_
      refine gIconst (z := (0 : Int32)) W1174 at_27 rfl rfl ?_
      refine gIconst (z := (0 : Int32)) W1174 at_28 rfl rfl ?_
      refine gIload W1174 at_29 rfl rfl ?_
      refine gIloadN W1174 at_31 rfl rfl ?_
      refine gIloadN W1174 at_32 rfl rfl ?_
      refine gIloadN W1174 at_33 rfl rfl ?_
      refine wStatic (y := (⟨"com/example/tidewire/tidewire/message/PriorityOfWireNamePinLaw", "at", "(IIIII)C"⟩ : MethodName)) (Wd := 2) (argsL := [(.int (0 : Int32)), (.int v1068), (.int p1), (.int p2), (.int p3)]) (rest := [(.int (0 : Int32)), (.ref r1181)]) W1174 at_34 (ow75 hw) (ow76 hw) (ow2 hw) (ow77 hw) (by decide) (Cb.ct (orm_at0 l Z a0 hw hE (v1068) (p1) (p2) (p3) (z) (fm) h1175 W1174.old SC hz SF rf ) (ow77 hw) (ow2 hw) hE (by decide) (by decide)) (by simp) rfl (lenOf opd10 rfl) rfl (Nat.le_of_eq rfl) (by decide) (by decide) rfl fun v1189 so1190 T1185 h1187 W1186 kp1188 sp1191 q1192 => ?_
      obtain ⟨v1193, rfl, rfl, f1194⟩ := q1192
      show Go K _ T1185 37 #[.val (.int p0), .val (.int p1), .val (.int p2), .val (.int p3), .val (.int v1068), .val (.int (2 : Int32)), .val (.ref r1181), .unset, .unset] [(.int v1193), (.int (0 : Int32)), (.ref r1181)]
      have f1195 := f1184.keep kp1188 nin0
      refine wStC W1186 at_37 (by simp) f1195 (by decide) f1194.nar 0 (by decide) (show 0 < 2 from by decide) rfl fun T1196 h1198 W1197 wr1199 A1200 => ?_
      have f1201 : Arv Z h1198 r1181 kC1182 .char (2 : Int32) [(.int v1193), (.int (0 : Int32))] (.int 0) := A1200
      refine gIload W1197 at_38 rfl rfl ?_
      refine gIconst (z := (1 : Int32)) W1197 at_40 rfl rfl ?_
      refine gIcmpNo W1197 at_41 (tlt (by decide)).2.2.2 rfl ?_
      refine gAload W1197 at_44 rfl rfl rfl ?_
      refine gIconst (z := (1 : Int32)) W1197 at_46 rfl rfl ?_
      refine gIconst (z := (1 : Int32)) W1197 at_47 rfl rfl ?_
      refine gIload W1197 at_48 rfl rfl ?_
      refine gIloadN W1197 at_50 rfl rfl ?_
      refine gIloadN W1197 at_51 rfl rfl ?_
      refine gIloadN W1197 at_52 rfl rfl ?_
      refine wStatic (y := (⟨"com/example/tidewire/tidewire/message/PriorityOfWireNamePinLaw", "at", "(IIIII)C"⟩ : MethodName)) (Wd := 2) (argsL := [(.int (1 : Int32)), (.int v1068), (.int p1), (.int p2), (.int p3)]) (rest := [(.int (1 : Int32)), (.ref r1181)]) W1197 at_53 (ow75 hw) (ow76 hw) (ow2 hw) (ow77 hw) (by decide) (Cb.ct (orm_at1 l Z a0 hw hE (v1068) (p1) (p2) (p3) (z) (fm) h1198 W1197.old SC hz SF rf ) (ow77 hw) (ow2 hw) hE (by decide) (by decide)) (by simp) rfl (lenOf opd10 rfl) rfl (Nat.le_of_eq rfl) (by decide) (by decide) rfl fun v1206 so1207 T1202 h1204 W1203 kp1205 sp1208 q1209 => ?_
      obtain ⟨v1210, rfl, rfl, f1211⟩ := q1209
      show Go K _ T1202 56 #[.val (.int p0), .val (.int p1), .val (.int p2), .val (.int p3), .val (.int v1068), .val (.int (2 : Int32)), .val (.ref r1181), .unset, .unset] [(.int v1210), (.int (1 : Int32)), (.ref r1181)]
      have f1212 := f1201.keep kp1205 nin0
      refine wStC W1203 at_56 (by simp) f1212 (by decide) f1211.nar 1 (by decide) (show 1 < 2 from by decide) rfl fun T1213 h1215 W1214 wr1216 A1217 => ?_
      have f1218 : Arv Z h1215 r1181 kC1182 .char (2 : Int32) [(.int v1193), (.int v1210)] (.int 0) := A1217
      refine gIload W1214 at_57 rfl rfl ?_
      refine gIconst (z := (2 : Int32)) W1214 at_59 rfl rfl ?_
      refine gIcmpYes (pc' := 76) W1214 at_60 (flt (by decide)).2.2.2 (by decide) rfl ?_
      refine gIload W1214 at_76 rfl rfl ?_
      refine gIconst (z := (3 : Int32)) W1214 at_78 rfl rfl ?_
      refine gIcmpYes (pc' := 95) W1214 at_79 (flt (by decide)).2.2.2 (by decide) rfl ?_
      refine gIload W1214 at_95 rfl rfl ?_
      refine gIconst (z := (4 : Int32)) W1214 at_97 rfl rfl ?_
      refine gIcmpYes (pc' := 114) W1214 at_98 (flt (by decide)).2.2.2 (by decide) rfl ?_
      refine gIload W1214 at_114 rfl rfl ?_
      refine gIconst (z := (5 : Int32)) W1214 at_116 rfl rfl ?_
      refine gIcmpYes (pc' := 133) W1214 at_117 (flt (by decide)).2.2.2 (by decide) rfl ?_
      refine gIload W1214 at_133 rfl rfl ?_
      refine gBipush (z := (6 : Int32)) W1214 at_135 rfl rfl ?_
      refine gIcmpYes (pc' := 155) W1214 at_137 (flt (by decide)).2.2.2 (by decide) rfl ?_
      refine wNewO W1214 at_155 (ow5 hw) (ow6 hw) (ow7 hw) (by decide) (by decide) rfl fun T1219 h1221 a1222 W1220 E1223 g1224 A1225 D1226  => ?_
      have f1227 : Fld Z h1221 a1222 "java/lang/String" "value" "[B" .null := D1226 (Or.inr (ow20 hw)) (ty := .array .byte) (by decide)
      have f1228 : Fld Z h1221 a1222 "java/lang/String" "coder" "B" (.int (0 : Int32)) := D1226 (Or.inr (ow21 hw)) (ty := .byte) (by decide)
      refine gDup W1220 at_158 rfl rfl ?_
      refine gAload W1220 at_159 rfl rfl rfl ?_
      have f1229 := f1218.ext E1223
      refine wSpecial (y := (⟨"java/lang/String", "<init>", "([C)V"⟩ : MethodName)) (Wd := 1) (a := a1222) (argsL := [(.ref r1181)]) (rest := [(.ref a1222)]) W1220 at_161 rfl (ow8 hw) (ow9 hw) (ow10 hw) (by decide) (strPay hw hE a1222 r1181 (2 : Int32) [v1193, v1210] 2 1 A1225 f1227 f1228 f1229 (SC.ext W1220.old.2) hz rfl (show Int32.toNatClampNeg (2 : Int32) = 2 from by decide) (show 0 < 2 from by decide) (show 2 ≤ 536870912 from by decide) (all1 f1194.2 (all1 f1211.2 alln)) (by decide) (by decide)) (by simp) rfl (lenOf opd9 rfl) rfl (Nat.le_of_eq rfl) (by decide) (by decide) rfl fun v1234 so1235 T1230 h1232 W1231 kp1233 sp1236 q1237 => ?_
      obtain ⟨t1238, kb1239, rfl, rfl, f1240, f1241, f1242, f1243, f1244⟩ := q1237
      show Go K _ T1230 164 #[.val (.int p0), .val (.int p1), .val (.int p2), .val (.int p3), .val (.int v1068), .val (.int (2 : Int32)), .val (.ref r1181), .unset, .unset] [(.ref a1222)]
      have f1245 : Str Z h1232 a1222 [v1193, v1210] := Str.mk (cs := [v1193, v1210]) f1241 f1242 f1243 f1244 (show _ = Int32.ofNat 2 from by decide) (all1 f1194 (all1 f1211 alln)) (show 2 ≤ 4000 from by decide)
      refine gAstore (ls' := #[.val (.int p0), .val (.int p1), .val (.int p2), .val (.int p3), .val (.int v1068), .val (.int (2 : Int32)), .val (.ref r1181), .val (.ref a1222), .unset]) W1231 at_164 rfl rfl rfl ?_
      exact k1074 _ _ (a1222) (r1181) ([v1193, v1210]) ((W1231.mono (by decide) (by decide)).less (by simp)) f1245
    · refine wStatic (y := (⟨"com/example/tidewire/tidewire/message/PriorityOfWireNamePinLaw", "alloc", "(I)[C"⟩ : MethodName)) (Wd := 0) (argsL := [(.int (3 : Int32))]) (rest := []) W at_15 (ow0 hw) (ow1 hw) (ow2 hw) (ow3 hw) (by decide) (Cb.ct (orm_al3 l Z a0 hw hE  h W.old  ) (ow3 hw) (ow2 hw) hE (by decide) (by decide)) (by simp) rfl (lenOf opd8 rfl) rfl (Nat.le_of_eq rfl) (by decide) (by decide) rfl fun v1250 so1251 T1246 h1248 W1247 kp1249 sp1252 q1253 => ?_
      obtain ⟨r1254, kC1255, rfl, rfl, f1256, f1257⟩ := q1253
      show Go K _ T1246 18 #[.val (.int p0), .val (.int p1), .val (.int p2), .val (.int p3), .val (.int v1068), .val (.int (3 : Int32)), .unset, .unset, .unset] [(.ref r1254)]
      refine gAstore (ls' := #[.val (.int p0), .val (.int p1), .val (.int p2), .val (.int p3), .val (.int v1068), .val (.int (3 : Int32)), .val (.ref r1254), .unset, .unset]) W1247 at_18 rfl rfl rfl ?_
      refine gIload W1247 at_20 rfl rfl ?_
      refine gIfNo W1247 at_22 ((if0 _ _).trans (tlt (by decide)).2.2.2) rfl ?_
      refine gAload W1247 at_25 rfl rfl rfl ?_
      refine gIconst (z := (0 : Int32)) W1247 at_27 rfl rfl ?_
      refine gIconst (z := (0 : Int32)) W1247 at_28 rfl rfl ?_
      refine gIload W1247 at_29 rfl rfl ?_
      refine gIloadN W1247 at_31 rfl rfl ?_
      refine gIloadN W1247 at_32 rfl rfl ?_
      refine gIloadN W1247 at_33 rfl rfl ?_
      refine wStatic (y := (⟨"com/example/tidewire/tidewire/message/PriorityOfWireNamePinLaw", "at", "(IIIII)C"⟩ : MethodName)) (Wd := 2) (argsL := [(.int (0 : Int32)), (.int v1068), (.int p1), (.int p2), (.int p3)]) (rest := [(.int (0 : Int32)), (.ref r1254)]) W1247 at_34 (ow75 hw) (ow76 hw) (ow2 hw) (ow77 hw) (by decide) (Cb.ct (orm_at0 l Z a0 hw hE (v1068) (p1) (p2) (p3) (z) (fm) h1248 W1247.old SC hz SF rf ) (ow77 hw) (ow2 hw) hE (by decide) (by decide)) (by simp) rfl (lenOf opd10 rfl) rfl (Nat.le_of_eq rfl) (by decide) (by decide) rfl fun v1262 so1263 T1258 h1260 W1259 kp1261 sp1264 q1265 => ?_
      obtain ⟨v1266, rfl, rfl, f1267⟩ := q1265
      show Go K _ T1258 37 #[.val (.int p0), .val (.int p1), .val (.int p2), .val (.int p3), .val (.int v1068), .val (.int (3 : Int32)), .val (.ref r1254), .unset, .unset] [(.int v1266), (.int (0 : Int32)), (.ref r1254)]
      have f1268 := f1257.keep kp1261 nin0
      refine wStC W1259 at_37 (by simp) f1268 (by decide) f1267.nar 0 (by decide) (show 0 < 3 from by decide) rfl fun T1269 h1271 W1270 wr1272 A1273 => ?_
      have f1274 : Arv Z h1271 r1254 kC1255 .char (3 : Int32) [(.int v1266), (.int (0 : Int32)), (.int (0 : Int32))] (.int 0) := A1273
      refine gIload W1270 at_38 rfl rfl ?_
      refine gIconst (z := (1 : Int32)) W1270 at_40 rfl rfl ?_
      refine gIcmpNo W1270 at_41 (tlt (by decide)).2.2.2 rfl ?_
      refine gAload W1270 at_44 rfl rfl rfl ?_
      refine gIconst (z := (1 : Int32)) W1270 at_46 rfl rfl ?_
      refine gIconst (z := (1 : Int32)) W1270 at_47 rfl rfl ?_
      refine gIload W1270 at_48 rfl rfl ?_
      refine gIloadN W1270 at_50 rfl rfl ?_
      refine gIloadN W1270 at_51 rfl rfl ?_
      refine gIloadN W1270 at_52 rfl rfl ?_
      refine wStatic (y := (⟨"com/example/tidewire/tidewire/message/PriorityOfWireNamePinLaw", "at", "(IIIII)C"⟩ : MethodName)) (Wd := 2) (argsL := [(.int (1 : Int32)), (.int v1068), (.int p1), (.int p2), (.int p3)]) (rest := [(.int (1 : Int32)), (.ref r1254)]) W1270 at_53 (ow75 hw) (ow76 hw) (ow2 hw) (ow77 hw) (by decide) (Cb.ct (orm_at1 l Z a0 hw hE (v1068) (p1) (p2) (p3) (z) (fm) h1271 W1270.old SC hz SF rf ) (ow77 hw) (ow2 hw) hE (by decide) (by decide)) (by simp) rfl (lenOf opd10 rfl) rfl (Nat.le_of_eq rfl) (by decide) (by decide) rfl fun v1279 so1280 T1275 h1277 W1276 kp1278 sp1281 q1282 => ?_
      obtain ⟨v1283, rfl, rfl, f1284⟩ := q1282
      show Go K _ T1275 56 #[.val (.int p0), .val (.int p1), .val (.int p2), .val (.int p3), .val (.int v1068), .val (.int (3 : Int32)), .val (.ref r1254), .unset, .unset] [(.int v1283), (.int (1 : Int32)), (.ref r1254)]
      have f1285 := f1274.keep kp1278 nin0
      refine wStC W1276 at_56 (by simp) f1285 (by decide) f1284.nar 1 (by decide) (show 1 < 3 from by decide) rfl fun T1286 h1288 W1287 wr1289 A1290 => ?_
      have f1291 : Arv Z h1288 r1254 kC1255 .char (3 : Int32) [(.int v1266), (.int v1283), (.int (0 : Int32))] (.int 0) := A1290
      refine gIload W1287 at_57 rfl rfl ?_
      refine gIconst (z := (2 : Int32)) W1287 at_59 rfl rfl ?_
      refine gIcmpNo W1287 at_60 (tlt (by decide)).2.2.2 rfl ?_
      refine gAload W1287 at_63 rfl rfl rfl ?_
      refine gIconst (z := (2 : Int32)) W1287 at_65 rfl rfl ?_
      refine gIconst (z := (2 : Int32)) W1287 at_66 rfl rfl ?_
      refine gIload W1287 at_67 rfl rfl ?_
      refine gIloadN W1287 at_69 rfl rfl ?_
      refine gIloadN W1287 at_70 rfl rfl ?_
      refine gIloadN W1287 at_71 rfl rfl ?_
      refine wStatic (y := (⟨"com/example/tidewire/tidewire/message/PriorityOfWireNamePinLaw", "at", "(IIIII)C"⟩ : MethodName)) (Wd := 2) (argsL := [(.int (2 : Int32)), (.int v1068), (.int p1), (.int p2), (.int p3)]) (rest := [(.int (2 : Int32)), (.ref r1254)]) W1287 at_72 (ow75 hw) (ow76 hw) (ow2 hw) (ow77 hw) (by decide) (Cb.ct (orm_at2 l Z a0 hw hE (v1068) (p1) (p2) (p3) (z) (fm) h1288 W1287.old SC hz SF rf ) (ow77 hw) (ow2 hw) hE (by decide) (by decide)) (by simp) rfl (lenOf opd10 rfl) rfl (Nat.le_of_eq rfl) (by decide) (by decide) rfl fun v1296 so1297 T1292 h1294 W1293 kp1295 sp1298 q1299 => ?_
      obtain ⟨v1300, rfl, rfl, f1301⟩ := q1299
      show Go K _ T1292 75 #[.val (.int p0), .val (.int p1), .val (.int p2), .val (.int p3), .val (.int v1068), .val (.int (3 : Int32)), .val (.ref r1254), .unset, .unset] [(.int v1300), (.int (2 : Int32)), (.ref r1254)]
      have f1302 := f1291.keep kp1295 nin0
      refine wStC W1293 at_75 (by simp) f1302 (by decide) f1301.nar 2 (by decide) (show 2 < 3 from by decide) rfl fun T1303 h1305 W1304 wr1306 A1307 => ?_
      have f1308 : Arv Z h1305 r1254 kC1255 .char (3 : Int32) [(.int v1266), (.int v1283), (.int v1300)] (.int 0) := A1307
      refine gIload W1304 at_76 rfl rfl ?_
      refine gIconst (z := (3 : Int32)) W1304 at_78 rfl rfl ?_
      refine gIcmpYes (pc' := 95) W1304 at_79 (flt (by decide)).2.2.2 (by decide) rfl ?_
      refine gIload W1304 at_95 rfl rfl ?_
      refine gIconst (z := (4 : Int32)) W1304 at_97 rfl rfl ?_
      refine gIcmpYes (pc' := 114) W1304 at_98 (flt (by decide)).2.2.2 (by decide) rfl ?_
      refine gIload W1304 at_114 rfl rfl ?_
      refine gIconst (z := (5 : Int32)) W1304 at_116 rfl rfl ?_
      refine gIcmpYes (pc' := 133) W1304 at_117 (flt (by decide)).2.2.2 (by decide) rfl ?_
      refine gIload W1304 at_133 rfl rfl ?_
      refine gBipush (z := (6 : Int32)) W1304 at_135 rfl rfl ?_
      refine gIcmpYes (pc' := 155) W1304 at_137 (flt (by decide)).2.2.2 (by decide) rfl ?_
      refine wNewO W1304 at_155 (ow5 hw) (ow6 hw) (ow7 hw) (by decide) (by decide) rfl fun T1309 h1311 a1312 W1310 E1313 g1314 A1315 D1316  => ?_
      have f1317 : Fld Z h1311 a1312 "java/lang/String" "value" "[B" .null := D1316 (Or.inr (ow20 hw)) (ty := .array .byte) (by decide)
      have f1318 : Fld Z h1311 a1312 "java/lang/String" "coder" "B" (.int (0 : Int32)) := D1316 (Or.inr (ow21 hw)) (ty := .byte) (by decide)
      refine gDup W1310 at_158 rfl rfl ?_
      refine gAload W1310 at_159 rfl rfl rfl ?_
      have f1319 := f1308.ext E1313
      refine wSpecial (y := (⟨"java/lang/String", "<init>", "([C)V"⟩ : MethodName)) (Wd := 1) (a := a1312) (argsL := [(.ref r1254)]) (rest := [(.ref a1312)]) W1310 at_161 rfl (ow8 hw) (ow9 hw) (ow10 hw) (by decide) (strPay hw hE a1312 r1254 (3 : Int32) [v1266, v1283, v1300] 3 1 A1315 f1317 f1318 f1319 (SC.ext W1310.old.2) hz rfl (show Int32.toNatClampNeg (3 : Int32) = 3 from by decide) (show 0 < 3 from by decide) (show 3 ≤ 536870912 from by decide) (all1 f1267.2 (all1 f1284.2 (all1 f1301.2 alln))) (by decide) (by decide)) (by simp) rfl (lenOf opd9 rfl) rfl (Nat.le_of_eq rfl) (by decide) (by decide) rfl fun v1324 so1325 T1320 h1322 W1321 kp1323 sp1326 q1327 => ?_
      obtain ⟨t1328, kb1329, rfl, rfl, f1330, f1331, f1332, f1333, f1334⟩ := q1327
      show Go K _ T1320 164 #[.val (.int p0), .val (.int p1), .val (.int p2), .val (.int p3), .val (.int v1068), .val (.int (3 : Int32)), .val (.ref r1254), .unset, .unset] [(.ref a1312)]
      have f1335 : Str Z h1322 a1312 [v1266, v1283, v1300] := Str.mk (cs := [v1266, v1283, v1300]) f1331 f1332 f1333 f1334 (show _ = Int32.ofNat 3 from by decide) (all1 f1267 (all1 f1284 (all1 f1301 alln))) (show 3 ≤ 4000 from by decide)
      refine gAstore (ls' := #[.val (.int p0), .val (.int p1), .val (.int p2), .val (.int p3), .val (.int v1068), .val (.int (3 : Int32)), .val (.ref r1254), .val (.ref a1312), .unset]) W1321 at_164 rfl rfl rfl ?_
      exact k1074 _ _ (a1312) (r1254) ([v1266, v1283, v1300]) ((W1321.mono (by decide) (by decide)).less (by simp)) f1335
    · refine wStatic (y := (⟨"com/example/tidewire/tidewire/message/PriorityOfWireNamePinLaw", "alloc", "(I)[C"⟩ : MethodName)) (Wd := 0) (argsL := [(.int (4 : Int32))]) (rest := []) W at_15 (ow0 hw) (ow1 hw) (ow2 hw) (ow3 hw) (by decide) (Cb.ct (orm_al4 l Z a0 hw hE  h W.old  ) (ow3 hw) (ow2 hw) hE (by decide) (by decide)) (by simp) rfl (lenOf opd8 rfl) rfl (Nat.le_of_eq rfl) (by decide) (by decide) rfl fun v1340 so1341 T1336 h1338 W1337 kp1339 sp1342 q1343 => ?_
      obtain ⟨r1344, kC1345, rfl, rfl, f1346, f1347⟩ := q1343
      show Go K _ T1336 18 #[.val (.int p0), .val (.int p1), .val (.int p2), .val (.int p3), .val (.int v1068), .val (.int (4 : Int32)), .unset, .unset, .unset] [(.ref r1344)]
      refine gAstore (ls' := #[.val (.int p0), .val (.int p1), .val (.int p2), .val (.int p3), .val (.int v1068), .val (.int (4 : Int32)), .val (.ref r1344), .unset, .unset]) W1337 at_18 rfl rfl rfl ?_
      refine gIload W1337 at_20 rfl rfl ?_
      refine gIfNo W1337 at_22 ((if0 _ _).trans (tlt (by decide)).2.2.2) rfl ?_
      refine gAload W1337 at_25 rfl rfl rfl ?_
      refine gIconst (z := (0 : Int32)) W1337 at_27 rfl rfl ?_
      refine gIconst (z := (0 : Int32)) W1337 at_28 rfl rfl ?_
      refine gIload W1337 at_29 rfl rfl ?_
      refine gIloadN W1337 at_31 rfl rfl ?_
      refine gIloadN W1337 at_32 rfl rfl ?_
      refine gIloadN W1337 at_33 rfl rfl ?_
      refine wStatic (y := (⟨"com/example/tidewire/tidewire/message/PriorityOfWireNamePinLaw", "at", "(IIIII)C"⟩ : MethodName)) (Wd := 2) (argsL := [(.int (0 : Int32)), (.int v1068), (.int p1), (.int p2), (.int p3)]) (rest := [(.int (0 : Int32)), (.ref r1344)]) W1337 at_34 (ow75 hw) (ow76 hw) (ow2 hw) (ow77 hw) (by decide) (Cb.ct (orm_at0 l Z a0 hw hE (v1068) (p1) (p2) (p3) (z) (fm) h1338 W1337.old SC hz SF rf ) (ow77 hw) (ow2 hw) hE (by decide) (by decide)) (by simp) rfl (lenOf opd10 rfl) rfl (Nat.le_of_eq rfl) (by decide) (by decide) rfl fun v1352 so1353 T1348 h1350 W1349 kp1351 sp1354 q1355 => ?_
      obtain ⟨v1356, rfl, rfl, f1357⟩ := q1355
      show Go K _ T1348 37 #[.val (.int p0), .val (.int p1), .val (.int p2), .val (.int p3), .val (.int v1068), .val (.int (4 : Int32)), .val (.ref r1344), .unset, .unset] [(.int v1356), (.int (0 : Int32)), (.ref r1344)]
      have f1358 := f1347.keep kp1351 nin0
      refine wStC W1349 at_37 (by simp) f1358 (by decide) f1357.nar 0 (by decide) (show 0 < 4 from by decide) rfl fun T1359 h1361 W1360 wr1362 A1363 => ?_
      have f1364 : Arv Z h1361 r1344 kC1345 .char (4 : Int32) [(.int v1356), (.int (0 : Int32)), (.int (0 : Int32)), (.int (0 : Int32))] (.int 0) := A1363
      refine gIload W1360 at_38 rfl rfl ?_
      refine gIconst (z := (1 : Int32)) W1360 at_40 rfl rfl ?_
      refine gIcmpNo W1360 at_41 (tlt (by decide)).2.2.2 rfl ?_
      refine gAload W1360 at_44 rfl rfl rfl ?_
      refine gIconst (z := (1 : Int32)) W1360 at_46 rfl rfl ?_
      refine gIconst (z := (1 : Int32)) W1360 at_47 rfl rfl ?_
      refine gIload W1360 at_48 rfl rfl ?_
      refine gIloadN W1360 at_50 rfl rfl ?_
      refine gIloadN W1360 at_51 rfl rfl ?_
      refine gIloadN W1360 at_52 rfl rfl ?_
      refine wStatic (y := (⟨"com/example/tidewire/tidewire/message/PriorityOfWireNamePinLaw", "at", "(IIIII)C"⟩ : MethodName)) (Wd := 2) (argsL := [(.int (1 : Int32)), (.int v1068), (.int p1), (.int p2), (.int p3)]) (rest := [(.int (1 : Int32)), (.ref r1344)]) W1360 at_53 (ow75 hw) (ow76 hw) (ow2 hw) (ow77 hw) (by decide) (Cb.ct (orm_at1 l Z a0 hw hE (v1068) (p1) (p2) (p3) (z) (fm) h1361 W1360.old SC hz SF rf ) (ow77 hw) (ow2 hw) hE (by decide) (by decide)) (by simp) rfl (lenOf opd10 rfl) rfl (Nat.le_of_eq rfl) (by decide) (by decide) rfl fun v1369 so1370 T1365 h1367 W1366 kp1368 sp1371 q1372 => ?_
      obtain ⟨v1373, rfl, rfl, f1374⟩ := q1372
      show Go K _ T1365 56 #[.val (.int p0), .val (.int p1), .val (.int p2), .val (.int p3), .val (.int v1068), .val (.int (4 : Int32)), .val (.ref r1344), .unset, .unset] [(.int v1373), (.int (1 : Int32)), (.ref r1344)]
      have f1375 := f1364.keep kp1368 nin0
      refine wStC W1366 at_56 (by simp) f1375 (by decide) f1374.nar 1 (by decide) (show 1 < 4 from by decide) rfl fun T1376 h1378 W1377 wr1379 A1380 => ?_
      have f1381 : Arv Z h1378 r1344 kC1345 .char (4 : Int32) [(.int v1356), (.int v1373), (.int (0 : Int32)), (.int (0 : Int32))] (.int 0) := A1380
      refine gIload W1377 at_57 rfl rfl ?_
      refine gIconst (z := (2 : Int32)) W1377 at_59 rfl rfl ?_
      refine gIcmpNo W1377 at_60 (tlt (by decide)).2.2.2 rfl ?_
      refine gAload W1377 at_63 rfl rfl rfl ?_
      refine gIconst (z := (2 : Int32)) W1377 at_65 rfl rfl ?_
      refine gIconst (z := (2 : Int32)) W1377 at_66 rfl rfl ?_
      refine gIload W1377 at_67 rfl rfl ?_
      refine gIloadN W1377 at_69 rfl rfl ?_
      refine gIloadN W1377 at_70 rfl rfl ?_
      refine gIloadN W1377 at_71 rfl rfl ?_
      refine wStatic (y := (⟨"com/example/tidewire/tidewire/message/PriorityOfWireNamePinLaw", "at", "(IIIII)C"⟩ : MethodName)) (Wd := 2) (argsL := [(.int (2 : Int32)), (.int v1068), (.int p1), (.int p2), (.int p3)]) (rest := [(.int (2 : Int32)), (.ref r1344)]) W1377 at_72 (ow75 hw) (ow76 hw) (ow2 hw) (ow77 hw) (by decide) (Cb.ct (orm_at2 l Z a0 hw hE (v1068) (p1) (p2) (p3) (z) (fm) h1378 W1377.old SC hz SF rf ) (ow77 hw) (ow2 hw) hE (by decide) (by decide)) (by simp) rfl (lenOf opd10 rfl) rfl (Nat.le_of_eq rfl) (by decide) (by decide) rfl fun v1386 so1387 T1382 h1384 W1383 kp1385 sp1388 q1389 => ?_
      obtain ⟨v1390, rfl, rfl, f1391⟩ := q1389
      show Go K _ T1382 75 #[.val (.int p0), .val (.int p1), .val (.int p2), .val (.int p3), .val (.int v1068), .val (.int (4 : Int32)), .val (.ref r1344), .unset, .unset] [(.int v1390), (.int (2 : Int32)), (.ref r1344)]
      have f1392 := f1381.keep kp1385 nin0
      refine wStC W1383 at_75 (by simp) f1392 (by decide) f1391.nar 2 (by decide) (show 2 < 4 from by decide) rfl fun T1393 h1395 W1394 wr1396 A1397 => ?_
      have f1398 : Arv Z h1395 r1344 kC1345 .char (4 : Int32) [(.int v1356), (.int v1373), (.int v1390), (.int (0 : Int32))] (.int 0) := A1397
      refine gIload W1394 at_76 rfl rfl ?_
      refine gIconst (z := (3 : Int32)) W1394 at_78 rfl rfl ?_
      refine gIcmpNo W1394 at_79 (tlt (by decide)).2.2.2 rfl ?_
      refine gAload W1394 at_82 rfl rfl rfl ?_
      refine gIconst (z := (3 : Int32)) W1394 at_84 rfl rfl ?_
      refine gIconst (z := (3 : Int32)) W1394 at_85 rfl rfl ?_
      refine gIload W1394 at_86 rfl rfl ?_
      refine gIloadN W1394 at_88 rfl rfl ?_
      refine gIloadN W1394 at_89 rfl rfl ?_
      refine gIloadN W1394 at_90 rfl rfl ?_
      refine wStatic (y := (⟨"com/example/tidewire/tidewire/message/PriorityOfWireNamePinLaw", "at", "(IIIII)C"⟩ : MethodName)) (Wd := 2) (argsL := [(.int (3 : Int32)), (.int v1068), (.int p1), (.int p2), (.int p3)]) (rest := [(.int (3 : Int32)), (.ref r1344)]) W1394 at_91 (ow75 hw) (ow76 hw) (ow2 hw) (ow77 hw) (by decide) (Cb.ct (orm_at3 l Z a0 hw hE (v1068) (p1) (p2) (p3) (z) (fm) h1395 W1394.old SC hz SF rf ) (ow77 hw) (ow2 hw) hE (by decide) (by decide)) (by simp) rfl (lenOf opd10 rfl) rfl (Nat.le_of_eq rfl) (by decide) (by decide) rfl fun v1403 so1404 T1399 h1401 W1400 kp1402 sp1405 q1406 => ?_
      obtain ⟨v1407, rfl, rfl, f1408⟩ := q1406
      show Go K _ T1399 94 #[.val (.int p0), .val (.int p1), .val (.int p2), .val (.int p3), .val (.int v1068), .val (.int (4 : Int32)), .val (.ref r1344), .unset, .unset] [(.int v1407), (.int (3 : Int32)), (.ref r1344)]
      have f1409 := f1398.keep kp1402 nin0
      refine wStC W1400 at_94 (by simp) f1409 (by decide) f1408.nar 3 (by decide) (show 3 < 4 from by decide) rfl fun T1410 h1412 W1411 wr1413 A1414 => ?_
      have f1415 : Arv Z h1412 r1344 kC1345 .char (4 : Int32) [(.int v1356), (.int v1373), (.int v1390), (.int v1407)] (.int 0) := A1414
      refine gIload W1411 at_95 rfl rfl ?_
      refine gIconst (z := (4 : Int32)) W1411 at_97 rfl rfl ?_
      refine gIcmpYes (pc' := 114) W1411 at_98 (flt (by decide)).2.2.2 (by decide) rfl ?_
      refine gIload W1411 at_114 rfl rfl ?_
      refine gIconst (z := (5 : Int32)) W1411 at_116 rfl rfl ?_
      refine gIcmpYes (pc' := 133) W1411 at_117 (flt (by decide)).2.2.2 (by decide) rfl ?_
      refine gIload W1411 at_133 rfl rfl ?_
      refine gBipush (z := (6 : Int32)) W1411 at_135 rfl rfl ?_
      refine gIcmpYes (pc' := 155) W1411 at_137 (flt (by decide)).2.2.2 (by decide) rfl ?_
      refine wNewO W1411 at_155 (ow5 hw) (ow6 hw) (ow7 hw) (by decide) (by decide) rfl fun T1416 h1418 a1419 W1417 E1420 g1421 A1422 D1423  => ?_
      have f1424 : Fld Z h1418 a1419 "java/lang/String" "value" "[B" .null := D1423 (Or.inr (ow20 hw)) (ty := .array .byte) (by decide)
      have f1425 : Fld Z h1418 a1419 "java/lang/String" "coder" "B" (.int (0 : Int32)) := D1423 (Or.inr (ow21 hw)) (ty := .byte) (by decide)
      refine gDup W1417 at_158 rfl rfl ?_
      refine gAload W1417 at_159 rfl rfl rfl ?_
      have f1426 := f1415.ext E1420
      refine wSpecial (y := (⟨"java/lang/String", "<init>", "([C)V"⟩ : MethodName)) (Wd := 1) (a := a1419) (argsL := [(.ref r1344)]) (rest := [(.ref a1419)]) W1417 at_161 rfl (ow8 hw) (ow9 hw) (ow10 hw) (by decide) (strPay hw hE a1419 r1344 (4 : Int32) [v1356, v1373, v1390, v1407] 4 1 A1422 f1424 f1425 f1426 (SC.ext W1417.old.2) hz rfl (show Int32.toNatClampNeg (4 : Int32) = 4 from by decide) (show 0 < 4 from by decide) (show 4 ≤ 536870912 from by decide) (all1 f1357.2 (all1 f1374.2 (all1 f1391.2 (all1 f1408.2 alln)))) (by decide) (by decide)) (by simp) rfl (lenOf opd9 rfl) rfl (Nat.le_of_eq rfl) (by decide) (by decide) rfl fun v1431 so1432 T1427 h1429 W1428 kp1430 sp1433 q1434 => ?_
      obtain ⟨t1435, kb1436, rfl, rfl, f1437, f1438, f1439, f1440, f1441⟩ := q1434
      show Go K _ T1427 164 #[.val (.int p0), .val (.int p1), .val (.int p2), .val (.int p3), .val (.int v1068), .val (.int (4 : Int32)), .val (.ref r1344), .unset, .unset] [(.ref a1419)]
      have f1442 : Str Z h1429 a1419 [v1356, v1373, v1390, v1407] := Str.mk (cs := [v1356, v1373, v1390, v1407]) f1438 f1439 f1440 f1441 (show _ = Int32.ofNat 4 from by decide) (all1 f1357 (all1 f1374 (all1 f1391 (all1 f1408 alln)))) (show 4 ≤ 4000 from by decide)
      refine gAstore (ls' := #[.val (.int p0), .val (.int p1), .val (.int p2), .val (.int p3), .val (.int v1068), .val (.int (4 : Int32)), .val (.ref r1344), .val (.ref a1419), .unset]) W1428 at_164 rfl rfl rfl ?_
      exact k1074 _ _ (a1419) (r1344) ([v1356, v1373, v1390, v1407]) ((W1428.mono (by decide) (by decide)).less (by simp)) f1442
    · refine wStatic (y := (⟨"com/example/tidewire/tidewire/message/PriorityOfWireNamePinLaw", "alloc", "(I)[C"⟩ : MethodName)) (Wd := 0) (argsL := [(.int (5 : Int32))]) (rest := []) W at_15 (ow0 hw) (ow1 hw) (ow2 hw) (ow3 hw) (by decide) (Cb.ct (orm_al5 l Z a0 hw hE  h W.old  ) (ow3 hw) (ow2 hw) hE (by decide) (by decide)) (by simp) rfl (lenOf opd8 rfl) rfl (Nat.le_of_eq rfl) (by decide) (by decide) rfl fun v1447 so1448 T1443 h1445 W1444 kp1446 sp1449 q1450 => ?_
      obtain ⟨r1451, kC1452, rfl, rfl, f1453, f1454⟩ := q1450
      show Go K _ T1443 18 #[.val (.int p0), .val (.int p1), .val (.int p2), .val (.int p3), .val (.int v1068), .val (.int (5 : Int32)), .unset, .unset, .unset] [(.ref r1451)]
      refine gAstore (ls' := #[.val (.int p0), .val (.int p1), .val (.int p2), .val (.int p3), .val (.int v1068), .val (.int (5 : Int32)), .val (.ref r1451), .unset, .unset]) W1444 at_18 rfl rfl rfl ?_
      refine gIload W1444 at_20 rfl rfl ?_
      refine gIfNo W1444 at_22 ((if0 _ _).trans (tlt (by decide)).2.2.2) rfl ?_
      refine gAload W1444 at_25 rfl rfl rfl ?_
      refine gIconst (z := (0 : Int32)) W1444 at_27 rfl rfl ?_
      refine gIconst (z := (0 : Int32)) W1444 at_28 rfl rfl ?_
      refine gIload W1444 at_29 rfl rfl ?_
      refine gIloadN W1444 at_31 rfl rfl ?_
      refine gIloadN W1444 at_32 rfl rfl ?_
      refine gIloadN W1444 at_33 rfl rfl ?_
      refine wStatic (y := (⟨"com/example/tidewire/tidewire/message/PriorityOfWireNamePinLaw", "at", "(IIIII)C"⟩ : MethodName)) (Wd := 2) (argsL := [(.int (0 : Int32)), (.int v1068), (.int p1), (.int p2), (.int p3)]) (rest := [(.int (0 : Int32)), (.ref r1451)]) W1444 at_34 (ow75 hw) (ow76 hw) (ow2 hw) (ow77 hw) (by decide) (Cb.ct (orm_at0 l Z a0 hw hE (v1068) (p1) (p2) (p3) (z) (fm) h1445 W1444.old SC hz SF rf ) (ow77 hw) (ow2 hw) hE (by decide) (by decide)) (by simp) rfl (lenOf opd10 rfl) rfl (Nat.le_of_eq rfl) (by decide) (by decide) rfl fun v1459 so1460 T1455 h1457 W1456 kp1458 sp1461 q1462 => ?_
      obtain ⟨v1463, rfl, rfl, f1464⟩ := q1462
      show Go K _ T1455 37 #[.val (.int p0), .val (.int p1), .val (.int p2), .val (.int p3), .val (.int v1068), .val (.int (5 : Int32)), .val (.ref r1451), .unset, .unset] [(.int v1463), (.int (0 : Int32)), (.ref r1451)]
      have f1465 := f1454.keep kp1458 nin0
      refine wStC W1456 at_37 (by simp) f1465 (by decide) f1464.nar 0 (by decide) (show 0 < 5 from by decide) rfl fun T1466 h1468 W1467 wr1469 A1470 => ?_
      have f1471 : Arv Z h1468 r1451 kC1452 .char (5 : Int32) [(.int v1463), (.int (0 : Int32)), (.int (0 : Int32)), (.int (0 : Int32)), (.int (0 : Int32))] (.int 0) := A1470
      refine gIload W1467 at_38 rfl rfl ?_
      refine gIconst (z := (1 : Int32)) W1467 at_40 rfl rfl ?_
      refine gIcmpNo W1467 at_41 (tlt (by decide)).2.2.2 rfl ?_
      refine gAload W1467 at_44 rfl rfl rfl ?_
      refine gIconst (z := (1 : Int32)) W1467 at_46 rfl rfl ?_
      refine gIconst (z := (1 : Int32)) W1467 at_47 rfl rfl ?_
      refine gIload W1467 at_48 rfl rfl ?_
      refine gIloadN W1467 at_50 rfl rfl ?_
      refine gIloadN W1467 at_51 rfl rfl ?_
      refine gIloadN W1467 at_52 rfl rfl ?_
      refine wStatic (y := (⟨"com/example/tidewire/tidewire/message/PriorityOfWireNamePinLaw", "at", "(IIIII)C"⟩ : MethodName)) (Wd := 2) (argsL := [(.int (1 : Int32)), (.int v1068), (.int p1), (.int p2), (.int p3)]) (rest := [(.int (1 : Int32)), (.ref r1451)]) W1467 at_53 (ow75 hw) (ow76 hw) (ow2 hw) (ow77 hw) (by decide) (Cb.ct (orm_at1 l Z a0 hw hE (v1068) (p1) (p2) (p3) (z) (fm) h1468 W1467.old SC hz SF rf ) (ow77 hw) (ow2 hw) hE (by decide) (by decide)) (by simp) rfl (lenOf opd10 rfl) rfl (Nat.le_of_eq rfl) (by decide) (by decide) rfl fun v1476 so1477 T1472 h1474 W1473 kp1475 sp1478 q1479 => ?_
      obtain ⟨v1480, rfl, rfl, f1481⟩ := q1479
      show Go K _ T1472 56 #[.val (.int p0), .val (.int p1), .val (.int p2), .val (.int p3), .val (.int v1068), .val (.int (5 : Int32)), .val (.ref r1451), .unset, .unset] [(.int v1480), (.int (1 : Int32)), (.ref r1451)]
      have f1482 := f1471.keep kp1475 nin0
      refine wStC W1473 at_56 (by simp) f1482 (by decide) f1481.nar 1 (by decide) (show 1 < 5 from by decide) rfl fun T1483 h1485 W1484 wr1486 A1487 => ?_
      have f1488 : Arv Z h1485 r1451 kC1452 .char (5 : Int32) [(.int v1463), (.int v1480), (.int (0 : Int32)), (.int (0 : Int32)), (.int (0 : Int32))] (.int 0) := A1487
      refine gIload W1484 at_57 rfl rfl ?_
      refine gIconst (z := (2 : Int32)) W1484 at_59 rfl rfl ?_
      refine gIcmpNo W1484 at_60 (tlt (by decide)).2.2.2 rfl ?_
      refine gAload W1484 at_63 rfl rfl rfl ?_
      refine gIconst (z := (2 : Int32)) W1484 at_65 rfl rfl ?_
      refine gIconst (z := (2 : Int32)) W1484 at_66 rfl rfl ?_
      refine gIload W1484 at_67 rfl rfl ?_
      refine gIloadN W1484 at_69 rfl rfl ?_
      refine gIloadN W1484 at_70 rfl rfl ?_
      refine gIloadN W1484 at_71 rfl rfl ?_
      refine wStatic (y := (⟨"com/example/tidewire/tidewire/message/PriorityOfWireNamePinLaw", "at", "(IIIII)C"⟩ : MethodName)) (Wd := 2) (argsL := [(.int (2 : Int32)), (.int v1068), (.int p1), (.int p2), (.int p3)]) (rest := [(.int (2 : Int32)), (.ref r1451)]) W1484 at_72 (ow75 hw) (ow76 hw) (ow2 hw) (ow77 hw) (by decide) (Cb.ct (orm_at2 l Z a0 hw hE (v1068) (p1) (p2) (p3) (z) (fm) h1485 W1484.old SC hz SF rf ) (ow77 hw) (ow2 hw) hE (by decide) (by decide)) (by simp) rfl (lenOf opd10 rfl) rfl (Nat.le_of_eq rfl) (by decide) (by decide) rfl fun v1493 so1494 T1489 h1491 W1490 kp1492 sp1495 q1496 => ?_
      obtain ⟨v1497, rfl, rfl, f1498⟩ := q1496
      show Go K _ T1489 75 #[.val (.int p0), .val (.int p1), .val (.int p2), .val (.int p3), .val (.int v1068), .val (.int (5 : Int32)), .val (.ref r1451), .unset, .unset] [(.int v1497), (.int (2 : Int32)), (.ref r1451)]
      have f1499 := f1488.keep kp1492 nin0
      refine wStC W1490 at_75 (by simp) f1499 (by decide) f1498.nar 2 (by decide) (show 2 < 5 from by decide) rfl fun T1500 h1502 W1501 wr1503 A1504 => ?_
      have f1505 : Arv Z h1502 r1451 kC1452 .char (5 : Int32) [(.int v1463), (.int v1480), (.int v1497), (.int (0 : Int32)), (.int (0 : Int32))] (.int 0) := A1504
      refine gIload W1501 at_76 rfl rfl ?_
      refine gIconst (z := (3 : Int32)) W1501 at_78 rfl rfl ?_
      refine gIcmpNo W1501 at_79 (tlt (by decide)).2.2.2 rfl ?_
      refine gAload W1501 at_82 rfl rfl rfl ?_
      refine gIconst (z := (3 : Int32)) W1501 at_84 rfl rfl ?_
      refine gIconst (z := (3 : Int32)) W1501 at_85 rfl rfl ?_
      refine gIload W1501 at_86 rfl rfl ?_
      refine gIloadN W1501 at_88 rfl rfl ?_
      refine gIloadN W1501 at_89 rfl rfl ?_
      refine gIloadN W1501 at_90 rfl rfl ?_
      refine wStatic (y := (⟨"com/example/tidewire/tidewire/message/PriorityOfWireNamePinLaw", "at", "(IIIII)C"⟩ : MethodName)) (Wd := 2) (argsL := [(.int (3 : Int32)), (.int v1068), (.int p1), (.int p2), (.int p3)]) (rest := [(.int (3 : Int32)), (.ref r1451)]) W1501 at_91 (ow75 hw) (ow76 hw) (ow2 hw) (ow77 hw) (by decide) (Cb.ct (orm_at3 l Z a0 hw hE (v1068) (p1) (p2) (p3) (z) (fm) h1502 W1501.old SC hz SF rf ) (ow77 hw) (ow2 hw) hE (by decide) (by decide)) (by simp) rfl (lenOf opd10 rfl) rfl (Nat.le_of_eq rfl) (by decide) (by decide) rfl fun v1510 so1511 T1506 h1508 W1507 kp1509 sp1512 q1513 => ?_
      obtain ⟨v1514, rfl, rfl, f1515⟩ := q1513
      show Go K _ T1506 94 #[.val (.int p0), .val (.int p1), .val (.int p2), .val (.int p3), .val (.int v1068), .val (.int (5 : Int32)), .val (.ref r1451), .unset, .unset] [(.int v1514), (.int (3 : Int32)), (.ref r1451)]
      have f1516 := f1505.keep kp1509 nin0
      refine wStC W1507 at_94 (by simp) f1516 (by decide) f1515.nar 3 (by decide) (show 3 < 5 from by decide) rfl fun T1517 h1519 W1518 wr1520 A1521 => ?_
      have f1522 : Arv Z h1519 r1451 kC1452 .char (5 : Int32) [(.int v1463), (.int v1480), (.int v1497), (.int v1514), (.int (0 : Int32))] (.int 0) := A1521
      refine gIload W1518 at_95 rfl rfl ?_
      refine gIconst (z := (4 : Int32)) W1518 at_97 rfl rfl ?_
      refine gIcmpNo W1518 at_98 (tlt (by decide)).2.2.2 rfl ?_
      refine gAload W1518 at_101 rfl rfl rfl ?_
      refine gIconst (z := (4 : Int32)) W1518 at_103 rfl rfl ?_
      refine gIconst (z := (4 : Int32)) W1518 at_104 rfl rfl ?_
      refine gIload W1518 at_105 rfl rfl ?_
      refine gIloadN W1518 at_107 rfl rfl ?_
      refine gIloadN W1518 at_108 rfl rfl ?_
      refine gIloadN W1518 at_109 rfl rfl ?_
      refine wStatic (y := (⟨"com/example/tidewire/tidewire/message/PriorityOfWireNamePinLaw", "at", "(IIIII)C"⟩ : MethodName)) (Wd := 2) (argsL := [(.int (4 : Int32)), (.int v1068), (.int p1), (.int p2), (.int p3)]) (rest := [(.int (4 : Int32)), (.ref r1451)]) W1518 at_110 (ow75 hw) (ow76 hw) (ow2 hw) (ow77 hw) (by decide) (Cb.ct (orm_at4 l Z a0 hw hE (v1068) (p1) (p2) (p3) (z) (fm) h1519 W1518.old SC hz SF rf ) (ow77 hw) (ow2 hw) hE (by decide) (by decide)) (by simp) rfl (lenOf opd10 rfl) rfl (Nat.le_of_eq rfl) (by decide) (by decide) rfl fun v1527 so1528 T1523 h1525 W1524 kp1526 sp1529 q1530 => ?_
      obtain ⟨v1531, rfl, rfl, f1532⟩ := q1530
      show Go K _ T1523 113 #[.val (.int p0), .val (.int p1), .val (.int p2), .val (.int p3), .val (.int v1068), .val (.int (5 : Int32)), .val (.ref r1451), .unset, .unset] [(.int v1531), (.int (4 : Int32)), (.ref r1451)]
      have f1533 := f1522.keep kp1526 nin0
      refine wStC W1524 at_113 (by simp) f1533 (by decide) f1532.nar 4 (by decide) (show 4 < 5 from by decide) rfl fun T1534 h1536 W1535 wr1537 A1538 => ?_
      have f1539 : Arv Z h1536 r1451 kC1452 .char (5 : Int32) [(.int v1463), (.int v1480), (.int v1497), (.int v1514), (.int v1531)] (.int 0) := A1538
      refine gIload W1535 at_114 rfl rfl ?_
      refine gIconst (z := (5 : Int32)) W1535 at_116 rfl rfl ?_
      refine gIcmpYes (pc' := 133) W1535 at_117 (flt (by decide)).2.2.2 (by decide) rfl ?_
      refine gIload W1535 at_133 rfl rfl ?_
      refine gBipush (z := (6 : Int32)) W1535 at_135 rfl rfl ?_
      refine gIcmpYes (pc' := 155) W1535 at_137 (flt (by decide)).2.2.2 (by decide) rfl ?_
      refine wNewO W1535 at_155 (ow5 hw) (ow6 hw) (ow7 hw) (by decide) (by decide) rfl fun T1540 h1542 a1543 W1541 E1544 g1545 A1546 D1547  => ?_
      have f1548 : Fld Z h1542 a1543 "java/lang/String" "value" "[B" .null := D1547 (Or.inr (ow20 hw)) (ty := .array .byte) (by decide)
      have f1549 : Fld Z h1542 a1543 "java/lang/String" "coder" "B" (.int (0 : Int32)) := D1547 (Or.inr (ow21 hw)) (ty := .byte) (by decide)
      refine gDup W1541 at_158 rfl rfl ?_
      refine gAload W1541 at_159 rfl rfl rfl ?_
      have f1550 := f1539.ext E1544
      refine wSpecial (y := (⟨"java/lang/String", "<init>", "([C)V"⟩ : MethodName)) (Wd := 1) (a := a1543) (argsL := [(.ref r1451)]) (rest := [(.ref a1543)]) W1541 at_161 rfl (ow8 hw) (ow9 hw) (ow10 hw) (by decide) (strPay hw hE a1543 r1451 (5 : Int32) [v1463, v1480, v1497, v1514, v1531] 5 1 A1546 f1548 f1549 f1550 (SC.ext W1541.old.2) hz rfl (show Int32.toNatClampNeg (5 : Int32) = 5 from by decide) (show 0 < 5 from by decide) (show 5 ≤ 536870912 from by decide) (all1 f1464.2 (all1 f1481.2 (all1 f1498.2 (all1 f1515.2 (all1 f1532.2 alln))))) (by decide) (by decide)) (by simp) rfl (lenOf opd9 rfl) rfl (Nat.le_of_eq rfl) (by decide) (by decide) rfl fun v1555 so1556 T1551 h1553 W1552 kp1554 sp1557 q1558 => ?_
      obtain ⟨t1559, kb1560, rfl, rfl, f1561, f1562, f1563, f1564, f1565⟩ := q1558
      show Go K _ T1551 164 #[.val (.int p0), .val (.int p1), .val (.int p2), .val (.int p3), .val (.int v1068), .val (.int (5 : Int32)), .val (.ref r1451), .unset, .unset] [(.ref a1543)]
      have f1566 : Str Z h1553 a1543 [v1463, v1480, v1497, v1514, v1531] := Str.mk (cs := [v1463, v1480, v1497, v1514, v1531]) f1562 f1563 f1564 f1565 (show _ = Int32.ofNat 5 from by decide) (all1 f1464 (all1 f1481 (all1 f1498 (all1 f1515 (all1 f1532 alln))))) (show 5 ≤ 4000 from by decide)
      refine gAstore (ls' := #[.val (.int p0), .val (.int p1), .val (.int p2), .val (.int p3), .val (.int v1068), .val (.int (5 : Int32)), .val (.ref r1451), .val (.ref a1543), .unset]) W1552 at_164 rfl rfl rfl ?_
      exact k1074 _ _ (a1543) (r1451) ([v1463, v1480, v1497, v1514, v1531]) ((W1552.mono (by decide) (by decide)).less (by simp)) f1566
    · refine wStatic (y := (⟨"com/example/tidewire/tidewire/message/PriorityOfWireNamePinLaw", "alloc", "(I)[C"⟩ : MethodName)) (Wd := 0) (argsL := [(.int (6 : Int32))]) (rest := []) W at_15 (ow0 hw) (ow1 hw) (ow2 hw) (ow3 hw) (by decide) (Cb.ct (orm_al6 l Z a0 hw hE  h W.old  ) (ow3 hw) (ow2 hw) hE (by decide) (by decide)) (by simp) rfl (lenOf opd8 rfl) rfl (Nat.le_of_eq rfl) (by decide) (by decide) rfl fun v1571 so1572 T1567 h1569 W1568 kp1570 sp1573 q1574 => ?_
      obtain ⟨r1575, kC1576, rfl, rfl, f1577, f1578⟩ := q1574
      show Go K _ T1567 18 #[.val (.int p0), .val (.int p1), .val (.int p2), .val (.int p3), .val (.int v1068), .val (.int (6 : Int32)), .unset, .unset, .unset] [(.ref r1575)]
      refine gAstore (ls' := #[.val (.int p0), .val (.int p1), .val (.int p2), .val (.int p3), .val (.int v1068), .val (.int (6 : Int32)), .val (.ref r1575), .unset, .unset]) W1568 at_18 rfl rfl rfl ?_
      refine gIload W1568 at_20 rfl rfl ?_
      refine gIfNo W1568 at_22 ((if0 _ _).trans (tlt (by decide)).2.2.2) rfl ?_
      refine gAload W1568 at_25 rfl rfl rfl ?_
      refine gIconst (z := (0 : Int32)) W1568 at_27 rfl rfl ?_
      refine gIconst (z := (0 : Int32)) W1568 at_28 rfl rfl ?_
      refine gIload W1568 at_29 rfl rfl ?_
      refine gIloadN W1568 at_31 rfl rfl ?_
      refine gIloadN W1568 at_32 rfl rfl ?_
      refine gIloadN W1568 at_33 rfl rfl ?_
      refine wStatic (y := (⟨"com/example/tidewire/tidewire/message/PriorityOfWireNamePinLaw", "at", "(IIIII)C"⟩ : MethodName)) (Wd := 2) (argsL := [(.int (0 : Int32)), (.int v1068), (.int p1), (.int p2), (.int p3)]) (rest := [(.int (0 : Int32)), (.ref r1575)]) W1568 at_34 (ow75 hw) (ow76 hw) (ow2 hw) (ow77 hw) (by decide) (Cb.ct (orm_at0 l Z a0 hw hE (v1068) (p1) (p2) (p3) (z) (fm) h1569 W1568.old SC hz SF rf ) (ow77 hw) (ow2 hw) hE (by decide) (by decide)) (by simp) rfl (lenOf opd10 rfl) rfl (Nat.le_of_eq rfl) (by decide) (by decide) rfl fun v1583 so1584 T1579 h1581 W1580 kp1582 sp1585 q1586 => ?_
      obtain ⟨v1587, rfl, rfl, f1588⟩ := q1586
      show Go K _ T1579 37 #[.val (.int p0), .val (.int p1), .val (.int p2), .val (.int p3), .val (.int v1068), .val (.int (6 : Int32)), .val (.ref r1575), .unset, .unset] [(.int v1587), (.int (0 : Int32)), (.ref r1575)]
      have f1589 := f1578.keep kp1582 nin0
      refine wStC W1580 at_37 (by simp) f1589 (by decide) f1588.nar 0 (by decide) (show 0 < 6 from by decide) rfl fun T1590 h1592 W1591 wr1593 A1594 => ?_
      have f1595 : Arv Z h1592 r1575 kC1576 .char (6 : Int32) [(.int v1587), (.int (0 : Int32)), (.int (0 : Int32)), (.int (0 : Int32)), (.int (0 : Int32)), (.int (0 : Int32))] (.int 0) := A1594
      refine gIload W1591 at_38 rfl rfl ?_
      refine gIconst (z := (1 : Int32)) W1591 at_40 rfl rfl ?_
      refine gIcmpNo W1591 at_41 (tlt (by decide)).2.2.2 rfl ?_
      refine gAload W1591 at_44 rfl rfl rfl ?_
      refine gIconst (z := (1 : Int32)) W1591 at_46 rfl rfl ?_
      refine gIconst (z := (1 : Int32)) W1591 at_47 rfl rfl ?_
      refine gIload W1591 at_48 rfl rfl ?_
      refine gIloadN W1591 at_50 rfl rfl ?_
      refine gIloadN W1591 at_51 rfl rfl ?_
      refine gIloadN W1591 at_52 rfl rfl ?_
      refine wStatic (y := (⟨"com/example/tidewire/tidewire/message/PriorityOfWireNamePinLaw", "at", "(IIIII)C"⟩ : MethodName)) (Wd := 2) (argsL := [(.int (1 : Int32)), (.int v1068), (.int p1), (.int p2), (.int p3)]) (rest := [(.int (1 : Int32)), (.ref r1575)]) W1591 at_53 (ow75 hw) (ow76 hw) (ow2 hw) (ow77 hw) (by decide) (Cb.ct (orm_at1 l Z a0 hw hE (v1068) (p1) (p2) (p3) (z) (fm) h1592 W1591.old SC hz SF rf ) (ow77 hw) (ow2 hw) hE (by decide) (by decide)) (by simp) rfl (lenOf opd10 rfl) rfl (Nat.le_of_eq rfl) (by decide) (by decide) rfl fun v1600 so1601 T1596 h1598 W1597 kp1599 sp1602 q1603 => ?_
      obtain ⟨v1604, rfl, rfl, f1605⟩ := q1603
      show Go K _ T1596 56 #[.val (.int p0), .val (.int p1), .val (.int p2), .val (.int p3), .val (.int v1068), .val (.int (6 : Int32)), .val (.ref r1575), .unset, .unset] [(.int v1604), (.int (1 : Int32)), (.ref r1575)]
      have f1606 := f1595.keep kp1599 nin0
      refine wStC W1597 at_56 (by simp) f1606 (by decide) f1605.nar 1 (by decide) (show 1 < 6 from by decide) rfl fun T1607 h1609 W1608 wr1610 A1611 => ?_
      have f1612 : Arv Z h1609 r1575 kC1576 .char (6 : Int32) [(.int v1587), (.int v1604), (.int (0 : Int32)), (.int (0 : Int32)), (.int (0 : Int32)), (.int (0 : Int32))] (.int 0) := A1611
      refine gIload W1608 at_57 rfl rfl ?_
      refine gIconst (z := (2 : Int32)) W1608 at_59 rfl rfl ?_
      refine gIcmpNo W1608 at_60 (tlt (by decide)).2.2.2 rfl ?_
      refine gAload W1608 at_63 rfl rfl rfl ?_
      refine gIconst (z := (2 : Int32)) W1608 at_65 rfl rfl ?_
      refine gIconst (z := (2 : Int32)) W1608 at_66 rfl rfl ?_
      refine gIload W1608 at_67 rfl rfl ?_
      refine gIloadN W1608 at_69 rfl rfl ?_
      refine gIloadN W1608 at_70 rfl rfl ?_
      refine gIloadN W1608 at_71 rfl rfl ?_
      refine wStatic (y := (⟨"com/example/tidewire/tidewire/message/PriorityOfWireNamePinLaw", "at", "(IIIII)C"⟩ : MethodName)) (Wd := 2) (argsL := [(.int (2 : Int32)), (.int v1068), (.int p1), (.int p2), (.int p3)]) (rest := [(.int (2 : Int32)), (.ref r1575)]) W1608 at_72 (ow75 hw) (ow76 hw) (ow2 hw) (ow77 hw) (by decide) (Cb.ct (orm_at2 l Z a0 hw hE (v1068) (p1) (p2) (p3) (z) (fm) h1609 W1608.old SC hz SF rf ) (ow77 hw) (ow2 hw) hE (by decide) (by decide)) (by simp) rfl (lenOf opd10 rfl) rfl (Nat.le_of_eq rfl) (by decide) (by decide) rfl fun v1617 so1618 T1613 h1615 W1614 kp1616 sp1619 q1620 => ?_
      obtain ⟨v1621, rfl, rfl, f1622⟩ := q1620
      show Go K _ T1613 75 #[.val (.int p0), .val (.int p1), .val (.int p2), .val (.int p3), .val (.int v1068), .val (.int (6 : Int32)), .val (.ref r1575), .unset, .unset] [(.int v1621), (.int (2 : Int32)), (.ref r1575)]
      have f1623 := f1612.keep kp1616 nin0
      refine wStC W1614 at_75 (by simp) f1623 (by decide) f1622.nar 2 (by decide) (show 2 < 6 from by decide) rfl fun T1624 h1626 W1625 wr1627 A1628 => ?_
      have f1629 : Arv Z h1626 r1575 kC1576 .char (6 : Int32) [(.int v1587), (.int v1604), (.int v1621), (.int (0 : Int32)), (.int (0 : Int32)), (.int (0 : Int32))] (.int 0) := A1628
      refine gIload W1625 at_76 rfl rfl ?_
      refine gIconst (z := (3 : Int32)) W1625 at_78 rfl rfl ?_
      refine gIcmpNo W1625 at_79 (tlt (by decide)).2.2.2 rfl ?_
      refine gAload W1625 at_82 rfl rfl rfl ?_
      refine gIconst (z := (3 : Int32)) W1625 at_84 rfl rfl ?_
      refine gIconst (z := (3 : Int32)) W1625 at_85 rfl rfl ?_
      refine gIload W1625 at_86 rfl rfl ?_
      refine gIloadN W1625 at_88 rfl rfl ?_
      refine gIloadN W1625 at_89 rfl rfl ?_
      refine gIloadN W1625 at_90 rfl rfl ?_
      refine wStatic (y := (⟨"com/example/tidewire/tidewire/message/PriorityOfWireNamePinLaw", "at", "(IIIII)C"⟩ : MethodName)) (Wd := 2) (argsL := [(.int (3 : Int32)), (.int v1068), (.int p1), (.int p2), (.int p3)]) (rest := [(.int (3 : Int32)), (.ref r1575)]) W1625 at_91 (ow75 hw) (ow76 hw) (ow2 hw) (ow77 hw) (by decide) (Cb.ct (orm_at3 l Z a0 hw hE (v1068) (p1) (p2) (p3) (z) (fm) h1626 W1625.old SC hz SF rf ) (ow77 hw) (ow2 hw) hE (by decide) (by decide)) (by simp) rfl (lenOf opd10 rfl) rfl (Nat.le_of_eq rfl) (by decide) (by decide) rfl fun v1634 so1635 T1630 h1632 W1631 kp1633 sp1636 q1637 => ?_
      obtain ⟨v1638, rfl, rfl, f1639⟩ := q1637
      show Go K _ T1630 94 #[.val (.int p0), .val (.int p1), .val (.int p2), .val (.int p3), .val (.int v1068), .val (.int (6 : Int32)), .val (.ref r1575), .unset, .unset] [(.int v1638), (.int (3 : Int32)), (.ref r1575)]
      have f1640 := f1629.keep kp1633 nin0
      refine wStC W1631 at_94 (by simp) f1640 (by decide) f1639.nar 3 (by decide) (show 3 < 6 from by decide) rfl fun T1641 h1643 W1642 wr1644 A1645 => ?_
      have f1646 : Arv Z h1643 r1575 kC1576 .char (6 : Int32) [(.int v1587), (.int v1604), (.int v1621), (.int v1638), (.int (0 : Int32)), (.int (0 : Int32))] (.int 0) := A1645
      refine gIload W1642 at_95 rfl rfl ?_
      refine gIconst (z := (4 : Int32)) W1642 at_97 rfl rfl ?_
      refine gIcmpNo W1642 at_98 (tlt (by decide)).2.2.2 rfl ?_
      refine gAload W1642 at_101 rfl rfl rfl ?_
      refine gIconst (z := (4 : Int32)) W1642 at_103 rfl rfl ?_
      refine gIconst (z := (4 : Int32)) W1642 at_104 rfl rfl ?_
      refine gIload W1642 at_105 rfl rfl ?_
      refine gIloadN W1642 at_107 rfl rfl ?_
      refine gIloadN W1642 at_108 rfl rfl ?_
      refine gIloadN W1642 at_109 rfl rfl ?_
      refine wStatic (y := (⟨"com/example/tidewire/tidewire/message/PriorityOfWireNamePinLaw", "at", "(IIIII)C"⟩ : MethodName)) (Wd := 2) (argsL := [(.int (4 : Int32)), (.int v1068), (.int p1), (.int p2), (.int p3)]) (rest := [(.int (4 : Int32)), (.ref r1575)]) W1642 at_110 (ow75 hw) (ow76 hw) (ow2 hw) (ow77 hw) (by decide) (Cb.ct (orm_at4 l Z a0 hw hE (v1068) (p1) (p2) (p3) (z) (fm) h1643 W1642.old SC hz SF rf ) (ow77 hw) (ow2 hw) hE (by decide) (by decide)) (by simp) rfl (lenOf opd10 rfl) rfl (Nat.le_of_eq rfl) (by decide) (by decide) rfl fun v1651 so1652 T1647 h1649 W1648 kp1650 sp1653 q1654 => ?_
      obtain ⟨v1655, rfl, rfl, f1656⟩ := q1654
      show Go K _ T1647 113 #[.val (.int p0), .val (.int p1), .val (.int p2), .val (.int p3), .val (.int v1068), .val (.int (6 : Int32)), .val (.ref r1575), .unset, .unset] [(.int v1655), (.int (4 : Int32)), (.ref r1575)]
      have f1657 := f1646.keep kp1650 nin0
      refine wStC W1648 at_113 (by simp) f1657 (by decide) f1656.nar 4 (by decide) (show 4 < 6 from by decide) rfl fun T1658 h1660 W1659 wr1661 A1662 => ?_
      have f1663 : Arv Z h1660 r1575 kC1576 .char (6 : Int32) [(.int v1587), (.int v1604), (.int v1621), (.int v1638), (.int v1655), (.int (0 : Int32))] (.int 0) := A1662
      refine gIload W1659 at_114 rfl rfl ?_
      refine gIconst (z := (5 : Int32)) W1659 at_116 rfl rfl ?_
      refine gIcmpNo W1659 at_117 (tlt (by decide)).2.2.2 rfl ?_
      refine gAload W1659 at_120 rfl rfl rfl ?_
      refine gIconst (z := (5 : Int32)) W1659 at_122 rfl rfl ?_
      refine gIconst (z := (5 : Int32)) W1659 at_123 rfl rfl ?_
      refine gIload W1659 at_124 rfl rfl ?_
      refine gIloadN W1659 at_126 rfl rfl ?_
      refine gIloadN W1659 at_127 rfl rfl ?_
      refine gIloadN W1659 at_128 rfl rfl ?_
      refine wStatic (y := (⟨"com/example/tidewire/tidewire/message/PriorityOfWireNamePinLaw", "at", "(IIIII)C"⟩ : MethodName)) (Wd := 2) (argsL := [(.int (5 : Int32)), (.int v1068), (.int p1), (.int p2), (.int p3)]) (rest := [(.int (5 : Int32)), (.ref r1575)]) W1659 at_129 (ow75 hw) (ow76 hw) (ow2 hw) (ow77 hw) (by decide) (Cb.ct (orm_at5 l Z a0 hw hE (v1068) (p1) (p2) (p3) (z) (fm) h1660 W1659.old SC hz SF rf ) (ow77 hw) (ow2 hw) hE (by decide) (by decide)) (by simp) rfl (lenOf opd10 rfl) rfl (Nat.le_of_eq rfl) (by decide) (by decide) rfl fun v1668 so1669 T1664 h1666 W1665 kp1667 sp1670 q1671 => ?_
      obtain ⟨v1672, rfl, rfl, f1673⟩ := q1671
      show Go K _ T1664 132 #[.val (.int p0), .val (.int p1), .val (.int p2), .val (.int p3), .val (.int v1068), .val (.int (6 : Int32)), .val (.ref r1575), .unset, .unset] [(.int v1672), (.int (5 : Int32)), (.ref r1575)]
      have f1674 := f1663.keep kp1667 nin0
      refine wStC W1665 at_132 (by simp) f1674 (by decide) f1673.nar 5 (by decide) (show 5 < 6 from by decide) rfl fun T1675 h1677 W1676 wr1678 A1679 => ?_
      have f1680 : Arv Z h1677 r1575 kC1576 .char (6 : Int32) [(.int v1587), (.int v1604), (.int v1621), (.int v1638), (.int v1655), (.int v1672)] (.int 0) := A1679
      refine gIload W1676 at_133 rfl rfl ?_
      refine gBipush (z := (6 : Int32)) W1676 at_135 rfl rfl ?_
      refine gIcmpYes (pc' := 155) W1676 at_137 (flt (by decide)).2.2.2 (by decide) rfl ?_
      refine wNewO W1676 at_155 (ow5 hw) (ow6 hw) (ow7 hw) (by decide) (by decide) rfl fun T1681 h1683 a1684 W1682 E1685 g1686 A1687 D1688  => ?_
      have f1689 : Fld Z h1683 a1684 "java/lang/String" "value" "[B" .null := D1688 (Or.inr (ow20 hw)) (ty := .array .byte) (by decide)
      have f1690 : Fld Z h1683 a1684 "java/lang/String" "coder" "B" (.int (0 : Int32)) := D1688 (Or.inr (ow21 hw)) (ty := .byte) (by decide)
      refine gDup W1682 at_158 rfl rfl ?_
      refine gAload W1682 at_159 rfl rfl rfl ?_
      have f1691 := f1680.ext E1685
      refine wSpecial (y := (⟨"java/lang/String", "<init>", "([C)V"⟩ : MethodName)) (Wd := 1) (a := a1684) (argsL := [(.ref r1575)]) (rest := [(.ref a1684)]) W1682 at_161 rfl (ow8 hw) (ow9 hw) (ow10 hw) (by decide) (strPay hw hE a1684 r1575 (6 : Int32) [v1587, v1604, v1621, v1638, v1655, v1672] 6 1 A1687 f1689 f1690 f1691 (SC.ext W1682.old.2) hz rfl (show Int32.toNatClampNeg (6 : Int32) = 6 from by decide) (show 0 < 6 from by decide) (show 6 ≤ 536870912 from by decide) (all1 f1588.2 (all1 f1605.2 (all1 f1622.2 (all1 f1639.2 (all1 f1656.2 (all1 f1673.2 alln)))))) (by decide) (by decide)) (by simp) rfl (lenOf opd9 rfl) rfl (Nat.le_of_eq rfl) (by decide) (by decide) rfl fun v1696 so1697 T1692 h1694 W1693 kp1695 sp1698 q1699 => ?_
      obtain ⟨t1700, kb1701, rfl, rfl, f1702, f1703, f1704, f1705, f1706⟩ := q1699
      show Go K _ T1692 164 #[.val (.int p0), .val (.int p1), .val (.int p2), .val (.int p3), .val (.int v1068), .val (.int (6 : Int32)), .val (.ref r1575), .unset, .unset] [(.ref a1684)]
      have f1707 : Str Z h1694 a1684 [v1587, v1604, v1621, v1638, v1655, v1672] := Str.mk (cs := [v1587, v1604, v1621, v1638, v1655, v1672]) f1703 f1704 f1705 f1706 (show _ = Int32.ofNat 6 from by decide) (all1 f1588 (all1 f1605 (all1 f1622 (all1 f1639 (all1 f1656 (all1 f1673 alln)))))) (show 6 ≤ 4000 from by decide)
      refine gAstore (ls' := #[.val (.int p0), .val (.int p1), .val (.int p2), .val (.int p3), .val (.int v1068), .val (.int (6 : Int32)), .val (.ref r1575), .val (.ref a1684), .unset]) W1693 at_164 rfl rfl rfl ?_
      exact k1074 _ _ (a1684) (r1575) ([v1587, v1604, v1621, v1638, v1655, v1672]) ((W1693.mono (by decide) (by decide)).less (by simp)) f1707
    · refine wStatic (y := (⟨"com/example/tidewire/tidewire/message/PriorityOfWireNamePinLaw", "alloc", "(I)[C"⟩ : MethodName)) (Wd := 0) (argsL := [(.int (7 : Int32))]) (rest := []) W at_15 (ow0 hw) (ow1 hw) (ow2 hw) (ow3 hw) (by decide) (Cb.ct (orm_al7 l Z a0 hw hE  h W.old  ) (ow3 hw) (ow2 hw) hE (by decide) (by decide)) (by simp) rfl (lenOf opd8 rfl) rfl (Nat.le_of_eq rfl) (by decide) (by decide) rfl fun v1712 so1713 T1708 h1710 W1709 kp1711 sp1714 q1715 => ?_
      obtain ⟨r1716, kC1717, rfl, rfl, f1718, f1719⟩ := q1715
      show Go K _ T1708 18 #[.val (.int p0), .val (.int p1), .val (.int p2), .val (.int p3), .val (.int v1068), .val (.int (7 : Int32)), .unset, .unset, .unset] [(.ref r1716)]
      refine gAstore (ls' := #[.val (.int p0), .val (.int p1), .val (.int p2), .val (.int p3), .val (.int v1068), .val (.int (7 : Int32)), .val (.ref r1716), .unset, .unset]) W1709 at_18 rfl rfl rfl ?_
      refine gIload W1709 at_20 rfl rfl ?_
      refine gIfNo W1709 at_22 ((if0 _ _).trans (tlt (by decide)).2.2.2) rfl ?_
      refine gAload W1709 at_25 rfl rfl rfl ?_
      refine gIconst (z := (0 : Int32)) W1709 at_27 rfl rfl ?_
      refine gIconst (z := (0 : Int32)) W1709 at_28 rfl rfl ?_
      refine gIload W1709 at_29 rfl rfl ?_
      refine gIloadN W1709 at_31 rfl rfl ?_
      refine gIloadN W1709 at_32 rfl rfl ?_
      refine gIloadN W1709 at_33 rfl rfl ?_
      refine wStatic (y := (⟨"com/example/tidewire/tidewire/message/PriorityOfWireNamePinLaw", "at", "(IIIII)C"⟩ : MethodName)) (Wd := 2) (argsL := [(.int (0 : Int32)), (.int v1068), (.int p1), (.int p2), (.int p3)]) (rest := [(.int (0 : Int32)), (.ref r1716)]) W1709 at_34 (ow75 hw) (ow76 hw) (ow2 hw) (ow77 hw) (by decide) (Cb.ct (orm_at0 l Z a0 hw hE (v1068) (p1) (p2) (p3) (z) (fm) h1710 W1709.old SC hz SF rf ) (ow77 hw) (ow2 hw) hE (by decide) (by decide)) (by simp) rfl (lenOf opd10 rfl) rfl (Nat.le_of_eq rfl) (by decide) (by decide) rfl fun v1724 so1725 T1720 h1722 W1721 kp1723 sp1726 q1727 => ?_
      obtain ⟨v1728, rfl, rfl, f1729⟩ := q1727
      show Go K _ T1720 37 #[.val (.int p0), .val (.int p1), .val (.int p2), .val (.int p3), .val (.int v1068), .val (.int (7 : Int32)), .val (.ref r1716), .unset, .unset] [(.int v1728), (.int (0 : Int32)), (.ref r1716)]
      have f1730 := f1719.keep kp1723 nin0
      refine wStC W1721 at_37 (by simp) f1730 (by decide) f1729.nar 0 (by decide) (show 0 < 7 from by decide) rfl fun T1731 h1733 W1732 wr1734 A1735 => ?_
      have f1736 : Arv Z h1733 r1716 kC1717 .char (7 : Int32) [(.int v1728), (.int (0 : Int32)), (.int (0 : Int32)), (.int (0 : Int32)), (.int (0 : Int32)), (.int (0 : Int32)), (.int (0 : Int32))] (.int 0) := A1735
      refine gIload W1732 at_38 rfl rfl ?_
      refine gIconst (z := (1 : Int32)) W1732 at_40 rfl rfl ?_
      refine gIcmpNo W1732 at_41 (tlt (by decide)).2.2.2 rfl ?_
      refine gAload W1732 at_44 rfl rfl rfl ?_
      refine gIconst (z := (1 : Int32)) W1732 at_46 rfl rfl ?_
      refine gIconst (z := (1 : Int32)) W1732 at_47 rfl rfl ?_
      refine gIload W1732 at_48 rfl rfl ?_
      refine gIloadN W1732 at_50 rfl rfl ?_
      refine gIloadN W1732 at_51 rfl rfl ?_
      refine gIloadN W1732 at_52 rfl rfl ?_
      refine wStatic (y := (⟨"com/example/tidewire/tidewire/message/PriorityOfWireNamePinLaw", "at", "(IIIII)C"⟩ : MethodName)) (Wd := 2) (argsL := [(.int (1 : Int32)), (.int v1068), (.int p1), (.int p2), (.int p3)]) (rest := [(.int (1 : Int32)), (.ref r1716)]) W1732 at_53 (ow75 hw) (ow76 hw) (ow2 hw) (ow77 hw) (by decide) (Cb.ct (orm_at1 l Z a0 hw hE (v1068) (p1) (p2) (p3) (z) (fm) h1733 W1732.old SC hz SF rf ) (ow77 hw) (ow2 hw) hE (by decide) (by decide)) (by simp) rfl (lenOf opd10 rfl) rfl (Nat.le_of_eq rfl) (by decide) (by decide) rfl fun v1741 so1742 T1737 h1739 W1738 kp1740 sp1743 q1744 => ?_
      obtain ⟨v1745, rfl, rfl, f1746⟩ := q1744
      show Go K _ T1737 56 #[.val (.int p0), .val (.int p1), .val (.int p2), .val (.int p3), .val (.int v1068), .val (.int (7 : Int32)), .val (.ref r1716), .unset, .unset] [(.int v1745), (.int (1 : Int32)), (.ref r1716)]
      have f1747 := f1736.keep kp1740 nin0
      refine wStC W1738 at_56 (by simp) f1747 (by decide) f1746.nar 1 (by decide) (show 1 < 7 from by decide) rfl fun T1748 h1750 W1749 wr1751 A1752 => ?_
      have f1753 : Arv Z h1750 r1716 kC1717 .char (7 : Int32) [(.int v1728), (.int v1745), (.int (0 : Int32)), (.int (0 : Int32)), (.int (0 : Int32)), (.int (0 : Int32)), (.int (0 : Int32))] (.int 0) := A1752
      refine gIload W1749 at_57 rfl rfl ?_
      refine gIconst (z := (2 : Int32)) W1749 at_59 rfl rfl ?_
      refine gIcmpNo W1749 at_60 (tlt (by decide)).2.2.2 rfl ?_
      refine gAload W1749 at_63 rfl rfl rfl ?_
      refine gIconst (z := (2 : Int32)) W1749 at_65 rfl rfl ?_
      refine gIconst (z := (2 : Int32)) W1749 at_66 rfl rfl ?_
      refine gIload W1749 at_67 rfl rfl ?_
      refine gIloadN W1749 at_69 rfl rfl ?_
      refine gIloadN W1749 at_70 rfl rfl ?_
      refine gIloadN W1749 at_71 rfl rfl ?_
      refine wStatic (y := (⟨"com/example/tidewire/tidewire/message/PriorityOfWireNamePinLaw", "at", "(IIIII)C"⟩ : MethodName)) (Wd := 2) (argsL := [(.int (2 : Int32)), (.int v1068), (.int p1), (.int p2), (.int p3)]) (rest := [(.int (2 : Int32)), (.ref r1716)]) W1749 at_72 (ow75 hw) (ow76 hw) (ow2 hw) (ow77 hw) (by decide) (Cb.ct (orm_at2 l Z a0 hw hE (v1068) (p1) (p2) (p3) (z) (fm) h1750 W1749.old SC hz SF rf ) (ow77 hw) (ow2 hw) hE (by decide) (by decide)) (by simp) rfl (lenOf opd10 rfl) rfl (Nat.le_of_eq rfl) (by decide) (by decide) rfl fun v1758 so1759 T1754 h1756 W1755 kp1757 sp1760 q1761 => ?_
      obtain ⟨v1762, rfl, rfl, f1763⟩ := q1761
      show Go K _ T1754 75 #[.val (.int p0), .val (.int p1), .val (.int p2), .val (.int p3), .val (.int v1068), .val (.int (7 : Int32)), .val (.ref r1716), .unset, .unset] [(.int v1762), (.int (2 : Int32)), (.ref r1716)]
      have f1764 := f1753.keep kp1757 nin0
      refine wStC W1755 at_75 (by simp) f1764 (by decide) f1763.nar 2 (by decide) (show 2 < 7 from by decide) rfl fun T1765 h1767 W1766 wr1768 A1769 => ?_
      have f1770 : Arv Z h1767 r1716 kC1717 .char (7 : Int32) [(.int v1728), (.int v1745), (.int v1762), (.int (0 : Int32)), (.int (0 : Int32)), (.int (0 : Int32)), (.int (0 : Int32))] (.int 0) := A1769
      refine gIload W1766 at_76 rfl rfl ?_
      refine gIconst (z := (3 : Int32)) W1766 at_78 rfl rfl ?_
      refine gIcmpNo W1766 at_79 (tlt (by decide)).2.2.2 rfl ?_
      refine gAload W1766 at_82 rfl rfl rfl ?_
      refine gIconst (z := (3 : Int32)) W1766 at_84 rfl rfl ?_
      refine gIconst (z := (3 : Int32)) W1766 at_85 rfl rfl ?_
      refine gIload W1766 at_86 rfl rfl ?_
      refine gIloadN W1766 at_88 rfl rfl ?_
      refine gIloadN W1766 at_89 rfl rfl ?_
      refine gIloadN W1766 at_90 rfl rfl ?_
      refine wStatic (y := (⟨"com/example/tidewire/tidewire/message/PriorityOfWireNamePinLaw", "at", "(IIIII)C"⟩ : MethodName)) (Wd := 2) (argsL := [(.int (3 : Int32)), (.int v1068), (.int p1), (.int p2), (.int p3)]) (rest := [(.int (3 : Int32)), (.ref r1716)]) W1766 at_91 (ow75 hw) (ow76 hw) (ow2 hw) (ow77 hw) (by decide) (Cb.ct (orm_at3 l Z a0 hw hE (v1068) (p1) (p2) (p3) (z) (fm) h1767 W1766.old SC hz SF rf ) (ow77 hw) (ow2 hw) hE (by decide) (by decide)) (by simp) rfl (lenOf opd10 rfl) rfl (Nat.le_of_eq rfl) (by decide) (by decide) rfl fun v1775 so1776 T1771 h1773 W1772 kp1774 sp1777 q1778 => ?_
      obtain ⟨v1779, rfl, rfl, f1780⟩ := q1778
      show Go K _ T1771 94 #[.val (.int p0), .val (.int p1), .val (.int p2), .val (.int p3), .val (.int v1068), .val (.int (7 : Int32)), .val (.ref r1716), .unset, .unset] [(.int v1779), (.int (3 : Int32)), (.ref r1716)]
      have f1781 := f1770.keep kp1774 nin0
      refine wStC W1772 at_94 (by simp) f1781 (by decide) f1780.nar 3 (by decide) (show 3 < 7 from by decide) rfl fun T1782 h1784 W1783 wr1785 A1786 => ?_
      have f1787 : Arv Z h1784 r1716 kC1717 .char (7 : Int32) [(.int v1728), (.int v1745), (.int v1762), (.int v1779), (.int (0 : Int32)), (.int (0 : Int32)), (.int (0 : Int32))] (.int 0) := A1786
      refine gIload W1783 at_95 rfl rfl ?_
      refine gIconst (z := (4 : Int32)) W1783 at_97 rfl rfl ?_
      refine gIcmpNo W1783 at_98 (tlt (by decide)).2.2.2 rfl ?_
      refine gAload W1783 at_101 rfl rfl rfl ?_
      refine gIconst (z := (4 : Int32)) W1783 at_103 rfl rfl ?_
      refine gIconst (z := (4 : Int32)) W1783 at_104 rfl rfl ?_
      refine gIload W1783 at_105 rfl rfl ?_
      refine gIloadN W1783 at_107 rfl rfl ?_
      refine gIloadN W1783 at_108 rfl rfl ?_
      refine gIloadN W1783 at_109 rfl rfl ?_
      refine wStatic (y := (⟨"com/example/tidewire/tidewire/message/PriorityOfWireNamePinLaw", "at", "(IIIII)C"⟩ : MethodName)) (Wd := 2) (argsL := [(.int (4 : Int32)), (.int v1068), (.int p1), (.int p2), (.int p3)]) (rest := [(.int (4 : Int32)), (.ref r1716)]) W1783 at_110 (ow75 hw) (ow76 hw) (ow2 hw) (ow77 hw) (by decide) (Cb.ct (orm_at4 l Z a0 hw hE (v1068) (p1) (p2) (p3) (z) (fm) h1784 W1783.old SC hz SF rf ) (ow77 hw) (ow2 hw) hE (by decide) (by decide)) (by simp) rfl (lenOf opd10 rfl) rfl (Nat.le_of_eq rfl) (by decide) (by decide) rfl fun v1792 so1793 T1788 h1790 W1789 kp1791 sp1794 q1795 => ?_
      obtain ⟨v1796, rfl, rfl, f1797⟩ := q1795
      show Go K _ T1788 113 #[.val (.int p0), .val (.int p1), .val (.int p2), .val (.int p3), .val (.int v1068), .val (.int (7 : Int32)), .val (.ref r1716), .unset, .unset] [(.int v1796), (.int (4 : Int32)), (.ref r1716)]
      have f1798 := f1787.keep kp1791 nin0
      refine wStC W1789 at_113 (by simp) f1798 (by decide) f1797.nar 4 (by decide) (show 4 < 7 from by decide) rfl fun T1799 h1801 W1800 wr1802 A1803 => ?_
      have f1804 : Arv Z h1801 r1716 kC1717 .char (7 : Int32) [(.int v1728), (.int v1745), (.int v1762), (.int v1779), (.int v1796), (.int (0 : Int32)), (.int (0 : Int32))] (.int 0) := A1803
      refine gIload W1800 at_114 rfl rfl ?_
      refine gIconst (z := (5 : Int32)) W1800 at_116 rfl rfl ?_
      refine gIcmpNo W1800 at_117 (tlt (by decide)).2.2.2 rfl ?_
      refine gAload W1800 at_120 rfl rfl rfl ?_
      refine gIconst (z := (5 : Int32)) W1800 at_122 rfl rfl ?_
      refine gIconst (z := (5 : Int32)) W1800 at_123 rfl rfl ?_
      refine gIload W1800 at_124 rfl rfl ?_
      refine gIloadN W1800 at_126 rfl rfl ?_
      refine gIloadN W1800 at_127 rfl rfl ?_
      refine gIloadN W1800 at_128 rfl rfl ?_
      refine wStatic (y := (⟨"com/example/tidewire/tidewire/message/PriorityOfWireNamePinLaw", "at", "(IIIII)C"⟩ : MethodName)) (Wd := 2) (argsL := [(.int (5 : Int32)), (.int v1068), (.int p1), (.int p2), (.int p3)]) (rest := [(.int (5 : Int32)), (.ref r1716)]) W1800 at_129 (ow75 hw) (ow76 hw) (ow2 hw) (ow77 hw) (by decide) (Cb.ct (orm_at5 l Z a0 hw hE (v1068) (p1) (p2) (p3) (z) (fm) h1801 W1800.old SC hz SF rf ) (ow77 hw) (ow2 hw) hE (by decide) (by decide)) (by simp) rfl (lenOf opd10 rfl) rfl (Nat.le_of_eq rfl) (by decide) (by decide) rfl fun v1809 so1810 T1805 h1807 W1806 kp1808 sp1811 q1812 => ?_
      obtain ⟨v1813, rfl, rfl, f1814⟩ := q1812
      show Go K _ T1805 132 #[.val (.int p0), .val (.int p1), .val (.int p2), .val (.int p3), .val (.int v1068), .val (.int (7 : Int32)), .val (.ref r1716), .unset, .unset] [(.int v1813), (.int (5 : Int32)), (.ref r1716)]
      have f1815 := f1804.keep kp1808 nin0
      refine wStC W1806 at_132 (by simp) f1815 (by decide) f1814.nar 5 (by decide) (show 5 < 7 from by decide) rfl fun T1816 h1818 W1817 wr1819 A1820 => ?_
      have f1821 : Arv Z h1818 r1716 kC1717 .char (7 : Int32) [(.int v1728), (.int v1745), (.int v1762), (.int v1779), (.int v1796), (.int v1813), (.int (0 : Int32))] (.int 0) := A1820
      refine gIload W1817 at_133 rfl rfl ?_
      refine gBipush (z := (6 : Int32)) W1817 at_135 rfl rfl ?_
      refine gIcmpNo W1817 at_137 (tlt (by decide)).2.2.2 rfl ?_
      refine gAload W1817 at_140 rfl rfl rfl ?_
      refine gBipush (z := (6 : Int32)) W1817 at_142 rfl rfl ?_
      refine gBipush (z := (6 : Int32)) W1817 at_144 rfl rfl ?_
      refine gIload W1817 at_146 rfl rfl ?_
      refine gIloadN W1817 at_148 rfl rfl ?_
      refine gIloadN W1817 at_149 rfl rfl ?_
      refine gIloadN W1817 at_150 rfl rfl ?_
      refine wStatic (y := (⟨"com/example/tidewire/tidewire/message/PriorityOfWireNamePinLaw", "at", "(IIIII)C"⟩ : MethodName)) (Wd := 2) (argsL := [(.int (6 : Int32)), (.int v1068), (.int p1), (.int p2), (.int p3)]) (rest := [(.int (6 : Int32)), (.ref r1716)]) W1817 at_151 (ow75 hw) (ow76 hw) (ow2 hw) (ow77 hw) (by decide) (Cb.ct (orm_at6 l Z a0 hw hE (v1068) (p1) (p2) (p3) (z) (fm) h1818 W1817.old SC hz SF rf ) (ow77 hw) (ow2 hw) hE (by decide) (by decide)) (by simp) rfl (lenOf opd10 rfl) rfl (Nat.le_of_eq rfl) (by decide) (by decide) rfl fun v1826 so1827 T1822 h1824 W1823 kp1825 sp1828 q1829 => ?_
      obtain ⟨v1830, rfl, rfl, f1831⟩ := q1829
      show Go K _ T1822 154 #[.val (.int p0), .val (.int p1), .val (.int p2), .val (.int p3), .val (.int v1068), .val (.int (7 : Int32)), .val (.ref r1716), .unset, .unset] [(.int v1830), (.int (6 : Int32)), (.ref r1716)]
      have f1832 := f1821.keep kp1825 nin0
      refine wStC W1823 at_154 (by simp) f1832 (by decide) f1831.nar 6 (by decide) (show 6 < 7 from by decide) rfl fun T1833 h1835 W1834 wr1836 A1837 => ?_
      have f1838 : Arv Z h1835 r1716 kC1717 .char (7 : Int32) [(.int v1728), (.int v1745), (.int v1762), (.int v1779), (.int v1796), (.int v1813), (.int v1830)] (.int 0) := A1837
      refine wNewO W1834 at_155 (ow5 hw) (ow6 hw) (ow7 hw) (by decide) (by decide) rfl fun T1839 h1841 a1842 W1840 E1843 g1844 A1845 D1846  => ?_
      have f1847 : Fld Z h1841 a1842 "java/lang/String" "value" "[B" .null := D1846 (Or.inr (ow20 hw)) (ty := .array .byte) (by decide)
      have f1848 : Fld Z h1841 a1842 "java/lang/String" "coder" "B" (.int (0 : Int32)) := D1846 (Or.inr (ow21 hw)) (ty := .byte) (by decide)
      refine gDup W1840 at_158 rfl rfl ?_
      refine gAload W1840 at_159 rfl rfl rfl ?_
      have f1849 := f1838.ext E1843
      refine wSpecial (y := (⟨"java/lang/String", "<init>", "([C)V"⟩ : MethodName)) (Wd := 1) (a := a1842) (argsL := [(.ref r1716)]) (rest := [(.ref a1842)]) W1840 at_161 rfl (ow8 hw) (ow9 hw) (ow10 hw) (by decide) (strPay hw hE a1842 r1716 (7 : Int32) [v1728, v1745, v1762, v1779, v1796, v1813, v1830] 7 1 A1845 f1847 f1848 f1849 (SC.ext W1840.old.2) hz rfl (show Int32.toNatClampNeg (7 : Int32) = 7 from by decide) (show 0 < 7 from by decide) (show 7 ≤ 536870912 from by decide) (all1 f1729.2 (all1 f1746.2 (all1 f1763.2 (all1 f1780.2 (all1 f1797.2 (all1 f1814.2 (all1 f1831.2 alln))))))) (by decide) (by decide)) (by simp) rfl (lenOf opd9 rfl) rfl (Nat.le_of_eq rfl) (by decide) (by decide) rfl fun v1854 so1855 T1850 h1852 W1851 kp1853 sp1856 q1857 => ?_
      obtain ⟨t1858, kb1859, rfl, rfl, f1860, f1861, f1862, f1863, f1864⟩ := q1857
      show Go K _ T1850 164 #[.val (.int p0), .val (.int p1), .val (.int p2), .val (.int p3), .val (.int v1068), .val (.int (7 : Int32)), .val (.ref r1716), .unset, .unset] [(.ref a1842)]
      have f1865 : Str Z h1852 a1842 [v1728, v1745, v1762, v1779, v1796, v1813, v1830] := Str.mk (cs := [v1728, v1745, v1762, v1779, v1796, v1813, v1830]) f1861 f1862 f1863 f1864 (show _ = Int32.ofNat 7 from by decide) (all1 f1729 (all1 f1746 (all1 f1763 (all1 f1780 (all1 f1797 (all1 f1814 (all1 f1831 alln))))))) (show 7 ≤ 4000 from by decide)
      refine gAstore (ls' := #[.val (.int p0), .val (.int p1), .val (.int p2), .val (.int p3), .val (.int v1068), .val (.int (7 : Int32)), .val (.ref r1716), .val (.ref a1842), .unset]) W1851 at_164 rfl rfl rfl ?_
      exact k1074 _ _ (a1842) (r1716) ([v1728, v1745, v1762, v1779, v1796, v1813, v1830]) ((W1851.mono (by decide) (by decide)).less (by simp)) f1865
  intro T1075 h1077 s ar cs W1076 f1078
  refine gAload W1076 at_166 rfl rfl rfl ?_
  by_cases hN : [110, 111, 114, 109, 97, 108] = cs
  · subst hN
    refine wStatic (y := (⟨"com/example/tidewire/tidewire/message/Priority", "ofWireName", "(Ljava/lang/String;)Ljava/util/Optional;"⟩ : MethodName)) (Wd := 0) (argsL := [(.ref s)]) (rest := []) W1076 at_168 (ow26 hw) (ow27 hw) (ow28 hw) (ow29 hw) (by decide) (Cb.ct (orm_ofn l Z a0 hw hE (va) (kv) (nr) (hi) (wn) (wh) (em) (s) (z) h1077 W1076.old hP SC hz f1078 ) (ow29 hw) (ow28 hw) hE (by decide) (by decide)) (by simp) rfl (lenOf opd11 rfl) rfl (Nat.le_of_eq rfl) (by decide) (by decide) rfl fun v1870 so1871 T1866 h1868 W1867 kp1869 sp1872 q1873 => ?_
    obtain ⟨r1874, rfl, rfl, f1875, f1876⟩ := q1873
    show Go K _ T1866 171 #[.val (.int p0), .val (.int p1), .val (.int p2), .val (.int p3), .val (.int v1068), .val (.int v1072), .val (.ref ar), .val (.ref s), .unset] [(.ref r1874)]
    refine gAstore (ls' := #[.val (.int p0), .val (.int p1), .val (.int p2), .val (.int p3), .val (.int v1068), .val (.int v1072), .val (.ref ar), .val (.ref s), .val (.ref r1874)]) W1867 at_171 rfl rfl rfl ?_
    refine gAload W1867 at_173 rfl rfl rfl ?_
    refine wLdcS (vs := [(.int 110), (.int 111), (.int 114), (.int 109), (.int 97), (.int 108)]) (z := 6) (n := 24) W1867 at_175 (ow65 hw) (owS hw) hE (by decide) (by decide) (by decide) (by decide) (by decide) (by decide) (by decide) (by decide) rfl fun T1877 h1879 a1880 t1881 k1882 W1878 E1883 A1884 f1885 f1886 f1887 ne1888 => ?_
    have f1889 : Str Z h1879 a1880 [(110 : Int32), (111 : Int32), (114 : Int32), (109 : Int32), (97 : Int32), (108 : Int32)] := Str.mkL (cs := [(110 : Int32), (111 : Int32), (114 : Int32), (109 : Int32), (97 : Int32), (108 : Int32)]) A1884 f1885 f1886 f1887 (by decide) (by decide) (by decide) (by decide)
    have f1890 := f1078.keep kp1869 nin0 (a0 := a0) alln
    have f1891 := f1890.ext E1883
    refine wVirtual (y := (⟨"java/lang/String", "equals", "(Ljava/lang/Object;)Z"⟩ : MethodName)) (z := (⟨"java/lang/String", "equals", "(Ljava/lang/Object;)Z"⟩ : MethodName)) (Wd := 0) (a := s) (argsL := [(.ref a1880)]) (rest := []) W1878 at_177 (ow66 hw) (ow50 hw) (ow52 hw) (ow51 hw) (nfS (ow52 hw)) (by decide) (eqPay hw hE s a1880 [110, 111, 114, 109, 97, 108] [(110 : Int32), (111 : Int32), (114 : Int32), (109 : Int32), (97 : Int32), (108 : Int32)] 0 f1891 f1889 (SC.ext W1878.old.2) hz (by decide) (by decide)) f1891.exa (by simp) rfl (lenOf opd5 rfl) rfl (Nat.le_of_eq rfl) (by decide) (by decide) rfl fun v1896 so1897 T1892 h1894 W1893 kp1895 sp1898 q1899 => ?_
    obtain ⟨b1900, rfl, rfl, f1901⟩ := q1899
    show Go K _ T1892 180 #[.val (.int p0), .val (.int p1), .val (.int p2), .val (.int p3), .val (.int v1068), .val (.int v1072), .val (.ref ar), .val (.ref s), .val (.ref r1874)] [(.int b1900)]
    rcases f1901 with ⟨rfl, ee1902⟩ | ⟨rfl, ee1902⟩
    rotate_left
    · exact absurd rfl ee1902
    refine gIfNo W1893 at_180 ((if0 _ _).trans (feq (by decide)).1) rfl ?_
    refine gAload W1893 at_183 rfl rfl rfl ?_
    have f1903 := f1876.ext E1883
    have f1904 := f1903.keep kp1895 nin0
    have f1913 := f1875.ext E1883
    have f1914 := f1913.keep kp1895
    refine wVirtual (y := (⟨"java/util/Optional", "isPresent", "()Z"⟩ : MethodName)) (z := (⟨"java/util/Optional", "isPresent", "()Z"⟩ : MethodName)) (Wd := 0) (a := r1874) (argsL := []) (rest := []) W1893 at_185 (ow68 hw) (ow69 hw) (ow71 hw) (ow70 hw) (nfS (ow71 hw)) (by decide) (Cb.ct (orm_ip1 l Z a0 hw hE (r1874) (nr) h1894 W1893.old f1904 ) (ow72 hw) (ow62 hw) hE (by decide) (by decide)) f1914 (by simp) rfl (lenOf opd12 rfl) rfl (Nat.le_of_eq rfl) (by decide) (by decide) rfl fun v1909 so1910 T1905 h1907 W1906 kp1908 sp1911 q1912 => ?_
    obtain ⟨rfl, rfl⟩ := q1912
    show Go K _ T1905 188 #[.val (.int p0), .val (.int p1), .val (.int p2), .val (.int p3), .val (.int v1068), .val (.int v1072), .val (.ref ar), .val (.ref s), .val (.ref r1874)] [(.int (1 : Int32))]
    refine gIfNo W1906 at_188 ((if0 _ _).trans (feq (by decide)).1) rfl ?_
    refine gAload W1906 at_191 rfl rfl rfl ?_
    have f1915 := f1904.keep kp1908 nin0
    have f1924 := f1914.keep kp1908
    refine wVirtual (y := (⟨"java/util/Optional", "get", "()Ljava/lang/Object;"⟩ : MethodName)) (z := (⟨"java/util/Optional", "get", "()Ljava/lang/Object;"⟩ : MethodName)) (Wd := 0) (a := r1874) (argsL := []) (rest := []) W1906 at_193 (ow123 hw) (ow124 hw) (ow126 hw) (ow125 hw) (nfS (ow126 hw)) (by decide) (Cb.ct (orm_og l Z a0 hw hE (r1874) (nr) h1907 W1906.old f1915 ) (ow127 hw) (ow62 hw) hE (by decide) (by decide)) f1924 (by simp) rfl (lenOf opd13 rfl) rfl (Nat.le_of_eq rfl) (by decide) (by decide) rfl fun v1920 so1921 T1916 h1918 W1917 kp1919 sp1922 q1923 => ?_
    obtain ⟨rfl, rfl⟩ := q1923
    show Go K _ T1916 196 #[.val (.int p0), .val (.int p1), .val (.int p2), .val (.int p3), .val (.int v1068), .val (.int v1072), .val (.ref ar), .val (.ref s), .val (.ref r1874)] [(.ref nr)]
    refine wGetS W1917 at_196 (ow129 hw) Via.refl hP.2.2.2.2.2.2.2.2.2.2.1 rfl fun T1925 W1926 => ?_
    refine gAcmp (pc' := 202) (same := true) W1926 at_199 rfl rfl (decide_eq_true rfl) (by decide) rfl ?_
    refine gIconst (z := (1 : Int32)) W1926 at_202 rfl rfl ?_
    refine gGoto (pc' := 207) W1926 at_203 (by decide) rfl ?_
    exact wRetI (so := []) (t := .boolean) W1926 at_207 (by simp) rfl (by decide) (by decide) (fun _ q => nomatch q) ⟨rfl, rfl⟩
  · by_cases hH : [104, 105, 103, 104] = cs
    · subst hH
      refine wStatic (y := (⟨"com/example/tidewire/tidewire/message/Priority", "ofWireName", "(Ljava/lang/String;)Ljava/util/Optional;"⟩ : MethodName)) (Wd := 0) (argsL := [(.ref s)]) (rest := []) W1076 at_168 (ow26 hw) (ow27 hw) (ow28 hw) (ow29 hw) (by decide) (Cb.ct (orm_ofh l Z a0 hw hE (va) (kv) (nr) (hi) (wn) (wh) (em) (s) (z) h1077 W1076.old hP SC hz f1078 ) (ow29 hw) (ow28 hw) hE (by decide) (by decide)) (by simp) rfl (lenOf opd11 rfl) rfl (Nat.le_of_eq rfl) (by decide) (by decide) rfl fun v1931 so1932 T1927 h1929 W1928 kp1930 sp1933 q1934 => ?_
      obtain ⟨r1935, rfl, rfl, f1936, f1937⟩ := q1934
      show Go K _ T1927 171 #[.val (.int p0), .val (.int p1), .val (.int p2), .val (.int p3), .val (.int v1068), .val (.int v1072), .val (.ref ar), .val (.ref s), .unset] [(.ref r1935)]
      refine gAstore (ls' := #[.val (.int p0), .val (.int p1), .val (.int p2), .val (.int p3), .val (.int v1068), .val (.int v1072), .val (.ref ar), .val (.ref s), .val (.ref r1935)]) W1928 at_171 rfl rfl rfl ?_
      refine gAload W1928 at_173 rfl rfl rfl ?_
      refine wLdcS (vs := [(.int 110), (.int 111), (.int 114), (.int 109), (.int 97), (.int 108)]) (z := 6) (n := 24) W1928 at_175 (ow65 hw) (owS hw) hE (by decide) (by decide) (by decide) (by decide) (by decide) (by decide) (by decide) (by decide) rfl fun T1938 h1940 a1941 t1942 k1943 W1939 E1944 A1945 f1946 f1947 f1948 ne1949 => ?_
      have f1950 : Str Z h1940 a1941 [(110 : Int32), (111 : Int32), (114 : Int32), (109 : Int32), (97 : Int32), (108 : Int32)] := Str.mkL (cs := [(110 : Int32), (111 : Int32), (114 : Int32), (109 : Int32), (97 : Int32), (108 : Int32)]) A1945 f1946 f1947 f1948 (by decide) (by decide) (by decide) (by decide)
      have f1951 := f1078.keep kp1930 nin0 (a0 := a0) alln
      have f1952 := f1951.ext E1944
      refine wVirtual (y := (⟨"java/lang/String", "equals", "(Ljava/lang/Object;)Z"⟩ : MethodName)) (z := (⟨"java/lang/String", "equals", "(Ljava/lang/Object;)Z"⟩ : MethodName)) (Wd := 0) (a := s) (argsL := [(.ref a1941)]) (rest := []) W1939 at_177 (ow66 hw) (ow50 hw) (ow52 hw) (ow51 hw) (nfS (ow52 hw)) (by decide) (eqPay hw hE s a1941 [104, 105, 103, 104] [(110 : Int32), (111 : Int32), (114 : Int32), (109 : Int32), (97 : Int32), (108 : Int32)] 0 f1952 f1950 (SC.ext W1939.old.2) hz (by decide) (by decide)) f1952.exa (by simp) rfl (lenOf opd5 rfl) rfl (Nat.le_of_eq rfl) (by decide) (by decide) rfl fun v1957 so1958 T1953 h1955 W1954 kp1956 sp1959 q1960 => ?_
      obtain ⟨b1961, rfl, rfl, f1962⟩ := q1960
      show Go K _ T1953 180 #[.val (.int p0), .val (.int p1), .val (.int p2), .val (.int p3), .val (.int v1068), .val (.int v1072), .val (.ref ar), .val (.ref s), .val (.ref r1935)] [(.int b1961)]
      rcases f1962 with ⟨rfl, ee1963⟩ | ⟨rfl, ee1963⟩
      · exact absurd ee1963 (by decide)
      refine gIfYes (pc' := 208) W1954 at_180 ((if0 _ _).trans (teq rfl).1) (by decide) rfl ?_
      refine gAload W1954 at_208 rfl rfl rfl ?_
      refine wLdcS (vs := [(.int 104), (.int 105), (.int 103), (.int 104)]) (z := 4) (n := 16) W1954 at_210 (ow67 hw) (owS hw) hE (by decide) (by decide) (by decide) (by decide) (by decide) (by decide) (by decide) (by decide) rfl fun T1964 h1966 a1967 t1968 k1969 W1965 E1970 A1971 f1972 f1973 f1974 ne1975 => ?_
      have f1976 : Str Z h1966 a1967 [(104 : Int32), (105 : Int32), (103 : Int32), (104 : Int32)] := Str.mkL (cs := [(104 : Int32), (105 : Int32), (103 : Int32), (104 : Int32)]) A1971 f1972 f1973 f1974 (by decide) (by decide) (by decide) (by decide)
      have f1977 := f1952.keep kp1956 nin0 (a0 := a0) alln
      have f1978 := f1977.ext E1970
      refine wVirtual (y := (⟨"java/lang/String", "equals", "(Ljava/lang/Object;)Z"⟩ : MethodName)) (z := (⟨"java/lang/String", "equals", "(Ljava/lang/Object;)Z"⟩ : MethodName)) (Wd := 0) (a := s) (argsL := [(.ref a1967)]) (rest := []) W1965 at_212 (ow66 hw) (ow50 hw) (ow52 hw) (ow51 hw) (nfS (ow52 hw)) (by decide) (eqPay hw hE s a1967 [104, 105, 103, 104] [(104 : Int32), (105 : Int32), (103 : Int32), (104 : Int32)] 0 f1978 f1976 (SC.ext W1965.old.2) hz (by decide) (by decide)) f1978.exa (by simp) rfl (lenOf opd5 rfl) rfl (Nat.le_of_eq rfl) (by decide) (by decide) rfl fun v1983 so1984 T1979 h1981 W1980 kp1982 sp1985 q1986 => ?_
      obtain ⟨b1987, rfl, rfl, f1988⟩ := q1986
      show Go K _ T1979 215 #[.val (.int p0), .val (.int p1), .val (.int p2), .val (.int p3), .val (.int v1068), .val (.int v1072), .val (.ref ar), .val (.ref s), .val (.ref r1935)] [(.int b1987)]
      rcases f1988 with ⟨rfl, ee1989⟩ | ⟨rfl, ee1989⟩
      rotate_left
      · exact absurd rfl ee1989
      refine gIfNo W1980 at_215 ((if0 _ _).trans (feq (by decide)).1) rfl ?_
      refine gAload W1980 at_218 rfl rfl rfl ?_
      have f1990 := f1937.ext E1944
      have f1991 := f1990.keep kp1956 nin0
      have f1992 := f1991.ext E1970
      have f1993 := f1992.keep kp1982 nin0
      have f2002 := f1936.ext E1944
      have f2003 := f2002.keep kp1956
      have f2004 := f2003.ext E1970
      have f2005 := f2004.keep kp1982
      refine wVirtual (y := (⟨"java/util/Optional", "isPresent", "()Z"⟩ : MethodName)) (z := (⟨"java/util/Optional", "isPresent", "()Z"⟩ : MethodName)) (Wd := 0) (a := r1935) (argsL := []) (rest := []) W1980 at_220 (ow68 hw) (ow69 hw) (ow71 hw) (ow70 hw) (nfS (ow71 hw)) (by decide) (Cb.ct (orm_ip1 l Z a0 hw hE (r1935) (hi) h1981 W1980.old f1993 ) (ow72 hw) (ow62 hw) hE (by decide) (by decide)) f2005 (by simp) rfl (lenOf opd12 rfl) rfl (Nat.le_of_eq rfl) (by decide) (by decide) rfl fun v1998 so1999 T1994 h1996 W1995 kp1997 sp2000 q2001 => ?_
      obtain ⟨rfl, rfl⟩ := q2001
      show Go K _ T1994 223 #[.val (.int p0), .val (.int p1), .val (.int p2), .val (.int p3), .val (.int v1068), .val (.int v1072), .val (.ref ar), .val (.ref s), .val (.ref r1935)] [(.int (1 : Int32))]
      refine gIfNo W1995 at_223 ((if0 _ _).trans (feq (by decide)).1) rfl ?_
      refine gAload W1995 at_226 rfl rfl rfl ?_
      have f2006 := f1993.keep kp1997 nin0
      have f2015 := f2005.keep kp1997
      refine wVirtual (y := (⟨"java/util/Optional", "get", "()Ljava/lang/Object;"⟩ : MethodName)) (z := (⟨"java/util/Optional", "get", "()Ljava/lang/Object;"⟩ : MethodName)) (Wd := 0) (a := r1935) (argsL := []) (rest := []) W1995 at_228 (ow123 hw) (ow124 hw) (ow126 hw) (ow125 hw) (nfS (ow126 hw)) (by decide) (Cb.ct (orm_og l Z a0 hw hE (r1935) (hi) h1996 W1995.old f2006 ) (ow127 hw) (ow62 hw) hE (by decide) (by decide)) f2015 (by simp) rfl (lenOf opd13 rfl) rfl (Nat.le_of_eq rfl) (by decide) (by decide) rfl fun v2011 so2012 T2007 h2009 W2008 kp2010 sp2013 q2014 => ?_
      obtain ⟨rfl, rfl⟩ := q2014
      show Go K _ T2007 231 #[.val (.int p0), .val (.int p1), .val (.int p2), .val (.int p3), .val (.int v1068), .val (.int v1072), .val (.ref ar), .val (.ref s), .val (.ref r1935)] [(.ref hi)]
      refine wGetS W2008 at_231 (ow128 hw) Via.refl hP.2.2.2.2.2.2.2.2.2.2.2 rfl fun T2016 W2017 => ?_
      refine gAcmp (pc' := 237) (same := true) W2017 at_234 rfl rfl (decide_eq_true rfl) (by decide) rfl ?_
      refine gIconst (z := (1 : Int32)) W2017 at_237 rfl rfl ?_
      refine gGoto (pc' := 242) W2017 at_238 (by decide) rfl ?_
      exact wRetI (so := []) (t := .boolean) W2017 at_242 (by simp) rfl (by decide) (by decide) (fun _ q => nomatch q) ⟨rfl, rfl⟩
    · refine wStatic (y := (⟨"com/example/tidewire/tidewire/message/Priority", "ofWireName", "(Ljava/lang/String;)Ljava/util/Optional;"⟩ : MethodName)) (Wd := 0) (argsL := [(.ref s)]) (rest := []) W1076 at_168 (ow26 hw) (ow27 hw) (ow28 hw) (ow29 hw) (by decide) (Cb.ct (orm_ofe l Z a0 hw hE (va) (kv) (nr) (hi) (wn) (wh) (em) (s) (z) (cs) h1077 W1076.old hP SC hz f1078 hN hH ) (ow29 hw) (ow28 hw) hE (by decide) (by decide)) (by simp) rfl (lenOf opd11 rfl) rfl (Nat.le_of_eq rfl) (by decide) (by decide) rfl fun v2022 so2023 T2018 h2020 W2019 kp2021 sp2024 q2025 => ?_
      obtain ⟨rfl, rfl, f2026, f2027⟩ := q2025
      show Go K _ T2018 171 #[.val (.int p0), .val (.int p1), .val (.int p2), .val (.int p3), .val (.int v1068), .val (.int v1072), .val (.ref ar), .val (.ref s), .unset] [(.ref em)]
      refine gAstore (ls' := #[.val (.int p0), .val (.int p1), .val (.int p2), .val (.int p3), .val (.int v1068), .val (.int v1072), .val (.ref ar), .val (.ref s), .val (.ref em)]) W2019 at_171 rfl rfl rfl ?_
      refine gAload W2019 at_173 rfl rfl rfl ?_
      refine wLdcS (vs := [(.int 110), (.int 111), (.int 114), (.int 109), (.int 97), (.int 108)]) (z := 6) (n := 24) W2019 at_175 (ow65 hw) (owS hw) hE (by decide) (by decide) (by decide) (by decide) (by decide) (by decide) (by decide) (by decide) rfl fun T2028 h2030 a2031 t2032 k2033 W2029 E2034 A2035 f2036 f2037 f2038 ne2039 => ?_
      have f2040 : Str Z h2030 a2031 [(110 : Int32), (111 : Int32), (114 : Int32), (109 : Int32), (97 : Int32), (108 : Int32)] := Str.mkL (cs := [(110 : Int32), (111 : Int32), (114 : Int32), (109 : Int32), (97 : Int32), (108 : Int32)]) A2035 f2036 f2037 f2038 (by decide) (by decide) (by decide) (by decide)
      have f2041 := f1078.keep kp2021 nin0 (a0 := a0) alln
      have f2042 := f2041.ext E2034
      refine wVirtual (y := (⟨"java/lang/String", "equals", "(Ljava/lang/Object;)Z"⟩ : MethodName)) (z := (⟨"java/lang/String", "equals", "(Ljava/lang/Object;)Z"⟩ : MethodName)) (Wd := 0) (a := s) (argsL := [(.ref a2031)]) (rest := []) W2029 at_177 (ow66 hw) (ow50 hw) (ow52 hw) (ow51 hw) (nfS (ow52 hw)) (by decide) (eqPay hw hE s a2031 cs [(110 : Int32), (111 : Int32), (114 : Int32), (109 : Int32), (97 : Int32), (108 : Int32)] 0 f2042 f2040 (SC.ext W2029.old.2) hz (by decide) (by decide)) f2042.exa (by simp) rfl (lenOf opd5 rfl) rfl (Nat.le_of_eq rfl) (by decide) (by decide) rfl fun v2047 so2048 T2043 h2045 W2044 kp2046 sp2049 q2050 => ?_
      obtain ⟨b2051, rfl, rfl, f2052⟩ := q2050
      show Go K _ T2043 180 #[.val (.int p0), .val (.int p1), .val (.int p2), .val (.int p3), .val (.int v1068), .val (.int v1072), .val (.ref ar), .val (.ref s), .val (.ref em)] [(.int b2051)]
      rcases f2052 with ⟨rfl, ee2053⟩ | ⟨rfl, ee2053⟩
      · exact absurd ee2053.symm hN
      refine gIfYes (pc' := 208) W2044 at_180 ((if0 _ _).trans (teq rfl).1) (by decide) rfl ?_
      refine gAload W2044 at_208 rfl rfl rfl ?_
      refine wLdcS (vs := [(.int 104), (.int 105), (.int 103), (.int 104)]) (z := 4) (n := 16) W2044 at_210 (ow67 hw) (owS hw) hE (by decide) (by decide) (by decide) (by decide) (by decide) (by decide) (by decide) (by decide) rfl fun T2054 h2056 a2057 t2058 k2059 W2055 E2060 A2061 f2062 f2063 f2064 ne2065 => ?_
      have f2066 : Str Z h2056 a2057 [(104 : Int32), (105 : Int32), (103 : Int32), (104 : Int32)] := Str.mkL (cs := [(104 : Int32), (105 : Int32), (103 : Int32), (104 : Int32)]) A2061 f2062 f2063 f2064 (by decide) (by decide) (by decide) (by decide)
      have f2067 := f2042.keep kp2046 nin0 (a0 := a0) alln
      have f2068 := f2067.ext E2060
      refine wVirtual (y := (⟨"java/lang/String", "equals", "(Ljava/lang/Object;)Z"⟩ : MethodName)) (z := (⟨"java/lang/String", "equals", "(Ljava/lang/Object;)Z"⟩ : MethodName)) (Wd := 0) (a := s) (argsL := [(.ref a2057)]) (rest := []) W2055 at_212 (ow66 hw) (ow50 hw) (ow52 hw) (ow51 hw) (nfS (ow52 hw)) (by decide) (eqPay hw hE s a2057 cs [(104 : Int32), (105 : Int32), (103 : Int32), (104 : Int32)] 0 f2068 f2066 (SC.ext W2055.old.2) hz (by decide) (by decide)) f2068.exa (by simp) rfl (lenOf opd5 rfl) rfl (Nat.le_of_eq rfl) (by decide) (by decide) rfl fun v2073 so2074 T2069 h2071 W2070 kp2072 sp2075 q2076 => ?_
      obtain ⟨b2077, rfl, rfl, f2078⟩ := q2076
      show Go K _ T2069 215 #[.val (.int p0), .val (.int p1), .val (.int p2), .val (.int p3), .val (.int v1068), .val (.int v1072), .val (.ref ar), .val (.ref s), .val (.ref em)] [(.int b2077)]
      rcases f2078 with ⟨rfl, ee2079⟩ | ⟨rfl, ee2079⟩
      · exact absurd ee2079.symm hH
      refine gIfYes (pc' := 243) W2070 at_215 ((if0 _ _).trans (teq rfl).1) (by decide) rfl ?_
      refine gAload W2070 at_243 rfl rfl rfl ?_
      have f2080 := f2027.ext E2034
      have f2081 := f2080.keep kp2046 nin0
      have f2082 := f2081.ext E2060
      have f2083 := f2082.keep kp2072 nin0
      have f2092 := f2026.ext E2034
      have f2093 := f2092.keep kp2046
      have f2094 := f2093.ext E2060
      have f2095 := f2094.keep kp2072
      refine wVirtual (y := (⟨"java/util/Optional", "isPresent", "()Z"⟩ : MethodName)) (z := (⟨"java/util/Optional", "isPresent", "()Z"⟩ : MethodName)) (Wd := 0) (a := em) (argsL := []) (rest := []) W2070 at_245 (ow68 hw) (ow69 hw) (ow71 hw) (ow70 hw) (nfS (ow71 hw)) (by decide) (Cb.ct (orm_ip0 l Z a0 hw hE (em) h2071 W2070.old f2083 ) (ow72 hw) (ow62 hw) hE (by decide) (by decide)) f2095 (by simp) rfl (lenOf opd12 rfl) rfl (Nat.le_of_eq rfl) (by decide) (by decide) rfl fun v2088 so2089 T2084 h2086 W2085 kp2087 sp2090 q2091 => ?_
      obtain ⟨rfl, rfl⟩ := q2091
      show Go K _ T2084 248 #[.val (.int p0), .val (.int p1), .val (.int p2), .val (.int p3), .val (.int v1068), .val (.int v1072), .val (.ref ar), .val (.ref s), .val (.ref em)] [(.int (0 : Int32))]
      refine gIfNo W2085 at_248 ((if0 _ _).trans (teq rfl).2) rfl ?_
      refine gIconst (z := (1 : Int32)) W2085 at_251 rfl rfl ?_
      refine gGoto (pc' := 256) W2085 at_252 (by decide) rfl ?_
      exact wRetI (so := []) (t := .boolean) W2085 at_256 (by simp) rfl (by decide) (by decide) (fun _ q => nomatch q) ⟨rfl, rfl⟩
theorem ow34 {a0 : Array Value} {Z : State} (hw : ∀ d ∈ tables_1, d.before a0 Z = true) : (Jvm.Cond.laysStatic "com/example/tidewire/tidewire/message/Priority" "$VALUES" "[Lcom/example/tidewire/tidewire/message/Priority;").before a0 Z = true := hw _ (List.mem_of_getElem? (i := 34) rfl)
theorem ow42 {a0 : Array Value} {Z : State} (hw : ∀ d ∈ tables_1, d.before a0 Z = true) : (Jvm.Cond.laysStatic "com/example/tidewire/tidewire/message/Priority" "NORMAL" "Lcom/example/tidewire/tidewire/message/Priority;").before a0 Z = true := hw _ (List.mem_of_getElem? (i := 42) rfl)
theorem ow43 {a0 : Array Value} {Z : State} (hw : ∀ d ∈ tables_1, d.before a0 Z = true) : (Jvm.Cond.laysStatic "com/example/tidewire/tidewire/message/Priority" "HIGH" "Lcom/example/tidewire/tidewire/message/Priority;").before a0 Z = true := hw _ (List.mem_of_getElem? (i := 43) rfl)
set_option maxRecDepth 65536 in
set_option maxHeartbeats 40000000 in
theorem comes_1 {Post : Tables → Env → Array Value → State → Outcome → State → Prop} (hpost : ∀ tb e args s v u, (limb_1_1.after args s (.returned v) u = true ∧ limb_1_2.after args s (.returned v) u = true ∧ True) → FramedW s (.returned v) u (Jvm.fieldLocs frame_1_writes args s ++ Jvm.arrayLocs frame_1_arrays args s ++ Jvm.staticLocs frame_1_statics s) 24 3200 → Post tb e args s (.returned v) u) :
    ArmFor flags0 classFile x code maxLocals ret World_1 tables_1 room_1 Calls_1 rest_1 Pre_1 Post := by
  intro l hfl _ _ p e ha hc hk s m args below hf hA hF happ hP
  obtain ⟨hcalls, hrest, hpre⟩ := hP
  obtain ⟨-, -, -, hnamed, -, -, -, hat⟩ := (Spec.applies_iff hf).mp happ
  obtain ⟨hg, hn⟩ := and_e (Cond.before_iff.mp (show (Jvm.Cond.and given_1 narrow_1).before args s = true from hpre))
  obtain ⟨hcount, hg0⟩ := and_e hg
  obtain ⟨hi0, hg1⟩ := and_e hg0
  obtain ⟨hi1, hg2⟩ := and_e hg1
  obtain ⟨hi2, hg3⟩ := and_e hg2
  have hi3 := hg3
  obtain ⟨w0, w1, w2, w3, rfl⟩ : ∃ w0 w1 w2 w3 : Value, args = #[w0, w1, w2, w3] := by
    have hs : args.size = 4 := by simpa [Cond.value, given_1] using hcount
    obtain ⟨L⟩ := args
    match L, hs with
    | [w0, w1, w2, w3], _ => exact ⟨w0, w1, w2, w3, rfl⟩
  have hw := fun d (hd : d ∈ tables_1) => atoms_spec (ws := Jvm.Cond.code x code maxLocals ret :: tables_1) hat d (List.mem_cons_of_mem _ hd)
  obtain ⟨hsets, hown0⟩ := atoms_of _ (rest_1_c_eq ▸ (show rest_1_c.before _ s = true from hrest))
  obtain ⟨i0, ei0⟩ := is_v hi0
  obtain rfl : w0 = (.int i0) := Option.some.inj ei0
  obtain ⟨i1, ei1⟩ := is_v hi1
  obtain rfl : w1 = (.int i1) := Option.some.inj ei1
  obtain ⟨i2, ei2⟩ := is_v hi2
  obtain rfl : w2 = (.int i2) := Option.some.inj ei2
  obtain ⟨i3, ei3⟩ := is_v hi3
  obtain rfl : w3 = (.int i3) := Option.some.inj ei3
  have n5 := not_v (Cond.before_iff.mp (hsets _ (List.mem_of_getElem? (i := 2) rfl)))
  obtain ⟨iz, ez⟩ := is_v (Cond.before_iff.mp (hsets _ (List.mem_of_getElem? (i := 1) rfl)))
  have SC : Sta s s.heap "java/lang/String" "COMPACT_STRINGS" "Z" (.int iz) := Sta.start ez (Or.inl (hsets _ (List.mem_of_getElem? (i := 0) rfl)))
  have hz : ¬ (iz = (0 : Int32)) := gotF (Cond.eq_ints ez (Term.int_eval (0))) n5
  obtain ⟨n0, r0⟩ := and_e hn
  obtain ⟨n1, r1⟩ := and_e r0
  obtain ⟨n2, r2⟩ := and_e r1
  obtain ⟨n3, r3⟩ := and_e r2
  obtain ⟨n4, r4⟩ := and_e r3
  obtain ⟨n5, r5⟩ := and_e r4
  obtain ⟨n6, r6⟩ := and_e r5
  obtain ⟨n7, r7⟩ := and_e r6
  obtain ⟨n8, r8⟩ := and_e r7
  obtain ⟨n9, r9⟩ := and_e r8
  obtain ⟨n10, r10⟩ := and_e r9
  obtain ⟨n11, r11⟩ := and_e r10
  obtain ⟨n12, r12⟩ := and_e r11
  obtain ⟨n13, r13⟩ := and_e r12
  obtain ⟨n14, r14⟩ := and_e r13
  obtain ⟨n15, r15⟩ := and_e r14
  obtain ⟨n16, r16⟩ := and_e r15
  obtain ⟨n17, r17⟩ := and_e r16
  obtain ⟨n18, r18⟩ := and_e r17
  obtain ⟨n19, r19⟩ := and_e r18
  obtain ⟨n20, r20⟩ := and_e r19
  obtain ⟨n21, r21⟩ := and_e r20
  obtain ⟨n22, r22⟩ := and_e r21
  obtain ⟨n23, r23⟩ := and_e r22
  have n24 := r23
  have hfit : Fit s := fun {y c} hc i hi => by
    obtain ⟨ha, rfl⟩ := Array.getElem?_eq_some_iff.mp hc
    have q := List.all_eq_true.mp ((Array.all_eq_true_iff_forall_mem.mp hF) _ (Array.getElem_mem ha)) i (List.mem_range.mpr hi)
    simpa [Array.getElem?_eq_getElem hi] using q
  obtain ⟨va, eva⟩ := arr_v n0
  obtain ⟨nr, enr⟩ := exa_v n3
  obtain ⟨hi, ehi⟩ := exa_v n5
  obtain ⟨wn, ewn⟩ := exa_v n7
  obtain ⟨wh, ewh⟩ := exa_v n11
  obtain ⟨vn, evn⟩ := arr_v n9
  obtain ⟨vh, evh⟩ := arr_v n13
  obtain ⟨kv, AV⟩ := arvStart (vs := [.ref nr, .ref hi]) (dv := .null) hfit eva n0 n2 (by decide) (show Int32.toNatClampNeg 2 = 2 from by decide) (fun cl hc => ⟨elem_h eva (eqR_v n4 enr) hc 0 (by decide), elem_h eva (eqR_v n6 ehi) hc 1 (by decide), trivial⟩)
  obtain ⟨kn, An⟩ := arvStart (vs := [.int 110, .int 111, .int 114, .int 109, .int 97, .int 108]) (dv := .int 0) hfit evn n9 n10 (by decide) (by decide) (fun cl hc => ⟨elem_h evn (eqI_v n19) hc 0 (by decide), elem_h evn (eqI_v n20) hc 1 (by decide), elem_h evn (eqI_v n21) hc 2 (by decide), elem_h evn (eqI_v n22) hc 3 (by decide), elem_h evn (eqI_v n23) hc 4 (by decide), elem_h evn (eqI_v n24) hc 5 (by decide), trivial⟩)
  obtain ⟨kh, Ah⟩ := arvStart (vs := [.int 104, .int 105, .int 103, .int 104]) (dv := .int 0) hfit evh n13 n14 (by decide) (by decide) (fun cl hc => ⟨elem_h evh (eqI_v n15) hc 0 (by decide), elem_h evh (eqI_v n16) hc 1 (by decide), elem_h evh (eqI_v n17) hc 2 (by decide), elem_h evh (eqI_v n18) hc 3 (by decide), trivial⟩)
  have SN : Str s s.heap wn [110, 111, 114, 109, 97, 108] := Str.mkL (cs := [110, 111, 114, 109, 97, 108]) (Exa.start ewn n7) (Fld.start ((fld_at ewn).symm.trans (eqI_v n8))) (Fld.start ((fld_at ewn).symm.trans evn)) An (by decide) (by decide) (by decide) (by decide)
  have SH : Str s s.heap wh [104, 105, 103, 104] := Str.mkL (cs := [104, 105, 103, 104]) (Exa.start ewh n11) (Fld.start ((fld_at ewh).symm.trans (eqI_v n12))) (Fld.start ((fld_at ewh).symm.trans evh)) Ah (by decide) (by decide) (by decide) (by decide)
  obtain ⟨em, eem⟩ := exa_v (Cond.before_iff.mp (hsets _ (List.mem_of_getElem? (i := 11) rfl)))
  have SE : Sta s s.heap "java/util/Optional" "EMPTY" "Ljava/util/Optional;" (.ref em) := Sta.start eem (Or.inl (hsets _ (List.mem_of_getElem? (i := 10) rfl)))
  have FE : Fld s s.heap em "java/util/Optional" "value" "Ljava/lang/Object;" .null := Fld.start ((fld_at eem).symm.trans (null_v (Cond.before_iff.mp (hsets _ (List.mem_of_getElem? (i := 12) rfl)))))
  have hP : Wld s va kv nr hi wn wh em := ⟨(Sta.start eva (Or.inr ⟨(ow28 hw), (ow34 hw)⟩)), AV, Exa.start eva n1, Fld.start ((fld_at enr).symm.trans ewn), SN, Fld.start ((fld_at ehi).symm.trans ewh), SH, SE, Exa.start eem (Cond.before_iff.mp (hsets _ (List.mem_of_getElem? (i := 11) rfl))), FE, (Sta.start enr (Or.inr ⟨(ow28 hw), (ow42 hw)⟩)), (Sta.start ehi (Or.inr ⟨(ow28 hw), (ow43 hw)⟩))⟩
  obtain ⟨fm, ef, rf⟩ := isR_v (Cond.before_iff.mp (hsets _ (List.mem_of_getElem? (i := 8) rfl)))
  have SF : Sta s s.heap "jdk/internal/util/Preconditions" "SIOOBE_FORMATTER" "Ljava/util/function/BiFunction;" fm := Sta.start ef (Or.inl (hsets _ (List.mem_of_getElem? (i := 7) rfl)))
  have hE : EW s #[(.int i0), (.int i1), (.int i2), (.int i3)] consts_1 := (EW.cons (ow65 hw) (by decide) (EW.cons (ow67 hw) (by decide) (EW.cons (ow18 hw) (by decide) EW.nil)))
  have hcw : Jvm.Lit.compactW.before _ s = true := (hsets _ (List.mem_of_getElem? (i := 2) rfl))
  have hCH : CHv s consts_1 s.vm s.heap := CHv.start hE (fun q hq => (hcalls.1 : constsHeld consts_1 s) q hq) hcw (owS hw _ (by simp [Bundle.stringAtoms])) (hws' hw)
  obtain ⟨n, o, h1, h2, h3, v, L, so, rfl, hQ, -, hL, -, hq⟩ := orm_law l s _ hw hE i0 i1 i2 i3 iz fm va kv nr hi wn wh em s.heap (Old.start s) SC hz SF rf hP tables_1 p e ha hc hk s m _ below hf ((Spec.applies_iff_loose hf).mp happ).1 ⟨rfl, State.Warmed39.refl s, rfl, hCH, fun _ q => nomatch q⟩ trivial
  obtain ⟨rfl, -⟩ := hQ
  refine ⟨n, _, h1, h2, h3, hpost _ _ _ _ _ _ ⟨Cond.after_iff.mpr rfl, Cond.after_iff.mpr (eq_i res_at (Term.int_eval (1)) rfl), trivial⟩ ⟨hq.1, hq.2.1, hq.2.2.1, (hq.2.2.2.sift fun y hy => Or.inr ?_).mono (by decide) (by decide)⟩⟩
  rcases hL y hy with z | z
  · cases z
  · exact z
theorem main_1_1 : Claimed_1_1 := comes_1 fun _ _ _ _ _ _ h hF => ⟨h.1, hF⟩
theorem main_1_2 : Claimed_1_2 := comes_1 fun _ _ _ _ _ _ h hF => ⟨h.2.1, hF⟩
end Jvm.Pilot.@@N@@
namespace Jvm.Pilot.@@N@@
open Jvm Jvm.ClassFile Sem Op Lib Jvm.Free Jvm.Stand Jvm.Pilot.@@N@@.Jvm.D
/-! MADE BY PROGRAM (witnessworld.py) out of the Statement's table words and the real class files: 24 classes; the members and pool entries that the words name. The judged class is class 1, her method 1. -/
namespace start1
open Jvm.ClassFile
def u (s : String) : CpInfo := .utf8 (stringToUtf16 s)
/-- a pool by its gaps: so many unusable entries, then the entry; so many at the end -/
def gap : Nat → List CpInfo → List CpInfo
  | 0, r => r
  | n + 1, r => .unusable :: gap n r
def poolList (es : List (Nat × CpInfo)) (last : Nat) : List CpInfo := es.foldr (fun e r => gap e.1 (e.2 :: r)) (gap last [])
def pool (es : List (Nat × CpInfo)) (last : Nat) : Array CpInfo := ⟨poolList es last⟩
def fileOf (pool : Array CpInfo) (this : Nat) (attrs : Array Attribute := #[]) (ms : Array MethodInfo := #[]) (fl : Nat := 33) (sup : Nat := 0) (ifs : Array Nat := #[]) (fds : Array FieldInfo := #[]) : ClassFile where
  minorVersion := 0
  majorVersion := 65
  constantPool := pool
  accessFlags := fl
  thisClass := this
  superClass := sup
  interfaces := ifs
  fields := fds
  methods := ms
  attributes := attrs
def plain (name : String) (sup : Option ClassId) : Class where
  name := name
  kind := .ordinary
  loader := none
  accessFlags := 33
  super := sup
  interfaces := #[]
  cf := none
  fields := #[]
  methods := #[]
  instanceTypes := #[]
  staticTypes := #[]
  resolved := #[]
  callSites := []
  init := .initialized
  statics := none
  mirror := none

def pool0 : Array CpInfo := pool [(5, u "<init>"), (0, u "()V"), (1, .class_ 10), (1, u "java/lang/Object"), (85, u "clone"), (0, u "()Ljava/lang/Object;")] 26

def k0c0 : Code := { maxStack := 0, maxLocals := 1, code := object_method_1_code, exceptionTable := #[], attributes := #[] }
def k0m0 : Method := { name := "<init>", desc := "()V", sig := { parameters := [], returnType := none }, accessFlags := 1, code := some k0c0 }
def k0m1 : Method := { name := "clone", desc := "()Ljava/lang/Object;", sig := { parameters := [], returnType := some (.object "java/lang/Object") }, accessFlags := 260, code := none }
/-- java/lang/Object -/
def k0 : Class := { plain "java/lang/Object" none with
  accessFlags := 33
  interfaces := #[]
  cf := some (fileOf pool0 8 #[] #[{ accessFlags := 1, nameIndex := 5, descriptorIndex := 6, attributes := #[] }, { accessFlags := 260, nameIndex := 96, descriptorIndex := 97, attributes := #[] }] 33 0 #[] #[])
  fields := #[]
  methods := #[k0m0, k0m1]
  instanceTypes := #[]
  staticTypes := #[]
  resolved := Array.replicate 124 none
  statics := none }

def pool1 : Array CpInfo := pool [(2, .class_ 4), (1, u "java/lang/Object"), (0, u "<init>"), (0, u "()V"), (0, .methodref 8 9), (0, .class_ 10), (0, .nameAndType 11 12), (0, u "com/example/tidewire/tidewire/message/PriorityOfWireNamePinLaw"), (0, u "alloc"), (0, u "(I)[C"), (0, .methodref 8 14), (0, .nameAndType 15 16), (0, u "at"), (0, u "(IIIII)C"), (0, .class_ 18), (0, u "java/lang/String"), (0, .methodref 17 20), (0, .nameAndType 5 21), (0, u "([C)V"), (0, .methodref 23 24), (0, .class_ 25), (0, .nameAndType 26 27), (0, u "com/example/tidewire/tidewire/message/Priority"), (0, u "ofWireName"), (0, u "(Ljava/lang/String;)Ljava/util/Optional;"), (0, .string 29), (0, u "normal"), (0, .methodref 17 31), (0, .nameAndType 32 33), (0, u "equals"), (0, u "(Ljava/lang/Object;)Z"), (0, .methodref 35 36), (0, .class_ 37), (0, .nameAndType 38 39), (0, u "java/util/Optional"), (0, u "isPresent"), (0, u "()Z"), (0, .methodref 35 41), (0, .nameAndType 42 43), (0, u "get"), (0, u "()Ljava/lang/Object;"), (0, .fieldref 23 45), (0, .nameAndType 46 47), (0, u "NORMAL"), (0, u "Lcom/example/tidewire/tidewire/message/Priority;"), (0, .string 49), (0, u "high"), (0, .fieldref 23 51), (0, .nameAndType 52 47), (0, u "HIGH"), (0, .methodref 17 54), (0, .nameAndType 55 56), (0, u "charAt"), (0, u "(I)C"), (2, u "law"), (0, u "(IIII)Z")] 5

def k1m0 : Method := { name := "<init>", desc := "()V", sig := { parameters := [], returnType := none }, accessFlags := 1, code := none }
def k1c1 : Code := { maxStack := 7, maxLocals := 9, code := code, exceptionTable := #[], attributes := #[] }
def k1m1 : Method := { name := "law", desc := "(IIII)Z", sig := { parameters := [.int, .int, .int, .int], returnType := some .boolean }, accessFlags := 9, code := some k1c1 }
def k1c2 : Code := { maxStack := 2, maxLocals := 1, code := method_3_code, exceptionTable := #[], attributes := #[] }
def k1m2 : Method := { name := "alloc", desc := "(I)[C", sig := { parameters := [.int], returnType := some (.array .char) }, accessFlags := 10, code := some k1c2 }
def k1c3 : Code := { maxStack := 3, maxLocals := 7, code := method_4_code, exceptionTable := #[], attributes := #[] }
def k1m3 : Method := { name := "at", desc := "(IIIII)C", sig := { parameters := [.int, .int, .int, .int, .int], returnType := some .char }, accessFlags := 10, code := some k1c3 }
/-- com/example/tidewire/tidewire/message/PriorityOfWireNamePinLaw -/
def k1 : Class := { plain "com/example/tidewire/tidewire/message/PriorityOfWireNamePinLaw" (some 0) with
  accessFlags := 49
  interfaces := #[]
  cf := some (fileOf pool1 8 #[] #[{ accessFlags := 1, nameIndex := 5, descriptorIndex := 6, attributes := #[] }, { accessFlags := 9, nameIndex := 59, descriptorIndex := 60, attributes := #[] }, { accessFlags := 10, nameIndex := 11, descriptorIndex := 12, attributes := #[] }, { accessFlags := 10, nameIndex := 15, descriptorIndex := 16, attributes := #[] }] 49 2 #[] #[])
  fields := #[]
  methods := #[k1m0, k1m1, k1m2, k1m3]
  instanceTypes := #[]
  staticTypes := #[]
  resolved := Array.replicate 66 none
  statics := none }

def pool2 : Array CpInfo := pool [(1, .class_ 2), (0, u "java/io/Serializable"), (0, .class_ 4), (0, u "java/lang/Object")] 2

/-- java/io/Serializable -/
def k2 : Class := { plain "java/io/Serializable" (some 0) with
  accessFlags := 1537
  interfaces := #[]
  cf := some (fileOf pool2 1 #[] #[] 1537 3 #[] #[])
  fields := #[]
  methods := #[]
  instanceTypes := #[]
  staticTypes := #[]
  resolved := Array.replicate 7 none
  statics := none }

def pool3 : Array CpInfo := pool [(1, .class_ 2), (0, u "java/lang/Comparable"), (0, .class_ 4), (0, u "java/lang/Object")] 7

/-- java/lang/Comparable -/
def k3 : Class := { plain "java/lang/Comparable" (some 0) with
  accessFlags := 1537
  interfaces := #[]
  cf := some (fileOf pool3 1 #[] #[] 1537 3 #[] #[])
  fields := #[]
  methods := #[]
  instanceTypes := #[]
  staticTypes := #[]
  resolved := Array.replicate 12 none
  statics := none }

def pool4 : Array CpInfo := pool [(2, .class_ 4), (1, u "java/lang/CharSequence"), (42, .class_ 48), (0, u "java/lang/CharSequence$1CodePointIterator"), (10, .class_ 60), (0, u "java/lang/CharSequence$1CharIterator"), (5, .class_ 67), (0, u "java/lang/Object")] 63

/-- java/lang/CharSequence -/
def k4 : Class := { plain "java/lang/CharSequence" (some 0) with
  accessFlags := 1537
  interfaces := #[]
  cf := some (fileOf pool4 2 #[.nestMembers #[47, 59]] #[] 1537 66 #[] #[])
  fields := #[]
  methods := #[]
  instanceTypes := #[]
  staticTypes := #[]
  resolved := Array.replicate 131 none
  statics := none }

def pool5 : Array CpInfo := pool [(1, .class_ 2), (0, u "java/lang/constant/Constable"), (0, .class_ 4), (0, u "java/lang/Object")] 6

/-- java/lang/constant/Constable -/
def k5 : Class := { plain "java/lang/constant/Constable" (some 0) with
  accessFlags := 1537
  interfaces := #[]
  cf := some (fileOf pool5 1 #[] #[] 1537 3 #[] #[])
  fields := #[]
  methods := #[]
  instanceTypes := #[]
  staticTypes := #[]
  resolved := Array.replicate 11 none
  statics := none }

def pool6 : Array CpInfo := pool [(1, .class_ 2), (0, u "java/lang/constant/ConstantDesc"), (0, .class_ 4), (0, u "java/lang/Object")] 32

/-- java/lang/constant/ConstantDesc -/
def k6 : Class := { plain "java/lang/constant/ConstantDesc" (some 0) with
  accessFlags := 1537
  interfaces := #[]
  cf := some (fileOf pool6 1 #[] #[] 1537 3 #[] #[])
  fields := #[]
  methods := #[]
  instanceTypes := #[]
  staticTypes := #[]
  resolved := Array.replicate 37 none
  statics := none }

def pool7 : Array CpInfo := pool [(1, .methodref 2 3), (0, .class_ 4), (0, .nameAndType 5 6), (0, u "java/lang/Object"), (0, u "<init>"), (0, u "()V"), (0, .string 8), (0, u ""), (0, .fieldref 10 11), (0, .class_ 12), (0, .nameAndType 13 14), (0, u "java/lang/String"), (0, u "value"), (0, u "[B"), (0, .fieldref 10 16), (0, .nameAndType 17 18), (0, u "coder"), (0, u "B"), (2, u "hash"), (0, u "I"), (2, u "hashIsZero"), (0, u "Z"), (0, .methodref 10 28), (0, .nameAndType 5 29), (0, u "([CIILjava/lang/Void;)V"), (8, .fieldref 10 39), (0, .nameAndType 40 26), (0, u "COMPACT_STRINGS"), (1, .class_ 44), (1, u "java/lang/StringUTF16"), (0, u "compress"), (1, .methodref 42 48), (0, .nameAndType 49 50), (0, u "coderFromArrayLen"), (0, u "([BI)B"), (56, .class_ 109), (1, u "java/lang/StringLatin1"), (32, u "()Z"), (34, .methodref 42 178), (0, .nameAndType 45 179), (0, u "([CII)[B"), (183, u "([BI)C"), (27, u "(II)V"), (35, u "(I)C"), (64, .methodref 10 493), (0, .nameAndType 494 142), (0, u "isLatin1"), (0, .methodref 107 496), (0, .nameAndType 497 363), (0, u "charAt"), (3, u "checkIndex"), (39, .methodref 107 542), (0, .nameAndType 543 544), (0, u "equals"), (0, u "([B[B)Z"), (28, u "(Ljava/lang/Object;)Z"), (1, .class_ 576), (0, u "java/lang/CharSequence"), (22, u "CASE_INSENSITIVE_ORDER"), (0, u "Ljava/util/Comparator;"), (409, u "([C)V"), (42, .fieldref 1054 1055), (0, .class_ 1056), (0, .nameAndType 1057 1058), (0, u "jdk/internal/util/Preconditions"), (0, u "SIOOBE_FORMATTER"), (0, u "Ljava/util/function/BiFunction;"), (0, .methodref 1054 1060), (0, .nameAndType 501 1061), (0, u "(IILjava/util/function/BiFunction;)I"), (39, u "serialPersistentFields"), (0, u "[Ljava/io/ObjectStreamField;"), (0, .class_ 1104), (0, u "java/lang/String$CaseInsensitiveComparator"), (1, .class_ 1107), (0, u "java/io/Serializable"), (0, .class_ 1109), (0, u "java/lang/Comparable"), (0, .class_ 1111), (0, u "java/lang/constant/Constable"), (0, .class_ 1113), (0, u "java/lang/constant/ConstantDesc"), (2, u "serialVersionUID"), (0, u "J"), (3, u "REPL"), (0, u "C"), (2, u "LATIN1"), (1, u "UTF16")] 323

def k7m0 : Method := { name := "<init>", desc := "()V", sig := { parameters := [], returnType := none }, accessFlags := 1, code := none }
def k7c1 : Code := { maxStack := 5, maxLocals := 2, code := jdk_42_method_3_code, exceptionTable := #[], attributes := #[] }
def k7m1 : Method := { name := "<init>", desc := "([C)V", sig := { parameters := [(.array .char)], returnType := none }, accessFlags := 1, code := some k7c1 }
def k7c2 : Code := { maxStack := 2, maxLocals := 2, code := jdk_42_method_56_code, exceptionTable := #[], attributes := #[] }
def k7m2 : Method := { name := "charAt", desc := "(I)C", sig := { parameters := [.int], returnType := some .char }, accessFlags := 1, code := some k7c2 }
def k7c3 : Code := { maxStack := 2, maxLocals := 3, code := jdk_42_method_66_code, exceptionTable := #[], attributes := #[] }
def k7m3 : Method := { name := "equals", desc := "(Ljava/lang/Object;)Z", sig := { parameters := [(.object "java/lang/Object")], returnType := some .boolean }, accessFlags := 1, code := some k7c3 }
def k7c4 : Code := { maxStack := 4, maxLocals := 6, code := jdk_42_method_149_code, exceptionTable := #[], attributes := #[] }
def k7m4 : Method := { name := "<init>", desc := "([CIILjava/lang/Void;)V", sig := { parameters := [(.array .char), .int, .int, (.object "java/lang/Void")], returnType := none }, accessFlags := 2, code := some k7c4 }
def k7c5 : Code := { maxStack := 1, maxLocals := 1, code := jdk_42_method_154_code, exceptionTable := #[], attributes := #[] }
def k7m5 : Method := { name := "isLatin1", desc := "()Z", sig := { parameters := [], returnType := some .boolean }, accessFlags := 0, code := some k7c5 }
def k7c6 : Code := { maxStack := 3, maxLocals := 2, code := jdk_42_method_155_code, exceptionTable := #[], attributes := #[] }
def k7m6 : Method := { name := "checkIndex", desc := "(II)V", sig := { parameters := [.int, .int], returnType := none }, accessFlags := 8, code := some k7c6 }
/-- java/lang/String -/
def k7 : Class := { plain "java/lang/String" (some 0) with
  accessFlags := 49
  interfaces := #[2, 3, 4, 5, 6]
  cf := some (fileOf pool7 10 #[.nestMembers #[1103]] #[{ accessFlags := 1, nameIndex := 5, descriptorIndex := 6, attributes := #[] }, { accessFlags := 1, nameIndex := 5, descriptorIndex := 1010, attributes := #[] }, { accessFlags := 1, nameIndex := 497, descriptorIndex := 427, attributes := #[] }, { accessFlags := 1, nameIndex := 543, descriptorIndex := 573, attributes := #[] }, { accessFlags := 2, nameIndex := 5, descriptorIndex := 29, attributes := #[] }, { accessFlags := 0, nameIndex := 494, descriptorIndex := 142, attributes := #[] }, { accessFlags := 8, nameIndex := 501, descriptorIndex := 391, attributes := #[] }] 49 2 #[1106, 1108, 575, 1110, 1112] #[{ accessFlags := 18, nameIndex := 13, descriptorIndex := 14, attributes := #[] }, { accessFlags := 18, nameIndex := 17, descriptorIndex := 18, attributes := #[] }, { accessFlags := 2, nameIndex := 21, descriptorIndex := 22, attributes := #[] }, { accessFlags := 2, nameIndex := 25, descriptorIndex := 26, attributes := #[] }, { accessFlags := 26, nameIndex := 1116, descriptorIndex := 1117, attributes := #[] }, { accessFlags := 24, nameIndex := 40, descriptorIndex := 26, attributes := #[] }, { accessFlags := 26, nameIndex := 1101, descriptorIndex := 1102, attributes := #[] }, { accessFlags := 26, nameIndex := 1121, descriptorIndex := 1122, attributes := #[] }, { accessFlags := 25, nameIndex := 599, descriptorIndex := 600, attributes := #[] }, { accessFlags := 24, nameIndex := 1125, descriptorIndex := 18, attributes := #[] }, { accessFlags := 24, nameIndex := 1127, descriptorIndex := 18, attributes := #[] }])
  fields := #[{ name := "value", type := (.array .byte), accessFlags := 18, slot := 0, constantValue := 0 }, { name := "coder", type := .byte, accessFlags := 18, slot := 1, constantValue := 0 }, { name := "hash", type := .int, accessFlags := 2, slot := 2, constantValue := 0 }, { name := "hashIsZero", type := .boolean, accessFlags := 2, slot := 3, constantValue := 0 }, { name := "serialVersionUID", type := .long, accessFlags := 26, slot := 0, constantValue := 0 }, { name := "COMPACT_STRINGS", type := .boolean, accessFlags := 24, slot := 1, constantValue := 0 }, { name := "serialPersistentFields", type := (.array (.object "java/io/ObjectStreamField")), accessFlags := 26, slot := 2, constantValue := 0 }, { name := "REPL", type := .char, accessFlags := 26, slot := 3, constantValue := 0 }, { name := "CASE_INSENSITIVE_ORDER", type := (.object "java/util/Comparator"), accessFlags := 25, slot := 4, constantValue := 0 }, { name := "LATIN1", type := .byte, accessFlags := 24, slot := 5, constantValue := 0 }, { name := "UTF16", type := .byte, accessFlags := 24, slot := 6, constantValue := 0 }]
  methods := #[k7m0, k7m1, k7m2, k7m3, k7m4, k7m5, k7m6]
  instanceTypes := #[(.array .byte), .byte, .int, .boolean]
  staticTypes := #[.long, .boolean, (.array (.object "java/io/ObjectStreamField")), .char, (.object "java/util/Comparator"), .byte, .byte]
  resolved := Array.replicate 1451 none
  statics := some 0 }

def pool8 : Array CpInfo := pool [(2, .class_ 4), (1, u "java/lang/Enum"), (0, u "name"), (0, u "Ljava/lang/String;"), (2, u "ordinal"), (0, u "I"), (1, .class_ 14), (1, u "java/lang/Object"), (4, u "hash"), (86, .class_ 108), (1, u "java/lang/Enum$EnumDesc"), (2, .class_ 112), (0, u "java/lang/constant/Constable"), (0, .class_ 114), (0, u "java/lang/Comparable"), (0, .class_ 116), (0, u "java/io/Serializable")] 87

/-- java/lang/Enum -/
def k8 : Class := { plain "java/lang/Enum" (some 0) with
  accessFlags := 1057
  interfaces := #[5, 3, 2]
  cf := some (fileOf pool8 2 #[.nestMembers #[106]] #[] 1057 12 #[111, 113, 115] #[{ accessFlags := 18, nameIndex := 5, descriptorIndex := 6, attributes := #[] }, { accessFlags := 18, nameIndex := 9, descriptorIndex := 10, attributes := #[] }, { accessFlags := 2, nameIndex := 19, descriptorIndex := 10, attributes := #[] }])
  fields := #[{ name := "name", type := (.object "java/lang/String"), accessFlags := 18, slot := 0, constantValue := 0 }, { name := "ordinal", type := .int, accessFlags := 18, slot := 1, constantValue := 0 }, { name := "hash", type := .int, accessFlags := 2, slot := 2, constantValue := 0 }]
  methods := #[]
  instanceTypes := #[(.object "java/lang/String"), .int, .int]
  staticTypes := #[]
  resolved := Array.replicate 204 none
  statics := none }

def pool9 : Array CpInfo := pool [(1, .class_ 2), (0, u "com/example/tidewire/tidewire/message/Priority"), (2, u "NORMAL"), (0, u "Lcom/example/tidewire/tidewire/message/Priority;"), (2, u "HIGH"), (0, .fieldref 1 11), (0, .nameAndType 12 13), (0, u "$VALUES"), (0, u "[Lcom/example/tidewire/tidewire/message/Priority;"), (0, .methodref 15 16), (0, .class_ 13), (0, .nameAndType 17 18), (0, u "clone"), (0, u "()Ljava/lang/Object;"), (1, .class_ 22), (1, u "java/lang/Enum"), (6, .fieldref 1 30), (0, .nameAndType 31 32), (0, u "wireName"), (0, u "Ljava/lang/String;"), (0, .methodref 1 34), (0, .nameAndType 35 36), (0, u "values"), (0, u "()[Lcom/example/tidewire/tidewire/message/Priority;"), (0, .methodref 38 39), (0, .class_ 40), (0, .nameAndType 41 42), (0, u "java/lang/String"), (0, u "equals"), (0, u "(Ljava/lang/Object;)Z"), (0, .methodref 44 45), (0, .class_ 46), (0, .nameAndType 47 48), (0, u "java/util/Optional"), (0, u "of"), (0, u "(Ljava/lang/Object;)Ljava/util/Optional;"), (0, .methodref 44 50), (0, .nameAndType 51 52), (0, u "empty"), (0, u "()Ljava/util/Optional;"), (19, u "ofWireName"), (0, u "(Ljava/lang/String;)Ljava/util/Optional;")] 7

def k9c0 : Code := { maxStack := 1, maxLocals := 0, code := prog_10_method_1_code, exceptionTable := #[], attributes := #[] }
def k9m0 : Method := { name := "values", desc := "()[Lcom/example/tidewire/tidewire/message/Priority;", sig := { parameters := [], returnType := some (.array (.object "com/example/tidewire/tidewire/message/Priority")) }, accessFlags := 9, code := some k9c0 }
def k9c1 : Code := { maxStack := 2, maxLocals := 5, code := prog_10_method_5_code, exceptionTable := #[], attributes := #[] }
def k9m1 : Method := { name := "ofWireName", desc := "(Ljava/lang/String;)Ljava/util/Optional;", sig := { parameters := [(.object "java/lang/String")], returnType := some (.object "java/util/Optional") }, accessFlags := 9, code := some k9c1 }
/-- com/example/tidewire/tidewire/message/Priority -/
def k9 : Class := { plain "com/example/tidewire/tidewire/message/Priority" (some 8) with
  accessFlags := 16433
  interfaces := #[]
  cf := some (fileOf pool9 1 #[] #[{ accessFlags := 9, nameIndex := 35, descriptorIndex := 36, attributes := #[] }, { accessFlags := 9, nameIndex := 72, descriptorIndex := 73, attributes := #[] }] 16433 20 #[] #[{ accessFlags := 16409, nameIndex := 5, descriptorIndex := 6, attributes := #[] }, { accessFlags := 16409, nameIndex := 9, descriptorIndex := 6, attributes := #[] }, { accessFlags := 18, nameIndex := 31, descriptorIndex := 32, attributes := #[] }, { accessFlags := 4122, nameIndex := 12, descriptorIndex := 13, attributes := #[] }])
  fields := #[{ name := "NORMAL", type := (.object "com/example/tidewire/tidewire/message/Priority"), accessFlags := 16409, slot := 0, constantValue := 0 }, { name := "HIGH", type := (.object "com/example/tidewire/tidewire/message/Priority"), accessFlags := 16409, slot := 1, constantValue := 0 }, { name := "wireName", type := (.object "java/lang/String"), accessFlags := 18, slot := 3, constantValue := 0 }, { name := "$VALUES", type := (.array (.object "com/example/tidewire/tidewire/message/Priority")), accessFlags := 4122, slot := 2, constantValue := 0 }]
  methods := #[k9m0, k9m1]
  instanceTypes := #[(.object "java/lang/String"), .int, .int, (.object "java/lang/String")]
  staticTypes := #[(.object "com/example/tidewire/tidewire/message/Priority"), (.object "com/example/tidewire/tidewire/message/Priority"), (.array (.object "com/example/tidewire/tidewire/message/Priority"))]
  resolved := Array.replicate 81 none
  statics := some 1 }

def pool10 : Array CpInfo := pool [(1, .class_ 2), (0, u "java/lang/Cloneable"), (0, .class_ 4), (0, u "java/lang/Object")] 2

/-- java/lang/Cloneable -/
def k10 : Class := { plain "java/lang/Cloneable" (some 0) with
  accessFlags := 1537
  interfaces := #[]
  cf := some (fileOf pool10 1 #[] #[] 1537 3 #[] #[])
  fields := #[]
  methods := #[]
  instanceTypes := #[]
  staticTypes := #[]
  resolved := Array.replicate 7 none
  statics := none }

def pool11 : Array CpInfo := pool [(1, .class_ 2), (0, u "java/lang/String"), (1, .class_ 6), (1, u "java/lang/Object"), (0, u "<init>"), (0, u "()V"), (0, .methodref 1 10), (0, .nameAndType 11 12), (0, u "checkIndex"), (0, u "(II)V"), (1, .class_ 16), (1, u "java/lang/StringLatin1"), (36, u "([BI)C"), (67, u "$assertionsDisabled"), (0, u "Z"), (98, .class_ 223), (1, u "java/lang/StringLatin1$LinesSpliterator"), (28, u "charAt"), (28, u "equals"), (0, u "([B[B)Z"), (107, .class_ 391), (0, u "java/lang/StringLatin1$CharsSpliterator")] 3

def k11m0 : Method := { name := "<init>", desc := "()V", sig := { parameters := [], returnType := none }, accessFlags := 0, code := none }
def k11c1 : Code := { maxStack := 2, maxLocals := 2, code := jdk_43_method_2_code, exceptionTable := #[], attributes := #[] }
def k11m1 : Method := { name := "charAt", desc := "([BI)C", sig := { parameters := [(.array .byte), .int], returnType := some .char }, accessFlags := 9, code := some k11c1 }
def k11c2 : Code := { maxStack := 3, maxLocals := 3, code := jdk_43_method_13_code, exceptionTable := #[], attributes := #[] }
def k11m2 : Method := { name := "equals", desc := "([B[B)Z", sig := { parameters := [(.array .byte), (.array .byte)], returnType := some .boolean }, accessFlags := 9, code := some k11c2 }
/-- java/lang/StringLatin1 -/
def k11 : Class := { plain "java/lang/StringLatin1" (some 0) with
  accessFlags := 48
  interfaces := #[]
  cf := some (fileOf pool11 14 #[.nestMembers #[390, 221]] #[{ accessFlags := 0, nameIndex := 7, descriptorIndex := 8, attributes := #[] }, { accessFlags := 9, nameIndex := 252, descriptorIndex := 53, attributes := #[] }, { accessFlags := 9, nameIndex := 281, descriptorIndex := 282, attributes := #[] }] 48 4 #[] #[{ accessFlags := 4120, nameIndex := 121, descriptorIndex := 122, attributes := #[] }])
  fields := #[{ name := "$assertionsDisabled", type := .boolean, accessFlags := 4120, slot := 0, constantValue := 0 }]
  methods := #[k11m0, k11m1, k11m2]
  instanceTypes := #[]
  staticTypes := #[.boolean]
  resolved := Array.replicate 395 none
  statics := none }

def pool12 : Array CpInfo := pool [(1, .fieldref 2 3), (0, .class_ 4), (0, .nameAndType 5 6), (0, u "java/util/Optional"), (0, u "EMPTY"), (0, u "Ljava/util/Optional;"), (0, .methodref 8 9), (0, .class_ 10), (0, .nameAndType 11 12), (0, u "java/lang/Object"), (0, u "<init>"), (0, u "()V"), (0, .fieldref 2 14), (0, .nameAndType 15 16), (0, u "value"), (0, u "Ljava/lang/Object;"), (0, .methodref 18 19), (0, .class_ 20), (0, .nameAndType 21 22), (0, u "java/util/Objects"), (0, u "requireNonNull"), (0, u "(Ljava/lang/Object;)Ljava/lang/Object;"), (0, .methodref 2 24), (0, .nameAndType 11 25), (0, u "(Ljava/lang/Object;)V"), (20, u "()Z"), (8, u "empty"), (0, u "()Ljava/util/Optional;"), (8, u "(Ljava/lang/Object;)Ljava/util/Optional;"), (2, u "isPresent"), (4, u "get"), (0, u "()Ljava/lang/Object;"), (7, u "of")] 104

def k12c0 : Code := { maxStack := 1, maxLocals := 1, code := jdk_32_method_1_code, exceptionTable := #[], attributes := #[] }
def k12m0 : Method := { name := "empty", desc := "()Ljava/util/Optional;", sig := { parameters := [], returnType := some (.object "java/util/Optional") }, accessFlags := 9, code := some k12c0 }
def k12c1 : Code := { maxStack := 2, maxLocals := 2, code := jdk_32_method_2_code, exceptionTable := #[], attributes := #[] }
def k12m1 : Method := { name := "<init>", desc := "(Ljava/lang/Object;)V", sig := { parameters := [(.object "java/lang/Object")], returnType := none }, accessFlags := 2, code := some k12c1 }
def k12c2 : Code := { maxStack := 3, maxLocals := 1, code := jdk_32_method_3_code, exceptionTable := #[], attributes := #[] }
def k12m2 : Method := { name := "of", desc := "(Ljava/lang/Object;)Ljava/util/Optional;", sig := { parameters := [(.object "java/lang/Object")], returnType := some (.object "java/util/Optional") }, accessFlags := 9, code := some k12c2 }
def k12c3 : Code := { maxStack := 3, maxLocals := 1, code := jdk_32_method_5_code, exceptionTable := #[], attributes := #[] }
def k12m3 : Method := { name := "get", desc := "()Ljava/lang/Object;", sig := { parameters := [], returnType := some (.object "java/lang/Object") }, accessFlags := 1, code := some k12c3 }
def k12c4 : Code := { maxStack := 1, maxLocals := 1, code := jdk_32_method_6_code, exceptionTable := #[], attributes := #[] }
def k12m4 : Method := { name := "isPresent", desc := "()Z", sig := { parameters := [], returnType := some .boolean }, accessFlags := 1, code := some k12c4 }
/-- java/util/Optional -/
def k12 : Class := { plain "java/util/Optional" (some 0) with
  accessFlags := 49
  interfaces := #[]
  cf := some (fileOf pool12 2 #[] #[{ accessFlags := 9, nameIndex := 55, descriptorIndex := 56, attributes := #[] }, { accessFlags := 2, nameIndex := 11, descriptorIndex := 25, attributes := #[] }, { accessFlags := 9, nameIndex := 82, descriptorIndex := 65, attributes := #[] }, { accessFlags := 1, nameIndex := 73, descriptorIndex := 74, attributes := #[] }, { accessFlags := 1, nameIndex := 68, descriptorIndex := 46, attributes := #[] }] 49 8 #[] #[{ accessFlags := 26, nameIndex := 5, descriptorIndex := 6, attributes := #[] }, { accessFlags := 18, nameIndex := 15, descriptorIndex := 16, attributes := #[] }])
  fields := #[{ name := "EMPTY", type := (.object "java/util/Optional"), accessFlags := 26, slot := 0, constantValue := 0 }, { name := "value", type := (.object "java/lang/Object"), accessFlags := 18, slot := 0, constantValue := 0 }]
  methods := #[k12m0, k12m1, k12m2, k12m3, k12m4]
  instanceTypes := #[(.object "java/lang/Object")]
  staticTypes := #[(.object "java/util/Optional")]
  resolved := Array.replicate 187 none
  statics := some 2 }

def pool13 : Array CpInfo := pool [(2, .class_ 4), (1, u "java/lang/Object"), (0, u "<init>"), (0, u "()V"), (17, .class_ 26), (1, u "jdk/internal/util/Preconditions"), (6, u "checkIndex"), (21, .class_ 56), (0, u "jdk/internal/util/Preconditions$4"), (57, .class_ 115), (0, u "jdk/internal/util/Preconditions$1"), (7, u "SIOOBE_FORMATTER"), (0, u "Ljava/util/function/BiFunction;"), (0, .class_ 126), (0, u "jdk/internal/util/Preconditions$2"), (3, u "AIOOBE_FORMATTER"), (0, .class_ 132), (0, u "jdk/internal/util/Preconditions$3"), (3, u "IOOBE_FORMATTER"), (41, u "(IILjava/util/function/BiFunction;)I")] 15

def k13m0 : Method := { name := "<init>", desc := "()V", sig := { parameters := [], returnType := none }, accessFlags := 1, code := none }
def k13c1 : Code := { maxStack := 3, maxLocals := 3, code := jdk_41_method_11_code, exceptionTable := #[], attributes := #[] }
def k13m1 : Method := { name := "checkIndex", desc := "(IILjava/util/function/BiFunction;)I", sig := { parameters := [.int, .int, (.object "java/util/function/BiFunction")], returnType := some .int }, accessFlags := 9, code := some k13c1 }
/-- jdk/internal/util/Preconditions -/
def k13 : Class := { plain "jdk/internal/util/Preconditions" (some 0) with
  accessFlags := 33
  interfaces := #[]
  cf := some (fileOf pool13 24 #[.nestMembers #[55, 131, 125, 114]] #[{ accessFlags := 1, nameIndex := 5, descriptorIndex := 6, attributes := #[] }, { accessFlags := 9, nameIndex := 33, descriptorIndex := 178, attributes := #[] }] 33 2 #[] #[{ accessFlags := 25, nameIndex := 123, descriptorIndex := 124, attributes := #[] }, { accessFlags := 25, nameIndex := 130, descriptorIndex := 124, attributes := #[] }, { accessFlags := 25, nameIndex := 136, descriptorIndex := 124, attributes := #[] }])
  fields := #[{ name := "SIOOBE_FORMATTER", type := (.object "java/util/function/BiFunction"), accessFlags := 25, slot := 0, constantValue := 0 }, { name := "AIOOBE_FORMATTER", type := (.object "java/util/function/BiFunction"), accessFlags := 25, slot := 1, constantValue := 0 }, { name := "IOOBE_FORMATTER", type := (.object "java/util/function/BiFunction"), accessFlags := 25, slot := 2, constantValue := 0 }]
  methods := #[k13m0, k13m1]
  instanceTypes := #[]
  staticTypes := #[(.object "java/util/function/BiFunction"), (.object "java/util/function/BiFunction"), (.object "java/util/function/BiFunction")]
  resolved := Array.replicate 194 none
  statics := some 3 }

def pool14 : Array CpInfo := pool [(6, .class_ 8), (1, u "java/lang/Object"), (0, u "<init>"), (0, u "()V"), (1, .class_ 14), (1, u "java/lang/StringUTF16"), (31, u "$assertionsDisabled"), (0, u "Z"), (13, u "HI_BYTE_SHIFT"), (0, u "I"), (2, u "LO_BYTE_SHIFT"), (49, .methodref 12 116), (0, .nameAndType 117 118), (0, u "compress"), (0, u "([CI[BII)I"), (3, u "([CII)[B"), (138, u "coderFromArrayLen"), (0, u "([BI)B"), (106, .class_ 371), (1, u "java/lang/StringUTF16$LinesSpliterator"), (58, u "MAX_LENGTH"), (196, .class_ 628), (0, u "java/lang/StringUTF16$CodePointsSpliterator"), (0, .class_ 630), (0, u "java/lang/StringUTF16$CharsSpliterator")] 4

def k14m0 : Method := { name := "<init>", desc := "()V", sig := { parameters := [], returnType := none }, accessFlags := 0, code := none }
def k14c1 : Code := { maxStack := 2, maxLocals := 2, code := jdk_52_method_15_code, exceptionTable := #[], attributes := #[] }
def k14m1 : Method := { name := "coderFromArrayLen", desc := "([BI)B", sig := { parameters := [(.array .byte), .int], returnType := some .byte }, accessFlags := 8, code := some k14c1 }
def k14c2 : Code := { maxStack := 5, maxLocals := 6, code := jdk_52_method_16_code, exceptionTable := #[], attributes := #[] }
def k14m2 : Method := { name := "compress", desc := "([CII)[B", sig := { parameters := [(.array .char), .int, .int], returnType := some (.array .byte) }, accessFlags := 9, code := some k14c2 }
def k14c3 : Code := { maxStack := 3, maxLocals := 7, code := jdk_52_method_21_code, exceptionTable := #[], attributes := #[] }
def k14m3 : Method := { name := "compress", desc := "([CI[BII)I", sig := { parameters := [(.array .char), .int, (.array .byte), .int, .int], returnType := some .int }, accessFlags := 9, code := some k14c3 }
/-- java/lang/StringUTF16 -/
def k14 : Class := { plain "java/lang/StringUTF16" (some 0) with
  accessFlags := 48
  interfaces := #[]
  cf := some (fileOf pool14 12 #[.nestMembers #[627, 629, 369]] #[{ accessFlags := 0, nameIndex := 9, descriptorIndex := 10, attributes := #[] }, { accessFlags := 8, nameIndex := 261, descriptorIndex := 262, attributes := #[] }, { accessFlags := 9, nameIndex := 117, descriptorIndex := 122, attributes := #[] }, { accessFlags := 9, nameIndex := 117, descriptorIndex := 118, attributes := #[] }] 48 6 #[] #[{ accessFlags := 26, nameIndex := 61, descriptorIndex := 62, attributes := #[] }, { accessFlags := 26, nameIndex := 65, descriptorIndex := 62, attributes := #[] }, { accessFlags := 24, nameIndex := 430, descriptorIndex := 62, attributes := #[] }, { accessFlags := 4120, nameIndex := 46, descriptorIndex := 47, attributes := #[] }])
  fields := #[{ name := "HI_BYTE_SHIFT", type := .int, accessFlags := 26, slot := 0, constantValue := 0 }, { name := "LO_BYTE_SHIFT", type := .int, accessFlags := 26, slot := 1, constantValue := 0 }, { name := "MAX_LENGTH", type := .int, accessFlags := 24, slot := 2, constantValue := 0 }, { name := "$assertionsDisabled", type := .boolean, accessFlags := 4120, slot := 3, constantValue := 0 }]
  methods := #[k14m0, k14m1, k14m2, k14m3]
  instanceTypes := #[]
  staticTypes := #[.int, .int, .int, .boolean]
  resolved := Array.replicate 635 none
  statics := none }

def pool15 : Array CpInfo := pool [(2, .class_ 4), (1, u "java/lang/Object"), (0, u "<init>"), (0, u "()V"), (35, .class_ 44), (1, u "java/util/Objects"), (0, u "requireNonNull"), (0, u "(Ljava/lang/Object;)Ljava/lang/Object;")] 137

def k15m0 : Method := { name := "<init>", desc := "()V", sig := { parameters := [], returnType := none }, accessFlags := 2, code := none }
def k15c1 : Code := { maxStack := 2, maxLocals := 1, code := jdk_31_method_10_code, exceptionTable := #[], attributes := #[] }
def k15m1 : Method := { name := "requireNonNull", desc := "(Ljava/lang/Object;)Ljava/lang/Object;", sig := { parameters := [(.object "java/lang/Object")], returnType := some (.object "java/lang/Object") }, accessFlags := 9, code := some k15c1 }
/-- java/util/Objects -/
def k15 : Class := { plain "java/util/Objects" (some 0) with
  accessFlags := 49
  interfaces := #[]
  cf := some (fileOf pool15 42 #[] #[{ accessFlags := 2, nameIndex := 5, descriptorIndex := 6, attributes := #[] }, { accessFlags := 9, nameIndex := 45, descriptorIndex := 46, attributes := #[] }] 49 2 #[] #[])
  fields := #[]
  methods := #[k15m0, k15m1]
  instanceTypes := #[]
  staticTypes := #[]
  resolved := Array.replicate 184 none
  statics := none }

def pool16 : Array CpInfo := pool [(9, u "<init>"), (6, .class_ 18), (1, u "java/lang/Object"), (0, u "()V"), (1, .class_ 23), (1, u "jdk/internal/util/ArraysSupport"), (0, u "LOG2_ARRAY_LONG_INDEX_SCALE"), (0, u "I"), (2, u "U"), (0, u "Ljdk/internal/misc/Unsafe;"), (8, u "BIG_ENDIAN"), (0, u "Z"), (8, u "LOG2_BYTE_BIT_SIZE"), (4, u "LOG2_ARRAY_INT_INDEX_SCALE"), (54, u "JLA"), (0, u "Ljdk/internal/access/JavaLangAccess;"), (11, u "LOG2_ARRAY_BOOLEAN_INDEX_SCALE"), (9, u "LOG2_ARRAY_BYTE_INDEX_SCALE"), (5, u "LOG2_ARRAY_CHAR_INDEX_SCALE"), (5, u "LOG2_ARRAY_SHORT_INDEX_SCALE"), (18, u "LOG2_ARRAY_FLOAT_INDEX_SCALE"), (24, u "LOG2_ARRAY_DOUBLE_INDEX_SCALE"), (89, u "T_BOOLEAN"), (2, u "T_CHAR"), (1, u "T_FLOAT"), (1, u "T_DOUBLE"), (1, u "T_BYTE"), (1, u "T_SHORT"), (1, u "T_INT"), (1, u "T_LONG"), (1, u "SOFT_MAX_ARRAY_LENGTH")] 83

def k16m0 : Method := { name := "<init>", desc := "()V", sig := { parameters := [], returnType := none }, accessFlags := 2, code := none }
/-- jdk/internal/util/ArraysSupport -/
def k16 : Class := { plain "jdk/internal/util/ArraysSupport" (some 0) with
  accessFlags := 33
  interfaces := #[]
  cf := some (fileOf pool16 21 #[] #[{ accessFlags := 2, nameIndex := 9, descriptorIndex := 19, attributes := #[] }] 33 16 #[] #[{ accessFlags := 24, nameIndex := 28, descriptorIndex := 29, attributes := #[] }, { accessFlags := 26, nameIndex := 38, descriptorIndex := 39, attributes := #[] }, { accessFlags := 25, nameIndex := 121, descriptorIndex := 25, attributes := #[] }, { accessFlags := 25, nameIndex := 131, descriptorIndex := 25, attributes := #[] }, { accessFlags := 25, nameIndex := 137, descriptorIndex := 25, attributes := #[] }, { accessFlags := 25, nameIndex := 143, descriptorIndex := 25, attributes := #[] }, { accessFlags := 25, nameIndex := 53, descriptorIndex := 25, attributes := #[] }, { accessFlags := 25, nameIndex := 24, descriptorIndex := 25, attributes := #[] }, { accessFlags := 25, nameIndex := 162, descriptorIndex := 25, attributes := #[] }, { accessFlags := 25, nameIndex := 187, descriptorIndex := 25, attributes := #[] }, { accessFlags := 26, nameIndex := 48, descriptorIndex := 25, attributes := #[] }, { accessFlags := 25, nameIndex := 277, descriptorIndex := 25, attributes := #[] }, { accessFlags := 25, nameIndex := 280, descriptorIndex := 25, attributes := #[] }, { accessFlags := 25, nameIndex := 282, descriptorIndex := 25, attributes := #[] }, { accessFlags := 25, nameIndex := 284, descriptorIndex := 25, attributes := #[] }, { accessFlags := 25, nameIndex := 286, descriptorIndex := 25, attributes := #[] }, { accessFlags := 25, nameIndex := 288, descriptorIndex := 25, attributes := #[] }, { accessFlags := 25, nameIndex := 290, descriptorIndex := 25, attributes := #[] }, { accessFlags := 25, nameIndex := 292, descriptorIndex := 25, attributes := #[] }, { accessFlags := 26, nameIndex := 108, descriptorIndex := 109, attributes := #[] }, { accessFlags := 25, nameIndex := 294, descriptorIndex := 25, attributes := #[] }])
  fields := #[{ name := "U", type := (.object "jdk/internal/misc/Unsafe"), accessFlags := 24, slot := 0, constantValue := 0 }, { name := "BIG_ENDIAN", type := .boolean, accessFlags := 26, slot := 1, constantValue := 0 }, { name := "LOG2_ARRAY_BOOLEAN_INDEX_SCALE", type := .int, accessFlags := 25, slot := 2, constantValue := 0 }, { name := "LOG2_ARRAY_BYTE_INDEX_SCALE", type := .int, accessFlags := 25, slot := 3, constantValue := 0 }, { name := "LOG2_ARRAY_CHAR_INDEX_SCALE", type := .int, accessFlags := 25, slot := 4, constantValue := 0 }, { name := "LOG2_ARRAY_SHORT_INDEX_SCALE", type := .int, accessFlags := 25, slot := 5, constantValue := 0 }, { name := "LOG2_ARRAY_INT_INDEX_SCALE", type := .int, accessFlags := 25, slot := 6, constantValue := 0 }, { name := "LOG2_ARRAY_LONG_INDEX_SCALE", type := .int, accessFlags := 25, slot := 7, constantValue := 0 }, { name := "LOG2_ARRAY_FLOAT_INDEX_SCALE", type := .int, accessFlags := 25, slot := 8, constantValue := 0 }, { name := "LOG2_ARRAY_DOUBLE_INDEX_SCALE", type := .int, accessFlags := 25, slot := 9, constantValue := 0 }, { name := "LOG2_BYTE_BIT_SIZE", type := .int, accessFlags := 26, slot := 10, constantValue := 0 }, { name := "T_BOOLEAN", type := .int, accessFlags := 25, slot := 11, constantValue := 0 }, { name := "T_CHAR", type := .int, accessFlags := 25, slot := 12, constantValue := 0 }, { name := "T_FLOAT", type := .int, accessFlags := 25, slot := 13, constantValue := 0 }, { name := "T_DOUBLE", type := .int, accessFlags := 25, slot := 14, constantValue := 0 }, { name := "T_BYTE", type := .int, accessFlags := 25, slot := 15, constantValue := 0 }, { name := "T_SHORT", type := .int, accessFlags := 25, slot := 16, constantValue := 0 }, { name := "T_INT", type := .int, accessFlags := 25, slot := 17, constantValue := 0 }, { name := "T_LONG", type := .int, accessFlags := 25, slot := 18, constantValue := 0 }, { name := "JLA", type := (.object "jdk/internal/access/JavaLangAccess"), accessFlags := 26, slot := 19, constantValue := 0 }, { name := "SOFT_MAX_ARRAY_LENGTH", type := .int, accessFlags := 25, slot := 20, constantValue := 0 }]
  methods := #[k16m0]
  instanceTypes := #[]
  staticTypes := #[(.object "jdk/internal/misc/Unsafe"), .boolean, .int, .int, .int, .int, .int, .int, .int, .int, .int, .int, .int, .int, .int, .int, .int, .int, .int, (.object "jdk/internal/access/JavaLangAccess"), .int]
  resolved := Array.replicate 378 none
  statics := none }

/-- the primitive byte -/
def k17 : Class := { plain "byte" none with kind := .primitive 'B', accessFlags := 0x411 }
/-- [B -/
def k18 : Class := { plain "[B" (some 0) with kind := .array 17 .byte, interfaces := #[10, 2], accessFlags := 1041 }

/-- the primitive char -/
def k19 : Class := { plain "char" none with kind := .primitive 'C', accessFlags := 0x411 }
/-- [C -/
def k20 : Class := { plain "[C" (some 0) with kind := .array 19 .char, interfaces := #[10, 2], accessFlags := 1041 }

/-- the primitive int -/
def k21 : Class := { plain "int" none with kind := .primitive 'I', accessFlags := 0x411 }
/-- [I -/
def k22 : Class := { plain "[I" (some 0) with kind := .array 21 .int, interfaces := #[10, 2], accessFlags := 1041 }

/-- [Lcom/example/tidewire/tidewire/message/Priority; -/
def k23 : Class := { plain "[Lcom/example/tidewire/tidewire/message/Priority;" (some 0) with kind := .array 9 (.object "com/example/tidewire/tidewire/message/Priority"), interfaces := #[10, 2], accessFlags := 1041 }

def heap : Heap := #[{ cls := 7, slots := #[.long 0, .int 1, .null, .int 0, .null, .int 0, .int 0], vm := .statics 7 },
  { cls := 9, slots := #[.ref 5, .ref 6, .ref 4], vm := .statics 9 },
  { cls := 12, slots := #[.ref 11], vm := .statics 12 },
  { cls := 13, slots := #[.null, .null, .null], vm := .statics 13 },
  { cls := 23, slots := #[.ref 5, .ref 6], vm := .none },
  { cls := 9, slots := #[.null, .int 0, .int 0, .ref 7], vm := .none },
  { cls := 9, slots := #[.null, .int 1, .int 0, .ref 8], vm := .none },
  { cls := 7, slots := #[.ref 9, .int 0, .int 0, .int 0], vm := .none },
  { cls := 7, slots := #[.ref 10, .int 0, .int 0, .int 0], vm := .none },
  { cls := 18, slots := #[.int 110, .int 111, .int 114, .int 109, .int 97, .int 108], vm := .none },
  { cls := 18, slots := #[.int 104, .int 105, .int 103, .int 104], vm := .none },
  { cls := 12, slots := #[.null], vm := .none }]
def classes : Array Class := #[k0, k1, k2, k3, k4, k5, k6, k7, k8, k9, k10, k11, k12, k13, k14, k15, k16, k17, k18, k19, k20, k21, k22, k23]
def interned : List (Array UInt16 × Addr) := []
def slotsUsed : Nat := 43
def theMethod : MethodId := ⟨1, 1⟩
def args0 : Array Value := #[.int 5, .int 5, .int 5, .int 5]
def aboutOver (below : List Frame) : State where
  vm := { classes := classes, interned := interned.toArray }
  heap := heap
  slotsUsed := slotsUsed
  threads := #[{ frames := .invoking theMethod args0 :: below }]
def below0 : List Frame := [.native { method := ⟨0, 0⟩, args := #[] }]
def about1 : State := aboutOver below0
def p0 : Program := .bare "" "" ""
def e0 : Env := launch0.env 0 0 0
theorem w_frames : about1.frames = Frame.invoking theMethod args0 :: below0 := rfl
set_option maxRecDepth 65536 in
theorem w_args : argsFit about1.vm theMethod args0 = true := by decide +kernel
set_option maxRecDepth 65536 in
theorem w_heap : heapFits about1 = true := by decide +kernel
set_option maxRecDepth 65536 in
theorem w_runnable : about1.curStatus? = some .runnable := by decide +kernel
set_option maxRecDepth 65536 in
theorem w_alone : about1.alone = true := by decide +kernel
set_option maxRecDepth 65536 in
theorem w_named : about1.methodNamed? x = some theMethod := by decide +kernel
set_option maxRecDepth 65536 in
theorem w_hears : about1.hears theMethod below0 = true := by decide +kernel
set_option maxRecDepth 65536 in
theorem w_ripe : about1.ripe theMethod args0 below0 = true := by decide +kernel
theorem w_running : about1.status = .running := rfl
set_option maxRecDepth 65536 in
theorem w_room : about1.hasRoom e0.platform room_1 = true :=
  launch0.hasRoom_least _ room_1 (by decide +kernel) (by decide +kernel) (by decide +kernel) (by decide +kernel) (by decide +kernel) (by decide +kernel)
theorem allAtoms_all (ts : List Jvm.Cond) (a : Array Jvm.Value) (st : Jvm.State) : (allAtoms ts).before a st = ts.all (fun c => c.before a st) := by
  induction ts with
  | nil => rfl
  | cons c t ih =>
    show (Jvm.Cond.and c (allAtoms t)).before a st = _
    rw [Jvm.Cond.before_and, ih, List.all_cons]
def words1 : List Jvm.Cond := Jvm.Cond.code x code maxLocals ret :: tables_1
/-- a 'code' word, met by the world's own term for the bytes: nothing is compared byte by byte -/
theorem code_word {y : MethodName} {bytes : ByteArray} {mx : Nat} {rt : Option FieldType} {a : Array Value} {s : State} {m : MethodId} {meth : Method} {c : Code} (h1 : s.methodNamed? y = some m) (h2 : s.vm.method? m = some meth) (h3 : meth.code = some c) (h4 : c.code = bytes)
    (h5 : (c.maxLocals == mx && c.exceptionTable.isEmpty && decide (c.maxStack ≤ mostOperands) && decide (meth.sig.returnType = rt) && !meth.locks && decide (parseMethodDescriptor y.desc = some meth.sig)) = true) : (Jvm.Cond.code y bytes mx rt).before a s = true := by
  simp only [Bool.and_eq_true, beq_iff_eq, Bool.not_eq_true', decide_eq_true_eq] at h5
  obtain ⟨⟨⟨⟨⟨g1, g2⟩, g3⟩, g4⟩, g5⟩, g6⟩ := h5
  simp [Cond.before, Cond.holds, Cond.value, h1, h2, h3, h4, g1, g2, g3, g4, g5, g6]
def isCode : Jvm.Cond → Bool
  | .code _ _ _ _ => true
  | _ => false
theorem all_split {L : List Jvm.Cond} {P : Jvm.Cond → Bool} (h1 : L.all (fun c => isCode c || P c) = true) (h2 : ∀ c ∈ L.filter isCode, P c = true) : L.all P = true := by
  refine List.all_eq_true.mpr fun c hc => ?_
  have h := List.all_eq_true.mp h1 c hc
  rcases Bool.eq_false_or_eq_true (isCode c) with hi | hi
  · exact h2 c (List.mem_filter.mpr ⟨hc, hi⟩)
  · simpa [hi] using h
set_option maxRecDepth 65536 in
theorem w_c0 : (Jvm.Cond.code x code maxLocals ret).before args0 about1 = true := code_word (m := ⟨1, 1⟩) (meth := k1m1) (c := k1c1) (by decide +kernel) rfl rfl rfl (by decide +kernel)
set_option maxRecDepth 65536 in
theorem w_c1 : (Jvm.Cond.code ({ cls := "com/example/tidewire/tidewire/message/PriorityOfWireNamePinLaw", name := "alloc", desc := "(I)[C" } : Jvm.MethodName) method_3_code (1 : Nat) (Option.some (Jvm.ClassFile.FieldType.array Jvm.ClassFile.FieldType.char))).before args0 about1 = true := code_word (m := ⟨1, 2⟩) (meth := k1m2) (c := k1c2) (by decide +kernel) rfl rfl rfl (by decide +kernel)
set_option maxRecDepth 65536 in
theorem w_c2 : (Jvm.Cond.code ({ cls := "java/lang/String", name := "<init>", desc := "([C)V" } : Jvm.MethodName) jdk_42_method_3_code (2 : Nat) (Option.none : Option Jvm.ClassFile.FieldType)).before args0 about1 = true := code_word (m := ⟨7, 1⟩) (meth := k7m1) (c := k7c1) (by decide +kernel) rfl rfl rfl (by decide +kernel)
set_option maxRecDepth 65536 in
theorem w_c3 : (Jvm.Cond.code ({ cls := "java/lang/String", name := "<init>", desc := "([CIILjava/lang/Void;)V" } : Jvm.MethodName) jdk_42_method_149_code (6 : Nat) (Option.none : Option Jvm.ClassFile.FieldType)).before args0 about1 = true := code_word (m := ⟨7, 4⟩) (meth := k7m4) (c := k7c4) (by decide +kernel) rfl rfl rfl (by decide +kernel)
set_option maxRecDepth 65536 in
theorem w_c4 : (Jvm.Cond.code ({ cls := "java/lang/Object", name := "<init>", desc := "()V" } : Jvm.MethodName) object_method_1_code (1 : Nat) (Option.none : Option Jvm.ClassFile.FieldType)).before args0 about1 = true := code_word (m := ⟨0, 0⟩) (meth := k0m0) (c := k0c0) (by decide +kernel) rfl rfl rfl (by decide +kernel)
set_option maxRecDepth 65536 in
theorem w_c5 : (Jvm.Cond.code ({ cls := "com/example/tidewire/tidewire/message/Priority", name := "ofWireName", desc := "(Ljava/lang/String;)Ljava/util/Optional;" } : Jvm.MethodName) prog_10_method_5_code (5 : Nat) (Option.some (Jvm.ClassFile.FieldType.object "java/util/Optional"))).before args0 about1 = true := code_word (m := ⟨9, 1⟩) (meth := k9m1) (c := k9c1) (by decide +kernel) rfl rfl rfl (by decide +kernel)
set_option maxRecDepth 65536 in
theorem w_c6 : (Jvm.Cond.code ({ cls := "com/example/tidewire/tidewire/message/Priority", name := "values", desc := "()[Lcom/example/tidewire/tidewire/message/Priority;" } : Jvm.MethodName) prog_10_method_1_code (0 : Nat) (Option.some (Jvm.ClassFile.FieldType.array (Jvm.ClassFile.FieldType.object "com/example/tidewire/tidewire/message/Priority")))).before args0 about1 = true := code_word (m := ⟨9, 0⟩) (meth := k9m0) (c := k9c0) (by decide +kernel) rfl rfl rfl (by decide +kernel)
set_option maxRecDepth 65536 in
theorem w_c7 : (Jvm.Cond.code ({ cls := "java/lang/String", name := "equals", desc := "(Ljava/lang/Object;)Z" } : Jvm.MethodName) jdk_42_method_66_code (3 : Nat) (Option.some Jvm.ClassFile.FieldType.boolean)).before args0 about1 = true := code_word (m := ⟨7, 3⟩) (meth := k7m3) (c := k7c3) (by decide +kernel) rfl rfl rfl (by decide +kernel)
set_option maxRecDepth 65536 in
theorem w_c8 : (Jvm.Cond.code ({ cls := "java/lang/StringLatin1", name := "equals", desc := "([B[B)Z" } : Jvm.MethodName) jdk_43_method_13_code (3 : Nat) (Option.some Jvm.ClassFile.FieldType.boolean)).before args0 about1 = true := code_word (m := ⟨11, 2⟩) (meth := k11m2) (c := k11c2) (by decide +kernel) rfl rfl rfl (by decide +kernel)
set_option maxRecDepth 65536 in
theorem w_c9 : (Jvm.Cond.code ({ cls := "java/util/Optional", name := "empty", desc := "()Ljava/util/Optional;" } : Jvm.MethodName) jdk_32_method_1_code (1 : Nat) (Option.some (Jvm.ClassFile.FieldType.object "java/util/Optional"))).before args0 about1 = true := code_word (m := ⟨12, 0⟩) (meth := k12m0) (c := k12c0) (by decide +kernel) rfl rfl rfl (by decide +kernel)
set_option maxRecDepth 65536 in
theorem w_c10 : (Jvm.Cond.code ({ cls := "java/util/Optional", name := "isPresent", desc := "()Z" } : Jvm.MethodName) jdk_32_method_6_code (1 : Nat) (Option.some Jvm.ClassFile.FieldType.boolean)).before args0 about1 = true := code_word (m := ⟨12, 4⟩) (meth := k12m4) (c := k12c4) (by decide +kernel) rfl rfl rfl (by decide +kernel)
set_option maxRecDepth 65536 in
theorem w_c11 : (Jvm.Cond.code ({ cls := "com/example/tidewire/tidewire/message/PriorityOfWireNamePinLaw", name := "at", desc := "(IIIII)C" } : Jvm.MethodName) method_4_code (7 : Nat) (Option.some Jvm.ClassFile.FieldType.char)).before args0 about1 = true := code_word (m := ⟨1, 3⟩) (meth := k1m3) (c := k1c3) (by decide +kernel) rfl rfl rfl (by decide +kernel)
set_option maxRecDepth 65536 in
theorem w_c12 : (Jvm.Cond.code ({ cls := "java/lang/String", name := "charAt", desc := "(I)C" } : Jvm.MethodName) jdk_42_method_56_code (2 : Nat) (Option.some Jvm.ClassFile.FieldType.char)).before args0 about1 = true := code_word (m := ⟨7, 2⟩) (meth := k7m2) (c := k7c2) (by decide +kernel) rfl rfl rfl (by decide +kernel)
set_option maxRecDepth 65536 in
theorem w_c13 : (Jvm.Cond.code ({ cls := "java/lang/String", name := "isLatin1", desc := "()Z" } : Jvm.MethodName) jdk_42_method_154_code (1 : Nat) (Option.some Jvm.ClassFile.FieldType.boolean)).before args0 about1 = true := code_word (m := ⟨7, 5⟩) (meth := k7m5) (c := k7c5) (by decide +kernel) rfl rfl rfl (by decide +kernel)
set_option maxRecDepth 65536 in
theorem w_c14 : (Jvm.Cond.code ({ cls := "java/lang/StringLatin1", name := "charAt", desc := "([BI)C" } : Jvm.MethodName) jdk_43_method_2_code (2 : Nat) (Option.some Jvm.ClassFile.FieldType.char)).before args0 about1 = true := code_word (m := ⟨11, 1⟩) (meth := k11m1) (c := k11c1) (by decide +kernel) rfl rfl rfl (by decide +kernel)
set_option maxRecDepth 65536 in
theorem w_c15 : (Jvm.Cond.code ({ cls := "java/lang/String", name := "checkIndex", desc := "(II)V" } : Jvm.MethodName) jdk_42_method_155_code (2 : Nat) (Option.none : Option Jvm.ClassFile.FieldType)).before args0 about1 = true := code_word (m := ⟨7, 6⟩) (meth := k7m6) (c := k7c6) (by decide +kernel) rfl rfl rfl (by decide +kernel)
set_option maxRecDepth 65536 in
theorem w_c16 : (Jvm.Cond.code ({ cls := "jdk/internal/util/Preconditions", name := "checkIndex", desc := "(IILjava/util/function/BiFunction;)I" } : Jvm.MethodName) jdk_41_method_11_code (3 : Nat) (Option.some Jvm.ClassFile.FieldType.int)).before args0 about1 = true := code_word (m := ⟨13, 1⟩) (meth := k13m1) (c := k13c1) (by decide +kernel) rfl rfl rfl (by decide +kernel)
set_option maxRecDepth 65536 in
theorem w_c17 : (Jvm.Cond.code ({ cls := "java/lang/StringUTF16", name := "compress", desc := "([CII)[B" } : Jvm.MethodName) jdk_52_method_16_code (6 : Nat) (Option.some (Jvm.ClassFile.FieldType.array Jvm.ClassFile.FieldType.byte))).before args0 about1 = true := code_word (m := ⟨14, 2⟩) (meth := k14m2) (c := k14c2) (by decide +kernel) rfl rfl rfl (by decide +kernel)
set_option maxRecDepth 65536 in
theorem w_c18 : (Jvm.Cond.code ({ cls := "java/lang/StringUTF16", name := "compress", desc := "([CI[BII)I" } : Jvm.MethodName) jdk_52_method_21_code (7 : Nat) (Option.some Jvm.ClassFile.FieldType.int)).before args0 about1 = true := code_word (m := ⟨14, 3⟩) (meth := k14m3) (c := k14c3) (by decide +kernel) rfl rfl rfl (by decide +kernel)
set_option maxRecDepth 65536 in
theorem w_c19 : (Jvm.Cond.code ({ cls := "java/lang/StringUTF16", name := "coderFromArrayLen", desc := "([BI)B" } : Jvm.MethodName) jdk_52_method_15_code (2 : Nat) (Option.some Jvm.ClassFile.FieldType.byte)).before args0 about1 = true := code_word (m := ⟨14, 1⟩) (meth := k14m1) (c := k14c1) (by decide +kernel) rfl rfl rfl (by decide +kernel)
set_option maxRecDepth 65536 in
theorem w_c20 : (Jvm.Cond.code ({ cls := "java/util/Optional", name := "of", desc := "(Ljava/lang/Object;)Ljava/util/Optional;" } : Jvm.MethodName) jdk_32_method_3_code (1 : Nat) (Option.some (Jvm.ClassFile.FieldType.object "java/util/Optional"))).before args0 about1 = true := code_word (m := ⟨12, 2⟩) (meth := k12m2) (c := k12c2) (by decide +kernel) rfl rfl rfl (by decide +kernel)
set_option maxRecDepth 65536 in
theorem w_c21 : (Jvm.Cond.code ({ cls := "java/util/Objects", name := "requireNonNull", desc := "(Ljava/lang/Object;)Ljava/lang/Object;" } : Jvm.MethodName) jdk_31_method_10_code (1 : Nat) (Option.some (Jvm.ClassFile.FieldType.object "java/lang/Object"))).before args0 about1 = true := code_word (m := ⟨15, 1⟩) (meth := k15m1) (c := k15c1) (by decide +kernel) rfl rfl rfl (by decide +kernel)
set_option maxRecDepth 65536 in
theorem w_c22 : (Jvm.Cond.code ({ cls := "java/util/Optional", name := "<init>", desc := "(Ljava/lang/Object;)V" } : Jvm.MethodName) jdk_32_method_2_code (2 : Nat) (Option.none : Option Jvm.ClassFile.FieldType)).before args0 about1 = true := code_word (m := ⟨12, 1⟩) (meth := k12m1) (c := k12c1) (by decide +kernel) rfl rfl rfl (by decide +kernel)
set_option maxRecDepth 65536 in
theorem w_c23 : (Jvm.Cond.code ({ cls := "java/util/Optional", name := "get", desc := "()Ljava/lang/Object;" } : Jvm.MethodName) jdk_32_method_5_code (1 : Nat) (Option.some (Jvm.ClassFile.FieldType.object "java/lang/Object"))).before args0 about1 = true := code_word (m := ⟨12, 3⟩) (meth := k12m3) (c := k12c3) (by decide +kernel) rfl rfl rfl (by decide +kernel)
def codes1 : List Jvm.Cond := [Jvm.Cond.code x code maxLocals ret, Jvm.Cond.code ({ cls := "com/example/tidewire/tidewire/message/PriorityOfWireNamePinLaw", name := "alloc", desc := "(I)[C" } : Jvm.MethodName) method_3_code (1 : Nat) (Option.some (Jvm.ClassFile.FieldType.array Jvm.ClassFile.FieldType.char)), Jvm.Cond.code ({ cls := "java/lang/String", name := "<init>", desc := "([C)V" } : Jvm.MethodName) jdk_42_method_3_code (2 : Nat) (Option.none : Option Jvm.ClassFile.FieldType), Jvm.Cond.code ({ cls := "java/lang/String", name := "<init>", desc := "([CIILjava/lang/Void;)V" } : Jvm.MethodName) jdk_42_method_149_code (6 : Nat) (Option.none : Option Jvm.ClassFile.FieldType), Jvm.Cond.code ({ cls := "java/lang/Object", name := "<init>", desc := "()V" } : Jvm.MethodName) object_method_1_code (1 : Nat) (Option.none : Option Jvm.ClassFile.FieldType), Jvm.Cond.code ({ cls := "com/example/tidewire/tidewire/message/Priority", name := "ofWireName", desc := "(Ljava/lang/String;)Ljava/util/Optional;" } : Jvm.MethodName) prog_10_method_5_code (5 : Nat) (Option.some (Jvm.ClassFile.FieldType.object "java/util/Optional")), Jvm.Cond.code ({ cls := "com/example/tidewire/tidewire/message/Priority", name := "values", desc := "()[Lcom/example/tidewire/tidewire/message/Priority;" } : Jvm.MethodName) prog_10_method_1_code (0 : Nat) (Option.some (Jvm.ClassFile.FieldType.array (Jvm.ClassFile.FieldType.object "com/example/tidewire/tidewire/message/Priority"))), Jvm.Cond.code ({ cls := "java/lang/String", name := "equals", desc := "(Ljava/lang/Object;)Z" } : Jvm.MethodName) jdk_42_method_66_code (3 : Nat) (Option.some Jvm.ClassFile.FieldType.boolean), Jvm.Cond.code ({ cls := "java/lang/StringLatin1", name := "equals", desc := "([B[B)Z" } : Jvm.MethodName) jdk_43_method_13_code (3 : Nat) (Option.some Jvm.ClassFile.FieldType.boolean), Jvm.Cond.code ({ cls := "java/util/Optional", name := "empty", desc := "()Ljava/util/Optional;" } : Jvm.MethodName) jdk_32_method_1_code (1 : Nat) (Option.some (Jvm.ClassFile.FieldType.object "java/util/Optional")), Jvm.Cond.code ({ cls := "java/util/Optional", name := "isPresent", desc := "()Z" } : Jvm.MethodName) jdk_32_method_6_code (1 : Nat) (Option.some Jvm.ClassFile.FieldType.boolean), Jvm.Cond.code ({ cls := "com/example/tidewire/tidewire/message/PriorityOfWireNamePinLaw", name := "at", desc := "(IIIII)C" } : Jvm.MethodName) method_4_code (7 : Nat) (Option.some Jvm.ClassFile.FieldType.char), Jvm.Cond.code ({ cls := "java/lang/String", name := "charAt", desc := "(I)C" } : Jvm.MethodName) jdk_42_method_56_code (2 : Nat) (Option.some Jvm.ClassFile.FieldType.char), Jvm.Cond.code ({ cls := "java/lang/String", name := "isLatin1", desc := "()Z" } : Jvm.MethodName) jdk_42_method_154_code (1 : Nat) (Option.some Jvm.ClassFile.FieldType.boolean), Jvm.Cond.code ({ cls := "java/lang/StringLatin1", name := "charAt", desc := "([BI)C" } : Jvm.MethodName) jdk_43_method_2_code (2 : Nat) (Option.some Jvm.ClassFile.FieldType.char), Jvm.Cond.code ({ cls := "java/lang/String", name := "checkIndex", desc := "(II)V" } : Jvm.MethodName) jdk_42_method_155_code (2 : Nat) (Option.none : Option Jvm.ClassFile.FieldType), Jvm.Cond.code ({ cls := "jdk/internal/util/Preconditions", name := "checkIndex", desc := "(IILjava/util/function/BiFunction;)I" } : Jvm.MethodName) jdk_41_method_11_code (3 : Nat) (Option.some Jvm.ClassFile.FieldType.int), Jvm.Cond.code ({ cls := "java/lang/StringUTF16", name := "compress", desc := "([CII)[B" } : Jvm.MethodName) jdk_52_method_16_code (6 : Nat) (Option.some (Jvm.ClassFile.FieldType.array Jvm.ClassFile.FieldType.byte)), Jvm.Cond.code ({ cls := "java/lang/StringUTF16", name := "compress", desc := "([CI[BII)I" } : Jvm.MethodName) jdk_52_method_21_code (7 : Nat) (Option.some Jvm.ClassFile.FieldType.int), Jvm.Cond.code ({ cls := "java/lang/StringUTF16", name := "coderFromArrayLen", desc := "([BI)B" } : Jvm.MethodName) jdk_52_method_15_code (2 : Nat) (Option.some Jvm.ClassFile.FieldType.byte), Jvm.Cond.code ({ cls := "java/util/Optional", name := "of", desc := "(Ljava/lang/Object;)Ljava/util/Optional;" } : Jvm.MethodName) jdk_32_method_3_code (1 : Nat) (Option.some (Jvm.ClassFile.FieldType.object "java/util/Optional")), Jvm.Cond.code ({ cls := "java/util/Objects", name := "requireNonNull", desc := "(Ljava/lang/Object;)Ljava/lang/Object;" } : Jvm.MethodName) jdk_31_method_10_code (1 : Nat) (Option.some (Jvm.ClassFile.FieldType.object "java/lang/Object")), Jvm.Cond.code ({ cls := "java/util/Optional", name := "<init>", desc := "(Ljava/lang/Object;)V" } : Jvm.MethodName) jdk_32_method_2_code (2 : Nat) (Option.none : Option Jvm.ClassFile.FieldType), Jvm.Cond.code ({ cls := "java/util/Optional", name := "get", desc := "()Ljava/lang/Object;" } : Jvm.MethodName) jdk_32_method_5_code (1 : Nat) (Option.some (Jvm.ClassFile.FieldType.object "java/lang/Object"))]
set_option maxRecDepth 65536 in
theorem codes_eq : words1.filter isCode = codes1 := rfl
theorem w_codes : ∀ c ∈ words1.filter isCode, c.before args0 about1 = true := by
  rw [codes_eq]
  intro c hc
  simp only [codes1, List.mem_cons, List.not_mem_nil, or_false] at hc
  rcases hc with rfl | rfl | rfl | rfl | rfl | rfl | rfl | rfl | rfl | rfl | rfl | rfl | rfl | rfl | rfl | rfl | rfl | rfl | rfl | rfl | rfl | rfl | rfl | rfl
  · exact w_c0
  · exact w_c1
  · exact w_c2
  · exact w_c3
  · exact w_c4
  · exact w_c5
  · exact w_c6
  · exact w_c7
  · exact w_c8
  · exact w_c9
  · exact w_c10
  · exact w_c11
  · exact w_c12
  · exact w_c13
  · exact w_c14
  · exact w_c15
  · exact w_c16
  · exact w_c17
  · exact w_c18
  · exact w_c19
  · exact w_c20
  · exact w_c21
  · exact w_c22
  · exact w_c23
set_option maxRecDepth 65536 in
theorem w_t1 : (words1.take 24).all (fun c => isCode c || c.before args0 about1) = true := by decide +kernel
set_option maxRecDepth 65536 in
theorem w_t2 : ((words1.drop 24).take 24).all (fun c => isCode c || c.before args0 about1) = true := by decide +kernel
set_option maxRecDepth 65536 in
theorem w_t3 : (((words1.drop 24).drop 24).take 24).all (fun c => isCode c || c.before args0 about1) = true := by decide +kernel
set_option maxRecDepth 65536 in
theorem w_t4 : ((((words1.drop 24).drop 24).drop 24).take 24).all (fun c => isCode c || c.before args0 about1) = true := by decide +kernel
set_option maxRecDepth 65536 in
theorem w_t5 : (((((words1.drop 24).drop 24).drop 24).drop 24).take 24).all (fun c => isCode c || c.before args0 about1) = true := by decide +kernel
set_option maxRecDepth 65536 in
theorem w_t6 : (((((words1.drop 24).drop 24).drop 24).drop 24).drop 24).all (fun c => isCode c || c.before args0 about1) = true := by decide +kernel
theorem w_tables : (allAtoms (Jvm.Cond.code x code maxLocals ret :: tables_1)).before args0 about1 = true := by
  rw [allAtoms_all]
  show words1.all (fun c => c.before args0 about1) = true
  refine all_split ?_ w_codes
  rw [← List.take_append_drop 24 words1, List.all_append, w_t1, ← List.take_append_drop 24 (words1.drop 24), List.all_append, w_t2, ← List.take_append_drop 24 ((words1.drop 24).drop 24), List.all_append, w_t3, ← List.take_append_drop 24 (((words1.drop 24).drop 24).drop 24), List.all_append, w_t4, ← List.take_append_drop 24 ((((words1.drop 24).drop 24).drop 24).drop 24), List.all_append, w_t5, w_t6]
  rfl
set_option maxRecDepth 65536 in
theorem w_rest : rest_1_c.before args0 about1 = true := by decide +kernel
set_option maxRecDepth 65536 in
theorem w_case : (Jvm.Cond.and given_1 narrow_1).before args0 about1 = true := by decide +kernel
set_option maxRecDepth 65536 in
theorem w_consts : constsHeld consts_1 about1 := Jvm.Lit.constsHeldB_iff.mp (by decide +kernel)
theorem w_applies : (headSpec (Jvm.Cond.code x code maxLocals ret :: tables_1) room_1).applies x e0.platform about1 = true :=
  (Spec.applies_iff w_frames).mpr ⟨w_running, w_runnable, w_alone, w_named, w_hears, w_ripe, w_room, w_tables⟩
theorem atStart : AtStart classFile x code maxLocals ret World_1 tables_1 room_1 Calls_1 rest_1 Pre_1 launch0 p0 e0 about1 theMethod args0 below0 :=
  ⟨lists_1, trivial, launch0.admits_env _ _ _, launch0.least_env, fairChoices_fair.cas, fairChoices_fair.clock, w_frames, w_args, w_heap, w_applies, ⟨w_consts, trivial⟩, w_rest, w_case⟩
end start1
theorem witness_1 : WitnessClaimed_1 := ⟨start1.p0, start1.e0, start1.about1, start1.theMethod, start1.args0, start1.below0, start1.atStart⟩
end Jvm.Pilot.@@N@@
