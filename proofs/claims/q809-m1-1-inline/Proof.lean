import JvmDerived
import JvmDerived.Pilot.@@N@@Statement
import JvmDerived.Pilot.@@N@@Code
set_option linter.unusedVariables false
set_option linter.unusedSimpArgs false
namespace Jvm.Own
open Jvm Sem ClassFile Op Lib Jvm.Stand Jvm.Free Jvm.LawKit Jvm.RoadKit Bundle
/-- the moving data of a walk: program, environment, the start, the method, its arguments, the frames below, the method's record, its code -/
abbrev Cx : Type := Program × Env × State × MethodId × Array Value × List Frame × Method × Code
/-- from here the run ends as P says -/
def Go (K : Cx) (P : Outcome → State → Prop) (T : State) (pc : Nat) (ls : Array Slot) (st : List Value) : Prop :=
  ∃ o U, Steps K.1.tables K.2.1 K.2.2.2.2.2.1 (T.setTop (mkF K.2.2.2.1 pc ls st)) U ∧ U.status = .running ∧ Ended U K.2.2.2.2.2.1 o ∧ P o U
/-- where a walk stands: over its start re-tabled; heap h; sf: the cells that it may write -/
def Wk (l : Launch) (Z : State) (EL : List (String × Nat)) (own nm : String) (cd : ByteArray) (ml : Nat) (ret : Option FieldType) (R : Room) (ws : List Addr) (h0 : Heap) (K : Cx) (sf : List Addr) (T : State) (h : Heap) (cells slots : Nat) : Prop :=
  ∃ (vm0 : Vm) (locs : List Loc) (k0 : Nat), Stand K.1 l K.2.1 R (K.2.2.1.setVm vm0) K.2.2.2.1 K.2.2.2.2.1 K.2.2.2.2.2.1 K.2.2.2.2.2.2.1 K.2.2.2.2.2.2.2 T locs cells slots ∧ T.heap = h ∧ K.1.tables.exec = Jvm.exec ∧
    (K.2.2.2.2.2.2.2.code = cd ∧ K.2.2.2.2.2.2.2.maxLocals = ml ∧ K.2.2.2.2.2.2.1.sig.returnType = ret ∧ K.2.2.2.2.2.2.1.locks = false ∧ K.2.2.2.2.2.2.1.name = nm) ∧ K.2.2.1.heap = h0 ∧
    Z.Warmed39 vm0 ∧ vm0.findClass own = some K.2.2.2.1.cls ∧ K.2.2.1.Since vm0 k0 ∧ k0 ≤ h.size ∧ (∀ x ∈ locs, x.base ∈ ws ∨ h0.size ≤ x.base) ∧ CHr Z EL K.2.2.1.vm h0 vm0 h ∧ Old Z Z.heap.size h ∧ (∃ a0, EW Z a0 EL) ∧
    (∀ x ∈ ws, Z.heap.size ≤ x) ∧ Z.heap.size ≤ h0.size ∧ ∀ x ∈ sf, Safe Z EL vm0 h x ∧ x < h.size ∧ (x ∈ ws ∨ h0.size ≤ x)
/-- what a contract promises at the end -/
def Pst (Z : State) (EL : List (String × Nat)) (ws : List Addr) (s : State) (kc ks : Nat) (Q : Option Value → Heap → List Addr → Prop) (o : Outcome) (U : State) : Prop :=
  ∃ v L so, o = .returned v ∧ Q v U.heap so ∧ (∀ x ∈ so, Safe Z EL U.vm U.heap x ∧ s.heap.size ≤ x ∧ x < U.heap.size) ∧ (∀ x ∈ L, x.base ∈ ws ∨ s.heap.size ≤ x.base) ∧ CHr Z EL s.vm s.heap U.vm U.heap ∧ ReturnedEndW s o U L kc ks
/-- a body's contract: from the heap h and the arguments as', whatever is booked said, ws writable -/
def Ct (l : Launch) (Z : State) (EL : List (String × Nat)) (y : MethodName) (cd : ByteArray) (ml : Nat) (ret : Option FieldType) (rm : Room) (as' : Array Value) (h : Heap) (ws : List Addr) (Q : Option Value → Heap → List Addr → Prop) : Prop :=
  ∀ wl, MetFree l y (head1 (Cond.code y cd ml ret :: wl) rm) (fun a U => a = as' ∧ Z.Warmed39 U.vm ∧ U.heap = h ∧ CHv Z EL U.vm h ∧ ∀ x ∈ ws, Safe Z EL U.vm h x ∧ x < h.size) (fun _ _ _ _ _ => True) (fun _ U o U' => Pst Z EL ws U rm.cells rm.slots Q o U')
section Basics
variable {l : Launch} {Z : State} {EL : List (String × Nat)} {own nm : String} {cd : ByteArray} {ml : Nat} {ret : Option FieldType} {R : Room} {ws : List Addr} {h0 : Heap} {K : Cx} {sf : List Addr} {T : State} {h h' : Heap} {cells slots : Nat} {P : Outcome → State → Prop} {pc pc' : Nat} {ls : Array Slot} {st : List Value} {a0 : Array Value}
theorem Go.stp {T' : State} {pc' : Nat} {ls' : Array Slot} {st' : List Value} (f : ∀ t, Steps K.1.tables K.2.1 K.2.2.2.2.2.1 (T'.setTop (mkF K.2.2.2.1 pc' ls' st')) t → Steps K.1.tables K.2.1 K.2.2.2.2.2.1 (T.setTop (mkF K.2.2.2.1 pc ls st)) t) (k : Go K P T' pc' ls' st') : Go K P T pc ls st := by
  obtain ⟨o, U, r, q⟩ := k; exact ⟨o, U, f _ r, q⟩
theorem Go.top {v v' : Value} (e : v = v') (k : Go K P T pc ls (v' :: st)) : Go K P T pc ls (v :: st) := e ▸ k
theorem Wk.heapEq (W : Wk l Z EL own nm cd ml ret R ws h0 K sf T h cells slots) : T.heap = h := by obtain ⟨_, _, _, _, e, _⟩ := W; exact e
theorem Wk.old (W : Wk l Z EL own nm cd ml ret R ws h0 K sf T h cells slots) : Old Z Z.heap.size h := by obtain ⟨_, _, _, _, _, _, _, _, _, _, _, _, _, _, q, _⟩ := W; exact q
theorem Wk.grow (W : Wk l Z EL own nm cd ml ret R ws h0 K sf T h cells slots) : h0.size ≤ h.size := by obtain ⟨_, _, _, _, _, _, _, _, _, _, _, _, _, q, _⟩ := W; exact q.2.1
theorem Wk.lt (W : Wk l Z EL own nm cd ml ret R ws h0 K sf T h cells slots) {x : Addr} (hx : x ∈ sf) : x < h.size := by obtain ⟨_, _, _, _, _, _, _, _, _, _, _, _, _, _, _, _, _, _, q⟩ := W; exact (q x hx).2.1
theorem Wk.mono (W : Wk l Z EL own nm cd ml ret R ws h0 K sf T h cells slots) {cells' slots' : Nat} (hc : cells ≤ cells') (hn : slots ≤ slots') : Wk l Z EL own nm cd ml ret R ws h0 K sf T h cells' slots' := by
  obtain ⟨vm0, locs, k0, X, r⟩ := W; exact ⟨vm0, locs, k0, X.mono hc hn, r⟩
theorem Wk.less (W : Wk l Z EL own nm cd ml ret R ws h0 K sf T h cells slots) {sf' : List Addr} (hs : ∀ x ∈ sf', x ∈ sf) : Wk l Z EL own nm cd ml ret R ws h0 K sf' T h cells slots := by
  obtain ⟨vm0, locs, k0, X, e, hx, hc, e0, hZ, hown, hS, hk, hL, hC, hO, hE, hw, hz, hs'⟩ := W
  exact ⟨vm0, locs, k0, X, e, hx, hc, e0, hZ, hown, hS, hk, hL, hC, hO, hE, hw, hz, fun x q => hs' x (hs x q)⟩
/-- an object whose class is neither String nor byte[] is booked nowhere -/
theorem Wk.addE (W : Wk l Z EL own nm cd ml ret R ws h0 K sf T h cells slots) {x : Addr} {C : String} (E : Exa Z h x C) (h1 : C ≠ "java/lang/String") (h2 : C ≠ "[B") (hp : x ∈ ws ∨ h0.size ≤ x) : Wk l Z EL own nm cd ml ret R ws h0 K (x :: sf) T h cells slots := by
  obtain ⟨vm0, locs, k0, X, e, hx, hc, e0, hZ, hown, hS, hk, hL, hC, hO, hE, hw, hz, hs⟩ := W
  exact ⟨vm0, locs, k0, X, e, hx, hc, e0, hZ, hown, hS, hk, hL, hC, hO, hE, hw, hz, fun y hy => by
    rcases List.mem_cons.mp hy with rfl | hy
    · exact ⟨Safe.exa hZ.alike E h1 h2, E.lt, hp⟩
    · exact hs y hy⟩
theorem all1 {α : Type} {P : α → Prop} {y : α} {L : List α} (q : P y) (r : ∀ x ∈ L, P x) : ∀ x ∈ y :: L, P x := fun x hx => (List.mem_cons.mp hx).elim (fun e => e ▸ q) (r x)
theorem alln {α : Type} {P : α → Prop} : ∀ x ∈ ([] : List α), P x := fun _ q => nomatch q
theorem keep_of {s U : State} {L : List Loc} {k n : Nat} {ws : List Addr} (hs : s.sameButNew U L k n) (hL : ∀ x ∈ L, x.base ∈ ws ∨ s.heap.size ≤ x.base) : Keep s.heap U.heap ws := by
  obtain ⟨-, q2, -, -, -, q6⟩ := hs
  refine ⟨q2, fun x c hx hn => ?_, fun x c hx => ?_⟩
  · obtain ⟨c', r1, r2, r3, r4⟩ := q6 x c hx
    have hlt := (Array.getElem?_eq_some_iff.mp hx).1
    have e1 : c'.slots = c.slots := Array.ext_getElem? fun i => r4 i fun hm => by
      rcases hL _ hm with z | z
      · exact hn z
      · exact absurd hlt (Nat.not_lt.mpr z)
    have e2 : c' = c := by rw [r2, e1]
    rw [r1, e2]
  · obtain ⟨c', r1, r2, r3, -⟩ := q6 x c hx
    exact ⟨c', r1, by rw [r2], by rw [r2], r3⟩
/-- entering a body -/
theorem Ct.mk {y : MethodName} (own nm : String) (h1 : y.cls = own) (h2 : y.name = nm) {rm : Room} {as' : Array Value} {Q : Option Value → Heap → List Addr → Prop} (pn : plainFor y = true) (hO : Old Z Z.heap.size h) (hE : EW Z a0 EL) (hw : ∀ x ∈ ws, Z.heap.size ≤ x)
    (k : ∀ (K : Cx) (T : State), Wk l Z EL own nm cd ml ret rm ws h K ws T h 0 0 → Go K (Pst Z EL ws K.2.2.1 rm.cells rm.slots Q) T 0 (entryFrame K.2.2.2.1 as' ml).locals []) : Ct l Z EL y cd ml ret rm as' h ws Q := by
  subst h1 h2
  intro wl
  refine MetFree.of_bodySF pn hisR ?_
  intro p e s m args below meth c s₁ Bd hml hP hK
  obtain ⟨rfl, hZ, hh, hCH, hsf⟩ := hP
  have X0 := Stand.of_body Bd
  have hes : s₁.heap = h := by rw [← hh, Bd.state]; rfl
  have hvm : s₁.vm = s.vm := by rw [Bd.state]; rfl
  have hn := name_of_methodNamed Bd.named Bd.method
  obtain ⟨o, U, r1, r2, r3, r4⟩ := k (p, e, s, m, args, below, meth, c) s₁ ⟨s.vm, [], 0, X0, hes, Bd.exec, ⟨Bd.bytes, hml, Bd.returns, Bd.notSynchronized, hn.1⟩, hh, hZ, findClass_of_methodNamed Bd.named, (State.WarmedH.refl s).since 0, Nat.zero_le _, (fun x q => nomatch q), by rw [← hh] at hCH ⊢; exact CHr.refl hCH, hO, ⟨a0, hE⟩, hw, hO.1 ▸ hO.2.1, fun x q => ⟨(hsf x q).1, (hsf x q).2, Or.inl q⟩⟩
  refine ⟨U, o, ?_, r2, r3, r4⟩
  have ef : entryFrame m args ml = mkF m 0 (entryFrame m args ml).locals [] := rfl
  rw [ef]; exact r1
end Basics
section Pure
variable {l : Launch} {Z : State} {EL : List (String × Nat)} {own nm : String} {cd : ByteArray} {ml : Nat} {ret : Option FieldType} {R : Room} {ws : List Addr} {h0 : Heap} {K : Cx} {sf : List Addr} {T : State} {h h' : Heap} {cells slots : Nat} {P : Outcome → State → Prop} {pc pc' : Nat} {ls : Array Slot} {st : List Value} {a0 : Array Value}
theorem gAloadN (W : Wk l Z EL own nm cd ml ret R ws h0 K sf T h cells slots) {i : Fin 4} {v : Value} (hd : decode cd pc = .ok (.aload_n i, 1)) (hl : ls[i.val]? = some (.val v)) (hv : v.isRef = true) (hp : pc + 1 = pc') (k : Go K P T pc' ls (v :: st)) : Go K P T pc ls st := by
  obtain ⟨vm0, locs, k0, X, e, hx, ⟨hc, -⟩, -⟩ := W
  subst hp
  exact Go.stp (fun t r => XS.aloadN X.here hx rfl (hb hc hd) hl hv r) k
theorem gAload (W : Wk l Z EL own nm cd ml ret R ws h0 K sf T h cells slots) {i : Nat} {v : Value} (hd : decode cd pc = .ok (.aload i, 2)) (hl : ls[i]? = some (.val v)) (hv : v.isRef = true) (hp : pc + 2 = pc') (k : Go K P T pc' ls (v :: st)) : Go K P T pc ls st := by
  obtain ⟨vm0, locs, k0, X, e, hx, ⟨hc, -⟩, -⟩ := W
  subst hp
  exact Go.stp (fun t r => XS.aload X.here hx rfl (hb hc hd) hl hv r) k
theorem gIloadN (W : Wk l Z EL own nm cd ml ret R ws h0 K sf T h cells slots) {i : Fin 4} {v : Int32} (hd : decode cd pc = .ok (.iload_n i, 1)) (hl : ls[i.val]? = some (.val (.int v))) (hp : pc + 1 = pc') (k : Go K P T pc' ls (.int v :: st)) : Go K P T pc ls st := by
  obtain ⟨vm0, locs, k0, X, e, hx, ⟨hc, -⟩, -⟩ := W
  subst hp
  exact Go.stp (fun t r => XS.iloadN X.here hx rfl (hb hc hd) hl r) k
theorem gIload (W : Wk l Z EL own nm cd ml ret R ws h0 K sf T h cells slots) {i : Nat} {v : Int32} (hd : decode cd pc = .ok (.iload i, 2)) (hl : ls[i]? = some (.val (.int v))) (hp : pc + 2 = pc') (k : Go K P T pc' ls (.int v :: st)) : Go K P T pc ls st := by
  obtain ⟨vm0, locs, k0, X, e, hx, ⟨hc, -⟩, -⟩ := W
  subst hp
  exact Go.stp (fun t r => XS.iload X.here hx rfl (hb hc hd) hl r) k
theorem gLloadN (W : Wk l Z EL own nm cd ml ret R ws h0 K sf T h cells slots) {i : Fin 4} {v : Int64} (hd : decode cd pc = .ok (.lload_n i, 1)) (hl : ls[i.val]? = some (.val (.long v))) (hp : pc + 1 = pc') (k : Go K P T pc' ls (.long v :: st)) : Go K P T pc ls st := by
  obtain ⟨vm0, locs, k0, X, e, hx, ⟨hc, -⟩, -⟩ := W
  subst hp
  exact Go.stp (fun t r => XS.lloadN X.here hx rfl (hb hc hd) hl r) k
theorem gLload (W : Wk l Z EL own nm cd ml ret R ws h0 K sf T h cells slots) {i : Nat} {v : Int64} (hd : decode cd pc = .ok (.lload i, 2)) (hl : ls[i]? = some (.val (.long v))) (hp : pc + 2 = pc') (k : Go K P T pc' ls (.long v :: st)) : Go K P T pc ls st := by
  obtain ⟨vm0, locs, k0, X, e, hx, ⟨hc, -⟩, -⟩ := W
  subst hp
  exact Go.stp (fun t r => XS.lload X.here hx rfl (hb hc hd) hl r) k
theorem gIconst (W : Wk l Z EL own nm cd ml ret R ws h0 K sf T h cells slots) {i : Int} {z : Int32} (hd : decode cd pc = .ok (.iconst i, 1)) (hz : Int32.ofInt i = z) (hp : pc + 1 = pc') (k : Go K P T pc' ls (.int z :: st)) : Go K P T pc ls st := by
  obtain ⟨vm0, locs, k0, X, e, hx, ⟨hc, -⟩, -⟩ := W
  subst hp
  exact Go.stp (fun t r => XS.iconst X.here hx rfl (hb hc hd) <| hz ▸ r) k
theorem gBipush (W : Wk l Z EL own nm cd ml ret R ws h0 K sf T h cells slots) {i : Int} {z : Int32} (hd : decode cd pc = .ok (.bipush i, 2)) (hz : (Int8.ofInt i).toInt32 = z) (hp : pc + 2 = pc') (k : Go K P T pc' ls (.int z :: st)) : Go K P T pc ls st := by
  obtain ⟨vm0, locs, k0, X, e, hx, ⟨hc, -⟩, -⟩ := W
  subst hp
  exact Go.stp (fun t r => XS.bipush X.here hx rfl (hb hc hd) <| hz ▸ r) k
theorem gSipush (W : Wk l Z EL own nm cd ml ret R ws h0 K sf T h cells slots) {i : Int} {z : Int32} (hd : decode cd pc = .ok (.sipush i, 3)) (hz : (Int16.ofInt i).toInt32 = z) (hp : pc + 3 = pc') (k : Go K P T pc' ls (.int z :: st)) : Go K P T pc ls st := by
  obtain ⟨vm0, locs, k0, X, e, hx, ⟨hc, -⟩, -⟩ := W
  subst hp
  exact Go.stp (fun t r => XS.sipush X.here hx rfl (hb hc hd) <| hz ▸ r) k
theorem gAconstNull (W : Wk l Z EL own nm cd ml ret R ws h0 K sf T h cells slots)  (hd : decode cd pc = .ok (.aconst_null, 1))  (hp : pc + 1 = pc') (k : Go K P T pc' ls (.null :: st)) : Go K P T pc ls st := by
  obtain ⟨vm0, locs, k0, X, e, hx, ⟨hc, -⟩, -⟩ := W
  subst hp
  exact Go.stp (fun t r => XS.aconstNull X.here hx rfl (hb hc hd) r) k
theorem gLconst (W : Wk l Z EL own nm cd ml ret R ws h0 K sf T h cells slots) {i : Fin 2} {z : Int64} (hd : decode cd pc = .ok (.lconst i, 1)) (hz : (Int64.ofNat i.val) = z) (hp : pc + 1 = pc') (k : Go K P T pc' ls (.long z :: st)) : Go K P T pc ls st := by
  obtain ⟨vm0, locs, k0, X, e, hx, ⟨hc, -⟩, -⟩ := W
  subst hp
  exact Go.stp (fun t r => XS.lconst X.here hx rfl (hb hc hd) <| hz ▸ r) k
theorem gIadd (W : Wk l Z EL own nm cd ml ret R ws h0 K sf T h cells slots) {x y z : Int32} (hd : decode cd pc = .ok (.iadd, 1)) (hz : x + y = z) (hp : pc + 1 = pc') (k : Go K P T pc' ls (.int z :: st)) : Go K P T pc ls (.int y :: .int x :: st) := by
  obtain ⟨vm0, locs, k0, X, e, hx, ⟨hc, -⟩, -⟩ := W
  subst hp
  exact Go.stp (fun t r => XS.iadd X.here hx rfl (hb hc hd) rfl <| hz ▸ r) k
theorem gIsub (W : Wk l Z EL own nm cd ml ret R ws h0 K sf T h cells slots) {x y z : Int32} (hd : decode cd pc = .ok (.isub, 1)) (hz : x - y = z) (hp : pc + 1 = pc') (k : Go K P T pc' ls (.int z :: st)) : Go K P T pc ls (.int y :: .int x :: st) := by
  obtain ⟨vm0, locs, k0, X, e, hx, ⟨hc, -⟩, -⟩ := W
  subst hp
  exact Go.stp (fun t r => XS.isub X.here hx rfl (hb hc hd) rfl <| hz ▸ r) k
theorem gImul (W : Wk l Z EL own nm cd ml ret R ws h0 K sf T h cells slots) {x y z : Int32} (hd : decode cd pc = .ok (.imul, 1)) (hz : x * y = z) (hp : pc + 1 = pc') (k : Go K P T pc' ls (.int z :: st)) : Go K P T pc ls (.int y :: .int x :: st) := by
  obtain ⟨vm0, locs, k0, X, e, hx, ⟨hc, -⟩, -⟩ := W
  subst hp
  exact Go.stp (fun t r => XS.imul X.here hx rfl (hb hc hd) rfl <| hz ▸ r) k
theorem gIand (W : Wk l Z EL own nm cd ml ret R ws h0 K sf T h cells slots) {x y z : Int32} (hd : decode cd pc = .ok (.iand, 1)) (hz : x &&& y = z) (hp : pc + 1 = pc') (k : Go K P T pc' ls (.int z :: st)) : Go K P T pc ls (.int y :: .int x :: st) := by
  obtain ⟨vm0, locs, k0, X, e, hx, ⟨hc, -⟩, -⟩ := W
  subst hp
  exact Go.stp (fun t r => XS.iand X.here hx rfl (hb hc hd) rfl <| hz ▸ r) k
theorem gIor (W : Wk l Z EL own nm cd ml ret R ws h0 K sf T h cells slots) {x y z : Int32} (hd : decode cd pc = .ok (.ior, 1)) (hz : x ||| y = z) (hp : pc + 1 = pc') (k : Go K P T pc' ls (.int z :: st)) : Go K P T pc ls (.int y :: .int x :: st) := by
  obtain ⟨vm0, locs, k0, X, e, hx, ⟨hc, -⟩, -⟩ := W
  subst hp
  exact Go.stp (fun t r => XS.ior X.here hx rfl (hb hc hd) rfl <| hz ▸ r) k
theorem gIxor (W : Wk l Z EL own nm cd ml ret R ws h0 K sf T h cells slots) {x y z : Int32} (hd : decode cd pc = .ok (.ixor, 1)) (hz : x ^^^ y = z) (hp : pc + 1 = pc') (k : Go K P T pc' ls (.int z :: st)) : Go K P T pc ls (.int y :: .int x :: st) := by
  obtain ⟨vm0, locs, k0, X, e, hx, ⟨hc, -⟩, -⟩ := W
  subst hp
  exact Go.stp (fun t r => XS.ixor X.here hx rfl (hb hc hd) rfl <| hz ▸ r) k
theorem gIshl (W : Wk l Z EL own nm cd ml ret R ws h0 K sf T h cells slots) {x y z : Int32} (hd : decode cd pc = .ok (.ishl, 1)) (hz : x <<< (y &&& 31) = z) (hp : pc + 1 = pc') (k : Go K P T pc' ls (.int z :: st)) : Go K P T pc ls (.int y :: .int x :: st) := by
  obtain ⟨vm0, locs, k0, X, e, hx, ⟨hc, -⟩, -⟩ := W
  subst hp
  exact Go.stp (fun t r => XS.ishl X.here hx rfl (hb hc hd) rfl <| hz ▸ r) k
theorem gIshr (W : Wk l Z EL own nm cd ml ret R ws h0 K sf T h cells slots) {x y z : Int32} (hd : decode cd pc = .ok (.ishr, 1)) (hz : x >>> (y &&& 31) = z) (hp : pc + 1 = pc') (k : Go K P T pc' ls (.int z :: st)) : Go K P T pc ls (.int y :: .int x :: st) := by
  obtain ⟨vm0, locs, k0, X, e, hx, ⟨hc, -⟩, -⟩ := W
  subst hp
  exact Go.stp (fun t r => XS.ishr X.here hx rfl (hb hc hd) rfl <| hz ▸ r) k
theorem gIushr (W : Wk l Z EL own nm cd ml ret R ws h0 K sf T h cells slots) {x y z : Int32} (hd : decode cd pc = .ok (.iushr, 1)) (hz : (x.toUInt32 >>> (y &&& 31).toUInt32).toInt32 = z) (hp : pc + 1 = pc') (k : Go K P T pc' ls (.int z :: st)) : Go K P T pc ls (.int y :: .int x :: st) := by
  obtain ⟨vm0, locs, k0, X, e, hx, ⟨hc, -⟩, -⟩ := W
  subst hp
  exact Go.stp (fun t r => XS.iushr X.here hx rfl (hb hc hd) rfl <| hz ▸ r) k
theorem gIdiv (W : Wk l Z EL own nm cd ml ret R ws h0 K sf T h cells slots) {x y z : Int32} (hd : decode cd pc = .ok (.idiv, 1)) (hy : y ≠ 0) (hz : x / y = z) (hp : pc + 1 = pc') (k : Go K P T pc' ls (.int z :: st)) : Go K P T pc ls (.int y :: .int x :: st) := by
  obtain ⟨vm0, locs, k0, X, e, hx, ⟨hc, -⟩, -⟩ := W
  subst hp
  exact Go.stp (fun t r => XS.idiv X.here hx rfl (hb hc hd) rfl hy <| hz ▸ r) k
theorem gIrem (W : Wk l Z EL own nm cd ml ret R ws h0 K sf T h cells slots) {x y z : Int32} (hd : decode cd pc = .ok (.irem, 1)) (hy : y ≠ 0) (hz : x % y = z) (hp : pc + 1 = pc') (k : Go K P T pc' ls (.int z :: st)) : Go K P T pc ls (.int y :: .int x :: st) := by
  obtain ⟨vm0, locs, k0, X, e, hx, ⟨hc, -⟩, -⟩ := W
  subst hp
  exact Go.stp (fun t r => iremM X hx rfl (hb hc hd) rfl hy <| hz ▸ r) k
theorem gIneg (W : Wk l Z EL own nm cd ml ret R ws h0 K sf T h cells slots) {x z : Int32} (hd : decode cd pc = .ok (.ineg, 1)) (hz : -x = z) (hp : pc + 1 = pc') (k : Go K P T pc' ls (.int z :: st)) : Go K P T pc ls (.int x :: st) := by
  obtain ⟨vm0, locs, k0, X, e, hx, ⟨hc, -⟩, -⟩ := W
  subst hp
  exact Go.stp (fun t r => XS.ineg X.here hx rfl (hb hc hd) rfl <| hz ▸ r) k
theorem gI2B (W : Wk l Z EL own nm cd ml ret R ws h0 K sf T h cells slots) {x z : Int32} (hd : decode cd pc = .ok (.i2b, 1)) (hz : x.toInt8.toInt32 = z) (hp : pc + 1 = pc') (k : Go K P T pc' ls (.int z :: st)) : Go K P T pc ls (.int x :: st) := by
  obtain ⟨vm0, locs, k0, X, e, hx, ⟨hc, -⟩, -⟩ := W
  subst hp
  exact Go.stp (fun t r => XS.i2b X.here hx rfl (hb hc hd) rfl <| hz ▸ r) k
theorem gI2C (W : Wk l Z EL own nm cd ml ret R ws h0 K sf T h cells slots) {x z : Int32} (hd : decode cd pc = .ok (.i2c, 1)) (hz : x.toUInt32.toUInt16.toUInt32.toInt32 = z) (hp : pc + 1 = pc') (k : Go K P T pc' ls (.int z :: st)) : Go K P T pc ls (.int x :: st) := by
  obtain ⟨vm0, locs, k0, X, e, hx, ⟨hc, -⟩, -⟩ := W
  subst hp
  exact Go.stp (fun t r => XS.i2c X.here hx rfl (hb hc hd) rfl <| hz ▸ r) k
theorem gI2S (W : Wk l Z EL own nm cd ml ret R ws h0 K sf T h cells slots) {x z : Int32} (hd : decode cd pc = .ok (.i2s, 1)) (hz : x.toInt16.toInt32 = z) (hp : pc + 1 = pc') (k : Go K P T pc' ls (.int z :: st)) : Go K P T pc ls (.int x :: st) := by
  obtain ⟨vm0, locs, k0, X, e, hx, ⟨hc, -⟩, -⟩ := W
  subst hp
  exact Go.stp (fun t r => XS.i2s X.here hx rfl (hb hc hd) rfl <| hz ▸ r) k
theorem gI2L (W : Wk l Z EL own nm cd ml ret R ws h0 K sf T h cells slots) {x : Int32} {z : Int64} (hd : decode cd pc = .ok (.i2l, 1)) (hz : x.toInt64 = z) (hp : pc + 1 = pc') (k : Go K P T pc' ls (.long z :: st)) : Go K P T pc ls (.int x :: st) := by
  obtain ⟨vm0, locs, k0, X, e, hx, ⟨hc, -⟩, -⟩ := W
  subst hp
  exact Go.stp (fun t r => XS.i2l X.here hx rfl (hb hc hd) rfl <| hz ▸ r) k
theorem gL2I (W : Wk l Z EL own nm cd ml ret R ws h0 K sf T h cells slots) {x : Int64} {z : Int32} (hd : decode cd pc = .ok (.l2i, 1)) (hz : x.toInt32 = z) (hp : pc + 1 = pc') (k : Go K P T pc' ls (.int z :: st)) : Go K P T pc ls (.long x :: st) := by
  obtain ⟨vm0, locs, k0, X, e, hx, ⟨hc, -⟩, -⟩ := W
  subst hp
  exact Go.stp (fun t r => XS.l2i X.here hx rfl (hb hc hd) rfl <| hz ▸ r) k
theorem gLadd (W : Wk l Z EL own nm cd ml ret R ws h0 K sf T h cells slots) {x y z : Int64} (hd : decode cd pc = .ok (.ladd, 1)) (hz : x + y = z) (hp : pc + 1 = pc') (k : Go K P T pc' ls (.long z :: st)) : Go K P T pc ls (.long y :: .long x :: st) := by
  obtain ⟨vm0, locs, k0, X, e, hx, ⟨hc, -⟩, -⟩ := W
  subst hp
  exact Go.stp (fun t r => XS.ladd X.here hx rfl (hb hc hd) rfl <| hz ▸ r) k
theorem gLsub (W : Wk l Z EL own nm cd ml ret R ws h0 K sf T h cells slots) {x y z : Int64} (hd : decode cd pc = .ok (.lsub, 1)) (hz : x - y = z) (hp : pc + 1 = pc') (k : Go K P T pc' ls (.long z :: st)) : Go K P T pc ls (.long y :: .long x :: st) := by
  obtain ⟨vm0, locs, k0, X, e, hx, ⟨hc, -⟩, -⟩ := W
  subst hp
  exact Go.stp (fun t r => XS.lsub X.here hx rfl (hb hc hd) rfl <| hz ▸ r) k
theorem gLmul (W : Wk l Z EL own nm cd ml ret R ws h0 K sf T h cells slots) {x y z : Int64} (hd : decode cd pc = .ok (.lmul, 1)) (hz : x * y = z) (hp : pc + 1 = pc') (k : Go K P T pc' ls (.long z :: st)) : Go K P T pc ls (.long y :: .long x :: st) := by
  obtain ⟨vm0, locs, k0, X, e, hx, ⟨hc, -⟩, -⟩ := W
  subst hp
  exact Go.stp (fun t r => XS.lmul X.here hx rfl (hb hc hd) rfl <| hz ▸ r) k
theorem gLand (W : Wk l Z EL own nm cd ml ret R ws h0 K sf T h cells slots) {x y z : Int64} (hd : decode cd pc = .ok (.land, 1)) (hz : x &&& y = z) (hp : pc + 1 = pc') (k : Go K P T pc' ls (.long z :: st)) : Go K P T pc ls (.long y :: .long x :: st) := by
  obtain ⟨vm0, locs, k0, X, e, hx, ⟨hc, -⟩, -⟩ := W
  subst hp
  exact Go.stp (fun t r => XS.land X.here hx rfl (hb hc hd) rfl <| hz ▸ r) k
theorem gLor (W : Wk l Z EL own nm cd ml ret R ws h0 K sf T h cells slots) {x y z : Int64} (hd : decode cd pc = .ok (.lor, 1)) (hz : x ||| y = z) (hp : pc + 1 = pc') (k : Go K P T pc' ls (.long z :: st)) : Go K P T pc ls (.long y :: .long x :: st) := by
  obtain ⟨vm0, locs, k0, X, e, hx, ⟨hc, -⟩, -⟩ := W
  subst hp
  exact Go.stp (fun t r => XS.lor X.here hx rfl (hb hc hd) rfl <| hz ▸ r) k
theorem gLxor (W : Wk l Z EL own nm cd ml ret R ws h0 K sf T h cells slots) {x y z : Int64} (hd : decode cd pc = .ok (.lxor, 1)) (hz : x ^^^ y = z) (hp : pc + 1 = pc') (k : Go K P T pc' ls (.long z :: st)) : Go K P T pc ls (.long y :: .long x :: st) := by
  obtain ⟨vm0, locs, k0, X, e, hx, ⟨hc, -⟩, -⟩ := W
  subst hp
  exact Go.stp (fun t r => XS.lxor X.here hx rfl (hb hc hd) rfl <| hz ▸ r) k
theorem gLshl (W : Wk l Z EL own nm cd ml ret R ws h0 K sf T h cells slots) {x z : Int64} {y : Int32} (hd : decode cd pc = .ok (.lshl, 1)) (hz : x <<< (y &&& 0x3f).toInt64 = z) (hp : pc + 1 = pc') (k : Go K P T pc' ls (.long z :: st)) : Go K P T pc ls (.int y :: .long x :: st) := by
  obtain ⟨vm0, locs, k0, X, e, hx, ⟨hc, -⟩, -⟩ := W
  subst hp
  exact Go.stp (fun t r => XS.lshl X.here hx rfl (hb hc hd) rfl <| hz ▸ r) k
theorem gLshr (W : Wk l Z EL own nm cd ml ret R ws h0 K sf T h cells slots) {x z : Int64} {y : Int32} (hd : decode cd pc = .ok (.lshr, 1)) (hz : x >>> (y &&& 0x3f).toInt64 = z) (hp : pc + 1 = pc') (k : Go K P T pc' ls (.long z :: st)) : Go K P T pc ls (.int y :: .long x :: st) := by
  obtain ⟨vm0, locs, k0, X, e, hx, ⟨hc, -⟩, -⟩ := W
  subst hp
  exact Go.stp (fun t r => XS.lshr X.here hx rfl (hb hc hd) rfl <| hz ▸ r) k
theorem gLushr (W : Wk l Z EL own nm cd ml ret R ws h0 K sf T h cells slots) {x z : Int64} {y : Int32} (hd : decode cd pc = .ok (.lushr, 1)) (hz : (x.toUInt64 >>> (y &&& 0x3f).toInt64.toUInt64).toInt64 = z) (hp : pc + 1 = pc') (k : Go K P T pc' ls (.long z :: st)) : Go K P T pc ls (.int y :: .long x :: st) := by
  obtain ⟨vm0, locs, k0, X, e, hx, ⟨hc, -⟩, -⟩ := W
  subst hp
  exact Go.stp (fun t r => XS.lushr X.here hx rfl (hb hc hd) rfl <| hz ▸ r) k
theorem gLcmp (W : Wk l Z EL own nm cd ml ret R ws h0 K sf T h cells slots) {x y : Int64} {z : Int32} (hd : decode cd pc = .ok (.lcmp, 1)) (hz : lcmpW x y = z) (hp : pc + 1 = pc') (k : Go K P T pc' ls (.int z :: st)) : Go K P T pc ls (.long y :: .long x :: st) := by
  obtain ⟨vm0, locs, k0, X, e, hx, ⟨hc, -⟩, -⟩ := W
  subst hp
  exact Go.stp (fun t r => XS.lcmp X.here hx rfl (hb hc hd) rfl (by subst hz; exact r)) k
theorem gDup (W : Wk l Z EL own nm cd ml ret R ws h0 K sf T h cells slots) {x : Value} (hd : decode cd pc = .ok (.dup, 1)) (hc1 : x.category = 1) (hp : pc + 1 = pc') (k : Go K P T pc' ls (x :: x :: st)) : Go K P T pc ls (x :: st) := by
  obtain ⟨vm0, locs, k0, X, e, hx, ⟨hc, -⟩, -⟩ := W
  subst hp
  exact Go.stp (fun t r => XS.dup X.here hx rfl (hb hc hd) rfl hc1 r) k
theorem gPop (W : Wk l Z EL own nm cd ml ret R ws h0 K sf T h cells slots) {x : Value} (hd : decode cd pc = .ok (.pop, 1)) (hc1 : x.category = 1) (hp : pc + 1 = pc') (k : Go K P T pc' ls st) : Go K P T pc ls (x :: st) := by
  obtain ⟨vm0, locs, k0, X, e, hx, ⟨hc, -⟩, -⟩ := W
  subst hp
  exact Go.stp (fun t r => XS.pop X.here hx rfl (hb hc hd) rfl hc1 r) k
theorem gIstoreN (W : Wk l Z EL own nm cd ml ret R ws h0 K sf T h cells slots) {i : Fin 4} {x : Int32} {ls' : Array Slot} (hd : decode cd pc = .ok (.istore_n i, 1)) (hl : storeLocals ls i.val (.int x) = some ls') (hp : pc + 1 = pc') (k : Go K P T pc' ls' st) : Go K P T pc ls (.int x :: st) := by
  obtain ⟨vm0, locs, k0, X, e, hx, ⟨hc, -⟩, -⟩ := W
  subst hp
  exact Go.stp (fun t r => XS.istoreN X.here hx rfl (hb hc hd) rfl hl r) k
theorem gIstore (W : Wk l Z EL own nm cd ml ret R ws h0 K sf T h cells slots) {i : Nat} {x : Int32} {ls' : Array Slot} (hd : decode cd pc = .ok (.istore i, 2)) (hl : storeLocals ls i (.int x) = some ls') (hp : pc + 2 = pc') (k : Go K P T pc' ls' st) : Go K P T pc ls (.int x :: st) := by
  obtain ⟨vm0, locs, k0, X, e, hx, ⟨hc, -⟩, -⟩ := W
  subst hp
  exact Go.stp (fun t r => XS.istore X.here hx rfl (hb hc hd) rfl hl r) k
theorem gAstoreN (W : Wk l Z EL own nm cd ml ret R ws h0 K sf T h cells slots) {i : Fin 4} {x : Value} {ls' : Array Slot} (hd : decode cd pc = .ok (.astore_n i, 1)) (hv : x.isRef = true) (hl : storeLocals ls i.val x = some ls') (hp : pc + 1 = pc') (k : Go K P T pc' ls' st) : Go K P T pc ls (x :: st) := by
  obtain ⟨vm0, locs, k0, X, e, hx, ⟨hc, -⟩, -⟩ := W
  subst hp
  exact Go.stp (fun t r => XS.astoreN X.here hx rfl (hb hc hd) rfl hv hl r) k
theorem gAstore (W : Wk l Z EL own nm cd ml ret R ws h0 K sf T h cells slots) {i : Nat} {x : Value} {ls' : Array Slot} (hd : decode cd pc = .ok (.astore i, 2)) (hv : x.isRef = true) (hl : storeLocals ls i x = some ls') (hp : pc + 2 = pc') (k : Go K P T pc' ls' st) : Go K P T pc ls (x :: st) := by
  obtain ⟨vm0, locs, k0, X, e, hx, ⟨hc, -⟩, -⟩ := W
  subst hp
  exact Go.stp (fun t r => XS.astore X.here hx rfl (hb hc hd) rfl hv hl r) k
theorem gLstoreN (W : Wk l Z EL own nm cd ml ret R ws h0 K sf T h cells slots) {i : Fin 4} {x : Int64} {ls' : Array Slot} (hd : decode cd pc = .ok (.lstore_n i, 1)) (hl : storeLocals ls i.val (.long x) = some ls') (hp : pc + 1 = pc') (k : Go K P T pc' ls' st) : Go K P T pc ls (.long x :: st) := by
  obtain ⟨vm0, locs, k0, X, e, hx, ⟨hc, -⟩, -⟩ := W
  subst hp
  exact Go.stp (fun t r => XS.lstoreN X.here hx rfl (hb hc hd) rfl hl r) k
theorem gLstore (W : Wk l Z EL own nm cd ml ret R ws h0 K sf T h cells slots) {i : Nat} {x : Int64} {ls' : Array Slot} (hd : decode cd pc = .ok (.lstore i, 2)) (hl : storeLocals ls i (.long x) = some ls') (hp : pc + 2 = pc') (k : Go K P T pc' ls' st) : Go K P T pc ls (.long x :: st) := by
  obtain ⟨vm0, locs, k0, X, e, hx, ⟨hc, -⟩, -⟩ := W
  subst hp
  exact Go.stp (fun t r => XS.lstore X.here hx rfl (hb hc hd) rfl hl r) k
theorem gIinc (W : Wk l Z EL own nm cd ml ret R ws h0 K sf T h cells slots) {i : Nat} {c0 : Int} {x z : Int32} {ls' : Array Slot} (hd : decode cd pc = .ok (.iinc i c0, 3)) (hl : ls[i]? = some (.val (.int x))) (hz : x + Int32.ofInt c0 = z) (hl2 : storeLocals ls i (.int z) = some ls') (hp : pc + 3 = pc') (k : Go K P T pc' ls' st) : Go K P T pc ls st := by
  obtain ⟨vm0, locs, k0, X, e, hx, ⟨hc, -⟩, -⟩ := W
  subst hp
  exact Go.stp (fun t r => XS.iinc X.here hx rfl (hb hc hd) hl (hz ▸ hl2) r) k
theorem gGoto (W : Wk l Z EL own nm cd ml ret R ws h0 K sf T h cells slots) {o : Int} (hd : decode cd pc = .ok (.goto o, 3)) (ho : 0 ≤ (pc : Int) + o) (hp : ((pc : Int) + o).toNat = pc') (k : Go K P T pc' ls st) : Go K P T pc ls st := by
  obtain ⟨vm0, locs, k0, X, e, hx, ⟨hc, -⟩, -⟩ := W
  exact Go.stp (fun t r => XS.goto X.here hx rfl (pc0 := pc) rfl (hb hc hd) ho hp r) k
theorem gIfYes (W : Wk l Z EL own nm cd ml ret R ws h0 K sf T h cells slots) {cn : ClassFile.Cond} {o : Int} {x : Int32} (hd : decode cd pc = .ok (.ifCond cn o, 3)) (hq : ifCond.holds cn x = true) (ho : 0 ≤ (pc : Int) + o) (hp : ((pc : Int) + o).toNat = pc') (k : Go K P T pc' ls st) : Go K P T pc ls (.int x :: st) := by
  obtain ⟨vm0, locs, k0, X, e, hx, ⟨hc, -⟩, -⟩ := W
  exact Go.stp (fun t r => XS.ifYes X.here hx rfl (pc0 := pc) rfl (hb hc hd) rfl hq ho hp r) k
theorem gIfNo (W : Wk l Z EL own nm cd ml ret R ws h0 K sf T h cells slots) {cn : ClassFile.Cond} {o : Int} {x : Int32} (hd : decode cd pc = .ok (.ifCond cn o, 3)) (hq : ifCond.holds cn x = false) (hp : pc + 3 = pc') (k : Go K P T pc' ls st) : Go K P T pc ls (.int x :: st) := by
  obtain ⟨vm0, locs, k0, X, e, hx, ⟨hc, -⟩, -⟩ := W
  subst hp
  exact Go.stp (fun t r => XS.ifNo X.here hx rfl (hb hc hd) rfl hq r) k
theorem gIcmpYes (W : Wk l Z EL own nm cd ml ret R ws h0 K sf T h cells slots) {cn : ClassFile.Cond} {o : Int} {x y : Int32} (hd : decode cd pc = .ok (.if_icmp cn o, 3)) (hq : if_icmp.holds cn x y = true) (ho : 0 ≤ (pc : Int) + o) (hp : ((pc : Int) + o).toNat = pc') (k : Go K P T pc' ls st) : Go K P T pc ls (.int y :: .int x :: st) := by
  obtain ⟨vm0, locs, k0, X, e, hx, ⟨hc, -⟩, -⟩ := W
  exact Go.stp (fun t r => XS.icmpYes X.here hx rfl (pc0 := pc) rfl (hb hc hd) rfl hq ho hp r) k
theorem gIcmpNo (W : Wk l Z EL own nm cd ml ret R ws h0 K sf T h cells slots) {cn : ClassFile.Cond} {o : Int} {x y : Int32} (hd : decode cd pc = .ok (.if_icmp cn o, 3)) (hq : if_icmp.holds cn x y = false) (hp : pc + 3 = pc') (k : Go K P T pc' ls st) : Go K P T pc ls (.int y :: .int x :: st) := by
  obtain ⟨vm0, locs, k0, X, e, hx, ⟨hc, -⟩, -⟩ := W
  subst hp
  exact Go.stp (fun t r => XS.icmpNo X.here hx rfl (hb hc hd) rfl hq r) k
theorem gIfnullYes (W : Wk l Z EL own nm cd ml ret R ws h0 K sf T h cells slots) {o : Int} (hd : decode cd pc = .ok (.ifnull o, 3)) (ho : 0 ≤ (pc : Int) + o) (hp : ((pc : Int) + o).toNat = pc') (k : Go K P T pc' ls st) : Go K P T pc ls (.null :: st) := by
  obtain ⟨vm0, locs, k0, X, e, hx, ⟨hc, -⟩, -⟩ := W
  exact Go.stp (fun t r => XS.ifnullYes X.here hx rfl (pc0 := pc) rfl (hb hc hd) rfl ho hp r) k
theorem gIfnullNo (W : Wk l Z EL own nm cd ml ret R ws h0 K sf T h cells slots) {o : Int} {b : Addr} (hd : decode cd pc = .ok (.ifnull o, 3))  (hp : pc + 3 = pc') (k : Go K P T pc' ls st) : Go K P T pc ls (.ref b :: st) := by
  obtain ⟨vm0, locs, k0, X, e, hx, ⟨hc, -⟩, -⟩ := W
  subst hp
  exact Go.stp (fun t r => XS.ifnullNo X.here hx rfl (hb hc hd) rfl r) k
theorem gIfnonnullYes (W : Wk l Z EL own nm cd ml ret R ws h0 K sf T h cells slots) {o : Int} {b : Addr} (hd : decode cd pc = .ok (.ifnonnull o, 3)) (ho : 0 ≤ (pc : Int) + o) (hp : ((pc : Int) + o).toNat = pc') (k : Go K P T pc' ls st) : Go K P T pc ls (.ref b :: st) := by
  obtain ⟨vm0, locs, k0, X, e, hx, ⟨hc, -⟩, -⟩ := W
  exact Go.stp (fun t r => XS.ifnonnullYes X.here hx rfl (pc0 := pc) rfl (hb hc hd) rfl ho hp r) k
theorem gIfnonnullNo (W : Wk l Z EL own nm cd ml ret R ws h0 K sf T h cells slots) {o : Int} (hd : decode cd pc = .ok (.ifnonnull o, 3))  (hp : pc + 3 = pc') (k : Go K P T pc' ls st) : Go K P T pc ls (.null :: st) := by
  obtain ⟨vm0, locs, k0, X, e, hx, ⟨hc, -⟩, -⟩ := W
  subst hp
  exact Go.stp (fun t r => XS.ifnonnullNo X.here hx rfl (hb hc hd) rfl r) k
theorem gAcmp (W : Wk l Z EL own nm cd ml ret R ws h0 K sf T h cells slots) {cn : ACond} {o : Int} {x y : Value} {same : Bool} (hd : decode cd pc = .ok (.if_acmp cn o, 3)) (h1 : x.isRef = true) (h2 : y.isRef = true) (hq : decide (x = y) = same) (ho : 0 ≤ (pc : Int) + o) (hp : pc' = if acV cn same = true then ((pc : Int) + o).toNat else pc + 3) (k : Go K P T pc' ls st) : Go K P T pc ls (y :: x :: st) := by
  obtain ⟨vm0, locs, k0, X, e, hx, ⟨hc, -⟩, -⟩ := W
  exact Go.stp (fun t r => acmp X hx rfl h1 h2 (pc0 := pc) rfl (hb hc hd) rfl hq ho hp r) k
end Pure
section Laws
variable {l : Launch} {Z : State} {EL : List (String × Nat)} {own nm : String} {cd : ByteArray} {ml : Nat} {ret : Option FieldType} {R : Room} {ws : List Addr} {h0 : Heap} {K : Cx} {sf : List Addr} {T : State} {h h' : Heap} {cells slots : Nat} {P : Outcome → State → Prop} {pc pc' : Nat} {ls : Array Slot} {st : List Value} {a0 : Array Value}
/-- getfield -/
theorem wGetF (W : Wk l Z EL own nm cd ml ret R ws h0 K sf T h cells slots) {R0 O n d : String} {index : Nat} (hd : decode cd pc = .ok (.getfield index, 3)) (w : (Cond.fieldLink own index R0 n d).before a0 Z = true) (via : Via Z R0 O n d) {a : Addr} {v : Value} (F : Fld Z h a O n d v) (hp : pc + 3 = pc')
    (k : ∀ T', Wk l Z EL own nm cd ml ret R ws h0 K sf T' h cells slots → Go K P T' pc' ls (v :: st)) : Go K P T pc ls (.ref a :: st) := by
  obtain ⟨vm0, locs, k0, X, e, hx, hc, e0, hZ, hown, r⟩ := W
  subst hp
  obtain ⟨T', X', e', f⟩ := getF X hx hZ hown (host := "") (Or.inl w) via e F (g := mkF K.2.2.2.1 pc ls (.ref a :: st)) rfl rfl (hb hc.1 hd)
  exact Go.stp f (k T' ⟨vm0, locs, k0, X', e', hx, hc, e0, hZ, hown, r⟩)
/-- getstatic, of a static that stands as at the law's start -/
theorem wGetS (W : Wk l Z EL own nm cd ml ret R ws h0 K sf T h cells slots) {R0 O n d : String} {index : Nat} (hd : decode cd pc = .ok (.getstatic index, 3)) (w : (Cond.fieldLink own index R0 n d).before a0 Z = true) (via : Via Z R0 O n d) {v : Value} (F : Sta Z Z.heap O n d v) (hp : pc + 3 = pc')
    (k : ∀ T', Wk l Z EL own nm cd ml ret R ws h0 K sf T' h cells slots → Go K P T' pc' ls (v :: st)) : Go K P T pc ls st := by
  have hO := W.old
  obtain ⟨vm0, locs, k0, X, e, hx, hc, e0, hZ, hown, r⟩ := W
  subst hp
  obtain ⟨T', X', e', f⟩ := getS X hx hZ hown w via (host := "") e (Sta.ext hO.2 F) (g := mkF K.2.2.2.1 pc ls st) rfl (hb hc.1 hd)
  exact Go.stp f (k T' ⟨vm0, locs, k0, X', e', hx, hc, e0, hZ, hown, r⟩)
/-- checkcast that holds -/
theorem wCast (W : Wk l Z EL own nm cd ml ret R ws h0 K sf T h cells slots) {C : String} {index : Nat} (hd : decode cd pc = .ok (.checkcast index, 3)) (w : (Cond.classLink own index C).before a0 Z = true) {a : Addr} (F : Ins Z h a C true) (hp : pc + 3 = pc')
    (k : ∀ T', Wk l Z EL own nm cd ml ret R ws h0 K sf T' h cells slots → Go K P T' pc' ls (.ref a :: st)) : Go K P T pc ls (.ref a :: st) := by
  obtain ⟨vm0, locs, k0, X, e, hx, hc, e0, hZ, hown, r⟩ := W
  subst hp
  obtain ⟨T', X', e', f⟩ := castY X hx hZ hown w e F (g := mkF K.2.2.2.1 pc ls (.ref a :: st)) rfl rfl (hb hc.1 hd)
  exact Go.stp f (k T' ⟨vm0, locs, k0, X', e', hx, hc, e0, hZ, hown, r⟩)
/-- instanceof that holds -/
theorem wInst (W : Wk l Z EL own nm cd ml ret R ws h0 K sf T h cells slots) {C : String} {index : Nat} (hd : decode cd pc = .ok (.instanceof index, 3)) (w : (Cond.classLink own index C).before a0 Z = true) {a : Addr} (F : Ins Z h a C true) (hp : pc + 3 = pc')
    (k : ∀ T', Wk l Z EL own nm cd ml ret R ws h0 K sf T' h cells slots → Go K P T' pc' ls (.int 1 :: st)) : Go K P T pc ls (.ref a :: st) := by
  obtain ⟨vm0, locs, k0, X, e, hx, hc, e0, hZ, hown, r⟩ := W
  subst hp
  obtain ⟨T', X', e', f⟩ := instY X hx hZ hown w e F (g := mkF K.2.2.2.1 pc ls (.ref a :: st)) rfl rfl (hb hc.1 hd)
  exact Go.stp f (k T' ⟨vm0, locs, k0, X', e', hx, hc, e0, hZ, hown, r⟩)
theorem wExt {vm0 : Vm} {s : State} (hC : CHr Z EL s.vm h0 vm0 h) (hs : ∀ x ∈ sf, Safe Z EL vm0 h x ∧ x < h.size ∧ (x ∈ ws ∨ h0.size ≤ x)) (E : Ext h h') :
    CHr Z EL s.vm h0 vm0 h' ∧ ∀ x ∈ sf, Safe Z EL vm0 h' x ∧ x < h'.size ∧ (x ∈ ws ∨ h0.size ≤ x) :=
  ⟨hC.trans (CHr.ext E hC.1), fun x q => ⟨Safe.ext E hC.1 (hs x q).1, Nat.lt_of_lt_of_le (hs x q).2.1 E.1, (hs x q).2.2⟩⟩
/-- new -/
theorem wNewO (W : Wk l Z EL own nm cd ml ret R ws h0 K sf T h cells slots) {C : String} {index n : Nat} (hd : decode cd pc = .ok (.new index, 3)) (w : (Cond.classLink own index C).before a0 Z = true) (wi : (Cond.instantiable C n).before a0 Z = true) (wz : (Cond.initialized C).before a0 Z = true) (hc' : cells + 1 ≤ R.cells) (hl : slots + n ≤ R.slots) (hp : pc + 3 = pc')
    (k : ∀ T' h' a, Wk l Z EL own nm cd ml ret R ws h0 K (a :: sf) T' h' (cells + 1) (slots + n) → Ext h h' → a = h.size → Exa Z h' a C → (∀ {O nm d : String} {ty : FieldType}, Laid Z a0 C O nm d → parseFieldDescriptor d = some ty → Fld Z h' a O nm d (defaultValue ty)) → Go K P T' pc' ls (.ref a :: st)) : Go K P T pc ls st := by
  have hg := W.grow
  obtain ⟨vm0, locs, k0, X, e, hx, hc, e0, hZ, hown, hS, hk, hL, hC, hO, hE, hw, hz, hs⟩ := W
  subst hp
  obtain ⟨T', h', X', e', E, A, D, -, f⟩ := newO X hx hZ hown w wi wz e (g := mkF K.2.2.2.1 pc ls st) rfl (hb hc.1 hd) hc' hl
  obtain ⟨hC', hs'⟩ := wExt (s := K.2.2.1) hC hs E
  refine Go.stp f (k T' h' h.size ⟨vm0, locs, k0, X', e', hx, hc, e0, hZ, hown, hS, Nat.le_trans hk E.1, hL, hC', hO.ext E, hE, hw, hz, fun x q => ?_⟩ E rfl A D)
  rcases List.mem_cons.mp q with rfl | q
  · exact ⟨Safe.ext E hC.1 (Safe.new (Nat.le_refl _)), A.lt, Or.inr hg⟩
  · exact hs' x q
/-- newarray -/
theorem wNewP (W : Wk l Z EL own nm cd ml ret R ws h0 K sf T h cells slots) {aty : ArrayType} (hd : decode cd pc = .ok (.newarray aty, 2)) (w : (Cond.arrayClass (newarray.typeOf aty)).before a0 Z = true) {n : Int32} (hn : ¬ n < 0) {cap : Nat} (hcap : n.toNatClampNeg ≤ cap) (hbig : cap * 8 ≤ 536870912) (hc' : cells + 1 ≤ R.cells) (hl : slots + cap ≤ R.slots) (hp : pc + 2 = pc')
    (k : ∀ T' h' a cA, Wk l Z EL own nm cd ml ret R ws h0 K (a :: sf) T' h' (cells + 1) (slots + cap) → Ext h h' → a = h.size → (∀ m : Nat, Arv Z h' a cA (newarray.typeOf aty) n (List.replicate m (defaultValue (newarray.typeOf aty))) (defaultValue (newarray.typeOf aty))) → Go K P T' pc' ls (.ref a :: st)) : Go K P T pc ls (.int n :: st) := by
  have hg := W.grow
  obtain ⟨vm0, locs, k0, X, e, hx, hc, e0, hZ, hown, hS, hk, hL, hC, hO, hE, hw, hz, hs⟩ := W
  subst hp
  obtain ⟨T', h', cA, X', e', E, A, f⟩ := newP X hx hZ w e (g := mkF K.2.2.2.1 pc ls (.int n :: st)) rfl (hb hc.1 hd) rfl hn hcap hbig hc' hl
  obtain ⟨hC', hs'⟩ := wExt (s := K.2.2.1) hC hs E
  have F := Arv.new A hn
  refine Go.stp f (k T' h' h.size cA ⟨vm0, locs, k0, X', e', hx, hc, e0, hZ, hown, hS, Nat.le_trans hk E.1, hL, hC', hO.ext E, hE, hw, hz, fun x q => ?_⟩ E rfl (fun m => F.pad (pad_rep [] _ m)))
  rcases List.mem_cons.mp q with rfl | q
  · exact ⟨Safe.ext E hC.1 (Safe.new (Nat.le_refl _)), A.lt, Or.inr hg⟩
  · exact hs' x q
/-- anewarray -/
theorem wNewR (W : Wk l Z EL own nm cd ml ret R ws h0 K sf T h cells slots) {C : String} {index : Nat} (hd : decode cd pc = .ok (.anewarray index, 3)) (w : (Cond.classLink own index C).before a0 Z = true) (w2 : (Cond.arrayOver (.object C)).before a0 Z = true) {n : Int32} (hn : ¬ n < 0) {cap : Nat} (hcap : n.toNatClampNeg ≤ cap) (hbig : cap * 8 ≤ 536870912) (hc' : cells + 1 ≤ R.cells) (hl : slots + cap ≤ R.slots) (hp : pc + 3 = pc')
    (k : ∀ T' h' a cA, Wk l Z EL own nm cd ml ret R ws h0 K (a :: sf) T' h' (cells + 1) (slots + cap) → Ext h h' → a = h.size → (∀ m : Nat, Arv Z h' a cA (.object C) n (List.replicate m .null) .null) → Ovr Z cA C → Go K P T' pc' ls (.ref a :: st)) : Go K P T pc ls (.int n :: st) := by
  have hg := W.grow
  obtain ⟨vm0, locs, k0, X, e, hx, hc, e0, hZ, hown, hS, hk, hL, hC, hO, hE, hw, hz, hs⟩ := W
  subst hp
  obtain ⟨T', h', cA, X', e', E, A, Ov, f⟩ := newR X hx hZ hown w w2 e (g := mkF K.2.2.2.1 pc ls (.int n :: st)) rfl (hb hc.1 hd) rfl hn hcap hbig hc' hl
  obtain ⟨hC', hs'⟩ := wExt (s := K.2.2.1) hC hs E
  have F := Arv.new A hn
  refine Go.stp f (k T' h' h.size cA ⟨vm0, locs, k0, X', e', hx, hc, e0, hZ, hown, hS, Nat.le_trans hk E.1, hL, hC', hO.ext E, hE, hw, hz, fun x q => ?_⟩ E rfl (fun m => F.pad (pad_rep [] _ m)) Ov)
  rcases List.mem_cons.mp q with rfl | q
  · exact ⟨Safe.ext E hC.1 (Safe.new (Nat.le_refl _)), A.lt, Or.inr hg⟩
  · exact hs' x q
theorem wWr {vm0 : Vm} {s : State} {a : Addr} {sl : Nat} {v : Value} {locs : List Loc} (hC : CHr Z EL s.vm h0 vm0 h) (hs : ∀ x ∈ sf, Safe Z EL vm0 h x ∧ x < h.size ∧ (x ∈ ws ∨ h0.size ≤ x)) (hL : ∀ x ∈ locs, x.base ∈ ws ∨ h0.size ≤ x.base) (hO : Old Z Z.heap.size h) (hw : ∀ x ∈ ws, Z.heap.size ≤ x) (hz : Z.heap.size ≤ h0.size) (ha : a ∈ sf) (Wr' : Wr h h' a sl v) :
    CHr Z EL s.vm h0 vm0 h' ∧ (∀ x ∈ sf, Safe Z EL vm0 h' x ∧ x < h'.size ∧ (x ∈ ws ∨ h0.size ≤ x)) ∧ (∀ x ∈ locs ++ [⟨a, sl⟩], x.base ∈ ws ∨ h0.size ≤ x.base) ∧ Old Z Z.heap.size h' := by
  obtain ⟨s1, s2, s3⟩ := hs a ha
  refine ⟨hC.trans (CHr.wr Wr' s1 hC.1), fun x q => ⟨Safe.wr Wr' s1 hC.1 (hs x q).1, by rw [Wr'.size]; exact (hs x q).2.1, (hs x q).2.2⟩, fun x q => ?_, hO.wr Wr' ?_⟩
  · rcases List.mem_append.mp q with q | q
    · exact hL x q
    · cases List.mem_singleton.mp q; exact s3
  · rcases s3 with z | z
    · exact hw a z
    · exact Nat.le_trans hz z
/-- putfield -/
theorem wPutF (W : Wk l Z EL own nm cd ml ret R ws h0 K sf T h cells slots) {R0 O n d C : String} {index kk : Nat} {ty : FieldType} (hd : decode cd pc = .ok (.putfield index, 3)) (w : (Cond.fieldLink own index R0 n d).before a0 Z = true) (via : Via Z R0 O n d) {a : Addr} {v old : Value} (ha : a ∈ sf) (F : Fld Z h a O n d old) (E : Exa Z h a C)
    (L : (Cond.lays C O n d).before a0 Z = true ∨ ((Cond.laysFinal C O n d).before a0 Z = true ∧ own = O ∧ nm = "<init>")) (wi : (Cond.instantiable C kk).before a0 Z = true) (hty : parseFieldDescriptor d = some ty) (hn : narrow ty v = v) (hf : fits ty v = true) (hp : pc + 3 = pc')
    (k : ∀ T' h', Wk l Z EL own nm cd ml ret R ws h0 K sf T' h' cells slots → Wr h h' a (Jvm.RoadKit.slotOf Z O n d) v → Go K P T' pc' ls st) : Go K P T pc ls (v :: .ref a :: st) := by
  obtain ⟨vm0, locs, k0, X, e, hx, hc, e0, hZ, hown, hS, hk, hL, hC, hO, hE, hw, hz, hs⟩ := W
  subst hp
  obtain ⟨T', h', X', e', Wr', f⟩ := putF X hx hZ hown (host := "") (Or.inl w) via e F E (L.imp id fun q => ⟨q.1, q.2.1, hc.2.2.2.2.trans q.2.2⟩) wi hty hn hf (g := mkF K.2.2.2.1 pc ls (v :: .ref a :: st)) rfl rfl (hb hc.1 hd)
  obtain ⟨hC', hs', hL', hO'⟩ := wWr (s := K.2.2.1) hC hs hL hO hw hz ha Wr'
  exact Go.stp f (k T' h' ⟨vm0, _, k0, X', e', hx, hc, e0, hZ, hown, hS, by rw [Wr'.size]; exact hk, hL', hC', hO', hE, hw, hz, hs'⟩ Wr')
/-- castore -/
theorem wStC (W : Wk l Z EL own nm cd ml ret R ws h0 K sf T h cells slots) (hd : decode cd pc = .ok (.castore, 1)) {a : Addr} (ha : a ∈ sf) {kA : ClassId} {z j x y : Int32} {vs : List Value} {dv : Value} (A : Arv Z h a kA .char z vs dv) (hj : ¬ j < 0 ∧ j < z) (hy : nar .char x = y) (i : Nat) (hi : j.toNatClampNeg = i) (hil : i < vs.length) (hp : pc + 1 = pc')
    (k : ∀ T' h', Wk l Z EL own nm cd ml ret R ws h0 K sf T' h' cells slots → Wr h h' a j.toNatClampNeg (.int y) → Arv Z h' a kA .char z (vs.set i (.int y)) dv → Go K P T' pc' ls st) : Go K P T pc ls (.int x :: .int j :: .ref a :: st) := by
  obtain ⟨vm0, locs, k0, X, e, hx, hc, e0, hZ, hown, hS, hk, hL, hC, hO, hE, hw, hz, hs⟩ := W
  subst hp hy
  obtain ⟨cl, A1, A2, A3, A4, A5, A6⟩ := A
  obtain ⟨T', h', X', e', Wr', f⟩ := stC X hx hZ e A1 (inb_of A3 hj) (g := mkF K.2.2.2.1 pc ls (.int x :: .int j :: .ref a :: st)) rfl rfl (hb hc.1 hd)
  obtain ⟨hC', hs', hL', hO'⟩ := wWr (s := K.2.2.1) hC hs hL hO hw hz ha Wr'
  exact Go.stp f (k T' h' ⟨vm0, _, k0, X', e', hx, hc, e0, hZ, hown, hS, by rw [Wr'.size]; exact hk, hL', hC', hO', hE, hw, hz, hs'⟩ Wr' (Arv.set A1 A2 A3 A4 A5 A6 (fits_nar_char x) Wr' i hi hil))
/-- bastore into a byte[] -/
theorem wStB (W : Wk l Z EL own nm cd ml ret R ws h0 K sf T h cells slots) (hd : decode cd pc = .ok (.bastore, 1)) {a : Addr} (ha : a ∈ sf) {kA : ClassId} {z j x y : Int32} {vs : List Value} {dv : Value} (A : Arv Z h a kA .byte z vs dv) (hj : ¬ j < 0 ∧ j < z) (hy : x.toInt8.toInt32 = y) (i : Nat) (hi : j.toNatClampNeg = i) (hil : i < vs.length) (hp : pc + 1 = pc')
    (k : ∀ T' h', Wk l Z EL own nm cd ml ret R ws h0 K sf T' h' cells slots → Wr h h' a j.toNatClampNeg (.int y) → Arv Z h' a kA .byte z (vs.set i (.int y)) dv → Go K P T' pc' ls st) : Go K P T pc ls (.int x :: .int j :: .ref a :: st) := by
  obtain ⟨vm0, locs, k0, X, e, hx, hc, e0, hZ, hown, hS, hk, hL, hC, hO, hE, hw, hz, hs⟩ := W
  subst hp hy
  obtain ⟨cl, A1, A2, A3, A4, A5, A6⟩ := A
  obtain ⟨T', h', X', e', Wr', f⟩ := stB X hx hZ e A1 (inb_of A3 hj) (g := mkF K.2.2.2.1 pc ls (.int x :: .int j :: .ref a :: st)) rfl rfl (hb hc.1 hd)
  obtain ⟨hC', hs', hL', hO'⟩ := wWr (s := K.2.2.1) hC hs hL hO hw hz ha Wr'
  exact Go.stp f (k T' h' ⟨vm0, _, k0, X', e', hx, hc, e0, hZ, hown, hS, by rw [Wr'.size]; exact hk, hL', hC', hO', hE, hw, hz, hs'⟩ Wr' (Arv.set A1 A2 A3 A4 A5 A6 (fits_nar_byte x) Wr' i hi hil))
/-- arraylength -/
theorem wLen (W : Wk l Z EL own nm cd ml ret R ws h0 K sf T h cells slots) (hd : decode cd pc = .ok (.arraylength, 1)) {a : Addr} {kA : ClassId} {ty : FieldType} {z : Int32} {vs : List Value} {dv : Value} (A : Arv Z h a kA ty z vs dv) (hp : pc + 1 = pc')
    (k : Go K P T pc' ls (.int z :: st)) : Go K P T pc ls (.ref a :: st) := by
  obtain ⟨vm0, locs, k0, X, e, hx, hc, e0, hZ, r⟩ := W
  subst hp
  obtain ⟨cl, A1, A2, A3, A4, -⟩ := A
  refine Go.stp (fun t q => ?_) k
  have ez : cl.slots.size.toInt32 = z := len_of A3 A4
  exact X.arraylength hx (by rw [e]; exact A1.1) (State.isArrayOf_alike hZ.alike A1.2.1) (g := mkF K.2.2.2.1 pc ls (.ref a :: st)) rfl rfl (hb hc.1 hd) _ (by rw [ez]; exact q)
/-- caload -/
theorem wLdC (W : Wk l Z EL own nm cd ml ret R ws h0 K sf T h cells slots) (hd : decode cd pc = .ok (.caload, 1)) {a : Addr} {kA : ClassId} {z j : Int32} {vs : List Value} {v dv : Value} (A : Arv Z h a kA .char z vs dv) (hj : ¬ j < 0 ∧ j < z) (hv : vs.getD j.toNatClampNeg dv = v) (hp : pc + 1 = pc')
    (k : Go K P T pc' ls (v :: st)) : Go K P T pc ls (.int j :: .ref a :: st) := by
  obtain ⟨vm0, locs, k0, X, e, hx, hc, e0, hZ, r⟩ := W
  subst hp
  obtain ⟨cl, A1, A2, A3, A4, A5, -⟩ := A
  exact Go.stp (fun t q => X.caload hx (by rw [e]; exact A1.1) (State.isArrayOf_alike hZ.alike A1.2.1) A1.2.2 (inb_of A3 hj) (A5.at (inb_of A3 hj) hv) (g := mkF K.2.2.2.1 pc ls (.int j :: .ref a :: st)) rfl rfl (hb hc.1 hd) _ q) k
/-- baload of a byte[] -/
theorem wLdB (W : Wk l Z EL own nm cd ml ret R ws h0 K sf T h cells slots) (hd : decode cd pc = .ok (.baload, 1)) {a : Addr} {kA : ClassId} {z j : Int32} {vs : List Value} {v dv : Value} (A : Arv Z h a kA .byte z vs dv) (hj : ¬ j < 0 ∧ j < z) (hv : vs.getD j.toNatClampNeg dv = v) (hp : pc + 1 = pc')
    (k : Go K P T pc' ls (v :: st)) : Go K P T pc ls (.int j :: .ref a :: st) := by
  obtain ⟨vm0, locs, k0, X, e, hx, hc, e0, hZ, r⟩ := W
  subst hp
  obtain ⟨cl, A1, A2, A3, A4, A5, -⟩ := A
  exact Go.stp (fun t q => X.baloadBytes hx (by rw [e]; exact A1.1) (State.isArrayOf_alike hZ.alike A1.2.1) A1.2.2 (inb_of A3 hj) (A5.at (inb_of A3 hj) hv) (g := mkF K.2.2.2.1 pc ls (.int j :: .ref a :: st)) rfl rfl (hb hc.1 hd) _ q) k
/-- Object.<init> -/
theorem wInitO (W : Wk l Z EL own nm cd ml ret R ws h0 K sf T h cells slots) {index : Nat} (hd : decode cd pc = .ok (.invokespecial index, 3)) (w1 : (Cond.methodLink own index Lib.objectInit).before a0 Z = true) (w2 : (Cond.instanceMethod Lib.objectInit).before a0 Z = true) (w3 : (Cond.code Lib.objectInit ⟨#[0xb1]⟩ 1 none).before a0 Z = true) {a : Addr} (hsz : ls.size = ml) (hf : 1 ≤ R.frames) (Wd : Nat) (hW : (st.map fun v => v.category).sum ≤ Wd) (hl : Wd + 12 ≤ R.locals) (hp : pc + 3 = pc')
    (k : ∀ T', Wk l Z EL own nm cd ml ret R ws h0 K sf T' h cells slots → Go K P T' pc' ls st) : Go K P T pc ls (.ref a :: st) := by
  obtain ⟨vm0, locs, k0, X, e, hx, hc, e0, hZ, hown, r⟩ := W
  subst hp
  obtain ⟨T', X', e', f⟩ := initO X hx hZ hown w1 w2 w3 e (g := mkF K.2.2.2.1 pc ls (.ref a :: st)) rfl (hsz.trans hc.2.1.symm) rfl (hb hc.1 hd) hf (W := Wd) (by show 2 * 0 + _ ≤ _; omega) hl
  exact Go.stp f (k T' ⟨vm0, locs, k0, X', e', hx, hc, e0, hZ, hown, r⟩)
/-- ldc of a String constant of EL, read -/
theorem wLdcS (W : Wk l Z EL own nm cd ml ret R ws h0 K sf T h cells slots) {text : String} {index : Nat} (hd : decode cd pc = .ok (.ldc index, 2)) (w : (Cond.stringLink own index text).before a0 Z = true) (wS : ∀ a ∈ Bundle.stringAtoms, a.before a0 Z = true) (hEL : EW Z a0 EL) (hmem : (own, index) ∈ EL)
    {vs : List Value} {z : Int32} (ht : (∀ c ∈ text.toList, c.toNat < 256) ∧ text.toList.map (fun c => Value.int (Jvm.Lit.byteI c.toNat.toUInt16)) = vs) (hz' : ¬ z < 0) (hl : z.toNatClampNeg = vs.length) {n : Nat} (hn : 4 * text.toList.length ≤ n) (hbig : n ≤ 536870912) (hc' : cells + 2 ≤ R.cells) (hl' : slots + (n + 4) ≤ R.slots) (hp : pc + 2 = pc')
    (k : ∀ T' h' a b kb, Wk l Z EL own nm cd ml ret R ws h0 K sf T' h' (cells + 2) (slots + (n + 4)) → Ext h h' → Exa Z h' a "java/lang/String" → Fld Z h' a "java/lang/String" "coder" "B" (.int 0) → Fld Z h' a "java/lang/String" "value" "[B" (.ref b) → Arv Z h' b kb .byte z vs (.int 0) → (∀ x ∈ sf, x ≠ a ∧ x ≠ b) → Go K P T' pc' ls (.ref a :: st)) : Go K P T pc ls st := by
  obtain ⟨vm0, locs, k0, X, e, hx, hc, e0, hZ, hown, hS, hk, hL, hC, hO, hE, hw, hz, hs⟩ := W
  subst hp
  obtain ⟨a, T', h', k1, b, kb, X', e', E, hS', hk', hW', hown', A, F1, F2, A2, -, -, hC', -, hne, f⟩ := ldcCH X hx hZ hown w wS e hS hk hEL hmem hC.1 ht hz' hl (g := mkF K.2.2.2.1 pc ls st) rfl (hb hc.1 hd) hn hbig hc' hl'
  have hs' : ∀ x ∈ sf, Safe Z EL T'.vm h' x ∧ x < h'.size ∧ (x ∈ ws ∨ h0.size ≤ x) := fun x q => ⟨hC'.safe (hs x q).2.1 (hs x q).1, Nat.lt_of_lt_of_le (hs x q).2.1 E.1, (hs x q).2.2⟩
  exact Go.stp f (k T' h' a b kb ⟨T'.vm, locs, k1, X', e', hx, hc, e0, hW', hown', hS', hk', hL, hC.trans hC', hO.ext E, hE, hw, hz, hs'⟩ E A F1 F2 A2 fun x q => hne x (hs' x q).1)
/-- ldc of an int -/
theorem wLdcI (W : Wk l Z EL own nm cd ml ret R ws h0 K sf T h cells slots) {index : Nat} {v : Int32} (hd : decode cd pc = .ok (.ldc index, 2)) (w : (Cond.constant own index v).before a0 Z = true) (hp : pc + 2 = pc') (k : Go K P T pc' ls (.int v :: st)) : Go K P T pc ls st := by
  obtain ⟨vm0, locs, k0, X, e, hx, hc, e0, hZ, hown, r⟩ := W
  subst hp
  exact Go.stp (fun t q => X.ldcInt hx hown (mv (s := K.2.2.1.setVm vm0) hZ w) (g := mkF K.2.2.2.1 pc ls st) rfl (hb hc.1 hd) _ q) k
/-- ldc2_w of a long -/
theorem wLdcL (W : Wk l Z EL own nm cd ml ret R ws h0 K sf T h cells slots) {index : Nat} {v : Int64} (hd : decode cd pc = .ok (.ldc2_w index, 3)) (w : (Cond.constantLong own index v).before a0 Z = true) (hp : pc + 3 = pc') (k : Go K P T pc' ls (.long v :: st)) : Go K P T pc ls st := by
  obtain ⟨vm0, locs, k0, X, e, hx, hc, e0, hZ, hown, r⟩ := W
  subst hp
  exact Go.stp (fun t q => X.ldc2Long hx hown (mv (s := K.2.2.1.setVm vm0) hZ w) (g := mkF K.2.2.2.1 pc ls st) rfl (hb hc.1 hd) _ q) k
/-- ldc of any String constant, unread -/
theorem wLdcO (W : Wk l Z EL own nm cd ml ret R ws h0 K sf T h cells slots) {text : String} {index : Nat} (hd : decode cd pc = .ok (.ldc index, 2)) (w : (Cond.stringLink own index text).before a0 Z = true) (wS : ∀ a ∈ Bundle.stringAtoms, a.before a0 Z = true) (hEL : EW Z a0 EL) {n : Nat} (hn : 4 * text.toList.length ≤ n) (hbig : n ≤ 536870912) (hc' : cells + 2 ≤ R.cells) (hl' : slots + (n + 4) ≤ R.slots) (hp : pc + 2 = pc')
    (k : ∀ T' h' a, Wk l Z EL own nm cd ml ret R ws h0 K sf T' h' (cells + 2) (slots + (n + 4)) → Ext h h' → Go K P T' pc' ls (.ref a :: st)) : Go K P T pc ls st := by
  obtain ⟨vm0, locs, k0, X, e, hx, hc, e0, hZ, hown, hS, hk, hL, hC, hO, hE, hw, hz, hs⟩ := W
  subst hp
  obtain ⟨a, T', h', k1, X', e', E, hS', hk', hW', hown', hC', -, f⟩ := ldcOH X hx hZ hown w wS e hS hk hEL hC.1 (g := mkF K.2.2.2.1 pc ls st) rfl (hb hc.1 hd) hn hbig hc' hl'
  have hs' : ∀ x ∈ sf, Safe Z EL T'.vm h' x ∧ x < h'.size ∧ (x ∈ ws ∨ h0.size ≤ x) := fun x q => ⟨hC'.safe (hs x q).2.1 (hs x q).1, Nat.lt_of_lt_of_le (hs x q).2.1 E.1, (hs x q).2.2⟩
  exact Go.stp f (k T' h' a ⟨T'.vm, locs, k1, X', e', hx, hc, e0, hW', hown', hS', hk', hL, hC.trans hC', hO.ext E, hE, hw, hz, hs'⟩ E)
end Laws
section Calls
variable {l : Launch} {Z : State} {EL : List (String × Nat)} {own nm : String} {cd : ByteArray} {ml : Nat} {ret : Option FieldType} {R : Room} {ws : List Addr} {h0 : Heap} {K : Cx} {sf : List Addr} {T : State} {h h' : Heap} {cells slots : Nat} {P : Outcome → State → Prop} {pc pc' : Nat} {ls : Array Slot} {st : List Value} {a0 : Array Value}
/-- a callee's payment, whatever has been interned -/
def Cb (l : Launch) (Z : State) (EL : List (String × Nat)) (R : Room) (K : Cx) (y : MethodName) (len Wd kc ks : Nat) (as' : Array Value) (h : Heap) (wsc : List Addr) (Q : Option Value → Heap → List Addr → Prop) : Prop :=
  ∀ vm0, Z.Warmed39 vm0 → CHv Z EL vm0 h → (∀ x ∈ wsc, Safe Z EL vm0 h x ∧ x < h.size) → BackS l R K.1 K.2.1 K.2.2.2.2.2.1 (K.2.2.1.setVm vm0) K.2.2.2.2.1 y len Wd (fun A a => a = as' ∧ A.U.heap = h ∧ A.cells + kc ≤ R.cells ∧ A.slots + ks ≤ R.slots)
    (fun A _ v B => ∃ L so, Q v B.U.heap so ∧ (∀ x ∈ so, Safe Z EL B.U.vm B.U.heap x ∧ h.size ≤ x ∧ x < B.U.heap.size) ∧ (∀ x ∈ L, x.base ∈ wsc ∨ h.size ≤ x.base) ∧ Keep h B.U.heap wsc ∧ B.locs = A.locs ++ L ∧ B.cells = A.cells + kc ∧ B.slots = A.slots + ks ∧ CHr Z EL vm0 h B.U.vm B.U.heap)
/-- by a body's contract -/
theorem Cb.ct {y : MethodName} {bytes : ByteArray} {maxL : Nat} {rt : Option FieldType} {rm : Room} {len Wd : Nat} {as' : Array Value} {wsc : List Addr} {Q : Option Value → Heap → List Addr → Prop} (C : Ct l Z EL y bytes maxL rt rm as' h wsc Q) (wc : (Cond.code y bytes maxL rt).before a0 Z = true) (wz : (Cond.initialized y.cls).before a0 Z = true) (hEL : EW Z a0 EL) (hf : rm.frames + 1 ≤ R.frames) (hl : Wd + (maxL + 11) + rm.locals ≤ R.locals) :
    Cb l Z EL R K y len Wd rm.cells rm.slots as' h wsc Q := by
  intro vm0 hZ H hsafe
  refine BackS.of_freeW (bytes := bytes) (maxL := maxL) (ret := rt) (E := fun _ first o t L k n => k = rm.cells ∧ n = rm.slots ∧ ∃ v so, o = .returned v ∧ Q v t.heap so ∧ (∀ x ∈ so, Safe Z EL t.vm t.heap x ∧ first.heap.size ≤ x ∧ x < t.heap.size) ∧ (∀ x ∈ L, x.base ∈ wsc ∨ first.heap.size ≤ x.base) ∧ CHr Z EL first.vm first.heap t.vm t.heap) (C []) hf hl
    (fun m meth c A a Y hp => have hU : Z.Warmed39 A.U.vm := wtrans (s := K.2.2.1.setVm vm0) hZ Y.warmed
      ⟨by show (Cond.and _ .tt).before a A.U = true; rw [Cond.before_and, mv hU wc]; rfl, mv hU wc, mv hU wz, hp.2.2.1, hp.2.2.2⟩)
    (fun m meth c A a g mk Y hp => ⟨hp.1, wtrans (s := K.2.2.1.setVm vm0) hZ Y.warmed, hp.2.1, (CHv.at Y hZ hEL H).1, fun x q => ⟨(CHv.at Y hZ hEL H).safe (hsafe x q).2 (hsafe x q).1, (hsafe x q).2⟩⟩) (fun _ _ _ _ _ _ _ _ _ => trivial)
    (fun _ first o t ⟨v, L, so, h1, h2, h3, h4, h5, h6⟩ => ⟨L, _, _, h6, rfl, rfl, v, so, h1, h2, h3, h4, h5⟩)
    (fun m meth c A a g mk v t L k n Y hp _ hret ⟨e1, e2, v', so, e3, e4, e5, e6, e7⟩ => ?_)
  cases e3; subst e1 e2
  have eh : (A.U.calling g mk a).heap = h := hp.2.1
  have ke := keep_of (ws := wsc) hret.2.2.2 (by simpa using e6)
  rw [eh] at ke e5 e6 e7
  exact ⟨L, so, e4, e5, e6, ke, rfl, rfl, rfl, (CHv.at Y hZ hEL H).trans e7⟩
/-- by a payer that interns nothing -/
theorem Cb.bk {y : MethodName} {len Wd kc ks : Nat} {as' : Array Value} {wsc : List Addr} {Q : Option Value → Heap → List Addr → Prop} {Qb : Option Value → Heap → List Loc → Prop}
    (B : ∀ vm0, Z.Warmed39 vm0 → Back l R K.1 K.2.1 K.2.2.2.2.2.1 (K.2.2.1.setVm vm0) K.2.2.2.2.1 y len Wd (fun A a => a = as' ∧ A.U.heap = h ∧ A.cells + kc ≤ R.cells ∧ A.slots + ks ≤ R.slots) (fun A _ v B => ∃ L, Qb v B.U.heap L ∧ B.locs = A.locs ++ L ∧ B.cells = A.cells + kc ∧ B.slots = A.slots + ks))
    (hEL : EW Z a0 EL) (hq : ∀ v h' L, Qb v h' L → Q v h' [] ∧ Keep h h' wsc ∧ ∀ x ∈ L, x.base ∈ wsc ∨ h.size ≤ x.base) : Cb l Z EL R K y len Wd kc ks as' h wsc Q := by
  intro vm0 hZ H hsafe m meth c A g ig mk a X hg hsize hdg hW hn hp
  obtain ⟨v, B', X', ⟨L, q1, q2, q3, q4⟩, st⟩ := B vm0 hZ m meth c A g ig mk a X hg hsize hdg hW hn hp
  obtain ⟨r1, r2, r3⟩ := hq v _ L q1
  have hgr : A.U.heap.size ≤ B'.U.heap.size := by rw [hp.2.1]; exact r2.1
  refine ⟨v, B', X'.retabled X'.warmed.wide, X'.warmed.since _, hgr, ⟨L, [], r1, (fun x q => nomatch q), r3, r2, q2, q3, q4, ?_⟩, st⟩
  have C1 := CHr.keep r2 (fun x q => (hsafe x q).1) H
  exact C1.trans (CHv.at X' hZ hEL C1.1)
theorem Cb.mono {y : MethodName} {len Wd kc ks kc' ks' : Nat} {as' : Array Value} {wsc : List Addr} {Q : Option Value → Heap → List Addr → Prop} (C : Cb l Z EL R K y len Wd kc ks as' h wsc Q) (h1 : kc ≤ kc') (h2 : ks ≤ ks') : Cb l Z EL R K y len Wd kc' ks' as' h wsc Q := by
  intro vm0 hZ H hs m meth c A g ig mk a X hg hsz hd hW hn hp
  obtain ⟨v, B, X', hS, hgr, ⟨L, so, q1, q2, q3, q4, q5, q6, q7, q8⟩, st⟩ := C vm0 hZ H hs m meth c A g ig mk a X hg hsz hd hW hn ⟨hp.1, hp.2.1, Nat.le_trans (Nat.add_le_add_left h1 _) hp.2.2.1, Nat.le_trans (Nat.add_le_add_left h2 _) hp.2.2.2⟩
  refine ⟨v, ⟨B.U, B.locs, A.cells + kc', A.slots + ks'⟩, ?_, hS, hgr, ⟨L, so, q1, q2, q3, q4, q5, rfl, rfl, q8⟩, st⟩
  exact X'.mono (by rw [q6]; exact Nat.add_le_add_left h1 _) (by rw [q7]; exact Nat.add_le_add_left h2 _)
theorem Cb.weak {y : MethodName} {len Wd kc ks : Nat} {as' : Array Value} {wsc : List Addr} {Q Q' : Option Value → Heap → List Addr → Prop} (C : Cb l Z EL R K y len Wd kc ks as' h wsc Q) (f : ∀ v h' so, Q v h' so → Q' v h' so) : Cb l Z EL R K y len Wd kc ks as' h wsc Q' := by
  intro vm0 hZ H hs m meth c A g ig mk a X hg hsz hd hW hn hp
  obtain ⟨v, B, X', hS, hgr, ⟨L, so, q1, r⟩, st⟩ := C vm0 hZ H hs m meth c A g ig mk a X hg hsz hd hW hn hp
  exact ⟨v, B, X', hS, hgr, ⟨L, so, f _ _ _ q1, r⟩, st⟩
theorem wAfter {vm0 : Vm} {s : State} {wsc so : List Addr} {vm1 : Vm} {locs L : List Loc} (hC : CHr Z EL s.vm h0 vm0 h) (hs : ∀ x ∈ sf, Safe Z EL vm0 h x ∧ x < h.size ∧ (x ∈ ws ∨ h0.size ≤ x)) (hL : ∀ x ∈ locs, x.base ∈ ws ∨ h0.size ≤ x.base) (hO : Old Z Z.heap.size h) (hw : ∀ x ∈ ws, Z.heap.size ≤ x) (hz : Z.heap.size ≤ h0.size) (hws : ∀ x ∈ wsc, x ∈ sf)
    (q2 : ∀ x ∈ so, Safe Z EL vm1 h' x ∧ h.size ≤ x ∧ x < h'.size) (q3 : ∀ x ∈ L, x.base ∈ wsc ∨ h.size ≤ x.base) (q4 : Keep h h' wsc) (q8 : CHr Z EL vm0 h vm1 h') :
    CHr Z EL s.vm h0 vm1 h' ∧ (∀ x ∈ so ++ sf, Safe Z EL vm1 h' x ∧ x < h'.size ∧ (x ∈ ws ∨ h0.size ≤ x)) ∧ (∀ x ∈ locs ++ L, x.base ∈ ws ∨ h0.size ≤ x.base) ∧ Old Z Z.heap.size h' := by
  have hgr : h0.size ≤ h.size := hC.2.1
  refine ⟨hC.trans q8, fun x q => ?_, fun x q => ?_, hO.keep q4 fun x q => ?_⟩
  · rcases List.mem_append.mp q with q | q
    · exact ⟨(q2 x q).1, (q2 x q).2.2, Or.inr (Nat.le_trans hgr (q2 x q).2.1)⟩
    · exact ⟨q8.safe (hs x q).2.1 (hs x q).1, Nat.lt_of_lt_of_le (hs x q).2.1 q4.1, (hs x q).2.2⟩
  · rcases List.mem_append.mp q with q | q
    · exact hL x q
    · rcases q3 x q with q | q
      · exact (hs _ (hws _ q)).2.2
      · exact Or.inr (Nat.le_trans hgr q)
  · rcases (hs _ (hws _ q)).2.2 with z | z
    · exact hw _ z
    · exact Nat.le_trans hz z
/-- invokestatic -/
theorem wStatic (W : Wk l Z EL own nm cd ml ret R ws h0 K sf T h cells slots) {y : MethodName} {index : Nat} (hd : decode cd pc = .ok (.invokestatic index, 3)) (w1 : (Cond.methodLink own index y).before a0 Z = true) (w2 : (Cond.static y).before a0 Z = true) (wz : (Cond.initialized y.cls).before a0 Z = true) {bytes : ByteArray} {maxL : Nat} {rt : Option FieldType} (wc : (Cond.code y bytes maxL rt).before a0 Z = true) (hy : y.cls ≠ "java/lang/invoke/MethodHandle" ∧ y.cls ≠ "java/lang/invoke/VarHandle")
    {Wd kc ks : Nat} {argsL rest : List Value} {wsc : List Addr} {Q : Option Value → Heap → List Addr → Prop} (C : Cb l Z EL R K y 3 Wd kc ks argsL.toArray h wsc Q) (hws : ∀ x ∈ wsc, x ∈ sf) (hsz : ls.size = ml) (hlen : ∀ sig, parseMethodDescriptor y.desc = some sig → argsL.length = sig.parameters.length) (hst : st = argsL.reverse ++ rest) (hW : (rest.map fun v => v.category).sum ≤ Wd) (hc' : cells + kc ≤ R.cells) (hl' : slots + ks ≤ R.slots) (hp : pc + 3 = pc')
    (k : ∀ v so T' h', Wk l Z EL own nm cd ml ret R ws h0 K (so ++ sf) T' h' (cells + kc) (slots + ks) → Keep h h' wsc → (∀ x ∈ so, h.size ≤ x ∧ x < h'.size) → Q v h' so → Go K P T' pc' ls (v.toList ++ rest)) : Go K P T pc ls st := by
  obtain ⟨vm0, locs, k0, X, e, hx, hc, e0, hZ, hown, hS, hk, hL, hC, hO, hE, hw, hz, hs⟩ := W
  subst hp
  obtain ⟨v, vm₁, B, -, X', hS', hgr, ⟨L, so, q1, q2, q3, q4, q5, q6, q7, q8⟩, f⟩ := callSS X hx (y := y) hown (mvT hZ w1) (mvT hZ w2) (mvT hZ wz) (mvT hZ wc) hy (C vm0 hZ hC.1 fun x q => ⟨(hs x (hws x q)).1, (hs x (hws x q)).2.1⟩) (g := mkF K.2.2.2.1 pc ls st) rfl (hsz.trans hc.2.1.symm) hlen hst (by show 2 * 0 + _ ≤ _; omega) (hb hc.1 hd) (fun _ _ => ⟨rfl, e, hc', hl'⟩)
  obtain ⟨X2, hS2, hZ2, hown2⟩ := rebS (Z := Z) (own := own) (n1 := h.size) hS hk X' hS' (by rw [← e]; exact hgr) hZ hown
  obtain ⟨a1, a2, a3, a4⟩ := wAfter (s := K.2.2.1) hC hs hL hO hw hz hws q2 q3 q4 q8
  rw [q5, q6, q7] at X2
  obtain ⟨o, U, r, q⟩ := k v so B.U B.U.heap ⟨B.U.vm, _, _, X2, rfl, hx, hc, e0, hZ2, hown2, hS2, Nat.le_refl _, a3, a1, a4, hE, hw, hz, a2⟩ q4 (fun x z => ⟨(q2 x z).2.1, (q2 x z).2.2⟩) q1
  exact ⟨o, U, f.trans r, q⟩
/-- invokespecial of a constructor -/
theorem wSpecial (W : Wk l Z EL own nm cd ml ret R ws h0 K sf T h cells slots) {y : MethodName} {index : Nat} (hd : decode cd pc = .ok (.invokespecial index, 3)) (hy1 : y.name = "<init>") (w1 : (Cond.methodLink own index y).before a0 Z = true) (w2 : (Cond.instanceMethod y).before a0 Z = true) {bytes : ByteArray} {maxL : Nat} (wc : (Cond.code y bytes maxL none).before a0 Z = true) (hy : y.cls ≠ "java/lang/invoke/MethodHandle" ∧ y.cls ≠ "java/lang/invoke/VarHandle")
    {Wd kc ks : Nat} {a : Addr} {argsL rest : List Value} {wsc : List Addr} {Q : Option Value → Heap → List Addr → Prop} (C : Cb l Z EL R K y 3 Wd kc ks (.ref a :: argsL).toArray h wsc Q) (hws : ∀ x ∈ wsc, x ∈ sf) (hsz : ls.size = ml) (hlen : ∀ sig, parseMethodDescriptor y.desc = some sig → argsL.length = sig.parameters.length) (hst : st = argsL.reverse ++ .ref a :: rest) (hW : (rest.map fun v => v.category).sum ≤ Wd) (hc' : cells + kc ≤ R.cells) (hl' : slots + ks ≤ R.slots) (hp : pc + 3 = pc')
    (k : ∀ v so T' h', Wk l Z EL own nm cd ml ret R ws h0 K (so ++ sf) T' h' (cells + kc) (slots + ks) → Keep h h' wsc → (∀ x ∈ so, h.size ≤ x ∧ x < h'.size) → Q v h' so → Go K P T' pc' ls (v.toList ++ rest)) : Go K P T pc ls st := by
  obtain ⟨vm0, locs, k0, X, e, hx, hc, e0, hZ, hown, hS, hk, hL, hC, hO, hE, hw, hz, hs⟩ := W
  subst hp
  obtain ⟨v, vm₁, B, -, X', hS', hgr, ⟨L, so, q1, q2, q3, q4, q5, q6, q7, q8⟩, f⟩ := X.specialBackS hx (y := y) hy1 hown (mvT hZ w1) (mvT hZ w2) (mvT hZ wc) hy (C vm0 hZ hC.1 fun x q => ⟨(hs x (hws x q)).1, (hs x (hws x q)).2.1⟩) (g := mkF K.2.2.2.1 pc ls st) rfl (hsz.trans hc.2.1.symm) (Steps.refl _) hlen hst (by show 2 * 0 + _ ≤ _; omega) (hb hc.1 hd) (fun _ _ => ⟨rfl, e, hc', hl'⟩)
  obtain ⟨X2, hS2, hZ2, hown2⟩ := rebS (Z := Z) (own := own) (n1 := h.size) hS hk X' hS' (by rw [← e]; exact hgr) hZ hown
  obtain ⟨a1, a2, a3, a4⟩ := wAfter (s := K.2.2.1) hC hs hL hO hw hz hws q2 q3 q4 q8
  rw [q5, q6, q7] at X2
  obtain ⟨o, U, r, q⟩ := k v so B.U B.U.heap ⟨B.U.vm, _, _, X2, rfl, hx, hc, e0, hZ2, hown2, hS2, Nat.le_refl _, a3, a1, a4, hE, hw, hz, a2⟩ q4 (fun x z => ⟨(q2 x z).2.1, (q2 x z).2.2⟩) q1
  exact ⟨o, U, f.trans r, q⟩
/-- invokevirtual on an object of exactly the class C -/
theorem wVirtual (W : Wk l Z EL own nm cd ml ret R ws h0 K sf T h cells slots) {C : String} {y z : MethodName} {index : Nat} (hd : decode cd pc = .ok (.invokevirtual index, 3)) (w1 : (Cond.methodLink own index y).before a0 Z = true) (w2 : (Cond.declares y).before a0 Z = true) (w3 : (Cond.selects C y z).before a0 Z = true) (w4 : (Cond.instanceMethod z).before a0 Z = true) (nf : ∀ s : State, Z.Warmed39 s.vm → NotFace s y) (hy : y.cls ≠ "java/lang/invoke/MethodHandle" ∧ y.cls ≠ "java/lang/invoke/VarHandle")
    {Wd kc ks : Nat} {a : Addr} {argsL rest : List Value} {wsc : List Addr} {Q : Option Value → Heap → List Addr → Prop} (Cc : Cb l Z EL R K z 3 Wd kc ks (.ref a :: argsL).toArray h wsc Q) (E : Exa Z h a C) (hws : ∀ x ∈ wsc, x ∈ sf) (hsz : ls.size = ml) (hlen : ∀ sig, parseMethodDescriptor y.desc = some sig → argsL.length = sig.parameters.length) (hst : st = argsL.reverse ++ .ref a :: rest) (hW : (rest.map fun v => v.category).sum ≤ Wd) (hc' : cells + kc ≤ R.cells) (hl' : slots + ks ≤ R.slots) (hp : pc + 3 = pc')
    (k : ∀ v so T' h', Wk l Z EL own nm cd ml ret R ws h0 K (so ++ sf) T' h' (cells + kc) (slots + ks) → Keep h h' wsc → (∀ x ∈ so, h.size ≤ x ∧ x < h'.size) → Q v h' so → Go K P T' pc' ls (v.toList ++ rest)) : Go K P T pc ls st := by
  obtain ⟨vm0, locs, k0, X, e, hx, hc, e0, hZ, hown, hS, hk, hL, hC, hO, hE, hw, hz, hs⟩ := W
  subst hp
  obtain ⟨cB, kB, i1, i2, i3⟩ := isOf (s := K.2.2.1.setVm vm0) hZ e E
  obtain ⟨v, vm₁, B, -, X', hS', hgr, ⟨L, so, q1, q2, q3, q4, q5, q6, q7, q8⟩, f⟩ := X.virtualBackS hx (y := y) (z := z) hown (mvT hZ w1) (mvT hZ w2) (nf (K.2.2.1.setVm vm0) hZ) (mvT hZ w3) (mvT hZ w4) hy (Cc vm0 hZ hC.1 fun x q => ⟨(hs x (hws x q)).1, (hs x (hws x q)).2.1⟩) i1 i3 (g := mkF K.2.2.2.1 pc ls st) rfl (hsz.trans hc.2.1.symm) (Steps.refl _) hlen hst (by show 2 * 0 + _ ≤ _; omega) (hb hc.1 hd) (fun _ _ => ⟨rfl, e, hc', hl'⟩)
  obtain ⟨X2, hS2, hZ2, hown2⟩ := rebS (Z := Z) (own := own) (n1 := h.size) hS hk X' hS' (by rw [← e]; exact hgr) hZ hown
  obtain ⟨a1, a2, a3, a4⟩ := wAfter (s := K.2.2.1) hC hs hL hO hw hz hws q2 q3 q4 q8
  rw [q5, q6, q7] at X2
  obtain ⟨o, U, r, q⟩ := k v so B.U B.U.heap ⟨B.U.vm, _, _, X2, rfl, hx, hc, e0, hZ2, hown2, hS2, Nat.le_refl _, a3, a1, a4, hE, hw, hz, a2⟩ q4 (fun x z => ⟨(q2 x z).2.1, (q2 x z).2.2⟩) q1
  exact ⟨o, U, f.trans r, q⟩
/-- invokeinterface on an object of exactly the class C -/
theorem wFace (W : Wk l Z EL own nm cd ml ret R ws h0 K sf T h cells slots) {C : String} {xi y : MethodName} {index count : Nat} (hd : decode cd pc = .ok (.invokeinterface index count, 5)) (w1 : (Cond.methodLink own index xi).before a0 Z = true) (w2 : (Cond.declares xi).before a0 Z = true) (w3 : (Cond.interfaceMethod xi.cls xi.cls xi.name xi.desc).before a0 Z = true) (w4 : (Cond.selects C xi y).before a0 Z = true) (w5 : (Cond.instanceMethod y).before a0 Z = true) (w6 : (Cond.publicMethod y).before a0 Z = true) (w7 : (Cond.unhidden C xi.name xi.desc).before a0 Z = true) (w8 : (Cond.castable C xi.cls).before a0 Z = true) (hy : xi.cls ≠ "java/lang/invoke/MethodHandle" ∧ xi.cls ≠ "java/lang/invoke/VarHandle")
    {Wd kc ks : Nat} {a : Addr} {argsL rest : List Value} {wsc : List Addr} {Q : Option Value → Heap → List Addr → Prop} (Cc : Cb l Z EL R K y 5 Wd kc ks (.ref a :: argsL).toArray h wsc Q) (E : Exa Z h a C) (hws : ∀ x ∈ wsc, x ∈ sf) (hsz : ls.size = ml) (hlen : ∀ sig, parseMethodDescriptor xi.desc = some sig → argsL.length = sig.parameters.length) (hst : st = argsL.reverse ++ .ref a :: rest) (hW : (rest.map fun v => v.category).sum ≤ Wd) (hc' : cells + kc ≤ R.cells) (hl' : slots + ks ≤ R.slots) (hp : pc + 5 = pc')
    (k : ∀ v so T' h', Wk l Z EL own nm cd ml ret R ws h0 K (so ++ sf) T' h' (cells + kc) (slots + ks) → Keep h h' wsc → (∀ x ∈ so, h.size ≤ x ∧ x < h'.size) → Q v h' so → Go K P T' pc' ls (v.toList ++ rest)) : Go K P T pc ls st := by
  obtain ⟨vm0, locs, k0, X, e, hx, hc, e0, hZ, hown, hS, hk, hL, hC, hO, hE, hw, hz, hs⟩ := W
  subst hp
  obtain ⟨cB, kB, i1, i2, i3⟩ := isOf (s := K.2.2.1.setVm vm0) hZ e E
  obtain ⟨v, vm₁, B, -, X', hS', hgr, ⟨L, so, q1, q2, q3, q4, q5, q6, q7, q8⟩, f⟩ := X.interfaceBackS hx (xi := xi) (y := y) hown (mvT hZ w1) (mvT hZ w2) (mvT hZ w3 (by simp [Cond.onTables, Cond.keepsFace, Cond.faceAtom, hy.1, hy.2])) (mvT hZ w4) (mvT hZ w5) (mvT hZ w6) (mvT hZ w7) (mvT hZ w8) hy (Cc vm0 hZ hC.1 fun x q => ⟨(hs x (hws x q)).1, (hs x (hws x q)).2.1⟩) i1 i2 i3 (g := mkF K.2.2.2.1 pc ls st) rfl (hsz.trans hc.2.1.symm) (Steps.refl _) hlen hst (by show 2 * 0 + _ ≤ _; omega) (hb hc.1 hd) (fun _ _ => ⟨rfl, e, hc', hl'⟩)
  obtain ⟨X2, hS2, hZ2, hown2⟩ := rebS (Z := Z) (own := own) (n1 := h.size) hS hk X' hS' (by rw [← e]; exact hgr) hZ hown
  obtain ⟨a1, a2, a3, a4⟩ := wAfter (s := K.2.2.1) hC hs hL hO hw hz hws q2 q3 q4 q8
  rw [q5, q6, q7] at X2
  obtain ⟨o, U, r, q⟩ := k v so B.U B.U.heap ⟨B.U.vm, _, _, X2, rfl, hx, hc, e0, hZ2, hown2, hS2, Nat.le_refl _, a3, a1, a4, hE, hw, hz, a2⟩ q4 (fun x z => ⟨(q2 x z).2.1, (q2 x z).2.2⟩) q1
  exact ⟨o, U, f.trans r, q⟩
theorem nfS {C : String} {y : MethodName} (w3 : (Cond.selects C y y).before a0 Z = true) : ∀ s : State, Z.Warmed39 s.vm → NotFace s y := fun s hZ => notFace_of_selects (args := #[]) (mvT hZ w3)
/-- the end: P's post out of the walk's last standing -/
theorem wEnd {kc ks : Nat} {v : Option Value} {Q : Option Value → Heap → List Addr → Prop} {so : List Addr} (W : Wk l Z EL own nm cd ml ret R ws h0 K sf T h cells slots) (hv : ret = none → v = none) (hk : cells ≤ kc) (hn : slots ≤ ks) (hso : ∀ x ∈ so, x ∈ sf ∧ h0.size ≤ x) (q : Q v h so)
    (stp : ∀ (vm0 : Vm) (locs : List Loc) (fs : List Frame), Stand K.1 l K.2.1 R (K.2.2.1.setVm vm0) K.2.2.2.1 K.2.2.2.2.1 K.2.2.2.2.2.1 K.2.2.2.2.2.2.1 K.2.2.2.2.2.2.2 T locs cells slots → K.1.tables.exec = Jvm.exec → K.2.2.2.2.2.2.2.code = cd → K.2.2.2.2.2.2.1.sig.returnType = ret →
      (∀ (f : JFrame) (acts : List Action), f.method = K.2.2.2.1 → f.locked = none → f.entered = [] → (doReturn K.2.1 (T.setTop f) acts v).1 = T.setFrames fs) → Steps K.1.tables K.2.1 K.2.2.2.2.2.1 (T.setTop (mkF K.2.2.2.1 pc ls st)) (T.setFrames fs)) :
    Go K (Pst Z EL ws K.2.2.1 kc ks Q) T pc ls st := by
  obtain ⟨vm0, locs, k0, X, e, hx, hc, e0, hZ, hown, hS, hk0, hL, hC, hO, ⟨a0, hE⟩, hw, hz, hs⟩ := W
  have hlk := hc.2.2.2.1
  obtain ⟨fs, f1, f2, f3, f4⟩ := X.leaveW hS (by rw [e]; exact hk0) (v := v) (fun q => hv (hc.2.2.1.symm.trans q)) hlk
  have hend := CHv.at X hZ hE hC.1
  refine ⟨.returned v, T.setFrames fs, stp vm0 locs fs X hx hc.1 hc.2.2.1 f1, f2, f3, v, locs, so, rfl, ?_, fun x z => ?_, ?_, ?_, ?_⟩
  · show Q v T.heap so
    rw [e]; exact q
  · show Safe Z EL T.vm T.heap x ∧ _ ∧ x < T.heap.size
    rw [e, e0]
    exact ⟨hend.safe (hs x (hso x z).1).2.1 (hs x (hso x z).1).1, (hso x z).2, (hs x (hso x z).1).2.1⟩
  · rw [e0]; exact hL
  · show CHr Z EL K.2.2.1.vm K.2.2.1.heap T.vm T.heap
    rw [e, e0]; exact hC.trans hend
  · obtain ⟨g1, g2, g3, g4⟩ := f4
    exact ⟨g1, g2, g3, g4.mono hk hn⟩
/-- return -/
theorem wRet0 {kc ks : Nat} {Q : Option Value → Heap → List Addr → Prop} {so : List Addr} (W : Wk l Z EL own nm cd ml none R ws h0 K sf T h cells slots) (hd : decode cd pc = .ok (.return_, 1)) (hk : cells ≤ kc) (hn : slots ≤ ks) (hso : ∀ x ∈ so, x ∈ sf ∧ h0.size ≤ x) (q : Q none h so) : Go K (Pst Z EL ws K.2.2.1 kc ks Q) T pc ls [] :=
  wEnd W (fun _ => rfl) hk hn hso q fun vm0 locs fs X hx hc hr f => X.returnOut hx hr (hb hc hd) f
/-- ireturn, of an int, a boolean, a byte, a char, a short -/
theorem wRetI {t : FieldType} {z : Int32} {kc ks : Nat} {Q : Option Value → Heap → List Addr → Prop} {so : List Addr} (W : Wk l Z EL own nm cd ml (some t) R ws h0 K sf T h cells slots) (hd : decode cd pc = .ok (.ireturn, 1)) (ht : t = .int ∨ t = .boolean ∨ t = .byte ∨ t = .char ∨ t = .short) (hnr : narrow t (.int z) = .int z) (hk : cells ≤ kc) (hn : slots ≤ ks) (hso : ∀ x ∈ so, x ∈ sf ∧ h0.size ≤ x) (q : Q (some (.int z)) h so) : Go K (Pst Z EL ws K.2.2.1 kc ks Q) T pc ls (.int z :: st) :=
  wEnd W (fun q => nomatch q) hk hn hso q fun vm0 locs fs X hx hc hr f => retOut X hx hr hnr (Or.inl ⟨rfl, ht, z, rfl⟩) (hb hc hd) f
/-- areturn -/
theorem wRetA {t : FieldType} {w : Value} {kc ks : Nat} {Q : Option Value → Heap → List Addr → Prop} {so : List Addr} (W : Wk l Z EL own nm cd ml (some t) R ws h0 K sf T h cells slots) (hd : decode cd pc = .ok (.areturn, 1)) (ht : t.isReference = true) (hw : w.isRef = true) (hnr : narrow t w = w) (hk : cells ≤ kc) (hn : slots ≤ ks) (hso : ∀ x ∈ so, x ∈ sf ∧ h0.size ≤ x) (q : Q (some w) h so) : Go K (Pst Z EL ws K.2.2.1 kc ks Q) T pc ls (w :: st) :=
  wEnd W (fun q => nomatch q) hk hn hso q fun vm0 locs fs X hx hc hr f => retOut X hx hr hnr (Or.inr (Or.inr (Or.inr (Or.inr ⟨rfl, ht, hw⟩)))) (hb hc hd) f
/-- lreturn -/
theorem wRetL {z : Int64} {kc ks : Nat} {Q : Option Value → Heap → List Addr → Prop} {so : List Addr} (W : Wk l Z EL own nm cd ml (some .long) R ws h0 K sf T h cells slots) (hd : decode cd pc = .ok (.lreturn, 1)) (hk : cells ≤ kc) (hn : slots ≤ ks) (hso : ∀ x ∈ so, x ∈ sf ∧ h0.size ≤ x) (q : Q (some (.long z)) h so) : Go K (Pst Z EL ws K.2.2.1 kc ks Q) T pc ls (.long z :: st) :=
  wEnd W (fun q => nomatch q) hk hn hso q fun vm0 locs fs X hx hc hr f => retOut X hx hr rfl (Or.inr (Or.inl ⟨rfl, rfl, z, rfl⟩)) (hb hc hd) f
end Calls
section Ints
/-- a term that is said to equal a long -/
theorem eqL_v {args : Array Value} {first s : State} {o : Option Outcome} {idx : List Nat} {t : Term} {n : Int64} (h : (Cond.eq t (.long n)).value args first o s idx = some true) : t.eval args first o idx s = some (.long n) := by
  cases ht : t.eval args first o idx s with
  | none => simp [Cond.value, Term.eval, ht] at h
  | some x => cases x <;> simp [Cond.value, Term.eval, ht] at h ⊢; exact h
theorem nar_char (x : Int32) : nar .char x = x.toUInt32.toUInt16.toUInt32.toInt32 := rfl
theorem ch255 {p v w : Int32} (e : p &&& 255 = v) (e2 : v.toUInt32.toUInt16.toUInt32.toInt32 = w) : ¬ w < 0 ∧ ¬ 255 < w ∧ nar .char w = w := by
  subst e e2
  rw [i2c_mask]
  have q := c_and p 255 (by decide)
  refine ⟨?_, ?_, ?_⟩
  · rw [Int32.lt_iff_toInt_lt]; simp only [Int32.reduceToInt]; omega
  · rw [Int32.lt_iff_toInt_lt]; have h : (255 : Int32).toInt = 255 := by decide
    omega
  · rw [nar_char, i2c_mask]
theorem i32_of {v : Int32} {n : Int} (w : Int32) (hw : w.toInt = n) (h : v.toInt = n) : v = w := Int32.toInt_inj.mp (h.trans hw.symm)
theorem and3 {x v : Int32} (e : x &&& 3 = v) : v = 0 ∨ v = 1 ∨ v = 2 ∨ v = 3 := by
  subst e
  have q := c_and x 3 (by decide)
  have h3 : (3 : Int32).toInt = 3 := by decide
  rw [h3] at q
  have : (x &&& 3).toInt = 0 ∨ (x &&& 3).toInt = 1 ∨ (x &&& 3).toInt = 2 ∨ (x &&& 3).toInt = 3 := by omega
  rcases this with h | h | h | h
  · exact Or.inl (i32_of 0 (by decide) h)
  · exact Or.inr (Or.inl (i32_of 1 (by decide) h))
  · exact Or.inr (Or.inr (Or.inl (i32_of 2 (by decide) h)))
  · exact Or.inr (Or.inr (Or.inr (i32_of 3 (by decide) h)))
theorem and7 {x v : Int32} (e : x &&& 7 = v) : v = 0 ∨ v = 1 ∨ v = 2 ∨ v = 3 ∨ v = 4 ∨ v = 5 ∨ v = 6 ∨ v = 7 := by
  subst e
  have q := c_and x 7 (by decide)
  have h7 : (7 : Int32).toInt = 7 := by decide
  rw [h7] at q
  have : (x &&& 7).toInt = 0 ∨ (x &&& 7).toInt = 1 ∨ (x &&& 7).toInt = 2 ∨ (x &&& 7).toInt = 3 ∨ (x &&& 7).toInt = 4 ∨ (x &&& 7).toInt = 5 ∨ (x &&& 7).toInt = 6 ∨ (x &&& 7).toInt = 7 := by omega
  rcases this with h | h | h | h | h | h | h | h
  · exact Or.inl (i32_of 0 (by decide) h)
  · exact Or.inr (Or.inl (i32_of 1 (by decide) h))
  · exact Or.inr (Or.inr (Or.inl (i32_of 2 (by decide) h)))
  · exact Or.inr (Or.inr (Or.inr (Or.inl (i32_of 3 (by decide) h))))
  · exact Or.inr (Or.inr (Or.inr (Or.inr (Or.inl (i32_of 4 (by decide) h)))))
  · exact Or.inr (Or.inr (Or.inr (Or.inr (Or.inr (Or.inl (i32_of 5 (by decide) h))))))
  · exact Or.inr (Or.inr (Or.inr (Or.inr (Or.inr (Or.inr (Or.inl (i32_of 6 (by decide) h)))))))
  · exact Or.inr (Or.inr (Or.inr (Or.inr (Or.inr (Or.inr (Or.inr (i32_of 7 (by decide) h)))))))
theorem ch16 {p v w : Int32} (e : p &&& 65535 = v) (e2 : v.toUInt32.toUInt16.toUInt32.toInt32 = w) : (¬ w < 0 ∧ ¬ 65535 < w) ∧ nar .char w = w := by
  have q := c_i2c v
  rw [e2] at q
  have q2 := c_i2c w
  refine ⟨⟨?_, ?_⟩, ?_⟩
  · rw [Int32.lt_iff_toInt_lt]; have : (0 : Int32).toInt = 0 := by decide
    omega
  · rw [Int32.lt_iff_toInt_lt]; have : (65535 : Int32).toInt = 65535 := by decide
    omega
  · rw [nar_char]; apply Int32.toInt_inj.mp; omega
/-- an int from 0 to 255 -/
def B8 (x : Int32) : Prop := ¬ x < 0 ∧ ¬ 255 < x
theorem B8.toInt {x : Int32} (h : B8 x) : 0 ≤ x.toInt ∧ x.toInt ≤ 255 := by
  obtain ⟨h1, h2⟩ := h
  rw [Int32.lt_iff_toInt_lt] at h1 h2
  have a : (0 : Int32).toInt = 0 := by decide
  have b : (255 : Int32).toInt = 255 := by decide
  omega
theorem B8.of {x : Int32} (h : 0 ≤ x.toInt ∧ x.toInt ≤ 255) : B8 x := by
  refine ⟨?_, ?_⟩ <;> rw [Int32.lt_iff_toInt_lt]
  · have a : (0 : Int32).toInt = 0 := by decide
    omega
  · have b : (255 : Int32).toInt = 255 := by decide
    omega
theorem B8.and {p v : Int32} (e : p &&& 255 = v) : B8 v := by
  subst e; have q := c_and p 255 (by decide)
  have b : (255 : Int32).toInt = 255 := by decide
  exact B8.of (by omega)
theorem B8.mask {x : Int32} (h : B8 x) : x &&& 255 = x := by
  have q := c_mask x 255 8 (by decide) (by decide)
  have r := h.toInt
  apply Int32.toInt_inj.mp
  rw [q]; simp only [Nat.reducePow]; omega
theorem B8.i2c {c v : Int32} (h : B8 c) (e : c.toUInt32.toUInt16.toUInt32.toInt32 = v) : v = c := by
  rw [← h.mask, i2c_mask, h.mask] at e; exact e.symm
theorem B8.i2c' {c : Int32} (h : B8 c) : c.toUInt32.toUInt16.toUInt32.toInt32 = c := h.i2c rfl
theorem B8.nar {c : Int32} (h : B8 c) : nar .char c = c := h.i2c'
theorem B8.xor {x y v : Int32} (hx : B8 x) (hy : B8 y) (e : x ^^^ y = v) : B8 v := by
  subst e
  have e1 : x ^^^ y = (x ^^^ y) &&& 255 := by
    have h1 := hx.mask; have h2 := hy.mask
    rw [← Int32.toBitVec_inj] at h1 h2 ⊢
    simp only [Int32.toBitVec_and, Int32.toBitVec_xor] at h1 h2 ⊢
    rw [← h1, ← h2]
    ext i hi
    simp only [BitVec.getElem_and, BitVec.getElem_xor]
    cases (x.toBitVec[i]) <;> cases (y.toBitVec[i]) <;> cases ((255 : Int32).toBitVec[i]) <;> rfl
  exact B8.and e1.symm
theorem and31 {p v : Int32} (e : p &&& 2147483647 = v) : 0 ≤ v.toInt := by
  subst e; exact (c_and p 2147483647 (by decide)).1
/-- the remainder of a non-negative int by a positive constant -/
theorem rem_lt {v r y : Int32} {d : Int} (h : 0 ≤ v.toInt) (e : v % y = r) (hy : y.toInt = d) (hd : 0 < d) : 0 ≤ r.toInt ∧ r.toInt < d := by
  subst e
  have q := (c_irem v y d hy).1 h
  rw [q]; exact ⟨Int.emod_nonneg _ (by omega), Int.emod_lt_of_pos _ hd⟩
theorem lt_i {x y : Int32} : x < y ↔ x.toInt < y.toInt := Int32.lt_iff_toInt_lt
theorem xor_self {x y : Int32} (h : x = x ^^^ y) : y = 0 := by
  have h2 : x ^^^ x = x ^^^ (x ^^^ y) := congrArg (fun t => x ^^^ t) h
  rw [Int32.xor_self, ← Int32.xor_assoc, Int32.xor_self, Int32.zero_xor] at h2
  exact h2.symm
end Ints
section Refs0
variable {l : Launch} {Z : State} {EL : List (String × Nat)} {own nm : String} {cd : ByteArray} {ml : Nat} {ret : Option FieldType} {R : Room} {ws : List Addr} {h0 : Heap} {K : Cx} {sf : List Addr} {T : State} {h h' : Heap} {cells slots : Nat} {P : Outcome → State → Prop} {pc pc' : Nat} {ls : Array Slot} {st : List Value} {a0 : Array Value}
/-- checkcast of null -/
theorem wCastN (W : Wk l Z EL own nm cd ml ret R ws h0 K sf T h cells slots) {index : Nat} (hd : decode cd pc = .ok (.checkcast index, 3)) (hp : pc + 3 = pc')
    (k : Go K P T pc' ls (.null :: st)) : Go K P T pc ls (.null :: st) := by
  obtain ⟨vm0, locs, k0, X, e, hx, hc, r⟩ := W
  subst hp
  exact Go.stp (fun t q => X.checkcastNull hx (g := mkF K.2.2.2.1 pc ls (.null :: st)) rfl rfl (hb hc.1 hd) _ q) k
end Refs0
section Refs
variable {Z : State} {h h' : Heap} {v : Value} {C : String} {ws : List Addr}
/-- null, or an object of exactly the class C -/
def RefS (Z : State) (h : Heap) (v : Value) (C : String) : Prop := v = .null ∨ ∃ r, v = .ref r ∧ Exa Z h r C
theorem RefS.isRef (F : RefS Z h v C) : v.isRef = true := by rcases F with rfl | ⟨r, rfl, -⟩ <;> rfl
theorem RefS.ext (F : RefS Z h v C) (E : Ext h h') : RefS Z h' v C := F.imp id fun ⟨r, q, A⟩ => ⟨r, q, A.ext E⟩
theorem RefS.wr {a : Addr} {sl : Nat} {u : Value} (F : RefS Z h v C) (W : Wr h h' a sl u) : RefS Z h' v C := F.imp id fun ⟨r, q, A⟩ => ⟨r, q, A.wr W⟩
theorem RefS.keep (F : RefS Z h v C) (K : Keep h h' ws) : RefS Z h' v C := F.imp id fun ⟨r, q, A⟩ => ⟨r, q, A.keep K⟩
theorem RefS.of {r : Addr} (A : Exa Z h r C) : RefS Z h (.ref r) C := Or.inr ⟨r, rfl, A⟩
theorem RefS.null : RefS Z h .null C := Or.inl rfl
theorem catR (hv : v.isRef = true) : v.category = 1 := by rcases ref_cases hv with rfl | ⟨r, rfl⟩ <;> rfl
/-- what 'x == null ? y : x' gives -/
def selV (x y : Value) : Value := match x with | .null => y | v => v
theorem RefS.sel {u : Value} (F : RefS Z h v C) (G : RefS Z h u C) : RefS Z h (selV v u) C := by
  rcases F with rfl | ⟨r, rfl, A⟩
  · exact G
  · exact Or.inr ⟨r, rfl, A⟩
theorem narR {t : FieldType} (hv : v.isRef = true) (ht : t.isReference = true := by rfl) : narrow t v = v := by
  rcases ref_cases hv with rfl | ⟨r, rfl⟩ <;> cases t <;> rfl
theorem fitR {t : FieldType} (hv : v.isRef = true) (ht : t.isReference = true := by rfl) : fits t v = true := by
  rcases ref_cases hv with rfl | ⟨r, rfl⟩ <;> cases t <;> first | rfl | cases ht
end Refs
section Refs2
variable {l : Launch} {Z : State} {EL : List (String × Nat)} {own nm : String} {cd : ByteArray} {ml : Nat} {ret : Option FieldType} {R : Room} {ws : List Addr} {h0 : Heap} {K : Cx} {sf : List Addr} {T : State} {h h' : Heap} {cells slots : Nat} {P : Outcome → State → Prop} {pc pc' : Nat} {ls : Array Slot} {st : List Value} {a0 : Array Value}
/-- checkcast of null or of an object of that very class -/
theorem wCastR (W : Wk l Z EL own nm cd ml ret R ws h0 K sf T h cells slots) {C : String} {index : Nat} (hd : decode cd pc = .ok (.checkcast index, 3)) (w : (Cond.classLink own index C).before a0 Z = true) {v : Value} (F : RefS Z h v C) (hp : pc + 3 = pc')
    (k : ∀ T', Wk l Z EL own nm cd ml ret R ws h0 K sf T' h cells slots → Go K P T' pc' ls (v :: st)) : Go K P T pc ls (v :: st) := by
  rcases F with rfl | ⟨r, rfl, A⟩
  · exact wCastN W hd hp (k T W)
  · exact wCast W hd w (Ins.self A) hp k
end Refs2
section More
variable {l : Launch} {Z : State} {EL : List (String × Nat)} {own nm : String} {cd : ByteArray} {ml : Nat} {ret : Option FieldType} {R : Room} {ws : List Addr} {h0 : Heap} {K : Cx} {sf : List Addr} {T : State} {h h' : Heap} {cells slots : Nat} {P : Outcome → State → Prop} {pc pc' : Nat} {ls : Array Slot} {st : List Value} {a0 : Array Value}
/-- clone of an array -/
theorem wClone (W : Wk l Z EL own nm cd ml ret R ws h0 K sf T h cells slots) {ad : String} {index : Nat} (hd : decode cd pc = .ok (.invokevirtual index, 3)) (w1 : (Cond.methodLink own index ⟨ad, "clone", "()Ljava/lang/Object;"⟩).before a0 Z = true) (w2 : (Cond.sameMethod ad "java/lang/Object" "clone" "()Ljava/lang/Object;").before a0 Z = true) (w3 : (Cond.native ⟨"java/lang/Object", "clone", "()Ljava/lang/Object;"⟩).before a0 Z = true) (w4 : (Cond.instanceMethod ⟨"java/lang/Object", "clone", "()Ljava/lang/Object;"⟩).before a0 Z = true) (w5 : (Cond.selects ad ⟨ad, "clone", "()Ljava/lang/Object;"⟩ ⟨"java/lang/Object", "clone", "()Ljava/lang/Object;"⟩).before a0 Z = true) (w6 : (Cond.castable ad "java/lang/Cloneable").before a0 Z = true)
    {a : Addr} {kA : ClassId} {ty : FieldType} {z : Int32} {vs : List Value} {dv : Value} (F : Arv Z h a kA ty z vs dv) (E : Exa Z h a ad) (hsz : ls.size = ml) (hf : 1 ≤ R.frames) (Wd : Nat) (hW : (st.map fun v => v.category).sum ≤ Wd) (hl : Wd + 14 ≤ R.locals) (cap : Nat) (hcap : z.toNatClampNeg ≤ cap) (hc' : cells + 1 ≤ R.cells) (hsl : slots + cap ≤ R.slots) (hp : pc + 3 = pc')
    (k : ∀ T' h' a', Wk l Z EL own nm cd ml ret R ws h0 K (a' :: sf) T' h' (cells + 1) (slots + cap) → Ext h h' → a' = h.size → Arv Z h' a' kA ty z vs dv → Exa Z h' a' ad → Go K P T' pc' ls (.ref a' :: st)) : Go K P T pc ls (.ref a :: st) := by
  have hg := W.grow
  obtain ⟨vm0, locs, k0, X, e, hx, hc, e0, hZ, hown, hS, hk, hL, hC, hO, hE, hw, hz, hs⟩ := W
  subst hp
  obtain ⟨T', h', X', e', Ex, A, E', f⟩ := cloneH X hx hZ hown w1 w2 w3 w4 w5 w6 e F.arh E (g := mkF K.2.2.2.1 pc ls (.ref a :: st)) rfl (hsz.trans hc.2.1.symm) rfl (hb hc.1 hd) hf (W := Wd) (by show 2 * 0 + _ ≤ _; omega) hl hcap hc' hsl
  obtain ⟨hC', hs'⟩ := wExt (s := K.2.2.1) hC hs Ex
  refine Go.stp f (k T' h' h.size ⟨vm0, locs, k0, X', e', hx, hc, e0, hZ, hown, hS, Nat.le_trans hk Ex.1, hL, hC', hO.ext Ex, hE, hw, hz, fun x q => ?_⟩ Ex rfl A E')
  rcases List.mem_cons.mp q with rfl | q
  · exact ⟨Safe.ext Ex hC.1 (Safe.new (Nat.le_refl _)), E'.lt, Or.inr hg⟩
  · exact hs' x q
/-- aaload -/
theorem wLdA (W : Wk l Z EL own nm cd ml ret R ws h0 K sf T h cells slots) (hd : decode cd pc = .ok (.aaload, 1)) {a : Addr} {kA : ClassId} {ty : FieldType} (ht : ty.isReference = true) {z j : Int32} {vs : List Value} {v dv : Value} (A : Arv Z h a kA ty z vs dv) (hj : ¬ j < 0 ∧ j < z) (hv : vs.getD j.toNatClampNeg dv = v) (hp : pc + 1 = pc')
    (k : Go K P T pc' ls (v :: st)) : Go K P T pc ls (.int j :: .ref a :: st) := by
  obtain ⟨vm0, locs, k0, X, e, hx, hc, e0, hZ, r⟩ := W
  subst hp
  obtain ⟨cl, A1, A2, A3, A4, A5, -⟩ := A
  exact Go.stp (fun t q => X.aaload hx (by rw [e]; exact A1.1) (State.isArrayOf_alike hZ.alike A1.2.1) ht A1.2.2 (inb_of A3 hj) (A5.at (inb_of A3 hj) hv) (g := mkF K.2.2.2.1 pc ls (.int j :: .ref a :: st)) rfl rfl (hb hc.1 hd) _ q) k
/-- the places that a step may have written: at a cell b alone, where all others are kept -/
theorem locsAt {p : Program} {e : Env} {s : State} {m : MethodId} {args : Array Value} {below : List Frame} {meth : Method} {c : Code} {T' : State} {locs L : List Loc} {b : Addr} (X : Stand p l e R s m args below meth c T locs cells slots) (X' : Stand p l e R s m args below meth c T' L cells slots) (Ke : Keep T.heap T'.heap [b]) (n : Nat) (hn : ∀ c, T.heap[b]? = some c → c.slots.size ≤ n) :
    Stand p l e R s m args below meth c T' (locs ++ (List.range n).map fun i => (⟨b, i⟩ : Loc)) cells slots := by
  refine ⟨X'.admits, X'.cas, X'.clock, X'.frames, X'.room, X'.hears, X'.method, X'.code, X'.here, X'.tail, X'.warmed, X'.limits, X'.bytes, ?_⟩
  obtain ⟨p1, p2, p3, p4, p5, p6⟩ := X'.same
  obtain ⟨-, -, -, -, -, r6⟩ := X.same
  refine ⟨p1, p2, p3, p4, p5, fun a c hc => ?_⟩
  obtain ⟨c', q1, q2, q3, -⟩ := p6 a c hc
  refine ⟨c', q1, q2, q3, fun i hi => ?_⟩
  obtain ⟨c1, s1, s2, s3, s4⟩ := r6 a c hc
  by_cases hab : a = b
  · subst hab
    by_cases hlt : i < n
    · exact absurd (List.mem_append_right _ (List.mem_map.mpr ⟨i, List.mem_range.mpr hlt, rfl⟩)) hi
    · have hc1 : c1.slots.size ≤ n := hn c1 s1
      rw [Array.getElem?_eq_none (by omega), Array.getElem?_eq_none (by omega)]
  · have hk := Ke.2.1 a c1 s1 (by simp [hab])
    have : c' = c1 := Option.some.inj (q1.symm.trans hk)
    rw [this]
    exact s4 i (fun hm => hi (List.mem_append_left _ hm))
/-- System.arraycopy of numbers, between two arrays of one kind -/
theorem wCopy (W : Wk l Z EL own nm cd ml ret R ws h0 K sf T h cells slots) {index : Nat} (hd : decode cd pc = .ok (.invokestatic index, 3)) (w1 : (Cond.methodLink own index Jvm.Stand.acN).before a0 Z = true) (w2 : (Cond.native Jvm.Stand.acN).before a0 Z = true) (w3 : (Cond.static Jvm.Stand.acN).before a0 Z = true) (w4 : (Cond.initialized "java/lang/System").before a0 Z = true)
    {a b : Addr} (hb' : b ∈ sf) {k k' : ClassId} {ty : FieldType} {z z' sp dp nn : Int32} {vs vd us : List Value} {dv dd : Value} (A : Arv Z h a k ty z vs dv) (B : Arv Z h b k' ty z' vd dd) (hty : refKind ty = false) (h1 : ¬ sp < 0) (h2 : ¬ dp < 0) (h3 : ¬ nn < 0) (zN zN' spN dpN nN : Nat) (e1 : z.toNatClampNeg = zN) (e2 : z'.toNatClampNeg = zN') (e3 : sp.toNatClampNeg = spN) (e4 : dp.toNatClampNeg = dpN) (e5 : nn.toNatClampNeg = nN) (h4 : spN + nN ≤ zN) (h5 : dpN + nN ≤ zN')
    (hus : us = (List.range nN).map fun i => vs.getD (spN + i) dv) (hl : dpN + nN ≤ vd.length) (hsz : ls.size = ml) (hf : 1 ≤ R.frames) (Wd : Nat) (hW : (st.map fun v => v.category).sum ≤ Wd) (hlo : Wd + (nativeFrameWords "java/lang/System" "arraycopy" 5 + 11) ≤ R.locals) (hp : pc + 3 = pc')
    (kk : ∀ T' h', Wk l Z EL own nm cd ml ret R ws h0 K sf T' h' cells slots → Keep h h' [b] → Arv Z h' b k' ty z' (vd.take dpN ++ us ++ vd.drop (dpN + nN)) dd → Go K P T' pc' ls st) : Go K P T pc ls (.int nn :: .int dp :: .ref b :: .int sp :: .ref a :: st) := by
  subst e1 e2 e3 e4 e5
  obtain ⟨vm0, locs, k0, X, e, hx, hc, e0, hZ, hown, hS, hk, hL, hC, hO, hE, hw, hz, hs⟩ := W
  subst hp
  obtain ⟨T', h', L, X', e', -, Ke, B', f⟩ := cpA X hx hZ hown w1 w2 w3 w4 e A B (Or.inl ⟨rfl, hty⟩) h1 h2 h3 h4 h5 hus hl (n0 := 0) (fun _ _ => Nat.zero_le _) (Nat.zero_le _) (g := mkF K.2.2.2.1 pc ls (.int nn :: .int dp :: .ref b :: .int sp :: .ref a :: st)) rfl (hsz.trans hc.2.1.symm) rfl (hb hc.1 hd) hf (W := Wd) (by show 2 * 0 + _ ≤ _; omega) hlo
  obtain ⟨s1, s2, s3⟩ := hs b hb'
  obtain ⟨cl, B1, -, B3, -⟩ := B
  have X2 := locsAt X X' (by rw [e, e']; exact Ke) z'.toNatClampNeg (fun c hc => by rw [e] at hc; cases hc.symm.trans B1.1; exact Nat.le_of_eq B3)
  have C1 : CHr Z EL vm0 h vm0 h' := CHr.keep Ke (fun x q => by cases List.mem_singleton.mp q; exact s1) hC.1
  obtain ⟨a1, a2, a3, a4⟩ := wAfter (s := K.2.2.1) (so := []) (wsc := [b]) (L := (List.range z'.toNatClampNeg).map fun i => (⟨b, i⟩ : Loc)) hC hs hL hO hw hz (fun x q => by cases List.mem_singleton.mp q; exact hb') (fun x q => nomatch q) (fun x q => Or.inl (by obtain ⟨i, -, rfl⟩ := List.mem_map.mp q; exact List.mem_singleton.mpr rfl)) Ke C1
  exact Go.stp f (kk T' h' ⟨vm0, _, k0, X2, e', hx, hc, e0, hZ, hown, hS, Nat.le_trans hk Ke.1, a3, a1, a4, hE, hw, hz, a2⟩ Ke B')
end More
section Starts
/-- a term that is said to equal an int -/
theorem eqI_v {args : Array Value} {first s : State} {o : Option Outcome} {idx : List Nat} {t : Term} {n : Int32} (h : (Cond.eq t (.int n)).value args first o s idx = some true) : t.eval args first o idx s = some (.int n) := by
  cases ht : t.eval args first o idx s with
  | none => simp [Cond.value, Term.eval, ht] at h
  | some x => cases x <;> simp [Cond.value, Term.eval, ht] at h ⊢; exact h
/-- a term that is said to equal one that is an object -/
theorem eqR_v {args : Array Value} {first s : State} {o : Option Outcome} {idx : List Nat} {t u : Term} {r : Addr} (h : (Cond.eq t u).value args first o s idx = some true) (hu : u.eval args first o idx s = some (.ref r)) : t.eval args first o idx s = some (.ref r) := by
  cases ht : t.eval args first o idx s with
  | none => simp [Cond.value, ht] at h
  | some x => cases x <;> simp [Cond.value, hu, ht] at h ⊢; exact h
theorem arvStart {Z : State} {args : Array Value} {t : Term} {a : Addr} {ty : FieldType} {z : Int32} {vs : List Value} {dv : Value} (hf : Fit Z) (ev : t.eval args Z none [] Z = some (.ref a)) (hx : (Cond.arrayOf t ty).value args Z none Z [] = some true) (hlen : (Cond.eq (Term.length t) (.int z)).value args Z none Z [] = some true) (hz : ¬ z < 0) (hl : z.toNatClampNeg = vs.length) (H : ∀ cl, Z.heap[a]? = some cl → HasL cl 0 vs) : ∃ k, Arv Z Z.heap a k ty z vs dv := by
  obtain ⟨c, A⟩ := Arr.start ev hx
  have hL := eqI_v hlen
  simp only [Term.eval, ev, Option.bind_eq_bind, Option.bind_some] at hL
  obtain ⟨cl, hc, h2⟩ := Option.bind_eq_some_iff.mp hL
  by_cases hn : cl.slots.size < 2147483648
  · rw [if_pos hn] at h2
    have e1 : Z.heap[a]? = some cl := (State.arrayAt?_spec hc).1
    have e2 : cl.slots.size.toInt32 = z := by have q := Option.some.inj h2; injection q
    have e3 : cl = c := Option.some.inj (e1.symm.trans A.1)
    subst e3
    exact ⟨_, Arv.start hf A hn e2 hz hl (H _ A.1)⟩
  · rw [if_neg hn] at h2; cases h2
/-- an element, read -/
theorem elem_h {Z : State} {args : Array Value} {t : Term} {a : Addr} {j : Int32} {v : Value} {cl : Cell} (ev : t.eval args Z none [] Z = some (.ref a)) (he : (Term.elem t (.int j)).eval args Z none [] Z = some v) (hc : Z.heap[a]? = some cl) (i : Nat) (hi : j.toNatClampNeg = i) : cl.slots[i]? = some v := hi ▸ (elem_in he ev (Term.int_eval j) hc).2
end Starts
end Jvm.Own
namespace Jvm.Own
open Jvm Sem ClassFile Op Lib Jvm.Stand Jvm.Free Jvm.LawKit Jvm.RoadKit Bundle
section Own3
variable {l : Launch} {Z : State} {EL : List (String × Nat)} {own nm : String} {cd : ByteArray} {ml : Nat} {ret : Option FieldType} {R : Room} {ws : List Addr} {h0 : Heap} {K : Cx} {sf : List Addr} {T : State} {h h' : Heap} {cells slots : Nat} {P : Outcome → State → Prop} {pc pc' : Nat} {ls : Array Slot} {st : List Value} {a0 : Array Value}
theorem selSelf {D : String} {y : MethodName} (hy : y.cls ≠ "java/lang/invoke/MethodHandle" ∧ y.cls ≠ "java/lang/invoke/VarHandle") (w2 : (Cond.instanceMethod y).before a0 Z = true) (w3 : (Cond.selects D y y).before a0 Z = true) (w4 : (Cond.privateMethod y).before a0 Z = true) : (Cond.selects y.cls y y).before a0 Z = true := by
  obtain ⟨mk, methM, hnamed, hmethM, -, -⟩ := Cond.instanceMethod_spec w2
  obtain ⟨c2, r2, m2, -, -, q3, -, kP, hkP, hkPi⟩ := Cond.selects_spec w3
  cases hnamed.symm.trans q3
  have hcn := findClass_of_methodNamed hnamed
  have hf := State.methodFound?_of_named hnamed hy
  have hsel : selectMethod {} Z.vm mk.cls mk = .method mk := selectMethod_private hmethM (Cond.privateMethod_at w4 mk methM hnamed hmethM)
  simp [Cond.before, Cond.holds, Cond.value, hcn, hf, hnamed, hsel, hkP, hkPi]
theorem sameSelf {D : String} {x y z : MethodName} (hy : y.cls ≠ "java/lang/invoke/MethodHandle" ∧ y.cls ≠ "java/lang/invoke/VarHandle") (w2 : (Cond.instanceMethod y).before a0 Z = true) (w3 : (Cond.selects D x z).before a0 Z = true) (hz : z.cls = y.cls) : (Cond.sameMethod y.cls y.cls y.name y.desc).before a0 Z = true := by
  obtain ⟨mk, methM, hnamed, hmethM, -, -⟩ := Cond.instanceMethod_spec w2
  obtain ⟨c2, r2, m2, -, -, q3, -, kP, hkP, hkPi⟩ := Cond.selects_spec w3
  have hcn := findClass_of_methodNamed hnamed
  have hcz := findClass_of_methodNamed q3
  rw [hz] at hcz
  have e : m2.cls = mk.cls := Option.some.inj (hcz.symm.trans hcn)
  rw [e] at hkP
  have hf := State.methodFound?_of_named hnamed hy
  have hn' : Z.methodNamed? ⟨y.cls, y.name, y.desc⟩ = some mk := hnamed
  simp [Cond.before, Cond.holds, Cond.value, hcn, hf, hn', hkP, hkPi]
theorem nfC {D : String} {x z y : MethodName} (w3 : (Cond.selects D x z).before a0 Z = true) (hz : z.cls = y.cls) : ∀ s : State, Z.Warmed39 s.vm → NotFace s y := fun s hZ r0 h0 => by
  obtain ⟨c2, r2, m2, q1, q2, q3, q4, kP, hkP, hkPi⟩ := Cond.selects_spec (show (Cond.selects D x z).before #[] s = true from mvT hZ w3)
  have e1 := findClass_of_methodNamed h0
  have e2 := findClass_of_methodNamed q3
  rw [hz] at e2
  have e : m2.cls = r0.cls := Option.some.inj (e2.symm.trans e1)
  exact ⟨kP, by rw [← e]; exact hkP, hkPi⟩
/-- an array's list, said otherwise -/
theorem arvL {a : Addr} {k : ClassId} {ty : FieldType} {z : Int32} {vs vs' : List Value} {d : Value} (A : Arv Z h a k ty z vs d) (e : vs = vs') : Arv Z h a k ty z vs' d := by subst e; exact A
/-- invokevirtual of a private method -/
theorem wPrivate (W : Wk l Z EL own nm cd ml ret R ws h0 K sf T h cells slots) {C D : String} {y : MethodName} {index : Nat} (hd : decode cd pc = .ok (.invokevirtual index, 3)) (w1 : (Cond.methodLink own index y).before a0 Z = true) (w2 : (Cond.instanceMethod y).before a0 Z = true) (w3 : (Cond.selects D y y).before a0 Z = true) (w4 : (Cond.privateMethod y).before a0 Z = true) {bytes : ByteArray} {maxL : Nat} {rt : Option FieldType} (wc : (Cond.code y bytes maxL rt).before a0 Z = true) (hy : y.cls ≠ "java/lang/invoke/MethodHandle" ∧ y.cls ≠ "java/lang/invoke/VarHandle")
    {Wd kc ks : Nat} {a : Addr} {argsL rest : List Value} {wsc : List Addr} {Q : Option Value → Heap → List Addr → Prop} (Cc : Cb l Z EL R K y 3 Wd kc ks (.ref a :: argsL).toArray h wsc Q) (E : Exa Z h a C) (hws : ∀ x ∈ wsc, x ∈ sf) (hsz : ls.size = ml) (hlen : ∀ sig, parseMethodDescriptor y.desc = some sig → argsL.length = sig.parameters.length) (hst : st = argsL.reverse ++ .ref a :: rest) (hW : (rest.map fun v => v.category).sum ≤ Wd) (hc' : cells + kc ≤ R.cells) (hl' : slots + ks ≤ R.slots) (hp : pc + 3 = pc')
    (k : ∀ v so T' h', Wk l Z EL own nm cd ml ret R ws h0 K (so ++ sf) T' h' (cells + kc) (slots + ks) → Keep h h' wsc → (∀ x ∈ so, h.size ≤ x ∧ x < h'.size) → Q v h' so → Go K P T' pc' ls (v.toList ++ rest)) : Go K P T pc ls st := by
  have w5 := selSelf hy w2 w3 w4
  obtain ⟨vm0, locs, k0, X, e, hx, hc, e0, hZ, hown, hS, hk, hL, hC, hO, hE, hw, hz, hs⟩ := W
  subst hp
  obtain ⟨cB, kB, i1, i2, cell, i4, i5, i6⟩ := isOf (s := K.2.2.1.setVm vm0) hZ e E
  obtain ⟨v, vm₁, B, -, X', hS', hgr, ⟨L, so, q1, q2, q3, q4, q5, q6, q7, q8⟩, f⟩ := X.privateBackS hx (y := y) hown (mvT hZ w1) (mvT hZ w2) (mvT hZ w5) (Cond.privateMethod_at (args := #[]) (mvT hZ w4)) (mvT hZ wc) hy (Cc vm0 hZ hC.1 fun x q => ⟨(hs x (hws x q)).1, (hs x (hws x q)).2.1⟩) (g := mkF K.2.2.2.1 pc ls st) rfl (hsz.trans hc.2.1.symm) (Steps.refl _) i4 (fun q z => by rw [z] at i6; cases i6) hlen hst (by show 2 * 0 + _ ≤ _; omega) (hb hc.1 hd) (fun _ _ => ⟨rfl, e, hc', hl'⟩)
  obtain ⟨X2, hS2, hZ2, hown2⟩ := rebS (Z := Z) (own := own) (n1 := h.size) hS hk X' hS' (by rw [← e]; exact hgr) hZ hown
  obtain ⟨a1, a2, a3, a4⟩ := wAfter (s := K.2.2.1) hC hs hL hO hw hz hws q2 q3 q4 q8
  rw [q5, q6, q7] at X2
  obtain ⟨o, U, r, q⟩ := k v so B.U B.U.heap ⟨B.U.vm, _, _, X2, rfl, hx, hc, e0, hZ2, hown2, hS2, Nat.le_refl _, a3, a1, a4, hE, hw, hz, a2⟩ q4 (fun x z => ⟨(q2 x z).2.1, (q2 x z).2.2⟩) q1
  exact ⟨o, U, f.trans r, q⟩
/-- invokespecial of the superclass's method -/
theorem wSuper (W : Wk l Z EL own nm cd ml ret R ws h0 K sf T h cells slots) {C D : String} {x y z : MethodName} {index : Nat} (hd : decode cd pc = .ok (.invokespecial index, 3)) (w1 : (Cond.methodLink own index y).before a0 Z = true) (w2 : (Cond.instanceMethod y).before a0 Z = true) (w3 : (Cond.selects D x z).before a0 Z = true) (hzc : z.cls = y.cls) (w4 : (Cond.superclass own y.cls).before a0 Z = true) (hn : y.name ≠ "<init>") {bytes : ByteArray} {maxL : Nat} {rt : Option FieldType} (wc : (Cond.code y bytes maxL rt).before a0 Z = true) (hy : y.cls ≠ "java/lang/invoke/MethodHandle" ∧ y.cls ≠ "java/lang/invoke/VarHandle")
    {Wd kc ks : Nat} {a : Addr} {argsL rest : List Value} {wsc : List Addr} {Q : Option Value → Heap → List Addr → Prop} (Cc : Cb l Z EL R K y 3 Wd kc ks (.ref a :: argsL).toArray h wsc Q) (E : Exa Z h a C) (hws : ∀ x ∈ wsc, x ∈ sf) (hsz : ls.size = ml) (hlen : ∀ sig, parseMethodDescriptor y.desc = some sig → argsL.length = sig.parameters.length) (hst : st = argsL.reverse ++ .ref a :: rest) (hW : (rest.map fun v => v.category).sum ≤ Wd) (hc' : cells + kc ≤ R.cells) (hl' : slots + ks ≤ R.slots) (hp : pc + 3 = pc')
    (k : ∀ v so T' h', Wk l Z EL own nm cd ml ret R ws h0 K (so ++ sf) T' h' (cells + kc) (slots + ks) → Keep h h' wsc → (∀ x ∈ so, h.size ≤ x ∧ x < h'.size) → Q v h' so → Go K P T' pc' ls (v.toList ++ rest)) : Go K P T pc ls st := by
  have w5 := sameSelf hy w2 w3 hzc
  obtain ⟨vm0, locs, k0, X, e, hx, hc, e0, hZ, hown, hS, hk, hL, hC, hO, hE, hw, hz, hs⟩ := W
  subst hp
  obtain ⟨v, vm₁, B, -, X', hS', hgr, ⟨L, so, q1, q2, q3, q4, q5, q6, q7, q8⟩, f⟩ := superBackS X hx hZ (y := y) hown w1 w5 w2 w4 hn (Cc vm0 hZ hC.1 fun x q => ⟨(hs x (hws x q)).1, (hs x (hws x q)).2.1⟩) e (Ins.self E) (g := mkF K.2.2.2.1 pc ls st) rfl (hsz.trans hc.2.1.symm) wc hlen hst (by show 2 * 0 + _ ≤ _; omega) (hb hc.1 hd) (fun _ _ => ⟨rfl, e, hc', hl'⟩)
  obtain ⟨X2, hS2, hZ2, hown2⟩ := rebS (Z := Z) (own := own) (n1 := h.size) hS hk X' hS' (by rw [← e]; exact hgr) hZ hown
  obtain ⟨a1, a2, a3, a4⟩ := wAfter (s := K.2.2.1) hC hs hL hO hw hz hws q2 q3 q4 q8
  rw [q5, q6, q7] at X2
  obtain ⟨o, U, r, q⟩ := k v so B.U B.U.heap ⟨B.U.vm, _, _, X2, rfl, hx, hc, e0, hZ2, hown2, hS2, Nat.le_refl _, a3, a1, a4, hE, hw, hz, a2⟩ q4 (fun x z => ⟨(q2 x z).2.1, (q2 x z).2.2⟩) q1
  exact ⟨o, U, f.trans r, q⟩
/-- newarray, and the array's class -/
theorem wNewE (W : Wk l Z EL own nm cd ml ret R ws h0 K sf T h cells slots) {aty : ArrayType} (hd : decode cd pc = .ok (.newarray aty, 2)) (w : (Cond.arrayClass (newarray.typeOf aty)).before a0 Z = true) {n : Int32} (hn : ¬ n < 0) {cap : Nat} (hcap : n.toNatClampNeg ≤ cap) (hbig : cap * 8 ≤ 536870912) (hc' : cells + 1 ≤ R.cells) (hl : slots + cap ≤ R.slots) {ad : String} (had : "[" ++ (newarray.typeOf aty).toString = ad) (hp : pc + 2 = pc')
    (k : ∀ T' h' a cA, Wk l Z EL own nm cd ml ret R ws h0 K (a :: sf) T' h' (cells + 1) (slots + cap) → Ext h h' → a = h.size → (∀ m : Nat, Arv Z h' a cA (newarray.typeOf aty) n (List.replicate m (defaultValue (newarray.typeOf aty))) (defaultValue (newarray.typeOf aty))) → Exa Z h' a ad → Go K P T' pc' ls (.ref a :: st)) : Go K P T pc ls (.int n :: st) := by
  have hg := W.grow
  obtain ⟨vm0, locs, k0, X, e, hx, hc, e0, hZ, hown, hS, hk, hL, hC, hO, hE, hw, hz, hs⟩ := W
  subst hp
  obtain ⟨T', h', cA, X', e', E, A, A2, f⟩ := newPE X hx hZ w e (g := mkF K.2.2.2.1 pc ls (.int n :: st)) rfl (hb hc.1 hd) rfl hn hcap hbig hc' hl had
  obtain ⟨hC', hs'⟩ := wExt (s := K.2.2.1) hC hs E
  have F := Arv.new A hn
  refine Go.stp f (k T' h' h.size cA ⟨vm0, locs, k0, X', e', hx, hc, e0, hZ, hown, hS, Nat.le_trans hk E.1, hL, hC', hO.ext E, hE, hw, hz, fun x q => ?_⟩ E rfl (fun m => F.pad (pad_rep [] _ m)) A2)
  rcases List.mem_cons.mp q with rfl | q
  · exact ⟨Safe.ext E hC.1 (Safe.new (Nat.le_refl _)), A.lt, Or.inr hg⟩
  · exact hs' x q
end Own3
end Jvm.Own
/- laws to paste: Road.backV, Road.lenW, pair_says, shr0, narrow_ch, Road.wide_lo, Road.wide_hi, Road.codOf (cut by pick.py; bodies as the Statement names them) -/
namespace Jvm.Pilot.@@N@@
namespace StrChars
open Jvm Sem ClassFile Op Lib Jvm.Stand Jvm.Free.XT Jvm.Free.ALB Jvm.Free.JM Jvm.Free
open Jvm.Lib.Cold (StaticIs)
/-- a char array whose places are chars -/
def Ch (a : Addr) (A : Cell) (U : State) : Prop := Arr .char a A U ∧ Typed .char A
theorem Ch.mv {a : Addr} {A : Cell} {U U' : State} (h : Ch a A U) (hal : U.vm.Alike U'.vm) (hh : U'.heap = U.heap) : Ch a A U' := ⟨h.1.mv hal hh, h.2⟩
theorem Ch.keep {a : Addr} {A : Cell} {U U' : State} (h : Ch a A U) (hal : U.vm.Alike U'.vm) (hk : U'.heap[a]? = some A) : Ch a A U' := ⟨h.1.keep hal hk, h.2⟩
/-- what place i of a char[]'s cell holds -/
def cv (A : Cell) (i : Nat) : Int32 := match A.slots[i]? with | some (.int x) => x | _ => 0
theorem Ch.get {a : Addr} {A : Cell} {U : State} (h : Ch a A U) {i : Nat} (hi : i < A.slots.size) : A.slots[i]? = some (.int (cv A i)) := by
  have e := Array.getElem?_eq_getElem hi
  have f := h.2 i _ e
  unfold cv; rw [e]
  generalize A.slots[i] = v at f
  cases v <;> simp [fits] at f ⊢
/-- the byte that i2b leaves of a char -/
def lo8 (x : Int32) : Int32 := x.toInt8.toInt32
theorem fits_lo8 (y : Int32) : fits .byte (.int (lo8 y)) = true := by
  have h1 := y.toInt8.le_toInt
  have h2 := y.toInt8.toInt_lt
  simp only [lo8, fits, Bool.and_eq_true, decide_eq_true_eq, Int32.le_iff_toInt_le, Int8.toInt_toInt32, show (-128 : Int32).toInt = -128 from by decide, show (127 : Int32).toInt = 127 from by decide]
  omega
/-- A' is A but that each place j of lo .. hi - 1 holds f j -/
def Laid (A A' : Cell) (lo hi : Nat) (f : Nat → Value) : Prop := A'.cls = A.cls ∧ A'.vm = A.vm ∧ A'.slots.size = A.slots.size ∧ ∀ i, A'.slots[i]? = if lo ≤ i ∧ i < hi then some (f i) else A.slots[i]?
theorem Laid.zero (A : Cell) (lo : Nat) (f : Nat → Value) : Laid A A lo (lo + 0) f := ⟨rfl, rfl, rfl, fun i => by rw [if_neg (by omega)]⟩
theorem Laid.step {A Ak : Cell} {lo k : Nat} {f : Nat → Value} {v : Value} (h : Laid A Ak lo k f) (hlo : lo ≤ k) (hk : k < Ak.slots.size) (hv : v = f k) : Laid A (Ak.setSlot k v) lo (k + 1) f := by
  refine ⟨h.1, h.2.1, by simpa [Cell.setSlot] using h.2.2.1, fun i => ?_⟩
  by_cases e : k = i
  · subst e; rw [Cell.slots_setSlot_self v hk, if_pos (by omega), hv]
  · rw [Cell.slots_setSlot_ne v e, h.2.2.2 i]
    by_cases q : lo ≤ i ∧ i < k
    · rw [if_pos q, if_pos (by omega)]
    · rw [if_neg q, if_neg (by omega)]
def U16 : String := "java/lang/StringUTF16"
namespace Cmp5
def yN : MethodName := ⟨"java/lang/StringUTF16", "compress", "([CI[BII)I"⟩
abbrev yB : ByteArray := jdk_52_method_21_code
theorem d0 : decode yB 0 = .ok (.iconst 0, 1) := by decide +kernel
theorem d1 : decode yB 1 = .ok (.istore 5, 2) := by decide +kernel
theorem d3 : decode yB 3 = .ok (.iload 5, 2) := by decide +kernel
theorem d5 : decode yB 5 = .ok (.iload 4, 2) := by decide +kernel
theorem d7 : decode yB 7 = .ok (.if_icmp (.ge) 37, 3) := by decide +kernel
theorem d10 : decode yB 10 = .ok (.aload_n 0, 1) := by decide +kernel
theorem d11 : decode yB 11 = .ok (.iload_n 1, 1) := by decide +kernel
theorem d12 : decode yB 12 = .ok (.caload, 1) := by decide +kernel
theorem d13 : decode yB 13 = .ok (.istore 6, 2) := by decide +kernel
theorem d15 : decode yB 15 = .ok (.iload 6, 2) := by decide +kernel
theorem d17 : decode yB 17 = .ok (.sipush 255, 3) := by decide +kernel
theorem d20 : decode yB 20 = .ok (.if_icmp (.le) 6, 3) := by decide +kernel
theorem d26 : decode yB 26 = .ok (.aload_n 2, 1) := by decide +kernel
theorem d27 : decode yB 27 = .ok (.iload_n 3, 1) := by decide +kernel
theorem d28 : decode yB 28 = .ok (.iload 6, 2) := by decide +kernel
theorem d30 : decode yB 30 = .ok (.i2b, 1) := by decide +kernel
theorem d31 : decode yB 31 = .ok (.bastore, 1) := by decide +kernel
theorem d32 : decode yB 32 = .ok (.iinc 1 1, 3) := by decide +kernel
theorem d35 : decode yB 35 = .ok (.iinc 3 1, 3) := by decide +kernel
theorem d38 : decode yB 38 = .ok (.iinc 5 1, 3) := by decide +kernel
theorem d41 : decode yB 41 = .ok (.goto (-38), 3) := by decide +kernel
theorem d44 : decode yB 44 = .ok (.iload 4, 2) := by decide +kernel
theorem d46 : decode yB 46 = .ok (.ireturn, 1) := by decide +kernel
def site : List Cond := []
def tab : Cond := tabOf yN yB 7 (some .int) site
def P (b : Addr) (A : Cell) (d : Addr) (B : Cell) (o q len : Nat) (args : Array Value) (s : State) : Prop := args = #[.ref b, .int (Int32.ofNat o), .ref d, .int (Int32.ofNat q), .int (Int32.ofNat len)] ∧ Ch b A s ∧ Arr .byte d B s ∧ b ≠ d ∧ o + len ≤ A.slots.size ∧ q + len ≤ B.slots.size ∧ ∀ i, i < len → ¬ 255 < cv A (o + i)
def E (b : Addr) (A : Cell) (d : Addr) (B : Cell) (o q len : Nat) (r : Option Value) (s u : State) : Prop := r = some (.int (Int32.ofNat len)) ∧ ∃ B', Put d B' s u ∧ Laid B B' q (q + len) (fun j => Value.int (lo8 (cv A (o + (j - q)))))
/-- no char of the range above 255: len; the places written hold each char's low byte -/
theorem law (l : Launch) (b : Addr) (A : Cell) (d : Addr) (B : Cell) (o q len : Nat) : Law l yN 5 5 0 0 yB 7 (some .int) site (P b A d B o q len) (E b A d B o q len) (copyLocs d q len) 0 0 := by
  refine Law.of_walk (plainFor_of_name (by decide +kernel)) (by decide +kernel) (by decide +kernel) (by decide) (fun _ _ h => by rw [h.1]; rfl) (fun _ U U' hal hh h => ⟨h.1, h.2.1.mv hal hh, h.2.2.1.mv hal hh, h.2.2.2⟩) (fun r U U' V V' h1 hal h2 h => ⟨h.1, h.2.elim fun B' q => ⟨B', q.1.mv h1 h2, q.2⟩⟩) ?_
  intro p e s m args below meth c s₁ X0 hexec hbytes hml hret hlk hnm hown hh0 W hP
  obtain ⟨rfl, hA, hB, hne, l1, l2, hp⟩ := hP
  have c1 : Steps p.tables e below (s₁.setTop (entryFrame m #[.ref b, .int (Int32.ofNat o), .ref d, .int (Int32.ofNat q), .int (Int32.ofNat len)] 7)) (s₁.setTop (mkF m 0 #[.val (.ref b), .val (.int (Int32.ofNat o)), .val (.ref d), .val (.int (Int32.ofNat q)), .val (.int (Int32.ofNat len)), .unset, .unset] [])) := entry rfl
  have hA0 := hA.1.mv X0.warmed.alike hh0
  have hB0 := hB.mv X0.warmed.alike hh0
  have a31 := hA.1.2.2.2
  have c2 : Steps p.tables e below (s₁.setTop (entryFrame m #[.ref b, .int (Int32.ofNat o), .ref d, .int (Int32.ofNat q), .int (Int32.ofNat len)] 7)) (s₁.setTop (mkF m 3 #[.val (.ref b), .val (.int (Int32.ofNat o)), .val (.ref d), .val (.int (Int32.ofNat q)), .val (.int (Int32.ofNat len)), .val (.int 0), .unset] [])) := c1.trans (by
    refine iconstV X0.here hexec rfl 0 (hb hbytes d0) (by decide) ?_
    refine XS.istore X0.here hexec rfl (hb hbytes d1) rfl rfl ?_
    exact Steps.refl _)
  have loop : ∀ (r i : Nat), i + r = len → ∀ (z : Slot), (z = .unset ∨ ∃ w, z = .val w ∧ w.category = 1) → ∀ (Tl : State) (Bk : Cell), Stand p l e { frames := 0, locals := 0, cells := 0, slots := 0 } s m #[.ref b, .int (Int32.ofNat o), .ref d, .int (Int32.ofNat q), .int (Int32.ofNat len)] below meth c Tl ([] ++ copyLocs d q i) 0 0 → Put d Bk s₁ Tl → Laid B Bk q (q + i) (fun j => Value.int (lo8 (cv A (o + (j - q))))) →
      Steps p.tables e below (s₁.setTop (entryFrame m #[.ref b, .int (Int32.ofNat o), .ref d, .int (Int32.ofNat q), .int (Int32.ofNat len)] 7)) (Tl.setTop (mkF m 3 #[.val (.ref b), .val (.int (Int32.ofNat (o + i))), .val (.ref d), .val (.int (Int32.ofNat (q + i))), .val (.int (Int32.ofNat len)), .val (.int (Int32.ofNat i)), z] [])) → ∃ (T' : State) (B' : Cell) (z' : Slot), Stand p l e { frames := 0, locals := 0, cells := 0, slots := 0 } s m #[.ref b, .int (Int32.ofNat o), .ref d, .int (Int32.ofNat q), .int (Int32.ofNat len)] below meth c T' ([] ++ copyLocs d q len) 0 0 ∧ Put d B' s₁ T' ∧ Laid B B' q (q + len) (fun j => Value.int (lo8 (cv A (o + (j - q))))) ∧
      Steps p.tables e below (s₁.setTop (entryFrame m #[.ref b, .int (Int32.ofNat o), .ref d, .int (Int32.ofNat q), .int (Int32.ofNat len)] 7)) (T'.setTop (mkF m 3 #[.val (.ref b), .val (.int (Int32.ofNat (o + len))), .val (.ref d), .val (.int (Int32.ofNat (q + len))), .val (.int (Int32.ofNat len)), .val (.int (Int32.ofNat len)), z'] [])) := by
    intro r
    induction r with
    | zero =>
      intro i hi z hz Tl Bk Xl pl fl cl
      have hil : i = len := by omega
      rw [hil] at Xl fl cl
      exact ⟨Tl, Bk, z, Xl, pl, fl, cl⟩
    | succ r ih =>
      intro i hi z hz Tl Bk Xl pl fl cl
      have all := X0.warmed.alike.symm.trans Xl.warmed.alike
      have hAl := hA0.keep all (pl.other hne hA0.1)
      have hBk := hB0.like all pl.1 fl.1 fl.2.1 fl.2.2.1
      have hlt : q + i < Bk.slots.size := by rw [fl.2.2.1]; omega
      have c3 : Steps p.tables e below (s₁.setTop (entryFrame m #[.ref b, .int (Int32.ofNat o), .ref d, .int (Int32.ofNat q), .int (Int32.ofNat len)] 7)) (Tl.setTop (mkF m 12 #[.val (.ref b), .val (.int (Int32.ofNat (o + i))), .val (.ref d), .val (.int (Int32.ofNat (q + i))), .val (.int (Int32.ofNat len)), .val (.int (Int32.ofNat i)), z] [.int (Int32.ofNat (o + i)), .ref b])) := cl.trans (by
        refine XS.iload Xl.here hexec rfl (hb hbytes d3) rfl ?_
        refine XS.iload Xl.here hexec rfl (hb hbytes d5) rfl ?_
        refine XS.icmpNo Xl.here hexec rfl (hb hbytes d7) rfl (ii_ge_f (lt32 (by omega) (by omega))) ?_
        refine XS.aloadN Xl.here hexec rfl (hb hbytes d10) rfl rfl ?_
        refine XS.iloadN Xl.here hexec rfl (hb hbytes d11) rfl ?_
        exact Steps.refl _)
      have c4 : Steps p.tables e below (s₁.setTop (entryFrame m #[.ref b, .int (Int32.ofNat o), .ref d, .int (Int32.ofNat q), .int (Int32.ofNat len)] 7)) (Tl.setTop (mkF m 13 #[.val (.ref b), .val (.int (Int32.ofNat (o + i))), .val (.ref d), .val (.int (Int32.ofNat (q + i))), .val (.int (Int32.ofNat len)), .val (.int (Int32.ofNat i)), z] [.int (cv A (o + i))])) := c3.trans (by
        refine Xl.aget hexec hAl rfl (hA.get (i := o + i) (by omega)) rfl rfl (hb hbytes d12) ?_
        exact Steps.refl _)
      have c5 : Steps p.tables e below (s₁.setTop (entryFrame m #[.ref b, .int (Int32.ofNat o), .ref d, .int (Int32.ofNat q), .int (Int32.ofNat len)] 7)) (Tl.setTop (mkF m 15 #[.val (.ref b), .val (.int (Int32.ofNat (o + i))), .val (.ref d), .val (.int (Int32.ofNat (q + i))), .val (.int (Int32.ofNat len)), .val (.int (Int32.ofNat i)), .val (.int (cv A (o + i)))] [])) := c4.trans (by
        refine XS.istoreS Xl.here hexec rfl (hb hbytes d13) rfl rfl hz ?_
        exact Steps.refl _)
      have c6 : Steps p.tables e below (s₁.setTop (entryFrame m #[.ref b, .int (Int32.ofNat o), .ref d, .int (Int32.ofNat q), .int (Int32.ofNat len)] 7)) (Tl.setTop (mkF m 31 #[.val (.ref b), .val (.int (Int32.ofNat (o + i))), .val (.ref d), .val (.int (Int32.ofNat (q + i))), .val (.int (Int32.ofNat len)), .val (.int (Int32.ofNat i)), .val (.int (cv A (o + i)))] [.int (lo8 (cv A (o + i))), .int (Int32.ofNat (q + i)), .ref d])) := c5.trans (by
        refine XS.iload Xl.here hexec rfl (hb hbytes d15) rfl ?_
        refine sipushV Xl.here hexec rfl 255 (hb hbytes d17) (by decide) ?_
        refine XS.icmpYes Xl.here hexec rfl (pc0 := 20) rfl (hb hbytes d20) rfl (ii_le_t (hp i (by omega))) (by decide) rfl ?_
        refine XS.aloadN Xl.here hexec rfl (hb hbytes d26) rfl rfl ?_
        refine XS.iloadN Xl.here hexec rfl (hb hbytes d27) rfl ?_
        refine XS.iload Xl.here hexec rfl (hb hbytes d28) rfl ?_
        refine i2b Xl.here hexec rfl (hb hbytes d30) rfl ?_
        exact Steps.refl _)
      obtain ⟨T7, X7, p7, st7⟩ := Xl.aput hexec hBk rfl hlt rfl (fits_lo8 (cv A (o + i))) (g := (mkF m 31 #[.val (.ref b), .val (.int (Int32.ofNat (o + i))), .val (.ref d), .val (.int (Int32.ofNat (q + i))), .val (.int (Int32.ofNat len)), .val (.int (Int32.ofNat i)), .val (.int (cv A (o + i)))] [.int (lo8 (cv A (o + i))), .int (Int32.ofNat (q + i)), .ref d])) rfl (rest := []) rfl (hb hbytes d31)
      have c8 : Steps p.tables e below (s₁.setTop (entryFrame m #[.ref b, .int (Int32.ofNat o), .ref d, .int (Int32.ofNat q), .int (Int32.ofNat len)] 7)) (T7.setTop (mkF m 32 #[.val (.ref b), .val (.int (Int32.ofNat (o + i))), .val (.ref d), .val (.int (Int32.ofNat (q + i))), .val (.int (Int32.ofNat len)), .val (.int (Int32.ofNat i)), .val (.int (cv A (o + i)))] [])) := c6.trans (st7 _ (Steps.refl _))
      have c9 : Steps p.tables e below (s₁.setTop (entryFrame m #[.ref b, .int (Int32.ofNat o), .ref d, .int (Int32.ofNat q), .int (Int32.ofNat len)] 7)) (T7.setTop (mkF m 3 #[.val (.ref b), .val (.int (Int32.ofNat (o + i) + 1)), .val (.ref d), .val (.int (Int32.ofNat (q + i) + 1)), .val (.int (Int32.ofNat len)), .val (.int (Int32.ofNat i + 1)), .val (.int (cv A (o + i)))] [])) := c8.trans (by
        refine iincV X7.here hexec rfl 1 (hb hbytes d32) (by decide) rfl rfl ?_
        refine iincV X7.here hexec rfl 1 (hb hbytes d35) (by decide) rfl rfl ?_
        refine iincV X7.here hexec rfl 1 (hb hbytes d38) (by decide) rfl rfl ?_
        refine XS.goto X7.here hexec rfl (pc0 := 41) rfl (hb hbytes d41) (by decide) rfl ?_
        exact Steps.refl _)
      have c10 : Steps p.tables e below (s₁.setTop (entryFrame m #[.ref b, .int (Int32.ofNat o), .ref d, .int (Int32.ofNat q), .int (Int32.ofNat len)] 7)) (T7.setTop (mkF m 3 #[.val (.ref b), .val (.int (Int32.ofNat (o + (i + 1)))), .val (.ref d), .val (.int (Int32.ofNat (q + (i + 1)))), .val (.int (Int32.ofNat len)), .val (.int (Int32.ofNat (i + 1))), .val (.int (cv A (o + i)))] [])) := by
        have := c9
        rw [succ32, succ32, succ32] at this
        exact this
      exact ih (i + 1) (by omega) _ (Or.inr ⟨_, rfl, rfl⟩) T7 _ (by rw [copyLocs_step, ← List.append_assoc]; exact X7) (pl.trans p7) (fl.step (by omega) hlt (by simp)) c10
  obtain ⟨T9, B9, z9, X9, p9, f9, g9⟩ := loop len 0 (by omega) .unset (Or.inl rfl) s₁ B (by simpa [copyLocs] using X0) ⟨hB0.1, fun _ _ => rfl, rfl⟩ (Laid.zero _ _ _) c2
  have c11 : Steps p.tables e below (s₁.setTop (entryFrame m #[.ref b, .int (Int32.ofNat o), .ref d, .int (Int32.ofNat q), .int (Int32.ofNat len)] 7)) (T9.setTop (mkF m 46 #[.val (.ref b), .val (.int (Int32.ofNat (o + len))), .val (.ref d), .val (.int (Int32.ofNat (q + len))), .val (.int (Int32.ofNat len)), .val (.int (Int32.ofNat len)), z9] [.int (Int32.ofNat len)])) := g9.trans (by
    refine XS.iload X9.here hexec rfl (hb hbytes d3) rfl ?_
    refine XS.iload X9.here hexec rfl (hb hbytes d5) rfl ?_
    refine XS.icmpYes X9.here hexec rfl (pc0 := 7) rfl (hb hbytes d7) rfl (ii_ge_t (nlt32 (by omega) (Nat.le_refl _))) (by decide) rfl ?_
    refine XS.iload X9.here hexec rfl (hb hbytes d44) rfl ?_
    exact Steps.refl _)
  exact ⟨T9, some (.int (Int32.ofNat len)), _, _, _, X9, by simp, rfl, rfl, (fun h => by cases h), ⟨rfl, B9, p9.from hh0, f9⟩, fun fs hl => c11.trans (X9.ireturnOut hexec hret rfl (Or.inl rfl) (hb hbytes d46) hl)⟩
end Cmp5
namespace Cmp3
def yN : MethodName := ⟨"java/lang/StringUTF16", "compress", "([CII)[B"⟩
abbrev yB : ByteArray := jdk_52_method_16_code
theorem d0 : decode yB 0 = .ok (.iload_n 2, 1) := by decide +kernel
theorem d1 : decode yB 1 = .ok (.newarray .byte, 2) := by decide +kernel
theorem d3 : decode yB 3 = .ok (.astore_n 3, 1) := by decide +kernel
theorem d4 : decode yB 4 = .ok (.aload_n 0, 1) := by decide +kernel
theorem d5 : decode yB 5 = .ok (.iload_n 1, 1) := by decide +kernel
theorem d6 : decode yB 6 = .ok (.aload_n 3, 1) := by decide +kernel
theorem d7 : decode yB 7 = .ok (.iconst 0, 1) := by decide +kernel
theorem d8 : decode yB 8 = .ok (.iload_n 2, 1) := by decide +kernel
theorem d9 : decode yB 9 = .ok (.invokestatic 115, 3) := by decide +kernel
theorem d12 : decode yB 12 = .ok (.istore 4, 2) := by decide +kernel
theorem d14 : decode yB 14 = .ok (.iload 4, 2) := by decide +kernel
theorem d16 : decode yB 16 = .ok (.iload_n 2, 1) := by decide +kernel
theorem d17 : decode yB 17 = .ok (.if_icmp (.eq) 40, 3) := by decide +kernel
theorem d57 : decode yB 57 = .ok (.aload_n 3, 1) := by decide +kernel
theorem d58 : decode yB 58 = .ok (.areturn, 1) := by decide +kernel
def site : List Cond := [.arrayClass .byte, Cmp5.tab] ++ staticW U16 115 Cmp5.yN
def tab : Cond := tabOf yN yB 6 (some (.array .byte)) site
def P (b : Addr) (A : Cell) (o len : Nat) (args : Array Value) (s : State) : Prop := args = #[.ref b, .int (Int32.ofNat o), .int (Int32.ofNat len)] ∧ Ch b A s ∧ o + len ≤ A.slots.size ∧ len ≤ 536870912 ∧ ∀ i, i < len → ¬ 255 < cv A (o + i)
def E (b : Addr) (A : Cell) (o len : Nat) (r : Option Value) (s u : State) : Prop := NewArr .byte "[B" len (fun j => .int (lo8 (cv A (o + j)))) r s u ∧ u.heap.size = s.heap.size + 1
/-- no char of the range above 255: a new byte[] of their low bytes -/
theorem law (l : Launch) (b : Addr) (A : Cell) (o len : Nat) : Law l yN 3 3 1 18 yB 6 (some (.array .byte)) site (P b A o len) (E b A o len) [] 1 len := by
  refine Law.of_walk (plainFor_of_name (by decide +kernel)) (by decide +kernel) (by decide +kernel) (by decide) (fun _ _ h => by rw [h.1]; rfl) (fun _ U U' hal hh h => ⟨h.1, h.2.1.mv hal hh, h.2.2⟩) (fun r U U' V V' h1 hal h2 h => ⟨NewArr.mv r U U' V V' h1 hal h2 h.1, by rw [h1, h2]; exact h.2⟩) ?_
  intro p e s m args below meth c s₁ X0 hexec hbytes hml hret hlk hnm hown hh0 W hP
  obtain ⟨rfl, hA, l1, l2, hp⟩ := hP
  have a31 := hA.1.2.2.2
  have c1 : Steps p.tables e below (s₁.setTop (entryFrame m #[.ref b, .int (Int32.ofNat o), .int (Int32.ofNat len)] 6)) (s₁.setTop (mkF m 0 #[.val (.ref b), .val (.int (Int32.ofNat o)), .val (.int (Int32.ofNat len)), .unset, .unset, .unset] [])) := entry rfl
  have c2 : Steps p.tables e below (s₁.setTop (entryFrame m #[.ref b, .int (Int32.ofNat o), .int (Int32.ofNat len)] 6)) (s₁.setTop (mkF m 1 #[.val (.ref b), .val (.int (Int32.ofNat o)), .val (.int (Int32.ofNat len)), .unset, .unset, .unset] [.int (Int32.ofNat len)])) := c1.trans (by
    refine XS.iloadN X0.here hexec rfl (hb hbytes d0) rfl ?_
    exact Steps.refl _)
  obtain ⟨T3, B3, X3, ba3, bs3, bv3, bh3, bf3, st3⟩ := X0.anew hexec (atype := .byte) (wk W (.arrayClass .byte)) rfl (by show len * 1 ≤ _; omega) (by omega) (g := (mkF m 1 #[.val (.ref b), .val (.int (Int32.ofNat o)), .val (.int (Int32.ofNat len)), .unset, .unset, .unset] [.int (Int32.ofNat len)])) rfl (hb hbytes d1) (rest := []) rfl (Nat.le_refl _) (by show 0 + len ≤ len; omega)
  rw [hh0] at ba3 st3
  have kp3 : XT.Kept s T3 := (XT.Kept.of_eq hh0).push bh3
  have hA3 := hA.keep X3.warmed.alike (kp3 _ _ hA.1.1)
  have hne : b ≠ s.heap.size := hA.1.ne
  have c4 : Steps p.tables e below (s₁.setTop (entryFrame m #[.ref b, .int (Int32.ofNat o), .int (Int32.ofNat len)] 6)) (T3.setTop (mkF m 3 #[.val (.ref b), .val (.int (Int32.ofNat o)), .val (.int (Int32.ofNat len)), .unset, .unset, .unset] [.ref s.heap.size])) := c2.trans (st3 _ (Steps.refl _))
  have c5 : Steps p.tables e below (s₁.setTop (entryFrame m #[.ref b, .int (Int32.ofNat o), .int (Int32.ofNat len)] 6)) (T3.setTop (mkF m 9 #[.val (.ref b), .val (.int (Int32.ofNat o)), .val (.int (Int32.ofNat len)), .val (.ref s.heap.size), .unset, .unset] [.int (Int32.ofNat len), .int 0, .ref s.heap.size, .int (Int32.ofNat o), .ref b])) := c4.trans (by
    refine XS.astoreN X3.here hexec rfl (hb hbytes d3) rfl rfl rfl ?_
    refine XS.aloadN X3.here hexec rfl (hb hbytes d4) rfl rfl ?_
    refine XS.iloadN X3.here hexec rfl (hb hbytes d5) rfl ?_
    refine XS.aloadN X3.here hexec rfl (hb hbytes d6) rfl rfl ?_
    refine iconstV X3.here hexec rfl 0 (hb hbytes d7) (by decide) ?_
    refine XS.iloadN X3.here hexec rfl (hb hbytes d8) rfl ?_
    exact Steps.refl _)
  obtain ⟨v6, T6, X6, E6, g6⟩ := X3.callS hexec (Cmp5.law l b A s.heap.size B3 o 0 len) hown (wks W (staticW U16 115 Cmp5.yN)) (wk W Cmp5.tab) (W := 0) (Nat.le_of_ble_eq_true rfl) (Nat.le_of_ble_eq_true rfl) (Nat.le_refl _) (by show 0 + len + 0 ≤ len; omega) (g := (mkF m 9 #[.val (.ref b), .val (.int (Int32.ofNat o)), .val (.int (Int32.ofNat len)), .val (.ref s.heap.size), .unset, .unset] [.int (Int32.ofNat len), .int (Int32.ofNat 0), .ref s.heap.size, .int (Int32.ofNat o), .ref b])) rfl (by rw [hml]; rfl) c5 (argsL := [.ref b, .int (Int32.ofNat o), .ref s.heap.size, .int (Int32.ofNat 0), .int (Int32.ofNat len)]) (rest := []) rfl rfl (by show 2 * 0 + 0 ≤ _; decide) (hb hbytes d9) (⟨rfl, hA3, ba3, hne, l1, by rw [bs3]; simp, hp⟩)
  obtain ⟨rfl, B6, p6, f6⟩ := E6
  have c7 : Steps p.tables e below (s₁.setTop (entryFrame m #[.ref b, .int (Int32.ofNat o), .int (Int32.ofNat len)] 6)) (T6.setTop (mkF m 12 #[.val (.ref b), .val (.int (Int32.ofNat o)), .val (.int (Int32.ofNat len)), .val (.ref s.heap.size), .unset, .unset] [.int (Int32.ofNat len)])) := g6
  have c8 : Steps p.tables e below (s₁.setTop (entryFrame m #[.ref b, .int (Int32.ofNat o), .int (Int32.ofNat len)] 6)) (T6.setTop (mkF m 58 #[.val (.ref b), .val (.int (Int32.ofNat o)), .val (.int (Int32.ofNat len)), .val (.ref s.heap.size), .val (.int (Int32.ofNat len)), .unset] [.ref s.heap.size])) := c7.trans (by
    refine XS.istore X6.here hexec rfl (hb hbytes d12) rfl rfl ?_
    refine XS.iload X6.here hexec rfl (hb hbytes d14) rfl ?_
    refine XS.iloadN X6.here hexec rfl (hb hbytes d16) rfl ?_
    refine XS.icmpYes X6.here hexec rfl (pc0 := 17) rfl (hb hbytes d17) rfl (ii_eq_t rfl) (by decide) rfl ?_
    refine XS.aloadN X6.here hexec rfl (hb hbytes d57) rfl rfl ?_
    exact Steps.refl _)
  have X8 := X6.wide (L' := []) (cells' := 1) (slots' := len) (fun x hx hlt => by
    simp only [List.nil_append, copyLocs, List.mem_map, List.mem_range] at hx
    obtain ⟨i, -, rfl⟩ := hx
    exact absurd hlt (Nat.lt_irrefl _)) (Nat.le_refl _) (by omega)
  exact ⟨T6, some (.ref s.heap.size), _, _, _, X8, rfl, rfl, rfl, (fun h => by cases h), ⟨⟨rfl, B6, ba3.like (X3.warmed.alike.symm.trans X6.warmed.alike) p6.1 f6.1 f6.2.1 f6.2.2.1, f6.2.1.trans bv3, by rw [X6.warmed.alike.findClass, f6.1]; exact bf3, by rw [f6.2.2.1, bs3]; simp, fun j hj => by rw [f6.2.2.2 j, if_pos (by omega)]; rfl, kp3.put p6 (Nat.le_refl _)⟩, by rw [p6.2.2, bh3, hh0]; simp⟩, fun fs hl => c8.trans (X8.areturnOut hexec rfl hret rfl (hb hbytes d58) hl)⟩
end Cmp3
namespace CodL
def yN : MethodName := ⟨"java/lang/StringUTF16", "coderFromArrayLen", "([BI)B"⟩
abbrev yB : ByteArray := jdk_52_method_15_code
theorem d0 : decode yB 0 = .ok (.iload_n 1, 1) := by decide +kernel
theorem d1 : decode yB 1 = .ok (.aload_n 0, 1) := by decide +kernel
theorem d2 : decode yB 2 = .ok (.arraylength, 1) := by decide +kernel
theorem d3 : decode yB 3 = .ok (.isub, 1) := by decide +kernel
theorem d4 : decode yB 4 = .ok (.bipush 31, 2) := by decide +kernel
theorem d6 : decode yB 6 = .ok (.iushr, 1) := by decide +kernel
theorem d7 : decode yB 7 = .ok (.i2b, 1) := by decide +kernel
theorem d8 : decode yB 8 = .ok (.ireturn, 1) := by decide +kernel
def site : List Cond := []
def tab : Cond := tabOf yN yB 2 (some .byte) site
def P (d : Addr) (B : Cell) (args : Array Value) (s : State) : Prop := args = #[.ref d, .int (Int32.ofNat B.slots.size)] ∧ Arr .byte d B s
def E (r : Option Value) (s u : State) : Prop := XT.PureE (some (.int 0)) r s u
/-- an array as long as the number of chars: LATIN1 -/
theorem law (l : Launch) (d : Addr) (B : Cell) : Law l yN 2 2 0 0 yB 2 (some .byte) site (P d B) E [] 0 0 := by
  refine Law.of_walk (plainFor_of_name (by decide +kernel)) (by decide +kernel) (by decide +kernel) (by decide) (fun _ _ h => by rw [h.1]; rfl) (fun _ U U' hal hh h => ⟨h.1, h.2.mv hal hh⟩) (fun r U U' V V' h1 hal h2 h => XT.PureE.mv r U U' V V' h1 hal h2 h) ?_
  intro p e s m args below meth c s₁ X0 hexec hbytes hml hret hlk hnm hown hh0 W hP
  obtain ⟨rfl, hB⟩ := hP
  have hB0 := hB.mv X0.warmed.alike hh0
  have c1 : Steps p.tables e below (s₁.setTop (entryFrame m #[.ref d, .int (Int32.ofNat B.slots.size)] 2)) (s₁.setTop (mkF m 0 #[.val (.ref d), .val (.int (Int32.ofNat B.slots.size))] [])) := entry rfl
  have c2 : Steps p.tables e below (s₁.setTop (entryFrame m #[.ref d, .int (Int32.ofNat B.slots.size)] 2)) (s₁.setTop (mkF m 2 #[.val (.ref d), .val (.int (Int32.ofNat B.slots.size))] [.ref d, .int (Int32.ofNat B.slots.size)])) := c1.trans (by
    refine XS.iloadN X0.here hexec rfl (hb hbytes d0) rfl ?_
    refine XS.aloadN X0.here hexec rfl (hb hbytes d1) rfl rfl ?_
    exact Steps.refl _)
  have c3 : Steps p.tables e below (s₁.setTop (entryFrame m #[.ref d, .int (Int32.ofNat B.slots.size)] 2)) (s₁.setTop (mkF m 8 #[.val (.ref d), .val (.int (Int32.ofNat B.slots.size))] [.int (lo8 (ushr (Int32.ofNat B.slots.size - Int32.ofNat B.slots.size) 31))])) := c2.trans (by
    refine X0.alen hexec hB0 rfl rfl (hb hbytes d2) ?_
    refine XS.isub X0.here hexec rfl (hb hbytes d3) rfl ?_
    refine bipushV X0.here hexec rfl 31 (hb hbytes d4) (by decide) ?_
    refine iushr X0.here hexec rfl (hb hbytes d6) rfl ?_
    refine i2b X0.here hexec rfl (hb hbytes d7) rfl ?_
    exact Steps.refl _)
  have e0 : lo8 (ushr (Int32.ofNat B.slots.size - Int32.ofNat B.slots.size) 31) = 0 := by rw [Int32.sub_self]; decide
  rw [e0] at c3
  exact ⟨s₁, some (.int 0), _, _, _, X0, rfl, rfl, rfl, (fun h => by cases h), ⟨rfl, hh0⟩, fun fs hl => c3.trans (X0.ireturnOut hexec hret rfl (Or.inr (Or.inr (Or.inl rfl))) (hb hbytes d8) hl)⟩
end CodL
/-- the String at a is Latin-1 over a new byte[] (the heap's one new cell): the low bytes of the len chars of A from o on; every cell but a is kept -/
def Got (a : Addr) (D : Cell) (fV fC : Field) (A : Cell) (o len : Nat) (r : Option Value) (s u : State) : Prop := r = none ∧ ∃ D' V : Cell, Blank "java/lang/String" a D' u ∧ Same D D' [fV.slot, fC.slot] ∧ D'.slots[fV.slot]? = some (.ref s.heap.size) ∧ D'.slots[fC.slot]? = some (.int 0) ∧ Arr .byte s.heap.size V u ∧ V.vm = .none ∧ u.vm.findClass "[B" = some V.cls ∧ V.slots.size = len ∧ (∀ j, j < len → V.slots[j]? = some (.int (lo8 (cv A (o + j))))) ∧ (∀ (y : Addr) (c : Cell), y ≠ a → s.heap[y]? = some c → u.heap[y]? = some c) ∧ u.heap.size = s.heap.size + 1
theorem Got.mv {a : Addr} {D A : Cell} {fV fC : Field} {o len : Nat} : ∀ r (U U' V V' : State), U'.heap = U.heap → V.vm.Alike V'.vm → V'.heap = V.heap → Got a D fV fC A o len r U V → Got a D fV fC A o len r U' V' :=
  fun r U U' V V' h1 hal h2 ⟨e0, D', X, a1, a2, a3, a4, a5, a6, a7, a8, a9, a10, a11⟩ => ⟨e0, D', X, a1.mv hal h2, a2, by rw [h1]; exact a3, a4, by rw [h1]; exact a5.mv hal h2, a6, by rw [hal.findClass]; exact a7, a8, a9, by rw [h1, h2]; exact a10, by rw [h1, h2]; exact a11⟩
namespace New4
def yN : MethodName := ⟨"java/lang/String", "<init>", "([CIILjava/lang/Void;)V"⟩
abbrev yB : ByteArray := jdk_42_method_149_code
theorem d0 : decode yB 0 = .ok (.aload_n 0, 1) := by decide +kernel
theorem d1 : decode yB 1 = .ok (.invokespecial 1, 3) := by decide +kernel
theorem d4 : decode yB 4 = .ok (.iload_n 3, 1) := by decide +kernel
theorem d5 : decode yB 5 = .ok (.ifCond (.ne) 22, 3) := by decide +kernel
theorem d27 : decode yB 27 = .ok (.getstatic 38, 3) := by decide +kernel
theorem d30 : decode yB 30 = .ok (.ifCond (.eq) 28, 3) := by decide +kernel
theorem d33 : decode yB 33 = .ok (.aload_n 1, 1) := by decide +kernel
theorem d34 : decode yB 34 = .ok (.iload_n 2, 1) := by decide +kernel
theorem d35 : decode yB 35 = .ok (.iload_n 3, 1) := by decide +kernel
theorem d36 : decode yB 36 = .ok (.invokestatic 177, 3) := by decide +kernel
theorem d39 : decode yB 39 = .ok (.astore 5, 2) := by decide +kernel
theorem d41 : decode yB 41 = .ok (.aload_n 0, 1) := by decide +kernel
theorem d42 : decode yB 42 = .ok (.aload 5, 2) := by decide +kernel
theorem d44 : decode yB 44 = .ok (.iload_n 3, 1) := by decide +kernel
theorem d45 : decode yB 45 = .ok (.invokestatic 47, 3) := by decide +kernel
theorem d48 : decode yB 48 = .ok (.putfield 15, 3) := by decide +kernel
theorem d51 : decode yB 51 = .ok (.aload_n 0, 1) := by decide +kernel
theorem d52 : decode yB 52 = .ok (.aload 5, 2) := by decide +kernel
theorem d54 : decode yB 54 = .ok (.putfield 9, 3) := by decide +kernel
theorem d57 : decode yB 57 = .ok (.return_, 1) := by decide +kernel
def site : List Cond := [.fieldLink "java/lang/String" 38 "java/lang/String" "COMPACT_STRINGS" "Z", Cmp3.tab, CodL.tab, .laysFinal "java/lang/String" "java/lang/String" "value" "[B", .fieldLink "java/lang/String" 9 "java/lang/String" "value" "[B", .laysFinal "java/lang/String" "java/lang/String" "coder" "B", .fieldLink "java/lang/String" 15 "java/lang/String" "coder" "B"] ++ objW "java/lang/String" 1 ++ staticW "java/lang/String" 177 Cmp3.yN ++ staticW "java/lang/String" 47 CodL.yN
def tab : Cond := tabOf yN yB 6 none site
def P (a : Addr) (D : Cell) (fV fC : Field) (b : Addr) (A : Cell) (z : Int32) (o len : Nat) (args : Array Value) (s : State) : Prop := args = #[.ref a, .ref b, .int (Int32.ofNat o), .int (Int32.ofNat len), .null] ∧ Blank "java/lang/String" a D s ∧ Found "java/lang/String" "value" "[B" fV s ∧ Found "java/lang/String" "coder" "B" fC s ∧ Ch b A s ∧ StaticIs s "java/lang/String" "COMPACT_STRINGS" "Z" (.int z) ∧ ¬ z = 0 ∧ 0 < len ∧ o + len ≤ A.slots.size ∧ len ≤ 536870912 ∧ ∀ i, i < len → ¬ 255 < cv A (o + i)
def E (a : Addr) (D : Cell) (fV fC : Field) (A : Cell) (o len : Nat) (r : Option Value) (s u : State) : Prop := Got a D fV fC A o len r s u
/-- len > 0, no char of the range above 255: a Latin-1 String of their low bytes -/
theorem law (l : Launch) (a : Addr) (D : Cell) (fV fC : Field) (b : Addr) (A : Cell) (z : Int32) (o len : Nat) : Law l yN 5 4 2 35 yB 6 none site (P a D fV fC b A z o len) (E a D fV fC A o len) [⟨a, fC.slot⟩, ⟨a, fV.slot⟩] 1 len := by
  refine Law.of_walk (plainFor_of_name (by decide +kernel)) (by decide +kernel) (by decide +kernel) (by decide) (fun _ _ h => by rw [h.1]; rfl) (fun _ U U' hal hh h => ⟨h.1, h.2.1.mv hal hh, h.2.2.1.al hal, h.2.2.2.1.al hal, h.2.2.2.2.1.mv hal hh, h.2.2.2.2.2.1.there hal hh, h.2.2.2.2.2.2⟩) (fun r U U' V V' h1 hal h2 h => Got.mv r U U' V V' h1 hal h2 h) ?_
  intro p e s m args below meth c s₁ X0 hexec hbytes hml hret hlk hnm hown hh0 W hP
  obtain ⟨rfl, hB, f1, f2, hA, s1, hz, l0, l1, l2, hp⟩ := hP
  have a31 := hA.1.2.2.2
  have c1 : Steps p.tables e below (s₁.setTop (entryFrame m #[.ref a, .ref b, .int (Int32.ofNat o), .int (Int32.ofNat len), .null] 6)) (s₁.setTop (mkF m 0 #[.val (.ref a), .val (.ref b), .val (.int (Int32.ofNat o)), .val (.int (Int32.ofNat len)), .val .null, .unset] [])) := entry rfl
  have c2 : Steps p.tables e below (s₁.setTop (entryFrame m #[.ref a, .ref b, .int (Int32.ofNat o), .int (Int32.ofNat len), .null] 6)) (s₁.setTop (mkF m 1 #[.val (.ref a), .val (.ref b), .val (.int (Int32.ofNat o)), .val (.int (Int32.ofNat len)), .val .null, .unset] [.ref a])) := c1.trans (by
    refine XS.aloadN X0.here hexec rfl (hb hbytes d0) rfl rfl ?_
    exact Steps.refl _)
  obtain ⟨T3, X3, q3, st3⟩ := X0.oinit hexec hown (wks W (objW "java/lang/String" 1)) (g := (mkF m 1 #[.val (.ref a), .val (.ref b), .val (.int (Int32.ofNat o)), .val (.int (Int32.ofNat len)), .val .null, .unset] [.ref a])) rfl (by rw [hml]; rfl) (rest := []) rfl (hb hbytes d1) (W := 0) (by show 2 * 0 + 0 ≤ _; decide) (Nat.le_of_ble_eq_true rfl) (Nat.le_of_ble_eq_true rfl)
  have hh3 := q3.trans hh0
  have c4 : Steps p.tables e below (s₁.setTop (entryFrame m #[.ref a, .ref b, .int (Int32.ofNat o), .int (Int32.ofNat len), .null] 6)) (T3.setTop (mkF m 27 #[.val (.ref a), .val (.ref b), .val (.int (Int32.ofNat o)), .val (.int (Int32.ofNat len)), .val .null, .unset] [])) := (c2.trans (st3 _ (Steps.refl _))).trans (by
    refine XS.iloadN X3.here hexec rfl (hb hbytes d4) rfl ?_
    refine XS.ifYes X3.here hexec rfl (pc0 := 5) rfl (hb hbytes d5) rfl (i0_ne_t (nz32 (by omega) l0)) (by decide) rfl ?_
    exact Steps.refl _)
  obtain ⟨T5, X5, q5, st5⟩ := X3.sget hexec hown (wk W (.fieldLink "java/lang/String" 38 "java/lang/String" "COMPACT_STRINGS" "Z")) s1 (fun _ _ h => by rw [hh3]; exact h) (g := (mkF m 27 #[.val (.ref a), .val (.ref b), .val (.int (Int32.ofNat o)), .val (.int (Int32.ofNat len)), .val .null, .unset] [])) rfl (hb hbytes d27)
  have hh5 := q5.trans hh3
  have c6 : Steps p.tables e below (s₁.setTop (entryFrame m #[.ref a, .ref b, .int (Int32.ofNat o), .int (Int32.ofNat len), .null] 6)) (T5.setTop (mkF m 30 #[.val (.ref a), .val (.ref b), .val (.int (Int32.ofNat o)), .val (.int (Int32.ofNat len)), .val .null, .unset] [.int z])) := c4.trans (st5 _ (Steps.refl _))
  have c7 : Steps p.tables e below (s₁.setTop (entryFrame m #[.ref a, .ref b, .int (Int32.ofNat o), .int (Int32.ofNat len), .null] 6)) (T5.setTop (mkF m 36 #[.val (.ref a), .val (.ref b), .val (.int (Int32.ofNat o)), .val (.int (Int32.ofNat len)), .val .null, .unset] [.int (Int32.ofNat len), .int (Int32.ofNat o), .ref b])) := c6.trans (by
    refine XS.ifNo X5.here hexec rfl (hb hbytes d30) rfl (i0_eq_f hz) ?_
    refine XS.aloadN X5.here hexec rfl (hb hbytes d33) rfl rfl ?_
    refine XS.iloadN X5.here hexec rfl (hb hbytes d34) rfl ?_
    refine XS.iloadN X5.here hexec rfl (hb hbytes d35) rfl ?_
    exact Steps.refl _)
  obtain ⟨v8, T8, X8, E8, g8⟩ := X5.callS hexec (Cmp3.law l b A o len) hown (wks W (staticW "java/lang/String" 177 Cmp3.yN)) (wk W Cmp3.tab) (W := 0) (Nat.le_of_ble_eq_true rfl) (Nat.le_of_ble_eq_true rfl) (Nat.le_refl _) (by show 0 + len ≤ len; omega) (g := (mkF m 36 #[.val (.ref a), .val (.ref b), .val (.int (Int32.ofNat o)), .val (.int (Int32.ofNat len)), .val .null, .unset] [.int (Int32.ofNat len), .int (Int32.ofNat o), .ref b])) rfl (by rw [hml]; rfl) c7 (argsL := [.ref b, .int (Int32.ofNat o), .int (Int32.ofNat len)]) (rest := []) rfl rfl (by show 2 * 0 + 0 ≤ _; decide) (hb hbytes d36) (⟨rfl, hA.mv X5.warmed.alike hh5, l1, l2, hp⟩)
  obtain ⟨e8, z8⟩ := E8
  obtain ⟨rfl, N, n1, n2, n3, n4, n5, n6⟩ := NewArr.mv _ T5 s _ _ hh5.symm (Vm.Alike.refl _) rfl e8
  rw [hh5] at z8
  have hB1 := hB.keep X8.warmed.alike (n6 _ _ hB.1)
  have hne : s.heap.size ≠ a := (Nat.ne_of_lt (Array.getElem?_eq_some_iff.mp hB.1).1).symm
  have c9 : Steps p.tables e below (s₁.setTop (entryFrame m #[.ref a, .ref b, .int (Int32.ofNat o), .int (Int32.ofNat len), .null] 6)) (T8.setTop (mkF m 39 #[.val (.ref a), .val (.ref b), .val (.int (Int32.ofNat o)), .val (.int (Int32.ofNat len)), .val .null, .unset] [.ref s.heap.size])) := g8
  have c10 : Steps p.tables e below (s₁.setTop (entryFrame m #[.ref a, .ref b, .int (Int32.ofNat o), .int (Int32.ofNat len), .null] 6)) (T8.setTop (mkF m 45 #[.val (.ref a), .val (.ref b), .val (.int (Int32.ofNat o)), .val (.int (Int32.ofNat len)), .val .null, .val (.ref s.heap.size)] [.int (Int32.ofNat N.slots.size), .ref s.heap.size, .ref a])) := by
    have hc : Steps p.tables e below (s₁.setTop (entryFrame m #[.ref a, .ref b, .int (Int32.ofNat o), .int (Int32.ofNat len), .null] 6)) (T8.setTop (mkF m 45 #[.val (.ref a), .val (.ref b), .val (.int (Int32.ofNat o)), .val (.int (Int32.ofNat len)), .val .null, .val (.ref s.heap.size)] [.int (Int32.ofNat len), .ref s.heap.size, .ref a])) := c9.trans (by
      refine XS.astore X8.here hexec rfl (hb hbytes d39) rfl rfl rfl ?_
      refine XS.aloadN X8.here hexec rfl (hb hbytes d41) rfl rfl ?_
      refine XS.aload X8.here hexec rfl (hb hbytes d42) rfl rfl ?_
      refine XS.iloadN X8.here hexec rfl (hb hbytes d44) rfl ?_
      exact Steps.refl _)
    rw [n4]; exact hc
  obtain ⟨v11, T11, X11, E11, g11⟩ := X8.callS hexec (CodL.law l s.heap.size N) hown (wks W (staticW "java/lang/String" 47 CodL.yN)) (wk W CodL.tab) (W := 1) (Nat.le_of_ble_eq_true rfl) (Nat.le_of_ble_eq_true rfl) (Nat.le_refl _) (by show 0 + len + 0 ≤ len; omega) (g := (mkF m 45 #[.val (.ref a), .val (.ref b), .val (.int (Int32.ofNat o)), .val (.int (Int32.ofNat len)), .val .null, .val (.ref s.heap.size)] [.int (Int32.ofNat N.slots.size), .ref s.heap.size, .ref a])) rfl (by rw [hml]; rfl) c10 (argsL := [.ref s.heap.size, .int (Int32.ofNat N.slots.size)]) (rest := [.ref a]) rfl rfl (by show 2 * 0 + (1 + 0) ≤ _; decide) (hb hbytes d45) (⟨rfl, n1⟩)
  obtain ⟨rfl, q11⟩ := E11
  have hB11 := hB1.mv (X8.warmed.alike.symm.trans X11.warmed.alike) q11
  have c12 : Steps p.tables e below (s₁.setTop (entryFrame m #[.ref a, .ref b, .int (Int32.ofNat o), .int (Int32.ofNat len), .null] 6)) (T11.setTop (mkF m 48 #[.val (.ref a), .val (.ref b), .val (.int (Int32.ofNat o)), .val (.int (Int32.ofNat len)), .val .null, .val (.ref s.heap.size)] [.int 0, .ref a])) := g11
  obtain ⟨T13, X13, p13, bl13, sl13, st13⟩ := X11.finit hexec hown (wk W (.fieldLink "java/lang/String" 15 "java/lang/String" "coder" "B")) (Or.inr ⟨_, (wk W (.laysFinal "java/lang/String" "java/lang/String" "coder" "B"))⟩) (Or.inl ⟨rfl, hnm⟩) f2 (Or.inl rfl) hB11 (t := .byte) (by decide +kernel) rfl (g := (mkF m 48 #[.val (.ref a), .val (.ref b), .val (.int (Int32.ofNat o)), .val (.int (Int32.ofNat len)), .val .null, .val (.ref s.heap.size)] [.int 0, .ref a])) rfl (rest := []) rfl (hb hbytes d48)
  have c14 : Steps p.tables e below (s₁.setTop (entryFrame m #[.ref a, .ref b, .int (Int32.ofNat o), .int (Int32.ofNat len), .null] 6)) (T13.setTop (mkF m 54 #[.val (.ref a), .val (.ref b), .val (.int (Int32.ofNat o)), .val (.int (Int32.ofNat len)), .val .null, .val (.ref s.heap.size)] [.ref s.heap.size, .ref a])) := (c12.trans (st13 _ (Steps.refl _))).trans (by
    refine XS.aloadN X13.here hexec rfl (hb hbytes d51) rfl rfl ?_
    refine XS.aload X13.here hexec rfl (hb hbytes d52) rfl rfl ?_
    exact Steps.refl _)
  obtain ⟨T15, X15, p15, bl15, sl15, st15⟩ := X13.finit hexec hown (wk W (.fieldLink "java/lang/String" 9 "java/lang/String" "value" "[B")) (Or.inr ⟨_, (wk W (.laysFinal "java/lang/String" "java/lang/String" "value" "[B"))⟩) (Or.inl ⟨rfl, hnm⟩) f1 (Or.inl rfl) bl13 (t := (.array .byte)) (by decide +kernel) rfl (g := (mkF m 54 #[.val (.ref a), .val (.ref b), .val (.int (Int32.ofNat o)), .val (.int (Int32.ofNat len)), .val .null, .val (.ref s.heap.size)] [.ref s.heap.size, .ref a])) rfl (rest := []) rfl (hb hbytes d54)
  have c16 : Steps p.tables e below (s₁.setTop (entryFrame m #[.ref a, .ref b, .int (Int32.ofNat o), .int (Int32.ofNat len), .null] 6)) (T15.setTop (mkF m 57 #[.val (.ref a), .val (.ref b), .val (.int (Int32.ofNat o)), .val (.int (Int32.ofNat len)), .val .null, .val (.ref s.heap.size)] [])) := c14.trans (st15 _ (Steps.refl _))
  have ap := apart (Or.inr ⟨_, (wk W (.laysFinal "java/lang/String" "java/lang/String" "value" "[B"))⟩) (Or.inr ⟨_, (wk W (.laysFinal "java/lang/String" "java/lang/String" "coder" "B"))⟩) f1 f2 (t₁ := .array .byte) (t₂ := .byte) (by decide +kernel) (by decide +kernel) (by decide)
  have al := X8.warmed.alike.symm.trans X15.warmed.alike
  have n7 : T11.heap[s.heap.size]? = some N := by rw [q11]; exact n1.1
  exact ⟨T15, none, _, _, _, X15, by simp, rfl, by omega, (fun _ => rfl), ⟨rfl, _, N, bl15, ((Same.refl D _).set _ (by simp)).set _ (by simp), sl15, (Cell.slots_setSlot_ne _ ap).trans sl13, n1.keep al (p15.other hne (p13.other hne n7)), n2, by rw [al.findClass]; exact n3, n4, n5, fun y c h1 h2 => p15.other h1 (p13.other h1 (by rw [q11]; exact n6 y c h2)), by rw [p15.2.2, p13.2.2, q11]; exact z8⟩, fun fs hl => c16.trans (X15.returnOut hexec hret (hb hbytes d57) hl)⟩
end New4
namespace New1
def yN : MethodName := ⟨"java/lang/String", "<init>", "([C)V"⟩
abbrev yB : ByteArray := jdk_42_method_3_code
theorem d0 : decode yB 0 = .ok (.aload_n 0, 1) := by decide +kernel
theorem d1 : decode yB 1 = .ok (.aload_n 1, 1) := by decide +kernel
theorem d2 : decode yB 2 = .ok (.iconst 0, 1) := by decide +kernel
theorem d3 : decode yB 3 = .ok (.aload_n 1, 1) := by decide +kernel
theorem d4 : decode yB 4 = .ok (.arraylength, 1) := by decide +kernel
theorem d5 : decode yB 5 = .ok (.aconst_null, 1) := by decide +kernel
theorem d6 : decode yB 6 = .ok (.invokespecial 27, 3) := by decide +kernel
theorem d9 : decode yB 9 = .ok (.return_, 1) := by decide +kernel
def site : List Cond := [New4.tab] ++ initW "java/lang/String" 27 New4.yN
def tab : Cond := tabOf yN yB 2 none site
def P (a : Addr) (D : Cell) (fV fC : Field) (b : Addr) (A : Cell) (z : Int32) (args : Array Value) (s : State) : Prop := args = #[.ref a, .ref b] ∧ Blank "java/lang/String" a D s ∧ Found "java/lang/String" "value" "[B" fV s ∧ Found "java/lang/String" "coder" "B" fC s ∧ Ch b A s ∧ StaticIs s "java/lang/String" "COMPACT_STRINGS" "Z" (.int z) ∧ ¬ z = 0 ∧ 0 < A.slots.size ∧ A.slots.size ≤ 536870912 ∧ ∀ i, i < A.slots.size → ¬ 255 < cv A i
def E (a : Addr) (D : Cell) (fV fC : Field) (A : Cell) (r : Option Value) (s u : State) : Prop := Got a D fV fC A 0 A.slots.size r s u
/-- new String(chars), not empty, no char above 255: a Latin-1 String of their low bytes -/
theorem law (l : Launch) (a : Addr) (D : Cell) (fV fC : Field) (b : Addr) (A : Cell) (z : Int32) : Law l yN 2 1 3 52 yB 2 none site (P a D fV fC b A z) (E a D fV fC A) [⟨a, fC.slot⟩, ⟨a, fV.slot⟩] 1 A.slots.size := by
  refine Law.of_walk (plainFor_of_name (by decide +kernel)) (by decide +kernel) (by decide +kernel) (by decide) (fun _ _ h => by rw [h.1]; rfl) (fun _ U U' hal hh h => ⟨h.1, h.2.1.mv hal hh, h.2.2.1.al hal, h.2.2.2.1.al hal, h.2.2.2.2.1.mv hal hh, h.2.2.2.2.2.1.there hal hh, h.2.2.2.2.2.2⟩) (fun r U U' V V' h1 hal h2 h => Got.mv r U U' V V' h1 hal h2 h) ?_
  intro p e s m args below meth c s₁ X0 hexec hbytes hml hret hlk hnm hown hh0 W hP
  obtain ⟨rfl, hB, f1, f2, hA, s1, hz, l0, l2, hp⟩ := hP
  have c1 : Steps p.tables e below (s₁.setTop (entryFrame m #[.ref a, .ref b] 2)) (s₁.setTop (mkF m 0 #[.val (.ref a), .val (.ref b)] [])) := entry rfl
  have c2 : Steps p.tables e below (s₁.setTop (entryFrame m #[.ref a, .ref b] 2)) (s₁.setTop (mkF m 6 #[.val (.ref a), .val (.ref b)] [.null, .int (Int32.ofNat A.slots.size), .int 0, .ref b, .ref a])) := c1.trans (by
    refine XS.aloadN X0.here hexec rfl (hb hbytes d0) rfl rfl ?_
    refine XS.aloadN X0.here hexec rfl (hb hbytes d1) rfl rfl ?_
    refine iconstV X0.here hexec rfl 0 (hb hbytes d2) (by decide) ?_
    refine XS.aloadN X0.here hexec rfl (hb hbytes d3) rfl rfl ?_
    refine X0.alen hexec (hA.1.mv X0.warmed.alike hh0) rfl rfl (hb hbytes d4) ?_
    refine XS.aconstNull X0.here hexec rfl (hb hbytes d5) ?_
    exact Steps.refl _)
  obtain ⟨v3, T3, X3, E3, g3⟩ := X0.callN hexec (New4.law l a D fV fC b A z 0 A.slots.size) rfl hown (wks W (initW "java/lang/String" 27 New4.yN)) (W New4.tab (by simp only [site, List.mem_cons, List.mem_append, true_or, or_true])) (W := 0) (Nat.le_of_ble_eq_true rfl) (Nat.le_of_ble_eq_true rfl) (Nat.le_refl _) (by show 0 + A.slots.size ≤ A.slots.size; omega) (g := (mkF m 6 #[.val (.ref a), .val (.ref b)] [.null, .int (Int32.ofNat A.slots.size), .int (Int32.ofNat 0), .ref b, .ref a])) rfl (by rw [hml]; rfl) c2 (argsL := [.ref b, .int (Int32.ofNat 0), .int (Int32.ofNat A.slots.size), .null]) (rest := []) rfl rfl (by show 2 * 0 + 0 ≤ _; decide) (hb hbytes d6) (⟨rfl, hB.mv X0.warmed.alike hh0, f1.al X0.warmed.alike, f2.al X0.warmed.alike, hA.mv X0.warmed.alike hh0, s1.there X0.warmed.alike hh0, hz, l0, by omega, l2, fun i hi => by rw [Nat.zero_add]; exact hp i hi⟩)
  have e0 := Got.mv _ s₁ s _ _ hh0.symm (Vm.Alike.refl _) rfl E3
  obtain rfl := e0.1
  have c4 : Steps p.tables e below (s₁.setTop (entryFrame m #[.ref a, .ref b] 2)) (T3.setTop (mkF m 9 #[.val (.ref a), .val (.ref b)] [])) := g3
  exact ⟨T3, none, _, _, _, X3, by simp, rfl, by omega, (fun _ => rfl), e0, fun fs hl => c4.trans (X3.returnOut hexec hret (hb hbytes d9) hl)⟩
theorem pays {l : Launch} {R : Room} {p : Program} {e : Env} {below : List Frame} {s : State} {sargs : Array Value} {len W : Nat} (a : Addr) (D : Cell) (fV fC : Field) (b : Addr) (A : Cell) (z : Int32) (htab : tab.before sargs s = true) (hfr : 4 ≤ R.frames) (hlo : W + 65 ≤ R.locals) :
    Back l R p e below s sargs yN len W (fun A₁ a₁ => A₁.cells + 1 ≤ R.cells ∧ A₁.slots + A.slots.size ≤ R.slots ∧ P a D fV fC b A z a₁ A₁.U) (fun A₁ _ v₁ B₁ => E a D fV fC A v₁ A₁.U B₁.U ∧ B₁.locs = A₁.locs ++ [⟨a, fC.slot⟩, ⟨a, fV.slot⟩] ∧ B₁.cells = A₁.cells + 1 ∧ B₁.slots = A₁.slots + A.slots.size) :=
  (law l a D fV fC b A z).pays htab hfr (by omega)
end New1
end StrChars
namespace StrChars.Road
open Jvm Sem ClassFile Op Lib Jvm.Stand Jvm.Free Jvm.Free.XT
open Jvm.Lib.Cold (StaticIs)
abbrev ST : String := "java/lang/String"
/-- every table word that New1's law asks, flat -/
abbrev words : List Jvm.Cond := [.code New1.yN New1.yB 2 none, .initialized ST, .methodLink ST 27 New4.yN, .instanceMethod New4.yN,
  .code New4.yN New4.yB 6 none, .fieldLink ST 38 ST "COMPACT_STRINGS" "Z", .laysFinal ST ST "value" "[B", .fieldLink ST 9 ST "value" "[B", .laysFinal ST ST "coder" "B", .fieldLink ST 15 ST "coder" "B",
  .methodLink ST 1 Lib.objectInit, .instanceMethod Lib.objectInit, .code Lib.objectInit ⟨#[0xb1]⟩ 1 none, .methodLink ST 177 Cmp3.yN, .static Cmp3.yN, .methodLink ST 47 CodL.yN, .static CodL.yN,
  .code Cmp3.yN Cmp3.yB 6 (some (.array .byte)), .initialized U16, .arrayClass .byte, .methodLink U16 115 Cmp5.yN, .static Cmp5.yN, .code Cmp5.yN Cmp5.yB 7 (some .int), .code CodL.yN CodL.yB 2 (some .byte)]
theorem tab_of {a : Array Value} {s : State} (h : ∀ w ∈ words, w.before a s = true) : New1.tab.before a s = true := by
  have h5 : Cmp5.tab.before a s = true := unparts (wk h (.code Cmp5.yN Cmp5.yB 7 (some .int))) (wks h (.initialized Cmp5.yN.cls :: Cmp5.site))
  have hc : CodL.tab.before a s = true := unparts (wk h (.code CodL.yN CodL.yB 2 (some .byte))) (wks h (.initialized CodL.yN.cls :: CodL.site))
  have q5 : ∀ w ∈ Cmp5.tab :: words, w.before a s = true := fun w hw => (List.mem_cons.mp hw).elim (fun e => e ▸ h5) (h w)
  have h3 : Cmp3.tab.before a s = true := unparts (wk q5 (.code Cmp3.yN Cmp3.yB 6 (some (.array .byte)))) (wks q5 (.initialized Cmp3.yN.cls :: Cmp3.site))
  have q3 : ∀ w ∈ Cmp3.tab :: CodL.tab :: words, w.before a s = true := fun w hw => (List.mem_cons.mp hw).elim (fun e => e ▸ h3) fun hw => (List.mem_cons.mp hw).elim (fun e => e ▸ hc) (h w)
  have h4 : New4.tab.before a s = true := unparts (wk q3 (.code New4.yN New4.yB 6 none)) (wks q3 (.initialized New4.yN.cls :: New4.site))
  have q4 : ∀ w ∈ New4.tab :: words, w.before a s = true := fun w hw => (List.mem_cons.mp hw).elim (fun e => e ▸ h4) (h w)
  exact unparts (wk q4 (.code New1.yN New1.yB 2 none)) (wks q4 (.initialized New1.yN.cls :: New1.site))
/-- the words ride from the start Z to the walk's own state -/
theorem moved {Z s : State} {a0 args : Array Value} (hZ : Z.Warmed39 s.vm) (hw : ∀ d ∈ words, d.before a0 Z = true) : ∀ d ∈ words, d.before args s = true := fun d hd => by
  have q := hw d hd
  have t : ∀ d ∈ words, d = .arrayClass .byte ∨ (d.onTables && d.keepsFace) = true := by decide +kernel
  rcases t d hd with rfl | t
  · exact RoadKit.mvA hZ q
  · exact RoadKit.mv hZ q t
/-- WHAT COMES BACK, over the tables of the start Z: h the heap at the call, h' behind it -/
def Q (Z : State) (x : Addr) (A : Cell) (h : Heap) (v : Option Value) (h' : Heap) (L : List Loc) : Prop := v = none ∧ (∀ y ∈ L, y.base = x) ∧ RoadKit.Keep h h' [x] ∧ h'.size = h.size + 1 ∧ RoadKit.Exa Z h' x ST ∧ RoadKit.Fld Z h' x ST "value" "[B" (.ref h.size) ∧ RoadKit.Fld Z h' x ST "coder" "B" (.int 0) ∧
  (∃ V : Cell, RoadKit.Arr Z h' h.size V .byte ∧ V.vm = .none ∧ Z.vm.findClass "[B" = some V.cls ∧ V.slots.size = A.slots.size ∧ ∀ j, j < A.slots.size → V.slots[j]? = some (.int (lo8 (cv A j)))) ∧
  ∀ (O n d : String) (w : Value), RoadKit.Fld Z h x O n d w → RoadKit.slotOf Z O n d ≠ RoadKit.slotOf Z ST "value" "[B" → RoadKit.slotOf Z O n d ≠ RoadKit.slotOf Z ST "coder" "B" → RoadKit.Fld Z h' x O n d w
/-- **new String(chars) AT A CALL, IN THE ROAD'S FORM**: for specialBack behind newO: x the fresh String, b the char[] with the cell A -/
theorem back {p : Program} {l : Launch} {e : Env} {R : Room} {s : State} {args : Array Value} {below : List Frame} {len W : Nat} {Z : State} {a0 : Array Value} {h : Heap} (hZ : Z.Warmed39 s.vm) (hw : ∀ d ∈ words, d.before a0 Z = true) {kI : Nat} (wi : (Jvm.Cond.instantiable ST kI).before a0 Z = true)
    {x b : Addr} {A : Cell} {z : Int32} {v0 c0 : Value} (E : RoadKit.Exa Z h x ST) (V : RoadKit.Fld Z h x ST "value" "[B" v0) (C : RoadKit.Fld Z h x ST "coder" "B" c0) (K : RoadKit.Arr Z h b A .char) (hty : Typed .char A) (S : RoadKit.Sta Z h ST "COMPACT_STRINGS" "Z" (.int z)) (hz : ¬ z = 0)
    (l0 : 0 < A.slots.size) (l2 : A.slots.size ≤ 536870912) (hp : ∀ i, i < A.slots.size → ¬ 255 < cv A i) (hfr : 4 ≤ R.frames) (hlo : W + 65 ≤ R.locals) :
    Back l R p e below s args New1.yN len W (fun P a => a = #[.ref x, .ref b] ∧ P.U.heap = h ∧ P.cells + 1 ≤ R.cells ∧ P.slots + A.slots.size ≤ R.slots)
      (fun P _ v B => ∃ L, Q Z x A h v B.U.heap L ∧ B.locs = P.locs ++ L ∧ B.cells = P.cells + 1 ∧ B.slots = P.slots + A.slots.size) := by
  intro m meth c P g ig mk a X hg hsize hdg hW hn hp'
  obtain ⟨rfl, rfl, r1, r2⟩ := hp'
  have al : Z.vm.Alike P.U.vm := hZ.alike.trans X.warmed.alike
  obtain ⟨D, cfV, kV, iV, fV, hD, gV, stV, knV, obV, asV, slV⟩ := id V
  obtain ⟨D', cfC, kC, iC, fC, hD', gC, stC, -, -, asC, slC⟩ := id C
  cases hD.symm.trans hD'
  obtain ⟨D2, kD, e1, e2, e3, e4, e5⟩ := id E
  cases hD.symm.trans e1
  obtain ⟨c2, k2, i1, i2, i3, -⟩ := Cond.instantiable_spec wi
  cases e2.symm.trans i1
  cases e3.symm.trans i2
  obtain ⟨kU, u1, u2⟩ := al.2.2 _ _ e3
  have hB : Blank ST x D P.U := ⟨hD, ⟨knV, fun q hq => by rw [hq] at obV; cases obV⟩, by rw [al.findClass]; exact e2, kU, u1, by rw [u2]; exact i3, by rw [u2]; exact e5 i3⟩
  have F1 : Found ST "value" "[B" fV P.U := ⟨SBG.found_only al ⟨cfV, kV, iV, gV⟩, stV⟩
  have F2 : Found ST "coder" "B" fC P.U := ⟨SBG.found_only al ⟨cfC, kC, iC, gC⟩, stC⟩
  have hA : Ch b A P.U := ⟨⟨K.1, State.isArrayOf_alike al K.2.1, K.2.2, by omega⟩, hty⟩
  have hS : StaticIs P.U ST "COMPACT_STRINGS" "Z" (.int z) := by
    obtain ⟨cfS, iS, kS, fS, st, cS, t1, t2, t3, t4, t5, t6, t7⟩ := S
    exact StaticIs.there (s := { Z with heap := P.U.heap }) ⟨cfS, iS, kS, fS, st, cS, t1, t2, t3, t4, t5, (fun q => by rw [q] at t6; cases t6), t7⟩ al rfl
  obtain ⟨v, B, X', ⟨⟨hv, E', V', q1, q2, q3, q4, q5, q6, q7, q8, q9, q10, q11⟩, hl, hc, hs⟩, st⟩ := New1.pays x D fV fC b A z (tab_of (moved hZ hw)) hfr hlo m meth c P g ig mk _ X hg hsize hdg hW hn ⟨r1, r2, rfl, hB, F1, F2, hA, hS, hz, l0, l2, hp⟩
  have al' : Z.vm.Alike B.U.vm := hZ.alike.trans X'.warmed.alike
  have hsz : E'.slots.size = D.slots.size := by
    obtain ⟨-, -, -, kB, w1, w2, w3⟩ := q1
    obtain ⟨kB', y1, y2⟩ := al'.2.2 _ _ e3
    rw [q2.2.1] at w1
    cases w1.symm.trans y1
    rw [w3, e5 i3, y2]
  refine ⟨v, B, X', ⟨_, ⟨hv, ?_, ⟨by omega, fun y cy hy hn' => q10 y cy (by simpa using hn') hy, fun y cy hy => ?_⟩, q11, ⟨E', _, q1.1, by rw [q2.2.1]; exact e2, by rw [q2.2.1]; exact e3, by rw [q2.1]; exact obV, fun _ => by rw [hsz]; exact e5 i3⟩,
    ⟨E', cfV, kV, iV, fV, q1.1, gV, stV, by rw [q2.1]; exact knV, by rw [q2.1]; exact obV, by rw [q2.2.1]; exact asV, q3⟩, ⟨E', cfC, kC, iC, fC, q1.1, gC, stC, by rw [q2.1]; exact knV, by rw [q2.1]; exact obV, by rw [q2.2.1]; exact asC, q4⟩,
    ⟨V', ⟨q5.1, State.isArrayOf_alike al'.symm q5.2.1, q5.2.2.1⟩, q6, by rw [← al'.findClass]; exact q7, q8, fun j hj => by have := q9 j hj; rwa [Nat.zero_add] at this⟩, fun O n d w F n1 n2 => ?_⟩, hl, hc, hs⟩, st⟩
  · intro y hy
    simp only [List.mem_cons, List.not_mem_nil, or_false] at hy
    rcases hy with rfl | rfl <;> rfl
  · by_cases q : y = x
    · subst q
      cases hD.symm.trans hy
      exact ⟨E', q1.1, q2.2.1, q2.1, hsz⟩
    · exact ⟨cy, q10 y cy q hy, rfl, rfl, rfl⟩
  · obtain ⟨D3, cf, k, i, f, g1, g2, g3, g4, g5, g6, g7⟩ := F
    cases hD.symm.trans g1
    simp only [RoadKit.slotOf, g2, gV, gC, Option.map_some, Option.getD_some] at n1 n2
    exact ⟨E', cf, k, i, f, q1.1, g2, g3, by rw [q2.1]; exact g4, by rw [q2.1]; exact g5, by rw [q2.2.1]; exact g6, by rw [q2.2.2 f.slot (by simp [n1, n2])]; exact g7⟩
end StrChars.Road
namespace StrChars.Road
open Jvm Sem ClassFile Op Lib Jvm.Stand Jvm.Free Jvm.Free.XT
/-- WHAT COMES BACK, the byte[] as a list of values -/
def QA (Z : State) (x : Addr) (zn : Int32) (cs : List Int32) (h : Heap) (v : Option Value) (h' : Heap) (L : List Loc) : Prop := v = none ∧ (∀ y ∈ L, y.base = x) ∧ RoadKit.Keep h h' [x] ∧ h'.size = h.size + 1 ∧ RoadKit.Exa Z h' x ST ∧ RoadKit.Fld Z h' x ST "value" "[B" (.ref h.size) ∧ RoadKit.Fld Z h' x ST "coder" "B" (.int 0) ∧
  (∃ kb, Z.vm.findClass "[B" = some kb ∧ RoadKit.Arv Z h' h.size kb .byte zn (cs.map fun c => .int (lo8 c)) (.int 0)) ∧
  ∀ (O n d : String) (w : Value), RoadKit.Fld Z h x O n d w → RoadKit.slotOf Z O n d ≠ RoadKit.slotOf Z ST "value" "[B" → RoadKit.slotOf Z O n d ≠ RoadKit.slotOf Z ST "coder" "B" → RoadKit.Fld Z h' x O n d w
/-- **new String(chars) AT A CALL, THE ARRAYS AS LISTS**: the char[] at b holds cs, not empty, no char above 255 -/
theorem backArv {p : Program} {l : Launch} {e : Env} {R : Room} {s : State} {args : Array Value} {below : List Frame} {len W : Nat} {Z : State} {a0 : Array Value} {h : Heap} (hZ : Z.Warmed39 s.vm) (hw : ∀ d ∈ words, d.before a0 Z = true) {kI : Nat} (wi : (Jvm.Cond.instantiable ST kI).before a0 Z = true)
    {x b : Addr} {k : ClassId} {zn z : Int32} {cs : List Int32} {dv v0 c0 : Value} (E : RoadKit.Exa Z h x ST) (V : RoadKit.Fld Z h x ST "value" "[B" v0) (C : RoadKit.Fld Z h x ST "coder" "B" c0) (K : RoadKit.Arv Z h b k .char zn (cs.map Value.int) dv) (S : RoadKit.Sta Z h ST "COMPACT_STRINGS" "Z" (.int z)) (hz : ¬ z = 0)
    (hlen : zn.toNatClampNeg = cs.length) (h0 : 0 < cs.length) (hbig : cs.length ≤ 536870912) (hall : ∀ c ∈ cs, ¬ 255 < c) (hfr : 4 ≤ R.frames) (hlo : W + 65 ≤ R.locals) :
    Back l R p e below s args New1.yN len W (fun P a => a = #[.ref x, .ref b] ∧ P.U.heap = h ∧ P.cells + 1 ≤ R.cells ∧ P.slots + cs.length ≤ R.slots)
      (fun P _ v B => ∃ L, QA Z x zn cs h v B.U.heap L ∧ B.locs = P.locs ++ L ∧ B.cells = P.cells + 1 ∧ B.slots = P.slots + cs.length) := by
  obtain ⟨A, K1, K2, K3, K4, K5, K6⟩ := K
  have e : A.slots.size = cs.length := K3.trans hlen
  have hat : ∀ (i : Nat) (hi : i < cs.length), A.slots[i]? = some (.int cs[i]) := fun i hi => by rw [K5 i (by omega)]; simp [List.getD_eq_getElem?_getD, hi]
  have hcv : ∀ (i : Nat) (hi : i < cs.length), cv A i = cs[i] := fun i hi => by unfold cv; rw [hat i hi]
  have hty : Typed .char A := fun i v hv => by
    have hi : i < A.slots.size := (Array.getElem?_eq_some_iff.mp hv).1
    have q := K5 i hi
    rw [hv] at q
    rw [Option.some.inj q]
    exact K6 i hi
  refine Back.mono (back hZ hw wi E V C K1 hty S hz (by omega) (by omega) (fun i hi => by rw [hcv i (by omega)]; exact hall _ (List.getElem_mem _)) hfr hlo) (fun P a hp => ⟨hp.1, hp.2.1, hp.2.2.1, by rw [e]; exact hp.2.2.2⟩) (fun P a v B hp hq => ?_)
  obtain ⟨L, ⟨q1, q2, q3, q4, q5, q6, q7, ⟨V', v1, v2, v3, v4, v5⟩, q9⟩, hl, hc, hs⟩ := hq
  refine ⟨L, ⟨q1, q2, q3, q4, q5, q6, q7, ⟨V'.cls, v3, V', v1, rfl, by rw [v4, e, hlen], K4, fun i hi => ?_, fun i hi => ?_⟩, q9⟩, hl, hc, by rw [hs, e]⟩
  · have hi' : i < cs.length := by omega
    rw [v5 i (by omega), hcv i hi']; simp [List.getD_eq_getElem?_getD, hi']
  · have hi' : i < cs.length := by omega
    simp only [List.getD_eq_getElem?_getD, List.getElem?_map, List.getElem?_eq_getElem hi', Option.map_some, Option.getD_some]
    exact fits_lo8 _
end StrChars.Road
namespace StrChars.Road
open Jvm Sem ClassFile Op Lib Jvm.Stand Jvm.Free Jvm.Free.XT
/-- WHAT COMES BACK, in the writer's own shape -/
def QV (Z : State) (x : Addr) (N : Int32) (bs : List Int32) (h : Heap) (n0 : Nat) (v : Option Value) (h' : Heap) (L : List Loc) : Prop := v = none ∧ RoadKit.Fr n0 L ∧ RoadKit.Keep h h' [x] ∧ RoadKit.Exa Z h' x ST ∧ RoadKit.Fld Z h' x ST "coder" "B" (.int 0) ∧
  ∃ (t : Addr) (kb : ClassId), n0 ≤ t ∧ h.size ≤ t ∧ ¬ t = x ∧ RoadKit.Fld Z h' x ST "value" "[B" (.ref t) ∧ RoadKit.Arv Z h' t kb .byte N (bs.map Value.int) (.int 0)
/-- **new String(chars) AT A CALL, FOR THE WRITER**: a char[] of n known ints, each 0 to 255 -/
theorem backV {p : Program} {l : Launch} {e : Env} {R : Room} {s : State} {args : Array Value} {below : List Frame} {len W : Nat} {Z : State} {a0 : Array Value} {h : Heap} (hZ : Z.Warmed39 s.vm) (hw : ∀ d ∈ words, d.before a0 Z = true) {kI : Nat} (wi : (Jvm.Cond.instantiable ST kI).before a0 Z = true)
    {x b : Addr} {kC : ClassId} {cs bs : List Int32} {d v0 c0 : Value} {z N : Int32} {n n0 : Nat} (hx0 : n0 ≤ x) (hh0 : n0 ≤ h.size) (E : RoadKit.Exa Z h x ST) (V : RoadKit.Fld Z h x ST "value" "[B" v0) (C : RoadKit.Fld Z h x ST "coder" "B" c0) (K : RoadKit.Arv Z h b kC .char N (cs.map Value.int) d) (S : RoadKit.Sta Z h ST "COMPACT_STRINGS" "Z" (.int z)) (hz : ¬ z = 0)
    (hn : cs.length = n) (hN : N = Int32.ofNat n) (l0 : 0 < n) (l2 : n ≤ 4000) (hp : ∀ c ∈ cs, ¬ c < 0 ∧ ¬ (255 : Int32) < c) (hb : bs = cs.map (fun c => c.toInt8.toInt32)) (hfr : 4 ≤ R.frames) (hlo : W + 65 ≤ R.locals) :
    Back l R p e below s args (⟨"java/lang/String", "<init>", "([C)V"⟩ : MethodName) len W (fun P a => a = #[.ref x, .ref b] ∧ P.U.heap = h ∧ P.cells + 1 ≤ R.cells ∧ P.slots + n ≤ R.slots)
      (fun P _ v B => ∃ L, QV Z x N bs h n0 v B.U.heap L ∧ B.locs = P.locs ++ L ∧ B.cells = P.cells + 1 ∧ B.slots = P.slots + n) := by
  subst hn hN hb
  refine Back.mono (backArv hZ hw wi E V C K S hz (n32 (by omega)) l0 (by omega) (fun c hc => (hp c hc).2) hfr hlo) (fun P a hp => hp) (fun P a v B hp hq => ?_)
  obtain ⟨L, ⟨q1, q2, q3, q4, q5, q6, q7, ⟨kb, v1, v2⟩, q9⟩, hl, hc, hs⟩ := hq
  exact ⟨L, ⟨q1, fun y hy => by rw [q2 y hy]; exact hx0, q3, q5, q7, h.size, kb, hh0, Nat.le_refl _, Nat.ne_of_gt E.lt, q6, by rw [List.map_map]; exact v2⟩, hl, hc, hs⟩
end StrChars.Road
namespace StrChars
open Jvm Sem ClassFile Op Lib Jvm.Stand Jvm.Free.XT Jvm.Free.ALB Jvm.Free.JM Jvm.Free
open Jvm.Lib.Cold (StaticIs)
def hi8 (x : Int32) : Int32 := lo8 (x >>> ((8 : Int32) &&& 31))
/-- what StringUTF16.getChar makes of two bytes -/
def pairCh (u v : Int32) : Int32 := (((u &&& 255) <<< ((0 : Int32) &&& 31)) ||| ((v &&& 255) <<< ((8 : Int32) &&& 31))).toUInt32.toUInt16.toUInt32.toInt32
theorem shr0 (c : Int32) : c >>> ((0 : Int32) &&& 31) = c := by
  have e : ((0 : Int32) &&& 31) = 0 := by decide
  rw [e]
  apply Int32.toBitVec_inj.mp
  rw [Int32.toBitVec_shiftRight]
  have e1 : ((0 : Int32).toBitVec.smod 32) = 0#32 := by decide
  rw [e1, BitVec.sshiftRight_eq']
  exact BitVec.sshiftRight_zero
theorem lo8_and (x : Int32) : (lo8 x &&& 255).toBitVec.toNat = x.toBitVec.toNat % 256 := by
  have h : (lo8 x).toBitVec = (x.toBitVec.signExtend 8).signExtend 32 := by rw [lo8, Int8.toBitVec_toInt32, Int32.toBitVec_toInt8]
  rw [Int32.toBitVec_and, BitVec.toNat_and, h]
  have e : ((x.toBitVec.signExtend 8).signExtend 32).toNat % 256 = x.toBitVec.toNat % 256 := by
    rw [BitVec.toNat_signExtend]
    have hlt := x.toBitVec.isLt
    simp only [BitVec.toNat_setWidth, BitVec.toNat_signExtend]
    split <;> split <;> omega
  rw [← e]
  exact Nat.and_two_pow_sub_one_eq_mod _ 8
theorem pair_says {c : Int32} (h0 : ¬ c < 0) (h1 : ¬ 65535 < c) : pairCh (lo8 c) (hi8 c) = c := by
  rw [Int32.lt_iff_toInt_lt] at h0 h1
  have e0 : (0 : Int32).toInt = 0 := rfl
  have e1 : (65535 : Int32).toInt = 65535 := rfl
  have hc : c.toInt = c.toBitVec.toNat := by
    have := c.toBitVec.isLt
    have e : c.toInt = c.toBitVec.toInt := rfl
    rw [e] at h0 h1
    rw [e]
    rw [BitVec.toInt_eq_toNat_cond] at h0 h1 ⊢
    split at h0 <;> split <;> omega
  have hn : c.toBitVec.toNat < 65536 := by omega
  have a1 := lo8_and c
  have a2 : (hi8 c &&& 255).toBitVec.toNat = c.toBitVec.toNat / 256 := by
    rw [hi8, lo8_and]
    have e : ((8 : Int32) &&& 31) = 8 := by decide
    rw [e, Int32.toBitVec_shiftRight]
    have e2 : ((8 : Int32).toBitVec.smod 32) = 8#32 := by decide
    rw [e2, BitVec.sshiftRight_eq', BitVec.toNat_sshiftRight_of_msb_false (by rw [BitVec.msb_eq_false_iff_two_mul_lt]; omega)]
    show c.toBitVec.toNat >>> 8 % 256 = _
    rw [Nat.shiftRight_eq_div_pow]
    omega
  unfold pairCh
  apply Int32.toBitVec_inj.mp
  apply BitVec.eq_of_toNat_eq
  have f0 : ((0 : Int32) &&& 31) = 0 := by decide
  have f8 : ((8 : Int32) &&& 31) = 8 := by decide
  rw [f0, f8]
  have g : (((lo8 c &&& 255) <<< (0 : Int32)) ||| ((hi8 c &&& 255) <<< (8 : Int32))).toBitVec.toNat = c.toBitVec.toNat := by
    rw [Int32.toBitVec_or, Int32.toBitVec_shiftLeft, Int32.toBitVec_shiftLeft]
    have s0 : ((0 : Int32).toBitVec.smod 32) = 0#32 := by decide
    have s8 : ((8 : Int32).toBitVec.smod 32) = 8#32 := by decide
    rw [s0, s8, BitVec.toNat_or]
    simp only [BitVec.shiftLeft_eq', BitVec.toNat_shiftLeft, a1, a2]
    show (c.toBitVec.toNat % 256) <<< 0 % 2 ^ 32 ||| (c.toBitVec.toNat / 256) <<< 8 % 2 ^ 32 = _
    rw [Nat.shiftLeft_zero, Nat.mod_eq_of_lt (show c.toBitVec.toNat % 256 < 2 ^ 32 by omega), Nat.mod_eq_of_lt (show (c.toBitVec.toNat / 256) <<< 8 < 2 ^ 32 by rw [Nat.shiftLeft_eq]; omega), Nat.or_comm, ← Nat.shiftLeft_add_eq_or_of_lt (by omega), Nat.shiftLeft_eq]
    omega
  show BitVec.toNat (((((lo8 c &&& 255) <<< (0 : Int32)) ||| ((hi8 c &&& 255) <<< (8 : Int32))).toBitVec.setWidth 16).setWidth 32) = _
  rw [BitVec.toNat_setWidth, BitVec.toNat_setWidth, g]
  omega
end StrChars
namespace StrChars
open Jvm Sem ClassFile Op Lib Jvm.Stand Jvm.Free.XT Jvm.Free.ALB Jvm.Free.JM Jvm.Free
open Jvm.Lib.Cold (StaticIs)
theorem shr1 {n : Nat} (h : 2 * n < 2 ^ 31) : Int32.ofNat (2 * n) >>> ((1 : Int32) &&& 31) = Int32.ofNat n := by
  have e : ((1 : Int32) &&& 31) = 1 := by decide
  rw [e]
  apply Int32.toBitVec_inj.mp
  rw [Int32.toBitVec_shiftRight]
  have e1 : ((1 : Int32).toBitVec.smod 32) = 1#32 := by decide
  have hm : (BitVec.ofNat 32 (2 * n)).toNat = 2 * n := by rw [BitVec.toNat_ofNat, Nat.mod_eq_of_lt (by omega)]
  rw [e1, BitVec.sshiftRight_eq']
  apply BitVec.eq_of_toNat_eq
  show ((BitVec.ofNat 32 (2 * n)).sshiftRight 1).toNat = (BitVec.ofNat 32 n).toNat
  rw [BitVec.toNat_sshiftRight_of_msb_false (by rw [BitVec.msb_eq_false_iff_two_mul_lt, hm]; omega), hm, BitVec.toNat_ofNat, Nat.shiftRight_eq_div_pow]
  omega
theorem narrow_ch {c : Int32} (h0 : ¬ c < 0) (h1 : ¬ 65535 < c) : narrow .char (.int c) = .int c := by
  have q : narrow .char (.int (pairCh (lo8 c) (hi8 c))) = .int (pairCh (lo8 c) (hi8 c)) := narrow_c _
  rwa [pair_says h0 h1] at q
/-- the array's cell V codes the n chars f 0 .. f (n - 1) by the coder cd, as the JDK does: coder 1 just where some char is above 255 -/
def Cod (cd : Int32) (n : Nat) (f : Nat → Int32) (V : Cell) : Prop := (cd = 0 ∧ V.slots.size = n ∧ ∀ j, j < n → V.slots[j]? = some (.int (lo8 (f j))) ∧ ¬ 255 < f j) ∨ (cd = 1 ∧ V.slots.size = 2 * n ∧ (∀ j, j < n → V.slots[2 * j]? = some (.int (lo8 (f j))) ∧ V.slots[2 * j + 1]? = some (.int (hi8 (f j)))) ∧ ∃ j, j < n ∧ 255 < f j)
theorem Cod.cd {cd : Int32} {n : Nat} {f : Nat → Int32} {V : Cell} (h : Cod cd n f V) : cd = 0 ∨ cd = 1 := h.imp (fun q => q.1) fun q => q.1
theorem Cod.len {cd : Int32} {n : Nat} {f : Nat → Int32} {V : Cell} (h : Cod cd n f V) (hs : V.slots.size < 2 ^ 31) : Int32.ofNat V.slots.size >>> (cd &&& 31) = Int32.ofNat n := by
  rcases h with ⟨rfl, h, -⟩ | ⟨rfl, h, -⟩
  · rw [shr0, h]
  · rw [h, shr1 (by omega)]
/-- **x is a String of the n chars f 0 .. f (n - 1)**, Latin-1 or UTF-16; its array at t has the cell V -/
def Txt (x t : Addr) (V : Cell) (cd : Int32) (n : Nat) (f : Nat → Int32) (U : State) : Prop := Exact "java/lang/String" x U ∧ Has x "java/lang/String" "value" "[B" (.ref t) U ∧ Has x "java/lang/String" "coder" "B" (.int cd) U ∧ XT.Arr .byte t V U ∧ Cod cd n f V ∧ ∀ j, j < n → ¬ f j < 0 ∧ ¬ 65535 < f j
theorem Txt.mv {x t : Addr} {V : Cell} {cd : Int32} {n : Nat} {f : Nat → Int32} {U U' : State} (h : Txt x t V cd n f U) (hal : U.vm.Alike U'.vm) (hh : U'.heap = U.heap) : Txt x t V cd n f U' := ⟨h.1.mv hal hh, h.2.1.mv hal hh, h.2.2.1.mv hal hh, h.2.2.2.1.mv hal hh, h.2.2.2.2⟩
namespace Cdr
def yN : MethodName := ⟨"java/lang/String", "coder", "()B"⟩
abbrev yB : ByteArray := jdk_42_method_152_code
theorem d0 : decode yB 0 = .ok (.getstatic 38, 3) := by decide +kernel
theorem d3 : decode yB 3 = .ok (.ifCond (.eq) 10, 3) := by decide +kernel
theorem d6 : decode yB 6 = .ok (.aload_n 0, 1) := by decide +kernel
theorem d7 : decode yB 7 = .ok (.getfield 15, 3) := by decide +kernel
theorem d10 : decode yB 10 = .ok (.goto 4, 3) := by decide +kernel
theorem d14 : decode yB 14 = .ok (.ireturn, 1) := by decide +kernel
def site : List Cond := [.fieldLink "java/lang/String" 38 "java/lang/String" "COMPACT_STRINGS" "Z", .fieldLink "java/lang/String" 15 "java/lang/String" "coder" "B"]
def tab : Cond := tabOf yN yB 1 (some .byte) site
def P (x : Addr) (cd z : Int32) (args : Array Value) (s : State) : Prop := args = #[.ref x] ∧ Has x "java/lang/String" "coder" "B" (.int cd) s ∧ (cd = 0 ∨ cd = 1) ∧ StaticIs s "java/lang/String" "COMPACT_STRINGS" "Z" (.int z) ∧ ¬ z = 0
def E (cd : Int32) (r : Option Value) (s u : State) : Prop := XT.PureE (some (.int cd)) r s u
theorem law (l : Launch) (x : Addr) (cd z : Int32) : Law l yN 1 0 0 0 yB 1 (some .byte) site (P x cd z) (E cd) [] 0 0 := by
  refine Law.of_walk (plainFor_of_name (by decide +kernel)) (by decide +kernel) (by decide +kernel) (by decide) (fun _ _ h => by rw [h.1]; rfl) (fun _ U U' hal hh h => ⟨h.1, h.2.1.mv hal hh, h.2.2.1, h.2.2.2.1.there hal hh, h.2.2.2.2⟩) (fun r U U' V V' h1 hal h2 h => XT.PureE.mv r U U' V V' h1 hal h2 h) ?_
  intro p e s m args below meth c s₁ X0 hexec hbytes hml hret hlk hnm hown hh0 W hP
  obtain ⟨rfl, hx, hc, s1, hz⟩ := hP
  have c1 : Steps p.tables e below (s₁.setTop (entryFrame m #[.ref x] 1)) (s₁.setTop (mkF m 0 #[.val (.ref x)] [])) := entry rfl
  obtain ⟨T2, X2, q2, st2⟩ := X0.sget hexec hown (wk W (.fieldLink "java/lang/String" 38 "java/lang/String" "COMPACT_STRINGS" "Z")) s1 (fun _ _ h => by rw [hh0]; exact h) (g := (mkF m 0 #[.val (.ref x)] [])) rfl (hb hbytes d0)
  have hh2 := q2.trans hh0
  have c3 : Steps p.tables e below (s₁.setTop (entryFrame m #[.ref x] 1)) (T2.setTop (mkF m 7 #[.val (.ref x)] [.ref x])) := (c1.trans (st2 _ (Steps.refl _))).trans (by
    refine XS.ifNo X2.here hexec rfl (hb hbytes d3) rfl (i0_eq_f hz) ?_
    refine XS.aloadN X2.here hexec rfl (hb hbytes d6) rfl rfl ?_
    exact Steps.refl _)
  obtain ⟨T4, X4, q4, st4⟩ := X2.hget hexec hown (wk W (.fieldLink "java/lang/String" 15 "java/lang/String" "coder" "B")) (hx.mv X2.warmed.alike hh2) (g := (mkF m 7 #[.val (.ref x)] [.ref x])) rfl (rest := []) rfl (hb hbytes d7)
  have c5 : Steps p.tables e below (s₁.setTop (entryFrame m #[.ref x] 1)) (T4.setTop (mkF m 14 #[.val (.ref x)] [.int cd])) := (c3.trans (st4 _ (Steps.refl _))).trans (by
    refine XS.goto X4.here hexec rfl (pc0 := 10) rfl (hb hbytes d10) (by decide) rfl ?_
    exact Steps.refl _)
  exact ⟨T4, some (.int cd), _, _, _, X4, rfl, rfl, rfl, (fun h => by cases h), ⟨rfl, q4.trans hh2⟩, fun fs hl => c5.trans (X4.ireturnOut hexec hret (by rcases hc with rfl | rfl <;> rfl) (Or.inr (Or.inr (Or.inl rfl))) (hb hbytes d14) hl)⟩
end Cdr
namespace Len
def yN : MethodName := ⟨"java/lang/String", "length", "()I"⟩
abbrev yB : ByteArray := jdk_42_method_54_code
theorem d0 : decode yB 0 = .ok (.aload_n 0, 1) := by decide +kernel
theorem d1 : decode yB 1 = .ok (.getfield 9, 3) := by decide +kernel
theorem d4 : decode yB 4 = .ok (.arraylength, 1) := by decide +kernel
theorem d5 : decode yB 5 = .ok (.aload_n 0, 1) := by decide +kernel
theorem d6 : decode yB 6 = .ok (.invokevirtual 335, 3) := by decide +kernel
theorem d9 : decode yB 9 = .ok (.ishr, 1) := by decide +kernel
theorem d10 : decode yB 10 = .ok (.ireturn, 1) := by decide +kernel
def site : List Cond := [.fieldLink "java/lang/String" 9 "java/lang/String" "value" "[B", Cdr.tab] ++ virtW "java/lang/String" 335 "java/lang/String" Cdr.yN Cdr.yN
def tab : Cond := tabOf yN yB 1 (some .int) site
def P (x t : Addr) (V : Cell) (cd : Int32) (n : Nat) (f : Nat → Int32) (z : Int32) (args : Array Value) (s : State) : Prop := args = #[.ref x] ∧ Txt x t V cd n f s ∧ StaticIs s "java/lang/String" "COMPACT_STRINGS" "Z" (.int z) ∧ ¬ z = 0
def E (n : Nat) (r : Option Value) (s u : State) : Prop := XT.PureE (some (.int (Int32.ofNat n))) r s u
/-- length() of a String of n chars, in either coding -/
theorem law (l : Launch) (x t : Addr) (V : Cell) (cd : Int32) (n : Nat) (f : Nat → Int32) (z : Int32) : Law l yN 1 0 1 13 yB 1 (some .int) site (P x t V cd n f z) (E n) [] 0 0 := by
  refine Law.of_walk (plainFor_of_name (by decide +kernel)) (by decide +kernel) (by decide +kernel) (by decide) (fun _ _ h => by rw [h.1]; rfl) (fun _ U U' hal hh h => ⟨h.1, h.2.1.mv hal hh, h.2.2.1.there hal hh, h.2.2.2⟩) (fun r U U' V V' h1 hal h2 h => XT.PureE.mv r U U' V V' h1 hal h2 h) ?_
  intro p e s m args below meth c s₁ X0 hexec hbytes hml hret hlk hnm hown hh0 W hP
  obtain ⟨rfl, hx, s1, hz⟩ := hP
  have v31 := hx.2.2.2.1.2.2.2
  have c1 : Steps p.tables e below (s₁.setTop (entryFrame m #[.ref x] 1)) (s₁.setTop (mkF m 1 #[.val (.ref x)] [.ref x])) := Steps.trans (entry rfl) (by
    show Steps p.tables e below (s₁.setTop (mkF m 0 #[.val (.ref x)] [])) _
    refine XS.aloadN X0.here hexec rfl (hb hbytes d0) rfl rfl ?_
    exact Steps.refl _)
  obtain ⟨T2, X2, q2, st2⟩ := X0.hget hexec hown (wk W (.fieldLink "java/lang/String" 9 "java/lang/String" "value" "[B")) (hx.mv X0.warmed.alike hh0).2.1 (g := (mkF m 1 #[.val (.ref x)] [.ref x])) rfl (rest := []) rfl (hb hbytes d1)
  have hh2 := q2.trans hh0
  have hx2 := hx.mv X2.warmed.alike hh2
  have c3 : Steps p.tables e below (s₁.setTop (entryFrame m #[.ref x] 1)) (T2.setTop (mkF m 6 #[.val (.ref x)] [.ref x, .int (Int32.ofNat V.slots.size)])) := (c1.trans (st2 _ (Steps.refl _))).trans (by
    refine X2.alen hexec hx2.2.2.2.1 rfl rfl (hb hbytes d4) ?_
    refine XS.aloadN X2.here hexec rfl (hb hbytes d5) rfl rfl ?_
    exact Steps.refl _)
  obtain ⟨v4, T4, X4, E4, g4⟩ := X2.callV hexec (Cdr.law l x cd z) hown (wks W (virtW "java/lang/String" 335 "java/lang/String" Cdr.yN Cdr.yN)) rfl (by decide) (wk W Cdr.tab) (W := 1) (Nat.le_of_ble_eq_true rfl) (Nat.le_of_ble_eq_true rfl) (Nat.le_refl _) (Nat.le_refl _) (hx2.1.fc X2.warmed.alike) hx2.1.is (g := (mkF m 6 #[.val (.ref x)] [.ref x, .int (Int32.ofNat V.slots.size)])) rfl (by rw [hml]; rfl) c3 (argsL := []) (rest := [.int (Int32.ofNat V.slots.size)]) rfl rfl (by show 2 * 0 + (1 + 0) ≤ _; decide) (hb hbytes d6) (⟨rfl, hx2.2.2.1, hx.2.2.2.2.1.cd, s1.there X2.warmed.alike hh2, hz⟩)
  obtain ⟨rfl, q4⟩ := E4
  have c5 : Steps p.tables e below (s₁.setTop (entryFrame m #[.ref x] 1)) (T4.setTop (mkF m 10 #[.val (.ref x)] [.int (Int32.ofNat V.slots.size >>> (cd &&& 31))])) := Steps.trans g4 (by
    refine ishr X4.here hexec rfl (hb hbytes d9) rfl ?_
    exact Steps.refl _)
  rw [hx.2.2.2.2.1.len v31] at c5
  exact ⟨T4, some (.int (Int32.ofNat n)), _, _, _, X4, rfl, rfl, rfl, (fun h => by cases h), ⟨rfl, q4.trans hh2⟩, fun fs hl => c5.trans (X4.ireturnOut hexec hret rfl (Or.inl rfl) (hb hbytes d10) hl)⟩
theorem pays {l : Launch} {R : Room} {p : Program} {e : Env} {below : List Frame} {s : State} {sargs : Array Value} {len W : Nat} (x t : Addr) (V : Cell) (cd : Int32) (n : Nat) (f : Nat → Int32) (z : Int32) (htab : tab.before sargs s = true) (hfr : 2 ≤ R.frames) (hlo : W + 25 ≤ R.locals) :
    Back l R p e below s sargs yN len W (fun A₁ a₁ => A₁.cells + 0 ≤ R.cells ∧ A₁.slots + 0 ≤ R.slots ∧ P x t V cd n f z a₁ A₁.U) (fun A₁ _ v₁ B₁ => E n v₁ A₁.U B₁.U ∧ B₁.locs = A₁.locs ++ [] ∧ B₁.cells = A₁.cells + 0 ∧ B₁.slots = A₁.slots + 0) :=
  (law l x t V cd n f z).pays htab hfr (by omega)
end Len
end StrChars
namespace StrChars.Road
open Jvm Sem ClassFile Op Lib Jvm.Stand Jvm.Free Jvm.Free.XT
open Jvm.Lib.Cold (StaticIs)
theorem consq {a : Array Value} {s : State} {c : Jvm.Cond} {L : List Jvm.Cond} (h0 : c.before a s = true) (h : ∀ w ∈ L, w.before a s = true) : ∀ w ∈ c :: L, w.before a s = true := fun w hw => (List.mem_cons.mp hw).elim (fun e => e ▸ h0) (h w)
/-- the words of String.length(), either coding -/
abbrev wordsLen : List Jvm.Cond := [.code Len.yN Len.yB 1 (some .int), .initialized ST, .fieldLink ST 9 ST "value" "[B", .fieldLink ST 38 ST "COMPACT_STRINGS" "Z", .fieldLink ST 15 ST "coder" "B", .code Cdr.yN Cdr.yB 1 (some .byte), .methodLink ST 335 Cdr.yN, .declares Cdr.yN, .selects ST Cdr.yN Cdr.yN, .instanceMethod Cdr.yN]
theorem tabLen_of {a : Array Value} {s : State} (h : ∀ w ∈ wordsLen, w.before a s = true) : Len.tab.before a s = true := by
  have hc : Cdr.tab.before a s = true := unparts (wk h (.code Cdr.yN Cdr.yB 1 (some .byte))) (wks h (.initialized Cdr.yN.cls :: Cdr.site))
  have q := consq hc h
  exact unparts (wk q (.code Len.yN Len.yB 1 (some .int))) (wks q (.initialized Len.yN.cls :: Len.site))
theorem movedLen {Z s : State} {a0 args : Array Value} (hZ : Z.Warmed39 s.vm) (hw : ∀ d ∈ wordsLen, d.before a0 Z = true) : ∀ d ∈ wordsLen, d.before args s = true := fun d hd => by
  have q := hw d hd
  have t : ∀ d ∈ wordsLen, d = .arrayClass .byte ∨ (d.onTables && d.keepsFace) = true := by decide +kernel
  rcases t d hd with rfl | t
  · exact RoadKit.mvA hZ q
  · exact RoadKit.mv hZ q t
/-- the bytes of the chars cs, low before high -/
def wideBytes : List Int32 → List Value
  | [] => []
  | c :: cs => .int (lo8 c) :: .int (hi8 c) :: wideBytes cs
theorem wide_lo (d : Value) : ∀ (cs : List Int32) (j : Nat), j < cs.length → (wideBytes cs).getD (2 * j) d = .int (lo8 (cs.getD j 0))
  | [], j, h => absurd h (Nat.not_lt_zero j)
  | c :: cs, 0, _ => rfl
  | c :: cs, j + 1, h => by
    have q := wide_lo d cs j (by simpa using h)
    rw [show 2 * (j + 1) = 2 * j + 1 + 1 from by omega]
    simpa [wideBytes] using q
theorem wide_hi (d : Value) : ∀ (cs : List Int32) (j : Nat), j < cs.length → (wideBytes cs).getD (2 * j + 1) d = .int (hi8 (cs.getD j 0))
  | [], j, h => absurd h (Nat.not_lt_zero j)
  | c :: cs, 0, _ => rfl
  | c :: cs, j + 1, h => by
    have q := wide_hi d cs j (by simpa using h)
    rw [show 2 * (j + 1) + 1 = 2 * j + 1 + 1 + 1 from by omega]
    simpa [wideBytes] using q
theorem low_at (d : Value) (cs : List Int32) (j : Nat) (h : j < cs.length) : (cs.map fun c => Value.int (lo8 c)).getD j d = .int (lo8 (cs.getD j 0)) := by
  simp [List.getD_eq_getElem?_getD, h]
/-- an array of N2 bytes vs codes the chars cs by the coder cd -/
def CodA (cs : List Int32) (cd N2 : Int32) (vs : List Value) : Prop := (cd = 0 ∧ N2 = Int32.ofNat cs.length ∧ vs = (cs.map fun c => Value.int (lo8 c)) ∧ ∀ c ∈ cs, ¬ 255 < c) ∨ (cd = 1 ∧ N2 = Int32.ofNat (2 * cs.length) ∧ vs = wideBytes cs ∧ ∃ c ∈ cs, 255 < c)
theorem CodA.cod {cs : List Int32} {cd N2 : Int32} {vs : List Value} {V : Cell} (h : CodA cs cd N2 vs) (hn : 2 * cs.length < 2 ^ 31) (hs : V.slots.size = N2.toNatClampNeg) (hv : RoadKit.Has V vs (.int 0)) : Cod cd cs.length (fun j => cs.getD j 0) V := by
  rcases h with ⟨rfl, rfl, rfl, h⟩ | ⟨rfl, rfl, rfl, c, hc, hw⟩
  · rw [n32 (by omega)] at hs
    exact Or.inl ⟨rfl, hs, fun j hj => ⟨by rw [hv j (by omega), low_at _ _ _ hj], by
      have e : cs.getD j 0 = cs[j] := by simp [List.getD_eq_getElem?_getD, hj]
      show ¬ 255 < cs.getD j 0
      rw [e]; exact h _ (List.getElem_mem _)⟩⟩
  · rw [n32 (by omega)] at hs
    obtain ⟨j, hj, rfl⟩ := List.getElem_of_mem hc
    exact Or.inr ⟨rfl, hs, fun j hj => ⟨by rw [hv _ (by omega), wide_lo _ _ _ hj], by rw [hv _ (by omega), wide_hi _ _ _ hj]⟩, j, hj, by
      have e : cs.getD j 0 = cs[j] := by simp [List.getD_eq_getElem?_getD, hj]
      show 255 < cs.getD j 0
      rw [e]; exact hw⟩
/-- an object of exactly java/lang/String, its two fields found: as the laws ask it -/
theorem strObj {Z U : State} {a0 : Array Value} {kI : Nat} (wi : (Jvm.Cond.instantiable ST kI).before a0 Z = true) (al : Z.vm.Alike U.vm) {x : Addr} {v0 c0 : Value} (E : RoadKit.Exa Z U.heap x ST) (V : RoadKit.Fld Z U.heap x ST "value" "[B" v0) (C : RoadKit.Fld Z U.heap x ST "coder" "B" c0) :
    ∃ (D : Cell) (fV fC : Field), Blank ST x D U ∧ Found ST "value" "[B" fV U ∧ Found ST "coder" "B" fC U ∧ D.slots[fV.slot]? = some v0 ∧ D.slots[fC.slot]? = some c0 ∧ RoadKit.slotOf Z ST "value" "[B" = fV.slot ∧ RoadKit.slotOf Z ST "coder" "B" = fC.slot := by
  obtain ⟨D, cfV, kV, iV, fV, hD, gV, stV, knV, obV, asV, slV⟩ := V
  obtain ⟨D', cfC, kC, iC, fC, hD', gC, stC, -, -, asC, slC⟩ := C
  cases hD.symm.trans hD'
  obtain ⟨D2, kD, e1, e2, e3, e4, e5⟩ := E
  cases hD.symm.trans e1
  obtain ⟨c2, k2, i1, i2, i3, -⟩ := Cond.instantiable_spec wi
  cases e2.symm.trans i1
  cases e3.symm.trans i2
  obtain ⟨kU, u1, u2⟩ := al.2.2 _ _ e3
  exact ⟨D, fV, fC, ⟨hD, ⟨knV, fun q hq => by rw [hq] at obV; cases obV⟩, by rw [al.findClass]; exact e2, kU, u1, by rw [u2]; exact i3, by rw [u2]; exact e5 i3⟩, ⟨SBG.found_only al ⟨cfV, kV, iV, gV⟩, stV⟩, ⟨SBG.found_only al ⟨cfC, kC, iC, gC⟩, stC⟩, slV, slC, by simp [RoadKit.slotOf, gV], by simp [RoadKit.slotOf, gC]⟩
theorem sta_is {Z U : State} (al : Z.vm.Alike U.vm) {C n d : String} {v : Value} (S : RoadKit.Sta Z U.heap C n d v) : StaticIs U C n d v := by
  obtain ⟨cfS, iS, kS, fS, st, cS, t1, t2, t3, t4, t5, t6, t7⟩ := S
  exact StaticIs.there (s := { Z with heap := U.heap }) ⟨cfS, iS, kS, fS, st, cS, t1, t2, t3, t4, t5, (fun q => by rw [q] at t6; cases t6), t7⟩ al rfl
/-- **length() OF SUCH A STRING** -/
theorem lenW {p : Program} {l : Launch} {e : Env} {R : Room} {s : State} {args : Array Value} {below : List Frame} {len W : Nat} {Z : State} {a0 : Array Value} {h : Heap} (hZ : Z.Warmed39 s.vm) (hw : ∀ d ∈ wordsLen, d.before a0 Z = true) {kI : Nat} (wi : (Jvm.Cond.instantiable ST kI).before a0 Z = true)
    {x t : Addr} {kb : ClassId} {cs : List Int32} {cd N2 z : Int32} {vs : List Value} (E : RoadKit.Exa Z h x ST) (V : RoadKit.Fld Z h x ST "value" "[B" (.ref t)) (C : RoadKit.Fld Z h x ST "coder" "B" (.int cd)) (K : RoadKit.Arv Z h t kb .byte N2 vs (.int 0)) (hc : CodA cs cd N2 vs) (hb : ∀ c ∈ cs, ¬ c < 0 ∧ ¬ (65535 : Int32) < c)
    (S : RoadKit.Sta Z h ST "COMPACT_STRINGS" "Z" (.int z)) (hz : ¬ z = 0) (l2 : cs.length ≤ 4000) (hfr : 2 ≤ R.frames) (hlo : W + 25 ≤ R.locals) :
    Back l R p e below s args (⟨"java/lang/String", "length", "()I"⟩ : MethodName) len W (fun P a => a = #[.ref x] ∧ P.U.heap = h ∧ P.cells + 0 ≤ R.cells ∧ P.slots + 0 ≤ R.slots)
      (fun P _ v B => ∃ L, (v = some (.int (Int32.ofNat cs.length)) ∧ L = [] ∧ B.U.heap = h) ∧ B.locs = P.locs ++ L ∧ B.cells = P.cells + 0 ∧ B.slots = P.slots + 0) := by
  obtain ⟨A, K1, K2, K3, K4, K5, K6⟩ := K
  have hcod := hc.cod (by omega) K3 K5
  intro m meth c P g ig mk a X hg hsize hdg hW hn hp'
  obtain ⟨rfl, rfl, r1, r2⟩ := hp'
  have al : Z.vm.Alike P.U.vm := hZ.alike.trans X.warmed.alike
  obtain ⟨D, fV, fC, hB, F1, F2, g1, g2, -, -⟩ := strObj wi al E V C
  have hx : Txt x t A cd cs.length (fun j => cs.getD j 0) P.U := ⟨⟨_, hB.2.2.1, D, hB.1, rfl, by cases q : D.vm <;> first | rfl | exact absurd q (hB.2.1.2 _)⟩, Has.of hB F1 g1, Has.of hB F2 g2, ⟨K1.1, State.isArrayOf_alike al K1.2.1, K1.2.2, by rcases hcod with ⟨-, q, -⟩ | ⟨-, q, -⟩ <;> omega⟩, hcod, fun j hj => by
    have e : cs.getD j 0 = cs[j] := by simp [List.getD_eq_getElem?_getD, hj]
    show ¬ cs.getD j 0 < 0 ∧ ¬ 65535 < cs.getD j 0
    rw [e]; exact hb _ (List.getElem_mem _)⟩
  obtain ⟨v, B, X', ⟨⟨hv, hh⟩, hl, hk, hs⟩, st⟩ := Len.pays x t A cd cs.length (fun j => cs.getD j 0) z (tabLen_of (movedLen hZ hw)) hfr hlo m meth c P g ig mk _ X hg hsize hdg hW hn ⟨r1, r2, rfl, hx, sta_is al S, hz⟩
  exact ⟨v, B, X', ⟨[], ⟨hv, rfl, hh⟩, hl, hk, hs⟩, st⟩
end StrChars.Road
namespace StrChars.Road
open Jvm Sem ClassFile Op Lib Jvm.Stand Jvm.Free Jvm.Free.XT
open Jvm.Lib.Cold (StaticIs)
/-- what backV says of its String, as the contracts of this text ask it: cs's low bytes, coder 0 -/
theorem codOf {cs : List Int32} {n : Nat} (hn : cs.length = n) (hb : ∀ c ∈ cs, ¬ 255 < c) : CodA cs 0 (Int32.ofNat n) ((cs.map lo8).map Value.int) := Or.inl ⟨rfl, by rw [hn], by simp [List.map_map, Function.comp_def], hb⟩
end StrChars.Road
end Jvm.Pilot.@@N@@
namespace Jvm.Pilot.@@N@@
open Jvm Jvm.ClassFile Sem Op Lib Jvm.Free Jvm.Stand Jvm.LawKit Jvm.RoadKit Bundle Jvm.Own Jvm.Pilot.@@N@@.Jvm.D
theorem owS {a0 : Array Value} {Z : State} (hw : ∀ d ∈ tables_1, d.before a0 Z = true) : ∀ a ∈ Bundle.stringAtoms, a.before a0 Z = true := fun d hd => hw d ((by decide +kernel : ∀ d ∈ Bundle.stringAtoms, d ∈ tables_1) d hd)
theorem hws' {a0 : Array Value} {Z : State} (hw : ∀ d ∈ tables_1, d.before a0 Z = true) : (Jvm.Cond.instantiable "java/lang/String" 4).before a0 Z = true := owS hw _ (by simp [Bundle.stringAtoms, Bundle.sN])
theorem strPay {l : Launch} {Z : State} {a0 : Array Value} {EL : List (String × Nat)} {R : Room} {K : Cx} {h : Heap} (hw : ∀ d ∈ tables_1, d.before a0 Z = true) (hE : EW Z a0 EL) (x b : Addr) {kC : ClassId} (N : Int32) (cs : List Int32) {d v0 c0 : Value} {z : Int32} (n Wd : Nat) (E : Exa Z h x "java/lang/String") (V : Fld Z h x "java/lang/String" "value" "[B" v0) (C : Fld Z h x "java/lang/String" "coder" "B" c0) (A : Arv Z h b kC .char N (cs.map Value.int) d) (S : Sta Z h "java/lang/String" "COMPACT_STRINGS" "Z" (.int z)) (hz : ¬ z = 0) (hn : cs.length = n) (hN : N.toNatClampNeg = cs.length) (l0 : 0 < cs.length) (l2 : cs.length ≤ 536870912) (hall : ∀ c ∈ cs, ¬ 255 < c) (hfr : 4 ≤ R.frames) (hlo : Wd + 65 ≤ R.locals) :
    Cb l Z EL R K (⟨"java/lang/String", "<init>", "([C)V"⟩ : MethodName) 3 Wd 1 n #[.ref x, .ref b] h [x] (fun v h' so => ∃ t : Addr, ∃ kb : ClassId, v = none ∧ so = [] ∧ h.size ≤ t ∧ Exa Z h' x "java/lang/String" ∧ Fld Z h' x "java/lang/String" "coder" "B" (.int (0 : Int32)) ∧ Fld Z h' x "java/lang/String" "value" "[B" (.ref t) ∧ Arv Z h' t kb .byte N (cs.map fun c => Value.int (StrChars.lo8 c)) (.int 0)) := by
  subst hn
  have hws : ∀ d ∈ StrChars.Road.words, d.before a0 Z = true := fun d hd => hw d ((by decide +kernel : ∀ d ∈ StrChars.Road.words, d ∈ tables_1) d hd)
  refine Cb.bk (a0 := a0) (fun vm0 hZ => StrChars.Road.backArv (s := K.2.2.1.setVm vm0) hZ hws (kI := 4) (hws' hw) E V C A S hz hN l0 l2 hall hfr hlo) hE ?_
  intro v h' L q
  obtain ⟨q1, q2, q3, q4, q5, q6, q7, ⟨kb, -, q8⟩, -⟩ := q
  exact ⟨⟨h.size, kb, q1, rfl, Nat.le_refl _, q5, q7, q6, q8⟩, q3, fun y hy => Or.inl (by rw [q2 y hy]; simp)⟩
/-- a String that spells cs -/
def Str (Z : State) (h : Heap) (a : Addr) (cs : List Int32) : Prop := ∃ (t : Addr) (kb : ClassId) (cd N : Int32) (vs : List Value), Exa Z h a "java/lang/String" ∧ Fld Z h a "java/lang/String" "value" "[B" (.ref t) ∧ Fld Z h a "java/lang/String" "coder" "B" (.int cd) ∧ Arv Z h t kb .byte N vs (.int 0) ∧ StrChars.Road.CodA cs cd N vs ∧ (∀ c ∈ cs, ¬ c < 0 ∧ ¬ (65535 : Int32) < c) ∧ cs.length ≤ 4000
section StrFacts
variable {Z : State} {a0 : Array Value} {h h' : Heap} {a x : Addr} {cs ds : List Int32} {ws : List Addr}
theorem Str.exa (F : Str Z h a cs) : Exa Z h a "java/lang/String" := by obtain ⟨_, _, _, _, _, A, _⟩ := F; exact A
theorem Str.lt (F : Str Z h a cs) : a < h.size := F.exa.lt
theorem Str.ext (F : Str Z h a cs) (E : Ext h h') : Str Z h' a cs := by
  obtain ⟨t, kb, cd, N, vs, A, V, C, K, r⟩ := F
  exact ⟨t, kb, cd, N, vs, A.ext E, V.ext E, C.ext E, K.ext E, r⟩
theorem Str.keep (F : Str Z h a cs) (K : Keep h h' ws) (hn : a ∉ ws) (hb : ∀ x ∈ ws, ∃ C n, Exa Z h x C ∧ (Cond.instantiable C n).before a0 Z = true) : Str Z h' a cs := by
  obtain ⟨t, kb, cd, N, vs, A, V, C, B, r⟩ := F
  have ht : t ∉ ws := fun q => by obtain ⟨D, n, E, wi⟩ := hb t q; exact (E.neArv B wi) rfl
  exact ⟨t, kb, cd, N, vs, A.keep K, V.keep K hn, C.keep K hn, B.keep K ht, r⟩
theorem Str.wrO {sl : Nat} {v : Value} {D : String} {n : Nat} (F : Str Z h a cs) (W : Wr h h' x sl v) (hn : a ≠ x) (E : Exa Z h x D) (wi : (Cond.instantiable D n).before a0 Z = true) : Str Z h' a cs := by
  obtain ⟨t, kb, cd, N, vs, A, V, C, B, r⟩ := F
  exact ⟨t, kb, cd, N, vs, A.wr W, V.other W (Or.inl hn), C.other W (Or.inl hn), B.other W (Ne.symm (E.neArv B wi)), r⟩
theorem ty_ne {ty ty' : FieldType} {k k' : ClassId} {z z' : Int32} {vs vs' : List Value} {d d' : Value} {b : Addr} (A : Arv Z h x k ty z vs d) (B : Arv Z h b k' ty' z' vs' d') (ht : ty ≠ ty') : x ≠ b := fun e => by
  subst e
  obtain ⟨c1, ⟨p1, ⟨-, k1, q1, cm1, r1⟩, -⟩, -⟩ := A
  obtain ⟨c2, ⟨p2, ⟨-, k2, q2, cm2, r2⟩, -⟩, -⟩ := B
  cases p1.symm.trans p2
  cases q1.symm.trans q2
  have := r1.symm.trans r2
  injection this with _ e
  exact ht e
theorem Str.wrA {sl : Nat} {v : Value} {ty : FieldType} {k : ClassId} {z : Int32} {vs : List Value} {d : Value} (F : Str Z h a cs) (W : Wr h h' x sl v) (hn : a ≠ x) (B : Arv Z h x k ty z vs d) (ht : ty ≠ .byte) : Str Z h' a cs := by
  obtain ⟨t, kb, cd, N, vs, A, V, C, T, r⟩ := F
  exact ⟨t, kb, cd, N, vs, A.wr W, V.other W (Or.inl hn), C.other W (Or.inl hn), T.other W (Ne.symm (ty_ne B T ht)), r⟩
theorem Str.mk {t : Addr} {kb : ClassId} {N : Int32} (A : Exa Z h a "java/lang/String") (C : Fld Z h a "java/lang/String" "coder" "B" (.int (0 : Int32))) (V : Fld Z h a "java/lang/String" "value" "[B" (.ref t)) (K : Arv Z h t kb .byte N (cs.map fun c => Value.int (StrChars.lo8 c)) (.int 0)) (hN : N = Int32.ofNat cs.length) (hb : ∀ c ∈ cs, ¬ c < 0 ∧ ¬ (255 : Int32) < c) (hl : cs.length ≤ 4000) : Str Z h a cs :=
  ⟨t, kb, 0, N, _, A, V, C, K, Or.inl ⟨rfl, hN, rfl, fun c q => (hb c q).2⟩, fun c q => ⟨(hb c q).1, fun z => (hb c q).2 (Int32.lt_trans (by decide) z)⟩, hl⟩
end StrFacts
section U16
theorem ofNat_toInt {i : Nat} (h : i < 2 ^ 31) : (Int32.ofNat i).toInt = i := Int32.toInt_ofNat_small h
theorem ofNat_nn {i : Nat} (h : i < 2 ^ 31) : ¬ Int32.ofNat i < 0 := by
  rw [lt_i, ofNat_toInt h]; have : (0 : Int32).toInt = 0 := by decide
  omega
theorem ofNat_lt {i j : Nat} (hi : i < 2 ^ 31) (hj : j < 2 ^ 31) : Int32.ofNat i < Int32.ofNat j ↔ i < j := by rw [lt_i, ofNat_toInt hi, ofNat_toInt hj]; omega
theorem lt_big {n : Nat} (h : n ≤ 4000) : Int32.ofNat n < 1073741823 := by
  rw [lt_i, ofNat_toInt (by omega)]
  have q : (1073741823 : Int32).toInt = 1073741823 := by decide
  omega
theorem ofNat_ne0 {n : Nat} (h0 : 0 < n) (h : n ≤ 4000) : ¬ Int32.ofNat n = 0 := fun e => by
  have q := congrArg Int32.toInt e
  rw [ofNat_toInt (by omega)] at q
  have z : (0 : Int32).toInt = 0 := by decide
  omega
theorem ofNat_clamp {i : Nat} (h : i < 2 ^ 31) : (Int32.ofNat i).toNatClampNeg = i := by rw [Int32.toNatClampNeg, ofNat_toInt h]; omega
theorem ofNat_succ {i : Nat} (h : i + 1 < 2 ^ 31) : Int32.ofNat i + Int32.ofInt 1 = Int32.ofNat (i + 1) := by
  apply Int32.toInt_inj.mp
  have q := c_iadd (Int32.ofNat i) (Int32.ofInt 1)
  have r := rng32 (Int32.ofNat i + Int32.ofInt 1)
  have e : (Int32.ofInt 1).toInt = 1 := by decide
  rw [ofNat_toInt (by omega), e] at q
  rw [ofNat_toInt h]; omega
theorem ofNat_inb {i n : Nat} (h : i < n) (hn : n < 2 ^ 31) : ¬ Int32.ofNat i < 0 ∧ Int32.ofNat i < Int32.ofNat n := ⟨ofNat_nn (by omega), (ofNat_lt (by omega) hn).mpr h⟩
theorem shl1 {i : Nat} (h : 2 * i < 2 ^ 31) : Int32.ofNat i <<< ((1 : Int32) &&& 31) = Int32.ofNat (2 * i) := by
  apply Int32.toInt_inj.mp
  have q := c_ishl (Int32.ofNat i) 1 1 (by decide)
  have r := rng32 (Int32.ofNat i <<< ((1 : Int32) &&& 31))
  rw [ofNat_toInt (by omega)] at q
  rw [ofNat_toInt h]; omega
theorem lo8_idem (c : Int32) : (StrChars.lo8 c).toInt8.toInt32 = StrChars.lo8 c := by
  unfold StrChars.lo8
  have q1 := c_i2b c
  have q2 := c_i2b c.toInt8.toInt32
  apply Int32.toInt_inj.mp; omega
theorem coder1 {n : Nat} (h0 : 0 < n) (hn : n ≤ 4000) {d q : Int32} (e : Int32.ofNat n - Int32.ofNat (2 * n) = d) (e2 : (d.toUInt32 >>> ((31 : Int32) &&& 31).toUInt32).toInt32 = q) : q.toInt8.toInt32 = 1 := by
  subst e
  have s := c_isub (Int32.ofNat n) (Int32.ofNat (2 * n))
  have r := rng32 (Int32.ofNat n - Int32.ofNat (2 * n))
  rw [ofNat_toInt (by omega), ofNat_toInt (by omega)] at s
  have u := c_iushr (Int32.ofNat n - Int32.ofNat (2 * n)) 31 31 (by decide) (by decide)
  rw [e2] at u
  have hq : q.toInt = 1 := by rw [u]; simp only [Nat.reducePow]; omega
  have : q = 1 := i32_of 1 (by decide) hq
  rw [this]; decide
theorem set_get {vs : List Value} {i j : Nat} {v d : Value} : (vs.set i v).getD j d = if i = j ∧ i < vs.length then v else vs.getD j d := by
  simp only [List.getD_eq_getElem?_getD, List.getElem?_set]
  by_cases h : i = j
  · subst h; by_cases h2 : i < vs.length <;> simp [h2]
  · simp [h]
theorem wide_len : ∀ cs : List Int32, (StrChars.Road.wideBytes cs).length = 2 * cs.length
  | [] => rfl
  | c :: cs => by simp [StrChars.Road.wideBytes, wide_len cs]; omega
theorem map_getD (cs : List Int32) (i : Nat) (h : i < cs.length) (d : Value) : (cs.map Value.int).getD i d = .int (cs.getD i 0) := by
  simp [List.getD_eq_getElem?_getD, h]
theorem rep_get {n : Nat} (j : Nat) : (List.replicate n (Value.int 0)).getD j (.int 0) = .int 0 := by
  by_cases h : j < n <;> simp [List.getD_eq_getElem?_getD, h]
/-- a char -/
def B16 (c : Int32) : Prop := ¬ c < 0 ∧ ¬ 65535 < c
theorem B16.mem {cs : List Int32} (h : ∀ c ∈ cs, B16 c) {i : Nat} (hi : i < cs.length) : B16 (cs.getD i 0) := by
  have e : cs.getD i 0 = cs[i] := by simp [List.getD_eq_getElem?_getD, hi]
  rw [e]; exact h _ (List.getElem_mem _)
end U16

def ones : List Value := (List.range 100).map fun j => .int (Int32.ofNat (48 + j % 10))
def tens : List Value := (List.range 100).map fun j => .int (Int32.ofNat (48 + j / 10))
theorem ones_at {j : Nat} (h : j < 100) : ones.getD j (.int 0) = .int (Int32.ofNat (48 + j % 10)) := by simp [ones, List.getD_eq_getElem?_getD, h]
theorem tens_at {j : Nat} (h : j < 100) : tens.getD j (.int 0) = .int (Int32.ofNat (48 + j / 10)) := by simp [tens, List.getD_eq_getElem?_getD, h]
theorem ofNat_pred {n m : Nat} (h : m + 1 = n) (hn : n < 2 ^ 31) : Int32.ofNat n + Int32.ofInt (-1) = Int32.ofNat m := by
  subst h
  apply Int32.toInt_inj.mp
  rw [Int32.toInt_add, ofNat_toInt hn, ofNat_toInt (by omega)]
  have e : (Int32.ofInt (-1)).toInt = -1 := by decide
  rw [e, Int.bmod_def]; simp only [Nat.reducePow]; split <;> omega
theorem byte_id {k : Nat} (h : k ≤ 127) : (Int32.ofNat k).toInt8.toInt32 = Int32.ofNat k := by
  apply Int32.toInt_inj.mp
  rw [Int8.toInt_toInt32, Int32.toInt_toInt8, ofNat_toInt (by omega), Int.bmod_def]; simp only [Nat.reducePow]; split <;> omega
def dg (v : Nat) : List Value := if v < 10 then [.int (Int32.ofNat (48 + v % 10))] else if v < 100 then [.int (Int32.ofNat (48 + v / 10)), .int (Int32.ofNat (48 + v % 10))] else if v < 1000 then [.int (Int32.ofNat (48 + v / 100 % 10)), .int (Int32.ofNat (48 + v % 100 / 10)), .int (Int32.ofNat (48 + v % 100 % 10))] else [.int (Int32.ofNat (48 + v / 100 / 10)), .int (Int32.ofNat (48 + v / 100 % 10)), .int (Int32.ofNat (48 + v % 100 / 10)), .int (Int32.ofNat (48 + v % 100 % 10))]
def dlen (v : Nat) : Nat := if v < 10 then 1 else if v < 100 then 2 else if v < 1000 then 3 else 4
theorem div_neg100 {v : Nat} (hv : v ≤ 9999) : -Int32.ofNat v / 100 = -Int32.ofNat (v / 100) := by
  apply Int32.toInt_inj.mp
  have h1 : (-Int32.ofNat v).toInt = -(v : Int) := by rw [Int32.toInt_neg, ofNat_toInt (by omega), Int.bmod_def]; simp only [Nat.reducePow]; split <;> omega
  have h2 : (-Int32.ofNat (v / 100)).toInt = -((v / 100 : Nat) : Int) := by rw [Int32.toInt_neg, ofNat_toInt (by omega), Int.bmod_def]; simp only [Nat.reducePow]; split <;> omega
  have h3 : (100 : Int32).toInt = 100 := by decide
  rw [Int32.toInt_div, h1, h2, h3, Int.neg_tdiv]
  have h4 : (v : Int).tdiv 100 = ((v / 100 : Nat) : Int) := by rw [Int.tdiv_eq_ediv_of_nonneg (by omega)]; omega
  rw [h4, Int.bmod_def]; simp only [Nat.reducePow]; split <;> omega
theorem rem_neg100 {v : Nat} (hv : v ≤ 9999) : -Int32.ofNat (v / 100) * 100 - -Int32.ofNat v = Int32.ofNat (v % 100) := by
  apply Int32.toInt_inj.mp
  have h1 : (-Int32.ofNat v).toInt = -(v : Int) := by rw [Int32.toInt_neg, ofNat_toInt (by omega), Int.bmod_def]; simp only [Nat.reducePow]; split <;> omega
  have h2 : (-Int32.ofNat (v / 100)).toInt = -((v / 100 : Nat) : Int) := by rw [Int32.toInt_neg, ofNat_toInt (by omega), Int.bmod_def]; simp only [Nat.reducePow]; split <;> omega
  have h3 : (100 : Int32).toInt = 100 := by decide
  have h5 : (-Int32.ofNat (v / 100) * 100).toInt = -((v / 100 : Nat) : Int) * 100 := by rw [Int32.toInt_mul, h2, h3, Int.bmod_def]; simp only [Nat.reducePow]; split <;> omega
  rw [Int32.toInt_sub, h5, h1, ofNat_toInt (by omega), Int.bmod_def]; simp only [Nat.reducePow]; split <;> omega
theorem dlen_or (v : Nat) : (v < 10 ∧ dlen v = 1) ∨ (10 ≤ v ∧ v < 100 ∧ dlen v = 2) ∨ (100 ≤ v ∧ v < 1000 ∧ dlen v = 3) ∨ (1000 ≤ v ∧ dlen v = 4) := by
  unfold dlen; split
  · exact Or.inl ⟨by omega, rfl⟩
  · split
    · exact Or.inr (Or.inl ⟨by omega, by omega, rfl⟩)
    · split
      · exact Or.inr (Or.inr (Or.inl ⟨by omega, by omega, rfl⟩))
      · exact Or.inr (Or.inr (Or.inr ⟨by omega, rfl⟩))
theorem setFirst {vs : List Value} {i : Nat} {a : Value} (h : i < vs.length) : vs.set i a = vs.take i ++ (a :: vs.drop (i + 1)) := by
  rw [List.set_eq_take_append_cons_drop, if_pos h]
theorem setNext {vs X : List Value} {i : Nat} {a : Value} (h : i < vs.length) : (vs.take (i + 1) ++ X).set i a = vs.take i ++ (a :: X) := by
  rw [setFirst (by rw [List.length_append, List.length_take]; omega)]
  rw [List.take_append_of_le_length (by rw [List.length_take]; omega), List.take_take, List.drop_append_of_le_length (by rw [List.length_take]; omega)]
  simp
theorem dig1 {vs : List Value} {v e : Nat} (hv : v < 10) (he : 1 ≤ e) (hl : e ≤ vs.length) : (vs.set (e - 1) (.int (Int32.ofNat (48 + (v % 10))))) = vs.take (e - dlen v) ++ dg v ++ vs.drop e := by
  obtain ⟨i, rfl⟩ : ∃ i, e = i + 1 := ⟨e - 1, by omega⟩
  have e1 : dlen v = 1 := by have q := dlen_or v; omega
  have e2 : dg v = [.int (Int32.ofNat (48 + (v % 10)))] := by simp [dg, hv]
  rw [e1, e2]
  rw [show i + 1 - 1 = i from by omega]
  rw [setFirst (by omega)]
  simp
theorem dig2 {vs : List Value} {v e : Nat} (hv : 10 ≤ v ∧ v < 100) (he : 2 ≤ e) (hl : e ≤ vs.length) : ((vs.set (e - 1) (.int (Int32.ofNat (48 + (v % 10))))).set (e - 2) (.int (Int32.ofNat (48 + (v / 10))))) = vs.take (e - dlen v) ++ dg v ++ vs.drop e := by
  obtain ⟨i, rfl⟩ : ∃ i, e = i + 2 := ⟨e - 2, by omega⟩
  have e1 : dlen v = 2 := by have q := dlen_or v; omega
  have e2 : dg v = [.int (Int32.ofNat (48 + (v / 10))), .int (Int32.ofNat (48 + (v % 10)))] := by simp [dg, show ¬ v < 10 from by omega, hv.2]
  rw [e1, e2]
  rw [show i + 2 - 1 = i + 1 from by omega]
  rw [show i + 2 - 2 = i from by omega]
  rw [setFirst (i := i + 1) (by omega)]
  rw [setNext (i := i) (by omega)]
  simp
theorem dig3 {vs : List Value} {v e : Nat} (hv : 100 ≤ v ∧ v < 1000) (he : 3 ≤ e) (hl : e ≤ vs.length) : (((vs.set (e - 1) (.int (Int32.ofNat (48 + (v % 100 % 10))))).set (e - 2) (.int (Int32.ofNat (48 + (v % 100 / 10))))).set (e - 3) (.int (Int32.ofNat (48 + (v / 100 % 10))))) = vs.take (e - dlen v) ++ dg v ++ vs.drop e := by
  obtain ⟨i, rfl⟩ : ∃ i, e = i + 3 := ⟨e - 3, by omega⟩
  have e1 : dlen v = 3 := by have q := dlen_or v; omega
  have e2 : dg v = [.int (Int32.ofNat (48 + (v / 100 % 10))), .int (Int32.ofNat (48 + (v % 100 / 10))), .int (Int32.ofNat (48 + (v % 100 % 10)))] := by simp [dg, show ¬ v < 10 from by omega, show ¬ v < 100 from by omega, hv.2]
  rw [e1, e2]
  rw [show i + 3 - 1 = i + 2 from by omega]
  rw [show i + 3 - 2 = i + 1 from by omega]
  rw [show i + 3 - 3 = i from by omega]
  rw [setFirst (i := i + 2) (by omega)]
  rw [setNext (i := i + 1) (by omega)]
  rw [setNext (i := i) (by omega)]
  simp
theorem dig4 {vs : List Value} {v e : Nat} (hv : 1000 ≤ v) (he : 4 ≤ e) (hl : e ≤ vs.length) : ((((vs.set (e - 1) (.int (Int32.ofNat (48 + (v % 100 % 10))))).set (e - 2) (.int (Int32.ofNat (48 + (v % 100 / 10))))).set (e - 3) (.int (Int32.ofNat (48 + (v / 100 % 10))))).set (e - 4) (.int (Int32.ofNat (48 + (v / 100 / 10))))) = vs.take (e - dlen v) ++ dg v ++ vs.drop e := by
  obtain ⟨i, rfl⟩ : ∃ i, e = i + 4 := ⟨e - 4, by omega⟩
  have e1 : dlen v = 4 := by have q := dlen_or v; omega
  have e2 : dg v = [.int (Int32.ofNat (48 + (v / 100 / 10))), .int (Int32.ofNat (48 + (v / 100 % 10))), .int (Int32.ofNat (48 + (v % 100 / 10))), .int (Int32.ofNat (48 + (v % 100 % 10)))] := by simp [dg, show ¬ v < 10 from by omega, show ¬ v < 100 from by omega, show ¬ v < 1000 from by omega]
  rw [e1, e2]
  rw [show i + 4 - 1 = i + 3 from by omega]
  rw [show i + 4 - 2 = i + 2 from by omega]
  rw [show i + 4 - 3 = i + 1 from by omega]
  rw [show i + 4 - 4 = i from by omega]
  rw [setFirst (i := i + 3) (by omega)]
  rw [setNext (i := i + 2) (by omega)]
  rw [setNext (i := i + 1) (by omega)]
  rw [setNext (i := i) (by omega)]
  simp
theorem dlen_pos (v : Nat) : 0 < dlen v := by unfold dlen; split; omega; split; omega; split <;> omega
theorem lt_neg {c : Int32} {P v : Nat} (hc : c.toInt = -(P : Int)) (hv : v ≤ 99999) : -Int32.ofNat v < c ↔ P < v := by
  rw [lt_i, hc, Int32.toInt_neg, ofNat_toInt (by omega)]
  have e : (-(v : Int)).bmod (2 ^ 32) = -(v : Int) := by rw [Int.bmod_def]; simp only [Nat.reducePow]; split <;> omega
  rw [e]; omega
theorem neg_lt {c : Int32} {P v : Nat} (hc : c.toInt = -(P : Int)) (hv : v ≤ 99999) : c < -Int32.ofNat v ↔ v < P := by
  rw [lt_i, hc, Int32.toInt_neg, ofNat_toInt (by omega)]
  have e : (-(v : Int)).bmod (2 ^ 32) = -(v : Int) := by rw [Int.bmod_def]; simp only [Nat.reducePow]; split <;> omega
  rw [e]; omega

theorem shr0' (x : Int32) : x >>> ((0 : Int32) &&& 31) = x := by simp
theorem shl0' (x : Int32) : x <<< ((0 : Int32) &&& 31) = x := by simp
theorem ofNat_add {a b : Nat} : Int32.ofNat a + Int32.ofNat b = Int32.ofNat (a + b) := by rw [Int32.ofNat_add]
theorem range_self {us : List Value} {n : Nat} (hn : us.length = n) (d : Value) : us = (List.range n).map fun i => us.getD (0 + i) d := by
  subst hn
  apply List.ext_getElem
  · simp
  · intro i h1 h2
    simp [List.getD_eq_getElem?_getD, h1]
theorem ofNat_room {m M : Nat} (h : m ≤ M) (hM : M ≤ 4000) : ¬ (0 : Int32) < Int32.ofNat m - Int32.ofNat M := by
  rw [lt_i, Int32.toInt_sub, ofNat_toInt (by omega), ofNat_toInt (by omega)]
  have : (0 : Int32).toInt = 0 := by decide
  rw [this, Int.bmod_def]; simp only [Nat.reducePow]; split <;> omega
theorem range_take {us : List Value} {n : Nat} (hn : n ≤ us.length) (d : Value) : us.take n = (List.range n).map fun i => us.getD (0 + i) d := by
  apply List.ext_getElem
  · simp only [List.length_take, List.length_map, List.length_range]; omega
  · intro i h1 h2
    have h3 : i < us.length := by rw [List.length_take] at h1; omega
    simp [List.getD_eq_getElem?_getD, h3]
theorem ofNat_inj {a b : Nat} (ha : a < 2 ^ 31) (hb : b < 2 ^ 31) (h : Int32.ofNat a = Int32.ofNat b) : a = b := by
  have q := congrArg Int32.toInt h
  rw [ofNat_toInt ha, ofNat_toInt hb] at q
  omega
theorem ofNat_ltc {i P : Nat} {c : Int32} (hc : c.toInt = P) (hi : i < 2 ^ 31) : Int32.ofNat i < c ↔ i < P := by rw [lt_i, hc, ofNat_toInt hi]; omega
theorem ltc_ofNat {i P : Nat} {c : Int32} (hc : c.toInt = P) (hi : i < 2 ^ 31) : c < Int32.ofNat i ↔ P < i := by rw [lt_i, hc, ofNat_toInt hi]; omega
theorem ofNat_ne {n : Nat} (h0 : 0 < n) (h : n < 2 ^ 31) : ¬ Int32.ofNat n = 0 := fun e => by
  have q := congrArg Int32.toInt e
  rw [ofNat_toInt h] at q
  have z : (0 : Int32).toInt = 0 := by decide
  omega
theorem ofNat_sub1 {n : Nat} (h0 : 0 < n) (h : n < 2 ^ 31) : Int32.ofNat n - 1 = Int32.ofNat (n - 1) := by
  apply Int32.toInt_inj.mp
  rw [Int32.toInt_sub, ofNat_toInt h, ofNat_toInt (by omega), show (1 : Int32).toInt = 1 from by decide, Int.bmod_def]; simp only [Nat.reducePow]; split <;> omega
theorem natOf {r : Int32} {d : Nat} (h : 0 ≤ r.toInt ∧ r.toInt < d) : ∃ n : Nat, n < d ∧ r = Int32.ofNat n := by
  have q := rng32 r
  refine ⟨r.toInt.toNat, by omega, ?_⟩
  apply Int32.toInt_inj.mp
  rw [ofNat_toInt (by omega)]; omega
theorem div_n {n P : Nat} {c : Int32} (hc : c.toInt = P) (hc1 : c ≠ -1) (hn : n < 2 ^ 31) : Int32.ofNat n / c = Int32.ofNat (n / P) := by
  apply Int32.toInt_inj.mp
  rw [(c_idiv (Int32.ofNat n) c P hc hc1).1 (by rw [ofNat_toInt hn]; omega), ofNat_toInt hn, ofNat_toInt (Nat.lt_of_le_of_lt (Nat.div_le_self _ _) hn)]; rfl
theorem rem_n {n P : Nat} {c : Int32} (hc : c.toInt = P) (hn : n < 2 ^ 31) : Int32.ofNat n % c = Int32.ofNat (n % P) := by
  apply Int32.toInt_inj.mp
  rw [(c_irem (Int32.ofNat n) c P hc).1 (by rw [ofNat_toInt hn]; omega), ofNat_toInt hn, ofNat_toInt (Nat.lt_of_le_of_lt (Nat.mod_le _ _) hn)]; rfl
theorem ushr16 {n : Nat} (hn : n < 2 ^ 31) : ((Int32.ofNat n).toUInt32 >>> ((16 : Int32) &&& 31).toUInt32).toInt32 = Int32.ofNat (n / 65536) := by
  apply Int32.toInt_inj.mp
  rw [c_iushr (Int32.ofNat n) 16 16 (by decide) (by decide), ofNat_toInt hn, ofNat_toInt (by omega)]
  simp only [Nat.reducePow]; omega
theorem ushr8 {n : Nat} (hn : n < 2 ^ 31) : ((Int32.ofNat n).toUInt32 >>> ((8 : Int32) &&& 31).toUInt32).toInt32 = Int32.ofNat (n / 256) := by
  apply Int32.toInt_inj.mp
  rw [c_iushr (Int32.ofNat n) 8 8 (by decide) (by decide), ofNat_toInt hn, ofNat_toInt (by omega)]
  simp only [Nat.reducePow]; omega
theorem mask8 {n : Nat} (hn : n < 2 ^ 31) : Int32.ofNat n &&& 255 = Int32.ofNat (n % 256) := by
  apply Int32.toInt_inj.mp
  rw [c_mask (Int32.ofNat n) 255 8 (by decide) (by decide), ofNat_toInt hn, ofNat_toInt (by omega)]; simp only [Nat.reducePow]; omega
theorem b8_of {c : Nat} (h : c ≤ 127) : B8 (Int32.ofNat c) := B8.of (by rw [ofNat_toInt (by omega)]; omega)
def bf (c : Nat) (P : List Value) : List Value := P ++ List.replicate (c - P.length) (Value.int 0)
theorem bf_len {c : Nat} {P : List Value} (h : P.length ≤ c) : (bf c P).length = c := by rw [bf, List.length_append, List.length_replicate]; omega
theorem bf_take {c n : Nat} {P : List Value} (hn : P.length = n) : (bf c P).take n = P := by subst hn; rw [bf]; exact List.take_left
theorem bf_put {c i n : Nat} {P us : List Value} (hi : P.length = i) (hn : us.length = n) : (bf c P).take i ++ us ++ (bf c P).drop (i + n) = bf c (P ++ us) := by
  subst hi hn
  have h1 : (bf c P).take P.length = P := bf_take rfl
  have h2 : (bf c P).drop (P.length + us.length) = List.replicate (c - P.length - us.length) (Value.int 0) := by
    rw [bf, List.drop_length_add_append, List.drop_replicate]
  rw [h1, h2, bf, List.length_append, Nat.sub_sub]
theorem bf_set {c i : Nat} {P : List Value} {x : Value} (hi : P.length = i) (hc : i < c) : (bf c P).set i x = bf c (P ++ [x]) := by
  rw [setFirst (by rw [bf_len (by omega)]; exact hc), ← bf_put (c := c) (us := [x]) (n := 1) hi rfl]; simp
theorem dg_len (v : Nat) : (dg v).length = dlen v := by
  unfold dg dlen; split
  · rfl
  · split
    · rfl
    · split <;> rfl
theorem dle {v : Nat} (h : v ≤ 999) : dlen v ≤ 3 := by have q := dlen_or v; omega
/-- a char from 0 to 127 -/
def Ch (x : Value) : Prop := ∃ c : Nat, c ≤ 127 ∧ x = .int (Int32.ofNat c)
theorem ch_app {a b : List Value} (h1 : ∀ x ∈ a, Ch x) (h2 : ∀ x ∈ b, Ch x) : ∀ x ∈ a ++ b, Ch x := fun x hx => (List.mem_append.mp hx).elim (h1 x) (h2 x)
theorem dg_ch {v : Nat} (hv : v ≤ 9999) : ∀ x ∈ dg v, Ch x := by
  intro x hx
  unfold dg at hx
  split at hx
  · exact ⟨_, by omega, List.mem_singleton.mp hx⟩
  · split at hx
    · simp only [List.mem_cons, List.not_mem_nil, or_false] at hx
      rcases hx with q | q <;> exact ⟨_, by omega, q⟩
    · split at hx
      · simp only [List.mem_cons, List.not_mem_nil, or_false] at hx
        rcases hx with q | q | q <;> exact ⟨_, by omega, q⟩
      · simp only [List.mem_cons, List.not_mem_nil, or_false] at hx
        rcases hx with q | q | q | q <;> exact ⟨_, by omega, q⟩
theorem atc {n k : Nat} {us cs : List Value} (hn : us.length = n) (hcs : cs.take n = us) (hus : ∀ x ∈ us, Ch x) (hk : k < n) : ∃ c : Nat, c ≤ 127 ∧ us.getD k (.int 0) = .int (Int32.ofNat c) ∧ cs.getD k (.int 0) = .int (Int32.ofNat c) := by
  have hk' : k < us.length := by omega
  obtain ⟨c, h1, h2⟩ := hus us[k] (List.getElem_mem hk')
  have e1 : us.getD k (.int 0) = .int (Int32.ofNat c) := by rw [List.getD_eq_getElem?_getD, List.getElem?_eq_getElem hk', Option.getD_some, h2]
  refine ⟨c, h1, e1, ?_⟩
  rw [← e1, ← hcs]
  simp [List.getD_eq_getElem?_getD, List.getElem?_take, hk]
theorem set3 {cs : List Value} {p : Nat} {x y z : Value} (h : p + 3 ≤ cs.length) : ((cs.set p x).set (p + 1) y).set (p + 2) z = cs.take p ++ [x, y, z] ++ cs.drop (p + 3) := by
  rw [List.set_comm x y (show p ≠ p + 1 from by omega), List.set_comm x z (show p ≠ p + 2 from by omega), List.set_comm y z (show p + 1 ≠ p + 2 from by omega), setFirst (i := p + 2) (by omega), setNext (i := p + 1) (by omega), setNext (i := p) (by omega)]; simp
theorem set2 {cs : List Value} {p : Nat} {x y : Value} (h : p + 2 ≤ cs.length) : (cs.set p x).set (p + 1) y = cs.take p ++ [x, y] ++ cs.drop (p + 2) := by
  rw [List.set_comm x y (show p ≠ p + 1 from by omega), setFirst (i := p + 1) (by omega), setNext (i := p) (by omega)]; simp
theorem set1 {cs : List Value} {p : Nat} {x : Value} (h : p + 1 ≤ cs.length) : cs.set p x = cs.take p ++ [x] ++ cs.drop (p + 1) := by
  rw [setFirst (by omega)]; simp
theorem put1 {cs : List Value} {p v : Nat} (hv : v < 10) (h : p + 1 ≤ cs.length) : cs.set p (.int (Int32.ofNat (48 + v))) = cs.take p ++ dg v ++ cs.drop (p + dlen v) := by
  have e1 : dlen v = 1 := by have q := dlen_or v; omega
  have e2 : dg v = [.int (Int32.ofNat (48 + v))] := by unfold dg; rw [if_pos hv, Nat.mod_eq_of_lt hv]
  rw [e1, e2, set1 h]
theorem put2 {cs : List Value} {p v : Nat} (hv : 10 ≤ v ∧ v < 100) (h : p + 2 ≤ cs.length) : (cs.set p (.int (Int32.ofNat (48 + v / 10)))).set (p + 1) (.int (Int32.ofNat (48 + v % 10))) = cs.take p ++ dg v ++ cs.drop (p + dlen v) := by
  have e1 : dlen v = 2 := by have q := dlen_or v; omega
  have e2 : dg v = [.int (Int32.ofNat (48 + v / 10)), .int (Int32.ofNat (48 + v % 10))] := by unfold dg; rw [if_neg (by omega), if_pos hv.2]
  rw [e1, e2, set2 h]
theorem put3 {cs : List Value} {p v : Nat} (hv : 100 ≤ v ∧ v < 1000) (h : p + 3 ≤ cs.length) : ((cs.set p (.int (Int32.ofNat (48 + v / 100)))).set (p + 1) (.int (Int32.ofNat (48 + v / 10 % 10)))).set (p + 2) (.int (Int32.ofNat (48 + v % 10))) = cs.take p ++ dg v ++ cs.drop (p + dlen v) := by
  have e1 : dlen v = 3 := by have q := dlen_or v; omega
  have a1 : v / 100 % 10 = v / 100 := by omega
  have a2 : v % 100 / 10 = v / 10 % 10 := by omega
  have a3 : v % 100 % 10 = v % 10 := by omega
  have e2 : dg v = [.int (Int32.ofNat (48 + v / 100)), .int (Int32.ofNat (48 + v / 10 % 10)), .int (Int32.ofNat (48 + v % 10))] := by unfold dg; rw [if_neg (by omega), if_neg (by omega), if_pos hv.2, a1, a2, a3]
  rw [e1, e2, set3 h]
theorem grown {P : List Value} {m : Nat} (hP : P.length = m - 4) (hm : 4 ≤ m ∧ m ≤ 20) : ((bf 16 P ++ List.replicate 18 (Value.int 0)).take (m - dlen 8080) ++ dg 8080 ++ (bf 16 P ++ List.replicate 18 (Value.int 0)).drop m).take m = P ++ dg 8080 := by
  have e : dlen 8080 = 4 := rfl
  have e2 : (dg 8080).length = 4 := rfl
  have h1 : (bf 16 P ++ List.replicate 18 (Value.int 0)).take (m - dlen 8080) = P := by
    rw [e, List.take_append_of_le_length (by rw [bf_len (by omega)]; omega)]; exact bf_take hP
  rw [h1, List.take_append_of_le_length (by rw [List.length_append, hP, e2]; omega)]
  exact List.take_of_length_le (by rw [List.length_append, hP, e2]; omega)
theorem grown_len {P : List Value} {m : Nat} (hP : P.length ≤ 16) (hm : 4 ≤ m ∧ m ≤ 20) : ((bf 16 P ++ List.replicate 18 (Value.int 0)).take (m - dlen 8080) ++ dg 8080 ++ (bf 16 P ++ List.replicate 18 (Value.int 0)).drop m).length = 34 := by
  have e : dlen 8080 = 4 := rfl
  have e2 : (dg 8080).length = 4 := rfl
  rw [List.length_append, List.length_append, List.length_take, List.length_drop, List.length_append, bf_len hP, List.length_replicate, e, e2]; omega

theorem shr1 {n : Nat} (h : 2 * n < 2 ^ 31) : Int32.ofNat (2 * n) >>> ((1 : Int32) &&& 31) = Int32.ofNat n := by
  apply Int32.toInt_inj.mp
  rw [c_ishr (Int32.ofNat (2 * n)) 1 1 (by decide), ofNat_toInt h, ofNat_toInt (by omega)]; simp only [Nat.reducePow]; omega
theorem ofNat_sub {a b : Nat} (h : b ≤ a) (ha : a < 2 ^ 31) : Int32.ofNat a - Int32.ofNat b = Int32.ofNat (a - b) := by
  apply Int32.toInt_inj.mp
  rw [Int32.toInt_sub, ofNat_toInt ha, ofNat_toInt (by omega), ofNat_toInt (by omega), Int.bmod_def]; simp only [Nat.reducePow]; split <;> omega
theorem or3_nn {a b c : Nat} (ha : a < 2 ^ 31) (hb : b < 2 ^ 31) (hc : c < 2 ^ 31) : ¬ ((Int32.ofNat a ||| Int32.ofNat b) ||| Int32.ofNat c) < 0 := by
  have h1 := (c_orS (Int32.ofNat a) (Int32.ofNat b)).1 (by rw [ofNat_toInt ha]; omega) (by rw [ofNat_toInt hb]; omega)
  have h2 := (c_orS (Int32.ofNat a ||| Int32.ofNat b) (Int32.ofNat c)).1 h1 (by rw [ofNat_toInt hc]; omega)
  rw [lt_i, show (0 : Int32).toInt = 0 from by decide]; omega
theorem lo8_mask {c : Int32} (h : B8 c) : StrChars.lo8 c &&& 255 = c := by
  apply Int32.toInt_inj.mp
  have q := c_i2b c
  have r := h.toInt
  rw [c_mask (StrChars.lo8 c) 255 8 (by decide) (by decide)]; unfold StrChars.lo8; simp only [Nat.reducePow]; omega
theorem low_at' (d : Value) (cs : List Int32) (j : Nat) (h : j < cs.length) : (cs.map fun c => Value.int (StrChars.lo8 c)).getD j d = .int (StrChars.lo8 (cs.getD j 0)) := by
  simp [List.getD_eq_getElem?_getD, h]
theorem getD_mem {cs : List Int32} {k : Nat} (hk : k < cs.length) : cs.getD k 0 ∈ cs := by
  have e : cs.getD k 0 = cs[k] := by simp [List.getD_eq_getElem?_getD, hk]
  rw [e]; exact List.getElem_mem _
theorem b8_mem {cs : List Int32} {k : Nat} (hb : ∀ c ∈ cs, ¬ 255 < c) (h16 : ∀ c ∈ cs, ¬ c < 0 ∧ ¬ (65535 : Int32) < c) (hk : k < cs.length) : B8 (cs.getD k 0) := ⟨(h16 _ (getD_mem hk)).1, hb _ (getD_mem hk)⟩
theorem memT {cs : List Int32} {k : Nat} {c : Int32} (h : c ∈ cs.take k) : c ∈ cs := by
  rw [← List.take_append_drop k cs]; exact List.mem_append_left _ h
theorem take_getD {cs : List Int32} {i k : Nat} (h : i < k) : (cs.take k).getD i 0 = cs.getD i 0 := by
  simp [List.getD_eq_getElem?_getD, List.getElem?_take, h]
theorem mem40 {cs : List Int32} {i k : Nat} (h : i < k) (h2 : i < cs.length) : cs.getD i 0 ∈ cs.take k := by
  rw [← take_getD h]; exact getD_mem (by rw [List.length_take]; omega)
theorem wide_app (b : List Int32) : ∀ a : List Int32, StrChars.Road.wideBytes (a ++ b) = StrChars.Road.wideBytes a ++ StrChars.Road.wideBytes b
  | [] => rfl
  | c :: a => by simp [StrChars.Road.wideBytes, wide_app b a]
theorem wide_take : ∀ (cs : List Int32) (k : Nat), (StrChars.Road.wideBytes cs).take (2 * k) = StrChars.Road.wideBytes (cs.take k)
  | [], k => by simp [StrChars.Road.wideBytes]
  | c :: cs, 0 => by simp [StrChars.Road.wideBytes]
  | c :: cs, k + 1 => by
    rw [show 2 * (k + 1) = 2 * k + 1 + 1 from by omega]
    simp [StrChars.Road.wideBytes, wide_take cs k]
theorem step40 {cs : List Int32} {i : Nat} (hi : i < 40) (hc : i < cs.length) : ((cs.take i).map (fun c => Value.int (StrChars.lo8 c)) ++ List.replicate (40 - i) (Value.int 0)).set i (.int (StrChars.lo8 (cs.getD i 0))) = (cs.take (i + 1)).map (fun c => Value.int (StrChars.lo8 c)) ++ List.replicate (40 - (i + 1)) (Value.int 0) := by
  have hl : ((cs.take i).map (fun c => Value.int (StrChars.lo8 c))).length = i := by rw [List.length_map, List.length_take]; omega
  have e : cs.getD i 0 = cs[i] := by simp [List.getD_eq_getElem?_getD, hc]
  rw [List.set_append_right i _ (by omega), hl, Nat.sub_self, show 40 - i = (40 - (i + 1)) + 1 from by omega, List.replicate_succ, List.set_cons_zero, List.take_succ_eq_append_getElem hc, List.map_append, e, List.append_assoc]; rfl
theorem all40 {cs : List Int32} {i : Nat} (inv : ∀ c ∈ cs.take i, ¬ 255 < c) (hc : i < cs.length) (h : ¬ 255 < cs.getD i 0) : ∀ c ∈ cs.take (i + 1), ¬ 255 < c := by
  have e : cs.getD i 0 = cs[i] := by simp [List.getD_eq_getElem?_getD, hc]
  rw [List.take_succ_eq_append_getElem hc]
  intro c q
  rcases List.mem_append.mp q with q | q
  · exact inv c q
  · rw [List.mem_singleton.mp q, ← e]; exact h
def CodB (ds : List Int32) (N : Int32) (vs : List Value) : Prop := (N = Int32.ofNat 40 ∧ vs = (ds.map fun c => Value.int (StrChars.lo8 c)) ∧ ∀ c ∈ ds, ¬ 255 < c) ∨ (N = Int32.ofNat 80 ∧ vs = StrChars.Road.wideBytes ds ∧ ∃ c ∈ ds, 255 < c)
def dots : List Int32 := [46, 46, 46]
theorem put40 {us : List Value} (h : us.length = 40) : ((List.replicate 16 (Value.int 0) ++ List.replicate 24 (Value.int 0)).take 0 ++ us ++ (List.replicate 16 (Value.int 0) ++ List.replicate 24 (Value.int 0)).drop (0 + 40)) = us := by
  rw [List.drop_of_length_le (by simp)]; simp
theorem put43_len {vs : List Value} (h : vs.length = 40) : ((vs ++ List.replicate 42 (Value.int 0)).take 40 ++ [Value.int 46, Value.int 46, Value.int 46] ++ (vs ++ List.replicate 42 (Value.int 0)).drop (40 + 3)).length = 82 := by simp [h]
theorem tailL {vs : List Value} (h : vs.length = 40) : ((vs ++ List.replicate 42 (Value.int 0)).take 40 ++ [Value.int 46, Value.int 46, Value.int 46] ++ (vs ++ List.replicate 42 (Value.int 0)).drop (40 + 3)).take 43 = vs ++ [Value.int 46, Value.int 46, Value.int 46] := by
  rw [List.take_left' h, List.take_append_of_le_length (by simp [h]), List.take_of_length_le (by simp [h])]
theorem lo46 : StrChars.lo8 46 = 46 := by decide
theorem hi46 : StrChars.hi8 46 = 0 := by decide
theorem dotsL (ds : List Int32) : (ds ++ dots).map (fun c => Value.int (StrChars.lo8 c)) = ds.map (fun c => Value.int (StrChars.lo8 c)) ++ [Value.int 46, Value.int 46, Value.int 46] := by
  rw [List.map_append]; simp [dots, lo46]
def w3 : List Value := [.int (StrChars.lo8 46), .int (StrChars.hi8 46), .int (StrChars.lo8 46), .int (StrChars.hi8 46), .int (StrChars.lo8 46), .int (StrChars.hi8 46)]
theorem dotsW (ds : List Int32) : StrChars.Road.wideBytes (ds ++ dots) = StrChars.Road.wideBytes ds ++ w3 := by rw [wide_app]; rfl
theorem set6 {wb : List Value} (h : wb.length = 80) (x y : Value) : ((((((wb ++ List.replicate 84 (Value.int 0)).set (2 * 40) x).set (2 * 40 + 1) y).set (2 * 41) x).set (2 * 41 + 1) y).set (2 * 42) x).set (2 * 42 + 1) y = wb ++ ([x, y, x, y, x, y] ++ List.replicate 78 (Value.int 0)) := by
  rw [List.set_append_right _ _ (by omega), List.set_append_right _ _ (by omega), List.set_append_right _ _ (by omega), List.set_append_right _ _ (by omega), List.set_append_right _ _ (by omega), List.set_append_right _ _ (by omega), h]; rfl
theorem tailW {wb : List Value} (h : wb.length = 80) : (((((((wb ++ List.replicate 84 (Value.int 0)).set (2 * 40) (.int (StrChars.lo8 46))).set (2 * 40 + 1) (.int (StrChars.hi8 46))).set (2 * 41) (.int (StrChars.lo8 46))).set (2 * 41 + 1) (.int (StrChars.hi8 46))).set (2 * 42) (.int (StrChars.lo8 46))).set (2 * 42 + 1) (.int (StrChars.hi8 46))).take 86 = wb ++ w3 := by
  rw [set6 h, ← List.append_assoc, List.take_append_of_le_length (by simp [h]), List.take_of_length_le (by simp [h])]; rfl
theorem putW_len {wb : List Value} (h : wb.length = 80) : (((((((wb ++ List.replicate 84 (Value.int 0)).set (2 * 40) (.int (StrChars.lo8 46))).set (2 * 40 + 1) (.int (StrChars.hi8 46))).set (2 * 41) (.int (StrChars.lo8 46))).set (2 * 41 + 1) (.int (StrChars.hi8 46))).set (2 * 42) (.int (StrChars.lo8 46))).set (2 * 42 + 1) (.int (StrChars.hi8 46))).length = 164 := by simp [h]
theorem dots_c {c : Int32} (h : c ∈ dots) : c = 46 := by simpa [dots] using h
theorem app16 {ds : List Int32} (h : ∀ c ∈ ds, ¬ c < 0 ∧ ¬ (65535 : Int32) < c) : ∀ c ∈ ds ++ dots, ¬ c < 0 ∧ ¬ (65535 : Int32) < c := fun c q => (List.mem_append.mp q).elim (h c) fun r => by rw [dots_c r]; decide
theorem app255 {ds : List Int32} (h : ∀ c ∈ ds, ¬ 255 < c) : ∀ c ∈ ds ++ dots, ¬ 255 < c := fun c q => (List.mem_append.mp q).elim (h c) fun r => by rw [dots_c r]; decide
theorem appX {ds : List Int32} (h : ∃ c ∈ ds, 255 < c) : ∃ c ∈ ds ++ dots, 255 < c := by obtain ⟨c, q, r⟩ := h; exact ⟨c, List.mem_append_left _ q, r⟩
theorem rep16 {n : Nat} : ∀ c ∈ List.replicate n (0 : Int32), B16 c := fun c q => by rw [(List.mem_replicate.mp q).2]; exact ⟨by decide, by decide⟩
theorem set16 {cs : List Int32} {i : Nat} {x : Int32} (h : ∀ c ∈ cs, B16 c) (hx : B16 x) : ∀ c ∈ cs.set i x, B16 c := fun c q => (List.mem_or_eq_of_mem_set q).elim (h c) fun e => e ▸ hx
theorem take_at {cs : List Int32} {n k : Nat} (hcl : cs.length = n) (hn : 40 < n) (hk : k < 40) : (cs.take 40 ++ dots).getD k 0 = cs.getD k 0 := by
  rw [List.getD_eq_getElem?_getD, List.getElem?_append_left (by rw [List.length_take]; omega), ← List.getD_eq_getElem?_getD]; exact take_getD hk
theorem dot_at {cs : List Int32} {n : Nat} (hcl : cs.length = n) (hn : 40 < n) (j : Nat) (hj : j < 3) : (cs.take 40 ++ dots).getD (40 + j) 0 = 46 := by
  have hl : (cs.take 40).length = 40 := by rw [List.length_take]; omega
  rw [List.getD_eq_getElem?_getD, List.getElem?_append_right (by omega), hl, Nat.add_sub_cancel_left]
  match j, hj with
  | 0, _ => rfl
  | 1, _ => rfl
  | 2, _ => rfl
theorem lenPay {l : Launch} {Z : State} {a0 : Array Value} {EL : List (String × Nat)} {R : Room} {K : Cx} {ln : Nat} {h : Heap} (hw : ∀ d ∈ tables_1, d.before a0 Z = true) (hE : EW Z a0 EL) (x : Addr) (cs : List Int32) {z : Int32} (Wd : Nat) (F : Str Z h x cs) (S : Sta Z h "java/lang/String" "COMPACT_STRINGS" "Z" (.int z)) (hz : ¬ z = 0) (hfr : 2 ≤ R.frames) (hlo : Wd + 25 ≤ R.locals) :
    Cb l Z EL R K (⟨"java/lang/String", "length", "()I"⟩ : MethodName) ln Wd 0 0 #[.ref x] h [] (fun v h' so => v = some (.int (Int32.ofNat cs.length)) ∧ so = []) := by
  have hws : ∀ d ∈ StrChars.Road.wordsLen, d.before a0 Z = true := fun d hd => hw d ((by decide +kernel : ∀ d ∈ StrChars.Road.wordsLen, d ∈ tables_1) d hd)
  obtain ⟨t, kb, cd, N, vs, A, V, C, B, q1, q2, q3⟩ := F
  refine Cb.bk (a0 := a0) (Qb := fun v h' L => v = some (.int (Int32.ofNat cs.length)) ∧ L = [] ∧ h' = h) (fun vm0 hZ => StrChars.Road.lenW (s := K.2.2.1.setVm vm0) hZ hws (kI := 4) (hws' hw) A V C B q1 q2 S hz q3 hfr hlo) hE ?_
  rintro v h' L ⟨rfl, rfl, rfl⟩
  exact ⟨⟨rfl, rfl⟩, Keep.refl _ _, fun _ q => nomatch q⟩
theorem opn0 : plainName "java/lang/String" = true := by first | (simp [plainName, overriddenIn]; done) | decide +kernel
theorem d3_0 : decode jdk_42_method_149_code 0 = .ok (.aload_n 0, 1) := by decide +kernel
theorem d3_1 : decode jdk_42_method_149_code 1 = .ok (.invokespecial 1, 3) := by decide +kernel
theorem ow15 {a0 : Array Value} {Z : State} (hw : ∀ d ∈ tables_1, d.before a0 Z = true) : (Jvm.Cond.methodLink "java/lang/String" (1 : Nat) ({ cls := "java/lang/Object", name := "<init>", desc := "()V" } : Jvm.MethodName)).before a0 Z = true := hw _ (List.mem_of_getElem? (i := 15) rfl)
theorem ow16 {a0 : Array Value} {Z : State} (hw : ∀ d ∈ tables_1, d.before a0 Z = true) : (Jvm.Cond.instanceMethod ({ cls := "java/lang/Object", name := "<init>", desc := "()V" } : Jvm.MethodName)).before a0 Z = true := hw _ (List.mem_of_getElem? (i := 16) rfl)
theorem ow17 {a0 : Array Value} {Z : State} (hw : ∀ d ∈ tables_1, d.before a0 Z = true) : (Jvm.Cond.code ({ cls := "java/lang/Object", name := "<init>", desc := "()V" } : Jvm.MethodName) object_method_1_code (1 : Nat) (Option.none : Option Jvm.ClassFile.FieldType)).before a0 Z = true := hw _ (List.mem_of_getElem? (i := 17) rfl)
theorem d3_4 : decode jdk_42_method_149_code 4 = .ok (.iload_n 3, 1) := by decide +kernel
theorem d3_5 : decode jdk_42_method_149_code 5 = .ok (.ifCond .ne 22, 3) := by decide +kernel
theorem d3_8 : decode jdk_42_method_149_code 8 = .ok (.aload_n 0, 1) := by decide +kernel
theorem d3_9 : decode jdk_42_method_149_code 9 = .ok (.ldc 7, 2) := by decide +kernel
theorem ow18 {a0 : Array Value} {Z : State} (hw : ∀ d ∈ tables_1, d.before a0 Z = true) : (Jvm.Cond.stringLink "java/lang/String" (7 : Nat) "").before a0 Z = true := hw _ (List.mem_of_getElem? (i := 18) rfl)
theorem d3_11 : decode jdk_42_method_149_code 11 = .ok (.getfield 9, 3) := by decide +kernel
theorem ow24 {a0 : Array Value} {Z : State} (hw : ∀ d ∈ tables_1, d.before a0 Z = true) : (Jvm.Cond.fieldLink "java/lang/String" (9 : Nat) "java/lang/String" "value" "[B").before a0 Z = true := hw _ (List.mem_of_getElem? (i := 24) rfl)
theorem d3_14 : decode jdk_42_method_149_code 14 = .ok (.putfield 9, 3) := by decide +kernel
theorem ow20 {a0 : Array Value} {Z : State} (hw : ∀ d ∈ tables_1, d.before a0 Z = true) : (Jvm.Cond.laysFinal "java/lang/String" "java/lang/String" "value" "[B").before a0 Z = true := hw _ (List.mem_of_getElem? (i := 20) rfl)
theorem ow6 {a0 : Array Value} {Z : State} (hw : ∀ d ∈ tables_1, d.before a0 Z = true) : (Jvm.Cond.instantiable "java/lang/String" (4 : Nat)).before a0 Z = true := hw _ (List.mem_of_getElem? (i := 6) rfl)
theorem d3_17 : decode jdk_42_method_149_code 17 = .ok (.aload_n 0, 1) := by decide +kernel
theorem d3_18 : decode jdk_42_method_149_code 18 = .ok (.ldc 7, 2) := by decide +kernel
theorem d3_20 : decode jdk_42_method_149_code 20 = .ok (.getfield 15, 3) := by decide +kernel
theorem ow25 {a0 : Array Value} {Z : State} (hw : ∀ d ∈ tables_1, d.before a0 Z = true) : (Jvm.Cond.fieldLink "java/lang/String" (15 : Nat) "java/lang/String" "coder" "B").before a0 Z = true := hw _ (List.mem_of_getElem? (i := 25) rfl)
theorem d3_23 : decode jdk_42_method_149_code 23 = .ok (.putfield 15, 3) := by decide +kernel
theorem ow21 {a0 : Array Value} {Z : State} (hw : ∀ d ∈ tables_1, d.before a0 Z = true) : (Jvm.Cond.laysFinal "java/lang/String" "java/lang/String" "coder" "B").before a0 Z = true := hw _ (List.mem_of_getElem? (i := 21) rfl)
theorem d3_26 : decode jdk_42_method_149_code 26 = .ok (.return_, 1) := by decide +kernel
theorem oef_orm_new4E (m_ : MethodId) (a : Addr) (b : Addr)  : (entryFrame m_ #[(.ref a), (.ref b), (.int (0 : Int32)), (.int (0 : Int32)), .null] 6).locals = #[.val (.ref a), .val (.ref b), .val (.int (0 : Int32)), .val (.int (0 : Int32)), .val .null, .unset] := by first | (simp [entryFrame, argsToLocals, Value.category]; done) | rfl
set_option maxRecDepth 65536 in
set_option maxHeartbeats 40000000 in
theorem orm_new4E (l : Launch) (Z : State) (a0 : Array Value) (hw : ∀ d ∈ tables_1, d.before a0 Z = true) (hE : EW Z a0 consts_1) (a : Addr) (b : Addr) (h : Heap) (hO : Old Z Z.heap.size h) (qE : Exa Z h a "java/lang/String") (qV : Fld Z h a "java/lang/String" "value" "[B" .null) (qC : Fld Z h a "java/lang/String" "coder" "B" (.int (0 : Int32))) (ge_a : Z.heap.size ≤ a) :
    Ct l Z consts_1 (⟨"java/lang/String", "<init>", "([CIILjava/lang/Void;)V"⟩ : MethodName) jdk_42_method_149_code 6 (Option.none : Option Jvm.ClassFile.FieldType) ⟨1, 4, 8, 15⟩ #[(.ref a), (.ref b), (.int (0 : Int32)), (.int (0 : Int32)), .null] h [a] (fun rv' hp' so' => ∃ t : Addr, ∃ kb : ClassId, rv' = none ∧ so' = [] ∧ Exa Z hp' a "java/lang/String" ∧ Fld Z hp' a "java/lang/String" "coder" "B" (.int (0 : Int32)) ∧ Fld Z hp' a "java/lang/String" "value" "[B" (.ref t) ∧ Arv Z hp' t kb .byte (0 : Int32) [] (.int 0)) := by
  refine Ct.mk "java/lang/String" "<init>" rfl rfl (a0 := a0) (plainFor_of_name opn0) hO hE (fun x q => by simp at q; subst q; exact ge_a) ?_
  intro K T W
  rw [oef_orm_new4E]
  refine gAloadN W d3_0 rfl rfl rfl ?_
  refine wInitO W d3_1 (ow15 hw) (ow16 hw) (ow17 hw) rfl (by decide) 0 (Nat.le_of_eq rfl) (by decide) rfl fun T1 W2 => ?_
  refine gIloadN W2 d3_4 rfl rfl ?_
  refine gIfNo W2 d3_5 ((if0 _ _).trans (teq rfl).2) rfl ?_
  refine gAloadN W2 d3_8 rfl rfl rfl ?_
  refine wLdcS (vs := []) (z := 0) (n := 0) W2 d3_9 (ow18 hw) (owS hw) hE (by decide) (by decide) (by decide) (by decide) (by decide) (by decide) (by decide) (by decide) rfl fun T3 h5 a6 t7 k8 W4 E9 A10 f11 f12 f13 ne14 => ?_
  refine wGetF W4 d3_11 (ow24 hw) Via.refl f12 rfl fun T15 W16 => ?_
  have f17 := qV.ext E9
  have f18 := qE.ext E9
  refine wPutF (ty := .array .byte) W16 d3_14 (ow24 hw) Via.refl (by simp) f17 f18 (Or.inr ⟨(ow20 hw), rfl, rfl⟩) (ow6 hw) (by decide) rfl rfl rfl fun T19 h21 W20 wr22 => ?_
  have f23 := Fld.same wr22 f17
  refine gAloadN W20 d3_17 rfl rfl rfl ?_
  refine wLdcS (vs := []) (z := 0) (n := 0) W20 d3_18 (ow18 hw) (owS hw) hE (by decide) (by decide) (by decide) (by decide) (by decide) (by decide) (by decide) (by decide) rfl fun T24 h26 a27 t28 k29 W25 E30 A31 f32 f33 f34 ne35 => ?_
  refine wGetF W25 d3_20 (ow25 hw) Via.refl f32 rfl fun T36 W37 => ?_
  have f38 := qC.ext E9
  have f39 := f38.other wr22 (Or.inr (slot_ne (t := .byte) (t' := .array .byte) (Or.inr (ow21 hw)) (Or.inr (ow20 hw)) (by decide) (by decide) (by decide)))
  have f40 := f39.ext E30
  have f41 := f18.wr wr22
  have f42 := f41.ext E30
  refine wPutF (ty := .byte) W37 d3_23 (ow25 hw) Via.refl (by simp) f40 f42 (Or.inr ⟨(ow21 hw), rfl, rfl⟩) (ow6 hw) (by decide) rfl (by decide) rfl fun T43 h45 W44 wr46 => ?_
  have f47 := Fld.same wr46 f40
  have f48 := f42.wr wr46
  have f49 := f23.ext E30
  have f50 := f49.other wr46 (Or.inr (slot_ne (t := .array .byte) (t' := .byte) (Or.inr (ow20 hw)) (Or.inr (ow21 hw)) (by decide) (by decide) (by decide)))
  have f51 := f13.other wr22 (Ne.symm (ne14 a (by simp)).2)
  have f52 := f51.ext E30
  have f53 := f52.other wr46 (Ne.symm (ne14 a (by simp)).2)
  exact wRet0 (so := []) W44 d3_26 (by decide) (by decide) (fun _ q => nomatch q) ⟨t7, k8, rfl, rfl, f48, f47, f50, f53⟩
theorem d2_0 : decode jdk_42_method_3_code 0 = .ok (.aload_n 0, 1) := by decide +kernel
theorem d2_1 : decode jdk_42_method_3_code 1 = .ok (.aload_n 1, 1) := by decide +kernel
theorem d2_2 : decode jdk_42_method_3_code 2 = .ok (.iconst 0, 1) := by decide +kernel
theorem d2_3 : decode jdk_42_method_3_code 3 = .ok (.aload_n 1, 1) := by decide +kernel
theorem d2_4 : decode jdk_42_method_3_code 4 = .ok (.arraylength, 1) := by decide +kernel
theorem d2_5 : decode jdk_42_method_3_code 5 = .ok (.aconst_null, 1) := by decide +kernel
theorem d2_6 : decode jdk_42_method_3_code 6 = .ok (.invokespecial 27, 3) := by decide +kernel
theorem ow11 {a0 : Array Value} {Z : State} (hw : ∀ d ∈ tables_1, d.before a0 Z = true) : (Jvm.Cond.methodLink "java/lang/String" (27 : Nat) ({ cls := "java/lang/String", name := "<init>", desc := "([CIILjava/lang/Void;)V" } : Jvm.MethodName)).before a0 Z = true := hw _ (List.mem_of_getElem? (i := 11) rfl)
theorem ow7 {a0 : Array Value} {Z : State} (hw : ∀ d ∈ tables_1, d.before a0 Z = true) : (Jvm.Cond.initialized "java/lang/String").before a0 Z = true := hw _ (List.mem_of_getElem? (i := 7) rfl)
theorem ow14 {a0 : Array Value} {Z : State} (hw : ∀ d ∈ tables_1, d.before a0 Z = true) : (Jvm.Cond.code ({ cls := "java/lang/String", name := "<init>", desc := "([CIILjava/lang/Void;)V" } : Jvm.MethodName) jdk_42_method_149_code (6 : Nat) (Option.none : Option Jvm.ClassFile.FieldType)).before a0 Z = true := hw _ (List.mem_of_getElem? (i := 14) rfl)
theorem opd0 : parseMethodDescriptor "([CIILjava/lang/Void;)V" = some ⟨[.array .char, .int, .int, .object "java/lang/Void"], none⟩ := by decide +kernel
theorem ow12 {a0 : Array Value} {Z : State} (hw : ∀ d ∈ tables_1, d.before a0 Z = true) : (Jvm.Cond.instanceMethod ({ cls := "java/lang/String", name := "<init>", desc := "([CIILjava/lang/Void;)V" } : Jvm.MethodName)).before a0 Z = true := hw _ (List.mem_of_getElem? (i := 12) rfl)
theorem d2_9 : decode jdk_42_method_3_code 9 = .ok (.return_, 1) := by decide +kernel
theorem oef_orm_new1E (m_ : MethodId) (a : Addr) (b : Addr)  : (entryFrame m_ #[(.ref a), (.ref b)] 2).locals = #[.val (.ref a), .val (.ref b)] := by first | (simp [entryFrame, argsToLocals, Value.category]; done) | rfl
set_option maxRecDepth 65536 in
set_option maxHeartbeats 40000000 in
theorem orm_new1E (l : Launch) (Z : State) (a0 : Array Value) (hw : ∀ d ∈ tables_1, d.before a0 Z = true) (hE : EW Z a0 consts_1) (a : Addr) (b : Addr) (kC : ClassId) (h : Heap) (hO : Old Z Z.heap.size h) (qE : Exa Z h a "java/lang/String") (qV : Fld Z h a "java/lang/String" "value" "[B" .null) (qC : Fld Z h a "java/lang/String" "coder" "B" (.int (0 : Int32))) (qA : Arv Z h b kC .char (0 : Int32) [] (.int 0)) (ge_a : Z.heap.size ≤ a) :
    Ct l Z consts_1 (⟨"java/lang/String", "<init>", "([C)V"⟩ : MethodName) jdk_42_method_3_code 2 (Option.none : Option Jvm.ClassFile.FieldType) ⟨2, 4, 8, 32⟩ #[(.ref a), (.ref b)] h [a] (fun rv' hp' so' => ∃ t : Addr, ∃ kb : ClassId, rv' = none ∧ so' = [] ∧ Exa Z hp' a "java/lang/String" ∧ Fld Z hp' a "java/lang/String" "coder" "B" (.int (0 : Int32)) ∧ Fld Z hp' a "java/lang/String" "value" "[B" (.ref t) ∧ Arv Z hp' t kb .byte (0 : Int32) [] (.int 0)) := by
  refine Ct.mk "java/lang/String" "<init>" rfl rfl (a0 := a0) (plainFor_of_name opn0) hO hE (fun x q => by simp at q; subst q; exact ge_a) ?_
  intro K T W
  rw [oef_orm_new1E]
  refine gAloadN W d2_0 rfl rfl rfl ?_
  refine gAloadN W d2_1 rfl rfl rfl ?_
  refine gIconst (z := (0 : Int32)) W d2_2 rfl rfl ?_
  refine gAloadN W d2_3 rfl rfl rfl ?_
  refine wLen W d2_4 qA rfl ?_
  refine gAconstNull W d2_5 rfl ?_
  refine wSpecial (y := (⟨"java/lang/String", "<init>", "([CIILjava/lang/Void;)V"⟩ : MethodName)) (Wd := 0) (a := a) (argsL := [(.ref b), (.int (0 : Int32)), (.int (0 : Int32)), .null]) (rest := []) W d2_6 rfl (ow11 hw) (ow12 hw) (ow14 hw) (by decide) (Cb.ct (orm_new4E l Z a0 hw hE (a) (b) h W.old qE qV qC ge_a) (ow14 hw) (ow7 hw) hE (by decide) (by decide)) (by simp) rfl (lenOf opd0 rfl) rfl (Nat.le_of_eq rfl) (by decide) (by decide) rfl fun v58 so59 T54 h56 W55 kp57 sp60 q61 => ?_
  obtain ⟨t62, kb63, rfl, rfl, f64, f65, f66, f67⟩ := q61
  show Go K _ T54 9 #[.val (.ref a), .val (.ref b)] []
  exact wRet0 (so := []) W55 d2_9 (by decide) (by decide) (fun _ q => nomatch q) ⟨t62, kb63, rfl, rfl, f64, f65, f66, f67⟩
theorem opn1 : plainName "java/lang/StringUTF16" = true := by first | (simp [plainName, overriddenIn]; done) | decide +kernel
theorem d48_0 : decode jdk_52_method_3_code 0 = .ok (.iload_n 0, 1) := by decide +kernel
theorem d48_1 : decode jdk_52_method_3_code 1 = .ok (.ifCond .ge 11, 3) := by decide +kernel
theorem d48_12 : decode jdk_52_method_3_code 12 = .ok (.iload_n 0, 1) := by decide +kernel
theorem d48_13 : decode jdk_52_method_3_code 13 = .ok (.ldc 20, 2) := by decide +kernel
theorem ow232 {a0 : Array Value} {Z : State} (hw : ∀ d ∈ tables_1, d.before a0 Z = true) : (Jvm.Cond.constant "java/lang/StringUTF16" (20 : Nat) (1073741823 : Int32)).before a0 Z = true := hw _ (List.mem_of_getElem? (i := 232) rfl)
theorem d48_15 : decode jdk_52_method_3_code 15 = .ok (.if_icmp .lt 40, 3) := by decide +kernel
theorem d48_55 : decode jdk_52_method_3_code 55 = .ok (.iload_n 0, 1) := by decide +kernel
theorem d48_56 : decode jdk_52_method_3_code 56 = .ok (.iconst 1, 1) := by decide +kernel
theorem d48_57 : decode jdk_52_method_3_code 57 = .ok (.ishl, 1) := by decide +kernel
theorem d48_58 : decode jdk_52_method_3_code 58 = .ok (.ireturn, 1) := by decide +kernel
theorem oef_oru_nbl (m_ : MethodId) (n : Int32)  : (entryFrame m_ #[(.int n)] 1).locals = #[.val (.int n)] := by first | (simp [entryFrame, argsToLocals, Value.category]; done) | rfl
set_option maxRecDepth 65536 in
set_option maxHeartbeats 40000000 in
theorem oru_nbl (l : Launch) (Z : State) (a0 : Array Value) (hw : ∀ d ∈ tables_1, d.before a0 Z = true) (hE : EW Z a0 consts_1) (n : Int32) (m : Int32) (h : Heap) (hO : Old Z Z.heap.size h) (h0 : (¬ n < 0)) (h1 : (n < 1073741823)) (hm : (n <<< ((1 : Int32) &&& 31) = m))  :
    Ct l Z consts_1 (⟨"java/lang/StringUTF16", "newBytesLength", "(I)I"⟩ : MethodName) jdk_52_method_3_code 1 (Option.some Jvm.ClassFile.FieldType.int) ⟨0, 0, 0, 0⟩ #[(.int n)] h [] (fun rv' hp' so' => rv' = some (.int m) ∧ so' = []) := by
  refine Ct.mk "java/lang/StringUTF16" "newBytesLength" rfl rfl (a0 := a0) (plainFor_of_name opn1) hO hE (fun x q => nomatch q) ?_
  intro K T W
  rw [oef_oru_nbl]
  refine gIloadN W d48_0 rfl rfl ?_
  refine gIfYes (pc' := 12) W d48_1 ((if0 _ _).trans (flt h0).2.1) (by decide) rfl ?_
  refine gIloadN W d48_12 rfl rfl ?_
  refine wLdcI (v := (1073741823 : Int32)) W d48_13 (ow232 hw) rfl ?_
  refine gIcmpYes (pc' := 55) W d48_15 (tlt h1).1 (by decide) rfl ?_
  refine gIloadN W d48_55 rfl rfl ?_
  refine gIconst (z := (1 : Int32)) W d48_56 rfl rfl ?_
  refine gIshl (z := m) W d48_57 hm rfl ?_
  exact wRetI (so := []) (t := .int) W d48_58 (by simp) rfl (by decide) (by decide) (fun _ q => nomatch q) ⟨rfl, rfl⟩
theorem d47_0 : decode jdk_52_method_2_code 0 = .ok (.iload_n 0, 1) := by decide +kernel
theorem d47_1 : decode jdk_52_method_2_code 1 = .ok (.invokestatic 11, 3) := by decide +kernel
theorem ow229 {a0 : Array Value} {Z : State} (hw : ∀ d ∈ tables_1, d.before a0 Z = true) : (Jvm.Cond.methodLink "java/lang/StringUTF16" (11 : Nat) ({ cls := "java/lang/StringUTF16", name := "newBytesLength", desc := "(I)I" } : Jvm.MethodName)).before a0 Z = true := hw _ (List.mem_of_getElem? (i := 229) rfl)
theorem ow50 {a0 : Array Value} {Z : State} (hw : ∀ d ∈ tables_1, d.before a0 Z = true) : (Jvm.Cond.initialized "java/lang/StringUTF16").before a0 Z = true := hw _ (List.mem_of_getElem? (i := 50) rfl)
theorem ow231 {a0 : Array Value} {Z : State} (hw : ∀ d ∈ tables_1, d.before a0 Z = true) : (Jvm.Cond.code ({ cls := "java/lang/StringUTF16", name := "newBytesLength", desc := "(I)I" } : Jvm.MethodName) jdk_52_method_3_code (1 : Nat) (Option.some Jvm.ClassFile.FieldType.int)).before a0 Z = true := hw _ (List.mem_of_getElem? (i := 231) rfl)
theorem opd1 : parseMethodDescriptor "(I)I" = some ⟨[.int], some (.int)⟩ := by decide +kernel
theorem ow230 {a0 : Array Value} {Z : State} (hw : ∀ d ∈ tables_1, d.before a0 Z = true) : (Jvm.Cond.static ({ cls := "java/lang/StringUTF16", name := "newBytesLength", desc := "(I)I" } : Jvm.MethodName)).before a0 Z = true := hw _ (List.mem_of_getElem? (i := 230) rfl)
theorem d47_4 : decode jdk_52_method_2_code 4 = .ok (.newarray .byte, 2) := by decide +kernel
theorem ow19 {a0 : Array Value} {Z : State} (hw : ∀ d ∈ tables_1, d.before a0 Z = true) : (Jvm.Cond.arrayClass Jvm.ClassFile.FieldType.byte).before a0 Z = true := hw _ (List.mem_of_getElem? (i := 19) rfl)
theorem d47_6 : decode jdk_52_method_2_code 6 = .ok (.areturn, 1) := by decide +kernel
theorem oef_oru_nbf (m_ : MethodId) (n : Int32)  : (entryFrame m_ #[(.int n)] 1).locals = #[.val (.int n)] := by first | (simp [entryFrame, argsToLocals, Value.category]; done) | rfl
set_option maxRecDepth 65536 in
set_option maxHeartbeats 40000000 in
theorem oru_nbf (l : Launch) (Z : State) (a0 : Array Value) (hw : ∀ d ∈ tables_1, d.before a0 Z = true) (hE : EW Z a0 consts_1) (n : Int32) (m : Int32) (h : Heap) (hO : Old Z Z.heap.size h) (h0 : (¬ n < 0)) (h1 : (n < 1073741823)) (hm : (n <<< ((1 : Int32) &&& 31) = m)) (m0 : (¬ m < 0)) (mc : (m.toNatClampNeg ≤ 160))  :
    Ct l Z consts_1 (⟨"java/lang/StringUTF16", "newBytesFor", "(I)[B"⟩ : MethodName) jdk_52_method_2_code 1 (Option.some (Jvm.ClassFile.FieldType.array Jvm.ClassFile.FieldType.byte)) ⟨1, 1, 160, 12⟩ #[(.int n)] h [] (fun rv' hp' so' => ∃ r : Addr, ∃ kb : ClassId, rv' = some (.ref r) ∧ so' = [r] ∧ (h.size ≤ r) ∧ Arv Z hp' r kb .byte m (List.replicate 160 (.int 0)) (.int 0)) := by
  refine Ct.mk "java/lang/StringUTF16" "newBytesFor" rfl rfl (a0 := a0) (plainFor_of_name opn1) hO hE (fun x q => nomatch q) ?_
  intro K T W
  rw [oef_oru_nbf]
  refine gIloadN W d47_0 rfl rfl ?_
  refine wStatic (y := (⟨"java/lang/StringUTF16", "newBytesLength", "(I)I"⟩ : MethodName)) (Wd := 0) (argsL := [(.int n)]) (rest := []) W d47_1 (ow229 hw) (ow230 hw) (ow50 hw) (ow231 hw) (by decide) (Cb.ct (oru_nbl l Z a0 hw hE (n) (m) h W.old h0 h1 hm ) (ow231 hw) (ow50 hw) hE (by decide) (by decide)) (by simp) rfl (lenOf opd1 rfl) rfl (Nat.le_of_eq rfl) (by decide) (by decide) rfl fun v72 so73 T68 h70 W69 kp71 sp74 q75 => ?_
  obtain ⟨rfl, rfl⟩ := q75
  show Go K _ T68 4 #[.val (.int n)] [(.int m)]
  refine wNewP (cap := 160) W69 d47_4 (ow19 hw) m0 mc (by decide) (by decide) (by decide) rfl fun T76 h78 a79 k83 W77 E80 g81 A82 => ?_
  have fa := A82 160
  exact wRetA (so := [a79]) (t := .array .byte) W77 d47_6 rfl rfl rfl (by decide) (by decide) (all1 ⟨by simp, (Nat.le_trans W69.grow (Nat.le_of_eq g81.symm))⟩ alln) ⟨a79, k83, rfl, rfl, (Nat.le_trans W69.grow (Nat.le_of_eq g81.symm)), fa⟩
theorem d49_0 : decode jdk_52_method_4_code 0 = .ok (.getstatic 44, 3) := by decide +kernel
theorem ow236 {a0 : Array Value} {Z : State} (hw : ∀ d ∈ tables_1, d.before a0 Z = true) : (Jvm.Cond.fieldLink "java/lang/StringUTF16" (44 : Nat) "java/lang/StringUTF16" "$assertionsDisabled" "Z").before a0 Z = true := hw _ (List.mem_of_getElem? (i := 236) rfl)
theorem d49_3 : decode jdk_52_method_4_code 3 = .ok (.ifCond .ne 25, 3) := by decide +kernel
theorem d49_28 : decode jdk_52_method_4_code 28 = .ok (.iload_n 1, 1) := by decide +kernel
theorem d49_29 : decode jdk_52_method_4_code 29 = .ok (.iconst 1, 1) := by decide +kernel
theorem d49_30 : decode jdk_52_method_4_code 30 = .ok (.ishl, 1) := by decide +kernel
theorem d49_31 : decode jdk_52_method_4_code 31 = .ok (.istore_n 1, 1) := by decide +kernel
theorem d49_32 : decode jdk_52_method_4_code 32 = .ok (.aload_n 0, 1) := by decide +kernel
theorem d49_33 : decode jdk_52_method_4_code 33 = .ok (.iload_n 1, 1) := by decide +kernel
theorem d49_34 : decode jdk_52_method_4_code 34 = .ok (.iinc 1 1, 3) := by decide +kernel
theorem d49_37 : decode jdk_52_method_4_code 37 = .ok (.iload_n 2, 1) := by decide +kernel
theorem d49_38 : decode jdk_52_method_4_code 38 = .ok (.getstatic 59, 3) := by decide +kernel
theorem ow237 {a0 : Array Value} {Z : State} (hw : ∀ d ∈ tables_1, d.before a0 Z = true) : (Jvm.Cond.fieldLink "java/lang/StringUTF16" (59 : Nat) "java/lang/StringUTF16" "HI_BYTE_SHIFT" "I").before a0 Z = true := hw _ (List.mem_of_getElem? (i := 237) rfl)
theorem d49_41 : decode jdk_52_method_4_code 41 = .ok (.ishr, 1) := by decide +kernel
theorem d49_42 : decode jdk_52_method_4_code 42 = .ok (.i2b, 1) := by decide +kernel
theorem d49_43 : decode jdk_52_method_4_code 43 = .ok (.bastore, 1) := by decide +kernel
theorem d49_44 : decode jdk_52_method_4_code 44 = .ok (.aload_n 0, 1) := by decide +kernel
theorem d49_45 : decode jdk_52_method_4_code 45 = .ok (.iload_n 1, 1) := by decide +kernel
theorem d49_46 : decode jdk_52_method_4_code 46 = .ok (.iload_n 2, 1) := by decide +kernel
theorem d49_47 : decode jdk_52_method_4_code 47 = .ok (.getstatic 63, 3) := by decide +kernel
theorem ow238 {a0 : Array Value} {Z : State} (hw : ∀ d ∈ tables_1, d.before a0 Z = true) : (Jvm.Cond.fieldLink "java/lang/StringUTF16" (63 : Nat) "java/lang/StringUTF16" "LO_BYTE_SHIFT" "I").before a0 Z = true := hw _ (List.mem_of_getElem? (i := 238) rfl)
theorem d49_50 : decode jdk_52_method_4_code 50 = .ok (.ishr, 1) := by decide +kernel
theorem d49_51 : decode jdk_52_method_4_code 51 = .ok (.i2b, 1) := by decide +kernel
theorem d49_52 : decode jdk_52_method_4_code 52 = .ok (.bastore, 1) := by decide +kernel
theorem d49_53 : decode jdk_52_method_4_code 53 = .ok (.return_, 1) := by decide +kernel
theorem oef_oru_put (m_ : MethodId) (v : Addr) (y0_ : Int32) (c : Int32)  : (entryFrame m_ #[(.ref v), (.int y0_), (.int c)] 3).locals = #[.val (.ref v), .val (.int y0_), .val (.int c)] := by first | (simp [entryFrame, argsToLocals, Value.category]; done) | rfl
set_option maxRecDepth 65536 in
set_option maxHeartbeats 40000000 in
theorem oru_put (l : Launch) (Z : State) (a0 : Array Value) (hw : ∀ d ∈ tables_1, d.before a0 Z = true) (hE : EW Z a0 consts_1) (v : Addr) (kb : ClassId) (M : Nat) (vs : List Value) (i : Nat) (c : Int32) (h : Heap) (hO : Old Z Z.heap.size h) (SA : (Sta Z Z.heap "java/lang/StringUTF16" "$assertionsDisabled" "Z" (.int (1 : Int32)))) (SH : (Sta Z Z.heap "java/lang/StringUTF16" "HI_BYTE_SHIFT" "I" (.int (0 : Int32)))) (SL : (Sta Z Z.heap "java/lang/StringUTF16" "LO_BYTE_SHIFT" "I" (.int (8 : Int32)))) (qv : Arv Z h v kb .byte (Int32.ofNat M) vs (.int 0)) (hi : (2 * i + 1 < M)) (hM : (M ≤ 8000)) (hl : (2 * i + 1 < vs.length)) (ge_v : Z.heap.size ≤ v) :
    Ct l Z consts_1 (⟨"java/lang/StringUTF16", "putChar", "([BII)V"⟩ : MethodName) jdk_52_method_4_code 3 (Option.none : Option Jvm.ClassFile.FieldType) ⟨0, 0, 0, 0⟩ #[(.ref v), (.int (Int32.ofNat i)), (.int c)] h [v] (fun rv' hp' so' => rv' = none ∧ so' = [] ∧ Arv Z hp' v kb .byte (Int32.ofNat M) ((vs.set (2 * i) (.int (StrChars.lo8 c))).set (2 * i + 1) (.int (StrChars.hi8 c))) (.int 0)) := by
  refine Ct.mk "java/lang/StringUTF16" "putChar" rfl rfl (a0 := a0) (plainFor_of_name opn1) hO hE (fun x q => by simp at q; subst q; exact ge_v) ?_
  intro K T W
  rw [oef_oru_put]
  refine wGetS W d49_0 (ow236 hw) Via.refl SA rfl fun T84 W85 => ?_
  refine gIfYes (pc' := 28) W85 d49_3 ((if0 _ _).trans (feq (by decide)).2) (by decide) rfl ?_
  refine gIloadN W85 d49_28 rfl rfl ?_
  refine gIconst (z := (1 : Int32)) W85 d49_29 rfl rfl ?_
  refine gIshl (z := (Int32.ofNat (2 * i))) W85 d49_30 (shl1 (by omega)) rfl ?_
  refine gIstoreN (ls' := #[.val (.ref v), .val (.int (Int32.ofNat (2 * i))), .val (.int c)]) W85 d49_31 rfl rfl ?_
  refine gAloadN W85 d49_32 rfl rfl rfl ?_
  refine gIloadN W85 d49_33 rfl rfl ?_
  refine gIinc (z := (Int32.ofNat (2 * i + 1))) (ls' := #[.val (.ref v), .val (.int (Int32.ofNat (2 * i + 1))), .val (.int c)]) W85 d49_34 rfl (ofNat_succ (by omega)) rfl rfl ?_
  refine gIloadN W85 d49_37 rfl rfl ?_
  refine wGetS W85 d49_38 (ow237 hw) Via.refl SH rfl fun T86 W87 => ?_
  refine gIshr (z := c) W87 d49_41 (StrChars.shr0 c) rfl ?_
  refine gI2B (z := (StrChars.lo8 c)) W87 d49_42 rfl rfl ?_
  refine wStB (y := (StrChars.lo8 c)) W87 d49_43 (by simp) qv (ofNat_inb (by omega) (by omega)) (lo8_idem c) (2 * i) (ofNat_clamp (by omega)) (by omega) rfl fun T88 h90 W89 wr91 A92 => ?_
  refine gAloadN W89 d49_44 rfl rfl rfl ?_
  refine gIloadN W89 d49_45 rfl rfl ?_
  refine gIloadN W89 d49_46 rfl rfl ?_
  refine wGetS W89 d49_47 (ow238 hw) Via.refl SL rfl fun T93 W94 => ?_
  refine gIshr (z := (c >>> ((8 : Int32) &&& 31))) W94 d49_50 rfl rfl ?_
  refine gI2B (z := (StrChars.hi8 c)) W94 d49_51 rfl rfl ?_
  refine wStB (y := (StrChars.hi8 c)) W94 d49_52 (by simp) A92 (ofNat_inb (by omega) (by omega)) (lo8_idem _) (2 * i + 1) (ofNat_clamp (by omega)) (by rw [List.length_set]; omega) rfl fun T95 h97 W96 wr98 A99 => ?_
  exact wRet0 (so := []) W96 d49_53 (by decide) (by decide) (fun _ q => nomatch q) ⟨rfl, rfl, A99⟩
theorem d50_0 : decode jdk_52_method_5_code 0 = .ok (.getstatic 44, 3) := by decide +kernel
theorem d50_3 : decode jdk_52_method_5_code 3 = .ok (.ifCond .ne 25, 3) := by decide +kernel
theorem d50_28 : decode jdk_52_method_5_code 28 = .ok (.iload_n 1, 1) := by decide +kernel
theorem d50_29 : decode jdk_52_method_5_code 29 = .ok (.iconst 1, 1) := by decide +kernel
theorem d50_30 : decode jdk_52_method_5_code 30 = .ok (.ishl, 1) := by decide +kernel
theorem d50_31 : decode jdk_52_method_5_code 31 = .ok (.istore_n 1, 1) := by decide +kernel
theorem d50_32 : decode jdk_52_method_5_code 32 = .ok (.aload_n 0, 1) := by decide +kernel
theorem d50_33 : decode jdk_52_method_5_code 33 = .ok (.iload_n 1, 1) := by decide +kernel
theorem d50_34 : decode jdk_52_method_5_code 34 = .ok (.iinc 1 1, 3) := by decide +kernel
theorem d50_37 : decode jdk_52_method_5_code 37 = .ok (.baload, 1) := by decide +kernel
theorem d50_38 : decode jdk_52_method_5_code 38 = .ok (.sipush 255, 3) := by decide +kernel
theorem d50_41 : decode jdk_52_method_5_code 41 = .ok (.iand, 1) := by decide +kernel
theorem d50_42 : decode jdk_52_method_5_code 42 = .ok (.getstatic 59, 3) := by decide +kernel
theorem d50_45 : decode jdk_52_method_5_code 45 = .ok (.ishl, 1) := by decide +kernel
theorem d50_46 : decode jdk_52_method_5_code 46 = .ok (.aload_n 0, 1) := by decide +kernel
theorem d50_47 : decode jdk_52_method_5_code 47 = .ok (.iload_n 1, 1) := by decide +kernel
theorem d50_48 : decode jdk_52_method_5_code 48 = .ok (.baload, 1) := by decide +kernel
theorem d50_49 : decode jdk_52_method_5_code 49 = .ok (.sipush 255, 3) := by decide +kernel
theorem d50_52 : decode jdk_52_method_5_code 52 = .ok (.iand, 1) := by decide +kernel
theorem d50_53 : decode jdk_52_method_5_code 53 = .ok (.getstatic 63, 3) := by decide +kernel
theorem d50_56 : decode jdk_52_method_5_code 56 = .ok (.ishl, 1) := by decide +kernel
theorem d50_57 : decode jdk_52_method_5_code 57 = .ok (.ior, 1) := by decide +kernel
theorem d50_58 : decode jdk_52_method_5_code 58 = .ok (.i2c, 1) := by decide +kernel
theorem d50_59 : decode jdk_52_method_5_code 59 = .ok (.ireturn, 1) := by decide +kernel
theorem oef_oru_get (m_ : MethodId) (v : Addr) (y0_ : Int32)  : (entryFrame m_ #[(.ref v), (.int y0_)] 2).locals = #[.val (.ref v), .val (.int y0_)] := by first | (simp [entryFrame, argsToLocals, Value.category]; done) | rfl
set_option maxRecDepth 65536 in
set_option maxHeartbeats 40000000 in
theorem oru_get (l : Launch) (Z : State) (a0 : Array Value) (hw : ∀ d ∈ tables_1, d.before a0 Z = true) (hE : EW Z a0 consts_1) (v : Addr) (kb : ClassId) (M : Nat) (vs : List Value) (i : Nat) (c : Int32) (h : Heap) (hO : Old Z Z.heap.size h) (SA : (Sta Z Z.heap "java/lang/StringUTF16" "$assertionsDisabled" "Z" (.int (1 : Int32)))) (SH : (Sta Z Z.heap "java/lang/StringUTF16" "HI_BYTE_SHIFT" "I" (.int (0 : Int32)))) (SL : (Sta Z Z.heap "java/lang/StringUTF16" "LO_BYTE_SHIFT" "I" (.int (8 : Int32)))) (qv : Arv Z h v kb .byte (Int32.ofNat M) vs (.int 0)) (hi : (2 * i + 1 < M)) (hM : (M ≤ 8000)) (l1 : (vs.getD (2 * i) (.int 0) = .int (StrChars.lo8 c))) (l2 : (vs.getD (2 * i + 1) (.int 0) = .int (StrChars.hi8 c))) (hc : (B16 c))  :
    Ct l Z consts_1 (⟨"java/lang/StringUTF16", "getChar", "([BI)C"⟩ : MethodName) jdk_52_method_5_code 2 (Option.some Jvm.ClassFile.FieldType.char) ⟨0, 0, 0, 0⟩ #[(.ref v), (.int (Int32.ofNat i))] h [] (fun rv' hp' so' => rv' = some (.int c) ∧ so' = []) := by
  refine Ct.mk "java/lang/StringUTF16" "getChar" rfl rfl (a0 := a0) (plainFor_of_name opn1) hO hE (fun x q => nomatch q) ?_
  intro K T W
  rw [oef_oru_get]
  refine wGetS W d50_0 (ow236 hw) Via.refl SA rfl fun T100 W101 => ?_
  refine gIfYes (pc' := 28) W101 d50_3 ((if0 _ _).trans (feq (by decide)).2) (by decide) rfl ?_
  refine gIloadN W101 d50_28 rfl rfl ?_
  refine gIconst (z := (1 : Int32)) W101 d50_29 rfl rfl ?_
  refine gIshl (z := (Int32.ofNat (2 * i))) W101 d50_30 (shl1 (by omega)) rfl ?_
  refine gIstoreN (ls' := #[.val (.ref v), .val (.int (Int32.ofNat (2 * i)))]) W101 d50_31 rfl rfl ?_
  refine gAloadN W101 d50_32 rfl rfl rfl ?_
  refine gIloadN W101 d50_33 rfl rfl ?_
  refine gIinc (z := (Int32.ofNat (2 * i + 1))) (ls' := #[.val (.ref v), .val (.int (Int32.ofNat (2 * i + 1)))]) W101 d50_34 rfl (ofNat_succ (by omega)) rfl rfl ?_
  refine wLdB (v := (.int (StrChars.lo8 c))) W101 d50_37 qv (ofNat_inb (by omega) (by omega)) (by rw [ofNat_clamp (by omega)]; exact l1) rfl ?_
  refine gSipush (z := (255 : Int32)) W101 d50_38 rfl rfl ?_
  refine gIand (z := (StrChars.lo8 c &&& 255)) W101 d50_41 rfl rfl ?_
  refine wGetS W101 d50_42 (ow237 hw) Via.refl SH rfl fun T102 W103 => ?_
  refine gIshl (z := ((StrChars.lo8 c &&& 255) <<< ((0 : Int32) &&& 31))) W103 d50_45 rfl rfl ?_
  refine gAloadN W103 d50_46 rfl rfl rfl ?_
  refine gIloadN W103 d50_47 rfl rfl ?_
  refine wLdB (v := (.int (StrChars.hi8 c))) W103 d50_48 qv (ofNat_inb (by omega) (by omega)) (by rw [ofNat_clamp (by omega)]; exact l2) rfl ?_
  refine gSipush (z := (255 : Int32)) W103 d50_49 rfl rfl ?_
  refine gIand (z := (StrChars.hi8 c &&& 255)) W103 d50_52 rfl rfl ?_
  refine wGetS W103 d50_53 (ow238 hw) Via.refl SL rfl fun T104 W105 => ?_
  refine gIshl (z := ((StrChars.hi8 c &&& 255) <<< ((8 : Int32) &&& 31))) W105 d50_56 rfl rfl ?_
  refine gIor (z := (((StrChars.lo8 c &&& 255) <<< ((0 : Int32) &&& 31)) ||| ((StrChars.hi8 c &&& 255) <<< ((8 : Int32) &&& 31)))) W105 d50_57 rfl rfl ?_
  refine gI2C (z := c) W105 d50_58 (StrChars.pair_says hc.1 hc.2) rfl ?_
  exact wRetI (so := []) (t := .char) W105 d50_59 (by simp) (StrChars.narrow_ch hc.1 hc.2) (by decide) (by decide) (fun _ q => nomatch q) ⟨rfl, rfl⟩
theorem d46_0 : decode jdk_52_method_14_code 0 = .ok (.iload_n 2, 1) := by decide +kernel
theorem d46_1 : decode jdk_52_method_14_code 1 = .ok (.invokestatic 107, 3) := by decide +kernel
theorem ow226 {a0 : Array Value} {Z : State} (hw : ∀ d ∈ tables_1, d.before a0 Z = true) : (Jvm.Cond.methodLink "java/lang/StringUTF16" (107 : Nat) ({ cls := "java/lang/StringUTF16", name := "newBytesFor", desc := "(I)[B" } : Jvm.MethodName)).before a0 Z = true := hw _ (List.mem_of_getElem? (i := 226) rfl)
theorem ow228 {a0 : Array Value} {Z : State} (hw : ∀ d ∈ tables_1, d.before a0 Z = true) : (Jvm.Cond.code ({ cls := "java/lang/StringUTF16", name := "newBytesFor", desc := "(I)[B" } : Jvm.MethodName) jdk_52_method_2_code (1 : Nat) (Option.some (Jvm.ClassFile.FieldType.array Jvm.ClassFile.FieldType.byte))).before a0 Z = true := hw _ (List.mem_of_getElem? (i := 228) rfl)
theorem opd2 : parseMethodDescriptor "(I)[B" = some ⟨[.int], some (.array .byte)⟩ := by decide +kernel
theorem ow227 {a0 : Array Value} {Z : State} (hw : ∀ d ∈ tables_1, d.before a0 Z = true) : (Jvm.Cond.static ({ cls := "java/lang/StringUTF16", name := "newBytesFor", desc := "(I)[B" } : Jvm.MethodName)).before a0 Z = true := hw _ (List.mem_of_getElem? (i := 227) rfl)
theorem d46_4 : decode jdk_52_method_14_code 4 = .ok (.astore_n 3, 1) := by decide +kernel
theorem d46_5 : decode jdk_52_method_14_code 5 = .ok (.iconst 0, 1) := by decide +kernel
theorem d46_6 : decode jdk_52_method_14_code 6 = .ok (.istore 4, 2) := by decide +kernel
theorem d46_8 : decode jdk_52_method_14_code 8 = .ok (.iload 4, 2) := by decide +kernel
theorem d46_10 : decode jdk_52_method_14_code 10 = .ok (.iload_n 2, 1) := by decide +kernel
theorem d46_11 : decode jdk_52_method_14_code 11 = .ok (.if_icmp .ge 21, 3) := by decide +kernel
theorem d46_32 : decode jdk_52_method_14_code 32 = .ok (.aload_n 3, 1) := by decide +kernel
theorem d46_33 : decode jdk_52_method_14_code 33 = .ok (.areturn, 1) := by decide +kernel
theorem d46_14 : decode jdk_52_method_14_code 14 = .ok (.aload_n 3, 1) := by decide +kernel
theorem d46_15 : decode jdk_52_method_14_code 15 = .ok (.iload 4, 2) := by decide +kernel
theorem d46_17 : decode jdk_52_method_14_code 17 = .ok (.aload_n 0, 1) := by decide +kernel
theorem d46_18 : decode jdk_52_method_14_code 18 = .ok (.iload_n 1, 1) := by decide +kernel
theorem d46_19 : decode jdk_52_method_14_code 19 = .ok (.caload, 1) := by decide +kernel
theorem d46_20 : decode jdk_52_method_14_code 20 = .ok (.invokestatic 111, 3) := by decide +kernel
theorem ow233 {a0 : Array Value} {Z : State} (hw : ∀ d ∈ tables_1, d.before a0 Z = true) : (Jvm.Cond.methodLink "java/lang/StringUTF16" (111 : Nat) ({ cls := "java/lang/StringUTF16", name := "putChar", desc := "([BII)V" } : Jvm.MethodName)).before a0 Z = true := hw _ (List.mem_of_getElem? (i := 233) rfl)
theorem ow235 {a0 : Array Value} {Z : State} (hw : ∀ d ∈ tables_1, d.before a0 Z = true) : (Jvm.Cond.code ({ cls := "java/lang/StringUTF16", name := "putChar", desc := "([BII)V" } : Jvm.MethodName) jdk_52_method_4_code (3 : Nat) (Option.none : Option Jvm.ClassFile.FieldType)).before a0 Z = true := hw _ (List.mem_of_getElem? (i := 235) rfl)
theorem opd3 : parseMethodDescriptor "([BII)V" = some ⟨[.array .byte, .int, .int], none⟩ := by decide +kernel
theorem ow234 {a0 : Array Value} {Z : State} (hw : ∀ d ∈ tables_1, d.before a0 Z = true) : (Jvm.Cond.static ({ cls := "java/lang/StringUTF16", name := "putChar", desc := "([BII)V" } : Jvm.MethodName)).before a0 Z = true := hw _ (List.mem_of_getElem? (i := 234) rfl)
theorem d46_23 : decode jdk_52_method_14_code 23 = .ok (.iinc 1 1, 3) := by decide +kernel
theorem d46_26 : decode jdk_52_method_14_code 26 = .ok (.iinc 4 1, 3) := by decide +kernel
theorem d46_29 : decode jdk_52_method_14_code 29 = .ok (.goto (-21), 3) := by decide +kernel
theorem oef_oru_toB (m_ : MethodId) (b : Addr) (y0_ : Int32)  : (entryFrame m_ #[(.ref b), (.int (0 : Int32)), (.int y0_)] 5).locals = #[.val (.ref b), .val (.int (0 : Int32)), .val (.int y0_), .unset, .unset] := by first | (simp [entryFrame, argsToLocals, Value.category]; done) | rfl
set_option maxRecDepth 65536 in
set_option maxHeartbeats 40000000 in
theorem oru_toB (l : Launch) (Z : State) (a0 : Array Value) (hw : ∀ d ∈ tables_1, d.before a0 Z = true) (hE : EW Z a0 consts_1) (b : Addr) (kC : ClassId) (cs : List Int32) (dC : Value) (h : Heap) (hO : Old Z Z.heap.size h) (SA : (Sta Z Z.heap "java/lang/StringUTF16" "$assertionsDisabled" "Z" (.int (1 : Int32)))) (SH : (Sta Z Z.heap "java/lang/StringUTF16" "HI_BYTE_SHIFT" "I" (.int (0 : Int32)))) (SL : (Sta Z Z.heap "java/lang/StringUTF16" "LO_BYTE_SHIFT" "I" (.int (8 : Int32)))) (qb : Arv Z h b kC .char (Int32.ofNat cs.length) (cs.map Value.int) dC) (hl : (cs.length ≤ 80))  :
    Ct l Z consts_1 (⟨"java/lang/StringUTF16", "toBytes", "([CII)[B"⟩ : MethodName) jdk_52_method_14_code 5 (Option.some (Jvm.ClassFile.FieldType.array Jvm.ClassFile.FieldType.byte)) ⟨2, 1, 160, 30⟩ #[(.ref b), (.int (0 : Int32)), (.int (Int32.ofNat cs.length))] h [] (fun rv' hp' so' => ∃ r : Addr, ∃ kb : ClassId, rv' = some (.ref r) ∧ so' = [r] ∧ (h.size ≤ r) ∧ Arv Z hp' r kb .byte (Int32.ofNat (2 * cs.length)) (StrChars.Road.wideBytes cs) (.int 0)) := by
  refine Ct.mk "java/lang/StringUTF16" "toBytes" rfl rfl (a0 := a0) (plainFor_of_name opn1) hO hE (fun x q => nomatch q) ?_
  intro K T W
  rw [oef_oru_toB]
  refine gIloadN W d46_0 rfl rfl ?_
  refine wStatic (y := (⟨"java/lang/StringUTF16", "newBytesFor", "(I)[B"⟩ : MethodName)) (Wd := 0) (argsL := [(.int (Int32.ofNat cs.length))]) (rest := []) W d46_1 (ow226 hw) (ow227 hw) (ow50 hw) (ow228 hw) (by decide) (Cb.ct (oru_nbf l Z a0 hw hE ((Int32.ofNat cs.length)) ((Int32.ofNat (2 * cs.length))) h W.old (ofNat_nn (by omega)) (lt_big (by omega)) (shl1 (by omega)) (ofNat_nn (by omega)) (by rw [ofNat_clamp (by omega)]; omega) ) (ow228 hw) (ow50 hw) hE (by decide) (by decide)) (by simp) rfl (lenOf opd2 rfl) rfl (Nat.le_of_eq rfl) (by decide) (by decide) rfl fun v110 so111 T106 h108 W107 kp109 sp112 q113 => ?_
  obtain ⟨r114, kb115, rfl, rfl, f116, f117⟩ := q113
  show Go K _ T106 4 #[.val (.ref b), .val (.int (0 : Int32)), .val (.int (Int32.ofNat cs.length)), .unset, .unset] [(.ref r114)]
  refine gAstoreN (ls' := #[.val (.ref b), .val (.int (0 : Int32)), .val (.int (Int32.ofNat cs.length)), .val (.ref r114), .unset]) W107 d46_4 rfl rfl rfl ?_
  refine gIconst (z := (0 : Int32)) W107 d46_5 rfl rfl ?_
  refine gIstore (ls' := #[.val (.ref b), .val (.int (0 : Int32)), .val (.int (Int32.ofNat cs.length)), .val (.ref r114), .val (.int (0 : Int32))]) W107 d46_6 rfl rfl ?_
  have ne122 : b ≠ r114 := Nat.ne_of_lt (Nat.lt_of_lt_of_le qb.lt f116)
  have neb : b ≠ r114 := ne122
  have loop : ∀ k i : Nat, i + k = cs.length → ∀ (T118 : State) (h120 : Heap) (vs : List Value), Wk l Z consts_1 "java/lang/StringUTF16" "toBytes" jdk_52_method_14_code 5 (Option.some (Jvm.ClassFile.FieldType.array Jvm.ClassFile.FieldType.byte)) ⟨2, 1, 160, 30⟩ [] h K [r114] T118 h120 1 160 → Arv Z h120 b kC .char (Int32.ofNat cs.length) (cs.map Value.int) dC → Arv Z h120 r114 kb115 .byte (Int32.ofNat (2 * cs.length)) vs (.int 0) → (vs.length = 160 ∧ (∀ j, j < i → vs.getD (2 * j) (.int 0) = .int (StrChars.lo8 (cs.getD j 0)) ∧ vs.getD (2 * j + 1) (.int 0) = .int (StrChars.hi8 (cs.getD j 0))) ∧ ∀ j, 2 * i ≤ j → vs.getD j (.int 0) = .int 0) → Go K (Pst Z consts_1 [] K.2.2.1 (⟨2, 1, 160, 30⟩ : Room).cells (⟨2, 1, 160, 30⟩ : Room).slots (fun rv' hp' so' => ∃ r : Addr, ∃ kb : ClassId, rv' = some (.ref r) ∧ so' = [r] ∧ (h.size ≤ r) ∧ Arv Z hp' r kb .byte (Int32.ofNat (2 * cs.length)) (StrChars.Road.wideBytes cs) (.int 0))) T118 8 #[.val (.ref b), .val (.int (Int32.ofNat i)), .val (.int (Int32.ofNat cs.length)), .val (.ref r114), .val (.int (Int32.ofNat i))] [] := by
    intro k
    induction k with
    | zero =>
      intro i hik T118 h120 vs W119 qb1 qr1 inv
      obtain rfl : i = cs.length := by omega
      refine gIload W119 d46_8 rfl rfl ?_
      refine gIloadN W119 d46_10 rfl rfl ?_
      refine gIcmpYes (pc' := 32) W119 d46_11 (flt (fun q => absurd q (by rw [lt_i]; omega))).2.1 (by decide) rfl ?_
      refine gAloadN W119 d46_32 rfl rfl rfl ?_
      have qz : Arv Z h120 r114 kb115 .byte (Int32.ofNat (2 * cs.length)) (StrChars.Road.wideBytes cs) (.int 0) := qr1.pad (fun j => by
        by_cases hj : j < 2 * cs.length
        · have hj2 : j / 2 < cs.length := by omega
          have q := inv.2.1 (j / 2) hj2
          rcases Nat.mod_two_eq_zero_or_one j with h2 | h2
          · have e : j = 2 * (j / 2) := by omega
            rw [e, q.1, StrChars.Road.wide_lo _ _ _ hj2]
          · have e : j = 2 * (j / 2) + 1 := by omega
            rw [e, q.2, StrChars.Road.wide_hi _ _ _ hj2]
        · rw [inv.2.2 j (by omega), List.getD_eq_getElem?_getD, List.getElem?_eq_none (by rw [wide_len]; omega)]; rfl)
      exact wRetA (so := [r114]) (t := .array .byte) W119 d46_33 rfl rfl rfl (by decide) (by decide) (all1 ⟨by simp, Nat.le_trans (Nat.le_refl _) f116⟩ alln) ⟨r114, kb115, rfl, rfl, f116, qz⟩
    | succ k ih =>
      intro i hik T118 h120 vs W119 qb1 qr1 inv
      have hi : i < cs.length := by omega
      refine gIload W119 d46_8 rfl rfl ?_
      refine gIloadN W119 d46_10 rfl rfl ?_
      refine gIcmpNo W119 d46_11 (tlt ((ofNat_lt (by omega) (by omega)).mpr hi)).2.1 rfl ?_
      refine gAloadN W119 d46_14 rfl rfl rfl ?_
      refine gIload W119 d46_15 rfl rfl ?_
      refine gAloadN W119 d46_17 rfl rfl rfl ?_
      refine gIloadN W119 d46_18 rfl rfl ?_
      refine wLdC (v := (.int (cs.getD i 0))) W119 d46_19 qb1 (ofNat_inb hi (by omega)) (by rw [ofNat_clamp (by omega)]; exact map_getD cs i hi _) rfl ?_
      refine wStatic (y := (⟨"java/lang/StringUTF16", "putChar", "([BII)V"⟩ : MethodName)) (Wd := 0) (argsL := [(.ref r114), (.int (Int32.ofNat i)), (.int (cs.getD i 0))]) (rest := []) W119 d46_20 (ow233 hw) (ow234 hw) (ow50 hw) (ow235 hw) (by decide) (Cb.ct (oru_put l Z a0 hw hE (r114) (kb115) ((2 * cs.length)) (vs) (i) ((cs.getD i 0)) h120 W119.old SA SH SL qr1 (by omega) (by omega) (by rw [inv.1]; omega) (Nat.le_trans W.old.2.1 f116)) (ow235 hw) (ow50 hw) hE (by decide) (by decide)) (by simp) rfl (lenOf opd3 rfl) rfl (Nat.le_of_eq rfl) (by decide) (by decide) rfl fun v127 so128 T123 h125 W124 kp126 sp129 q130 => ?_
      obtain ⟨rfl, rfl, f131⟩ := q130
      show Go K _ T123 23 #[.val (.ref b), .val (.int (Int32.ofNat i)), .val (.int (Int32.ofNat cs.length)), .val (.ref r114), .val (.int (Int32.ofNat i))] []
      refine gIinc (z := (Int32.ofNat (i + 1))) (ls' := #[.val (.ref b), .val (.int (Int32.ofNat (i + 1))), .val (.int (Int32.ofNat cs.length)), .val (.ref r114), .val (.int (Int32.ofNat i))]) W124 d46_23 rfl (ofNat_succ (by omega)) rfl rfl ?_
      refine gIinc (z := (Int32.ofNat (i + 1))) (ls' := #[.val (.ref b), .val (.int (Int32.ofNat (i + 1))), .val (.int (Int32.ofNat cs.length)), .val (.ref r114), .val (.int (Int32.ofNat (i + 1)))]) W124 d46_26 rfl (ofNat_succ (by omega)) rfl rfl ?_
      refine gGoto (pc' := 8) W124 d46_29 (by decide) rfl ?_
      have f132 := qb1.keep kp126 (ninS neb nin0)
      refine ih (i + 1) (by omega) _ _ _ ((W124.mono (by decide) (by decide)).less (by simp)) f132 f131 ⟨by simp [inv.1], fun j hj => ?_, fun j hj => ?_⟩
      · have hv := inv.1
        rcases Nat.lt_succ_iff_lt_or_eq.mp hj with hj | rfl
        · have q := inv.2.1 j hj
          simp only [set_get, List.length_set]
          rw [if_neg (by omega), if_neg (by omega), if_neg (by omega), if_neg (by omega)]; exact q
        · refine ⟨?_, ?_⟩
          · rw [set_get, if_neg (fun q => by omega), set_get, if_pos ⟨rfl, by omega⟩]
          · rw [set_get, if_pos ⟨rfl, by rw [List.length_set]; omega⟩]
      · have hv := inv.1
        simp only [set_get, List.length_set]
        rw [if_neg (by omega), if_neg (by omega)]; exact inv.2.2 j (by omega)
  have f133 := qb.keep kp109 nin0
  exact loop cs.length 0 (by omega) _ _ _ ((W107.mono (by decide) (by decide)).less (by simp)) f133 f117 ⟨by simp, fun j hj => absurd hj (Nat.not_lt_zero j), fun j _ => rep_get j⟩
theorem d10_0 : decode jdk_52_method_21_code 0 = .ok (.iconst 0, 1) := by decide +kernel
theorem d10_1 : decode jdk_52_method_21_code 1 = .ok (.istore 5, 2) := by decide +kernel
theorem d10_3 : decode jdk_52_method_21_code 3 = .ok (.iload 5, 2) := by decide +kernel
theorem d10_5 : decode jdk_52_method_21_code 5 = .ok (.iload 4, 2) := by decide +kernel
theorem d10_7 : decode jdk_52_method_21_code 7 = .ok (.if_icmp .ge 37, 3) := by decide +kernel
theorem d10_10 : decode jdk_52_method_21_code 10 = .ok (.aload_n 0, 1) := by decide +kernel
theorem d10_11 : decode jdk_52_method_21_code 11 = .ok (.iload_n 1, 1) := by decide +kernel
theorem d10_12 : decode jdk_52_method_21_code 12 = .ok (.caload, 1) := by decide +kernel
theorem d10_13 : decode jdk_52_method_21_code 13 = .ok (.istore 6, 2) := by decide +kernel
theorem d10_15 : decode jdk_52_method_21_code 15 = .ok (.iload 6, 2) := by decide +kernel
theorem d10_17 : decode jdk_52_method_21_code 17 = .ok (.sipush 255, 3) := by decide +kernel
theorem d10_20 : decode jdk_52_method_21_code 20 = .ok (.if_icmp .le 6, 3) := by decide +kernel
theorem d10_23 : decode jdk_52_method_21_code 23 = .ok (.iload 5, 2) := by decide +kernel
theorem d10_25 : decode jdk_52_method_21_code 25 = .ok (.ireturn, 1) := by decide +kernel
theorem d10_26 : decode jdk_52_method_21_code 26 = .ok (.aload_n 2, 1) := by decide +kernel
theorem d10_27 : decode jdk_52_method_21_code 27 = .ok (.iload_n 3, 1) := by decide +kernel
theorem d10_28 : decode jdk_52_method_21_code 28 = .ok (.iload 6, 2) := by decide +kernel
theorem d10_30 : decode jdk_52_method_21_code 30 = .ok (.i2b, 1) := by decide +kernel
theorem d10_31 : decode jdk_52_method_21_code 31 = .ok (.bastore, 1) := by decide +kernel
theorem d10_32 : decode jdk_52_method_21_code 32 = .ok (.iinc 1 1, 3) := by decide +kernel
theorem d10_35 : decode jdk_52_method_21_code 35 = .ok (.iinc 3 1, 3) := by decide +kernel
theorem d10_38 : decode jdk_52_method_21_code 38 = .ok (.iinc 5 1, 3) := by decide +kernel
theorem d10_41 : decode jdk_52_method_21_code 41 = .ok (.goto (-38), 3) := by decide +kernel
theorem oef_oru_c5 (m_ : MethodId) (b : Addr) (d : Addr) (y0_ : Int32)  : (entryFrame m_ #[(.ref b), (.int (0 : Int32)), (.ref d), (.int (0 : Int32)), (.int y0_)] 7).locals = #[.val (.ref b), .val (.int (0 : Int32)), .val (.ref d), .val (.int (0 : Int32)), .val (.int y0_), .unset, .unset] := by first | (simp [entryFrame, argsToLocals, Value.category]; done) | rfl
set_option maxRecDepth 65536 in
set_option maxHeartbeats 40000000 in
theorem oru_c5 (l : Launch) (Z : State) (a0 : Array Value) (hw : ∀ d ∈ tables_1, d.before a0 Z = true) (hE : EW Z a0 consts_1) (b : Addr) (kC : ClassId) (cs : List Int32) (dC : Value) (d : Addr) (kd : ClassId) (vd : List Value) (h : Heap) (hO : Old Z Z.heap.size h) (qb : Arv Z h b kC .char (Int32.ofNat cs.length) (cs.map Value.int) dC) (qd : Arv Z h d kd .byte (Int32.ofNat cs.length) vd (.int 0)) (hl : (cs.length ≤ 80)) (hv : (cs.length ≤ vd.length)) (nbd : (b ≠ d)) (hw5 : (∃ c ∈ cs, 255 < c)) (ge_d : Z.heap.size ≤ d) :
    Ct l Z consts_1 (⟨"java/lang/StringUTF16", "compress", "([CI[BII)I"⟩ : MethodName) jdk_52_method_21_code 7 (Option.some Jvm.ClassFile.FieldType.int) ⟨0, 0, 0, 0⟩ #[(.ref b), (.int (0 : Int32)), (.ref d), (.int (0 : Int32)), (.int (Int32.ofNat cs.length))] h [d] (fun rv' hp' so' => ∃ i : Nat, rv' = some (.int (Int32.ofNat i)) ∧ so' = [] ∧ (i < cs.length) ∧ (255 < cs.getD i 0)) := by
  refine Ct.mk "java/lang/StringUTF16" "compress" rfl rfl (a0 := a0) (plainFor_of_name opn1) hO hE (fun x q => by simp at q; subst q; exact ge_d) ?_
  intro K T W
  rw [oef_oru_c5]
  refine gIconst (z := (0 : Int32)) W d10_0 rfl rfl ?_
  refine gIstore (ls' := #[.val (.ref b), .val (.int (0 : Int32)), .val (.ref d), .val (.int (0 : Int32)), .val (.int (Int32.ofNat cs.length)), .val (.int (0 : Int32)), .unset]) W d10_1 rfl rfl ?_
  have loop : ∀ k i : Nat, i + k = cs.length → ∀ (T134 : State) (h136 : Heap) (vs : List Value) (sl : Slot), Wk l Z consts_1 "java/lang/StringUTF16" "compress" jdk_52_method_21_code 7 (Option.some Jvm.ClassFile.FieldType.int) ⟨0, 0, 0, 0⟩ [d] h K [d] T134 h136 0 0 → Arv Z h136 b kC .char (Int32.ofNat cs.length) (cs.map Value.int) dC → Arv Z h136 d kd .byte (Int32.ofNat cs.length) vs (.int 0) → cs.length ≤ vs.length → (sl = .unset ∨ ∃ x : Int32, sl = .val (.int x)) → (∀ j, j < i → ¬ 255 < cs.getD j 0) → Go K (Pst Z consts_1 [d] K.2.2.1 (⟨0, 0, 0, 0⟩ : Room).cells (⟨0, 0, 0, 0⟩ : Room).slots (fun rv' hp' so' => ∃ i : Nat, rv' = some (.int (Int32.ofNat i)) ∧ so' = [] ∧ (i < cs.length) ∧ (255 < cs.getD i 0))) T134 3 #[.val (.ref b), .val (.int (Int32.ofNat i)), .val (.ref d), .val (.int (Int32.ofNat i)), .val (.int (Int32.ofNat cs.length)), .val (.int (Int32.ofNat i)), sl] [] := by
    intro k
    induction k with
    | zero =>
      intro i hik T134 h136 vs sl W135 qb1 qd1 hvs hsl inv
      obtain ⟨c, hc1, hc2⟩ := hw5
      obtain ⟨j, hj, rfl⟩ := List.getElem_of_mem hc1
      exact absurd hc2 (by have q := inv j (by omega); simpa [List.getD_eq_getElem?_getD, hj] using q)
    | succ k ih =>
      intro i hik T134 h136 vs sl W135 qb1 qd1 hvs hsl inv
      have hi : i < cs.length := by omega
      have hst : ∀ x : Int32, storeLocals #[.val (.ref b), .val (.int (Int32.ofNat i)), .val (.ref d), .val (.int (Int32.ofNat i)), .val (.int (Int32.ofNat cs.length)), .val (.int (Int32.ofNat i)), sl] 6 (.int x) = some #[.val (.ref b), .val (.int (Int32.ofNat i)), .val (.ref d), .val (.int (Int32.ofNat i)), .val (.int (Int32.ofNat cs.length)), .val (.int (Int32.ofNat i)), .val (.int x)] := fun x => by rcases hsl with rfl | ⟨y, rfl⟩ <;> rfl
      refine gIload W135 d10_3 rfl rfl ?_
      refine gIload W135 d10_5 rfl rfl ?_
      refine gIcmpNo W135 d10_7 (tlt ((ofNat_lt (by omega) (by omega)).mpr hi)).2.1 rfl ?_
      refine gAloadN W135 d10_10 rfl rfl rfl ?_
      refine gIloadN W135 d10_11 rfl rfl ?_
      refine wLdC (v := (.int (cs.getD i 0))) W135 d10_12 qb1 (ofNat_inb hi (by omega)) (by rw [ofNat_clamp (by omega)]; exact map_getD cs i hi _) rfl ?_
      refine gIstore (ls' := #[.val (.ref b), .val (.int (Int32.ofNat i)), .val (.ref d), .val (.int (Int32.ofNat i)), .val (.int (Int32.ofNat cs.length)), .val (.int (Int32.ofNat i)), .val (.int (cs.getD i 0))]) W135 d10_13 (hst _) rfl ?_
      refine gIload W135 d10_15 rfl rfl ?_
      refine gSipush (z := (255 : Int32)) W135 d10_17 rfl rfl ?_
      by_cases c137 : (255 : Int32) < (cs.getD i 0)
      · refine gIcmpNo W135 d10_20 (tlt c137).2.2.2 rfl ?_
        refine gIload W135 d10_23 rfl rfl ?_
        exact wRetI (so := []) (t := .int) W135 d10_25 (by simp) rfl (by decide) (by decide) (fun _ q => nomatch q) ⟨i, rfl, rfl, hi, c137⟩
      · refine gIcmpYes (pc' := 26) W135 d10_20 (flt c137).2.2.2 (by decide) rfl ?_
        refine gAloadN W135 d10_26 rfl rfl rfl ?_
        refine gIloadN W135 d10_27 rfl rfl ?_
        refine gIload W135 d10_28 rfl rfl ?_
        refine gI2B (z := (StrChars.lo8 (cs.getD i 0))) W135 d10_30 rfl rfl ?_
        refine wStB (y := (StrChars.lo8 (cs.getD i 0))) W135 d10_31 (by simp) qd1 (ofNat_inb hi (by omega)) (lo8_idem _) i (ofNat_clamp (by omega)) (by omega) rfl fun T138 h140 W139 wr141 A142 => ?_
        refine gIinc (z := (Int32.ofNat (i + 1))) (ls' := #[.val (.ref b), .val (.int (Int32.ofNat (i + 1))), .val (.ref d), .val (.int (Int32.ofNat i)), .val (.int (Int32.ofNat cs.length)), .val (.int (Int32.ofNat i)), .val (.int (cs.getD i 0))]) W139 d10_32 rfl (ofNat_succ (by omega)) rfl rfl ?_
        refine gIinc (z := (Int32.ofNat (i + 1))) (ls' := #[.val (.ref b), .val (.int (Int32.ofNat (i + 1))), .val (.ref d), .val (.int (Int32.ofNat (i + 1))), .val (.int (Int32.ofNat cs.length)), .val (.int (Int32.ofNat i)), .val (.int (cs.getD i 0))]) W139 d10_35 rfl (ofNat_succ (by omega)) rfl rfl ?_
        refine gIinc (z := (Int32.ofNat (i + 1))) (ls' := #[.val (.ref b), .val (.int (Int32.ofNat (i + 1))), .val (.ref d), .val (.int (Int32.ofNat (i + 1))), .val (.int (Int32.ofNat cs.length)), .val (.int (Int32.ofNat (i + 1))), .val (.int (cs.getD i 0))]) W139 d10_38 rfl (ofNat_succ (by omega)) rfl rfl ?_
        refine gGoto (pc' := 3) W139 d10_41 (by decide) rfl ?_
        have f143 := qb1.other wr141 nbd
        exact ih (i + 1) (by omega) _ _ _ _ W139 f143 A142 (by rw [List.length_set]; exact hvs) (Or.inr ⟨_, rfl⟩) (fun j hj => (Nat.lt_succ_iff_lt_or_eq.mp hj).elim (inv j) (fun e => e ▸ c137))
  exact loop cs.length 0 (by omega) _ _ _ _ W qb qd hv (Or.inl rfl) (fun j hj => absurd hj (Nat.not_lt_zero j))
theorem d9_0 : decode jdk_52_method_16_code 0 = .ok (.iload_n 2, 1) := by decide +kernel
theorem d9_1 : decode jdk_52_method_16_code 1 = .ok (.newarray .byte, 2) := by decide +kernel
theorem d9_3 : decode jdk_52_method_16_code 3 = .ok (.astore_n 3, 1) := by decide +kernel
theorem d9_4 : decode jdk_52_method_16_code 4 = .ok (.aload_n 0, 1) := by decide +kernel
theorem d9_5 : decode jdk_52_method_16_code 5 = .ok (.iload_n 1, 1) := by decide +kernel
theorem d9_6 : decode jdk_52_method_16_code 6 = .ok (.aload_n 3, 1) := by decide +kernel
theorem d9_7 : decode jdk_52_method_16_code 7 = .ok (.iconst 0, 1) := by decide +kernel
theorem d9_8 : decode jdk_52_method_16_code 8 = .ok (.iload_n 2, 1) := by decide +kernel
theorem d9_9 : decode jdk_52_method_16_code 9 = .ok (.invokestatic 115, 3) := by decide +kernel
theorem ow52 {a0 : Array Value} {Z : State} (hw : ∀ d ∈ tables_1, d.before a0 Z = true) : (Jvm.Cond.methodLink "java/lang/StringUTF16" (115 : Nat) ({ cls := "java/lang/StringUTF16", name := "compress", desc := "([CI[BII)I" } : Jvm.MethodName)).before a0 Z = true := hw _ (List.mem_of_getElem? (i := 52) rfl)
theorem ow54 {a0 : Array Value} {Z : State} (hw : ∀ d ∈ tables_1, d.before a0 Z = true) : (Jvm.Cond.code ({ cls := "java/lang/StringUTF16", name := "compress", desc := "([CI[BII)I" } : Jvm.MethodName) jdk_52_method_21_code (7 : Nat) (Option.some Jvm.ClassFile.FieldType.int)).before a0 Z = true := hw _ (List.mem_of_getElem? (i := 54) rfl)
theorem opd4 : parseMethodDescriptor "([CI[BII)I" = some ⟨[.array .char, .int, .array .byte, .int, .int], some (.int)⟩ := by decide +kernel
theorem ow53 {a0 : Array Value} {Z : State} (hw : ∀ d ∈ tables_1, d.before a0 Z = true) : (Jvm.Cond.static ({ cls := "java/lang/StringUTF16", name := "compress", desc := "([CI[BII)I" } : Jvm.MethodName)).before a0 Z = true := hw _ (List.mem_of_getElem? (i := 53) rfl)
theorem d9_12 : decode jdk_52_method_16_code 12 = .ok (.istore 4, 2) := by decide +kernel
theorem d9_14 : decode jdk_52_method_16_code 14 = .ok (.iload 4, 2) := by decide +kernel
theorem d9_16 : decode jdk_52_method_16_code 16 = .ok (.iload_n 2, 1) := by decide +kernel
theorem d9_17 : decode jdk_52_method_16_code 17 = .ok (.if_icmp .eq 40, 3) := by decide +kernel
theorem d9_20 : decode jdk_52_method_16_code 20 = .ok (.aload_n 0, 1) := by decide +kernel
theorem d9_21 : decode jdk_52_method_16_code 21 = .ok (.iload_n 1, 1) := by decide +kernel
theorem d9_22 : decode jdk_52_method_16_code 22 = .ok (.iload_n 2, 1) := by decide +kernel
theorem d9_23 : decode jdk_52_method_16_code 23 = .ok (.invokestatic 119, 3) := by decide +kernel
theorem ow223 {a0 : Array Value} {Z : State} (hw : ∀ d ∈ tables_1, d.before a0 Z = true) : (Jvm.Cond.methodLink "java/lang/StringUTF16" (119 : Nat) ({ cls := "java/lang/StringUTF16", name := "toBytes", desc := "([CII)[B" } : Jvm.MethodName)).before a0 Z = true := hw _ (List.mem_of_getElem? (i := 223) rfl)
theorem ow225 {a0 : Array Value} {Z : State} (hw : ∀ d ∈ tables_1, d.before a0 Z = true) : (Jvm.Cond.code ({ cls := "java/lang/StringUTF16", name := "toBytes", desc := "([CII)[B" } : Jvm.MethodName) jdk_52_method_14_code (5 : Nat) (Option.some (Jvm.ClassFile.FieldType.array Jvm.ClassFile.FieldType.byte))).before a0 Z = true := hw _ (List.mem_of_getElem? (i := 225) rfl)
theorem opd5 : parseMethodDescriptor "([CII)[B" = some ⟨[.array .char, .int, .int], some (.array .byte)⟩ := by decide +kernel
theorem ow224 {a0 : Array Value} {Z : State} (hw : ∀ d ∈ tables_1, d.before a0 Z = true) : (Jvm.Cond.static ({ cls := "java/lang/StringUTF16", name := "toBytes", desc := "([CII)[B" } : Jvm.MethodName)).before a0 Z = true := hw _ (List.mem_of_getElem? (i := 224) rfl)
theorem d9_26 : decode jdk_52_method_16_code 26 = .ok (.astore 5, 2) := by decide +kernel
theorem d9_28 : decode jdk_52_method_16_code 28 = .ok (.aload 5, 2) := by decide +kernel
theorem d9_30 : decode jdk_52_method_16_code 30 = .ok (.iload 4, 2) := by decide +kernel
theorem d9_32 : decode jdk_52_method_16_code 32 = .ok (.invokestatic 71, 3) := by decide +kernel
theorem ow239 {a0 : Array Value} {Z : State} (hw : ∀ d ∈ tables_1, d.before a0 Z = true) : (Jvm.Cond.methodLink "java/lang/StringUTF16" (71 : Nat) ({ cls := "java/lang/StringUTF16", name := "getChar", desc := "([BI)C" } : Jvm.MethodName)).before a0 Z = true := hw _ (List.mem_of_getElem? (i := 239) rfl)
theorem ow241 {a0 : Array Value} {Z : State} (hw : ∀ d ∈ tables_1, d.before a0 Z = true) : (Jvm.Cond.code ({ cls := "java/lang/StringUTF16", name := "getChar", desc := "([BI)C" } : Jvm.MethodName) jdk_52_method_5_code (2 : Nat) (Option.some Jvm.ClassFile.FieldType.char)).before a0 Z = true := hw _ (List.mem_of_getElem? (i := 241) rfl)
theorem opd6 : parseMethodDescriptor "([BI)C" = some ⟨[.array .byte, .int], some (.char)⟩ := by decide +kernel
theorem ow240 {a0 : Array Value} {Z : State} (hw : ∀ d ∈ tables_1, d.before a0 Z = true) : (Jvm.Cond.static ({ cls := "java/lang/StringUTF16", name := "getChar", desc := "([BI)C" } : Jvm.MethodName)).before a0 Z = true := hw _ (List.mem_of_getElem? (i := 240) rfl)
theorem d9_35 : decode jdk_52_method_16_code 35 = .ok (.sipush 255, 3) := by decide +kernel
theorem d9_38 : decode jdk_52_method_16_code 38 = .ok (.if_icmp .gt 16, 3) := by decide +kernel
theorem d9_54 : decode jdk_52_method_16_code 54 = .ok (.aload 5, 2) := by decide +kernel
theorem d9_56 : decode jdk_52_method_16_code 56 = .ok (.areturn, 1) := by decide +kernel
theorem oef_oru_c3 (m_ : MethodId) (b : Addr) (y0_ : Int32)  : (entryFrame m_ #[(.ref b), (.int (0 : Int32)), (.int y0_)] 6).locals = #[.val (.ref b), .val (.int (0 : Int32)), .val (.int y0_), .unset, .unset, .unset] := by first | (simp [entryFrame, argsToLocals, Value.category]; done) | rfl
set_option maxRecDepth 65536 in
set_option maxHeartbeats 40000000 in
theorem oru_c3 (l : Launch) (Z : State) (a0 : Array Value) (hw : ∀ d ∈ tables_1, d.before a0 Z = true) (hE : EW Z a0 consts_1) (b : Addr) (kC : ClassId) (cs : List Int32) (dC : Value) (h : Heap) (hO : Old Z Z.heap.size h) (SA : (Sta Z Z.heap "java/lang/StringUTF16" "$assertionsDisabled" "Z" (.int (1 : Int32)))) (SH : (Sta Z Z.heap "java/lang/StringUTF16" "HI_BYTE_SHIFT" "I" (.int (0 : Int32)))) (SL : (Sta Z Z.heap "java/lang/StringUTF16" "LO_BYTE_SHIFT" "I" (.int (8 : Int32)))) (qb : Arv Z h b kC .char (Int32.ofNat cs.length) (cs.map Value.int) dC) (hl : (cs.length ≤ 80)) (hw5 : (∃ c ∈ cs, 255 < c)) (h16 : (∀ c ∈ cs, B16 c))  :
    Ct l Z consts_1 (⟨"java/lang/StringUTF16", "compress", "([CII)[B"⟩ : MethodName) jdk_52_method_16_code 6 (Option.some (Jvm.ClassFile.FieldType.array Jvm.ClassFile.FieldType.byte)) ⟨3, 2, 240, 60⟩ #[(.ref b), (.int (0 : Int32)), (.int (Int32.ofNat cs.length))] h [] (fun rv' hp' so' => ∃ r : Addr, ∃ kb : ClassId, rv' = some (.ref r) ∧ so' = [] ∧ (h.size ≤ r) ∧ Arv Z hp' r kb .byte (Int32.ofNat (2 * cs.length)) (StrChars.Road.wideBytes cs) (.int 0)) := by
  refine Ct.mk "java/lang/StringUTF16" "compress" rfl rfl (a0 := a0) (plainFor_of_name opn1) hO hE (fun x q => nomatch q) ?_
  intro K T W
  rw [oef_oru_c3]
  refine gIloadN W d9_0 rfl rfl ?_
  refine wNewP (cap := 80) W d9_1 (ow19 hw) (ofNat_nn (by omega)) (by rw [ofNat_clamp (by omega)]; exact hl) (by decide) (by decide) (by decide) rfl fun T144 h146 a147 k151 W145 E148 g149 A150 => ?_
  have fa := A150 80
  refine gAstoreN (ls' := #[.val (.ref b), .val (.int (0 : Int32)), .val (.int (Int32.ofNat cs.length)), .val (.ref a147), .unset, .unset]) W145 d9_3 rfl rfl rfl ?_
  refine gAloadN W145 d9_4 rfl rfl rfl ?_
  refine gIloadN W145 d9_5 rfl rfl ?_
  refine gAloadN W145 d9_6 rfl rfl rfl ?_
  refine gIconst (z := (0 : Int32)) W145 d9_7 rfl rfl ?_
  refine gIloadN W145 d9_8 rfl rfl ?_
  have ne152 : b ≠ a147 := Nat.ne_of_lt (Nat.lt_of_lt_of_le qb.lt (Nat.le_of_eq g149.symm))
  have f153 := qb.ext E148
  refine wStatic (y := (⟨"java/lang/StringUTF16", "compress", "([CI[BII)I"⟩ : MethodName)) (Wd := 0) (argsL := [(.ref b), (.int (0 : Int32)), (.ref a147), (.int (0 : Int32)), (.int (Int32.ofNat cs.length))]) (rest := []) W145 d9_9 (ow52 hw) (ow53 hw) (ow50 hw) (ow54 hw) (by decide) (Cb.ct (oru_c5 l Z a0 hw hE (b) (kC) (cs) (dC) (a147) (k151) ((List.replicate 80 (.int 0))) h146 W145.old f153 fa hl (by simp; exact hl) ne152 hw5 (Nat.le_trans W.old.2.1 (Nat.le_of_eq g149.symm))) (ow54 hw) (ow50 hw) hE (by decide) (by decide)) (by simp) rfl (lenOf opd4 rfl) rfl (Nat.le_of_eq rfl) (by decide) (by decide) rfl fun v158 so159 T154 h156 W155 kp157 sp160 q161 => ?_
  obtain ⟨i162, rfl, rfl, f163, f164⟩ := q161
  show Go K _ T154 12 #[.val (.ref b), .val (.int (0 : Int32)), .val (.int (Int32.ofNat cs.length)), .val (.ref a147), .unset, .unset] [(.int (Int32.ofNat i162))]
  refine gIstore (ls' := #[.val (.ref b), .val (.int (0 : Int32)), .val (.int (Int32.ofNat cs.length)), .val (.ref a147), .val (.int (Int32.ofNat i162)), .unset]) W155 d9_12 rfl rfl ?_
  refine gIload W155 d9_14 rfl rfl ?_
  refine gIloadN W155 d9_16 rfl rfl ?_
  refine gIcmpNo W155 d9_17 (feq (fun e => absurd (congrArg Int32.toInt e) (by rw [ofNat_toInt (by omega), ofNat_toInt (by omega)]; omega))).1 rfl ?_
  refine gAloadN W155 d9_20 rfl rfl rfl ?_
  refine gIloadN W155 d9_21 rfl rfl ?_
  refine gIloadN W155 d9_22 rfl rfl ?_
  have f165 := f153.keep kp157 (ninS ne152 nin0)
  refine wStatic (y := (⟨"java/lang/StringUTF16", "toBytes", "([CII)[B"⟩ : MethodName)) (Wd := 0) (argsL := [(.ref b), (.int (0 : Int32)), (.int (Int32.ofNat cs.length))]) (rest := []) W155 d9_23 (ow223 hw) (ow224 hw) (ow50 hw) (ow225 hw) (by decide) (Cb.ct (oru_toB l Z a0 hw hE (b) (kC) (cs) (dC) h156 W155.old SA SH SL f165 hl ) (ow225 hw) (ow50 hw) hE (by decide) (by decide)) (by simp) rfl (lenOf opd5 rfl) rfl (Nat.le_of_eq rfl) (by decide) (by decide) rfl fun v170 so171 T166 h168 W167 kp169 sp172 q173 => ?_
  obtain ⟨r174, kb175, rfl, rfl, f176, f177⟩ := q173
  show Go K _ T166 26 #[.val (.ref b), .val (.int (0 : Int32)), .val (.int (Int32.ofNat cs.length)), .val (.ref a147), .val (.int (Int32.ofNat i162)), .unset] [(.ref r174)]
  refine gAstore (ls' := #[.val (.ref b), .val (.int (0 : Int32)), .val (.int (Int32.ofNat cs.length)), .val (.ref a147), .val (.int (Int32.ofNat i162)), .val (.ref r174)]) W167 d9_26 rfl rfl rfl ?_
  refine gAload W167 d9_28 rfl rfl rfl ?_
  refine gIload W167 d9_30 rfl rfl ?_
  refine wStatic (y := (⟨"java/lang/StringUTF16", "getChar", "([BI)C"⟩ : MethodName)) (Wd := 0) (argsL := [(.ref r174), (.int (Int32.ofNat i162))]) (rest := []) W167 d9_32 (ow239 hw) (ow240 hw) (ow50 hw) (ow241 hw) (by decide) (Cb.ct (oru_get l Z a0 hw hE (r174) (kb175) ((2 * cs.length)) ((StrChars.Road.wideBytes cs)) (i162) ((cs.getD i162 0)) h168 W167.old SA SH SL f177 (by omega) (by omega) (StrChars.Road.wide_lo _ _ _ f163) (StrChars.Road.wide_hi _ _ _ f163) (B16.mem h16 f163) ) (ow241 hw) (ow50 hw) hE (by decide) (by decide)) (by simp) rfl (lenOf opd6 rfl) rfl (Nat.le_of_eq rfl) (by decide) (by decide) rfl fun v182 so183 T178 h180 W179 kp181 sp184 q185 => ?_
  obtain ⟨rfl, rfl⟩ := q185
  show Go K _ T178 35 #[.val (.ref b), .val (.int (0 : Int32)), .val (.int (Int32.ofNat cs.length)), .val (.ref a147), .val (.int (Int32.ofNat i162)), .val (.ref r174)] [(.int (cs.getD i162 0))]
  refine gSipush (z := (255 : Int32)) W179 d9_35 rfl rfl ?_
  refine gIcmpYes (pc' := 54) W179 d9_38 (tlt f164).2.2.1 (by decide) rfl ?_
  refine gAload W179 d9_54 rfl rfl rfl ?_
  have f186 := f177.keep kp181 nin0
  exact wRetA (so := []) (t := .array .byte) W179 d9_56 rfl rfl rfl (by decide) (by decide) (fun _ q => nomatch q) ⟨r174, kb175, rfl, rfl, (Nat.le_trans W155.grow f176), f186⟩
theorem d11_0 : decode jdk_52_method_15_code 0 = .ok (.iload_n 1, 1) := by decide +kernel
theorem d11_1 : decode jdk_52_method_15_code 1 = .ok (.aload_n 0, 1) := by decide +kernel
theorem d11_2 : decode jdk_52_method_15_code 2 = .ok (.arraylength, 1) := by decide +kernel
theorem d11_3 : decode jdk_52_method_15_code 3 = .ok (.isub, 1) := by decide +kernel
theorem d11_4 : decode jdk_52_method_15_code 4 = .ok (.bipush 31, 2) := by decide +kernel
theorem d11_6 : decode jdk_52_method_15_code 6 = .ok (.iushr, 1) := by decide +kernel
theorem d11_7 : decode jdk_52_method_15_code 7 = .ok (.i2b, 1) := by decide +kernel
theorem d11_8 : decode jdk_52_method_15_code 8 = .ok (.ireturn, 1) := by decide +kernel
theorem oef_oru_cf (m_ : MethodId) (r : Addr) (y0_ : Int32)  : (entryFrame m_ #[(.ref r), (.int y0_)] 2).locals = #[.val (.ref r), .val (.int y0_)] := by first | (simp [entryFrame, argsToLocals, Value.category]; done) | rfl
set_option maxRecDepth 65536 in
set_option maxHeartbeats 40000000 in
theorem oru_cf (l : Launch) (Z : State) (a0 : Array Value) (hw : ∀ d ∈ tables_1, d.before a0 Z = true) (hE : EW Z a0 consts_1) (r : Addr) (kb : ClassId) (n : Nat) (vs : List Value) (h : Heap) (hO : Old Z Z.heap.size h) (q0 : Arv Z h r kb .byte (Int32.ofNat (2 * n)) vs (.int 0)) (n0 : (0 < n)) (n1 : (n ≤ 4000))  :
    Ct l Z consts_1 (⟨"java/lang/StringUTF16", "coderFromArrayLen", "([BI)B"⟩ : MethodName) jdk_52_method_15_code 2 (Option.some Jvm.ClassFile.FieldType.byte) ⟨0, 0, 0, 0⟩ #[(.ref r), (.int (Int32.ofNat n))] h [] (fun rv' hp' so' => rv' = some (.int (1 : Int32)) ∧ so' = []) := by
  refine Ct.mk "java/lang/StringUTF16" "coderFromArrayLen" rfl rfl (a0 := a0) (plainFor_of_name opn1) hO hE (fun x q => nomatch q) ?_
  intro K T W
  rw [oef_oru_cf]
  refine gIloadN W d11_0 rfl rfl ?_
  refine gAloadN W d11_1 rfl rfl rfl ?_
  refine wLen W d11_2 q0 rfl ?_
  obtain ⟨v187, e188⟩ : ∃ v : Int32, (Int32.ofNat n) - (Int32.ofNat (2 * n)) = v := ⟨_, rfl⟩
  refine gIsub W d11_3 e188 rfl ?_
  refine gBipush (z := (31 : Int32)) W d11_4 rfl rfl ?_
  obtain ⟨v189, e190⟩ : ∃ v : Int32, (v187.toUInt32 >>> ((31 : Int32) &&& 31).toUInt32).toInt32 = v := ⟨_, rfl⟩
  refine gIushr W d11_6 e190 rfl ?_
  refine gI2B (z := (1 : Int32)) W d11_7 (coder1 n0 n1 e188 e190) rfl ?_
  exact wRetI (so := []) (t := .byte) W d11_8 (by simp) rfl (by decide) (by decide) (fun _ q => nomatch q) ⟨rfl, rfl⟩
theorem d3_27 : decode jdk_42_method_149_code 27 = .ok (.getstatic 38, 3) := by decide +kernel
theorem ow40 {a0 : Array Value} {Z : State} (hw : ∀ d ∈ tables_1, d.before a0 Z = true) : (Jvm.Cond.fieldLink "java/lang/String" (38 : Nat) "java/lang/String" "COMPACT_STRINGS" "Z").before a0 Z = true := hw _ (List.mem_of_getElem? (i := 40) rfl)
theorem d3_30 : decode jdk_42_method_149_code 30 = .ok (.ifCond .eq 28, 3) := by decide +kernel
theorem d3_33 : decode jdk_42_method_149_code 33 = .ok (.aload_n 1, 1) := by decide +kernel
theorem d3_34 : decode jdk_42_method_149_code 34 = .ok (.iload_n 2, 1) := by decide +kernel
theorem d3_35 : decode jdk_42_method_149_code 35 = .ok (.iload_n 3, 1) := by decide +kernel
theorem d3_36 : decode jdk_42_method_149_code 36 = .ok (.invokestatic 177, 3) := by decide +kernel
theorem ow48 {a0 : Array Value} {Z : State} (hw : ∀ d ∈ tables_1, d.before a0 Z = true) : (Jvm.Cond.methodLink "java/lang/String" (177 : Nat) ({ cls := "java/lang/StringUTF16", name := "compress", desc := "([CII)[B" } : Jvm.MethodName)).before a0 Z = true := hw _ (List.mem_of_getElem? (i := 48) rfl)
theorem ow51 {a0 : Array Value} {Z : State} (hw : ∀ d ∈ tables_1, d.before a0 Z = true) : (Jvm.Cond.code ({ cls := "java/lang/StringUTF16", name := "compress", desc := "([CII)[B" } : Jvm.MethodName) jdk_52_method_16_code (6 : Nat) (Option.some (Jvm.ClassFile.FieldType.array Jvm.ClassFile.FieldType.byte))).before a0 Z = true := hw _ (List.mem_of_getElem? (i := 51) rfl)
theorem ow49 {a0 : Array Value} {Z : State} (hw : ∀ d ∈ tables_1, d.before a0 Z = true) : (Jvm.Cond.static ({ cls := "java/lang/StringUTF16", name := "compress", desc := "([CII)[B" } : Jvm.MethodName)).before a0 Z = true := hw _ (List.mem_of_getElem? (i := 49) rfl)
theorem d3_39 : decode jdk_42_method_149_code 39 = .ok (.astore 5, 2) := by decide +kernel
theorem d3_41 : decode jdk_42_method_149_code 41 = .ok (.aload_n 0, 1) := by decide +kernel
theorem d3_42 : decode jdk_42_method_149_code 42 = .ok (.aload 5, 2) := by decide +kernel
theorem d3_44 : decode jdk_42_method_149_code 44 = .ok (.iload_n 3, 1) := by decide +kernel
theorem d3_45 : decode jdk_42_method_149_code 45 = .ok (.invokestatic 47, 3) := by decide +kernel
theorem ow55 {a0 : Array Value} {Z : State} (hw : ∀ d ∈ tables_1, d.before a0 Z = true) : (Jvm.Cond.methodLink "java/lang/String" (47 : Nat) ({ cls := "java/lang/StringUTF16", name := "coderFromArrayLen", desc := "([BI)B" } : Jvm.MethodName)).before a0 Z = true := hw _ (List.mem_of_getElem? (i := 55) rfl)
theorem ow57 {a0 : Array Value} {Z : State} (hw : ∀ d ∈ tables_1, d.before a0 Z = true) : (Jvm.Cond.code ({ cls := "java/lang/StringUTF16", name := "coderFromArrayLen", desc := "([BI)B" } : Jvm.MethodName) jdk_52_method_15_code (2 : Nat) (Option.some Jvm.ClassFile.FieldType.byte)).before a0 Z = true := hw _ (List.mem_of_getElem? (i := 57) rfl)
theorem opd7 : parseMethodDescriptor "([BI)B" = some ⟨[.array .byte, .int], some (.byte)⟩ := by decide +kernel
theorem ow56 {a0 : Array Value} {Z : State} (hw : ∀ d ∈ tables_1, d.before a0 Z = true) : (Jvm.Cond.static ({ cls := "java/lang/StringUTF16", name := "coderFromArrayLen", desc := "([BI)B" } : Jvm.MethodName)).before a0 Z = true := hw _ (List.mem_of_getElem? (i := 56) rfl)
theorem d3_48 : decode jdk_42_method_149_code 48 = .ok (.putfield 15, 3) := by decide +kernel
theorem d3_51 : decode jdk_42_method_149_code 51 = .ok (.aload_n 0, 1) := by decide +kernel
theorem d3_52 : decode jdk_42_method_149_code 52 = .ok (.aload 5, 2) := by decide +kernel
theorem d3_54 : decode jdk_42_method_149_code 54 = .ok (.putfield 9, 3) := by decide +kernel
theorem d3_57 : decode jdk_42_method_149_code 57 = .ok (.return_, 1) := by decide +kernel
theorem oef_oru_n4 (m_ : MethodId) (a : Addr) (b : Addr) (y0_ : Int32)  : (entryFrame m_ #[(.ref a), (.ref b), (.int (0 : Int32)), (.int y0_), .null] 6).locals = #[.val (.ref a), .val (.ref b), .val (.int (0 : Int32)), .val (.int y0_), .val .null, .unset] := by first | (simp [entryFrame, argsToLocals, Value.category]; done) | rfl
set_option maxRecDepth 65536 in
set_option maxHeartbeats 40000000 in
theorem oru_n4 (l : Launch) (Z : State) (a0 : Array Value) (hw : ∀ d ∈ tables_1, d.before a0 Z = true) (hE : EW Z a0 consts_1) (a : Addr) (b : Addr) (kC : ClassId) (cs : List Int32) (dC : Value) (z : Int32) (h : Heap) (hO : Old Z Z.heap.size h) (SC : (Sta Z Z.heap "java/lang/String" "COMPACT_STRINGS" "Z" (.int z))) (hz : (¬ z = 0)) (SA : (Sta Z Z.heap "java/lang/StringUTF16" "$assertionsDisabled" "Z" (.int (1 : Int32)))) (SH : (Sta Z Z.heap "java/lang/StringUTF16" "HI_BYTE_SHIFT" "I" (.int (0 : Int32)))) (SL : (Sta Z Z.heap "java/lang/StringUTF16" "LO_BYTE_SHIFT" "I" (.int (8 : Int32)))) (qE : Exa Z h a "java/lang/String") (qV : Fld Z h a "java/lang/String" "value" "[B" .null) (qC : Fld Z h a "java/lang/String" "coder" "B" (.int (0 : Int32))) (qb : Arv Z h b kC .char (Int32.ofNat cs.length) (cs.map Value.int) dC) (hl : (cs.length ≤ 80)) (l0 : (0 < cs.length)) (hw5 : (∃ c ∈ cs, 255 < c)) (h16 : (∀ c ∈ cs, B16 c)) (ge_a : Z.heap.size ≤ a) :
    Ct l Z consts_1 (⟨"java/lang/String", "<init>", "([CIILjava/lang/Void;)V"⟩ : MethodName) jdk_42_method_149_code 6 (Option.none : Option Jvm.ClassFile.FieldType) ⟨4, 2, 240, 90⟩ #[(.ref a), (.ref b), (.int (0 : Int32)), (.int (Int32.ofNat cs.length)), .null] h [a] (fun rv' hp' so' => rv' = none ∧ so' = [] ∧ Exa Z hp' a "java/lang/String" ∧ Str Z hp' a cs) := by
  refine Ct.mk "java/lang/String" "<init>" rfl rfl (a0 := a0) (plainFor_of_name opn0) hO hE (fun x q => by simp at q; subst q; exact ge_a) ?_
  intro K T W
  rw [oef_oru_n4]
  refine gAloadN W d3_0 rfl rfl rfl ?_
  refine wInitO W d3_1 (ow15 hw) (ow16 hw) (ow17 hw) rfl (by decide) 0 (Nat.le_of_eq rfl) (by decide) rfl fun T191 W192 => ?_
  refine gIloadN W192 d3_4 rfl rfl ?_
  refine gIfYes (pc' := 27) W192 d3_5 ((if0 _ _).trans (feq (ofNat_ne0 l0 (by omega))).2) (by decide) rfl ?_
  refine wGetS W192 d3_27 (ow40 hw) Via.refl SC rfl fun T193 W194 => ?_
  refine gIfNo W194 d3_30 ((if0 _ _).trans (feq hz).1) rfl ?_
  refine gAloadN W194 d3_33 rfl rfl rfl ?_
  refine gIloadN W194 d3_34 rfl rfl ?_
  refine gIloadN W194 d3_35 rfl rfl ?_
  refine wStatic (y := (⟨"java/lang/StringUTF16", "compress", "([CII)[B"⟩ : MethodName)) (Wd := 0) (argsL := [(.ref b), (.int (0 : Int32)), (.int (Int32.ofNat cs.length))]) (rest := []) W194 d3_36 (ow48 hw) (ow49 hw) (ow50 hw) (ow51 hw) (by decide) (Cb.ct (oru_c3 l Z a0 hw hE (b) (kC) (cs) (dC) h W194.old SA SH SL qb hl hw5 h16 ) (ow51 hw) (ow50 hw) hE (by decide) (by decide)) (by simp) rfl (lenOf opd5 rfl) rfl (Nat.le_of_eq rfl) (by decide) (by decide) rfl fun v199 so200 T195 h197 W196 kp198 sp201 q202 => ?_
  obtain ⟨r203, kb204, rfl, rfl, f205, f206⟩ := q202
  show Go K _ T195 39 #[.val (.ref a), .val (.ref b), .val (.int (0 : Int32)), .val (.int (Int32.ofNat cs.length)), .val .null, .unset] [(.ref r203)]
  refine gAstore (ls' := #[.val (.ref a), .val (.ref b), .val (.int (0 : Int32)), .val (.int (Int32.ofNat cs.length)), .val .null, .val (.ref r203)]) W196 d3_39 rfl rfl rfl ?_
  refine gAloadN W196 d3_41 rfl rfl rfl ?_
  refine gAload W196 d3_42 rfl rfl rfl ?_
  refine gIloadN W196 d3_44 rfl rfl ?_
  refine wStatic (y := (⟨"java/lang/StringUTF16", "coderFromArrayLen", "([BI)B"⟩ : MethodName)) (Wd := 1) (argsL := [(.ref r203), (.int (Int32.ofNat cs.length))]) (rest := [(.ref a)]) W196 d3_45 (ow55 hw) (ow56 hw) (ow50 hw) (ow57 hw) (by decide) (Cb.ct (oru_cf l Z a0 hw hE (r203) (kb204) (cs.length) ((StrChars.Road.wideBytes cs)) h197 W196.old f206 l0 (by omega) ) (ow57 hw) (ow50 hw) hE (by decide) (by decide)) (by simp) rfl (lenOf opd7 rfl) rfl (Nat.le_of_eq rfl) (by decide) (by decide) rfl fun v211 so212 T207 h209 W208 kp210 sp213 q214 => ?_
  obtain ⟨rfl, rfl⟩ := q214
  show Go K _ T207 48 #[.val (.ref a), .val (.ref b), .val (.int (0 : Int32)), .val (.int (Int32.ofNat cs.length)), .val .null, .val (.ref r203)] [(.int (1 : Int32)), (.ref a)]
  have f215 := qC.keep kp198 nin0
  have f216 := f215.keep kp210 nin0
  have f217 := qE.keep kp198
  have f218 := f217.keep kp210
  refine wPutF (ty := .byte) W208 d3_48 (ow25 hw) Via.refl (by simp) f216 f218 (Or.inr ⟨(ow21 hw), rfl, rfl⟩) (ow6 hw) (by decide) rfl (by decide) rfl fun T219 h221 W220 wr222 => ?_
  have f223 := Fld.same wr222 f216
  refine gAloadN W220 d3_51 rfl rfl rfl ?_
  refine gAload W220 d3_52 rfl rfl rfl ?_
  have f224 := qV.keep kp198 nin0
  have f225 := f224.keep kp210 nin0
  have f226 := f225.other wr222 (Or.inr (slot_ne (t := .array .byte) (t' := .byte) (Or.inr (ow20 hw)) (Or.inr (ow21 hw)) (by decide) (by decide) (by decide)))
  have f227 := f218.wr wr222
  refine wPutF (ty := .array .byte) W220 d3_54 (ow24 hw) Via.refl (by simp) f226 f227 (Or.inr ⟨(ow20 hw), rfl, rfl⟩) (ow6 hw) (by decide) rfl rfl rfl fun T228 h230 W229 wr231 => ?_
  have f232 := Fld.same wr231 f226
  have f233 := f227.wr wr231
  have f234 := f223.other wr231 (Or.inr (slot_ne (t := .byte) (t' := .array .byte) (Or.inr (ow21 hw)) (Or.inr (ow20 hw)) (by decide) (by decide) (by decide)))
  have f235 := f206.keep kp210 nin0
  have ne236 : a ≠ r203 := Nat.ne_of_lt (Nat.lt_of_lt_of_le qE.lt f205)
  have f237 := f235.other wr222 (Ne.symm ne236)
  have f238 := f237.other wr231 (Ne.symm ne236)
  have fs : Str Z h230 a cs := ⟨r203, kb204, 1, _, _, f233, f232, f234, f238, Or.inr ⟨rfl, rfl, rfl, hw5⟩, h16, by omega⟩
  exact wRet0 (so := []) W229 d3_57 (by decide) (by decide) (fun _ q => nomatch q) ⟨rfl, rfl, f233, fs⟩
theorem oef_oru_n1 (m_ : MethodId) (a : Addr) (b : Addr)  : (entryFrame m_ #[(.ref a), (.ref b)] 2).locals = #[.val (.ref a), .val (.ref b)] := by first | (simp [entryFrame, argsToLocals, Value.category]; done) | rfl
set_option maxRecDepth 65536 in
set_option maxHeartbeats 40000000 in
theorem oru_n1 (l : Launch) (Z : State) (a0 : Array Value) (hw : ∀ d ∈ tables_1, d.before a0 Z = true) (hE : EW Z a0 consts_1) (a : Addr) (b : Addr) (kC : ClassId) (cs : List Int32) (dC : Value) (z : Int32) (h : Heap) (hO : Old Z Z.heap.size h) (SC : (Sta Z Z.heap "java/lang/String" "COMPACT_STRINGS" "Z" (.int z))) (hz : (¬ z = 0)) (SA : (Sta Z Z.heap "java/lang/StringUTF16" "$assertionsDisabled" "Z" (.int (1 : Int32)))) (SH : (Sta Z Z.heap "java/lang/StringUTF16" "HI_BYTE_SHIFT" "I" (.int (0 : Int32)))) (SL : (Sta Z Z.heap "java/lang/StringUTF16" "LO_BYTE_SHIFT" "I" (.int (8 : Int32)))) (qE : Exa Z h a "java/lang/String") (qV : Fld Z h a "java/lang/String" "value" "[B" .null) (qC : Fld Z h a "java/lang/String" "coder" "B" (.int (0 : Int32))) (qb : Arv Z h b kC .char (Int32.ofNat cs.length) (cs.map Value.int) dC) (hl : (cs.length ≤ 80)) (l0 : (0 < cs.length)) (hw5 : (∃ c ∈ cs, 255 < c)) (h16 : (∀ c ∈ cs, B16 c)) (ge_a : Z.heap.size ≤ a) :
    Ct l Z consts_1 (⟨"java/lang/String", "<init>", "([C)V"⟩ : MethodName) jdk_42_method_3_code 2 (Option.none : Option Jvm.ClassFile.FieldType) ⟨5, 2, 240, 110⟩ #[(.ref a), (.ref b)] h [a] (fun rv' hp' so' => rv' = none ∧ so' = [] ∧ Exa Z hp' a "java/lang/String" ∧ Str Z hp' a cs) := by
  refine Ct.mk "java/lang/String" "<init>" rfl rfl (a0 := a0) (plainFor_of_name opn0) hO hE (fun x q => by simp at q; subst q; exact ge_a) ?_
  intro K T W
  rw [oef_oru_n1]
  refine gAloadN W d2_0 rfl rfl rfl ?_
  refine gAloadN W d2_1 rfl rfl rfl ?_
  refine gIconst (z := (0 : Int32)) W d2_2 rfl rfl ?_
  refine gAloadN W d2_3 rfl rfl rfl ?_
  refine wLen W d2_4 qb rfl ?_
  refine gAconstNull W d2_5 rfl ?_
  refine wSpecial (y := (⟨"java/lang/String", "<init>", "([CIILjava/lang/Void;)V"⟩ : MethodName)) (Wd := 0) (a := a) (argsL := [(.ref b), (.int (0 : Int32)), (.int (Int32.ofNat cs.length)), .null]) (rest := []) W d2_6 rfl (ow11 hw) (ow12 hw) (ow14 hw) (by decide) (Cb.ct (oru_n4 l Z a0 hw hE (a) (b) (kC) (cs) (dC) (z) h W.old SC hz SA SH SL qE qV qC qb hl l0 hw5 h16 ge_a) (ow14 hw) (ow7 hw) hE (by decide) (by decide)) (by simp) rfl (lenOf opd0 rfl) rfl (Nat.le_of_eq rfl) (by decide) (by decide) rfl fun v243 so244 T239 h241 W240 kp242 sp245 q246 => ?_
  obtain ⟨rfl, rfl, f247, f248⟩ := q246
  show Go K _ T239 9 #[.val (.ref a), .val (.ref b)] []
  exact wRet0 (so := []) W240 d2_9 (by decide) (by decide) (fun _ q => nomatch q) ⟨rfl, rfl, f247, f248⟩
theorem ow10 {a0 : Array Value} {Z : State} (hw : ∀ d ∈ tables_1, d.before a0 Z = true) : (Jvm.Cond.code ({ cls := "java/lang/String", name := "<init>", desc := "([C)V" } : Jvm.MethodName) jdk_42_method_3_code (2 : Nat) (Option.none : Option Jvm.ClassFile.FieldType)).before a0 Z = true := hw _ (List.mem_of_getElem? (i := 10) rfl)
theorem strAny {l : Launch} {Z : State} {a0 : Array Value} {R : Room} {K : Cx} {h : Heap} (hw : ∀ d ∈ tables_1, d.before a0 Z = true) (hE : EW Z a0 consts_1) (x b : Addr) {kC : ClassId} (N : Int32) (cs : List Int32) {d : Value} {z : Int32} (n Wd : Nat) (hO : Old Z Z.heap.size h) (ge : Z.heap.size ≤ x) (E : Exa Z h x "java/lang/String") (V : Fld Z h x "java/lang/String" "value" "[B" .null) (C : Fld Z h x "java/lang/String" "coder" "B" (.int (0 : Int32))) (A : Arv Z h b kC .char N (cs.map Value.int) d) (SC : Sta Z Z.heap "java/lang/String" "COMPACT_STRINGS" "Z" (.int z)) (hz : ¬ z = 0) (SA : Sta Z Z.heap "java/lang/StringUTF16" "$assertionsDisabled" "Z" (.int (1 : Int32))) (SH : Sta Z Z.heap "java/lang/StringUTF16" "HI_BYTE_SHIFT" "I" (.int (0 : Int32))) (SL : Sta Z Z.heap "java/lang/StringUTF16" "LO_BYTE_SHIFT" "I" (.int (8 : Int32))) (hn : cs.length = n) (hN : N = Int32.ofNat n) (l0 : 0 < n) (l2 : n ≤ 80) (h16 : ∀ c ∈ cs, B16 c) (hfr : 6 ≤ R.frames) (hlo : Wd + 130 ≤ R.locals) :
    Cb l Z consts_1 R K (⟨"java/lang/String", "<init>", "([C)V"⟩ : MethodName) 3 Wd 2 240 #[.ref x, .ref b] h [x] (fun v h' so => v = none ∧ so = [] ∧ Exa Z h' x "java/lang/String" ∧ Str Z h' x cs) := by
  subst hn hN
  by_cases hx : ∃ c ∈ cs, 255 < c
  · exact Cb.ct (oru_n1 l Z a0 hw hE x b kC cs d z h hO SC hz SA SH SL E V C A l2 l0 hx h16 ge) (ow10 hw) (ow7 hw) hE (by omega) (by show Wd + (2 + 11) + 110 ≤ _; omega)
  · have hall : ∀ c ∈ cs, ¬ 255 < c := fun c q r => hx ⟨c, q, r⟩
    refine (Cb.mono (strPay hw hE x b (Int32.ofNat cs.length) cs cs.length Wd E V C A (SC.ext hO.2) hz rfl (ofNat_clamp (by omega)) l0 (by omega) hall (by omega) (by omega)) (by decide : 1 ≤ 2) (by omega : cs.length ≤ 240)).weak ?_
    rintro v h' so ⟨t, kb, rfl, rfl, -, q1, q2, q3, q4⟩
    exact ⟨rfl, rfl, q1, Str.mk q1 q2 q3 q4 rfl (fun c q => ⟨(h16 c q).1, hall c q⟩) (by omega)⟩

theorem d8_0 : decode jdk_42_method_66_code 0 = .ok (.aload_n 0, 1) := by decide +kernel
theorem d8_1 : decode jdk_42_method_66_code 1 = .ok (.aload_n 1, 1) := by decide +kernel
theorem d8_2 : decode jdk_42_method_66_code 2 = .ok (.if_acmp .ne 5, 3) := by decide +kernel
theorem d8_5 : decode jdk_42_method_66_code 5 = .ok (.iconst 1, 1) := by decide +kernel
theorem d8_6 : decode jdk_42_method_66_code 6 = .ok (.ireturn, 1) := by decide +kernel
theorem oef_orm_eqSame (m_ : MethodId) (a : Addr)  : (entryFrame m_ #[(.ref a), (.ref a)] 3).locals = #[.val (.ref a), .val (.ref a), .unset] := by first | (simp [entryFrame, argsToLocals, Value.category]; done) | rfl
set_option maxRecDepth 65536 in
set_option maxHeartbeats 40000000 in
theorem orm_eqSame (l : Launch) (Z : State) (a0 : Array Value) (hw : ∀ d ∈ tables_1, d.before a0 Z = true) (hE : EW Z a0 consts_1) (a : Addr) (h : Heap) (hO : Old Z Z.heap.size h)   :
    Ct l Z consts_1 (⟨"java/lang/String", "equals", "(Ljava/lang/Object;)Z"⟩ : MethodName) jdk_42_method_66_code 3 (Option.some Jvm.ClassFile.FieldType.boolean) ⟨0, 0, 0, 0⟩ #[(.ref a), (.ref a)] h [] (fun rv' hp' so' => rv' = some (.int (1 : Int32)) ∧ so' = []) := by
  refine Ct.mk "java/lang/String" "equals" rfl rfl (a0 := a0) (plainFor_of_name opn0) hO hE (fun x q => nomatch q) ?_
  intro K T W
  rw [oef_orm_eqSame]
  refine gAloadN W d8_0 rfl rfl rfl ?_
  refine gAloadN W d8_1 rfl rfl rfl ?_
  refine gAcmp (pc' := 5) (same := true) W d8_2 rfl rfl (decide_eq_true rfl) (by decide) rfl ?_
  refine gIconst (z := (1 : Int32)) W d8_5 rfl rfl ?_
  exact wRetI (so := []) (t := .boolean) W d8_6 (by simp) rfl (by decide) (by decide) (fun _ q => nomatch q) ⟨rfl, rfl⟩
-- CUT
theorem opn2 : plainName "java/lang/AbstractStringBuilder" = true := by first | (simp [plainName, overriddenIn]; done) | decide +kernel
theorem d13_0 : decode jdk_68_method_2_code 0 = .ok (.aload_n 0, 1) := by decide +kernel
theorem d13_1 : decode jdk_68_method_2_code 1 = .ok (.invokespecial 3, 3) := by decide +kernel
theorem ow70 {a0 : Array Value} {Z : State} (hw : ∀ d ∈ tables_1, d.before a0 Z = true) : (Jvm.Cond.methodLink "java/lang/AbstractStringBuilder" (3 : Nat) ({ cls := "java/lang/Object", name := "<init>", desc := "()V" } : Jvm.MethodName)).before a0 Z = true := hw _ (List.mem_of_getElem? (i := 70) rfl)
theorem d13_4 : decode jdk_68_method_2_code 4 = .ok (.getstatic 18, 3) := by decide +kernel
theorem ow71 {a0 : Array Value} {Z : State} (hw : ∀ d ∈ tables_1, d.before a0 Z = true) : (Jvm.Cond.fieldLink "java/lang/AbstractStringBuilder" (18 : Nat) "java/lang/String" "COMPACT_STRINGS" "Z").before a0 Z = true := hw _ (List.mem_of_getElem? (i := 71) rfl)
theorem d13_7 : decode jdk_68_method_2_code 7 = .ok (.ifCond .eq 18, 3) := by decide +kernel
theorem d13_10 : decode jdk_68_method_2_code 10 = .ok (.aload_n 0, 1) := by decide +kernel
theorem d13_11 : decode jdk_68_method_2_code 11 = .ok (.iload_n 1, 1) := by decide +kernel
theorem d13_12 : decode jdk_68_method_2_code 12 = .ok (.newarray .byte, 2) := by decide +kernel
theorem d13_14 : decode jdk_68_method_2_code 14 = .ok (.putfield 15, 3) := by decide +kernel
theorem ow73 {a0 : Array Value} {Z : State} (hw : ∀ d ∈ tables_1, d.before a0 Z = true) : (Jvm.Cond.lays "java/lang/StringBuilder" "java/lang/AbstractStringBuilder" "value" "[B").before a0 Z = true := hw _ (List.mem_of_getElem? (i := 73) rfl)
theorem ow72 {a0 : Array Value} {Z : State} (hw : ∀ d ∈ tables_1, d.before a0 Z = true) : (Jvm.Cond.fieldLink "java/lang/AbstractStringBuilder" (15 : Nat) "java/lang/AbstractStringBuilder" "value" "[B").before a0 Z = true := hw _ (List.mem_of_getElem? (i := 72) rfl)
theorem ow59 {a0 : Array Value} {Z : State} (hw : ∀ d ∈ tables_1, d.before a0 Z = true) : (Jvm.Cond.instantiable "java/lang/StringBuilder" (4 : Nat)).before a0 Z = true := hw _ (List.mem_of_getElem? (i := 59) rfl)
theorem d13_17 : decode jdk_68_method_2_code 17 = .ok (.aload_n 0, 1) := by decide +kernel
theorem d13_18 : decode jdk_68_method_2_code 18 = .ok (.iconst 0, 1) := by decide +kernel
theorem d13_19 : decode jdk_68_method_2_code 19 = .ok (.putfield 22, 3) := by decide +kernel
theorem ow75 {a0 : Array Value} {Z : State} (hw : ∀ d ∈ tables_1, d.before a0 Z = true) : (Jvm.Cond.lays "java/lang/StringBuilder" "java/lang/AbstractStringBuilder" "coder" "B").before a0 Z = true := hw _ (List.mem_of_getElem? (i := 75) rfl)
theorem ow74 {a0 : Array Value} {Z : State} (hw : ∀ d ∈ tables_1, d.before a0 Z = true) : (Jvm.Cond.fieldLink "java/lang/AbstractStringBuilder" (22 : Nat) "java/lang/AbstractStringBuilder" "coder" "B").before a0 Z = true := hw _ (List.mem_of_getElem? (i := 74) rfl)
theorem d13_22 : decode jdk_68_method_2_code 22 = .ok (.goto 16, 3) := by decide +kernel
theorem d13_38 : decode jdk_68_method_2_code 38 = .ok (.return_, 1) := by decide +kernel
theorem ow133 {a0 : Array Value} {Z : State} (hw : ∀ d ∈ tables_1, d.before a0 Z = true) : (Jvm.Cond.lays "java/lang/StringBuilder" "java/lang/AbstractStringBuilder" "count" "I").before a0 Z = true := hw _ (List.mem_of_getElem? (i := 133) rfl)
theorem ow283 {a0 : Array Value} {Z : State} (hw : ∀ d ∈ tables_1, d.before a0 Z = true) : (Jvm.Cond.lays "java/lang/StringBuilder" "java/lang/AbstractStringBuilder" "maybeLatin1" "Z").before a0 Z = true := hw _ (List.mem_of_getElem? (i := 283) rfl)
theorem oef_ors_i1 (m_ : MethodId) (a : Addr)  : (entryFrame m_ #[(.ref a), (.int (16 : Int32))] 2).locals = #[.val (.ref a), .val (.int (16 : Int32))] := by first | (simp [entryFrame, argsToLocals, Value.category]; done) | rfl
set_option maxRecDepth 65536 in
set_option maxHeartbeats 40000000 in
theorem ors_i1 (l : Launch) (Z : State) (a0 : Array Value) (hw : ∀ d ∈ tables_1, d.before a0 Z = true) (hE : EW Z a0 consts_1) (a : Addr) (z : Int32) (h : Heap) (hO : Old Z Z.heap.size h) (SC : (Sta Z Z.heap "java/lang/String" "COMPACT_STRINGS" "Z" (.int z))) (hz : (¬ z = 0)) (qE : Exa Z h a "java/lang/StringBuilder") (qV : Fld Z h a "java/lang/AbstractStringBuilder" "value" "[B" .null) (qC : Fld Z h a "java/lang/AbstractStringBuilder" "coder" "B" (.int (0 : Int32))) (qN : Fld Z h a "java/lang/AbstractStringBuilder" "count" "I" (.int (0 : Int32))) (q6 : Fld Z h a "java/lang/AbstractStringBuilder" "maybeLatin1" "Z" (.int (0 : Int32))) (ge_a : Z.heap.size ≤ a) :
    Ct l Z consts_1 (⟨"java/lang/AbstractStringBuilder", "<init>", "(I)V"⟩ : MethodName) jdk_68_method_2_code 2 (Option.none : Option Jvm.ClassFile.FieldType) ⟨1, 1, 16, 14⟩ #[(.ref a), (.int (16 : Int32))] h [a] (fun rv' hp' so' => ∃ t : Addr, ∃ kb : ClassId, rv' = none ∧ so' = [t] ∧ (h.size ≤ t) ∧ Exa Z hp' a "java/lang/StringBuilder" ∧ Fld Z hp' a "java/lang/AbstractStringBuilder" "value" "[B" (.ref t) ∧ Fld Z hp' a "java/lang/AbstractStringBuilder" "coder" "B" (.int (0 : Int32)) ∧ Fld Z hp' a "java/lang/AbstractStringBuilder" "count" "I" (.int (0 : Int32)) ∧ Fld Z hp' a "java/lang/AbstractStringBuilder" "maybeLatin1" "Z" (.int (0 : Int32)) ∧ Arv Z hp' t kb .byte (16 : Int32) (List.replicate 16 (.int 0)) (.int 0) ∧ Exa Z hp' t "[B") := by
  refine Ct.mk "java/lang/AbstractStringBuilder" "<init>" rfl rfl (a0 := a0) (plainFor_of_name opn2) hO hE (fun x q => by simp at q; subst q; exact ge_a) ?_
  intro K T W
  rw [oef_ors_i1]
  refine gAloadN W d13_0 rfl rfl rfl ?_
  refine wInitO W d13_1 (ow70 hw) (ow16 hw) (ow17 hw) rfl (by decide) 0 (Nat.le_of_eq rfl) (by decide) rfl fun T249 W250 => ?_
  refine wGetS W250 d13_4 (ow71 hw) Via.refl SC rfl fun T251 W252 => ?_
  refine gIfNo W252 d13_7 ((if0 _ _).trans (feq hz).1) rfl ?_
  refine gAloadN W252 d13_10 rfl rfl rfl ?_
  refine gIloadN W252 d13_11 rfl rfl ?_
  refine wNewE (cap := 16) (ad := "[B") W252 d13_12 (ow19 hw) (by decide) (by decide) (by decide) (by decide) (by decide) (by decide) rfl fun T253 h255 a256 k257 W254 E258 g259 A260 E261 => ?_
  have f262 : Arv Z h255 a256 k257 .byte (16 : Int32) (List.replicate 16 (.int 0)) (.int 0) := A260 16
  have f263 := qV.ext E258
  have f264 := qE.ext E258
  refine wPutF (ty := .array .byte) W254 d13_14 (ow72 hw) Via.refl (by simp) f263 f264 (Or.inl (ow73 hw)) (ow59 hw) (by decide) rfl rfl rfl fun T265 h267 W266 wr268 => ?_
  have f269 := Fld.same wr268 f263
  refine gAloadN W266 d13_17 rfl rfl rfl ?_
  refine gIconst (z := (0 : Int32)) W266 d13_18 rfl rfl ?_
  have f270 := qC.ext E258
  have f271 := f270.other wr268 (Or.inr (slot_ne (t := .byte) (t' := .array .byte) (Or.inl (ow75 hw)) (Or.inl (ow73 hw)) (by decide) (by decide) (by decide)))
  have f272 := f264.wr wr268
  refine wPutF (ty := .byte) W266 d13_19 (ow74 hw) Via.refl (by simp) f271 f272 (Or.inl (ow75 hw)) (ow59 hw) (by decide) rfl (by decide) rfl fun T273 h275 W274 wr276 => ?_
  have f277 := Fld.same wr276 f271
  refine gGoto (pc' := 38) W274 d13_22 (by decide) rfl ?_
  have f278 := f272.wr wr276
  have f279 := f269.other wr276 (Or.inr (slot_ne (t := .array .byte) (t' := .byte) (Or.inl (ow73 hw)) (Or.inl (ow75 hw)) (by decide) (by decide) (by decide)))
  have f280 := qN.ext E258
  have f281 := f280.other wr268 (Or.inr (slot_ne (t := .int) (t' := .array .byte) (Or.inl (ow133 hw)) (Or.inl (ow73 hw)) (by decide) (by decide) (by decide)))
  have f282 := f281.other wr276 (Or.inr (slot_ne (t := .int) (t' := .byte) (Or.inl (ow133 hw)) (Or.inl (ow75 hw)) (by decide) (by decide) (by decide)))
  have f283 := q6.ext E258
  have f284 := f283.other wr268 (Or.inr (slot_ne (t := .boolean) (t' := .array .byte) (Or.inl (ow283 hw)) (Or.inl (ow73 hw)) (by decide) (by decide) (by decide)))
  have f285 := f284.other wr276 (Or.inr (slot_ne (t := .boolean) (t' := .byte) (Or.inl (ow283 hw)) (Or.inl (ow75 hw)) (by decide) (by decide) (by decide)))
  have ne286 : a ≠ a256 := Nat.ne_of_lt (Nat.lt_of_lt_of_le qE.lt (Nat.le_of_eq g259.symm))
  have f287 := f262.other wr268 (Ne.symm ne286)
  have f288 := f287.other wr276 (Ne.symm ne286)
  have f289 := E261.wr wr268
  have f290 := f289.wr wr276
  exact wRet0 (so := [a256]) W274 d13_38 (by decide) (by decide) (all1 ⟨by simp, (Nat.le_of_eq g259.symm)⟩ alln) ⟨a256, k257, rfl, rfl, (Nat.le_of_eq g259.symm), f278, f279, f277, f282, f285, f288, f290⟩
theorem opn3 : plainName "java/lang/StringBuilder" = true := by first | (simp [plainName, overriddenIn]; done) | decide +kernel
theorem d12_0 : decode jdk_67_method_1_code 0 = .ok (.aload_n 0, 1) := by decide +kernel
theorem d12_1 : decode jdk_67_method_1_code 1 = .ok (.bipush 16, 2) := by decide +kernel
theorem d12_3 : decode jdk_67_method_1_code 3 = .ok (.invokespecial 1, 3) := by decide +kernel
theorem ow64 {a0 : Array Value} {Z : State} (hw : ∀ d ∈ tables_1, d.before a0 Z = true) : (Jvm.Cond.methodLink "java/lang/StringBuilder" (1 : Nat) ({ cls := "java/lang/AbstractStringBuilder", name := "<init>", desc := "(I)V" } : Jvm.MethodName)).before a0 Z = true := hw _ (List.mem_of_getElem? (i := 64) rfl)
theorem ow68 {a0 : Array Value} {Z : State} (hw : ∀ d ∈ tables_1, d.before a0 Z = true) : (Jvm.Cond.initialized "java/lang/AbstractStringBuilder").before a0 Z = true := hw _ (List.mem_of_getElem? (i := 68) rfl)
theorem ow69 {a0 : Array Value} {Z : State} (hw : ∀ d ∈ tables_1, d.before a0 Z = true) : (Jvm.Cond.code ({ cls := "java/lang/AbstractStringBuilder", name := "<init>", desc := "(I)V" } : Jvm.MethodName) jdk_68_method_2_code (2 : Nat) (Option.none : Option Jvm.ClassFile.FieldType)).before a0 Z = true := hw _ (List.mem_of_getElem? (i := 69) rfl)
theorem opd8 : parseMethodDescriptor "(I)V" = some ⟨[.int], none⟩ := by decide +kernel
theorem ow65 {a0 : Array Value} {Z : State} (hw : ∀ d ∈ tables_1, d.before a0 Z = true) : (Jvm.Cond.instanceMethod ({ cls := "java/lang/AbstractStringBuilder", name := "<init>", desc := "(I)V" } : Jvm.MethodName)).before a0 Z = true := hw _ (List.mem_of_getElem? (i := 65) rfl)
theorem d12_6 : decode jdk_67_method_1_code 6 = .ok (.return_, 1) := by decide +kernel
theorem oef_ors_i0 (m_ : MethodId) (a : Addr)  : (entryFrame m_ #[(.ref a)] 1).locals = #[.val (.ref a)] := by first | (simp [entryFrame, argsToLocals, Value.category]; done) | rfl
set_option maxRecDepth 65536 in
set_option maxHeartbeats 40000000 in
theorem ors_i0 (l : Launch) (Z : State) (a0 : Array Value) (hw : ∀ d ∈ tables_1, d.before a0 Z = true) (hE : EW Z a0 consts_1) (a : Addr) (z : Int32) (h : Heap) (hO : Old Z Z.heap.size h) (SC : (Sta Z Z.heap "java/lang/String" "COMPACT_STRINGS" "Z" (.int z))) (hz : (¬ z = 0)) (qE : Exa Z h a "java/lang/StringBuilder") (qV : Fld Z h a "java/lang/AbstractStringBuilder" "value" "[B" .null) (qC : Fld Z h a "java/lang/AbstractStringBuilder" "coder" "B" (.int (0 : Int32))) (qN : Fld Z h a "java/lang/AbstractStringBuilder" "count" "I" (.int (0 : Int32))) (q6 : Fld Z h a "java/lang/AbstractStringBuilder" "maybeLatin1" "Z" (.int (0 : Int32))) (ge_a : Z.heap.size ≤ a) :
    Ct l Z consts_1 (⟨"java/lang/StringBuilder", "<init>", "()V"⟩ : MethodName) jdk_67_method_1_code 1 (Option.none : Option Jvm.ClassFile.FieldType) ⟨2, 1, 16, 30⟩ #[(.ref a)] h [a] (fun rv' hp' so' => ∃ t : Addr, ∃ kb : ClassId, rv' = none ∧ so' = [t] ∧ (h.size ≤ t) ∧ Exa Z hp' a "java/lang/StringBuilder" ∧ Fld Z hp' a "java/lang/AbstractStringBuilder" "value" "[B" (.ref t) ∧ Fld Z hp' a "java/lang/AbstractStringBuilder" "coder" "B" (.int (0 : Int32)) ∧ Fld Z hp' a "java/lang/AbstractStringBuilder" "count" "I" (.int (0 : Int32)) ∧ Fld Z hp' a "java/lang/AbstractStringBuilder" "maybeLatin1" "Z" (.int (0 : Int32)) ∧ Arv Z hp' t kb .byte (16 : Int32) (List.replicate 16 (.int 0)) (.int 0) ∧ Exa Z hp' t "[B") := by
  refine Ct.mk "java/lang/StringBuilder" "<init>" rfl rfl (a0 := a0) (plainFor_of_name opn3) hO hE (fun x q => by simp at q; subst q; exact ge_a) ?_
  intro K T W
  rw [oef_ors_i0]
  refine gAloadN W d12_0 rfl rfl rfl ?_
  refine gBipush (z := (16 : Int32)) W d12_1 rfl rfl ?_
  refine wSpecial (y := (⟨"java/lang/AbstractStringBuilder", "<init>", "(I)V"⟩ : MethodName)) (Wd := 0) (a := a) (argsL := [(.int (16 : Int32))]) (rest := []) W d12_3 rfl (ow64 hw) (ow65 hw) (ow69 hw) (by decide) (Cb.ct (ors_i1 l Z a0 hw hE (a) (z) h W.old SC hz qE qV qC qN q6 ge_a) (ow69 hw) (ow68 hw) hE (by decide) (by decide)) (by simp) rfl (lenOf opd8 rfl) rfl (Nat.le_of_eq rfl) (by decide) (by decide) rfl fun v295 so296 T291 h293 W292 kp294 sp297 q298 => ?_
  obtain ⟨t299, kb300, rfl, rfl, f301, f302, f303, f304, f305, f306, f307, f308⟩ := q298
  show Go K _ T291 6 #[.val (.ref a)] []
  exact wRet0 (so := [t299]) W292 d12_6 (by decide) (by decide) (all1 ⟨by simp, f301⟩ alln) ⟨t299, kb300, rfl, rfl, f301, f302, f303, f304, f305, f306, f307, f308⟩
theorem d7_0 : decode jdk_42_method_152_code 0 = .ok (.getstatic 38, 3) := by decide +kernel
theorem d7_3 : decode jdk_42_method_152_code 3 = .ok (.ifCond .eq 10, 3) := by decide +kernel
theorem d7_6 : decode jdk_42_method_152_code 6 = .ok (.aload_n 0, 1) := by decide +kernel
theorem d7_7 : decode jdk_42_method_152_code 7 = .ok (.getfield 15, 3) := by decide +kernel
theorem d7_10 : decode jdk_42_method_152_code 10 = .ok (.goto 4, 3) := by decide +kernel
theorem d7_14 : decode jdk_42_method_152_code 14 = .ok (.ireturn, 1) := by decide +kernel
theorem oef_ors_co (m_ : MethodId) (s : Addr)  : (entryFrame m_ #[(.ref s)] 1).locals = #[.val (.ref s)] := by first | (simp [entryFrame, argsToLocals, Value.category]; done) | rfl
set_option maxRecDepth 65536 in
set_option maxHeartbeats 40000000 in
theorem ors_co (l : Launch) (Z : State) (a0 : Array Value) (hw : ∀ d ∈ tables_1, d.before a0 Z = true) (hE : EW Z a0 consts_1) (s : Addr) (z : Int32) (h : Heap) (hO : Old Z Z.heap.size h) (SC : (Sta Z Z.heap "java/lang/String" "COMPACT_STRINGS" "Z" (.int z))) (hz : (¬ z = 0)) (q2 : Fld Z h s "java/lang/String" "coder" "B" (.int (0 : Int32)))  :
    Ct l Z consts_1 (⟨"java/lang/String", "coder", "()B"⟩ : MethodName) jdk_42_method_152_code 1 (Option.some Jvm.ClassFile.FieldType.byte) ⟨0, 0, 0, 0⟩ #[(.ref s)] h [] (fun rv' hp' so' => rv' = some (.int (0 : Int32)) ∧ so' = []) := by
  refine Ct.mk "java/lang/String" "coder" rfl rfl (a0 := a0) (plainFor_of_name opn0) hO hE (fun x q => nomatch q) ?_
  intro K T W
  rw [oef_ors_co]
  refine wGetS W d7_0 (ow40 hw) Via.refl SC rfl fun T309 W310 => ?_
  refine gIfNo W310 d7_3 ((if0 _ _).trans (feq hz).1) rfl ?_
  refine gAloadN W310 d7_6 rfl rfl rfl ?_
  refine wGetF W310 d7_7 (ow25 hw) Via.refl q2 rfl fun T311 W312 => ?_
  refine gGoto (pc' := 14) W312 d7_10 (by decide) rfl ?_
  exact wRetI (so := []) (t := .byte) W312 d7_14 (by simp) rfl (by decide) (by decide) (fun _ q => nomatch q) ⟨rfl, rfl⟩
theorem d6_0 : decode jdk_42_method_54_code 0 = .ok (.aload_n 0, 1) := by decide +kernel
theorem d6_1 : decode jdk_42_method_54_code 1 = .ok (.getfield 9, 3) := by decide +kernel
theorem d6_4 : decode jdk_42_method_54_code 4 = .ok (.arraylength, 1) := by decide +kernel
theorem d6_5 : decode jdk_42_method_54_code 5 = .ok (.aload_n 0, 1) := by decide +kernel
theorem d6_6 : decode jdk_42_method_54_code 6 = .ok (.invokevirtual 335, 3) := by decide +kernel
theorem ow39 {a0 : Array Value} {Z : State} (hw : ∀ d ∈ tables_1, d.before a0 Z = true) : (Jvm.Cond.code ({ cls := "java/lang/String", name := "coder", desc := "()B" } : Jvm.MethodName) jdk_42_method_152_code (1 : Nat) (Option.some Jvm.ClassFile.FieldType.byte)).before a0 Z = true := hw _ (List.mem_of_getElem? (i := 39) rfl)
theorem opd9 : parseMethodDescriptor "()B" = some ⟨[], some (.byte)⟩ := by decide +kernel
theorem ow35 {a0 : Array Value} {Z : State} (hw : ∀ d ∈ tables_1, d.before a0 Z = true) : (Jvm.Cond.methodLink "java/lang/String" (335 : Nat) ({ cls := "java/lang/String", name := "coder", desc := "()B" } : Jvm.MethodName)).before a0 Z = true := hw _ (List.mem_of_getElem? (i := 35) rfl)
theorem ow36 {a0 : Array Value} {Z : State} (hw : ∀ d ∈ tables_1, d.before a0 Z = true) : (Jvm.Cond.declares ({ cls := "java/lang/String", name := "coder", desc := "()B" } : Jvm.MethodName)).before a0 Z = true := hw _ (List.mem_of_getElem? (i := 36) rfl)
theorem ow38 {a0 : Array Value} {Z : State} (hw : ∀ d ∈ tables_1, d.before a0 Z = true) : (Jvm.Cond.selects "java/lang/String" ({ cls := "java/lang/String", name := "coder", desc := "()B" } : Jvm.MethodName) ({ cls := "java/lang/String", name := "coder", desc := "()B" } : Jvm.MethodName)).before a0 Z = true := hw _ (List.mem_of_getElem? (i := 38) rfl)
theorem ow37 {a0 : Array Value} {Z : State} (hw : ∀ d ∈ tables_1, d.before a0 Z = true) : (Jvm.Cond.instanceMethod ({ cls := "java/lang/String", name := "coder", desc := "()B" } : Jvm.MethodName)).before a0 Z = true := hw _ (List.mem_of_getElem? (i := 37) rfl)
theorem d6_9 : decode jdk_42_method_54_code 9 = .ok (.ishr, 1) := by decide +kernel
theorem d6_10 : decode jdk_42_method_54_code 10 = .ok (.ireturn, 1) := by decide +kernel
theorem oef_ors_ln (m_ : MethodId) (s : Addr)  : (entryFrame m_ #[(.ref s)] 1).locals = #[.val (.ref s)] := by first | (simp [entryFrame, argsToLocals, Value.category]; done) | rfl
set_option maxRecDepth 65536 in
set_option maxHeartbeats 40000000 in
theorem ors_ln (l : Launch) (Z : State) (a0 : Array Value) (hw : ∀ d ∈ tables_1, d.before a0 Z = true) (hE : EW Z a0 consts_1) (s : Addr) (u : Addr) (ku : ClassId) (n : Nat) (us : List Value) (z : Int32) (h : Heap) (hO : Old Z Z.heap.size h) (SC : (Sta Z Z.heap "java/lang/String" "COMPACT_STRINGS" "Z" (.int z))) (hz : (¬ z = 0)) (q2 : Exa Z h s "java/lang/String") (q3 : Fld Z h s "java/lang/String" "value" "[B" (.ref u)) (q4 : Fld Z h s "java/lang/String" "coder" "B" (.int (0 : Int32))) (q5 : Arv Z h u ku .byte (Int32.ofNat n) us (.int 0))  :
    Ct l Z consts_1 (⟨"java/lang/String", "length", "()I"⟩ : MethodName) jdk_42_method_54_code 1 (Option.some Jvm.ClassFile.FieldType.int) ⟨1, 0, 0, 14⟩ #[(.ref s)] h [] (fun rv' hp' so' => rv' = some (.int (Int32.ofNat n)) ∧ so' = []) := by
  refine Ct.mk "java/lang/String" "length" rfl rfl (a0 := a0) (plainFor_of_name opn0) hO hE (fun x q => nomatch q) ?_
  intro K T W
  rw [oef_ors_ln]
  refine gAloadN W d6_0 rfl rfl rfl ?_
  refine wGetF W d6_1 (ow24 hw) Via.refl q3 rfl fun T313 W314 => ?_
  refine wLen W314 d6_4 q5 rfl ?_
  refine gAloadN W314 d6_5 rfl rfl rfl ?_
  refine wVirtual (y := (⟨"java/lang/String", "coder", "()B"⟩ : MethodName)) (z := (⟨"java/lang/String", "coder", "()B"⟩ : MethodName)) (Wd := 1) (a := s) (argsL := []) (rest := [(.int (Int32.ofNat n))]) W314 d6_6 (ow35 hw) (ow36 hw) (ow38 hw) (ow37 hw) (nfS (ow38 hw)) (by decide) (Cb.ct (ors_co l Z a0 hw hE (s) (z) h W314.old SC hz q4 ) (ow39 hw) (ow7 hw) hE (by decide) (by decide)) q2 (by simp) rfl (lenOf opd9 rfl) rfl (Nat.le_of_eq rfl) (by decide) (by decide) rfl fun v319 so320 T315 h317 W316 kp318 sp321 q322 => ?_
  obtain ⟨rfl, rfl⟩ := q322
  show Go K _ T315 9 #[.val (.ref s)] [(.int (0 : Int32)), (.int (Int32.ofNat n))]
  refine gIshr (z := (Int32.ofNat n)) W316 d6_9 (shr0' _) rfl ?_
  exact wRetI (so := []) (t := .int) W316 d6_10 (by simp) rfl (by decide) (by decide) (fun _ q => nomatch q) ⟨rfl, rfl⟩
theorem d26_0 : decode jdk_68_method_9_code 0 = .ok (.aload_n 0, 1) := by decide +kernel
theorem d26_1 : decode jdk_68_method_9_code 1 = .ok (.getfield 15, 3) := by decide +kernel
theorem d26_4 : decode jdk_68_method_9_code 4 = .ok (.arraylength, 1) := by decide +kernel
theorem d26_5 : decode jdk_68_method_9_code 5 = .ok (.aload_n 0, 1) := by decide +kernel
theorem d26_6 : decode jdk_68_method_9_code 6 = .ok (.getfield 22, 3) := by decide +kernel
theorem d26_9 : decode jdk_68_method_9_code 9 = .ok (.ishr, 1) := by decide +kernel
theorem d26_10 : decode jdk_68_method_9_code 10 = .ok (.istore_n 2, 1) := by decide +kernel
theorem d26_11 : decode jdk_68_method_9_code 11 = .ok (.iload_n 1, 1) := by decide +kernel
theorem d26_12 : decode jdk_68_method_9_code 12 = .ok (.iload_n 2, 1) := by decide +kernel
theorem d26_13 : decode jdk_68_method_9_code 13 = .ok (.isub, 1) := by decide +kernel
theorem d26_14 : decode jdk_68_method_9_code 14 = .ok (.ifCond .le 24, 3) := by decide +kernel
theorem d26_38 : decode jdk_68_method_9_code 38 = .ok (.return_, 1) := by decide +kernel
theorem oef_ors_en (m_ : MethodId) (a : Addr) (m : Int32)  : (entryFrame m_ #[(.ref a), (.int m)] 3).locals = #[.val (.ref a), .val (.int m), .unset] := by first | (simp [entryFrame, argsToLocals, Value.category]; done) | rfl
set_option maxRecDepth 65536 in
set_option maxHeartbeats 40000000 in
theorem ors_en (l : Launch) (Z : State) (a0 : Array Value) (hw : ∀ d ∈ tables_1, d.before a0 Z = true) (hE : EW Z a0 consts_1) (a : Addr) (t : Addr) (kb : ClassId) (M : Nat) (vs : List Value) (m : Int32) (h : Heap) (hO : Old Z Z.heap.size h) (q0 : Exa Z h a "java/lang/StringBuilder") (q1 : Fld Z h a "java/lang/AbstractStringBuilder" "value" "[B" (.ref t)) (q2 : Fld Z h a "java/lang/AbstractStringBuilder" "coder" "B" (.int (0 : Int32))) (q3 : Arv Z h t kb .byte (Int32.ofNat M) vs (.int 0)) (hm : (¬ (0 : Int32) < m - Int32.ofNat M))  :
    Ct l Z consts_1 (⟨"java/lang/AbstractStringBuilder", "ensureCapacityInternal", "(I)V"⟩ : MethodName) jdk_68_method_9_code 3 (Option.none : Option Jvm.ClassFile.FieldType) ⟨0, 0, 0, 0⟩ #[(.ref a), (.int m)] h [] (fun rv' hp' so' => rv' = none ∧ so' = []) := by
  refine Ct.mk "java/lang/AbstractStringBuilder" "ensureCapacityInternal" rfl rfl (a0 := a0) (plainFor_of_name opn2) hO hE (fun x q => nomatch q) ?_
  intro K T W
  rw [oef_ors_en]
  refine gAloadN W d26_0 rfl rfl rfl ?_
  refine wGetF W d26_1 (ow72 hw) Via.refl q1 rfl fun T323 W324 => ?_
  refine wLen W324 d26_4 q3 rfl ?_
  refine gAloadN W324 d26_5 rfl rfl rfl ?_
  refine wGetF W324 d26_6 (ow74 hw) Via.refl q2 rfl fun T325 W326 => ?_
  refine gIshr (z := (Int32.ofNat M)) W326 d26_9 (shr0' _) rfl ?_
  refine gIstoreN (ls' := #[.val (.ref a), .val (.int m), .val (.int (Int32.ofNat M))]) W326 d26_10 rfl rfl ?_
  refine gIloadN W326 d26_11 rfl rfl ?_
  refine gIloadN W326 d26_12 rfl rfl ?_
  obtain ⟨v327, e328⟩ : ∃ v : Int32, m - (Int32.ofNat M) = v := ⟨_, rfl⟩
  refine gIsub W326 d26_13 e328 rfl ?_
  refine gIfYes (pc' := 38) W326 d26_14 ((if0 _ _).trans (flt (by rw [← e328]; exact hm)).2.2.2) (by decide) rfl ?_
  exact wRet0 (so := []) W326 d26_38 (by decide) (by decide) (fun _ q => nomatch q) ⟨rfl, rfl⟩
theorem d32_0 : decode jdk_68_method_71_code 0 = .ok (.getstatic 18, 3) := by decide +kernel
theorem d32_3 : decode jdk_68_method_71_code 3 = .ok (.ifCond .eq 18, 3) := by decide +kernel
theorem d32_6 : decode jdk_68_method_71_code 6 = .ok (.aload_n 0, 1) := by decide +kernel
theorem d32_7 : decode jdk_68_method_71_code 7 = .ok (.getfield 22, 3) := by decide +kernel
theorem d32_10 : decode jdk_68_method_71_code 10 = .ok (.aload_n 1, 1) := by decide +kernel
theorem d32_11 : decode jdk_68_method_71_code 11 = .ok (.invokevirtual 40, 3) := by decide +kernel
theorem ow166 {a0 : Array Value} {Z : State} (hw : ∀ d ∈ tables_1, d.before a0 Z = true) : (Jvm.Cond.methodLink "java/lang/AbstractStringBuilder" (40 : Nat) ({ cls := "java/lang/String", name := "coder", desc := "()B" } : Jvm.MethodName)).before a0 Z = true := hw _ (List.mem_of_getElem? (i := 166) rfl)
theorem d32_14 : decode jdk_68_method_71_code 14 = .ok (.if_icmp .eq 7, 3) := by decide +kernel
theorem d32_21 : decode jdk_68_method_71_code 21 = .ok (.return_, 1) := by decide +kernel
theorem oef_ors_nf (m_ : MethodId) (a : Addr) (s : Addr)  : (entryFrame m_ #[(.ref a), (.ref s)] 2).locals = #[.val (.ref a), .val (.ref s)] := by first | (simp [entryFrame, argsToLocals, Value.category]; done) | rfl
set_option maxRecDepth 65536 in
set_option maxHeartbeats 40000000 in
theorem ors_nf (l : Launch) (Z : State) (a0 : Array Value) (hw : ∀ d ∈ tables_1, d.before a0 Z = true) (hE : EW Z a0 consts_1) (a : Addr) (s : Addr) (z : Int32) (h : Heap) (hO : Old Z Z.heap.size h) (SC : (Sta Z Z.heap "java/lang/String" "COMPACT_STRINGS" "Z" (.int z))) (hz : (¬ z = 0)) (q2 : Fld Z h a "java/lang/AbstractStringBuilder" "coder" "B" (.int (0 : Int32))) (q3 : Exa Z h s "java/lang/String") (q4 : Fld Z h s "java/lang/String" "coder" "B" (.int (0 : Int32)))  :
    Ct l Z consts_1 (⟨"java/lang/AbstractStringBuilder", "inflateIfNeededFor", "(Ljava/lang/String;)V"⟩ : MethodName) jdk_68_method_71_code 2 (Option.none : Option Jvm.ClassFile.FieldType) ⟨1, 0, 0, 14⟩ #[(.ref a), (.ref s)] h [] (fun rv' hp' so' => rv' = none ∧ so' = []) := by
  refine Ct.mk "java/lang/AbstractStringBuilder" "inflateIfNeededFor" rfl rfl (a0 := a0) (plainFor_of_name opn2) hO hE (fun x q => nomatch q) ?_
  intro K T W
  rw [oef_ors_nf]
  refine wGetS W d32_0 (ow71 hw) Via.refl SC rfl fun T329 W330 => ?_
  refine gIfNo W330 d32_3 ((if0 _ _).trans (feq hz).1) rfl ?_
  refine gAloadN W330 d32_6 rfl rfl rfl ?_
  refine wGetF W330 d32_7 (ow74 hw) Via.refl q2 rfl fun T331 W332 => ?_
  refine gAloadN W332 d32_10 rfl rfl rfl ?_
  refine wVirtual (y := (⟨"java/lang/String", "coder", "()B"⟩ : MethodName)) (z := (⟨"java/lang/String", "coder", "()B"⟩ : MethodName)) (Wd := 1) (a := s) (argsL := []) (rest := [(.int (0 : Int32))]) W332 d32_11 (ow166 hw) (ow36 hw) (ow38 hw) (ow37 hw) (nfS (ow38 hw)) (by decide) (Cb.ct (ors_co l Z a0 hw hE (s) (z) h W332.old SC hz q4 ) (ow39 hw) (ow7 hw) hE (by decide) (by decide)) q3 (by simp) rfl (lenOf opd9 rfl) rfl (Nat.le_of_eq rfl) (by decide) (by decide) rfl fun v337 so338 T333 h335 W334 kp336 sp339 q340 => ?_
  obtain ⟨rfl, rfl⟩ := q340
  show Go K _ T333 14 #[.val (.ref a), .val (.ref s)] [(.int (0 : Int32)), (.int (0 : Int32))]
  refine gIcmpYes (pc' := 21) W334 d32_14 (teq rfl).1 (by decide) rfl ?_
  exact wRet0 (so := []) W334 d32_21 (by decide) (by decide) (fun _ q => nomatch q) ⟨rfl, rfl⟩
theorem d33_0 : decode jdk_42_method_147_code 0 = .ok (.aload_n 0, 1) := by decide +kernel
theorem d33_1 : decode jdk_42_method_147_code 1 = .ok (.invokevirtual 335, 3) := by decide +kernel
theorem d33_4 : decode jdk_42_method_147_code 4 = .ok (.iload_n 3, 1) := by decide +kernel
theorem d33_5 : decode jdk_42_method_147_code 5 = .ok (.if_icmp .ne 23, 3) := by decide +kernel
theorem d33_8 : decode jdk_42_method_147_code 8 = .ok (.aload_n 0, 1) := by decide +kernel
theorem d33_9 : decode jdk_42_method_147_code 9 = .ok (.getfield 9, 3) := by decide +kernel
theorem d33_12 : decode jdk_42_method_147_code 12 = .ok (.iconst 0, 1) := by decide +kernel
theorem d33_13 : decode jdk_42_method_147_code 13 = .ok (.aload_n 1, 1) := by decide +kernel
theorem d33_14 : decode jdk_42_method_147_code 14 = .ok (.iload_n 2, 1) := by decide +kernel
theorem d33_15 : decode jdk_42_method_147_code 15 = .ok (.iload_n 3, 1) := by decide +kernel
theorem d33_16 : decode jdk_42_method_147_code 16 = .ok (.ishl, 1) := by decide +kernel
theorem d33_17 : decode jdk_42_method_147_code 17 = .ok (.aload_n 0, 1) := by decide +kernel
theorem d33_18 : decode jdk_42_method_147_code 18 = .ok (.getfield 9, 3) := by decide +kernel
theorem d33_21 : decode jdk_42_method_147_code 21 = .ok (.arraylength, 1) := by decide +kernel
theorem d33_22 : decode jdk_42_method_147_code 22 = .ok (.invokestatic 212, 3) := by decide +kernel
theorem ow172 {a0 : Array Value} {Z : State} (hw : ∀ d ∈ tables_1, d.before a0 Z = true) : (Jvm.Cond.methodLink "java/lang/String" (212 : Nat) ({ cls := "java/lang/System", name := "arraycopy", desc := "(Ljava/lang/Object;ILjava/lang/Object;II)V" } : Jvm.MethodName)).before a0 Z = true := hw _ (List.mem_of_getElem? (i := 172) rfl)
theorem ow117 {a0 : Array Value} {Z : State} (hw : ∀ d ∈ tables_1, d.before a0 Z = true) : (Jvm.Cond.native ({ cls := "java/lang/System", name := "arraycopy", desc := "(Ljava/lang/Object;ILjava/lang/Object;II)V" } : Jvm.MethodName)).before a0 Z = true := hw _ (List.mem_of_getElem? (i := 117) rfl)
theorem ow115 {a0 : Array Value} {Z : State} (hw : ∀ d ∈ tables_1, d.before a0 Z = true) : (Jvm.Cond.static ({ cls := "java/lang/System", name := "arraycopy", desc := "(Ljava/lang/Object;ILjava/lang/Object;II)V" } : Jvm.MethodName)).before a0 Z = true := hw _ (List.mem_of_getElem? (i := 115) rfl)
theorem ow116 {a0 : Array Value} {Z : State} (hw : ∀ d ∈ tables_1, d.before a0 Z = true) : (Jvm.Cond.initialized "java/lang/System").before a0 Z = true := hw _ (List.mem_of_getElem? (i := 116) rfl)
theorem d33_25 : decode jdk_42_method_147_code 25 = .ok (.goto 18, 3) := by decide +kernel
theorem d33_43 : decode jdk_42_method_147_code 43 = .ok (.return_, 1) := by decide +kernel
theorem oef_ors_gb (m_ : MethodId) (s : Addr) (t : Addr) (y0_ : Int32)  : (entryFrame m_ #[(.ref s), (.ref t), (.int y0_), (.int (0 : Int32))] 4).locals = #[.val (.ref s), .val (.ref t), .val (.int y0_), .val (.int (0 : Int32))] := by first | (simp [entryFrame, argsToLocals, Value.category]; done) | rfl
set_option maxRecDepth 65536 in
set_option maxHeartbeats 40000000 in
theorem ors_gb (l : Launch) (Z : State) (a0 : Array Value) (hw : ∀ d ∈ tables_1, d.before a0 Z = true) (hE : EW Z a0 consts_1) (s : Addr) (u : Addr) (ku : ClassId) (n : Nat) (us : List Value) (t : Addr) (kb : ClassId) (M : Nat) (vs : List Value) (i : Nat) (z : Int32) (h : Heap) (hO : Old Z Z.heap.size h) (SC : (Sta Z Z.heap "java/lang/String" "COMPACT_STRINGS" "Z" (.int z))) (hz : (¬ z = 0)) (q2 : Exa Z h s "java/lang/String") (q3 : Fld Z h s "java/lang/String" "value" "[B" (.ref u)) (q4 : Fld Z h s "java/lang/String" "coder" "B" (.int (0 : Int32))) (q5 : Arv Z h u ku .byte (Int32.ofNat n) us (.int 0)) (q6 : Arv Z h t kb .byte (Int32.ofNat M) vs (.int 0)) (hn : (us.length = n)) (hM : (vs.length = M)) (hi : (i + n ≤ M)) (hM4 : (M ≤ 4000)) (nut : (u ≠ t)) (ge_t : Z.heap.size ≤ t) :
    Ct l Z consts_1 (⟨"java/lang/String", "getBytes", "([BIB)V"⟩ : MethodName) jdk_42_method_147_code 4 (Option.none : Option Jvm.ClassFile.FieldType) ⟨1, 0, 0, 60⟩ #[(.ref s), (.ref t), (.int (Int32.ofNat i)), (.int (0 : Int32))] h [t] (fun rv' hp' so' => rv' = none ∧ so' = [] ∧ Arv Z hp' t kb .byte (Int32.ofNat M) (vs.take i ++ us ++ vs.drop (i + n)) (.int 0)) := by
  refine Ct.mk "java/lang/String" "getBytes" rfl rfl (a0 := a0) (plainFor_of_name opn0) hO hE (fun x q => by simp at q; subst q; exact ge_t) ?_
  intro K T W
  rw [oef_ors_gb]
  refine gAloadN W d33_0 rfl rfl rfl ?_
  refine wVirtual (y := (⟨"java/lang/String", "coder", "()B"⟩ : MethodName)) (z := (⟨"java/lang/String", "coder", "()B"⟩ : MethodName)) (Wd := 0) (a := s) (argsL := []) (rest := []) W d33_1 (ow35 hw) (ow36 hw) (ow38 hw) (ow37 hw) (nfS (ow38 hw)) (by decide) (Cb.ct (ors_co l Z a0 hw hE (s) (z) h W.old SC hz q4 ) (ow39 hw) (ow7 hw) hE (by decide) (by decide)) q2 (by simp) rfl (lenOf opd9 rfl) rfl (Nat.le_of_eq rfl) (by decide) (by decide) rfl fun v345 so346 T341 h343 W342 kp344 sp347 q348 => ?_
  obtain ⟨rfl, rfl⟩ := q348
  show Go K _ T341 4 #[.val (.ref s), .val (.ref t), .val (.int (Int32.ofNat i)), .val (.int (0 : Int32))] [(.int (0 : Int32))]
  refine gIloadN W342 d33_4 rfl rfl ?_
  refine gIcmpNo W342 d33_5 (teq rfl).2 rfl ?_
  refine gAloadN W342 d33_8 rfl rfl rfl ?_
  have f349 := q3.keep kp344 nin0
  refine wGetF W342 d33_9 (ow24 hw) Via.refl f349 rfl fun T350 W351 => ?_
  refine gIconst (z := (0 : Int32)) W351 d33_12 rfl rfl ?_
  refine gAloadN W351 d33_13 rfl rfl rfl ?_
  refine gIloadN W351 d33_14 rfl rfl ?_
  refine gIloadN W351 d33_15 rfl rfl ?_
  refine gIshl (z := (Int32.ofNat i)) W351 d33_16 (shl0' _) rfl ?_
  refine gAloadN W351 d33_17 rfl rfl rfl ?_
  refine wGetF W351 d33_18 (ow24 hw) Via.refl f349 rfl fun T352 W353 => ?_
  have f354 := q5.keep kp344 nin0
  refine wLen W353 d33_21 f354 rfl ?_
  have f355 := q6.keep kp344 nin0
  refine wCopy (us := us) W353 d33_22 (ow172 hw) (ow117 hw) (ow115 hw) (ow116 hw) (by simp) f354 f355 rfl (by decide) (ofNat_nn (by omega)) (ofNat_nn (by omega)) n M 0 i n (ofNat_clamp (by omega)) (ofNat_clamp (by omega)) (by decide) (ofNat_clamp (by omega)) (ofNat_clamp (by omega)) (by omega) (by omega) (range_self hn _) (by omega) rfl (by decide) 0 (Nat.le_of_eq rfl) (by decide) rfl fun T356 h358 W357 kp359 A360 => ?_
  have f361 : Arv Z h358 t kb .byte (Int32.ofNat M) (vs.take i ++ us ++ vs.drop (i + n)) (.int 0) := A360
  refine gGoto (pc' := 43) W357 d33_25 (by decide) rfl ?_
  exact wRet0 (so := []) W357 d33_43 (by decide) (by decide) (fun _ q => nomatch q) ⟨rfl, rfl, f361⟩
theorem d31_0 : decode jdk_68_method_73_code 0 = .ok (.aload_n 0, 1) := by decide +kernel
theorem d31_1 : decode jdk_68_method_73_code 1 = .ok (.aload_n 2, 1) := by decide +kernel
theorem d31_2 : decode jdk_68_method_73_code 2 = .ok (.invokevirtual 397, 3) := by decide +kernel
theorem ow165 {a0 : Array Value} {Z : State} (hw : ∀ d ∈ tables_1, d.before a0 Z = true) : (Jvm.Cond.code ({ cls := "java/lang/AbstractStringBuilder", name := "inflateIfNeededFor", desc := "(Ljava/lang/String;)V" } : Jvm.MethodName) jdk_68_method_71_code (2 : Nat) (Option.none : Option Jvm.ClassFile.FieldType)).before a0 Z = true := hw _ (List.mem_of_getElem? (i := 165) rfl)
theorem opd10 : parseMethodDescriptor "(Ljava/lang/String;)V" = some ⟨[.object "java/lang/String"], none⟩ := by decide +kernel
theorem ow161 {a0 : Array Value} {Z : State} (hw : ∀ d ∈ tables_1, d.before a0 Z = true) : (Jvm.Cond.methodLink "java/lang/AbstractStringBuilder" (397 : Nat) ({ cls := "java/lang/AbstractStringBuilder", name := "inflateIfNeededFor", desc := "(Ljava/lang/String;)V" } : Jvm.MethodName)).before a0 Z = true := hw _ (List.mem_of_getElem? (i := 161) rfl)
theorem ow162 {a0 : Array Value} {Z : State} (hw : ∀ d ∈ tables_1, d.before a0 Z = true) : (Jvm.Cond.instanceMethod ({ cls := "java/lang/AbstractStringBuilder", name := "inflateIfNeededFor", desc := "(Ljava/lang/String;)V" } : Jvm.MethodName)).before a0 Z = true := hw _ (List.mem_of_getElem? (i := 162) rfl)
theorem ow164 {a0 : Array Value} {Z : State} (hw : ∀ d ∈ tables_1, d.before a0 Z = true) : (Jvm.Cond.selects "java/lang/StringBuilder" ({ cls := "java/lang/AbstractStringBuilder", name := "inflateIfNeededFor", desc := "(Ljava/lang/String;)V" } : Jvm.MethodName) ({ cls := "java/lang/AbstractStringBuilder", name := "inflateIfNeededFor", desc := "(Ljava/lang/String;)V" } : Jvm.MethodName)).before a0 Z = true := hw _ (List.mem_of_getElem? (i := 164) rfl)
theorem ow163 {a0 : Array Value} {Z : State} (hw : ∀ d ∈ tables_1, d.before a0 Z = true) : (Jvm.Cond.privateMethod ({ cls := "java/lang/AbstractStringBuilder", name := "inflateIfNeededFor", desc := "(Ljava/lang/String;)V" } : Jvm.MethodName)).before a0 Z = true := hw _ (List.mem_of_getElem? (i := 163) rfl)
theorem d31_5 : decode jdk_68_method_73_code 5 = .ok (.aload_n 2, 1) := by decide +kernel
theorem d31_6 : decode jdk_68_method_73_code 6 = .ok (.aload_n 0, 1) := by decide +kernel
theorem d31_7 : decode jdk_68_method_73_code 7 = .ok (.getfield 15, 3) := by decide +kernel
theorem d31_10 : decode jdk_68_method_73_code 10 = .ok (.iload_n 1, 1) := by decide +kernel
theorem d31_11 : decode jdk_68_method_73_code 11 = .ok (.aload_n 0, 1) := by decide +kernel
theorem d31_12 : decode jdk_68_method_73_code 12 = .ok (.getfield 22, 3) := by decide +kernel
theorem d31_15 : decode jdk_68_method_73_code 15 = .ok (.invokevirtual 399, 3) := by decide +kernel
theorem ow171 {a0 : Array Value} {Z : State} (hw : ∀ d ∈ tables_1, d.before a0 Z = true) : (Jvm.Cond.code ({ cls := "java/lang/String", name := "getBytes", desc := "([BIB)V" } : Jvm.MethodName) jdk_42_method_147_code (4 : Nat) (Option.none : Option Jvm.ClassFile.FieldType)).before a0 Z = true := hw _ (List.mem_of_getElem? (i := 171) rfl)
theorem opd11 : parseMethodDescriptor "([BIB)V" = some ⟨[.array .byte, .int, .byte], none⟩ := by decide +kernel
theorem ow167 {a0 : Array Value} {Z : State} (hw : ∀ d ∈ tables_1, d.before a0 Z = true) : (Jvm.Cond.methodLink "java/lang/AbstractStringBuilder" (399 : Nat) ({ cls := "java/lang/String", name := "getBytes", desc := "([BIB)V" } : Jvm.MethodName)).before a0 Z = true := hw _ (List.mem_of_getElem? (i := 167) rfl)
theorem ow168 {a0 : Array Value} {Z : State} (hw : ∀ d ∈ tables_1, d.before a0 Z = true) : (Jvm.Cond.declares ({ cls := "java/lang/String", name := "getBytes", desc := "([BIB)V" } : Jvm.MethodName)).before a0 Z = true := hw _ (List.mem_of_getElem? (i := 168) rfl)
theorem ow170 {a0 : Array Value} {Z : State} (hw : ∀ d ∈ tables_1, d.before a0 Z = true) : (Jvm.Cond.selects "java/lang/String" ({ cls := "java/lang/String", name := "getBytes", desc := "([BIB)V" } : Jvm.MethodName) ({ cls := "java/lang/String", name := "getBytes", desc := "([BIB)V" } : Jvm.MethodName)).before a0 Z = true := hw _ (List.mem_of_getElem? (i := 170) rfl)
theorem ow169 {a0 : Array Value} {Z : State} (hw : ∀ d ∈ tables_1, d.before a0 Z = true) : (Jvm.Cond.instanceMethod ({ cls := "java/lang/String", name := "getBytes", desc := "([BIB)V" } : Jvm.MethodName)).before a0 Z = true := hw _ (List.mem_of_getElem? (i := 169) rfl)
theorem d31_18 : decode jdk_68_method_73_code 18 = .ok (.return_, 1) := by decide +kernel
theorem oef_ors_ps (m_ : MethodId) (a : Addr) (y0_ : Int32) (s : Addr)  : (entryFrame m_ #[(.ref a), (.int y0_), (.ref s)] 3).locals = #[.val (.ref a), .val (.int y0_), .val (.ref s)] := by first | (simp [entryFrame, argsToLocals, Value.category]; done) | rfl
set_option maxRecDepth 65536 in
set_option maxHeartbeats 40000000 in
theorem ors_ps (l : Launch) (Z : State) (a0 : Array Value) (hw : ∀ d ∈ tables_1, d.before a0 Z = true) (hE : EW Z a0 consts_1) (a : Addr) (t : Addr) (kb : ClassId) (M : Nat) (vs : List Value) (s : Addr) (u : Addr) (ku : ClassId) (n : Nat) (us : List Value) (i : Nat) (z : Int32) (h : Heap) (hO : Old Z Z.heap.size h) (SC : (Sta Z Z.heap "java/lang/String" "COMPACT_STRINGS" "Z" (.int z))) (hz : (¬ z = 0)) (q2 : Exa Z h a "java/lang/StringBuilder") (q3 : Fld Z h a "java/lang/AbstractStringBuilder" "value" "[B" (.ref t)) (q4 : Fld Z h a "java/lang/AbstractStringBuilder" "coder" "B" (.int (0 : Int32))) (q5 : Arv Z h t kb .byte (Int32.ofNat M) vs (.int 0)) (q6 : Exa Z h s "java/lang/String") (q7 : Fld Z h s "java/lang/String" "value" "[B" (.ref u)) (q8 : Fld Z h s "java/lang/String" "coder" "B" (.int (0 : Int32))) (q9 : Arv Z h u ku .byte (Int32.ofNat n) us (.int 0)) (hn : (us.length = n)) (hM : (vs.length = M)) (hi : (i + n ≤ M)) (hM4 : (M ≤ 4000)) (nut : (u ≠ t)) (ge_t : Z.heap.size ≤ t) :
    Ct l Z consts_1 (⟨"java/lang/AbstractStringBuilder", "putStringAt", "(ILjava/lang/String;)V"⟩ : MethodName) jdk_68_method_73_code 3 (Option.none : Option Jvm.ClassFile.FieldType) ⟨2, 0, 0, 80⟩ #[(.ref a), (.int (Int32.ofNat i)), (.ref s)] h [t] (fun rv' hp' so' => rv' = none ∧ so' = [] ∧ Arv Z hp' t kb .byte (Int32.ofNat M) (vs.take i ++ us ++ vs.drop (i + n)) (.int 0)) := by
  refine Ct.mk "java/lang/AbstractStringBuilder" "putStringAt" rfl rfl (a0 := a0) (plainFor_of_name opn2) hO hE (fun x q => by simp at q; subst q; exact ge_t) ?_
  intro K T W
  rw [oef_ors_ps]
  refine gAloadN W d31_0 rfl rfl rfl ?_
  refine gAloadN W d31_1 rfl rfl rfl ?_
  refine wPrivate (y := (⟨"java/lang/AbstractStringBuilder", "inflateIfNeededFor", "(Ljava/lang/String;)V"⟩ : MethodName)) (Wd := 0) (a := a) (argsL := [(.ref s)]) (rest := []) W d31_2 (ow161 hw) (ow162 hw) (ow164 hw) (ow163 hw) (ow165 hw) (by decide) (Cb.ct (ors_nf l Z a0 hw hE (a) (s) (z) h W.old SC hz q4 q6 q8 ) (ow165 hw) (ow68 hw) hE (by decide) (by decide)) q2 (by simp) rfl (lenOf opd10 rfl) rfl (Nat.le_of_eq rfl) (by decide) (by decide) rfl fun v366 so367 T362 h364 W363 kp365 sp368 q369 => ?_
  obtain ⟨rfl, rfl⟩ := q369
  show Go K _ T362 5 #[.val (.ref a), .val (.int (Int32.ofNat i)), .val (.ref s)] []
  refine gAloadN W363 d31_5 rfl rfl rfl ?_
  refine gAloadN W363 d31_6 rfl rfl rfl ?_
  have f370 := q3.keep kp365 nin0
  refine wGetF W363 d31_7 (ow72 hw) Via.refl f370 rfl fun T371 W372 => ?_
  refine gIloadN W372 d31_10 rfl rfl ?_
  refine gAloadN W372 d31_11 rfl rfl rfl ?_
  have f373 := q4.keep kp365 nin0
  refine wGetF W372 d31_12 (ow74 hw) Via.refl f373 rfl fun T374 W375 => ?_
  have f376 := q6.keep kp365
  have f377 := q7.keep kp365 nin0
  have f378 := q8.keep kp365 nin0
  have f379 := q9.keep kp365 nin0
  have f380 := q5.keep kp365 nin0
  refine wVirtual (y := (⟨"java/lang/String", "getBytes", "([BIB)V"⟩ : MethodName)) (z := (⟨"java/lang/String", "getBytes", "([BIB)V"⟩ : MethodName)) (Wd := 0) (a := s) (argsL := [(.ref t), (.int (Int32.ofNat i)), (.int (0 : Int32))]) (rest := []) W375 d31_15 (ow167 hw) (ow168 hw) (ow170 hw) (ow169 hw) (nfS (ow170 hw)) (by decide) (Cb.ct (ors_gb l Z a0 hw hE (s) (u) (ku) (n) (us) (t) (kb) (M) (vs) (i) (z) h364 W375.old SC hz f376 f377 f378 f379 f380 hn hM hi hM4 nut ge_t) (ow171 hw) (ow7 hw) hE (by decide) (by decide)) f376 (by simp) rfl (lenOf opd11 rfl) rfl (Nat.le_of_eq rfl) (by decide) (by decide) rfl fun v385 so386 T381 h383 W382 kp384 sp387 q388 => ?_
  obtain ⟨rfl, rfl, f389⟩ := q388
  show Go K _ T381 18 #[.val (.ref a), .val (.int (Int32.ofNat i)), .val (.ref s)] []
  exact wRet0 (so := []) W382 d31_18 (by decide) (by decide) (fun _ q => nomatch q) ⟨rfl, rfl, f389⟩
theorem d25_0 : decode jdk_68_method_22_code 0 = .ok (.aload_n 1, 1) := by decide +kernel
theorem d25_1 : decode jdk_68_method_22_code 1 = .ok (.ifnonnull 8, 3) := by decide +kernel
theorem d25_9 : decode jdk_68_method_22_code 9 = .ok (.aload_n 1, 1) := by decide +kernel
theorem d25_10 : decode jdk_68_method_22_code 10 = .ok (.invokevirtual 32, 3) := by decide +kernel
theorem ow34 {a0 : Array Value} {Z : State} (hw : ∀ d ∈ tables_1, d.before a0 Z = true) : (Jvm.Cond.code ({ cls := "java/lang/String", name := "length", desc := "()I" } : Jvm.MethodName) jdk_42_method_54_code (1 : Nat) (Option.some Jvm.ClassFile.FieldType.int)).before a0 Z = true := hw _ (List.mem_of_getElem? (i := 34) rfl)
theorem opd12 : parseMethodDescriptor "()I" = some ⟨[], some (.int)⟩ := by decide +kernel
theorem ow131 {a0 : Array Value} {Z : State} (hw : ∀ d ∈ tables_1, d.before a0 Z = true) : (Jvm.Cond.methodLink "java/lang/AbstractStringBuilder" (32 : Nat) ({ cls := "java/lang/String", name := "length", desc := "()I" } : Jvm.MethodName)).before a0 Z = true := hw _ (List.mem_of_getElem? (i := 131) rfl)
theorem ow31 {a0 : Array Value} {Z : State} (hw : ∀ d ∈ tables_1, d.before a0 Z = true) : (Jvm.Cond.declares ({ cls := "java/lang/String", name := "length", desc := "()I" } : Jvm.MethodName)).before a0 Z = true := hw _ (List.mem_of_getElem? (i := 31) rfl)
theorem ow33 {a0 : Array Value} {Z : State} (hw : ∀ d ∈ tables_1, d.before a0 Z = true) : (Jvm.Cond.selects "java/lang/String" ({ cls := "java/lang/String", name := "length", desc := "()I" } : Jvm.MethodName) ({ cls := "java/lang/String", name := "length", desc := "()I" } : Jvm.MethodName)).before a0 Z = true := hw _ (List.mem_of_getElem? (i := 33) rfl)
theorem ow32 {a0 : Array Value} {Z : State} (hw : ∀ d ∈ tables_1, d.before a0 Z = true) : (Jvm.Cond.instanceMethod ({ cls := "java/lang/String", name := "length", desc := "()I" } : Jvm.MethodName)).before a0 Z = true := hw _ (List.mem_of_getElem? (i := 32) rfl)
theorem d25_13 : decode jdk_68_method_22_code 13 = .ok (.istore_n 2, 1) := by decide +kernel
theorem d25_14 : decode jdk_68_method_22_code 14 = .ok (.aload_n 0, 1) := by decide +kernel
theorem d25_15 : decode jdk_68_method_22_code 15 = .ok (.aload_n 0, 1) := by decide +kernel
theorem d25_16 : decode jdk_68_method_22_code 16 = .ok (.getfield 79, 3) := by decide +kernel
theorem ow132 {a0 : Array Value} {Z : State} (hw : ∀ d ∈ tables_1, d.before a0 Z = true) : (Jvm.Cond.fieldLink "java/lang/AbstractStringBuilder" (79 : Nat) "java/lang/AbstractStringBuilder" "count" "I").before a0 Z = true := hw _ (List.mem_of_getElem? (i := 132) rfl)
theorem d25_19 : decode jdk_68_method_22_code 19 = .ok (.iload_n 2, 1) := by decide +kernel
theorem d25_20 : decode jdk_68_method_22_code 20 = .ok (.iadd, 1) := by decide +kernel
theorem d25_21 : decode jdk_68_method_22_code 21 = .ok (.invokevirtual 100, 3) := by decide +kernel
theorem ow138 {a0 : Array Value} {Z : State} (hw : ∀ d ∈ tables_1, d.before a0 Z = true) : (Jvm.Cond.code ({ cls := "java/lang/AbstractStringBuilder", name := "ensureCapacityInternal", desc := "(I)V" } : Jvm.MethodName) jdk_68_method_9_code (3 : Nat) (Option.none : Option Jvm.ClassFile.FieldType)).before a0 Z = true := hw _ (List.mem_of_getElem? (i := 138) rfl)
theorem ow134 {a0 : Array Value} {Z : State} (hw : ∀ d ∈ tables_1, d.before a0 Z = true) : (Jvm.Cond.methodLink "java/lang/AbstractStringBuilder" (100 : Nat) ({ cls := "java/lang/AbstractStringBuilder", name := "ensureCapacityInternal", desc := "(I)V" } : Jvm.MethodName)).before a0 Z = true := hw _ (List.mem_of_getElem? (i := 134) rfl)
theorem ow135 {a0 : Array Value} {Z : State} (hw : ∀ d ∈ tables_1, d.before a0 Z = true) : (Jvm.Cond.instanceMethod ({ cls := "java/lang/AbstractStringBuilder", name := "ensureCapacityInternal", desc := "(I)V" } : Jvm.MethodName)).before a0 Z = true := hw _ (List.mem_of_getElem? (i := 135) rfl)
theorem ow137 {a0 : Array Value} {Z : State} (hw : ∀ d ∈ tables_1, d.before a0 Z = true) : (Jvm.Cond.selects "java/lang/StringBuilder" ({ cls := "java/lang/AbstractStringBuilder", name := "ensureCapacityInternal", desc := "(I)V" } : Jvm.MethodName) ({ cls := "java/lang/AbstractStringBuilder", name := "ensureCapacityInternal", desc := "(I)V" } : Jvm.MethodName)).before a0 Z = true := hw _ (List.mem_of_getElem? (i := 137) rfl)
theorem ow136 {a0 : Array Value} {Z : State} (hw : ∀ d ∈ tables_1, d.before a0 Z = true) : (Jvm.Cond.privateMethod ({ cls := "java/lang/AbstractStringBuilder", name := "ensureCapacityInternal", desc := "(I)V" } : Jvm.MethodName)).before a0 Z = true := hw _ (List.mem_of_getElem? (i := 136) rfl)
theorem d25_24 : decode jdk_68_method_22_code 24 = .ok (.aload_n 0, 1) := by decide +kernel
theorem d25_25 : decode jdk_68_method_22_code 25 = .ok (.aload_n 0, 1) := by decide +kernel
theorem d25_26 : decode jdk_68_method_22_code 26 = .ok (.getfield 79, 3) := by decide +kernel
theorem d25_29 : decode jdk_68_method_22_code 29 = .ok (.aload_n 1, 1) := by decide +kernel
theorem d25_30 : decode jdk_68_method_22_code 30 = .ok (.invokevirtual 208, 3) := by decide +kernel
theorem ow160 {a0 : Array Value} {Z : State} (hw : ∀ d ∈ tables_1, d.before a0 Z = true) : (Jvm.Cond.code ({ cls := "java/lang/AbstractStringBuilder", name := "putStringAt", desc := "(ILjava/lang/String;)V" } : Jvm.MethodName) jdk_68_method_73_code (3 : Nat) (Option.none : Option Jvm.ClassFile.FieldType)).before a0 Z = true := hw _ (List.mem_of_getElem? (i := 160) rfl)
theorem opd13 : parseMethodDescriptor "(ILjava/lang/String;)V" = some ⟨[.int, .object "java/lang/String"], none⟩ := by decide +kernel
theorem ow156 {a0 : Array Value} {Z : State} (hw : ∀ d ∈ tables_1, d.before a0 Z = true) : (Jvm.Cond.methodLink "java/lang/AbstractStringBuilder" (208 : Nat) ({ cls := "java/lang/AbstractStringBuilder", name := "putStringAt", desc := "(ILjava/lang/String;)V" } : Jvm.MethodName)).before a0 Z = true := hw _ (List.mem_of_getElem? (i := 156) rfl)
theorem ow157 {a0 : Array Value} {Z : State} (hw : ∀ d ∈ tables_1, d.before a0 Z = true) : (Jvm.Cond.instanceMethod ({ cls := "java/lang/AbstractStringBuilder", name := "putStringAt", desc := "(ILjava/lang/String;)V" } : Jvm.MethodName)).before a0 Z = true := hw _ (List.mem_of_getElem? (i := 157) rfl)
theorem ow159 {a0 : Array Value} {Z : State} (hw : ∀ d ∈ tables_1, d.before a0 Z = true) : (Jvm.Cond.selects "java/lang/StringBuilder" ({ cls := "java/lang/AbstractStringBuilder", name := "putStringAt", desc := "(ILjava/lang/String;)V" } : Jvm.MethodName) ({ cls := "java/lang/AbstractStringBuilder", name := "putStringAt", desc := "(ILjava/lang/String;)V" } : Jvm.MethodName)).before a0 Z = true := hw _ (List.mem_of_getElem? (i := 159) rfl)
theorem ow158 {a0 : Array Value} {Z : State} (hw : ∀ d ∈ tables_1, d.before a0 Z = true) : (Jvm.Cond.privateMethod ({ cls := "java/lang/AbstractStringBuilder", name := "putStringAt", desc := "(ILjava/lang/String;)V" } : Jvm.MethodName)).before a0 Z = true := hw _ (List.mem_of_getElem? (i := 158) rfl)
theorem d25_33 : decode jdk_68_method_22_code 33 = .ok (.aload_n 0, 1) := by decide +kernel
theorem d25_34 : decode jdk_68_method_22_code 34 = .ok (.dup, 1) := by decide +kernel
theorem d25_35 : decode jdk_68_method_22_code 35 = .ok (.getfield 79, 3) := by decide +kernel
theorem d25_38 : decode jdk_68_method_22_code 38 = .ok (.iload_n 2, 1) := by decide +kernel
theorem d25_39 : decode jdk_68_method_22_code 39 = .ok (.iadd, 1) := by decide +kernel
theorem d25_40 : decode jdk_68_method_22_code 40 = .ok (.putfield 79, 3) := by decide +kernel
theorem d25_43 : decode jdk_68_method_22_code 43 = .ok (.aload_n 0, 1) := by decide +kernel
theorem d25_44 : decode jdk_68_method_22_code 44 = .ok (.areturn, 1) := by decide +kernel
theorem oef_ors_a1 (m_ : MethodId) (a : Addr) (s : Addr)  : (entryFrame m_ #[(.ref a), (.ref s)] 3).locals = #[.val (.ref a), .val (.ref s), .unset] := by first | (simp [entryFrame, argsToLocals, Value.category]; done) | rfl
set_option maxRecDepth 65536 in
set_option maxHeartbeats 40000000 in
theorem ors_a1 (l : Launch) (Z : State) (a0 : Array Value) (hw : ∀ d ∈ tables_1, d.before a0 Z = true) (hE : EW Z a0 consts_1) (a : Addr) (t : Addr) (kb : ClassId) (M : Nat) (vs : List Value) (s : Addr) (u : Addr) (ku : ClassId) (n : Nat) (us : List Value) (i : Nat) (z : Int32) (h : Heap) (hO : Old Z Z.heap.size h) (SC : (Sta Z Z.heap "java/lang/String" "COMPACT_STRINGS" "Z" (.int z))) (hz : (¬ z = 0)) (q2 : Exa Z h a "java/lang/StringBuilder") (q3 : Fld Z h a "java/lang/AbstractStringBuilder" "value" "[B" (.ref t)) (q4 : Fld Z h a "java/lang/AbstractStringBuilder" "coder" "B" (.int (0 : Int32))) (q5 : Arv Z h t kb .byte (Int32.ofNat M) vs (.int 0)) (q6 : Fld Z h a "java/lang/AbstractStringBuilder" "count" "I" (.int (Int32.ofNat i))) (q7 : Exa Z h s "java/lang/String") (q8 : Fld Z h s "java/lang/String" "value" "[B" (.ref u)) (q9 : Fld Z h s "java/lang/String" "coder" "B" (.int (0 : Int32))) (q10 : Arv Z h u ku .byte (Int32.ofNat n) us (.int 0)) (hn : (us.length = n)) (hM : (vs.length = M)) (hi : (i + n ≤ M)) (hM4 : (M ≤ 4000)) (nut : (u ≠ t)) (ge_a : Z.heap.size ≤ a) (ge_t : Z.heap.size ≤ t) :
    Ct l Z consts_1 (⟨"java/lang/AbstractStringBuilder", "append", "(Ljava/lang/String;)Ljava/lang/AbstractStringBuilder;"⟩ : MethodName) jdk_68_method_22_code 3 (Option.some (Jvm.ClassFile.FieldType.object "java/lang/AbstractStringBuilder")) ⟨3, 0, 0, 105⟩ #[(.ref a), (.ref s)] h [a, t] (fun rv' hp' so' => rv' = some (.ref a) ∧ so' = [] ∧ Exa Z hp' a "java/lang/StringBuilder" ∧ Fld Z hp' a "java/lang/AbstractStringBuilder" "value" "[B" (.ref t) ∧ Fld Z hp' a "java/lang/AbstractStringBuilder" "coder" "B" (.int (0 : Int32)) ∧ Fld Z hp' a "java/lang/AbstractStringBuilder" "count" "I" (.int (Int32.ofNat (i + n))) ∧ Arv Z hp' t kb .byte (Int32.ofNat M) (vs.take i ++ us ++ vs.drop (i + n)) (.int 0)) := by
  refine Ct.mk "java/lang/AbstractStringBuilder" "append" rfl rfl (a0 := a0) (plainFor_of_name opn2) hO hE (fun x q => by simp at q; rcases q with rfl | rfl <;> assumption) ?_
  intro K T W
  rw [oef_ors_a1]
  refine gAloadN W d25_0 rfl rfl rfl ?_
  refine gIfnonnullYes (pc' := 9) W d25_1 (by decide) rfl ?_
  refine gAloadN W d25_9 rfl rfl rfl ?_
  refine wVirtual (y := (⟨"java/lang/String", "length", "()I"⟩ : MethodName)) (z := (⟨"java/lang/String", "length", "()I"⟩ : MethodName)) (Wd := 0) (a := s) (argsL := []) (rest := []) W d25_10 (ow131 hw) (ow31 hw) (ow33 hw) (ow32 hw) (nfS (ow33 hw)) (by decide) (Cb.ct (ors_ln l Z a0 hw hE (s) (u) (ku) (n) (us) (z) h W.old SC hz q7 q8 q9 q10 ) (ow34 hw) (ow7 hw) hE (by decide) (by decide)) q7 (by simp) rfl (lenOf opd12 rfl) rfl (Nat.le_of_eq rfl) (by decide) (by decide) rfl fun v394 so395 T390 h392 W391 kp393 sp396 q397 => ?_
  obtain ⟨rfl, rfl⟩ := q397
  show Go K _ T390 13 #[.val (.ref a), .val (.ref s), .unset] [(.int (Int32.ofNat n))]
  refine gIstoreN (ls' := #[.val (.ref a), .val (.ref s), .val (.int (Int32.ofNat n))]) W391 d25_13 rfl rfl ?_
  refine gAloadN W391 d25_14 rfl rfl rfl ?_
  refine gAloadN W391 d25_15 rfl rfl rfl ?_
  have f398 := q6.keep kp393 nin0
  refine wGetF W391 d25_16 (ow132 hw) Via.refl f398 rfl fun T399 W400 => ?_
  refine gIloadN W400 d25_19 rfl rfl ?_
  refine gIadd (z := (Int32.ofNat (i + n))) W400 d25_20 ofNat_add rfl ?_
  have f401 := q2.keep kp393
  have f402 := q3.keep kp393 nin0
  have f403 := q4.keep kp393 nin0
  have f404 := q5.keep kp393 nin0
  refine wPrivate (y := (⟨"java/lang/AbstractStringBuilder", "ensureCapacityInternal", "(I)V"⟩ : MethodName)) (Wd := 0) (a := a) (argsL := [(.int (Int32.ofNat (i + n)))]) (rest := []) W400 d25_21 (ow134 hw) (ow135 hw) (ow137 hw) (ow136 hw) (ow138 hw) (by decide) (Cb.ct (ors_en l Z a0 hw hE (a) (t) (kb) (M) (vs) ((Int32.ofNat (i + n))) h392 W400.old f401 f402 f403 f404 (ofNat_room (by omega) (by omega)) ) (ow138 hw) (ow68 hw) hE (by decide) (by decide)) f401 (by simp) rfl (lenOf opd8 rfl) rfl (Nat.le_of_eq rfl) (by decide) (by decide) rfl fun v409 so410 T405 h407 W406 kp408 sp411 q412 => ?_
  obtain ⟨rfl, rfl⟩ := q412
  show Go K _ T405 24 #[.val (.ref a), .val (.ref s), .val (.int (Int32.ofNat n))] []
  refine gAloadN W406 d25_24 rfl rfl rfl ?_
  refine gAloadN W406 d25_25 rfl rfl rfl ?_
  have f413 := f398.keep kp408 nin0
  refine wGetF W406 d25_26 (ow132 hw) Via.refl f413 rfl fun T414 W415 => ?_
  refine gAloadN W415 d25_29 rfl rfl rfl ?_
  have f416 := f401.keep kp408
  have f417 := f402.keep kp408 nin0
  have f418 := f403.keep kp408 nin0
  have f419 := f404.keep kp408 nin0
  have f420 := q7.keep kp393
  have f421 := f420.keep kp408
  have f422 := q8.keep kp393 nin0
  have f423 := f422.keep kp408 nin0
  have f424 := q9.keep kp393 nin0
  have f425 := f424.keep kp408 nin0
  have f426 := q10.keep kp393 nin0
  have f427 := f426.keep kp408 nin0
  refine wPrivate (y := (⟨"java/lang/AbstractStringBuilder", "putStringAt", "(ILjava/lang/String;)V"⟩ : MethodName)) (Wd := 0) (a := a) (argsL := [(.int (Int32.ofNat i)), (.ref s)]) (rest := []) W415 d25_30 (ow156 hw) (ow157 hw) (ow159 hw) (ow158 hw) (ow160 hw) (by decide) (Cb.ct (ors_ps l Z a0 hw hE (a) (t) (kb) (M) (vs) (s) (u) (ku) (n) (us) (i) (z) h407 W415.old SC hz f416 f417 f418 f419 f421 f423 f425 f427 hn hM hi hM4 nut ge_t) (ow160 hw) (ow68 hw) hE (by decide) (by decide)) f416 (by simp) rfl (lenOf opd13 rfl) rfl (Nat.le_of_eq rfl) (by decide) (by decide) rfl fun v432 so433 T428 h430 W429 kp431 sp434 q435 => ?_
  obtain ⟨rfl, rfl, f436⟩ := q435
  show Go K _ T428 33 #[.val (.ref a), .val (.ref s), .val (.int (Int32.ofNat n))] []
  refine gAloadN W429 d25_33 rfl rfl rfl ?_
  refine gDup W429 d25_34 rfl rfl ?_
  have f437 := f413.keep kp431 (ninS (Exa.neArv q2 q5 (ow59 hw)) nin0)
  refine wGetF W429 d25_35 (ow132 hw) Via.refl f437 rfl fun T438 W439 => ?_
  refine gIloadN W439 d25_38 rfl rfl ?_
  refine gIadd (z := (Int32.ofNat (i + n))) W439 d25_39 ofNat_add rfl ?_
  have f440 := f416.keep kp431
  refine wPutF (ty := .int) W439 d25_40 (ow132 hw) Via.refl (by simp) f437 f440 (Or.inl (ow133 hw)) (ow59 hw) (by decide) rfl rfl rfl fun T441 h443 W442 wr444 => ?_
  have f445 := Fld.same wr444 f437
  refine gAloadN W442 d25_43 rfl rfl rfl ?_
  have f446 := f440.wr wr444
  have f447 := f417.keep kp431 (ninS (Exa.neArv q2 q5 (ow59 hw)) nin0)
  have f448 := f447.other wr444 (Or.inr (slot_ne (t := .array .byte) (t' := .int) (Or.inl (ow73 hw)) (Or.inl (ow133 hw)) (by decide) (by decide) (by decide)))
  have f449 := f418.keep kp431 (ninS (Exa.neArv q2 q5 (ow59 hw)) nin0)
  have f450 := f449.other wr444 (Or.inr (slot_ne (t := .byte) (t' := .int) (Or.inl (ow75 hw)) (Or.inl (ow133 hw)) (by decide) (by decide) (by decide)))
  have f451 := f436.other wr444 (Ne.symm (Exa.neArv q2 q5 (ow59 hw)))
  exact wRetA (so := []) (t := .object "java/lang/AbstractStringBuilder") W442 d25_44 rfl rfl rfl (by decide) (by decide) (fun _ q => nomatch q) ⟨rfl, rfl, f446, f448, f450, f445, f451⟩
theorem d24_0 : decode jdk_67_method_7_code 0 = .ok (.aload_n 0, 1) := by decide +kernel
theorem d24_1 : decode jdk_67_method_7_code 1 = .ok (.aload_n 1, 1) := by decide +kernel
theorem d24_2 : decode jdk_67_method_7_code 2 = .ok (.invokespecial 29, 3) := by decide +kernel
theorem ow126 {a0 : Array Value} {Z : State} (hw : ∀ d ∈ tables_1, d.before a0 Z = true) : (Jvm.Cond.methodLink "java/lang/StringBuilder" (29 : Nat) ({ cls := "java/lang/AbstractStringBuilder", name := "append", desc := "(Ljava/lang/String;)Ljava/lang/AbstractStringBuilder;" } : Jvm.MethodName)).before a0 Z = true := hw _ (List.mem_of_getElem? (i := 126) rfl)
theorem ow130 {a0 : Array Value} {Z : State} (hw : ∀ d ∈ tables_1, d.before a0 Z = true) : (Jvm.Cond.code ({ cls := "java/lang/AbstractStringBuilder", name := "append", desc := "(Ljava/lang/String;)Ljava/lang/AbstractStringBuilder;" } : Jvm.MethodName) jdk_68_method_22_code (3 : Nat) (Option.some (Jvm.ClassFile.FieldType.object "java/lang/AbstractStringBuilder"))).before a0 Z = true := hw _ (List.mem_of_getElem? (i := 130) rfl)
theorem opd14 : parseMethodDescriptor "(Ljava/lang/String;)Ljava/lang/AbstractStringBuilder;" = some ⟨[.object "java/lang/String"], some (.object "java/lang/AbstractStringBuilder")⟩ := by decide +kernel
theorem ow127 {a0 : Array Value} {Z : State} (hw : ∀ d ∈ tables_1, d.before a0 Z = true) : (Jvm.Cond.instanceMethod ({ cls := "java/lang/AbstractStringBuilder", name := "append", desc := "(Ljava/lang/String;)Ljava/lang/AbstractStringBuilder;" } : Jvm.MethodName)).before a0 Z = true := hw _ (List.mem_of_getElem? (i := 127) rfl)
theorem ow128 {a0 : Array Value} {Z : State} (hw : ∀ d ∈ tables_1, d.before a0 Z = true) : (Jvm.Cond.superclass "java/lang/StringBuilder" "java/lang/AbstractStringBuilder").before a0 Z = true := hw _ (List.mem_of_getElem? (i := 128) rfl)
theorem d24_5 : decode jdk_67_method_7_code 5 = .ok (.pop, 1) := by decide +kernel
theorem d24_6 : decode jdk_67_method_7_code 6 = .ok (.aload_n 0, 1) := by decide +kernel
theorem d24_7 : decode jdk_67_method_7_code 7 = .ok (.areturn, 1) := by decide +kernel
theorem oef_ors_a0 (m_ : MethodId) (a : Addr) (s : Addr)  : (entryFrame m_ #[(.ref a), (.ref s)] 2).locals = #[.val (.ref a), .val (.ref s)] := by first | (simp [entryFrame, argsToLocals, Value.category]; done) | rfl
set_option maxRecDepth 65536 in
set_option maxHeartbeats 40000000 in
theorem ors_a0 (l : Launch) (Z : State) (a0 : Array Value) (hw : ∀ d ∈ tables_1, d.before a0 Z = true) (hE : EW Z a0 consts_1) (a : Addr) (t : Addr) (kb : ClassId) (M : Nat) (vs : List Value) (s : Addr) (u : Addr) (ku : ClassId) (n : Nat) (us : List Value) (i : Nat) (z : Int32) (h : Heap) (hO : Old Z Z.heap.size h) (SC : (Sta Z Z.heap "java/lang/String" "COMPACT_STRINGS" "Z" (.int z))) (hz : (¬ z = 0)) (q2 : Exa Z h a "java/lang/StringBuilder") (q3 : Fld Z h a "java/lang/AbstractStringBuilder" "value" "[B" (.ref t)) (q4 : Fld Z h a "java/lang/AbstractStringBuilder" "coder" "B" (.int (0 : Int32))) (q5 : Arv Z h t kb .byte (Int32.ofNat M) vs (.int 0)) (q6 : Fld Z h a "java/lang/AbstractStringBuilder" "count" "I" (.int (Int32.ofNat i))) (q7 : Exa Z h s "java/lang/String") (q8 : Fld Z h s "java/lang/String" "value" "[B" (.ref u)) (q9 : Fld Z h s "java/lang/String" "coder" "B" (.int (0 : Int32))) (q10 : Arv Z h u ku .byte (Int32.ofNat n) us (.int 0)) (hn : (us.length = n)) (hM : (vs.length = M)) (hi : (i + n ≤ M)) (hM4 : (M ≤ 4000)) (nut : (u ≠ t)) (ge_a : Z.heap.size ≤ a) (ge_t : Z.heap.size ≤ t) :
    Ct l Z consts_1 (⟨"java/lang/StringBuilder", "append", "(Ljava/lang/String;)Ljava/lang/StringBuilder;"⟩ : MethodName) jdk_67_method_7_code 2 (Option.some (Jvm.ClassFile.FieldType.object "java/lang/StringBuilder")) ⟨4, 0, 0, 125⟩ #[(.ref a), (.ref s)] h [a, t] (fun rv' hp' so' => rv' = some (.ref a) ∧ so' = [] ∧ Exa Z hp' a "java/lang/StringBuilder" ∧ Fld Z hp' a "java/lang/AbstractStringBuilder" "value" "[B" (.ref t) ∧ Fld Z hp' a "java/lang/AbstractStringBuilder" "coder" "B" (.int (0 : Int32)) ∧ Fld Z hp' a "java/lang/AbstractStringBuilder" "count" "I" (.int (Int32.ofNat (i + n))) ∧ Arv Z hp' t kb .byte (Int32.ofNat M) (vs.take i ++ us ++ vs.drop (i + n)) (.int 0)) := by
  refine Ct.mk "java/lang/StringBuilder" "append" rfl rfl (a0 := a0) (plainFor_of_name opn3) hO hE (fun x q => by simp at q; rcases q with rfl | rfl <;> assumption) ?_
  intro K T W
  rw [oef_ors_a0]
  refine gAloadN W d24_0 rfl rfl rfl ?_
  refine gAloadN W d24_1 rfl rfl rfl ?_
  refine wSuper (x := (⟨"java/lang/AbstractStringBuilder", "ensureCapacityInternal", "(I)V"⟩ : MethodName)) (y := (⟨"java/lang/AbstractStringBuilder", "append", "(Ljava/lang/String;)Ljava/lang/AbstractStringBuilder;"⟩ : MethodName)) (z := (⟨"java/lang/AbstractStringBuilder", "ensureCapacityInternal", "(I)V"⟩ : MethodName)) (Wd := 0) (a := a) (argsL := [(.ref s)]) (rest := []) W d24_2 (ow126 hw) (ow127 hw) (ow137 hw) rfl (ow128 hw) (by decide) (ow130 hw) (by decide) (Cb.ct (ors_a1 l Z a0 hw hE (a) (t) (kb) (M) (vs) (s) (u) (ku) (n) (us) (i) (z) h W.old SC hz q2 q3 q4 q5 q6 q7 q8 q9 q10 hn hM hi hM4 nut ge_a ge_t) (ow130 hw) (ow68 hw) hE (by decide) (by decide)) q2 (by simp) rfl (lenOf opd14 rfl) rfl (Nat.le_of_eq rfl) (by decide) (by decide) rfl fun v456 so457 T452 h454 W453 kp455 sp458 q459 => ?_
  obtain ⟨rfl, rfl, f460, f461, f462, f463, f464⟩ := q459
  show Go K _ T452 5 #[.val (.ref a), .val (.ref s)] [(.ref a)]
  refine gPop W453 d24_5 rfl rfl ?_
  refine gAloadN W453 d24_6 rfl rfl rfl ?_
  exact wRetA (so := []) (t := .object "java/lang/StringBuilder") W453 d24_7 rfl rfl rfl (by decide) (by decide) (fun _ q => nomatch q) ⟨rfl, rfl, f460, f461, f462, f463, f464⟩
theorem d40_0 : decode jdk_68_method_68_code 0 = .ok (.getstatic 18, 3) := by decide +kernel
theorem d40_3 : decode jdk_68_method_68_code 3 = .ok (.ifCond .eq 14, 3) := by decide +kernel
theorem d40_6 : decode jdk_68_method_68_code 6 = .ok (.aload_n 0, 1) := by decide +kernel
theorem d40_7 : decode jdk_68_method_68_code 7 = .ok (.getfield 22, 3) := by decide +kernel
theorem d40_10 : decode jdk_68_method_68_code 10 = .ok (.ifCond .ne 7, 3) := by decide +kernel
theorem d40_13 : decode jdk_68_method_68_code 13 = .ok (.iconst 1, 1) := by decide +kernel
theorem d40_14 : decode jdk_68_method_68_code 14 = .ok (.goto 4, 3) := by decide +kernel
theorem d40_18 : decode jdk_68_method_68_code 18 = .ok (.ireturn, 1) := by decide +kernel
theorem oef_ors_il (m_ : MethodId) (a : Addr)  : (entryFrame m_ #[(.ref a)] 1).locals = #[.val (.ref a)] := by first | (simp [entryFrame, argsToLocals, Value.category]; done) | rfl
set_option maxRecDepth 65536 in
set_option maxHeartbeats 40000000 in
theorem ors_il (l : Launch) (Z : State) (a0 : Array Value) (hw : ∀ d ∈ tables_1, d.before a0 Z = true) (hE : EW Z a0 consts_1) (a : Addr) (z : Int32) (h : Heap) (hO : Old Z Z.heap.size h) (SC : (Sta Z Z.heap "java/lang/String" "COMPACT_STRINGS" "Z" (.int z))) (hz : (¬ z = 0)) (q2 : Fld Z h a "java/lang/AbstractStringBuilder" "coder" "B" (.int (0 : Int32)))  :
    Ct l Z consts_1 (⟨"java/lang/AbstractStringBuilder", "isLatin1", "()Z"⟩ : MethodName) jdk_68_method_68_code 1 (Option.some Jvm.ClassFile.FieldType.boolean) ⟨0, 0, 0, 0⟩ #[(.ref a)] h [] (fun rv' hp' so' => rv' = some (.int (1 : Int32)) ∧ so' = []) := by
  refine Ct.mk "java/lang/AbstractStringBuilder" "isLatin1" rfl rfl (a0 := a0) (plainFor_of_name opn2) hO hE (fun x q => nomatch q) ?_
  intro K T W
  rw [oef_ors_il]
  refine wGetS W d40_0 (ow71 hw) Via.refl SC rfl fun T465 W466 => ?_
  refine gIfNo W466 d40_3 ((if0 _ _).trans (feq hz).1) rfl ?_
  refine gAloadN W466 d40_6 rfl rfl rfl ?_
  refine wGetF W466 d40_7 (ow74 hw) Via.refl q2 rfl fun T467 W468 => ?_
  refine gIfNo W468 d40_10 ((if0 _ _).trans (teq rfl).2) rfl ?_
  refine gIconst (z := (1 : Int32)) W468 d40_13 rfl rfl ?_
  refine gGoto (pc' := 18) W468 d40_14 (by decide) rfl ?_
  exact wRetI (so := []) (t := .boolean) W468 d40_18 (by simp) rfl (by decide) (by decide) (fun _ q => nomatch q) ⟨rfl, rfl⟩
theorem d37_0 : decode jdk_68_method_64_code 0 = .ok (.aload_n 0, 1) := by decide +kernel
theorem d37_1 : decode jdk_68_method_64_code 1 = .ok (.getfield 15, 3) := by decide +kernel
theorem d37_4 : decode jdk_68_method_64_code 4 = .ok (.areturn, 1) := by decide +kernel
theorem oef_ors_gv (m_ : MethodId) (a : Addr)  : (entryFrame m_ #[(.ref a)] 1).locals = #[.val (.ref a)] := by first | (simp [entryFrame, argsToLocals, Value.category]; done) | rfl
set_option maxRecDepth 65536 in
set_option maxHeartbeats 40000000 in
theorem ors_gv (l : Launch) (Z : State) (a0 : Array Value) (hw : ∀ d ∈ tables_1, d.before a0 Z = true) (hE : EW Z a0 consts_1) (a : Addr) (t : Addr) (h : Heap) (hO : Old Z Z.heap.size h) (q0 : Fld Z h a "java/lang/AbstractStringBuilder" "value" "[B" (.ref t))  :
    Ct l Z consts_1 (⟨"java/lang/AbstractStringBuilder", "getValue", "()[B"⟩ : MethodName) jdk_68_method_64_code 1 (Option.some (Jvm.ClassFile.FieldType.array Jvm.ClassFile.FieldType.byte)) ⟨0, 0, 0, 0⟩ #[(.ref a)] h [] (fun rv' hp' so' => rv' = some (.ref t) ∧ so' = []) := by
  refine Ct.mk "java/lang/AbstractStringBuilder" "getValue" rfl rfl (a0 := a0) (plainFor_of_name opn2) hO hE (fun x q => nomatch q) ?_
  intro K T W
  rw [oef_ors_gv]
  refine gAloadN W d37_0 rfl rfl rfl ?_
  refine wGetF W d37_1 (ow72 hw) Via.refl q0 rfl fun T469 W470 => ?_
  exact wRetA (so := []) (t := .array .byte) W470 d37_4 rfl rfl rfl (by decide) (by decide) (fun _ q => nomatch q) ⟨rfl, rfl⟩
theorem d39_0 : decode jdk_68_method_6_code 0 = .ok (.aload_n 0, 1) := by decide +kernel
theorem d39_1 : decode jdk_68_method_6_code 1 = .ok (.getfield 79, 3) := by decide +kernel
theorem d39_4 : decode jdk_68_method_6_code 4 = .ok (.ireturn, 1) := by decide +kernel
theorem oef_ors_l0 (m_ : MethodId) (a : Addr)  : (entryFrame m_ #[(.ref a)] 1).locals = #[.val (.ref a)] := by first | (simp [entryFrame, argsToLocals, Value.category]; done) | rfl
set_option maxRecDepth 65536 in
set_option maxHeartbeats 40000000 in
theorem ors_l0 (l : Launch) (Z : State) (a0 : Array Value) (hw : ∀ d ∈ tables_1, d.before a0 Z = true) (hE : EW Z a0 consts_1) (a : Addr) (c : Int32) (h : Heap) (hO : Old Z Z.heap.size h) (q0 : Exa Z h a "java/lang/StringBuilder") (q1 : Fld Z h a "java/lang/AbstractStringBuilder" "count" "I" (.int c))  :
    Ct l Z consts_1 (⟨"java/lang/AbstractStringBuilder", "length", "()I"⟩ : MethodName) jdk_68_method_6_code 1 (Option.some Jvm.ClassFile.FieldType.int) ⟨0, 0, 0, 0⟩ #[(.ref a)] h [] (fun rv' hp' so' => rv' = some (.int c) ∧ so' = []) := by
  refine Ct.mk "java/lang/AbstractStringBuilder" "length" rfl rfl (a0 := a0) (plainFor_of_name opn2) hO hE (fun x q => nomatch q) ?_
  intro K T W
  rw [oef_ors_l0]
  refine gAloadN W d39_0 rfl rfl rfl ?_
  refine wGetF W d39_1 (ow132 hw) Via.refl q1 rfl fun T471 W472 => ?_
  exact wRetI (so := []) (t := .int) W472 d39_4 (by simp) rfl (by decide) (by decide) (fun _ q => nomatch q) ⟨rfl, rfl⟩
theorem d38_0 : decode jdk_67_method_93_code 0 = .ok (.aload_n 0, 1) := by decide +kernel
theorem d38_1 : decode jdk_67_method_93_code 1 = .ok (.invokespecial 343, 3) := by decide +kernel
theorem ow197 {a0 : Array Value} {Z : State} (hw : ∀ d ∈ tables_1, d.before a0 Z = true) : (Jvm.Cond.methodLink "java/lang/StringBuilder" (343 : Nat) ({ cls := "java/lang/AbstractStringBuilder", name := "length", desc := "()I" } : Jvm.MethodName)).before a0 Z = true := hw _ (List.mem_of_getElem? (i := 197) rfl)
theorem ow198 {a0 : Array Value} {Z : State} (hw : ∀ d ∈ tables_1, d.before a0 Z = true) : (Jvm.Cond.code ({ cls := "java/lang/AbstractStringBuilder", name := "length", desc := "()I" } : Jvm.MethodName) jdk_68_method_6_code (1 : Nat) (Option.some Jvm.ClassFile.FieldType.int)).before a0 Z = true := hw _ (List.mem_of_getElem? (i := 198) rfl)
theorem ow193 {a0 : Array Value} {Z : State} (hw : ∀ d ∈ tables_1, d.before a0 Z = true) : (Jvm.Cond.instanceMethod ({ cls := "java/lang/AbstractStringBuilder", name := "length", desc := "()I" } : Jvm.MethodName)).before a0 Z = true := hw _ (List.mem_of_getElem? (i := 193) rfl)
theorem d38_4 : decode jdk_67_method_93_code 4 = .ok (.ireturn, 1) := by decide +kernel
theorem oef_ors_l1 (m_ : MethodId) (a : Addr)  : (entryFrame m_ #[(.ref a)] 1).locals = #[.val (.ref a)] := by first | (simp [entryFrame, argsToLocals, Value.category]; done) | rfl
set_option maxRecDepth 65536 in
set_option maxHeartbeats 40000000 in
theorem ors_l1 (l : Launch) (Z : State) (a0 : Array Value) (hw : ∀ d ∈ tables_1, d.before a0 Z = true) (hE : EW Z a0 consts_1) (a : Addr) (c : Int32) (h : Heap) (hO : Old Z Z.heap.size h) (q0 : Exa Z h a "java/lang/StringBuilder") (q1 : Fld Z h a "java/lang/AbstractStringBuilder" "count" "I" (.int c))  :
    Ct l Z consts_1 (⟨"java/lang/StringBuilder", "length", "()I"⟩ : MethodName) jdk_67_method_93_code 1 (Option.some Jvm.ClassFile.FieldType.int) ⟨1, 0, 0, 14⟩ #[(.ref a)] h [] (fun rv' hp' so' => rv' = some (.int c) ∧ so' = []) := by
  refine Ct.mk "java/lang/StringBuilder" "length" rfl rfl (a0 := a0) (plainFor_of_name opn3) hO hE (fun x q => nomatch q) ?_
  intro K T W
  rw [oef_ors_l1]
  refine gAloadN W d38_0 rfl rfl rfl ?_
  refine wSuper (x := (⟨"java/lang/AbstractStringBuilder", "ensureCapacityInternal", "(I)V"⟩ : MethodName)) (y := (⟨"java/lang/AbstractStringBuilder", "length", "()I"⟩ : MethodName)) (z := (⟨"java/lang/AbstractStringBuilder", "ensureCapacityInternal", "(I)V"⟩ : MethodName)) (Wd := 0) (a := a) (argsL := []) (rest := []) W d38_1 (ow197 hw) (ow193 hw) (ow137 hw) rfl (ow128 hw) (by decide) (ow198 hw) (by decide) (Cb.ct (ors_l0 l Z a0 hw hE (a) (c) h W.old q0 q1 ) (ow198 hw) (ow68 hw) hE (by decide) (by decide)) q0 (by simp) rfl (lenOf opd12 rfl) rfl (Nat.le_of_eq rfl) (by decide) (by decide) rfl fun v477 so478 T473 h475 W474 kp476 sp479 q480 => ?_
  obtain ⟨rfl, rfl⟩ := q480
  show Go K _ T473 4 #[.val (.ref a)] [(.int c)]
  exact wRetI (so := []) (t := .int) W474 d38_4 (by simp) rfl (by decide) (by decide) (fun _ q => nomatch q) ⟨rfl, rfl⟩
theorem d22_0 : decode jdk_29_method_69_code 0 = .ok (.iload_n 0, 1) := by decide +kernel
theorem d22_1 : decode jdk_29_method_69_code 1 = .ok (.iload_n 1, 1) := by decide +kernel
theorem d22_2 : decode jdk_29_method_69_code 2 = .ok (.if_icmp .gt 7, 3) := by decide +kernel
theorem d22_9 : decode jdk_29_method_69_code 9 = .ok (.iload_n 1, 1) := by decide +kernel
theorem d22_10 : decode jdk_29_method_69_code 10 = .ok (.ireturn, 1) := by decide +kernel
theorem oef_ors_mg (m_ : MethodId) (y0_ : Int32) (y1_ : Int32)  : (entryFrame m_ #[(.int y0_), (.int y1_)] 2).locals = #[.val (.int y0_), .val (.int y1_)] := by first | (simp [entryFrame, argsToLocals, Value.category]; done) | rfl
set_option maxRecDepth 65536 in
set_option maxHeartbeats 40000000 in
theorem ors_mg (l : Launch) (Z : State) (a0 : Array Value) (hw : ∀ d ∈ tables_1, d.before a0 Z = true) (hE : EW Z a0 consts_1) (p : Nat) (q : Nat) (h : Heap) (hO : Old Z Z.heap.size h) (hqp : (q < p)) (hp4 : (p ≤ 4000))  :
    Ct l Z consts_1 (⟨"java/lang/Math", "min", "(II)I"⟩ : MethodName) jdk_29_method_69_code 2 (Option.some Jvm.ClassFile.FieldType.int) ⟨0, 0, 0, 0⟩ #[(.int (Int32.ofNat p)), (.int (Int32.ofNat q))] h [] (fun rv' hp' so' => rv' = some (.int (Int32.ofNat q)) ∧ so' = []) := by
  refine Ct.mk "java/lang/Math" "min" rfl rfl (a0 := a0) (by decide +kernel) hO hE (fun x q => nomatch q) ?_
  intro K T W
  rw [oef_ors_mg]
  refine gIloadN W d22_0 rfl rfl ?_
  refine gIloadN W d22_1 rfl rfl ?_
  refine gIcmpYes (pc' := 9) W d22_2 (tlt ((ofNat_lt (by omega) (by omega)).mpr hqp)).2.2.1 (by decide) rfl ?_
  refine gIloadN W d22_9 rfl rfl ?_
  exact wRetI (so := []) (t := .int) W d22_10 (by simp) rfl (by decide) (by decide) (fun _ q => nomatch q) ⟨rfl, rfl⟩
theorem opn4 : plainName "java/util/Arrays" = true := by first | (simp [plainName, overriddenIn]; done) | decide +kernel
theorem d21_0 : decode jdk_65_method_131_code 0 = .ok (.iload_n 1, 1) := by decide +kernel
theorem d21_1 : decode jdk_65_method_131_code 1 = .ok (.iload_n 0, 1) := by decide +kernel
theorem d21_2 : decode jdk_65_method_131_code 2 = .ok (.if_icmp .ge 35, 3) := by decide +kernel
theorem d21_37 : decode jdk_65_method_131_code 37 = .ok (.return_, 1) := by decide +kernel
theorem oef_ors_ckl (m_ : MethodId) (y0_ : Int32)  : (entryFrame m_ #[(.int (0 : Int32)), (.int y0_)] 2).locals = #[.val (.int (0 : Int32)), .val (.int y0_)] := by first | (simp [entryFrame, argsToLocals, Value.category]; done) | rfl
set_option maxRecDepth 65536 in
set_option maxHeartbeats 40000000 in
theorem ors_ckl (l : Launch) (Z : State) (a0 : Array Value) (hw : ∀ d ∈ tables_1, d.before a0 Z = true) (hE : EW Z a0 consts_1) (n : Nat) (h : Heap) (hO : Old Z Z.heap.size h) (hn4 : (n ≤ 4000))  :
    Ct l Z consts_1 (⟨"java/util/Arrays", "checkLength", "(II)V"⟩ : MethodName) jdk_65_method_131_code 2 (Option.none : Option Jvm.ClassFile.FieldType) ⟨0, 0, 0, 0⟩ #[(.int (0 : Int32)), (.int (Int32.ofNat n))] h [] (fun rv' hp' so' => rv' = none ∧ so' = []) := by
  refine Ct.mk "java/util/Arrays" "checkLength" rfl rfl (a0 := a0) (plainFor_of_name opn4) hO hE (fun x q => nomatch q) ?_
  intro K T W
  rw [oef_ors_ckl]
  refine gIloadN W d21_0 rfl rfl ?_
  refine gIloadN W d21_1 rfl rfl ?_
  refine gIcmpYes (pc' := 37) W d21_2 (flt (ofNat_nn (by omega))).2.1 (by decide) rfl ?_
  exact wRet0 (so := []) W d21_37 (by decide) (by decide) (fun _ q => nomatch q) ⟨rfl, rfl⟩
theorem d20_0 : decode jdk_65_method_133_code 0 = .ok (.iload_n 1, 1) := by decide +kernel
theorem d20_1 : decode jdk_65_method_133_code 1 = .ok (.iload_n 2, 1) := by decide +kernel
theorem d20_2 : decode jdk_65_method_133_code 2 = .ok (.invokestatic 343, 3) := by decide +kernel
theorem ow107 {a0 : Array Value} {Z : State} (hw : ∀ d ∈ tables_1, d.before a0 Z = true) : (Jvm.Cond.methodLink "java/util/Arrays" (343 : Nat) ({ cls := "java/util/Arrays", name := "checkLength", desc := "(II)V" } : Jvm.MethodName)).before a0 Z = true := hw _ (List.mem_of_getElem? (i := 107) rfl)
theorem ow102 {a0 : Array Value} {Z : State} (hw : ∀ d ∈ tables_1, d.before a0 Z = true) : (Jvm.Cond.initialized "java/util/Arrays").before a0 Z = true := hw _ (List.mem_of_getElem? (i := 102) rfl)
theorem ow109 {a0 : Array Value} {Z : State} (hw : ∀ d ∈ tables_1, d.before a0 Z = true) : (Jvm.Cond.code ({ cls := "java/util/Arrays", name := "checkLength", desc := "(II)V" } : Jvm.MethodName) jdk_65_method_131_code (2 : Nat) (Option.none : Option Jvm.ClassFile.FieldType)).before a0 Z = true := hw _ (List.mem_of_getElem? (i := 109) rfl)
theorem opd15 : parseMethodDescriptor "(II)V" = some ⟨[.int, .int], none⟩ := by decide +kernel
theorem ow108 {a0 : Array Value} {Z : State} (hw : ∀ d ∈ tables_1, d.before a0 Z = true) : (Jvm.Cond.static ({ cls := "java/util/Arrays", name := "checkLength", desc := "(II)V" } : Jvm.MethodName)).before a0 Z = true := hw _ (List.mem_of_getElem? (i := 108) rfl)
theorem d20_5 : decode jdk_65_method_133_code 5 = .ok (.iload_n 2, 1) := by decide +kernel
theorem d20_6 : decode jdk_65_method_133_code 6 = .ok (.iload_n 1, 1) := by decide +kernel
theorem d20_7 : decode jdk_65_method_133_code 7 = .ok (.isub, 1) := by decide +kernel
theorem d20_8 : decode jdk_65_method_133_code 8 = .ok (.istore_n 3, 1) := by decide +kernel
theorem d20_9 : decode jdk_65_method_133_code 9 = .ok (.iload_n 3, 1) := by decide +kernel
theorem d20_10 : decode jdk_65_method_133_code 10 = .ok (.newarray .byte, 2) := by decide +kernel
theorem d20_12 : decode jdk_65_method_133_code 12 = .ok (.astore 4, 2) := by decide +kernel
theorem d20_14 : decode jdk_65_method_133_code 14 = .ok (.aload_n 0, 1) := by decide +kernel
theorem d20_15 : decode jdk_65_method_133_code 15 = .ok (.iload_n 1, 1) := by decide +kernel
theorem d20_16 : decode jdk_65_method_133_code 16 = .ok (.aload 4, 2) := by decide +kernel
theorem d20_18 : decode jdk_65_method_133_code 18 = .ok (.iconst 0, 1) := by decide +kernel
theorem d20_19 : decode jdk_65_method_133_code 19 = .ok (.aload_n 0, 1) := by decide +kernel
theorem d20_20 : decode jdk_65_method_133_code 20 = .ok (.arraylength, 1) := by decide +kernel
theorem d20_21 : decode jdk_65_method_133_code 21 = .ok (.iload_n 1, 1) := by decide +kernel
theorem d20_22 : decode jdk_65_method_133_code 22 = .ok (.isub, 1) := by decide +kernel
theorem d20_23 : decode jdk_65_method_133_code 23 = .ok (.iload_n 3, 1) := by decide +kernel
theorem d20_24 : decode jdk_65_method_133_code 24 = .ok (.invokestatic 304, 3) := by decide +kernel
theorem ow110 {a0 : Array Value} {Z : State} (hw : ∀ d ∈ tables_1, d.before a0 Z = true) : (Jvm.Cond.methodLink "java/util/Arrays" (304 : Nat) ({ cls := "java/lang/Math", name := "min", desc := "(II)I" } : Jvm.MethodName)).before a0 Z = true := hw _ (List.mem_of_getElem? (i := 110) rfl)
theorem ow112 {a0 : Array Value} {Z : State} (hw : ∀ d ∈ tables_1, d.before a0 Z = true) : (Jvm.Cond.initialized "java/lang/Math").before a0 Z = true := hw _ (List.mem_of_getElem? (i := 112) rfl)
theorem ow113 {a0 : Array Value} {Z : State} (hw : ∀ d ∈ tables_1, d.before a0 Z = true) : (Jvm.Cond.code ({ cls := "java/lang/Math", name := "min", desc := "(II)I" } : Jvm.MethodName) jdk_29_method_69_code (2 : Nat) (Option.some Jvm.ClassFile.FieldType.int)).before a0 Z = true := hw _ (List.mem_of_getElem? (i := 113) rfl)
theorem opd16 : parseMethodDescriptor "(II)I" = some ⟨[.int, .int], some (.int)⟩ := by decide +kernel
theorem ow111 {a0 : Array Value} {Z : State} (hw : ∀ d ∈ tables_1, d.before a0 Z = true) : (Jvm.Cond.static ({ cls := "java/lang/Math", name := "min", desc := "(II)I" } : Jvm.MethodName)).before a0 Z = true := hw _ (List.mem_of_getElem? (i := 111) rfl)
theorem d20_27 : decode jdk_65_method_133_code 27 = .ok (.invokestatic 150, 3) := by decide +kernel
theorem ow114 {a0 : Array Value} {Z : State} (hw : ∀ d ∈ tables_1, d.before a0 Z = true) : (Jvm.Cond.methodLink "java/util/Arrays" (150 : Nat) ({ cls := "java/lang/System", name := "arraycopy", desc := "(Ljava/lang/Object;ILjava/lang/Object;II)V" } : Jvm.MethodName)).before a0 Z = true := hw _ (List.mem_of_getElem? (i := 114) rfl)
theorem d20_30 : decode jdk_65_method_133_code 30 = .ok (.aload 4, 2) := by decide +kernel
theorem d20_32 : decode jdk_65_method_133_code 32 = .ok (.areturn, 1) := by decide +kernel
theorem oef_ors_crb (m_ : MethodId) (t : Addr) (y0_ : Int32)  : (entryFrame m_ #[(.ref t), (.int (0 : Int32)), (.int y0_)] 5).locals = #[.val (.ref t), .val (.int (0 : Int32)), .val (.int y0_), .unset, .unset] := by first | (simp [entryFrame, argsToLocals, Value.category]; done) | rfl
set_option maxRecDepth 65536 in
set_option maxHeartbeats 40000000 in
theorem ors_crb (l : Launch) (Z : State) (a0 : Array Value) (hw : ∀ d ∈ tables_1, d.before a0 Z = true) (hE : EW Z a0 consts_1) (t : Addr) (kb : ClassId) (M : Nat) (vs : List Value) (n : Nat) (h : Heap) (hO : Old Z Z.heap.size h) (q0 : Arv Z h t kb .byte (Int32.ofNat M) vs (.int 0)) (hvs : (vs.length = M)) (hnM : (n < M)) (hM : (M ≤ 200)) (hnC : (n ≤ 100))  :
    Ct l Z consts_1 (⟨"java/util/Arrays", "copyOfRangeByte", "([BII)[B"⟩ : MethodName) jdk_65_method_133_code 5 (Option.some (Jvm.ClassFile.FieldType.array Jvm.ClassFile.FieldType.byte)) ⟨1, 1, 100, 60⟩ #[(.ref t), (.int (0 : Int32)), (.int (Int32.ofNat n))] h [] (fun rv' hp' so' => ∃ r : Addr, ∃ kr : ClassId, rv' = some (.ref r) ∧ so' = [r] ∧ (h.size ≤ r) ∧ Arv Z hp' r kr .byte (Int32.ofNat n) (vs.take n) (.int 0)) := by
  refine Ct.mk "java/util/Arrays" "copyOfRangeByte" rfl rfl (a0 := a0) (plainFor_of_name opn4) hO hE (fun x q => nomatch q) ?_
  intro K T W
  rw [oef_ors_crb]
  refine gIloadN W d20_0 rfl rfl ?_
  refine gIloadN W d20_1 rfl rfl ?_
  refine wStatic (y := (⟨"java/util/Arrays", "checkLength", "(II)V"⟩ : MethodName)) (Wd := 0) (argsL := [(.int (0 : Int32)), (.int (Int32.ofNat n))]) (rest := []) W d20_2 (ow107 hw) (ow108 hw) (ow102 hw) (ow109 hw) (by decide) (Cb.ct (ors_ckl l Z a0 hw hE (n) h W.old (by omega) ) (ow109 hw) (ow102 hw) hE (by decide) (by decide)) (by simp) rfl (lenOf opd15 rfl) rfl (Nat.le_of_eq rfl) (by decide) (by decide) rfl fun v485 so486 T481 h483 W482 kp484 sp487 q488 => ?_
  obtain ⟨rfl, rfl⟩ := q488
  show Go K _ T481 5 #[.val (.ref t), .val (.int (0 : Int32)), .val (.int (Int32.ofNat n)), .unset, .unset] []
  refine gIloadN W482 d20_5 rfl rfl ?_
  refine gIloadN W482 d20_6 rfl rfl ?_
  refine gIsub (z := (Int32.ofNat n)) W482 d20_7 (Int32.sub_zero _) rfl ?_
  refine gIstoreN (ls' := #[.val (.ref t), .val (.int (0 : Int32)), .val (.int (Int32.ofNat n)), .val (.int (Int32.ofNat n)), .unset]) W482 d20_8 rfl rfl ?_
  refine gIloadN W482 d20_9 rfl rfl ?_
  refine wNewE (cap := 100) (ad := "[B") W482 d20_10 (ow19 hw) (ofNat_nn (by omega)) (by rw [ofNat_clamp (by omega)]; omega) (by decide) (by decide) (by decide) (by decide) rfl fun T489 h491 a492 k493 W490 E494 g495 A496 E497 => ?_
  have f498 : Arv Z h491 a492 k493 .byte (Int32.ofNat n) (List.replicate n (.int 0)) (.int 0) := A496 n
  refine gAstore (ls' := #[.val (.ref t), .val (.int (0 : Int32)), .val (.int (Int32.ofNat n)), .val (.int (Int32.ofNat n)), .val (.ref a492)]) W490 d20_12 rfl rfl rfl ?_
  refine gAloadN W490 d20_14 rfl rfl rfl ?_
  refine gIloadN W490 d20_15 rfl rfl ?_
  refine gAload W490 d20_16 rfl rfl rfl ?_
  refine gIconst (z := (0 : Int32)) W490 d20_18 rfl rfl ?_
  refine gAloadN W490 d20_19 rfl rfl rfl ?_
  have f499 := q0.keep kp484 nin0
  have f500 := f499.ext E494
  refine wLen W490 d20_20 f500 rfl ?_
  refine gIloadN W490 d20_21 rfl rfl ?_
  refine gIsub (z := (Int32.ofNat M)) W490 d20_22 (Int32.sub_zero _) rfl ?_
  refine gIloadN W490 d20_23 rfl rfl ?_
  refine wStatic (y := (⟨"java/lang/Math", "min", "(II)I"⟩ : MethodName)) (Wd := 4) (argsL := [(.int (Int32.ofNat M)), (.int (Int32.ofNat n))]) (rest := [(.int (0 : Int32)), (.ref a492), (.int (0 : Int32)), (.ref t)]) W490 d20_24 (ow110 hw) (ow111 hw) (ow112 hw) (ow113 hw) (by decide) (Cb.ct (ors_mg l Z a0 hw hE (M) (n) h491 W490.old hnM (by omega) ) (ow113 hw) (ow112 hw) hE (by decide) (by decide)) (by simp) rfl (lenOf opd16 rfl) rfl (Nat.le_of_eq rfl) (by decide) (by decide) rfl fun v505 so506 T501 h503 W502 kp504 sp507 q508 => ?_
  obtain ⟨rfl, rfl⟩ := q508
  show Go K _ T501 27 #[.val (.ref t), .val (.int (0 : Int32)), .val (.int (Int32.ofNat n)), .val (.int (Int32.ofNat n)), .val (.ref a492)] [(.int (Int32.ofNat n)), (.int (0 : Int32)), (.ref a492), (.int (0 : Int32)), (.ref t)]
  have f509 := f500.keep kp504 nin0
  have f510 := f498.keep kp504 nin0
  refine wCopy (us := (vs.take n)) W502 d20_27 (ow114 hw) (ow117 hw) (ow115 hw) (ow116 hw) (by simp) f509 f510 rfl (by decide) (by decide) (ofNat_nn (by omega)) M n 0 0 n (ofNat_clamp (by omega)) (ofNat_clamp (by omega)) (by decide) (by decide) (ofNat_clamp (by omega)) (by omega) (by omega) (range_take (by omega) _) (by simp) rfl (by decide) 0 (Nat.le_of_eq rfl) (by decide) rfl fun T511 h513 W512 kp514 A515 => ?_
  have f516 : Arv Z h513 a492 k493 .byte (Int32.ofNat n) ((List.replicate n (Value.int 0)).take 0 ++ vs.take n ++ (List.replicate n (Value.int 0)).drop (0 + n)) (.int 0) := A515
  have f517 : Arv Z h513 a492 k493 .byte (Int32.ofNat n) (vs.take n) (.int 0) := arvL f516 (by simp)
  refine gAload W512 d20_30 rfl rfl rfl ?_
  exact wRetA (so := [a492]) (t := .array .byte) W512 d20_32 rfl rfl rfl (by decide) (by decide) (all1 ⟨by simp, (Nat.le_trans W482.grow (Nat.le_of_eq g495.symm))⟩ alln) ⟨a492, k493, rfl, rfl, (Nat.le_trans W482.grow (Nat.le_of_eq g495.symm)), f517⟩
theorem d19_0 : decode jdk_65_method_132_code 0 = .ok (.iload_n 1, 1) := by decide +kernel
theorem d19_1 : decode jdk_65_method_132_code 1 = .ok (.ifCond .ne 9, 3) := by decide +kernel
theorem d19_4 : decode jdk_65_method_132_code 4 = .ok (.iload_n 2, 1) := by decide +kernel
theorem d19_5 : decode jdk_65_method_132_code 5 = .ok (.aload_n 0, 1) := by decide +kernel
theorem d19_6 : decode jdk_65_method_132_code 6 = .ok (.arraylength, 1) := by decide +kernel
theorem d19_7 : decode jdk_65_method_132_code 7 = .ok (.if_icmp .eq 10, 3) := by decide +kernel
theorem d19_10 : decode jdk_65_method_132_code 10 = .ok (.aload_n 0, 1) := by decide +kernel
theorem d19_11 : decode jdk_65_method_132_code 11 = .ok (.iload_n 1, 1) := by decide +kernel
theorem d19_12 : decode jdk_65_method_132_code 12 = .ok (.iload_n 2, 1) := by decide +kernel
theorem d19_13 : decode jdk_65_method_132_code 13 = .ok (.invokestatic 339, 3) := by decide +kernel
theorem ow104 {a0 : Array Value} {Z : State} (hw : ∀ d ∈ tables_1, d.before a0 Z = true) : (Jvm.Cond.methodLink "java/util/Arrays" (339 : Nat) ({ cls := "java/util/Arrays", name := "copyOfRangeByte", desc := "([BII)[B" } : Jvm.MethodName)).before a0 Z = true := hw _ (List.mem_of_getElem? (i := 104) rfl)
theorem ow106 {a0 : Array Value} {Z : State} (hw : ∀ d ∈ tables_1, d.before a0 Z = true) : (Jvm.Cond.code ({ cls := "java/util/Arrays", name := "copyOfRangeByte", desc := "([BII)[B" } : Jvm.MethodName) jdk_65_method_133_code (5 : Nat) (Option.some (Jvm.ClassFile.FieldType.array Jvm.ClassFile.FieldType.byte))).before a0 Z = true := hw _ (List.mem_of_getElem? (i := 106) rfl)
theorem opd17 : parseMethodDescriptor "([BII)[B" = some ⟨[.array .byte, .int, .int], some (.array .byte)⟩ := by decide +kernel
theorem ow105 {a0 : Array Value} {Z : State} (hw : ∀ d ∈ tables_1, d.before a0 Z = true) : (Jvm.Cond.static ({ cls := "java/util/Arrays", name := "copyOfRangeByte", desc := "([BII)[B" } : Jvm.MethodName)).before a0 Z = true := hw _ (List.mem_of_getElem? (i := 105) rfl)
theorem d19_16 : decode jdk_65_method_132_code 16 = .ok (.areturn, 1) := by decide +kernel
theorem oef_ors_cr (m_ : MethodId) (t : Addr) (y0_ : Int32)  : (entryFrame m_ #[(.ref t), (.int (0 : Int32)), (.int y0_)] 3).locals = #[.val (.ref t), .val (.int (0 : Int32)), .val (.int y0_)] := by first | (simp [entryFrame, argsToLocals, Value.category]; done) | rfl
set_option maxRecDepth 65536 in
set_option maxHeartbeats 40000000 in
theorem ors_cr (l : Launch) (Z : State) (a0 : Array Value) (hw : ∀ d ∈ tables_1, d.before a0 Z = true) (hE : EW Z a0 consts_1) (t : Addr) (kb : ClassId) (M : Nat) (vs : List Value) (n : Nat) (h : Heap) (hO : Old Z Z.heap.size h) (q0 : Arv Z h t kb .byte (Int32.ofNat M) vs (.int 0)) (hvs : (vs.length = M)) (hnM : (n < M)) (hM : (M ≤ 200)) (hnC : (n ≤ 100))  :
    Ct l Z consts_1 (⟨"java/util/Arrays", "copyOfRange", "([BII)[B"⟩ : MethodName) jdk_65_method_132_code 3 (Option.some (Jvm.ClassFile.FieldType.array Jvm.ClassFile.FieldType.byte)) ⟨2, 1, 100, 80⟩ #[(.ref t), (.int (0 : Int32)), (.int (Int32.ofNat n))] h [] (fun rv' hp' so' => ∃ r : Addr, ∃ kr : ClassId, rv' = some (.ref r) ∧ so' = [r] ∧ (h.size ≤ r) ∧ Arv Z hp' r kr .byte (Int32.ofNat n) (vs.take n) (.int 0)) := by
  refine Ct.mk "java/util/Arrays" "copyOfRange" rfl rfl (a0 := a0) (plainFor_of_name opn4) hO hE (fun x q => nomatch q) ?_
  intro K T W
  rw [oef_ors_cr]
  refine gIloadN W d19_0 rfl rfl ?_
  refine gIfNo W d19_1 ((if0 _ _).trans (teq (by decide)).2) rfl ?_
  refine gIloadN W d19_4 rfl rfl ?_
  refine gAloadN W d19_5 rfl rfl rfl ?_
  refine wLen W d19_6 q0 rfl ?_
  have enM : ¬ n = M := by omega
  refine gIcmpNo W d19_7 (feq (fun q => enM (ofNat_inj (by omega) (by omega) q))).1 rfl ?_
  refine gAloadN W d19_10 rfl rfl rfl ?_
  refine gIloadN W d19_11 rfl rfl ?_
  refine gIloadN W d19_12 rfl rfl ?_
  refine wStatic (y := (⟨"java/util/Arrays", "copyOfRangeByte", "([BII)[B"⟩ : MethodName)) (Wd := 0) (argsL := [(.ref t), (.int (0 : Int32)), (.int (Int32.ofNat n))]) (rest := []) W d19_13 (ow104 hw) (ow105 hw) (ow102 hw) (ow106 hw) (by decide) (Cb.ct (ors_crb l Z a0 hw hE (t) (kb) (M) (vs) (n) h W.old q0 hvs (by omega) hM hnC ) (ow106 hw) (ow102 hw) hE (by decide) (by decide)) (by simp) rfl (lenOf opd17 rfl) rfl (Nat.le_of_eq rfl) (by decide) (by decide) rfl fun v522 so523 T518 h520 W519 kp521 sp524 q525 => ?_
  obtain ⟨r526, kr527, rfl, rfl, f528, f529⟩ := q525
  show Go K _ T518 16 #[.val (.ref t), .val (.int (0 : Int32)), .val (.int (Int32.ofNat n))] [(.ref r526)]
  exact wRetA (so := [r526]) (t := .array .byte) W519 d19_16 rfl rfl rfl (by decide) (by decide) (all1 ⟨by simp, f528⟩ alln) ⟨r526, kr527, rfl, rfl, f528, f529⟩
theorem d36_0 : decode jdk_42_method_150_code 0 = .ok (.aload_n 0, 1) := by decide +kernel
theorem d36_1 : decode jdk_42_method_150_code 1 = .ok (.invokespecial 1, 3) := by decide +kernel
theorem d36_4 : decode jdk_42_method_150_code 4 = .ok (.aload_n 1, 1) := by decide +kernel
theorem d36_5 : decode jdk_42_method_150_code 5 = .ok (.invokevirtual 552, 3) := by decide +kernel
theorem ow190 {a0 : Array Value} {Z : State} (hw : ∀ d ∈ tables_1, d.before a0 Z = true) : (Jvm.Cond.code ({ cls := "java/lang/AbstractStringBuilder", name := "getValue", desc := "()[B" } : Jvm.MethodName) jdk_68_method_64_code (1 : Nat) (Option.some (Jvm.ClassFile.FieldType.array Jvm.ClassFile.FieldType.byte))).before a0 Z = true := hw _ (List.mem_of_getElem? (i := 190) rfl)
theorem opd18 : parseMethodDescriptor "()[B" = some ⟨[], some (.array .byte)⟩ := by decide +kernel
theorem ow186 {a0 : Array Value} {Z : State} (hw : ∀ d ∈ tables_1, d.before a0 Z = true) : (Jvm.Cond.methodLink "java/lang/String" (552 : Nat) ({ cls := "java/lang/AbstractStringBuilder", name := "getValue", desc := "()[B" } : Jvm.MethodName)).before a0 Z = true := hw _ (List.mem_of_getElem? (i := 186) rfl)
theorem ow187 {a0 : Array Value} {Z : State} (hw : ∀ d ∈ tables_1, d.before a0 Z = true) : (Jvm.Cond.declares ({ cls := "java/lang/AbstractStringBuilder", name := "getValue", desc := "()[B" } : Jvm.MethodName)).before a0 Z = true := hw _ (List.mem_of_getElem? (i := 187) rfl)
theorem ow189 {a0 : Array Value} {Z : State} (hw : ∀ d ∈ tables_1, d.before a0 Z = true) : (Jvm.Cond.selects "java/lang/StringBuilder" ({ cls := "java/lang/AbstractStringBuilder", name := "getValue", desc := "()[B" } : Jvm.MethodName) ({ cls := "java/lang/AbstractStringBuilder", name := "getValue", desc := "()[B" } : Jvm.MethodName)).before a0 Z = true := hw _ (List.mem_of_getElem? (i := 189) rfl)
theorem ow188 {a0 : Array Value} {Z : State} (hw : ∀ d ∈ tables_1, d.before a0 Z = true) : (Jvm.Cond.instanceMethod ({ cls := "java/lang/AbstractStringBuilder", name := "getValue", desc := "()[B" } : Jvm.MethodName)).before a0 Z = true := hw _ (List.mem_of_getElem? (i := 188) rfl)
theorem d36_8 : decode jdk_42_method_150_code 8 = .ok (.astore_n 3, 1) := by decide +kernel
theorem d36_9 : decode jdk_42_method_150_code 9 = .ok (.aload_n 1, 1) := by decide +kernel
theorem d36_10 : decode jdk_42_method_150_code 10 = .ok (.invokevirtual 549, 3) := by decide +kernel
theorem ow60 {a0 : Array Value} {Z : State} (hw : ∀ d ∈ tables_1, d.before a0 Z = true) : (Jvm.Cond.initialized "java/lang/StringBuilder").before a0 Z = true := hw _ (List.mem_of_getElem? (i := 60) rfl)
theorem ow196 {a0 : Array Value} {Z : State} (hw : ∀ d ∈ tables_1, d.before a0 Z = true) : (Jvm.Cond.code ({ cls := "java/lang/StringBuilder", name := "length", desc := "()I" } : Jvm.MethodName) jdk_67_method_93_code (1 : Nat) (Option.some Jvm.ClassFile.FieldType.int)).before a0 Z = true := hw _ (List.mem_of_getElem? (i := 196) rfl)
theorem ow191 {a0 : Array Value} {Z : State} (hw : ∀ d ∈ tables_1, d.before a0 Z = true) : (Jvm.Cond.methodLink "java/lang/String" (549 : Nat) ({ cls := "java/lang/AbstractStringBuilder", name := "length", desc := "()I" } : Jvm.MethodName)).before a0 Z = true := hw _ (List.mem_of_getElem? (i := 191) rfl)
theorem ow192 {a0 : Array Value} {Z : State} (hw : ∀ d ∈ tables_1, d.before a0 Z = true) : (Jvm.Cond.declares ({ cls := "java/lang/AbstractStringBuilder", name := "length", desc := "()I" } : Jvm.MethodName)).before a0 Z = true := hw _ (List.mem_of_getElem? (i := 192) rfl)
theorem ow194 {a0 : Array Value} {Z : State} (hw : ∀ d ∈ tables_1, d.before a0 Z = true) : (Jvm.Cond.selects "java/lang/StringBuilder" ({ cls := "java/lang/AbstractStringBuilder", name := "length", desc := "()I" } : Jvm.MethodName) ({ cls := "java/lang/StringBuilder", name := "length", desc := "()I" } : Jvm.MethodName)).before a0 Z = true := hw _ (List.mem_of_getElem? (i := 194) rfl)
theorem ow195 {a0 : Array Value} {Z : State} (hw : ∀ d ∈ tables_1, d.before a0 Z = true) : (Jvm.Cond.instanceMethod ({ cls := "java/lang/StringBuilder", name := "length", desc := "()I" } : Jvm.MethodName)).before a0 Z = true := hw _ (List.mem_of_getElem? (i := 195) rfl)
theorem d36_13 : decode jdk_42_method_150_code 13 = .ok (.istore 4, 2) := by decide +kernel
theorem d36_15 : decode jdk_42_method_150_code 15 = .ok (.aload_n 1, 1) := by decide +kernel
theorem d36_16 : decode jdk_42_method_150_code 16 = .ok (.invokevirtual 1047, 3) := by decide +kernel
theorem ow203 {a0 : Array Value} {Z : State} (hw : ∀ d ∈ tables_1, d.before a0 Z = true) : (Jvm.Cond.code ({ cls := "java/lang/AbstractStringBuilder", name := "isLatin1", desc := "()Z" } : Jvm.MethodName) jdk_68_method_68_code (1 : Nat) (Option.some Jvm.ClassFile.FieldType.boolean)).before a0 Z = true := hw _ (List.mem_of_getElem? (i := 203) rfl)
theorem opd19 : parseMethodDescriptor "()Z" = some ⟨[], some (.boolean)⟩ := by decide +kernel
theorem ow199 {a0 : Array Value} {Z : State} (hw : ∀ d ∈ tables_1, d.before a0 Z = true) : (Jvm.Cond.methodLink "java/lang/String" (1047 : Nat) ({ cls := "java/lang/AbstractStringBuilder", name := "isLatin1", desc := "()Z" } : Jvm.MethodName)).before a0 Z = true := hw _ (List.mem_of_getElem? (i := 199) rfl)
theorem ow200 {a0 : Array Value} {Z : State} (hw : ∀ d ∈ tables_1, d.before a0 Z = true) : (Jvm.Cond.declares ({ cls := "java/lang/AbstractStringBuilder", name := "isLatin1", desc := "()Z" } : Jvm.MethodName)).before a0 Z = true := hw _ (List.mem_of_getElem? (i := 200) rfl)
theorem ow202 {a0 : Array Value} {Z : State} (hw : ∀ d ∈ tables_1, d.before a0 Z = true) : (Jvm.Cond.selects "java/lang/StringBuilder" ({ cls := "java/lang/AbstractStringBuilder", name := "isLatin1", desc := "()Z" } : Jvm.MethodName) ({ cls := "java/lang/AbstractStringBuilder", name := "isLatin1", desc := "()Z" } : Jvm.MethodName)).before a0 Z = true := hw _ (List.mem_of_getElem? (i := 202) rfl)
theorem ow201 {a0 : Array Value} {Z : State} (hw : ∀ d ∈ tables_1, d.before a0 Z = true) : (Jvm.Cond.instanceMethod ({ cls := "java/lang/AbstractStringBuilder", name := "isLatin1", desc := "()Z" } : Jvm.MethodName)).before a0 Z = true := hw _ (List.mem_of_getElem? (i := 201) rfl)
theorem d36_19 : decode jdk_42_method_150_code 19 = .ok (.ifCond .eq 22, 3) := by decide +kernel
theorem d36_22 : decode jdk_42_method_150_code 22 = .ok (.aload_n 0, 1) := by decide +kernel
theorem d36_23 : decode jdk_42_method_150_code 23 = .ok (.iconst 0, 1) := by decide +kernel
theorem d36_24 : decode jdk_42_method_150_code 24 = .ok (.putfield 15, 3) := by decide +kernel
theorem d36_27 : decode jdk_42_method_150_code 27 = .ok (.aload_n 0, 1) := by decide +kernel
theorem d36_28 : decode jdk_42_method_150_code 28 = .ok (.aload_n 3, 1) := by decide +kernel
theorem d36_29 : decode jdk_42_method_150_code 29 = .ok (.iconst 0, 1) := by decide +kernel
theorem d36_30 : decode jdk_42_method_150_code 30 = .ok (.iload 4, 2) := by decide +kernel
theorem d36_32 : decode jdk_42_method_150_code 32 = .ok (.invokestatic 54, 3) := by decide +kernel
theorem ow204 {a0 : Array Value} {Z : State} (hw : ∀ d ∈ tables_1, d.before a0 Z = true) : (Jvm.Cond.methodLink "java/lang/String" (54 : Nat) ({ cls := "java/util/Arrays", name := "copyOfRange", desc := "([BII)[B" } : Jvm.MethodName)).before a0 Z = true := hw _ (List.mem_of_getElem? (i := 204) rfl)
theorem ow103 {a0 : Array Value} {Z : State} (hw : ∀ d ∈ tables_1, d.before a0 Z = true) : (Jvm.Cond.code ({ cls := "java/util/Arrays", name := "copyOfRange", desc := "([BII)[B" } : Jvm.MethodName) jdk_65_method_132_code (3 : Nat) (Option.some (Jvm.ClassFile.FieldType.array Jvm.ClassFile.FieldType.byte))).before a0 Z = true := hw _ (List.mem_of_getElem? (i := 103) rfl)
theorem ow101 {a0 : Array Value} {Z : State} (hw : ∀ d ∈ tables_1, d.before a0 Z = true) : (Jvm.Cond.static ({ cls := "java/util/Arrays", name := "copyOfRange", desc := "([BII)[B" } : Jvm.MethodName)).before a0 Z = true := hw _ (List.mem_of_getElem? (i := 101) rfl)
theorem d36_35 : decode jdk_42_method_150_code 35 = .ok (.putfield 9, 3) := by decide +kernel
theorem d36_38 : decode jdk_42_method_150_code 38 = .ok (.goto 59, 3) := by decide +kernel
theorem d36_97 : decode jdk_42_method_150_code 97 = .ok (.return_, 1) := by decide +kernel
theorem oef_ors_s2 (m_ : MethodId) (a : Addr) (b : Addr)  : (entryFrame m_ #[(.ref a), (.ref b), .null] 5).locals = #[.val (.ref a), .val (.ref b), .val .null, .unset, .unset] := by first | (simp [entryFrame, argsToLocals, Value.category]; done) | rfl
set_option maxRecDepth 65536 in
set_option maxHeartbeats 40000000 in
theorem ors_s2 (l : Launch) (Z : State) (a0 : Array Value) (hw : ∀ d ∈ tables_1, d.before a0 Z = true) (hE : EW Z a0 consts_1) (a : Addr) (b : Addr) (t : Addr) (kb : ClassId) (M : Nat) (vs : List Value) (n : Nat) (z : Int32) (h : Heap) (hO : Old Z Z.heap.size h) (SC : (Sta Z Z.heap "java/lang/String" "COMPACT_STRINGS" "Z" (.int z))) (hz : (¬ z = 0)) (q2 : Exa Z h a "java/lang/String") (q3 : Fld Z h a "java/lang/String" "value" "[B" .null) (q4 : Fld Z h a "java/lang/String" "coder" "B" (.int (0 : Int32))) (q5 : Exa Z h b "java/lang/StringBuilder") (q6 : Fld Z h b "java/lang/AbstractStringBuilder" "value" "[B" (.ref t)) (q7 : Fld Z h b "java/lang/AbstractStringBuilder" "coder" "B" (.int (0 : Int32))) (q8 : Fld Z h b "java/lang/AbstractStringBuilder" "count" "I" (.int (Int32.ofNat n))) (q9 : Arv Z h t kb .byte (Int32.ofNat M) vs (.int 0)) (hvs : (vs.length = M)) (hnM : (n < M)) (hM : (M ≤ 200)) (hnC : (n ≤ 100)) (ge_a : Z.heap.size ≤ a) :
    Ct l Z consts_1 (⟨"java/lang/String", "<init>", "(Ljava/lang/AbstractStringBuilder;Ljava/lang/Void;)V"⟩ : MethodName) jdk_42_method_150_code 5 (Option.none : Option Jvm.ClassFile.FieldType) ⟨3, 1, 100, 100⟩ #[(.ref a), (.ref b), .null] h [a] (fun rv' hp' so' => ∃ r : Addr, ∃ kr : ClassId, rv' = none ∧ so' = [] ∧ Exa Z hp' a "java/lang/String" ∧ Fld Z hp' a "java/lang/String" "coder" "B" (.int (0 : Int32)) ∧ Fld Z hp' a "java/lang/String" "value" "[B" (.ref r) ∧ Arv Z hp' r kr .byte (Int32.ofNat n) (vs.take n) (.int 0)) := by
  refine Ct.mk "java/lang/String" "<init>" rfl rfl (a0 := a0) (plainFor_of_name opn0) hO hE (fun x q => by simp at q; subst q; exact ge_a) ?_
  intro K T W
  rw [oef_ors_s2]
  refine gAloadN W d36_0 rfl rfl rfl ?_
  refine wInitO W d36_1 (ow15 hw) (ow16 hw) (ow17 hw) rfl (by decide) 0 (Nat.le_of_eq rfl) (by decide) rfl fun T530 W531 => ?_
  refine gAloadN W531 d36_4 rfl rfl rfl ?_
  refine wVirtual (y := (⟨"java/lang/AbstractStringBuilder", "getValue", "()[B"⟩ : MethodName)) (z := (⟨"java/lang/AbstractStringBuilder", "getValue", "()[B"⟩ : MethodName)) (Wd := 0) (a := b) (argsL := []) (rest := []) W531 d36_5 (ow186 hw) (ow187 hw) (ow189 hw) (ow188 hw) (nfS (ow189 hw)) (by decide) (Cb.ct (ors_gv l Z a0 hw hE (b) (t) h W531.old q6 ) (ow190 hw) (ow68 hw) hE (by decide) (by decide)) q5 (by simp) rfl (lenOf opd18 rfl) rfl (Nat.le_of_eq rfl) (by decide) (by decide) rfl fun v536 so537 T532 h534 W533 kp535 sp538 q539 => ?_
  obtain ⟨rfl, rfl⟩ := q539
  show Go K _ T532 8 #[.val (.ref a), .val (.ref b), .val .null, .unset, .unset] [(.ref t)]
  refine gAstoreN (ls' := #[.val (.ref a), .val (.ref b), .val .null, .val (.ref t), .unset]) W533 d36_8 rfl rfl rfl ?_
  refine gAloadN W533 d36_9 rfl rfl rfl ?_
  have f540 := q5.keep kp535
  have f541 := q8.keep kp535 nin0
  refine wVirtual (y := (⟨"java/lang/AbstractStringBuilder", "length", "()I"⟩ : MethodName)) (z := (⟨"java/lang/StringBuilder", "length", "()I"⟩ : MethodName)) (Wd := 0) (a := b) (argsL := []) (rest := []) W533 d36_10 (ow191 hw) (ow192 hw) (ow194 hw) (ow195 hw) (nfC (ow137 hw) rfl) (by decide) (Cb.ct (ors_l1 l Z a0 hw hE (b) ((Int32.ofNat n)) h534 W533.old f540 f541 ) (ow196 hw) (ow60 hw) hE (by decide) (by decide)) f540 (by simp) rfl (lenOf opd12 rfl) rfl (Nat.le_of_eq rfl) (by decide) (by decide) rfl fun v546 so547 T542 h544 W543 kp545 sp548 q549 => ?_
  obtain ⟨rfl, rfl⟩ := q549
  show Go K _ T542 13 #[.val (.ref a), .val (.ref b), .val .null, .val (.ref t), .unset] [(.int (Int32.ofNat n))]
  refine gIstore (ls' := #[.val (.ref a), .val (.ref b), .val .null, .val (.ref t), .val (.int (Int32.ofNat n))]) W543 d36_13 rfl rfl ?_
  refine gAloadN W543 d36_15 rfl rfl rfl ?_
  have f550 := q7.keep kp535 nin0
  have f551 := f550.keep kp545 nin0
  have f560 := f540.keep kp545
  refine wVirtual (y := (⟨"java/lang/AbstractStringBuilder", "isLatin1", "()Z"⟩ : MethodName)) (z := (⟨"java/lang/AbstractStringBuilder", "isLatin1", "()Z"⟩ : MethodName)) (Wd := 0) (a := b) (argsL := []) (rest := []) W543 d36_16 (ow199 hw) (ow200 hw) (ow202 hw) (ow201 hw) (nfS (ow202 hw)) (by decide) (Cb.ct (ors_il l Z a0 hw hE (b) (z) h544 W543.old SC hz f551 ) (ow203 hw) (ow68 hw) hE (by decide) (by decide)) f560 (by simp) rfl (lenOf opd19 rfl) rfl (Nat.le_of_eq rfl) (by decide) (by decide) rfl fun v556 so557 T552 h554 W553 kp555 sp558 q559 => ?_
  obtain ⟨rfl, rfl⟩ := q559
  show Go K _ T552 19 #[.val (.ref a), .val (.ref b), .val .null, .val (.ref t), .val (.int (Int32.ofNat n))] [(.int (1 : Int32))]
  refine gIfNo W553 d36_19 ((if0 _ _).trans (feq (by decide)).1) rfl ?_
  refine gAloadN W553 d36_22 rfl rfl rfl ?_
  refine gIconst (z := (0 : Int32)) W553 d36_23 rfl rfl ?_
  have f561 := q4.keep kp535 nin0
  have f562 := f561.keep kp545 nin0
  have f563 := f562.keep kp555 nin0
  have f564 := q2.keep kp535
  have f565 := f564.keep kp545
  have f566 := f565.keep kp555
  refine wPutF (ty := .byte) W553 d36_24 (ow25 hw) Via.refl (by simp) f563 f566 (Or.inr ⟨(ow21 hw), rfl, rfl⟩) (ow6 hw) (by decide) rfl (by decide) rfl fun T567 h569 W568 wr570 => ?_
  have f571 := Fld.same wr570 f563
  refine gAloadN W568 d36_27 rfl rfl rfl ?_
  refine gAloadN W568 d36_28 rfl rfl rfl ?_
  refine gIconst (z := (0 : Int32)) W568 d36_29 rfl rfl ?_
  refine gIload W568 d36_30 rfl rfl ?_
  have f572 := q9.keep kp535 nin0
  have f573 := f572.keep kp545 nin0
  have f574 := f573.keep kp555 nin0
  have f575 := f574.other wr570 (Ne.symm (Exa.neArv q2 q9 (hws' hw)))
  refine wStatic (y := (⟨"java/util/Arrays", "copyOfRange", "([BII)[B"⟩ : MethodName)) (Wd := 1) (argsL := [(.ref t), (.int (0 : Int32)), (.int (Int32.ofNat n))]) (rest := [(.ref a)]) W568 d36_32 (ow204 hw) (ow101 hw) (ow102 hw) (ow103 hw) (by decide) (Cb.ct (ors_cr l Z a0 hw hE (t) (kb) (M) (vs) (n) h569 W568.old f575 hvs hnM hM hnC ) (ow103 hw) (ow102 hw) hE (by decide) (by decide)) (by simp) rfl (lenOf opd17 rfl) rfl (Nat.le_of_eq rfl) (by decide) (by decide) rfl fun v580 so581 T576 h578 W577 kp579 sp582 q583 => ?_
  obtain ⟨r584, kr585, rfl, rfl, f586, f587⟩ := q583
  show Go K _ T576 35 #[.val (.ref a), .val (.ref b), .val .null, .val (.ref t), .val (.int (Int32.ofNat n))] [(.ref r584), (.ref a)]
  have f588 := q3.keep kp535 nin0
  have f589 := f588.keep kp545 nin0
  have f590 := f589.keep kp555 nin0
  have f591 := f590.other wr570 (Or.inr (slot_ne (t := .array .byte) (t' := .byte) (Or.inr (ow20 hw)) (Or.inr (ow21 hw)) (by decide) (by decide) (by decide)))
  have f592 := f591.keep kp579 nin0
  have f593 := f566.wr wr570
  have f594 := f593.keep kp579
  refine wPutF (ty := .array .byte) W577 d36_35 (ow24 hw) Via.refl (by simp) f592 f594 (Or.inr ⟨(ow20 hw), rfl, rfl⟩) (ow6 hw) (by decide) rfl rfl rfl fun T595 h597 W596 wr598 => ?_
  have f599 := Fld.same wr598 f592
  refine gGoto (pc' := 97) W596 d36_38 (by decide) rfl ?_
  have f600 := f594.wr wr598
  have f601 := f571.keep kp579 nin0
  have f602 := f601.other wr598 (Or.inr (slot_ne (t := .byte) (t' := .array .byte) (Or.inr (ow21 hw)) (Or.inr (ow20 hw)) (by decide) (by decide) (by decide)))
  have ne603 : a ≠ r584 := Nat.ne_of_lt (Nat.lt_of_lt_of_le f593.lt f586)
  have f604 := f587.other wr598 (Ne.symm ne603)
  exact wRet0 (so := []) W596 d36_97 (by decide) (by decide) (fun _ q => nomatch q) ⟨r584, kr585, rfl, rfl, f600, f602, f599, f604⟩
theorem d35_0 : decode jdk_42_method_53_code 0 = .ok (.aload_n 0, 1) := by decide +kernel
theorem d35_1 : decode jdk_42_method_53_code 1 = .ok (.aload_n 1, 1) := by decide +kernel
theorem d35_2 : decode jdk_42_method_53_code 2 = .ok (.aconst_null, 1) := by decide +kernel
theorem d35_3 : decode jdk_42_method_53_code 3 = .ok (.invokespecial 489, 3) := by decide +kernel
theorem ow183 {a0 : Array Value} {Z : State} (hw : ∀ d ∈ tables_1, d.before a0 Z = true) : (Jvm.Cond.methodLink "java/lang/String" (489 : Nat) ({ cls := "java/lang/String", name := "<init>", desc := "(Ljava/lang/AbstractStringBuilder;Ljava/lang/Void;)V" } : Jvm.MethodName)).before a0 Z = true := hw _ (List.mem_of_getElem? (i := 183) rfl)
theorem ow185 {a0 : Array Value} {Z : State} (hw : ∀ d ∈ tables_1, d.before a0 Z = true) : (Jvm.Cond.code ({ cls := "java/lang/String", name := "<init>", desc := "(Ljava/lang/AbstractStringBuilder;Ljava/lang/Void;)V" } : Jvm.MethodName) jdk_42_method_150_code (5 : Nat) (Option.none : Option Jvm.ClassFile.FieldType)).before a0 Z = true := hw _ (List.mem_of_getElem? (i := 185) rfl)
theorem opd20 : parseMethodDescriptor "(Ljava/lang/AbstractStringBuilder;Ljava/lang/Void;)V" = some ⟨[.object "java/lang/AbstractStringBuilder", .object "java/lang/Void"], none⟩ := by decide +kernel
theorem ow184 {a0 : Array Value} {Z : State} (hw : ∀ d ∈ tables_1, d.before a0 Z = true) : (Jvm.Cond.instanceMethod ({ cls := "java/lang/String", name := "<init>", desc := "(Ljava/lang/AbstractStringBuilder;Ljava/lang/Void;)V" } : Jvm.MethodName)).before a0 Z = true := hw _ (List.mem_of_getElem? (i := 184) rfl)
theorem d35_6 : decode jdk_42_method_53_code 6 = .ok (.return_, 1) := by decide +kernel
theorem oef_ors_s1 (m_ : MethodId) (a : Addr) (b : Addr)  : (entryFrame m_ #[(.ref a), (.ref b)] 2).locals = #[.val (.ref a), .val (.ref b)] := by first | (simp [entryFrame, argsToLocals, Value.category]; done) | rfl
set_option maxRecDepth 65536 in
set_option maxHeartbeats 40000000 in
theorem ors_s1 (l : Launch) (Z : State) (a0 : Array Value) (hw : ∀ d ∈ tables_1, d.before a0 Z = true) (hE : EW Z a0 consts_1) (a : Addr) (b : Addr) (t : Addr) (kb : ClassId) (M : Nat) (vs : List Value) (n : Nat) (z : Int32) (h : Heap) (hO : Old Z Z.heap.size h) (SC : (Sta Z Z.heap "java/lang/String" "COMPACT_STRINGS" "Z" (.int z))) (hz : (¬ z = 0)) (q2 : Exa Z h a "java/lang/String") (q3 : Fld Z h a "java/lang/String" "value" "[B" .null) (q4 : Fld Z h a "java/lang/String" "coder" "B" (.int (0 : Int32))) (q5 : Exa Z h b "java/lang/StringBuilder") (q6 : Fld Z h b "java/lang/AbstractStringBuilder" "value" "[B" (.ref t)) (q7 : Fld Z h b "java/lang/AbstractStringBuilder" "coder" "B" (.int (0 : Int32))) (q8 : Fld Z h b "java/lang/AbstractStringBuilder" "count" "I" (.int (Int32.ofNat n))) (q9 : Arv Z h t kb .byte (Int32.ofNat M) vs (.int 0)) (hvs : (vs.length = M)) (hnM : (n < M)) (hM : (M ≤ 200)) (hnC : (n ≤ 100)) (ge_a : Z.heap.size ≤ a) :
    Ct l Z consts_1 (⟨"java/lang/String", "<init>", "(Ljava/lang/StringBuilder;)V"⟩ : MethodName) jdk_42_method_53_code 2 (Option.none : Option Jvm.ClassFile.FieldType) ⟨4, 1, 100, 120⟩ #[(.ref a), (.ref b)] h [a] (fun rv' hp' so' => ∃ r : Addr, ∃ kr : ClassId, rv' = none ∧ so' = [] ∧ Exa Z hp' a "java/lang/String" ∧ Fld Z hp' a "java/lang/String" "coder" "B" (.int (0 : Int32)) ∧ Fld Z hp' a "java/lang/String" "value" "[B" (.ref r) ∧ Arv Z hp' r kr .byte (Int32.ofNat n) (vs.take n) (.int 0)) := by
  refine Ct.mk "java/lang/String" "<init>" rfl rfl (a0 := a0) (plainFor_of_name opn0) hO hE (fun x q => by simp at q; subst q; exact ge_a) ?_
  intro K T W
  rw [oef_ors_s1]
  refine gAloadN W d35_0 rfl rfl rfl ?_
  refine gAloadN W d35_1 rfl rfl rfl ?_
  refine gAconstNull W d35_2 rfl ?_
  refine wSpecial (y := (⟨"java/lang/String", "<init>", "(Ljava/lang/AbstractStringBuilder;Ljava/lang/Void;)V"⟩ : MethodName)) (Wd := 0) (a := a) (argsL := [(.ref b), .null]) (rest := []) W d35_3 rfl (ow183 hw) (ow184 hw) (ow185 hw) (by decide) (Cb.ct (ors_s2 l Z a0 hw hE (a) (b) (t) (kb) (M) (vs) (n) (z) h W.old SC hz q2 q3 q4 q5 q6 q7 q8 q9 hvs hnM hM hnC ge_a) (ow185 hw) (ow7 hw) hE (by decide) (by decide)) (by simp) rfl (lenOf opd20 rfl) rfl (Nat.le_of_eq rfl) (by decide) (by decide) rfl fun v609 so610 T605 h607 W606 kp608 sp611 q612 => ?_
  obtain ⟨r613, kr614, rfl, rfl, f615, f616, f617, f618⟩ := q612
  show Go K _ T605 6 #[.val (.ref a), .val (.ref b)] []
  exact wRet0 (so := []) W606 d35_6 (by decide) (by decide) (fun _ q => nomatch q) ⟨r613, kr614, rfl, rfl, f615, f616, f617, f618⟩
theorem d34_0 : decode jdk_67_method_42_code 0 = .ok (.new 18, 3) := by decide +kernel
theorem ow179 {a0 : Array Value} {Z : State} (hw : ∀ d ∈ tables_1, d.before a0 Z = true) : (Jvm.Cond.classLink "java/lang/StringBuilder" (18 : Nat) "java/lang/String").before a0 Z = true := hw _ (List.mem_of_getElem? (i := 179) rfl)
theorem d34_3 : decode jdk_67_method_42_code 3 = .ok (.dup, 1) := by decide +kernel
theorem d34_4 : decode jdk_67_method_42_code 4 = .ok (.aload_n 0, 1) := by decide +kernel
theorem d34_5 : decode jdk_67_method_42_code 5 = .ok (.invokespecial 137, 3) := by decide +kernel
theorem ow180 {a0 : Array Value} {Z : State} (hw : ∀ d ∈ tables_1, d.before a0 Z = true) : (Jvm.Cond.methodLink "java/lang/StringBuilder" (137 : Nat) ({ cls := "java/lang/String", name := "<init>", desc := "(Ljava/lang/StringBuilder;)V" } : Jvm.MethodName)).before a0 Z = true := hw _ (List.mem_of_getElem? (i := 180) rfl)
theorem ow182 {a0 : Array Value} {Z : State} (hw : ∀ d ∈ tables_1, d.before a0 Z = true) : (Jvm.Cond.code ({ cls := "java/lang/String", name := "<init>", desc := "(Ljava/lang/StringBuilder;)V" } : Jvm.MethodName) jdk_42_method_53_code (2 : Nat) (Option.none : Option Jvm.ClassFile.FieldType)).before a0 Z = true := hw _ (List.mem_of_getElem? (i := 182) rfl)
theorem opd21 : parseMethodDescriptor "(Ljava/lang/StringBuilder;)V" = some ⟨[.object "java/lang/StringBuilder"], none⟩ := by decide +kernel
theorem ow181 {a0 : Array Value} {Z : State} (hw : ∀ d ∈ tables_1, d.before a0 Z = true) : (Jvm.Cond.instanceMethod ({ cls := "java/lang/String", name := "<init>", desc := "(Ljava/lang/StringBuilder;)V" } : Jvm.MethodName)).before a0 Z = true := hw _ (List.mem_of_getElem? (i := 181) rfl)
theorem d34_8 : decode jdk_67_method_42_code 8 = .ok (.areturn, 1) := by decide +kernel
theorem oef_ors_ts (m_ : MethodId) (b : Addr)  : (entryFrame m_ #[(.ref b)] 1).locals = #[.val (.ref b)] := by first | (simp [entryFrame, argsToLocals, Value.category]; done) | rfl
set_option maxRecDepth 65536 in
set_option maxHeartbeats 40000000 in
theorem ors_ts (l : Launch) (Z : State) (a0 : Array Value) (hw : ∀ d ∈ tables_1, d.before a0 Z = true) (hE : EW Z a0 consts_1) (b : Addr) (t : Addr) (kb : ClassId) (M : Nat) (vs : List Value) (n : Nat) (z : Int32) (h : Heap) (hO : Old Z Z.heap.size h) (SC : (Sta Z Z.heap "java/lang/String" "COMPACT_STRINGS" "Z" (.int z))) (hz : (¬ z = 0)) (q2 : Exa Z h b "java/lang/StringBuilder") (q3 : Fld Z h b "java/lang/AbstractStringBuilder" "value" "[B" (.ref t)) (q4 : Fld Z h b "java/lang/AbstractStringBuilder" "coder" "B" (.int (0 : Int32))) (q5 : Fld Z h b "java/lang/AbstractStringBuilder" "count" "I" (.int (Int32.ofNat n))) (q6 : Arv Z h t kb .byte (Int32.ofNat M) vs (.int 0)) (hvs : (vs.length = M)) (hnM : (n < M)) (hM : (M ≤ 200)) (hnC : (n ≤ 100))  :
    Ct l Z consts_1 (⟨"java/lang/StringBuilder", "toString", "()Ljava/lang/String;"⟩ : MethodName) jdk_67_method_42_code 1 (Option.some (Jvm.ClassFile.FieldType.object "java/lang/String")) ⟨5, 2, 104, 136⟩ #[(.ref b)] h [] (fun rv' hp' so' => ∃ s : Addr, ∃ r : Addr, ∃ kr : ClassId, rv' = some (.ref s) ∧ so' = [] ∧ Exa Z hp' s "java/lang/String" ∧ Fld Z hp' s "java/lang/String" "coder" "B" (.int (0 : Int32)) ∧ Fld Z hp' s "java/lang/String" "value" "[B" (.ref r) ∧ Arv Z hp' r kr .byte (Int32.ofNat n) (vs.take n) (.int 0)) := by
  refine Ct.mk "java/lang/StringBuilder" "toString" rfl rfl (a0 := a0) (plainFor_of_name opn3) hO hE (fun x q => nomatch q) ?_
  intro K T W
  rw [oef_ors_ts]
  refine wNewO W d34_0 (ow179 hw) (ow6 hw) (ow7 hw) (by decide) (by decide) rfl fun T619 h621 a622 W620 E623 g624 A625 D626  => ?_
  have f627 : Fld Z h621 a622 "java/lang/String" "value" "[B" .null := D626 (Or.inr (ow20 hw)) (ty := .array .byte) (by decide)
  have f628 : Fld Z h621 a622 "java/lang/String" "coder" "B" (.int (0 : Int32)) := D626 (Or.inr (ow21 hw)) (ty := .byte) (by decide)
  refine gDup W620 d34_3 rfl rfl ?_
  refine gAloadN W620 d34_4 rfl rfl rfl ?_
  have f629 := q2.ext E623
  have f630 := q3.ext E623
  have f631 := q4.ext E623
  have f632 := q5.ext E623
  have f633 := q6.ext E623
  refine wSpecial (y := (⟨"java/lang/String", "<init>", "(Ljava/lang/StringBuilder;)V"⟩ : MethodName)) (Wd := 1) (a := a622) (argsL := [(.ref b)]) (rest := [(.ref a622)]) W620 d34_5 rfl (ow180 hw) (ow181 hw) (ow182 hw) (by decide) (Cb.ct (ors_s1 l Z a0 hw hE (a622) (b) (t) (kb) (M) (vs) (n) (z) h621 W620.old SC hz A625 f627 f628 f629 f630 f631 f632 f633 hvs hnM hM hnC (Nat.le_trans W.old.2.1 (Nat.le_of_eq g624.symm))) (ow182 hw) (ow7 hw) hE (by decide) (by decide)) (by simp) rfl (lenOf opd21 rfl) rfl (Nat.le_of_eq rfl) (by decide) (by decide) rfl fun v638 so639 T634 h636 W635 kp637 sp640 q641 => ?_
  obtain ⟨r642, kr643, rfl, rfl, f644, f645, f646, f647⟩ := q641
  show Go K _ T634 8 #[.val (.ref b)] [(.ref a622)]
  exact wRetA (so := []) (t := .object "java/lang/String") W635 d34_8 rfl rfl rfl (by decide) (by decide) (fun _ q => nomatch q) ⟨a622, r642, kr643, rfl, rfl, f644, f645, f646, f647⟩
theorem oef_orw_co (m_ : MethodId) (s : Addr)  : (entryFrame m_ #[(.ref s)] 1).locals = #[.val (.ref s)] := by first | (simp [entryFrame, argsToLocals, Value.category]; done) | rfl
set_option maxRecDepth 65536 in
set_option maxHeartbeats 40000000 in
theorem orw_co (l : Launch) (Z : State) (a0 : Array Value) (hw : ∀ d ∈ tables_1, d.before a0 Z = true) (hE : EW Z a0 consts_1) (s : Addr) (z : Int32) (h : Heap) (hO : Old Z Z.heap.size h) (SC : (Sta Z Z.heap "java/lang/String" "COMPACT_STRINGS" "Z" (.int z))) (hz : (¬ z = 0)) (q2 : Fld Z h s "java/lang/String" "coder" "B" (.int (1 : Int32)))  :
    Ct l Z consts_1 (⟨"java/lang/String", "coder", "()B"⟩ : MethodName) jdk_42_method_152_code 1 (Option.some Jvm.ClassFile.FieldType.byte) ⟨0, 0, 0, 0⟩ #[(.ref s)] h [] (fun rv' hp' so' => rv' = some (.int (1 : Int32)) ∧ so' = []) := by
  refine Ct.mk "java/lang/String" "coder" rfl rfl (a0 := a0) (plainFor_of_name opn0) hO hE (fun x q => nomatch q) ?_
  intro K T W
  rw [oef_orw_co]
  refine wGetS W d7_0 (ow40 hw) Via.refl SC rfl fun T648 W649 => ?_
  refine gIfNo W649 d7_3 ((if0 _ _).trans (feq hz).1) rfl ?_
  refine gAloadN W649 d7_6 rfl rfl rfl ?_
  refine wGetF W649 d7_7 (ow25 hw) Via.refl q2 rfl fun T650 W651 => ?_
  refine gGoto (pc' := 14) W651 d7_10 (by decide) rfl ?_
  exact wRetI (so := []) (t := .byte) W651 d7_14 (by simp) rfl (by decide) (by decide) (fun _ q => nomatch q) ⟨rfl, rfl⟩
theorem oef_orw_ln (m_ : MethodId) (s : Addr)  : (entryFrame m_ #[(.ref s)] 1).locals = #[.val (.ref s)] := by first | (simp [entryFrame, argsToLocals, Value.category]; done) | rfl
set_option maxRecDepth 65536 in
set_option maxHeartbeats 40000000 in
theorem orw_ln (l : Launch) (Z : State) (a0 : Array Value) (hw : ∀ d ∈ tables_1, d.before a0 Z = true) (hE : EW Z a0 consts_1) (s : Addr) (u : Addr) (ku : ClassId) (n : Nat) (us : List Value) (z : Int32) (h : Heap) (hO : Old Z Z.heap.size h) (SC : (Sta Z Z.heap "java/lang/String" "COMPACT_STRINGS" "Z" (.int z))) (hz : (¬ z = 0)) (q2 : Exa Z h s "java/lang/String") (q3 : Fld Z h s "java/lang/String" "value" "[B" (.ref u)) (q4 : Fld Z h s "java/lang/String" "coder" "B" (.int (1 : Int32))) (q5 : Arv Z h u ku .byte (Int32.ofNat (2 * n)) us (.int 0)) (hn4 : (n ≤ 4000))  :
    Ct l Z consts_1 (⟨"java/lang/String", "length", "()I"⟩ : MethodName) jdk_42_method_54_code 1 (Option.some Jvm.ClassFile.FieldType.int) ⟨1, 0, 0, 14⟩ #[(.ref s)] h [] (fun rv' hp' so' => rv' = some (.int (Int32.ofNat n)) ∧ so' = []) := by
  refine Ct.mk "java/lang/String" "length" rfl rfl (a0 := a0) (plainFor_of_name opn0) hO hE (fun x q => nomatch q) ?_
  intro K T W
  rw [oef_orw_ln]
  refine gAloadN W d6_0 rfl rfl rfl ?_
  refine wGetF W d6_1 (ow24 hw) Via.refl q3 rfl fun T652 W653 => ?_
  refine wLen W653 d6_4 q5 rfl ?_
  refine gAloadN W653 d6_5 rfl rfl rfl ?_
  refine wVirtual (y := (⟨"java/lang/String", "coder", "()B"⟩ : MethodName)) (z := (⟨"java/lang/String", "coder", "()B"⟩ : MethodName)) (Wd := 1) (a := s) (argsL := []) (rest := [(.int (Int32.ofNat (2 * n)))]) W653 d6_6 (ow35 hw) (ow36 hw) (ow38 hw) (ow37 hw) (nfS (ow38 hw)) (by decide) (Cb.ct (orw_co l Z a0 hw hE (s) (z) h W653.old SC hz q4 ) (ow39 hw) (ow7 hw) hE (by decide) (by decide)) q2 (by simp) rfl (lenOf opd9 rfl) rfl (Nat.le_of_eq rfl) (by decide) (by decide) rfl fun v658 so659 T654 h656 W655 kp657 sp660 q661 => ?_
  obtain ⟨rfl, rfl⟩ := q661
  show Go K _ T654 9 #[.val (.ref s)] [(.int (1 : Int32)), (.int (Int32.ofNat (2 * n)))]
  refine gIshr (z := (Int32.ofNat n)) W655 d6_9 (shr1 (by omega)) rfl ?_
  exact wRetI (so := []) (t := .int) W655 d6_10 (by simp) rfl (by decide) (by decide) (fun _ q => nomatch q) ⟨rfl, rfl⟩
theorem d17_0 : decode jdk_42_method_154_code 0 = .ok (.getstatic 38, 3) := by decide +kernel
theorem d17_3 : decode jdk_42_method_154_code 3 = .ok (.ifCond .eq 14, 3) := by decide +kernel
theorem d17_6 : decode jdk_42_method_154_code 6 = .ok (.aload_n 0, 1) := by decide +kernel
theorem d17_7 : decode jdk_42_method_154_code 7 = .ok (.getfield 15, 3) := by decide +kernel
theorem d17_10 : decode jdk_42_method_154_code 10 = .ok (.ifCond .ne 7, 3) := by decide +kernel
theorem d17_13 : decode jdk_42_method_154_code 13 = .ok (.iconst 1, 1) := by decide +kernel
theorem d17_14 : decode jdk_42_method_154_code 14 = .ok (.goto 4, 3) := by decide +kernel
theorem d17_18 : decode jdk_42_method_154_code 18 = .ok (.ireturn, 1) := by decide +kernel
theorem oef_orw_il0 (m_ : MethodId) (s : Addr)  : (entryFrame m_ #[(.ref s)] 1).locals = #[.val (.ref s)] := by first | (simp [entryFrame, argsToLocals, Value.category]; done) | rfl
set_option maxRecDepth 65536 in
set_option maxHeartbeats 40000000 in
theorem orw_il0 (l : Launch) (Z : State) (a0 : Array Value) (hw : ∀ d ∈ tables_1, d.before a0 Z = true) (hE : EW Z a0 consts_1) (s : Addr) (z : Int32) (h : Heap) (hO : Old Z Z.heap.size h) (SC : (Sta Z Z.heap "java/lang/String" "COMPACT_STRINGS" "Z" (.int z))) (hz : (¬ z = 0)) (q2 : Fld Z h s "java/lang/String" "coder" "B" (.int (0 : Int32)))  :
    Ct l Z consts_1 (⟨"java/lang/String", "isLatin1", "()Z"⟩ : MethodName) jdk_42_method_154_code 1 (Option.some Jvm.ClassFile.FieldType.boolean) ⟨0, 0, 0, 0⟩ #[(.ref s)] h [] (fun rv' hp' so' => rv' = some (.int (1 : Int32)) ∧ so' = []) := by
  refine Ct.mk "java/lang/String" "isLatin1" rfl rfl (a0 := a0) (plainFor_of_name opn0) hO hE (fun x q => nomatch q) ?_
  intro K T W
  rw [oef_orw_il0]
  refine wGetS W d17_0 (ow40 hw) Via.refl SC rfl fun T662 W663 => ?_
  refine gIfNo W663 d17_3 ((if0 _ _).trans (feq hz).1) rfl ?_
  refine gAloadN W663 d17_6 rfl rfl rfl ?_
  refine wGetF W663 d17_7 (ow25 hw) Via.refl q2 rfl fun T664 W665 => ?_
  refine gIfNo W665 d17_10 ((if0 _ _).trans (teq rfl).2) rfl ?_
  refine gIconst (z := (1 : Int32)) W665 d17_13 rfl rfl ?_
  refine gGoto (pc' := 18) W665 d17_14 (by decide) rfl ?_
  exact wRetI (so := []) (t := .boolean) W665 d17_18 (by simp) rfl (by decide) (by decide) (fun _ q => nomatch q) ⟨rfl, rfl⟩
theorem d17_17 : decode jdk_42_method_154_code 17 = .ok (.iconst 0, 1) := by decide +kernel
theorem oef_orw_il1 (m_ : MethodId) (s : Addr)  : (entryFrame m_ #[(.ref s)] 1).locals = #[.val (.ref s)] := by first | (simp [entryFrame, argsToLocals, Value.category]; done) | rfl
set_option maxRecDepth 65536 in
set_option maxHeartbeats 40000000 in
theorem orw_il1 (l : Launch) (Z : State) (a0 : Array Value) (hw : ∀ d ∈ tables_1, d.before a0 Z = true) (hE : EW Z a0 consts_1) (s : Addr) (z : Int32) (h : Heap) (hO : Old Z Z.heap.size h) (SC : (Sta Z Z.heap "java/lang/String" "COMPACT_STRINGS" "Z" (.int z))) (hz : (¬ z = 0)) (q2 : Fld Z h s "java/lang/String" "coder" "B" (.int (1 : Int32)))  :
    Ct l Z consts_1 (⟨"java/lang/String", "isLatin1", "()Z"⟩ : MethodName) jdk_42_method_154_code 1 (Option.some Jvm.ClassFile.FieldType.boolean) ⟨0, 0, 0, 0⟩ #[(.ref s)] h [] (fun rv' hp' so' => rv' = some (.int (0 : Int32)) ∧ so' = []) := by
  refine Ct.mk "java/lang/String" "isLatin1" rfl rfl (a0 := a0) (plainFor_of_name opn0) hO hE (fun x q => nomatch q) ?_
  intro K T W
  rw [oef_orw_il1]
  refine wGetS W d17_0 (ow40 hw) Via.refl SC rfl fun T666 W667 => ?_
  refine gIfNo W667 d17_3 ((if0 _ _).trans (feq hz).1) rfl ?_
  refine gAloadN W667 d17_6 rfl rfl rfl ?_
  refine wGetF W667 d17_7 (ow25 hw) Via.refl q2 rfl fun T668 W669 => ?_
  refine gIfYes (pc' := 17) W669 d17_10 ((if0 _ _).trans (feq (by decide)).2) (by decide) rfl ?_
  refine gIconst (z := (0 : Int32)) W669 d17_17 rfl rfl ?_
  exact wRetI (so := []) (t := .boolean) W669 d17_18 (by simp) rfl (by decide) (by decide) (fun _ q => nomatch q) ⟨rfl, rfl⟩
theorem d40_17 : decode jdk_68_method_68_code 17 = .ok (.iconst 0, 1) := by decide +kernel
theorem oef_orw_sil (m_ : MethodId) (a : Addr)  : (entryFrame m_ #[(.ref a)] 1).locals = #[.val (.ref a)] := by first | (simp [entryFrame, argsToLocals, Value.category]; done) | rfl
set_option maxRecDepth 65536 in
set_option maxHeartbeats 40000000 in
theorem orw_sil (l : Launch) (Z : State) (a0 : Array Value) (hw : ∀ d ∈ tables_1, d.before a0 Z = true) (hE : EW Z a0 consts_1) (a : Addr) (z : Int32) (h : Heap) (hO : Old Z Z.heap.size h) (SC : (Sta Z Z.heap "java/lang/String" "COMPACT_STRINGS" "Z" (.int z))) (hz : (¬ z = 0)) (q2 : Fld Z h a "java/lang/AbstractStringBuilder" "coder" "B" (.int (1 : Int32)))  :
    Ct l Z consts_1 (⟨"java/lang/AbstractStringBuilder", "isLatin1", "()Z"⟩ : MethodName) jdk_68_method_68_code 1 (Option.some Jvm.ClassFile.FieldType.boolean) ⟨0, 0, 0, 0⟩ #[(.ref a)] h [] (fun rv' hp' so' => rv' = some (.int (0 : Int32)) ∧ so' = []) := by
  refine Ct.mk "java/lang/AbstractStringBuilder" "isLatin1" rfl rfl (a0 := a0) (plainFor_of_name opn2) hO hE (fun x q => nomatch q) ?_
  intro K T W
  rw [oef_orw_sil]
  refine wGetS W d40_0 (ow71 hw) Via.refl SC rfl fun T670 W671 => ?_
  refine gIfNo W671 d40_3 ((if0 _ _).trans (feq hz).1) rfl ?_
  refine gAloadN W671 d40_6 rfl rfl rfl ?_
  refine wGetF W671 d40_7 (ow74 hw) Via.refl q2 rfl fun T672 W673 => ?_
  refine gIfYes (pc' := 17) W673 d40_10 ((if0 _ _).trans (feq (by decide)).2) (by decide) rfl ?_
  refine gIconst (z := (0 : Int32)) W673 d40_17 rfl rfl ?_
  exact wRetI (so := []) (t := .boolean) W673 d40_18 (by simp) rfl (by decide) (by decide) (fun _ q => nomatch q) ⟨rfl, rfl⟩
-- CUT
theorem opn5 : plainName "jdk/internal/util/Preconditions" = true := by first | (simp [plainName, overriddenIn]; done) | decide +kernel
theorem d44_0 : decode jdk_41_method_11_code 0 = .ok (.iload_n 0, 1) := by decide +kernel
theorem d44_1 : decode jdk_41_method_11_code 1 = .ok (.ifCond .lt 8, 3) := by decide +kernel
theorem d44_4 : decode jdk_41_method_11_code 4 = .ok (.iload_n 0, 1) := by decide +kernel
theorem d44_5 : decode jdk_41_method_11_code 5 = .ok (.iload_n 1, 1) := by decide +kernel
theorem d44_6 : decode jdk_41_method_11_code 6 = .ok (.if_icmp .lt 10, 3) := by decide +kernel
theorem d44_16 : decode jdk_41_method_11_code 16 = .ok (.iload_n 0, 1) := by decide +kernel
theorem d44_17 : decode jdk_41_method_11_code 17 = .ok (.ireturn, 1) := by decide +kernel
theorem oef_orw_pv (m_ : MethodId) (y0_ : Int32) (y1_ : Int32) (fm : Value) (r0 : fm.isRef = true) : (entryFrame m_ #[(.int y0_), (.int y1_), fm] 3).locals = #[.val (.int y0_), .val (.int y1_), .val fm] := by rcases ref_cases r0 with rfl | ⟨_, rfl⟩ <;> rfl
set_option maxRecDepth 65536 in
set_option maxHeartbeats 40000000 in
theorem orw_pv (l : Launch) (Z : State) (a0 : Array Value) (hw : ∀ d ∈ tables_1, d.before a0 Z = true) (hE : EW Z a0 consts_1) (i : Nat) (m : Nat) (fm : Value) (h : Heap) (hO : Old Z Z.heap.size h) (him : (i < m)) (hm : (m < 2 ^ 31)) (rf : (fm.isRef = true))  :
    Ct l Z consts_1 (⟨"jdk/internal/util/Preconditions", "checkIndex", "(IILjava/util/function/BiFunction;)I"⟩ : MethodName) jdk_41_method_11_code 3 (Option.some Jvm.ClassFile.FieldType.int) ⟨0, 0, 0, 0⟩ #[(.int (Int32.ofNat i)), (.int (Int32.ofNat m)), fm] h [] (fun rv' hp' so' => rv' = some (.int (Int32.ofNat i)) ∧ so' = []) := by
  refine Ct.mk "jdk/internal/util/Preconditions" "checkIndex" rfl rfl (a0 := a0) (plainFor_of_name opn5) hO hE (fun x q => nomatch q) ?_
  intro K T W
  rw [oef_orw_pv _ (Int32.ofNat i) (Int32.ofNat m) fm rf]
  refine gIloadN W d44_0 rfl rfl ?_
  refine gIfNo W d44_1 ((if0 _ _).trans (flt (ofNat_nn (by omega))).1) rfl ?_
  refine gIloadN W d44_4 rfl rfl ?_
  refine gIloadN W d44_5 rfl rfl ?_
  refine gIcmpYes (pc' := 16) W d44_6 (tlt ((ofNat_lt (by omega) hm).mpr him)).1 (by decide) rfl ?_
  refine gIloadN W d44_16 rfl rfl ?_
  exact wRetI (so := []) (t := .int) W d44_17 (by simp) rfl (by decide) (by decide) (fun _ q => nomatch q) ⟨rfl, rfl⟩
theorem d43_0 : decode jdk_42_method_155_code 0 = .ok (.iload_n 0, 1) := by decide +kernel
theorem d43_1 : decode jdk_42_method_155_code 1 = .ok (.iload_n 1, 1) := by decide +kernel
theorem d43_2 : decode jdk_42_method_155_code 2 = .ok (.getstatic 1053, 3) := by decide +kernel
theorem ow85 {a0 : Array Value} {Z : State} (hw : ∀ d ∈ tables_1, d.before a0 Z = true) : (Jvm.Cond.fieldLink "java/lang/String" (1053 : Nat) "jdk/internal/util/Preconditions" "SIOOBE_FORMATTER" "Ljava/util/function/BiFunction;").before a0 Z = true := hw _ (List.mem_of_getElem? (i := 85) rfl)
theorem d43_5 : decode jdk_42_method_155_code 5 = .ok (.invokestatic 1059, 3) := by decide +kernel
theorem ow217 {a0 : Array Value} {Z : State} (hw : ∀ d ∈ tables_1, d.before a0 Z = true) : (Jvm.Cond.methodLink "java/lang/String" (1059 : Nat) ({ cls := "jdk/internal/util/Preconditions", name := "checkIndex", desc := "(IILjava/util/function/BiFunction;)I" } : Jvm.MethodName)).before a0 Z = true := hw _ (List.mem_of_getElem? (i := 217) rfl)
theorem ow86 {a0 : Array Value} {Z : State} (hw : ∀ d ∈ tables_1, d.before a0 Z = true) : (Jvm.Cond.initialized "jdk/internal/util/Preconditions").before a0 Z = true := hw _ (List.mem_of_getElem? (i := 86) rfl)
theorem ow219 {a0 : Array Value} {Z : State} (hw : ∀ d ∈ tables_1, d.before a0 Z = true) : (Jvm.Cond.code ({ cls := "jdk/internal/util/Preconditions", name := "checkIndex", desc := "(IILjava/util/function/BiFunction;)I" } : Jvm.MethodName) jdk_41_method_11_code (3 : Nat) (Option.some Jvm.ClassFile.FieldType.int)).before a0 Z = true := hw _ (List.mem_of_getElem? (i := 219) rfl)
theorem opd22 : parseMethodDescriptor "(IILjava/util/function/BiFunction;)I" = some ⟨[.int, .int, .object "java/util/function/BiFunction"], some (.int)⟩ := by decide +kernel
theorem ow218 {a0 : Array Value} {Z : State} (hw : ∀ d ∈ tables_1, d.before a0 Z = true) : (Jvm.Cond.static ({ cls := "jdk/internal/util/Preconditions", name := "checkIndex", desc := "(IILjava/util/function/BiFunction;)I" } : Jvm.MethodName)).before a0 Z = true := hw _ (List.mem_of_getElem? (i := 218) rfl)
theorem d43_8 : decode jdk_42_method_155_code 8 = .ok (.pop, 1) := by decide +kernel
theorem d43_9 : decode jdk_42_method_155_code 9 = .ok (.return_, 1) := by decide +kernel
theorem oef_orw_ck (m_ : MethodId) (y0_ : Int32) (y1_ : Int32)  : (entryFrame m_ #[(.int y0_), (.int y1_)] 2).locals = #[.val (.int y0_), .val (.int y1_)] := by first | (simp [entryFrame, argsToLocals, Value.category]; done) | rfl
set_option maxRecDepth 65536 in
set_option maxHeartbeats 40000000 in
theorem orw_ck (l : Launch) (Z : State) (a0 : Array Value) (hw : ∀ d ∈ tables_1, d.before a0 Z = true) (hE : EW Z a0 consts_1) (i : Nat) (m : Nat) (fm : Value) (h : Heap) (hO : Old Z Z.heap.size h) (him : (i < m)) (hm : (m < 2 ^ 31)) (SF : (Sta Z Z.heap "jdk/internal/util/Preconditions" "SIOOBE_FORMATTER" "Ljava/util/function/BiFunction;" fm)) (rf : (fm.isRef = true))  :
    Ct l Z consts_1 (⟨"java/lang/String", "checkIndex", "(II)V"⟩ : MethodName) jdk_42_method_155_code 2 (Option.none : Option Jvm.ClassFile.FieldType) ⟨1, 0, 0, 16⟩ #[(.int (Int32.ofNat i)), (.int (Int32.ofNat m))] h [] (fun rv' hp' so' => rv' = none ∧ so' = []) := by
  refine Ct.mk "java/lang/String" "checkIndex" rfl rfl (a0 := a0) (plainFor_of_name opn0) hO hE (fun x q => nomatch q) ?_
  intro K T W
  rw [oef_orw_ck]
  refine gIloadN W d43_0 rfl rfl ?_
  refine gIloadN W d43_1 rfl rfl ?_
  refine wGetS W d43_2 (ow85 hw) Via.refl SF rfl fun T674 W675 => ?_
  refine wStatic (y := (⟨"jdk/internal/util/Preconditions", "checkIndex", "(IILjava/util/function/BiFunction;)I"⟩ : MethodName)) (Wd := 0) (argsL := [(.int (Int32.ofNat i)), (.int (Int32.ofNat m)), fm]) (rest := []) W675 d43_5 (ow217 hw) (ow218 hw) (ow86 hw) (ow219 hw) (by decide) (Cb.ct (orw_pv l Z a0 hw hE (i) (m) (fm) h W675.old him hm rf ) (ow219 hw) (ow86 hw) hE (by decide) (by decide)) (by simp) rfl (lenOf opd22 rfl) rfl (Nat.le_of_eq rfl) (by decide) (by decide) rfl fun v680 so681 T676 h678 W677 kp679 sp682 q683 => ?_
  obtain ⟨rfl, rfl⟩ := q683
  show Go K _ T676 8 #[.val (.int (Int32.ofNat i)), .val (.int (Int32.ofNat m))] [(.int (Int32.ofNat i))]
  refine gPop W677 d43_8 rfl rfl ?_
  exact wRet0 (so := []) W677 d43_9 (by decide) (by decide) (fun _ q => nomatch q) ⟨rfl, rfl⟩
theorem d16_0 : decode jdk_41_method_12_code 0 = .ok (.iload_n 0, 1) := by decide +kernel
theorem d16_1 : decode jdk_41_method_12_code 1 = .ok (.ifCond .lt 13, 3) := by decide +kernel
theorem d16_4 : decode jdk_41_method_12_code 4 = .ok (.iload_n 0, 1) := by decide +kernel
theorem d16_5 : decode jdk_41_method_12_code 5 = .ok (.iload_n 1, 1) := by decide +kernel
theorem d16_6 : decode jdk_41_method_12_code 6 = .ok (.if_icmp .gt 8, 3) := by decide +kernel
theorem d16_9 : decode jdk_41_method_12_code 9 = .ok (.iload_n 1, 1) := by decide +kernel
theorem d16_10 : decode jdk_41_method_12_code 10 = .ok (.iload_n 2, 1) := by decide +kernel
theorem d16_11 : decode jdk_41_method_12_code 11 = .ok (.if_icmp .le 11, 3) := by decide +kernel
theorem d16_22 : decode jdk_41_method_12_code 22 = .ok (.iload_n 0, 1) := by decide +kernel
theorem d16_23 : decode jdk_41_method_12_code 23 = .ok (.ireturn, 1) := by decide +kernel
theorem oef_orw_cft (m_ : MethodId) (y0_ : Int32) (fm : Value) (r0 : fm.isRef = true) : (entryFrame m_ #[(.int (0 : Int32)), (.int (40 : Int32)), (.int y0_), fm] 4).locals = #[.val (.int (0 : Int32)), .val (.int (40 : Int32)), .val (.int y0_), .val fm] := by rcases ref_cases r0 with rfl | ⟨_, rfl⟩ <;> rfl
set_option maxRecDepth 65536 in
set_option maxHeartbeats 40000000 in
theorem orw_cft (l : Launch) (Z : State) (a0 : Array Value) (hw : ∀ d ∈ tables_1, d.before a0 Z = true) (hE : EW Z a0 consts_1) (n : Nat) (fm : Value) (h : Heap) (hO : Old Z Z.heap.size h) (h40 : (40 < n)) (hn4 : (n ≤ 4000)) (rf : (fm.isRef = true))  :
    Ct l Z consts_1 (⟨"jdk/internal/util/Preconditions", "checkFromToIndex", "(IIILjava/util/function/BiFunction;)I"⟩ : MethodName) jdk_41_method_12_code 4 (Option.some Jvm.ClassFile.FieldType.int) ⟨0, 0, 0, 0⟩ #[(.int (0 : Int32)), (.int (40 : Int32)), (.int (Int32.ofNat n)), fm] h [] (fun rv' hp' so' => rv' = some (.int (0 : Int32)) ∧ so' = []) := by
  refine Ct.mk "jdk/internal/util/Preconditions" "checkFromToIndex" rfl rfl (a0 := a0) (plainFor_of_name opn5) hO hE (fun x q => nomatch q) ?_
  intro K T W
  rw [oef_orw_cft _ (Int32.ofNat n) fm rf]
  refine gIloadN W d16_0 rfl rfl ?_
  refine gIfNo W d16_1 ((if0 _ _).trans (flt (by decide)).1) rfl ?_
  refine gIloadN W d16_4 rfl rfl ?_
  refine gIloadN W d16_5 rfl rfl ?_
  refine gIcmpNo W d16_6 (flt (by decide)).2.2.1 rfl ?_
  refine gIloadN W d16_9 rfl rfl ?_
  refine gIloadN W d16_10 rfl rfl ?_
  refine gIcmpYes (pc' := 22) W d16_11 (flt (fun q => absurd ((ofNat_ltc (P := 40) (by decide) (by omega)).mp q) (by omega))).2.2.2 (by decide) rfl ?_
  refine gIloadN W d16_22 rfl rfl ?_
  exact wRetI (so := []) (t := .int) W d16_23 (by simp) rfl (by decide) (by decide) (fun _ q => nomatch q) ⟨rfl, rfl⟩
theorem d15_0 : decode jdk_42_method_158_code 0 = .ok (.iload_n 0, 1) := by decide +kernel
theorem d15_1 : decode jdk_42_method_158_code 1 = .ok (.iload_n 1, 1) := by decide +kernel
theorem d15_2 : decode jdk_42_method_158_code 2 = .ok (.iload_n 2, 1) := by decide +kernel
theorem d15_3 : decode jdk_42_method_158_code 3 = .ok (.getstatic 1053, 3) := by decide +kernel
theorem d15_6 : decode jdk_42_method_158_code 6 = .ok (.invokestatic 1062, 3) := by decide +kernel
theorem ow87 {a0 : Array Value} {Z : State} (hw : ∀ d ∈ tables_1, d.before a0 Z = true) : (Jvm.Cond.methodLink "java/lang/String" (1062 : Nat) ({ cls := "jdk/internal/util/Preconditions", name := "checkFromToIndex", desc := "(IIILjava/util/function/BiFunction;)I" } : Jvm.MethodName)).before a0 Z = true := hw _ (List.mem_of_getElem? (i := 87) rfl)
theorem ow89 {a0 : Array Value} {Z : State} (hw : ∀ d ∈ tables_1, d.before a0 Z = true) : (Jvm.Cond.code ({ cls := "jdk/internal/util/Preconditions", name := "checkFromToIndex", desc := "(IIILjava/util/function/BiFunction;)I" } : Jvm.MethodName) jdk_41_method_12_code (4 : Nat) (Option.some Jvm.ClassFile.FieldType.int)).before a0 Z = true := hw _ (List.mem_of_getElem? (i := 89) rfl)
theorem opd23 : parseMethodDescriptor "(IIILjava/util/function/BiFunction;)I" = some ⟨[.int, .int, .int, .object "java/util/function/BiFunction"], some (.int)⟩ := by decide +kernel
theorem ow88 {a0 : Array Value} {Z : State} (hw : ∀ d ∈ tables_1, d.before a0 Z = true) : (Jvm.Cond.static ({ cls := "jdk/internal/util/Preconditions", name := "checkFromToIndex", desc := "(IIILjava/util/function/BiFunction;)I" } : Jvm.MethodName)).before a0 Z = true := hw _ (List.mem_of_getElem? (i := 88) rfl)
theorem d15_9 : decode jdk_42_method_158_code 9 = .ok (.pop, 1) := by decide +kernel
theorem d15_10 : decode jdk_42_method_158_code 10 = .ok (.return_, 1) := by decide +kernel
theorem oef_orw_cbe (m_ : MethodId) (y0_ : Int32)  : (entryFrame m_ #[(.int (0 : Int32)), (.int (40 : Int32)), (.int y0_)] 3).locals = #[.val (.int (0 : Int32)), .val (.int (40 : Int32)), .val (.int y0_)] := by first | (simp [entryFrame, argsToLocals, Value.category]; done) | rfl
set_option maxRecDepth 65536 in
set_option maxHeartbeats 40000000 in
theorem orw_cbe (l : Launch) (Z : State) (a0 : Array Value) (hw : ∀ d ∈ tables_1, d.before a0 Z = true) (hE : EW Z a0 consts_1) (n : Nat) (fm : Value) (h : Heap) (hO : Old Z Z.heap.size h) (h40 : (40 < n)) (hn4 : (n ≤ 4000)) (SF : (Sta Z Z.heap "jdk/internal/util/Preconditions" "SIOOBE_FORMATTER" "Ljava/util/function/BiFunction;" fm)) (rf : (fm.isRef = true))  :
    Ct l Z consts_1 (⟨"java/lang/String", "checkBoundsBeginEnd", "(III)V"⟩ : MethodName) jdk_42_method_158_code 3 (Option.none : Option Jvm.ClassFile.FieldType) ⟨1, 0, 0, 18⟩ #[(.int (0 : Int32)), (.int (40 : Int32)), (.int (Int32.ofNat n))] h [] (fun rv' hp' so' => rv' = none ∧ so' = []) := by
  refine Ct.mk "java/lang/String" "checkBoundsBeginEnd" rfl rfl (a0 := a0) (plainFor_of_name opn0) hO hE (fun x q => nomatch q) ?_
  intro K T W
  rw [oef_orw_cbe]
  refine gIloadN W d15_0 rfl rfl ?_
  refine gIloadN W d15_1 rfl rfl ?_
  refine gIloadN W d15_2 rfl rfl ?_
  refine wGetS W d15_3 (ow85 hw) Via.refl SF rfl fun T684 W685 => ?_
  refine wStatic (y := (⟨"jdk/internal/util/Preconditions", "checkFromToIndex", "(IIILjava/util/function/BiFunction;)I"⟩ : MethodName)) (Wd := 0) (argsL := [(.int (0 : Int32)), (.int (40 : Int32)), (.int (Int32.ofNat n)), fm]) (rest := []) W685 d15_6 (ow87 hw) (ow88 hw) (ow86 hw) (ow89 hw) (by decide) (Cb.ct (orw_cft l Z a0 hw hE (n) (fm) h W685.old h40 hn4 rf ) (ow89 hw) (ow86 hw) hE (by decide) (by decide)) (by simp) rfl (lenOf opd23 rfl) rfl (Nat.le_of_eq rfl) (by decide) (by decide) rfl fun v690 so691 T686 h688 W687 kp689 sp692 q693 => ?_
  obtain ⟨rfl, rfl⟩ := q693
  show Go K _ T686 9 #[.val (.int (0 : Int32)), .val (.int (40 : Int32)), .val (.int (Int32.ofNat n))] [(.int (0 : Int32))]
  refine gPop W687 d15_9 rfl rfl ?_
  exact wRet0 (so := []) W687 d15_10 (by decide) (by decide) (fun _ q => nomatch q) ⟨rfl, rfl⟩
theorem d57_0 : decode jdk_41_method_13_code 0 = .ok (.iload_n 2, 1) := by decide +kernel
theorem d57_1 : decode jdk_41_method_13_code 1 = .ok (.iload_n 0, 1) := by decide +kernel
theorem d57_2 : decode jdk_41_method_13_code 2 = .ok (.ior, 1) := by decide +kernel
theorem d57_3 : decode jdk_41_method_13_code 3 = .ok (.iload_n 1, 1) := by decide +kernel
theorem d57_4 : decode jdk_41_method_13_code 4 = .ok (.ior, 1) := by decide +kernel
theorem d57_5 : decode jdk_41_method_13_code 5 = .ok (.ifCond .lt 10, 3) := by decide +kernel
theorem d57_8 : decode jdk_41_method_13_code 8 = .ok (.iload_n 1, 1) := by decide +kernel
theorem d57_9 : decode jdk_41_method_13_code 9 = .ok (.iload_n 2, 1) := by decide +kernel
theorem d57_10 : decode jdk_41_method_13_code 10 = .ok (.iload_n 0, 1) := by decide +kernel
theorem d57_11 : decode jdk_41_method_13_code 11 = .ok (.isub, 1) := by decide +kernel
theorem d57_12 : decode jdk_41_method_13_code 12 = .ok (.if_icmp .le 11, 3) := by decide +kernel
theorem d57_23 : decode jdk_41_method_13_code 23 = .ok (.iload_n 0, 1) := by decide +kernel
theorem d57_24 : decode jdk_41_method_13_code 24 = .ok (.ireturn, 1) := by decide +kernel
theorem oef_orw_cfs (m_ : MethodId) (y0_ : Int32) (y1_ : Int32) (y2_ : Int32) (fm : Value) (r0 : fm.isRef = true) : (entryFrame m_ #[(.int y0_), (.int y1_), (.int y2_), fm] 4).locals = #[.val (.int y0_), .val (.int y1_), .val (.int y2_), .val fm] := by rcases ref_cases r0 with rfl | ⟨_, rfl⟩ <;> rfl
set_option maxRecDepth 65536 in
set_option maxHeartbeats 40000000 in
theorem orw_cfs (l : Launch) (Z : State) (a0 : Array Value) (hw : ∀ d ∈ tables_1, d.before a0 Z = true) (hE : EW Z a0 consts_1) (o : Nat) (q : Nat) (m : Nat) (fm : Value) (h : Heap) (hO : Old Z Z.heap.size h) (hoq : (o + q ≤ m)) (hm : (m ≤ 4000)) (rf : (fm.isRef = true))  :
    Ct l Z consts_1 (⟨"jdk/internal/util/Preconditions", "checkFromIndexSize", "(IIILjava/util/function/BiFunction;)I"⟩ : MethodName) jdk_41_method_13_code 4 (Option.some Jvm.ClassFile.FieldType.int) ⟨0, 0, 0, 0⟩ #[(.int (Int32.ofNat o)), (.int (Int32.ofNat q)), (.int (Int32.ofNat m)), fm] h [] (fun rv' hp' so' => rv' = some (.int (Int32.ofNat o)) ∧ so' = []) := by
  refine Ct.mk "jdk/internal/util/Preconditions" "checkFromIndexSize" rfl rfl (a0 := a0) (plainFor_of_name opn5) hO hE (fun x q => nomatch q) ?_
  intro K T W
  rw [oef_orw_cfs _ (Int32.ofNat o) (Int32.ofNat q) (Int32.ofNat m) fm rf]
  refine gIloadN W d57_0 rfl rfl ?_
  refine gIloadN W d57_1 rfl rfl ?_
  refine gIor (z := (Int32.ofNat m ||| Int32.ofNat o)) W d57_2 rfl rfl ?_
  refine gIloadN W d57_3 rfl rfl ?_
  refine gIor (z := ((Int32.ofNat m ||| Int32.ofNat o) ||| Int32.ofNat q)) W d57_4 rfl rfl ?_
  refine gIfNo W d57_5 ((if0 _ _).trans (flt (or3_nn (by omega) (by omega) (by omega))).1) rfl ?_
  refine gIloadN W d57_8 rfl rfl ?_
  refine gIloadN W d57_9 rfl rfl ?_
  refine gIloadN W d57_10 rfl rfl ?_
  refine gIsub (z := (Int32.ofNat (m - o))) W d57_11 (ofNat_sub (by omega) (by omega)) rfl ?_
  refine gIcmpYes (pc' := 23) W d57_12 (flt (fun q => absurd ((ofNat_lt (by omega) (by omega)).mp q) (by omega))).2.2.2 (by decide) rfl ?_
  refine gIloadN W d57_23 rfl rfl ?_
  exact wRetI (so := []) (t := .int) W d57_24 (by simp) rfl (by decide) (by decide) (fun _ q => nomatch q) ⟨rfl, rfl⟩
theorem d56_0 : decode jdk_42_method_157_code 0 = .ok (.iload_n 0, 1) := by decide +kernel
theorem d56_1 : decode jdk_42_method_157_code 1 = .ok (.iload_n 1, 1) := by decide +kernel
theorem d56_2 : decode jdk_42_method_157_code 2 = .ok (.iload_n 2, 1) := by decide +kernel
theorem d56_3 : decode jdk_42_method_157_code 3 = .ok (.getstatic 1053, 3) := by decide +kernel
theorem d56_6 : decode jdk_42_method_157_code 6 = .ok (.invokestatic 1065, 3) := by decide +kernel
theorem ow261 {a0 : Array Value} {Z : State} (hw : ∀ d ∈ tables_1, d.before a0 Z = true) : (Jvm.Cond.methodLink "java/lang/String" (1065 : Nat) ({ cls := "jdk/internal/util/Preconditions", name := "checkFromIndexSize", desc := "(IIILjava/util/function/BiFunction;)I" } : Jvm.MethodName)).before a0 Z = true := hw _ (List.mem_of_getElem? (i := 261) rfl)
theorem ow263 {a0 : Array Value} {Z : State} (hw : ∀ d ∈ tables_1, d.before a0 Z = true) : (Jvm.Cond.code ({ cls := "jdk/internal/util/Preconditions", name := "checkFromIndexSize", desc := "(IIILjava/util/function/BiFunction;)I" } : Jvm.MethodName) jdk_41_method_13_code (4 : Nat) (Option.some Jvm.ClassFile.FieldType.int)).before a0 Z = true := hw _ (List.mem_of_getElem? (i := 263) rfl)
theorem ow262 {a0 : Array Value} {Z : State} (hw : ∀ d ∈ tables_1, d.before a0 Z = true) : (Jvm.Cond.static ({ cls := "jdk/internal/util/Preconditions", name := "checkFromIndexSize", desc := "(IIILjava/util/function/BiFunction;)I" } : Jvm.MethodName)).before a0 Z = true := hw _ (List.mem_of_getElem? (i := 262) rfl)
theorem d56_9 : decode jdk_42_method_157_code 9 = .ok (.ireturn, 1) := by decide +kernel
theorem oef_orw_cbo (m_ : MethodId) (y0_ : Int32) (y1_ : Int32) (y2_ : Int32)  : (entryFrame m_ #[(.int y0_), (.int y1_), (.int y2_)] 3).locals = #[.val (.int y0_), .val (.int y1_), .val (.int y2_)] := by first | (simp [entryFrame, argsToLocals, Value.category]; done) | rfl
set_option maxRecDepth 65536 in
set_option maxHeartbeats 40000000 in
theorem orw_cbo (l : Launch) (Z : State) (a0 : Array Value) (hw : ∀ d ∈ tables_1, d.before a0 Z = true) (hE : EW Z a0 consts_1) (o : Nat) (q : Nat) (m : Nat) (fm : Value) (h : Heap) (hO : Old Z Z.heap.size h) (hoq : (o + q ≤ m)) (hm : (m ≤ 4000)) (SF : (Sta Z Z.heap "jdk/internal/util/Preconditions" "SIOOBE_FORMATTER" "Ljava/util/function/BiFunction;" fm)) (rf : (fm.isRef = true))  :
    Ct l Z consts_1 (⟨"java/lang/String", "checkBoundsOffCount", "(III)I"⟩ : MethodName) jdk_42_method_157_code 3 (Option.some Jvm.ClassFile.FieldType.int) ⟨1, 0, 0, 18⟩ #[(.int (Int32.ofNat o)), (.int (Int32.ofNat q)), (.int (Int32.ofNat m))] h [] (fun rv' hp' so' => rv' = some (.int (Int32.ofNat o)) ∧ so' = []) := by
  refine Ct.mk "java/lang/String" "checkBoundsOffCount" rfl rfl (a0 := a0) (plainFor_of_name opn0) hO hE (fun x q => nomatch q) ?_
  intro K T W
  rw [oef_orw_cbo]
  refine gIloadN W d56_0 rfl rfl ?_
  refine gIloadN W d56_1 rfl rfl ?_
  refine gIloadN W d56_2 rfl rfl ?_
  refine wGetS W d56_3 (ow85 hw) Via.refl SF rfl fun T694 W695 => ?_
  refine wStatic (y := (⟨"jdk/internal/util/Preconditions", "checkFromIndexSize", "(IIILjava/util/function/BiFunction;)I"⟩ : MethodName)) (Wd := 0) (argsL := [(.int (Int32.ofNat o)), (.int (Int32.ofNat q)), (.int (Int32.ofNat m)), fm]) (rest := []) W695 d56_6 (ow261 hw) (ow262 hw) (ow86 hw) (ow263 hw) (by decide) (Cb.ct (orw_cfs l Z a0 hw hE (o) (q) (m) (fm) h W695.old hoq hm rf ) (ow263 hw) (ow86 hw) hE (by decide) (by decide)) (by simp) rfl (lenOf opd23 rfl) rfl (Nat.le_of_eq rfl) (by decide) (by decide) rfl fun v700 so701 T696 h698 W697 kp699 sp702 q703 => ?_
  obtain ⟨rfl, rfl⟩ := q703
  show Go K _ T696 9 #[.val (.int (Int32.ofNat o)), .val (.int (Int32.ofNat q)), .val (.int (Int32.ofNat m))] [(.int (Int32.ofNat o))]
  exact wRetI (so := []) (t := .int) W697 d56_9 (by simp) rfl (by decide) (by decide) (fun _ q => nomatch q) ⟨rfl, rfl⟩
theorem d55_0 : decode jdk_52_method_6_code 0 = .ok (.aload_n 0, 1) := by decide +kernel
theorem d55_1 : decode jdk_52_method_6_code 1 = .ok (.arraylength, 1) := by decide +kernel
theorem d55_2 : decode jdk_52_method_6_code 2 = .ok (.iconst 1, 1) := by decide +kernel
theorem d55_3 : decode jdk_52_method_6_code 3 = .ok (.ishr, 1) := by decide +kernel
theorem d55_4 : decode jdk_52_method_6_code 4 = .ok (.ireturn, 1) := by decide +kernel
theorem oef_orw_ul (m_ : MethodId) (v : Addr)  : (entryFrame m_ #[(.ref v)] 1).locals = #[.val (.ref v)] := by first | (simp [entryFrame, argsToLocals, Value.category]; done) | rfl
set_option maxRecDepth 65536 in
set_option maxHeartbeats 40000000 in
theorem orw_ul (l : Launch) (Z : State) (a0 : Array Value) (hw : ∀ d ∈ tables_1, d.before a0 Z = true) (hE : EW Z a0 consts_1) (v : Addr) (kv : ClassId) (vs : List Value) (m : Nat) (h : Heap) (hO : Old Z Z.heap.size h) (q0 : Arv Z h v kv .byte (Int32.ofNat (2 * m)) vs (.int 0)) (hm : (m ≤ 4000))  :
    Ct l Z consts_1 (⟨"java/lang/StringUTF16", "length", "([B)I"⟩ : MethodName) jdk_52_method_6_code 1 (Option.some Jvm.ClassFile.FieldType.int) ⟨0, 0, 0, 0⟩ #[(.ref v)] h [] (fun rv' hp' so' => rv' = some (.int (Int32.ofNat m)) ∧ so' = []) := by
  refine Ct.mk "java/lang/StringUTF16" "length" rfl rfl (a0 := a0) (plainFor_of_name opn1) hO hE (fun x q => nomatch q) ?_
  intro K T W
  rw [oef_orw_ul]
  refine gAloadN W d55_0 rfl rfl rfl ?_
  refine wLen W d55_1 q0 rfl ?_
  refine gIconst (z := (1 : Int32)) W d55_2 rfl rfl ?_
  refine gIshr (z := (Int32.ofNat m)) W d55_3 (shr1 (by omega)) rfl ?_
  exact wRetI (so := []) (t := .int) W d55_4 (by simp) rfl (by decide) (by decide) (fun _ q => nomatch q) ⟨rfl, rfl⟩
theorem d54_0 : decode jdk_52_method_94_code 0 = .ok (.iload_n 0, 1) := by decide +kernel
theorem d54_1 : decode jdk_52_method_94_code 1 = .ok (.iload_n 1, 1) := by decide +kernel
theorem d54_2 : decode jdk_52_method_94_code 2 = .ok (.aload_n 2, 1) := by decide +kernel
theorem d54_3 : decode jdk_52_method_94_code 3 = .ok (.invokestatic 48, 3) := by decide +kernel
theorem ow255 {a0 : Array Value} {Z : State} (hw : ∀ d ∈ tables_1, d.before a0 Z = true) : (Jvm.Cond.methodLink "java/lang/StringUTF16" (48 : Nat) ({ cls := "java/lang/StringUTF16", name := "length", desc := "([B)I" } : Jvm.MethodName)).before a0 Z = true := hw _ (List.mem_of_getElem? (i := 255) rfl)
theorem ow257 {a0 : Array Value} {Z : State} (hw : ∀ d ∈ tables_1, d.before a0 Z = true) : (Jvm.Cond.code ({ cls := "java/lang/StringUTF16", name := "length", desc := "([B)I" } : Jvm.MethodName) jdk_52_method_6_code (1 : Nat) (Option.some Jvm.ClassFile.FieldType.int)).before a0 Z = true := hw _ (List.mem_of_getElem? (i := 257) rfl)
theorem opd24 : parseMethodDescriptor "([B)I" = some ⟨[.array .byte], some (.int)⟩ := by decide +kernel
theorem ow256 {a0 : Array Value} {Z : State} (hw : ∀ d ∈ tables_1, d.before a0 Z = true) : (Jvm.Cond.static ({ cls := "java/lang/StringUTF16", name := "length", desc := "([B)I" } : Jvm.MethodName)).before a0 Z = true := hw _ (List.mem_of_getElem? (i := 256) rfl)
theorem d54_6 : decode jdk_52_method_94_code 6 = .ok (.invokestatic 419, 3) := by decide +kernel
theorem ow258 {a0 : Array Value} {Z : State} (hw : ∀ d ∈ tables_1, d.before a0 Z = true) : (Jvm.Cond.methodLink "java/lang/StringUTF16" (419 : Nat) ({ cls := "java/lang/String", name := "checkBoundsOffCount", desc := "(III)I" } : Jvm.MethodName)).before a0 Z = true := hw _ (List.mem_of_getElem? (i := 258) rfl)
theorem ow260 {a0 : Array Value} {Z : State} (hw : ∀ d ∈ tables_1, d.before a0 Z = true) : (Jvm.Cond.code ({ cls := "java/lang/String", name := "checkBoundsOffCount", desc := "(III)I" } : Jvm.MethodName) jdk_42_method_157_code (3 : Nat) (Option.some Jvm.ClassFile.FieldType.int)).before a0 Z = true := hw _ (List.mem_of_getElem? (i := 260) rfl)
theorem opd25 : parseMethodDescriptor "(III)I" = some ⟨[.int, .int, .int], some (.int)⟩ := by decide +kernel
theorem ow259 {a0 : Array Value} {Z : State} (hw : ∀ d ∈ tables_1, d.before a0 Z = true) : (Jvm.Cond.static ({ cls := "java/lang/String", name := "checkBoundsOffCount", desc := "(III)I" } : Jvm.MethodName)).before a0 Z = true := hw _ (List.mem_of_getElem? (i := 259) rfl)
theorem d54_9 : decode jdk_52_method_94_code 9 = .ok (.pop, 1) := by decide +kernel
theorem d54_10 : decode jdk_52_method_94_code 10 = .ok (.return_, 1) := by decide +kernel
theorem oef_orw_cbu (m_ : MethodId) (y0_ : Int32) (y1_ : Int32) (v : Addr)  : (entryFrame m_ #[(.int y0_), (.int y1_), (.ref v)] 3).locals = #[.val (.int y0_), .val (.int y1_), .val (.ref v)] := by first | (simp [entryFrame, argsToLocals, Value.category]; done) | rfl
set_option maxRecDepth 65536 in
set_option maxHeartbeats 40000000 in
theorem orw_cbu (l : Launch) (Z : State) (a0 : Array Value) (hw : ∀ d ∈ tables_1, d.before a0 Z = true) (hE : EW Z a0 consts_1) (o : Nat) (q : Nat) (m : Nat) (v : Addr) (kv : ClassId) (vs : List Value) (fm : Value) (h : Heap) (hO : Old Z Z.heap.size h) (hoq : (o + q ≤ m)) (hm : (m ≤ 4000)) (SF : (Sta Z Z.heap "jdk/internal/util/Preconditions" "SIOOBE_FORMATTER" "Ljava/util/function/BiFunction;" fm)) (rf : (fm.isRef = true)) (q4 : Arv Z h v kv .byte (Int32.ofNat (2 * m)) vs (.int 0))  :
    Ct l Z consts_1 (⟨"java/lang/StringUTF16", "checkBoundsOffCount", "(II[B)V"⟩ : MethodName) jdk_52_method_94_code 3 (Option.none : Option Jvm.ClassFile.FieldType) ⟨2, 0, 0, 34⟩ #[(.int (Int32.ofNat o)), (.int (Int32.ofNat q)), (.ref v)] h [] (fun rv' hp' so' => rv' = none ∧ so' = []) := by
  refine Ct.mk "java/lang/StringUTF16" "checkBoundsOffCount" rfl rfl (a0 := a0) (plainFor_of_name opn1) hO hE (fun x q => nomatch q) ?_
  intro K T W
  rw [oef_orw_cbu]
  refine gIloadN W d54_0 rfl rfl ?_
  refine gIloadN W d54_1 rfl rfl ?_
  refine gAloadN W d54_2 rfl rfl rfl ?_
  refine wStatic (y := (⟨"java/lang/StringUTF16", "length", "([B)I"⟩ : MethodName)) (Wd := 2) (argsL := [(.ref v)]) (rest := [(.int (Int32.ofNat q)), (.int (Int32.ofNat o))]) W d54_3 (ow255 hw) (ow256 hw) (ow50 hw) (ow257 hw) (by decide) (Cb.ct (orw_ul l Z a0 hw hE (v) (kv) (vs) (m) h W.old q4 hm ) (ow257 hw) (ow50 hw) hE (by decide) (by decide)) (by simp) rfl (lenOf opd24 rfl) rfl (Nat.le_of_eq rfl) (by decide) (by decide) rfl fun v708 so709 T704 h706 W705 kp707 sp710 q711 => ?_
  obtain ⟨rfl, rfl⟩ := q711
  show Go K _ T704 6 #[.val (.int (Int32.ofNat o)), .val (.int (Int32.ofNat q)), .val (.ref v)] [(.int (Int32.ofNat m)), (.int (Int32.ofNat q)), (.int (Int32.ofNat o))]
  refine wStatic (y := (⟨"java/lang/String", "checkBoundsOffCount", "(III)I"⟩ : MethodName)) (Wd := 0) (argsL := [(.int (Int32.ofNat o)), (.int (Int32.ofNat q)), (.int (Int32.ofNat m))]) (rest := []) W705 d54_6 (ow258 hw) (ow259 hw) (ow7 hw) (ow260 hw) (by decide) (Cb.ct (orw_cbo l Z a0 hw hE (o) (q) (m) (fm) h706 W705.old hoq hm SF rf ) (ow260 hw) (ow7 hw) hE (by decide) (by decide)) (by simp) rfl (lenOf opd25 rfl) rfl (Nat.le_of_eq rfl) (by decide) (by decide) rfl fun v716 so717 T712 h714 W713 kp715 sp718 q719 => ?_
  obtain ⟨rfl, rfl⟩ := q719
  show Go K _ T712 9 #[.val (.int (Int32.ofNat o)), .val (.int (Int32.ofNat q)), .val (.ref v)] [(.int (Int32.ofNat o))]
  refine gPop W713 d54_9 rfl rfl ?_
  exact wRet0 (so := []) W713 d54_10 (by decide) (by decide) (fun _ q => nomatch q) ⟨rfl, rfl⟩
theorem d23_0 : decode jdk_42_method_151_code 0 = .ok (.aload_n 0, 1) := by decide +kernel
theorem d23_1 : decode jdk_42_method_151_code 1 = .ok (.invokespecial 1, 3) := by decide +kernel
theorem d23_4 : decode jdk_42_method_151_code 4 = .ok (.aload_n 0, 1) := by decide +kernel
theorem d23_5 : decode jdk_42_method_151_code 5 = .ok (.aload_n 1, 1) := by decide +kernel
theorem d23_6 : decode jdk_42_method_151_code 6 = .ok (.putfield 9, 3) := by decide +kernel
theorem d23_9 : decode jdk_42_method_151_code 9 = .ok (.aload_n 0, 1) := by decide +kernel
theorem d23_10 : decode jdk_42_method_151_code 10 = .ok (.iload_n 2, 1) := by decide +kernel
theorem d23_11 : decode jdk_42_method_151_code 11 = .ok (.putfield 15, 3) := by decide +kernel
theorem d23_14 : decode jdk_42_method_151_code 14 = .ok (.return_, 1) := by decide +kernel
theorem oef_orw_ib0 (m_ : MethodId) (a : Addr) (b : Addr)  : (entryFrame m_ #[(.ref a), (.ref b), (.int (0 : Int32))] 3).locals = #[.val (.ref a), .val (.ref b), .val (.int (0 : Int32))] := by first | (simp [entryFrame, argsToLocals, Value.category]; done) | rfl
set_option maxRecDepth 65536 in
set_option maxHeartbeats 40000000 in
theorem orw_ib0 (l : Launch) (Z : State) (a0 : Array Value) (hw : ∀ d ∈ tables_1, d.before a0 Z = true) (hE : EW Z a0 consts_1) (a : Addr) (b : Addr) (h : Heap) (hO : Old Z Z.heap.size h) (q0 : Exa Z h a "java/lang/String") (q1 : Fld Z h a "java/lang/String" "value" "[B" .null) (q2 : Fld Z h a "java/lang/String" "coder" "B" (.int (0 : Int32))) (ge_a : Z.heap.size ≤ a) :
    Ct l Z consts_1 (⟨"java/lang/String", "<init>", "([BB)V"⟩ : MethodName) jdk_42_method_151_code 3 (Option.none : Option Jvm.ClassFile.FieldType) ⟨1, 0, 0, 14⟩ #[(.ref a), (.ref b), (.int (0 : Int32))] h [a] (fun rv' hp' so' => rv' = none ∧ so' = [] ∧ Exa Z hp' a "java/lang/String" ∧ Fld Z hp' a "java/lang/String" "coder" "B" (.int (0 : Int32)) ∧ Fld Z hp' a "java/lang/String" "value" "[B" (.ref b)) := by
  refine Ct.mk "java/lang/String" "<init>" rfl rfl (a0 := a0) (plainFor_of_name opn0) hO hE (fun x q => by simp at q; subst q; exact ge_a) ?_
  intro K T W
  rw [oef_orw_ib0]
  refine gAloadN W d23_0 rfl rfl rfl ?_
  refine wInitO W d23_1 (ow15 hw) (ow16 hw) (ow17 hw) rfl (by decide) 0 (Nat.le_of_eq rfl) (by decide) rfl fun T720 W721 => ?_
  refine gAloadN W721 d23_4 rfl rfl rfl ?_
  refine gAloadN W721 d23_5 rfl rfl rfl ?_
  refine wPutF (ty := .array .byte) W721 d23_6 (ow24 hw) Via.refl (by simp) q1 q0 (Or.inr ⟨(ow20 hw), rfl, rfl⟩) (ow6 hw) (by decide) rfl rfl rfl fun T722 h724 W723 wr725 => ?_
  have f726 := Fld.same wr725 q1
  refine gAloadN W723 d23_9 rfl rfl rfl ?_
  refine gIloadN W723 d23_10 rfl rfl ?_
  have f727 := q2.other wr725 (Or.inr (slot_ne (t := .byte) (t' := .array .byte) (Or.inr (ow21 hw)) (Or.inr (ow20 hw)) (by decide) (by decide) (by decide)))
  have f728 := q0.wr wr725
  refine wPutF (ty := .byte) W723 d23_11 (ow25 hw) Via.refl (by simp) f727 f728 (Or.inr ⟨(ow21 hw), rfl, rfl⟩) (ow6 hw) (by decide) rfl (by decide) rfl fun T729 h731 W730 wr732 => ?_
  have f733 := Fld.same wr732 f727
  have f734 := f728.wr wr732
  have f735 := f726.other wr732 (Or.inr (slot_ne (t := .array .byte) (t' := .byte) (Or.inr (ow20 hw)) (Or.inr (ow21 hw)) (by decide) (by decide) (by decide)))
  exact wRet0 (so := []) W730 d23_14 (by decide) (by decide) (fun _ q => nomatch q) ⟨rfl, rfl, f734, f733, f735⟩
theorem oef_orw_ib1 (m_ : MethodId) (a : Addr) (b : Addr)  : (entryFrame m_ #[(.ref a), (.ref b), (.int (1 : Int32))] 3).locals = #[.val (.ref a), .val (.ref b), .val (.int (1 : Int32))] := by first | (simp [entryFrame, argsToLocals, Value.category]; done) | rfl
set_option maxRecDepth 65536 in
set_option maxHeartbeats 40000000 in
theorem orw_ib1 (l : Launch) (Z : State) (a0 : Array Value) (hw : ∀ d ∈ tables_1, d.before a0 Z = true) (hE : EW Z a0 consts_1) (a : Addr) (b : Addr) (h : Heap) (hO : Old Z Z.heap.size h) (q0 : Exa Z h a "java/lang/String") (q1 : Fld Z h a "java/lang/String" "value" "[B" .null) (q2 : Fld Z h a "java/lang/String" "coder" "B" (.int (0 : Int32))) (ge_a : Z.heap.size ≤ a) :
    Ct l Z consts_1 (⟨"java/lang/String", "<init>", "([BB)V"⟩ : MethodName) jdk_42_method_151_code 3 (Option.none : Option Jvm.ClassFile.FieldType) ⟨1, 0, 0, 14⟩ #[(.ref a), (.ref b), (.int (1 : Int32))] h [a] (fun rv' hp' so' => rv' = none ∧ so' = [] ∧ Exa Z hp' a "java/lang/String" ∧ Fld Z hp' a "java/lang/String" "coder" "B" (.int (1 : Int32)) ∧ Fld Z hp' a "java/lang/String" "value" "[B" (.ref b)) := by
  refine Ct.mk "java/lang/String" "<init>" rfl rfl (a0 := a0) (plainFor_of_name opn0) hO hE (fun x q => by simp at q; subst q; exact ge_a) ?_
  intro K T W
  rw [oef_orw_ib1]
  refine gAloadN W d23_0 rfl rfl rfl ?_
  refine wInitO W d23_1 (ow15 hw) (ow16 hw) (ow17 hw) rfl (by decide) 0 (Nat.le_of_eq rfl) (by decide) rfl fun T736 W737 => ?_
  refine gAloadN W737 d23_4 rfl rfl rfl ?_
  refine gAloadN W737 d23_5 rfl rfl rfl ?_
  refine wPutF (ty := .array .byte) W737 d23_6 (ow24 hw) Via.refl (by simp) q1 q0 (Or.inr ⟨(ow20 hw), rfl, rfl⟩) (ow6 hw) (by decide) rfl rfl rfl fun T738 h740 W739 wr741 => ?_
  have f742 := Fld.same wr741 q1
  refine gAloadN W739 d23_9 rfl rfl rfl ?_
  refine gIloadN W739 d23_10 rfl rfl ?_
  have f743 := q2.other wr741 (Or.inr (slot_ne (t := .byte) (t' := .array .byte) (Or.inr (ow21 hw)) (Or.inr (ow20 hw)) (by decide) (by decide) (by decide)))
  have f744 := q0.wr wr741
  refine wPutF (ty := .byte) W739 d23_11 (ow25 hw) Via.refl (by simp) f743 f744 (Or.inr ⟨(ow21 hw), rfl, rfl⟩) (ow6 hw) (by decide) rfl (by decide) rfl fun T745 h747 W746 wr748 => ?_
  have f749 := Fld.same wr748 f743
  have f750 := f744.wr wr748
  have f751 := f742.other wr748 (Or.inr (slot_ne (t := .array .byte) (t' := .byte) (Or.inr (ow20 hw)) (Or.inr (ow21 hw)) (by decide) (by decide) (by decide)))
  exact wRet0 (so := []) W746 d23_14 (by decide) (by decide) (fun _ q => nomatch q) ⟨rfl, rfl, f750, f749, f751⟩
theorem opn6 : plainName "java/lang/StringLatin1" = true := by first | (simp [plainName, overriddenIn]; done) | decide +kernel
theorem d18_0 : decode jdk_43_method_47_code 0 = .ok (.iload_n 2, 1) := by decide +kernel
theorem d18_1 : decode jdk_43_method_47_code 1 = .ok (.ifCond .ne 6, 3) := by decide +kernel
theorem d18_7 : decode jdk_43_method_47_code 7 = .ok (.new 1, 3) := by decide +kernel
theorem ow99 {a0 : Array Value} {Z : State} (hw : ∀ d ∈ tables_1, d.before a0 Z = true) : (Jvm.Cond.classLink "java/lang/StringLatin1" (1 : Nat) "java/lang/String").before a0 Z = true := hw _ (List.mem_of_getElem? (i := 99) rfl)
theorem d18_10 : decode jdk_43_method_47_code 10 = .ok (.dup, 1) := by decide +kernel
theorem d18_11 : decode jdk_43_method_47_code 11 = .ok (.aload_n 0, 1) := by decide +kernel
theorem d18_12 : decode jdk_43_method_47_code 12 = .ok (.iload_n 1, 1) := by decide +kernel
theorem d18_13 : decode jdk_43_method_47_code 13 = .ok (.iload_n 1, 1) := by decide +kernel
theorem d18_14 : decode jdk_43_method_47_code 14 = .ok (.iload_n 2, 1) := by decide +kernel
theorem d18_15 : decode jdk_43_method_47_code 15 = .ok (.iadd, 1) := by decide +kernel
theorem d18_16 : decode jdk_43_method_47_code 16 = .ok (.invokestatic 232, 3) := by decide +kernel
theorem ow100 {a0 : Array Value} {Z : State} (hw : ∀ d ∈ tables_1, d.before a0 Z = true) : (Jvm.Cond.methodLink "java/lang/StringLatin1" (232 : Nat) ({ cls := "java/util/Arrays", name := "copyOfRange", desc := "([BII)[B" } : Jvm.MethodName)).before a0 Z = true := hw _ (List.mem_of_getElem? (i := 100) rfl)
theorem d18_19 : decode jdk_43_method_47_code 19 = .ok (.iconst 0, 1) := by decide +kernel
theorem d18_20 : decode jdk_43_method_47_code 20 = .ok (.invokespecial 112, 3) := by decide +kernel
theorem ow118 {a0 : Array Value} {Z : State} (hw : ∀ d ∈ tables_1, d.before a0 Z = true) : (Jvm.Cond.methodLink "java/lang/StringLatin1" (112 : Nat) ({ cls := "java/lang/String", name := "<init>", desc := "([BB)V" } : Jvm.MethodName)).before a0 Z = true := hw _ (List.mem_of_getElem? (i := 118) rfl)
theorem ow120 {a0 : Array Value} {Z : State} (hw : ∀ d ∈ tables_1, d.before a0 Z = true) : (Jvm.Cond.code ({ cls := "java/lang/String", name := "<init>", desc := "([BB)V" } : Jvm.MethodName) jdk_42_method_151_code (3 : Nat) (Option.none : Option Jvm.ClassFile.FieldType)).before a0 Z = true := hw _ (List.mem_of_getElem? (i := 120) rfl)
theorem opd26 : parseMethodDescriptor "([BB)V" = some ⟨[.array .byte, .byte], none⟩ := by decide +kernel
theorem ow119 {a0 : Array Value} {Z : State} (hw : ∀ d ∈ tables_1, d.before a0 Z = true) : (Jvm.Cond.instanceMethod ({ cls := "java/lang/String", name := "<init>", desc := "([BB)V" } : Jvm.MethodName)).before a0 Z = true := hw _ (List.mem_of_getElem? (i := 119) rfl)
theorem d18_23 : decode jdk_43_method_47_code 23 = .ok (.areturn, 1) := by decide +kernel
theorem oef_orw_nsL (m_ : MethodId) (u : Addr)  : (entryFrame m_ #[(.ref u), (.int (0 : Int32)), (.int (40 : Int32))] 3).locals = #[.val (.ref u), .val (.int (0 : Int32)), .val (.int (40 : Int32))] := by first | (simp [entryFrame, argsToLocals, Value.category]; done) | rfl
set_option maxRecDepth 65536 in
set_option maxHeartbeats 40000000 in
theorem orw_nsL (l : Launch) (Z : State) (a0 : Array Value) (hw : ∀ d ∈ tables_1, d.before a0 Z = true) (hE : EW Z a0 consts_1) (u : Addr) (ku : ClassId) (n : Nat) (us : List Value) (h : Heap) (hO : Old Z Z.heap.size h) (q0 : Arv Z h u ku .byte (Int32.ofNat n) us (.int 0)) (hn : (us.length = n)) (h40 : (40 < n)) (h80 : (n ≤ 80))  :
    Ct l Z consts_1 (⟨"java/lang/StringLatin1", "newString", "([BII)Ljava/lang/String;"⟩ : MethodName) jdk_43_method_47_code 3 (Option.some (Jvm.ClassFile.FieldType.object "java/lang/String")) ⟨3, 2, 104, 100⟩ #[(.ref u), (.int (0 : Int32)), (.int (40 : Int32))] h [] (fun rv' hp' so' => ∃ s : Addr, ∃ r : Addr, ∃ kr : ClassId, rv' = some (.ref s) ∧ so' = [] ∧ Exa Z hp' s "java/lang/String" ∧ Fld Z hp' s "java/lang/String" "coder" "B" (.int (0 : Int32)) ∧ Fld Z hp' s "java/lang/String" "value" "[B" (.ref r) ∧ Arv Z hp' r kr .byte (Int32.ofNat 40) (us.take 40) (.int 0)) := by
  refine Ct.mk "java/lang/StringLatin1" "newString" rfl rfl (a0 := a0) (plainFor_of_name opn6) hO hE (fun x q => nomatch q) ?_
  intro K T W
  rw [oef_orw_nsL]
  refine gIloadN W d18_0 rfl rfl ?_
  refine gIfYes (pc' := 7) W d18_1 ((if0 _ _).trans (feq (by decide)).2) (by decide) rfl ?_
  refine wNewO W d18_7 (ow99 hw) (ow6 hw) (ow7 hw) (by decide) (by decide) rfl fun T752 h754 a755 W753 E756 g757 A758 D759  => ?_
  have f760 : Fld Z h754 a755 "java/lang/String" "value" "[B" .null := D759 (Or.inr (ow20 hw)) (ty := .array .byte) (by decide)
  have f761 : Fld Z h754 a755 "java/lang/String" "coder" "B" (.int (0 : Int32)) := D759 (Or.inr (ow21 hw)) (ty := .byte) (by decide)
  refine gDup W753 d18_10 rfl rfl ?_
  refine gAloadN W753 d18_11 rfl rfl rfl ?_
  refine gIloadN W753 d18_12 rfl rfl ?_
  refine gIloadN W753 d18_13 rfl rfl ?_
  refine gIloadN W753 d18_14 rfl rfl ?_
  refine gIadd (z := (40 : Int32)) W753 d18_15 (by decide) rfl ?_
  have f762 := q0.ext E756
  refine wStatic (y := (⟨"java/util/Arrays", "copyOfRange", "([BII)[B"⟩ : MethodName)) (Wd := 2) (argsL := [(.ref u), (.int (0 : Int32)), (.int (40 : Int32))]) (rest := [(.ref a755), (.ref a755)]) W753 d18_16 (ow100 hw) (ow101 hw) (ow102 hw) (ow103 hw) (by decide) (Cb.ct (ors_cr l Z a0 hw hE (u) (ku) (n) (us) (40) h754 W753.old f762 hn h40 (by omega) (by decide) ) (ow103 hw) (ow102 hw) hE (by decide) (by decide)) (by simp) rfl (lenOf opd17 rfl) rfl (Nat.le_of_eq rfl) (by decide) (by decide) rfl fun v767 so768 T763 h765 W764 kp766 sp769 q770 => ?_
  obtain ⟨r771, kr772, rfl, rfl, f773, f774⟩ := q770
  show Go K _ T763 19 #[.val (.ref u), .val (.int (0 : Int32)), .val (.int (40 : Int32))] [(.ref r771), (.ref a755), (.ref a755)]
  refine gIconst (z := (0 : Int32)) W764 d18_19 rfl rfl ?_
  have f775 := A758.keep kp766
  have f776 := f760.keep kp766 nin0
  have f777 := f761.keep kp766 nin0
  refine wSpecial (y := (⟨"java/lang/String", "<init>", "([BB)V"⟩ : MethodName)) (Wd := 1) (a := a755) (argsL := [(.ref r771), (.int (0 : Int32))]) (rest := [(.ref a755)]) W764 d18_20 rfl (ow118 hw) (ow119 hw) (ow120 hw) (by decide) (Cb.ct (orw_ib0 l Z a0 hw hE (a755) (r771) h765 W764.old f775 f776 f777 (Nat.le_trans W.old.2.1 (Nat.le_of_eq g757.symm))) (ow120 hw) (ow7 hw) hE (by decide) (by decide)) (by simp) rfl (lenOf opd26 rfl) rfl (Nat.le_of_eq rfl) (by decide) (by decide) rfl fun v782 so783 T778 h780 W779 kp781 sp784 q785 => ?_
  obtain ⟨rfl, rfl, f786, f787, f788⟩ := q785
  show Go K _ T778 23 #[.val (.ref u), .val (.int (0 : Int32)), .val (.int (40 : Int32))] [(.ref a755)]
  have ne789 : a755 ≠ r771 := Nat.ne_of_lt (Nat.lt_of_lt_of_le A758.lt f773)
  have f790 := f774.keep kp781 (ninS (Ne.symm ne789) nin0)
  exact wRetA (so := []) (t := .object "java/lang/String") W779 d18_23 rfl rfl rfl (by decide) (by decide) (fun _ q => nomatch q) ⟨a755, r771, kr772, rfl, rfl, f786, f787, f788, f790⟩
theorem d53_0 : decode jdk_52_method_22_code 0 = .ok (.iload_n 1, 1) := by decide +kernel
theorem d53_1 : decode jdk_52_method_22_code 1 = .ok (.iload 4, 2) := by decide +kernel
theorem d53_3 : decode jdk_52_method_22_code 3 = .ok (.aload_n 0, 1) := by decide +kernel
theorem d53_4 : decode jdk_52_method_22_code 4 = .ok (.invokestatic 173, 3) := by decide +kernel
theorem ow252 {a0 : Array Value} {Z : State} (hw : ∀ d ∈ tables_1, d.before a0 Z = true) : (Jvm.Cond.methodLink "java/lang/StringUTF16" (173 : Nat) ({ cls := "java/lang/StringUTF16", name := "checkBoundsOffCount", desc := "(II[B)V" } : Jvm.MethodName)).before a0 Z = true := hw _ (List.mem_of_getElem? (i := 252) rfl)
theorem ow254 {a0 : Array Value} {Z : State} (hw : ∀ d ∈ tables_1, d.before a0 Z = true) : (Jvm.Cond.code ({ cls := "java/lang/StringUTF16", name := "checkBoundsOffCount", desc := "(II[B)V" } : Jvm.MethodName) jdk_52_method_94_code (3 : Nat) (Option.none : Option Jvm.ClassFile.FieldType)).before a0 Z = true := hw _ (List.mem_of_getElem? (i := 254) rfl)
theorem opd27 : parseMethodDescriptor "(II[B)V" = some ⟨[.int, .int, .array .byte], none⟩ := by decide +kernel
theorem ow253 {a0 : Array Value} {Z : State} (hw : ∀ d ∈ tables_1, d.before a0 Z = true) : (Jvm.Cond.static ({ cls := "java/lang/StringUTF16", name := "checkBoundsOffCount", desc := "(II[B)V" } : Jvm.MethodName)).before a0 Z = true := hw _ (List.mem_of_getElem? (i := 253) rfl)
theorem d53_7 : decode jdk_52_method_22_code 7 = .ok (.iconst 0, 1) := by decide +kernel
theorem d53_8 : decode jdk_52_method_22_code 8 = .ok (.istore 5, 2) := by decide +kernel
theorem d53_10 : decode jdk_52_method_22_code 10 = .ok (.iload 5, 2) := by decide +kernel
theorem d53_12 : decode jdk_52_method_22_code 12 = .ok (.iload 4, 2) := by decide +kernel
theorem d53_14 : decode jdk_52_method_22_code 14 = .ok (.if_icmp .ge 39, 3) := by decide +kernel
theorem d53_53 : decode jdk_52_method_22_code 53 = .ok (.iload 4, 2) := by decide +kernel
theorem d53_55 : decode jdk_52_method_22_code 55 = .ok (.ireturn, 1) := by decide +kernel
theorem d53_17 : decode jdk_52_method_22_code 17 = .ok (.aload_n 0, 1) := by decide +kernel
theorem d53_18 : decode jdk_52_method_22_code 18 = .ok (.iload_n 1, 1) := by decide +kernel
theorem d53_19 : decode jdk_52_method_22_code 19 = .ok (.invokestatic 71, 3) := by decide +kernel
theorem d53_22 : decode jdk_52_method_22_code 22 = .ok (.istore 6, 2) := by decide +kernel
theorem d53_24 : decode jdk_52_method_22_code 24 = .ok (.iload 6, 2) := by decide +kernel
theorem d53_26 : decode jdk_52_method_22_code 26 = .ok (.sipush 255, 3) := by decide +kernel
theorem d53_29 : decode jdk_52_method_22_code 29 = .ok (.if_icmp .le 6, 3) := by decide +kernel
theorem d53_32 : decode jdk_52_method_22_code 32 = .ok (.iload 5, 2) := by decide +kernel
theorem d53_34 : decode jdk_52_method_22_code 34 = .ok (.ireturn, 1) := by decide +kernel
theorem d53_35 : decode jdk_52_method_22_code 35 = .ok (.aload_n 2, 1) := by decide +kernel
theorem d53_36 : decode jdk_52_method_22_code 36 = .ok (.iload_n 3, 1) := by decide +kernel
theorem d53_37 : decode jdk_52_method_22_code 37 = .ok (.iload 6, 2) := by decide +kernel
theorem d53_39 : decode jdk_52_method_22_code 39 = .ok (.i2b, 1) := by decide +kernel
theorem d53_40 : decode jdk_52_method_22_code 40 = .ok (.bastore, 1) := by decide +kernel
theorem d53_41 : decode jdk_52_method_22_code 41 = .ok (.iinc 1 1, 3) := by decide +kernel
theorem d53_44 : decode jdk_52_method_22_code 44 = .ok (.iinc 3 1, 3) := by decide +kernel
theorem d53_47 : decode jdk_52_method_22_code 47 = .ok (.iinc 5 1, 3) := by decide +kernel
theorem d53_50 : decode jdk_52_method_22_code 50 = .ok (.goto (-40), 3) := by decide +kernel
theorem oef_orw_cb5 (m_ : MethodId) (u : Addr) (d : Addr)  : (entryFrame m_ #[(.ref u), (.int (0 : Int32)), (.ref d), (.int (0 : Int32)), (.int (40 : Int32))] 7).locals = #[.val (.ref u), .val (.int (0 : Int32)), .val (.ref d), .val (.int (0 : Int32)), .val (.int (40 : Int32)), .unset, .unset] := by first | (simp [entryFrame, argsToLocals, Value.category]; done) | rfl
set_option maxRecDepth 65536 in
set_option maxHeartbeats 40000000 in
theorem orw_cb5 (l : Launch) (Z : State) (a0 : Array Value) (hw : ∀ d ∈ tables_1, d.before a0 Z = true) (hE : EW Z a0 consts_1) (u : Addr) (ku : ClassId) (cs : List Int32) (d : Addr) (kd : ClassId) (fm : Value) (h : Heap) (hO : Old Z Z.heap.size h) (SA : (Sta Z Z.heap "java/lang/StringUTF16" "$assertionsDisabled" "Z" (.int (1 : Int32)))) (SH : (Sta Z Z.heap "java/lang/StringUTF16" "HI_BYTE_SHIFT" "I" (.int (0 : Int32)))) (SL : (Sta Z Z.heap "java/lang/StringUTF16" "LO_BYTE_SHIFT" "I" (.int (8 : Int32)))) (SF : (Sta Z Z.heap "jdk/internal/util/Preconditions" "SIOOBE_FORMATTER" "Ljava/util/function/BiFunction;" fm)) (rf : (fm.isRef = true)) (qu : Arv Z h u ku .byte (Int32.ofNat (2 * cs.length)) (StrChars.Road.wideBytes cs) (.int 0)) (qd : Arv Z h d kd .byte (Int32.ofNat 40) (List.replicate 40 (.int 0)) (.int 0)) (h80 : (cs.length ≤ 80)) (h40 : (40 < cs.length)) (h16 : (∀ c ∈ cs, B16 c)) (nud : (u ≠ d)) (ge_d : Z.heap.size ≤ d) :
    Ct l Z consts_1 (⟨"java/lang/StringUTF16", "compress", "([BI[BII)I"⟩ : MethodName) jdk_52_method_22_code 7 (Option.some Jvm.ClassFile.FieldType.int) ⟨3, 0, 0, 50⟩ #[(.ref u), (.int (0 : Int32)), (.ref d), (.int (0 : Int32)), (.int (40 : Int32))] h [d] (fun rv' hp' so' => ∃ i : Nat, ∃ vs : List Value, rv' = some (.int (Int32.ofNat i)) ∧ so' = [] ∧ ((i = 40 ∧ vs = ((cs.take 40).map (fun c => Value.int (StrChars.lo8 c))) ∧ ∀ c ∈ cs.take 40, ¬ 255 < c) ∨ (i < 40 ∧ 255 < cs.getD i 0)) ∧ Arv Z hp' d kd .byte (Int32.ofNat 40) vs (.int 0)) := by
  refine Ct.mk "java/lang/StringUTF16" "compress" rfl rfl (a0 := a0) (plainFor_of_name opn1) hO hE (fun x q => by simp at q; subst q; exact ge_d) ?_
  intro K T W
  rw [oef_orw_cb5]
  refine gIloadN W d53_0 rfl rfl ?_
  refine gIload W d53_1 rfl rfl ?_
  refine gAloadN W d53_3 rfl rfl rfl ?_
  refine wStatic (y := (⟨"java/lang/StringUTF16", "checkBoundsOffCount", "(II[B)V"⟩ : MethodName)) (Wd := 0) (argsL := [(.int (0 : Int32)), (.int (40 : Int32)), (.ref u)]) (rest := []) W d53_4 (ow252 hw) (ow253 hw) (ow50 hw) (ow254 hw) (by decide) (Cb.ct (orw_cbu l Z a0 hw hE (0) (40) (cs.length) (u) (ku) ((StrChars.Road.wideBytes cs)) (fm) h W.old (by omega) (by omega) SF rf qu ) (ow254 hw) (ow50 hw) hE (by decide) (by decide)) (by simp) rfl (lenOf opd27 rfl) rfl (Nat.le_of_eq rfl) (by decide) (by decide) rfl fun v795 so796 T791 h793 W792 kp794 sp797 q798 => ?_
  obtain ⟨rfl, rfl⟩ := q798
  show Go K _ T791 7 #[.val (.ref u), .val (.int (0 : Int32)), .val (.ref d), .val (.int (0 : Int32)), .val (.int (40 : Int32)), .unset, .unset] []
  refine gIconst (z := (0 : Int32)) W792 d53_7 rfl rfl ?_
  refine gIstore (ls' := #[.val (.ref u), .val (.int (0 : Int32)), .val (.ref d), .val (.int (0 : Int32)), .val (.int (40 : Int32)), .val (.int (0 : Int32)), .unset]) W792 d53_8 rfl rfl ?_
  have loop : ∀ k i : Nat, i + k = 40 → ∀ (T799 : State) (h801 : Heap) (vs : List Value) (sl : Slot), Wk l Z consts_1 "java/lang/StringUTF16" "compress" jdk_52_method_22_code 7 (Option.some Jvm.ClassFile.FieldType.int) ⟨3, 0, 0, 50⟩ [d] h K [d] T799 h801 0 0 → Arv Z h801 u ku .byte (Int32.ofNat (2 * cs.length)) (StrChars.Road.wideBytes cs) (.int 0) → Arv Z h801 d kd .byte (Int32.ofNat 40) vs (.int 0) → vs = (cs.take i).map (fun c => Value.int (StrChars.lo8 c)) ++ List.replicate (40 - i) (Value.int 0) → (sl = .unset ∨ ∃ x : Int32, sl = .val (.int x)) → (∀ c ∈ cs.take i, ¬ 255 < c) → Go K (Pst Z consts_1 [d] K.2.2.1 (⟨3, 0, 0, 50⟩ : Room).cells (⟨3, 0, 0, 50⟩ : Room).slots (fun rv' hp' so' => ∃ i : Nat, ∃ vs : List Value, rv' = some (.int (Int32.ofNat i)) ∧ so' = [] ∧ ((i = 40 ∧ vs = ((cs.take 40).map (fun c => Value.int (StrChars.lo8 c))) ∧ ∀ c ∈ cs.take 40, ¬ 255 < c) ∨ (i < 40 ∧ 255 < cs.getD i 0)) ∧ Arv Z hp' d kd .byte (Int32.ofNat 40) vs (.int 0))) T799 10 #[.val (.ref u), .val (.int (Int32.ofNat i)), .val (.ref d), .val (.int (Int32.ofNat i)), .val (.int (40 : Int32)), .val (.int (Int32.ofNat i)), sl] [] := by
    intro k
    induction k with
    | zero =>
      intro i hik T799 h801 vs sl W800 qu1 qd1 hvs hsl inv
      obtain rfl : i = 40 := by omega
      refine gIload W800 d53_10 rfl rfl ?_
      refine gIload W800 d53_12 rfl rfl ?_
      refine gIcmpYes (pc' := 53) W800 d53_14 (flt (by decide)).2.1 (by decide) rfl ?_
      refine gIload W800 d53_53 rfl rfl ?_
      exact wRetI (so := []) (t := .int) W800 d53_55 (by simp) rfl (by decide) (by decide) (fun _ q => nomatch q) ⟨40, vs, rfl, rfl, (Or.inl ⟨rfl, by rw [hvs]; simp, inv⟩), qd1⟩
    | succ k ih =>
      intro i hik T799 h801 vs sl W800 qu1 qd1 hvs hsl inv
      have hi : i < 40 := by omega
      have hst : ∀ x : Int32, storeLocals #[.val (.ref u), .val (.int (Int32.ofNat i)), .val (.ref d), .val (.int (Int32.ofNat i)), .val (.int (40 : Int32)), .val (.int (Int32.ofNat i)), sl] 6 (.int x) = some #[.val (.ref u), .val (.int (Int32.ofNat i)), .val (.ref d), .val (.int (Int32.ofNat i)), .val (.int (40 : Int32)), .val (.int (Int32.ofNat i)), .val (.int x)] := fun x => by rcases hsl with rfl | ⟨y, rfl⟩ <;> rfl
      refine gIload W800 d53_10 rfl rfl ?_
      refine gIload W800 d53_12 rfl rfl ?_
      refine gIcmpNo W800 d53_14 (tlt ((ofNat_ltc (P := 40) (by decide) (by omega)).mpr hi)).2.1 rfl ?_
      refine gAloadN W800 d53_17 rfl rfl rfl ?_
      refine gIloadN W800 d53_18 rfl rfl ?_
      refine wStatic (y := (⟨"java/lang/StringUTF16", "getChar", "([BI)C"⟩ : MethodName)) (Wd := 0) (argsL := [(.ref u), (.int (Int32.ofNat i))]) (rest := []) W800 d53_19 (ow239 hw) (ow240 hw) (ow50 hw) (ow241 hw) (by decide) (Cb.ct (oru_get l Z a0 hw hE (u) (ku) ((2 * cs.length)) ((StrChars.Road.wideBytes cs)) (i) ((cs.getD i 0)) h801 W800.old SA SH SL qu1 (by omega) (by omega) (StrChars.Road.wide_lo _ _ _ (by omega)) (StrChars.Road.wide_hi _ _ _ (by omega)) (B16.mem h16 (by omega)) ) (ow241 hw) (ow50 hw) hE (by decide) (by decide)) (by simp) rfl (lenOf opd6 rfl) rfl (Nat.le_of_eq rfl) (by decide) (by decide) rfl fun v806 so807 T802 h804 W803 kp805 sp808 q809 => ?_
      obtain ⟨rfl, rfl⟩ := q809
      show Go K _ T802 22 #[.val (.ref u), .val (.int (Int32.ofNat i)), .val (.ref d), .val (.int (Int32.ofNat i)), .val (.int (40 : Int32)), .val (.int (Int32.ofNat i)), sl] [(.int (cs.getD i 0))]
      refine gIstore (ls' := #[.val (.ref u), .val (.int (Int32.ofNat i)), .val (.ref d), .val (.int (Int32.ofNat i)), .val (.int (40 : Int32)), .val (.int (Int32.ofNat i)), .val (.int (cs.getD i 0))]) W803 d53_22 (hst _) rfl ?_
      refine gIload W803 d53_24 rfl rfl ?_
      refine gSipush (z := (255 : Int32)) W803 d53_26 rfl rfl ?_
      by_cases c810 : (255 : Int32) < (cs.getD i 0)
      · refine gIcmpNo W803 d53_29 (tlt c810).2.2.2 rfl ?_
        refine gIload W803 d53_32 rfl rfl ?_
        have f811 := qd1.keep kp805 nin0
        exact wRetI (so := []) (t := .int) W803 d53_34 (by simp) rfl (by decide) (by decide) (fun _ q => nomatch q) ⟨i, vs, rfl, rfl, (Or.inr ⟨hi, c810⟩), f811⟩
      · refine gIcmpYes (pc' := 35) W803 d53_29 (flt c810).2.2.2 (by decide) rfl ?_
        refine gAloadN W803 d53_35 rfl rfl rfl ?_
        refine gIloadN W803 d53_36 rfl rfl ?_
        refine gIload W803 d53_37 rfl rfl ?_
        refine gI2B (z := (StrChars.lo8 (cs.getD i 0))) W803 d53_39 rfl rfl ?_
        have f812 := qd1.keep kp805 nin0
        refine wStB (y := (StrChars.lo8 (cs.getD i 0))) W803 d53_40 (by simp) f812 (ofNat_inb (n := 40) hi (by decide)) (lo8_idem _) i (ofNat_clamp (by omega)) (by rw [hvs]; simp; omega) rfl fun T813 h815 W814 wr816 A817 => ?_
        refine gIinc (z := (Int32.ofNat (i + 1))) (ls' := #[.val (.ref u), .val (.int (Int32.ofNat (i + 1))), .val (.ref d), .val (.int (Int32.ofNat i)), .val (.int (40 : Int32)), .val (.int (Int32.ofNat i)), .val (.int (cs.getD i 0))]) W814 d53_41 rfl (ofNat_succ (by omega)) rfl rfl ?_
        refine gIinc (z := (Int32.ofNat (i + 1))) (ls' := #[.val (.ref u), .val (.int (Int32.ofNat (i + 1))), .val (.ref d), .val (.int (Int32.ofNat (i + 1))), .val (.int (40 : Int32)), .val (.int (Int32.ofNat i)), .val (.int (cs.getD i 0))]) W814 d53_44 rfl (ofNat_succ (by omega)) rfl rfl ?_
        refine gIinc (z := (Int32.ofNat (i + 1))) (ls' := #[.val (.ref u), .val (.int (Int32.ofNat (i + 1))), .val (.ref d), .val (.int (Int32.ofNat (i + 1))), .val (.int (40 : Int32)), .val (.int (Int32.ofNat (i + 1))), .val (.int (cs.getD i 0))]) W814 d53_47 rfl (ofNat_succ (by omega)) rfl rfl ?_
        refine gGoto (pc' := 10) W814 d53_50 (by decide) rfl ?_
        have f818 := qu1.keep kp805 nin0
        have f819 := f818.other wr816 nud
        exact ih (i + 1) (by omega) _ _ _ _ W814 f819 A817 (by rw [hvs]; exact step40 hi (by omega)) (Or.inr ⟨_, rfl⟩) (all40 inv (by omega) c810)
  have f820 := qu.keep kp794 nin0
  have f821 := qd.keep kp794 nin0
  exact loop 40 0 (by omega) _ _ _ _ W792 f820 f821 (by simp) (Or.inl rfl) (fun c q => by simp at q)
theorem d52_0 : decode jdk_52_method_17_code 0 = .ok (.iload_n 2, 1) := by decide +kernel
theorem d52_1 : decode jdk_52_method_17_code 1 = .ok (.newarray .byte, 2) := by decide +kernel
theorem d52_3 : decode jdk_52_method_17_code 3 = .ok (.astore_n 3, 1) := by decide +kernel
theorem d52_4 : decode jdk_52_method_17_code 4 = .ok (.aload_n 0, 1) := by decide +kernel
theorem d52_5 : decode jdk_52_method_17_code 5 = .ok (.iload_n 1, 1) := by decide +kernel
theorem d52_6 : decode jdk_52_method_17_code 6 = .ok (.aload_n 3, 1) := by decide +kernel
theorem d52_7 : decode jdk_52_method_17_code 7 = .ok (.iconst 0, 1) := by decide +kernel
theorem d52_8 : decode jdk_52_method_17_code 8 = .ok (.iload_n 2, 1) := by decide +kernel
theorem d52_9 : decode jdk_52_method_17_code 9 = .ok (.invokestatic 123, 3) := by decide +kernel
theorem ow249 {a0 : Array Value} {Z : State} (hw : ∀ d ∈ tables_1, d.before a0 Z = true) : (Jvm.Cond.methodLink "java/lang/StringUTF16" (123 : Nat) ({ cls := "java/lang/StringUTF16", name := "compress", desc := "([BI[BII)I" } : Jvm.MethodName)).before a0 Z = true := hw _ (List.mem_of_getElem? (i := 249) rfl)
theorem ow251 {a0 : Array Value} {Z : State} (hw : ∀ d ∈ tables_1, d.before a0 Z = true) : (Jvm.Cond.code ({ cls := "java/lang/StringUTF16", name := "compress", desc := "([BI[BII)I" } : Jvm.MethodName) jdk_52_method_22_code (7 : Nat) (Option.some Jvm.ClassFile.FieldType.int)).before a0 Z = true := hw _ (List.mem_of_getElem? (i := 251) rfl)
theorem opd28 : parseMethodDescriptor "([BI[BII)I" = some ⟨[.array .byte, .int, .array .byte, .int, .int], some (.int)⟩ := by decide +kernel
theorem ow250 {a0 : Array Value} {Z : State} (hw : ∀ d ∈ tables_1, d.before a0 Z = true) : (Jvm.Cond.static ({ cls := "java/lang/StringUTF16", name := "compress", desc := "([BI[BII)I" } : Jvm.MethodName)).before a0 Z = true := hw _ (List.mem_of_getElem? (i := 250) rfl)
theorem d52_12 : decode jdk_52_method_17_code 12 = .ok (.istore 4, 2) := by decide +kernel
theorem d52_14 : decode jdk_52_method_17_code 14 = .ok (.iload 4, 2) := by decide +kernel
theorem d52_16 : decode jdk_52_method_17_code 16 = .ok (.iload_n 2, 1) := by decide +kernel
theorem d52_17 : decode jdk_52_method_17_code 17 = .ok (.if_icmp .eq 47, 3) := by decide +kernel
theorem d52_64 : decode jdk_52_method_17_code 64 = .ok (.aload_n 3, 1) := by decide +kernel
theorem d52_65 : decode jdk_52_method_17_code 65 = .ok (.areturn, 1) := by decide +kernel
theorem d52_20 : decode jdk_52_method_17_code 20 = .ok (.aload_n 0, 1) := by decide +kernel
theorem d52_21 : decode jdk_52_method_17_code 21 = .ok (.iload_n 1, 1) := by decide +kernel
theorem d52_22 : decode jdk_52_method_17_code 22 = .ok (.iconst 1, 1) := by decide +kernel
theorem d52_23 : decode jdk_52_method_17_code 23 = .ok (.ishl, 1) := by decide +kernel
theorem d52_24 : decode jdk_52_method_17_code 24 = .ok (.iload_n 1, 1) := by decide +kernel
theorem d52_25 : decode jdk_52_method_17_code 25 = .ok (.iload_n 2, 1) := by decide +kernel
theorem d52_26 : decode jdk_52_method_17_code 26 = .ok (.iadd, 1) := by decide +kernel
theorem d52_27 : decode jdk_52_method_17_code 27 = .ok (.invokestatic 11, 3) := by decide +kernel
theorem d52_30 : decode jdk_52_method_17_code 30 = .ok (.invokestatic 126, 3) := by decide +kernel
theorem ow264 {a0 : Array Value} {Z : State} (hw : ∀ d ∈ tables_1, d.before a0 Z = true) : (Jvm.Cond.methodLink "java/lang/StringUTF16" (126 : Nat) ({ cls := "java/util/Arrays", name := "copyOfRange", desc := "([BII)[B" } : Jvm.MethodName)).before a0 Z = true := hw _ (List.mem_of_getElem? (i := 264) rfl)
theorem d52_33 : decode jdk_52_method_17_code 33 = .ok (.astore 5, 2) := by decide +kernel
theorem d52_35 : decode jdk_52_method_17_code 35 = .ok (.aload 5, 2) := by decide +kernel
theorem d52_37 : decode jdk_52_method_17_code 37 = .ok (.iload 4, 2) := by decide +kernel
theorem d52_39 : decode jdk_52_method_17_code 39 = .ok (.invokestatic 71, 3) := by decide +kernel
theorem d52_42 : decode jdk_52_method_17_code 42 = .ok (.sipush 255, 3) := by decide +kernel
theorem d52_45 : decode jdk_52_method_17_code 45 = .ok (.if_icmp .gt 16, 3) := by decide +kernel
theorem d52_61 : decode jdk_52_method_17_code 61 = .ok (.aload 5, 2) := by decide +kernel
theorem d52_63 : decode jdk_52_method_17_code 63 = .ok (.areturn, 1) := by decide +kernel
theorem oef_orw_c3 (m_ : MethodId) (u : Addr)  : (entryFrame m_ #[(.ref u), (.int (0 : Int32)), (.int (40 : Int32))] 6).locals = #[.val (.ref u), .val (.int (0 : Int32)), .val (.int (40 : Int32)), .unset, .unset, .unset] := by first | (simp [entryFrame, argsToLocals, Value.category]; done) | rfl
set_option maxRecDepth 65536 in
set_option maxHeartbeats 40000000 in
theorem orw_c3 (l : Launch) (Z : State) (a0 : Array Value) (hw : ∀ d ∈ tables_1, d.before a0 Z = true) (hE : EW Z a0 consts_1) (u : Addr) (ku : ClassId) (cs : List Int32) (fm : Value) (h : Heap) (hO : Old Z Z.heap.size h) (SA : (Sta Z Z.heap "java/lang/StringUTF16" "$assertionsDisabled" "Z" (.int (1 : Int32)))) (SH : (Sta Z Z.heap "java/lang/StringUTF16" "HI_BYTE_SHIFT" "I" (.int (0 : Int32)))) (SL : (Sta Z Z.heap "java/lang/StringUTF16" "LO_BYTE_SHIFT" "I" (.int (8 : Int32)))) (SF : (Sta Z Z.heap "jdk/internal/util/Preconditions" "SIOOBE_FORMATTER" "Ljava/util/function/BiFunction;" fm)) (rf : (fm.isRef = true)) (q5 : Arv Z h u ku .byte (Int32.ofNat (2 * cs.length)) (StrChars.Road.wideBytes cs) (.int 0)) (h80 : (cs.length ≤ 80)) (h40 : (40 < cs.length)) (h16 : (∀ c ∈ cs, B16 c))  :
    Ct l Z consts_1 (⟨"java/lang/StringUTF16", "compress", "([BII)[B"⟩ : MethodName) jdk_52_method_17_code 6 (Option.some (Jvm.ClassFile.FieldType.array Jvm.ClassFile.FieldType.byte)) ⟨4, 2, 140, 100⟩ #[(.ref u), (.int (0 : Int32)), (.int (40 : Int32))] h [] (fun rv' hp' so' => ∃ r : Addr, ∃ kr : ClassId, ∃ N : Int32, ∃ vs : List Value, rv' = some (.ref r) ∧ so' = [] ∧ (h.size ≤ r) ∧ (CodB (cs.take 40) N vs) ∧ Arv Z hp' r kr .byte N vs (.int 0)) := by
  refine Ct.mk "java/lang/StringUTF16" "compress" rfl rfl (a0 := a0) (plainFor_of_name opn1) hO hE (fun x q => nomatch q) ?_
  intro K T W
  rw [oef_orw_c3]
  refine gIloadN W d52_0 rfl rfl ?_
  refine wNewE (cap := 40) (ad := "[B") W d52_1 (ow19 hw) (by decide) (by decide) (by decide) (by decide) (by decide) (by decide) rfl fun T822 h824 a825 k826 W823 E827 g828 A829 E830 => ?_
  have f831 : Arv Z h824 a825 k826 .byte (40 : Int32) (List.replicate 40 (.int 0)) (.int 0) := A829 40
  refine gAstoreN (ls' := #[.val (.ref u), .val (.int (0 : Int32)), .val (.int (40 : Int32)), .val (.ref a825), .unset, .unset]) W823 d52_3 rfl rfl rfl ?_
  refine gAloadN W823 d52_4 rfl rfl rfl ?_
  refine gIloadN W823 d52_5 rfl rfl ?_
  refine gAloadN W823 d52_6 rfl rfl rfl ?_
  refine gIconst (z := (0 : Int32)) W823 d52_7 rfl rfl ?_
  refine gIloadN W823 d52_8 rfl rfl ?_
  have ne832 : u ≠ a825 := Nat.ne_of_lt (Nat.lt_of_lt_of_le q5.lt (Nat.le_of_eq g828.symm))
  have f833 := q5.ext E827
  refine wStatic (y := (⟨"java/lang/StringUTF16", "compress", "([BI[BII)I"⟩ : MethodName)) (Wd := 0) (argsL := [(.ref u), (.int (0 : Int32)), (.ref a825), (.int (0 : Int32)), (.int (40 : Int32))]) (rest := []) W823 d52_9 (ow249 hw) (ow250 hw) (ow50 hw) (ow251 hw) (by decide) (Cb.ct (orw_cb5 l Z a0 hw hE (u) (ku) (cs) (a825) (k826) (fm) h824 W823.old SA SH SL SF rf f833 f831 h80 h40 h16 ne832 (Nat.le_trans W.old.2.1 (Nat.le_of_eq g828.symm))) (ow251 hw) (ow50 hw) hE (by decide) (by decide)) (by simp) rfl (lenOf opd28 rfl) rfl (Nat.le_of_eq rfl) (by decide) (by decide) rfl fun v838 so839 T834 h836 W835 kp837 sp840 q841 => ?_
  obtain ⟨i842, vs843, rfl, rfl, f844, f845⟩ := q841
  show Go K _ T834 12 #[.val (.ref u), .val (.int (0 : Int32)), .val (.int (40 : Int32)), .val (.ref a825), .unset, .unset] [(.int (Int32.ofNat i842))]
  refine gIstore (ls' := #[.val (.ref u), .val (.int (0 : Int32)), .val (.int (40 : Int32)), .val (.ref a825), .val (.int (Int32.ofNat i842)), .unset]) W835 d52_12 rfl rfl ?_
  refine gIload W835 d52_14 rfl rfl ?_
  refine gIloadN W835 d52_16 rfl rfl ?_
  rcases f844 with ⟨ei, ev, hall⟩ | ⟨hi, hc⟩
  · refine gIcmpYes (pc' := 64) W835 d52_17 (teq (congrArg Int32.ofNat ei)).1 (by decide) rfl ?_
    refine gAloadN W835 d52_64 rfl rfl rfl ?_
    exact wRetA (so := []) (t := .array .byte) W835 d52_65 rfl rfl rfl (by decide) (by decide) (fun _ q => nomatch q) ⟨a825, k826, (Int32.ofNat 40), vs843, rfl, rfl, (Nat.le_of_eq g828.symm), (Or.inl ⟨rfl, ev, hall⟩), f845⟩
  · refine gIcmpNo W835 d52_17 (feq (fun q => absurd (ofNat_inj (b := 40) (by omega) (by decide) q) (by omega))).1 rfl ?_
    refine gAloadN W835 d52_20 rfl rfl rfl ?_
    refine gIloadN W835 d52_21 rfl rfl ?_
    refine gIconst (z := (1 : Int32)) W835 d52_22 rfl rfl ?_
    refine gIshl (z := (0 : Int32)) W835 d52_23 (by decide) rfl ?_
    refine gIloadN W835 d52_24 rfl rfl ?_
    refine gIloadN W835 d52_25 rfl rfl ?_
    refine gIadd (z := (40 : Int32)) W835 d52_26 (by decide) rfl ?_
    refine wStatic (y := (⟨"java/lang/StringUTF16", "newBytesLength", "(I)I"⟩ : MethodName)) (Wd := 2) (argsL := [(.int (40 : Int32))]) (rest := [(.int (0 : Int32)), (.ref u)]) W835 d52_27 (ow229 hw) (ow230 hw) (ow50 hw) (ow231 hw) (by decide) (Cb.ct (oru_nbl l Z a0 hw hE ((40 : Int32)) ((80 : Int32)) h836 W835.old (by decide) (by decide) (by decide) ) (ow231 hw) (ow50 hw) hE (by decide) (by decide)) (by simp) rfl (lenOf opd1 rfl) rfl (Nat.le_of_eq rfl) (by decide) (by decide) rfl fun v850 so851 T846 h848 W847 kp849 sp852 q853 => ?_
    obtain ⟨rfl, rfl⟩ := q853
    show Go K _ T846 30 #[.val (.ref u), .val (.int (0 : Int32)), .val (.int (40 : Int32)), .val (.ref a825), .val (.int (Int32.ofNat i842)), .unset] [(.int (80 : Int32)), (.int (0 : Int32)), (.ref u)]
    have f854 := f833.keep kp837 (ninS ne832 nin0)
    have f855 := f854.keep kp849 nin0
    refine wStatic (y := (⟨"java/util/Arrays", "copyOfRange", "([BII)[B"⟩ : MethodName)) (Wd := 0) (argsL := [(.ref u), (.int (0 : Int32)), (.int (80 : Int32))]) (rest := []) W847 d52_30 (ow264 hw) (ow101 hw) (ow102 hw) (ow103 hw) (by decide) (Cb.ct (ors_cr l Z a0 hw hE (u) (ku) ((2 * cs.length)) ((StrChars.Road.wideBytes cs)) (80) h848 W847.old f855 (wide_len cs) (by omega) (by omega) (by decide) ) (ow103 hw) (ow102 hw) hE (by decide) (by decide)) (by simp) rfl (lenOf opd17 rfl) rfl (Nat.le_of_eq rfl) (by decide) (by decide) rfl fun v860 so861 T856 h858 W857 kp859 sp862 q863 => ?_
    obtain ⟨r864, kr865, rfl, rfl, f866, f867⟩ := q863
    show Go K _ T856 33 #[.val (.ref u), .val (.int (0 : Int32)), .val (.int (40 : Int32)), .val (.ref a825), .val (.int (Int32.ofNat i842)), .unset] [(.ref r864)]
    have f868 : Arv Z h858 r864 kr865 .byte (Int32.ofNat 80) (StrChars.Road.wideBytes (cs.take 40)) (.int 0) := arvL f867 (wide_take cs 40)
    refine gAstore (ls' := #[.val (.ref u), .val (.int (0 : Int32)), .val (.int (40 : Int32)), .val (.ref a825), .val (.int (Int32.ofNat i842)), .val (.ref r864)]) W857 d52_33 rfl rfl rfl ?_
    refine gAload W857 d52_35 rfl rfl rfl ?_
    refine gIload W857 d52_37 rfl rfl ?_
    refine wStatic (y := (⟨"java/lang/StringUTF16", "getChar", "([BI)C"⟩ : MethodName)) (Wd := 0) (argsL := [(.ref r864), (.int (Int32.ofNat i842))]) (rest := []) W857 d52_39 (ow239 hw) (ow240 hw) (ow50 hw) (ow241 hw) (by decide) (Cb.ct (oru_get l Z a0 hw hE (r864) (kr865) (80) ((StrChars.Road.wideBytes (cs.take 40))) (i842) ((cs.getD i842 0)) h858 W857.old SA SH SL f868 (by omega) (by decide) (by rw [StrChars.Road.wide_lo _ _ _ (by rw [List.length_take]; omega), take_getD (by omega)]) (by rw [StrChars.Road.wide_hi _ _ _ (by rw [List.length_take]; omega), take_getD (by omega)]) (B16.mem h16 (by omega)) ) (ow241 hw) (ow50 hw) hE (by decide) (by decide)) (by simp) rfl (lenOf opd6 rfl) rfl (Nat.le_of_eq rfl) (by decide) (by decide) rfl fun v873 so874 T869 h871 W870 kp872 sp875 q876 => ?_
    obtain ⟨rfl, rfl⟩ := q876
    show Go K _ T869 42 #[.val (.ref u), .val (.int (0 : Int32)), .val (.int (40 : Int32)), .val (.ref a825), .val (.int (Int32.ofNat i842)), .val (.ref r864)] [(.int (cs.getD i842 0))]
    refine gSipush (z := (255 : Int32)) W870 d52_42 rfl rfl ?_
    refine gIcmpYes (pc' := 61) W870 d52_45 (tlt hc).2.2.1 (by decide) rfl ?_
    refine gAload W870 d52_61 rfl rfl rfl ?_
    have f877 := f868.keep kp872 nin0
    exact wRetA (so := []) (t := .array .byte) W870 d52_63 rfl rfl rfl (by decide) (by decide) (fun _ q => nomatch q) ⟨r864, kr865, (Int32.ofNat 80), (StrChars.Road.wideBytes (cs.take 40)), rfl, rfl, (Nat.le_trans W847.grow f866), (Or.inr ⟨rfl, rfl, _, mem40 (by omega) (by omega), hc⟩), f877⟩
theorem oef_orw_cf0 (m_ : MethodId) (r : Addr)  : (entryFrame m_ #[(.ref r), (.int (40 : Int32))] 2).locals = #[.val (.ref r), .val (.int (40 : Int32))] := by first | (simp [entryFrame, argsToLocals, Value.category]; done) | rfl
set_option maxRecDepth 65536 in
set_option maxHeartbeats 40000000 in
theorem orw_cf0 (l : Launch) (Z : State) (a0 : Array Value) (hw : ∀ d ∈ tables_1, d.before a0 Z = true) (hE : EW Z a0 consts_1) (r : Addr) (kr : ClassId) (vs : List Value) (h : Heap) (hO : Old Z Z.heap.size h) (q0 : Arv Z h r kr .byte (Int32.ofNat 40) vs (.int 0))  :
    Ct l Z consts_1 (⟨"java/lang/StringUTF16", "coderFromArrayLen", "([BI)B"⟩ : MethodName) jdk_52_method_15_code 2 (Option.some Jvm.ClassFile.FieldType.byte) ⟨0, 0, 0, 0⟩ #[(.ref r), (.int (40 : Int32))] h [] (fun rv' hp' so' => rv' = some (.int (0 : Int32)) ∧ so' = []) := by
  refine Ct.mk "java/lang/StringUTF16" "coderFromArrayLen" rfl rfl (a0 := a0) (plainFor_of_name opn1) hO hE (fun x q => nomatch q) ?_
  intro K T W
  rw [oef_orw_cf0]
  refine gIloadN W d11_0 rfl rfl ?_
  refine gAloadN W d11_1 rfl rfl rfl ?_
  refine wLen W d11_2 q0 rfl ?_
  refine gIsub (z := (0 : Int32)) W d11_3 (by decide) rfl ?_
  refine gBipush (z := (31 : Int32)) W d11_4 rfl rfl ?_
  refine gIushr (z := (0 : Int32)) W d11_6 (by decide) rfl ?_
  refine gI2B (z := (0 : Int32)) W d11_7 (by decide) rfl ?_
  exact wRetI (so := []) (t := .byte) W d11_8 (by simp) rfl (by decide) (by decide) (fun _ q => nomatch q) ⟨rfl, rfl⟩
theorem oef_orw_cf1 (m_ : MethodId) (r : Addr)  : (entryFrame m_ #[(.ref r), (.int (40 : Int32))] 2).locals = #[.val (.ref r), .val (.int (40 : Int32))] := by first | (simp [entryFrame, argsToLocals, Value.category]; done) | rfl
set_option maxRecDepth 65536 in
set_option maxHeartbeats 40000000 in
theorem orw_cf1 (l : Launch) (Z : State) (a0 : Array Value) (hw : ∀ d ∈ tables_1, d.before a0 Z = true) (hE : EW Z a0 consts_1) (r : Addr) (kr : ClassId) (vs : List Value) (h : Heap) (hO : Old Z Z.heap.size h) (q0 : Arv Z h r kr .byte (Int32.ofNat 80) vs (.int 0))  :
    Ct l Z consts_1 (⟨"java/lang/StringUTF16", "coderFromArrayLen", "([BI)B"⟩ : MethodName) jdk_52_method_15_code 2 (Option.some Jvm.ClassFile.FieldType.byte) ⟨0, 0, 0, 0⟩ #[(.ref r), (.int (40 : Int32))] h [] (fun rv' hp' so' => rv' = some (.int (1 : Int32)) ∧ so' = []) := by
  refine Ct.mk "java/lang/StringUTF16" "coderFromArrayLen" rfl rfl (a0 := a0) (plainFor_of_name opn1) hO hE (fun x q => nomatch q) ?_
  intro K T W
  rw [oef_orw_cf1]
  refine gIloadN W d11_0 rfl rfl ?_
  refine gAloadN W d11_1 rfl rfl rfl ?_
  refine wLen W d11_2 q0 rfl ?_
  refine gIsub (z := (-40 : Int32)) W d11_3 (by decide) rfl ?_
  refine gBipush (z := (31 : Int32)) W d11_4 rfl rfl ?_
  refine gIushr (z := (1 : Int32)) W d11_6 (by decide) rfl ?_
  refine gI2B (z := (1 : Int32)) W d11_7 (by decide) rfl ?_
  exact wRetI (so := []) (t := .byte) W d11_8 (by simp) rfl (by decide) (by decide) (fun _ q => nomatch q) ⟨rfl, rfl⟩
theorem d51_0 : decode jdk_52_method_69_code 0 = .ok (.iload_n 2, 1) := by decide +kernel
theorem d51_1 : decode jdk_52_method_69_code 1 = .ok (.ifCond .ne 7, 3) := by decide +kernel
theorem d51_8 : decode jdk_52_method_69_code 8 = .ok (.getstatic 251, 3) := by decide +kernel
theorem ow245 {a0 : Array Value} {Z : State} (hw : ∀ d ∈ tables_1, d.before a0 Z = true) : (Jvm.Cond.fieldLink "java/lang/StringUTF16" (251 : Nat) "java/lang/String" "COMPACT_STRINGS" "Z").before a0 Z = true := hw _ (List.mem_of_getElem? (i := 245) rfl)
theorem d51_11 : decode jdk_52_method_69_code 11 = .ok (.ifCond .eq 28, 3) := by decide +kernel
theorem d51_14 : decode jdk_52_method_69_code 14 = .ok (.aload_n 0, 1) := by decide +kernel
theorem d51_15 : decode jdk_52_method_69_code 15 = .ok (.iload_n 1, 1) := by decide +kernel
theorem d51_16 : decode jdk_52_method_69_code 16 = .ok (.iload_n 2, 1) := by decide +kernel
theorem d51_17 : decode jdk_52_method_69_code 17 = .ok (.invokestatic 257, 3) := by decide +kernel
theorem ow246 {a0 : Array Value} {Z : State} (hw : ∀ d ∈ tables_1, d.before a0 Z = true) : (Jvm.Cond.methodLink "java/lang/StringUTF16" (257 : Nat) ({ cls := "java/lang/StringUTF16", name := "compress", desc := "([BII)[B" } : Jvm.MethodName)).before a0 Z = true := hw _ (List.mem_of_getElem? (i := 246) rfl)
theorem ow248 {a0 : Array Value} {Z : State} (hw : ∀ d ∈ tables_1, d.before a0 Z = true) : (Jvm.Cond.code ({ cls := "java/lang/StringUTF16", name := "compress", desc := "([BII)[B" } : Jvm.MethodName) jdk_52_method_17_code (6 : Nat) (Option.some (Jvm.ClassFile.FieldType.array Jvm.ClassFile.FieldType.byte))).before a0 Z = true := hw _ (List.mem_of_getElem? (i := 248) rfl)
theorem ow247 {a0 : Array Value} {Z : State} (hw : ∀ d ∈ tables_1, d.before a0 Z = true) : (Jvm.Cond.static ({ cls := "java/lang/StringUTF16", name := "compress", desc := "([BII)[B" } : Jvm.MethodName)).before a0 Z = true := hw _ (List.mem_of_getElem? (i := 247) rfl)
theorem d51_20 : decode jdk_52_method_69_code 20 = .ok (.astore_n 3, 1) := by decide +kernel
theorem d51_21 : decode jdk_52_method_69_code 21 = .ok (.aload_n 3, 1) := by decide +kernel
theorem d51_22 : decode jdk_52_method_69_code 22 = .ok (.iload_n 2, 1) := by decide +kernel
theorem d51_23 : decode jdk_52_method_69_code 23 = .ok (.invokestatic 259, 3) := by decide +kernel
theorem ow265 {a0 : Array Value} {Z : State} (hw : ∀ d ∈ tables_1, d.before a0 Z = true) : (Jvm.Cond.methodLink "java/lang/StringUTF16" (259 : Nat) ({ cls := "java/lang/StringUTF16", name := "coderFromArrayLen", desc := "([BI)B" } : Jvm.MethodName)).before a0 Z = true := hw _ (List.mem_of_getElem? (i := 265) rfl)
theorem d51_26 : decode jdk_52_method_69_code 26 = .ok (.istore 4, 2) := by decide +kernel
theorem d51_28 : decode jdk_52_method_69_code 28 = .ok (.new 3, 3) := by decide +kernel
theorem ow266 {a0 : Array Value} {Z : State} (hw : ∀ d ∈ tables_1, d.before a0 Z = true) : (Jvm.Cond.classLink "java/lang/StringUTF16" (3 : Nat) "java/lang/String").before a0 Z = true := hw _ (List.mem_of_getElem? (i := 266) rfl)
theorem d51_31 : decode jdk_52_method_69_code 31 = .ok (.dup, 1) := by decide +kernel
theorem d51_32 : decode jdk_52_method_69_code 32 = .ok (.aload_n 3, 1) := by decide +kernel
theorem d51_33 : decode jdk_52_method_69_code 33 = .ok (.iload 4, 2) := by decide +kernel
theorem d51_35 : decode jdk_52_method_69_code 35 = .ok (.invokespecial 263, 3) := by decide +kernel
theorem ow267 {a0 : Array Value} {Z : State} (hw : ∀ d ∈ tables_1, d.before a0 Z = true) : (Jvm.Cond.methodLink "java/lang/StringUTF16" (263 : Nat) ({ cls := "java/lang/String", name := "<init>", desc := "([BB)V" } : Jvm.MethodName)).before a0 Z = true := hw _ (List.mem_of_getElem? (i := 267) rfl)
theorem d51_38 : decode jdk_52_method_69_code 38 = .ok (.areturn, 1) := by decide +kernel
theorem oef_orw_nsW (m_ : MethodId) (u : Addr)  : (entryFrame m_ #[(.ref u), (.int (0 : Int32)), (.int (40 : Int32))] 5).locals = #[.val (.ref u), .val (.int (0 : Int32)), .val (.int (40 : Int32)), .unset, .unset] := by first | (simp [entryFrame, argsToLocals, Value.category]; done) | rfl
set_option maxRecDepth 65536 in
set_option maxHeartbeats 40000000 in
theorem orw_nsW (l : Launch) (Z : State) (a0 : Array Value) (hw : ∀ d ∈ tables_1, d.before a0 Z = true) (hE : EW Z a0 consts_1) (u : Addr) (ku : ClassId) (cs : List Int32) (z : Int32) (fm : Value) (h : Heap) (hO : Old Z Z.heap.size h) (SC : (Sta Z Z.heap "java/lang/String" "COMPACT_STRINGS" "Z" (.int z))) (hz : (¬ z = 0)) (SA : (Sta Z Z.heap "java/lang/StringUTF16" "$assertionsDisabled" "Z" (.int (1 : Int32)))) (SH : (Sta Z Z.heap "java/lang/StringUTF16" "HI_BYTE_SHIFT" "I" (.int (0 : Int32)))) (SL : (Sta Z Z.heap "java/lang/StringUTF16" "LO_BYTE_SHIFT" "I" (.int (8 : Int32)))) (SF : (Sta Z Z.heap "jdk/internal/util/Preconditions" "SIOOBE_FORMATTER" "Ljava/util/function/BiFunction;" fm)) (rf : (fm.isRef = true)) (q7 : Arv Z h u ku .byte (Int32.ofNat (2 * cs.length)) (StrChars.Road.wideBytes cs) (.int 0)) (h80 : (cs.length ≤ 80)) (h40 : (40 < cs.length)) (h16 : (∀ c ∈ cs, B16 c))  :
    Ct l Z consts_1 (⟨"java/lang/StringUTF16", "newString", "([BII)Ljava/lang/String;"⟩ : MethodName) jdk_52_method_69_code 5 (Option.some (Jvm.ClassFile.FieldType.object "java/lang/String")) ⟨5, 3, 144, 120⟩ #[(.ref u), (.int (0 : Int32)), (.int (40 : Int32))] h [] (fun rv' hp' so' => ∃ s : Addr, rv' = some (.ref s) ∧ so' = [] ∧ Str Z hp' s (cs.take 40)) := by
  refine Ct.mk "java/lang/StringUTF16" "newString" rfl rfl (a0 := a0) (plainFor_of_name opn1) hO hE (fun x q => nomatch q) ?_
  intro K T W
  rw [oef_orw_nsW]
  have hl40 : (cs.take 40).length = 40 := by rw [List.length_take]; omega
  refine gIloadN W d51_0 rfl rfl ?_
  refine gIfYes (pc' := 8) W d51_1 ((if0 _ _).trans (feq (by decide)).2) (by decide) rfl ?_
  refine wGetS W d51_8 (ow245 hw) Via.refl SC rfl fun T878 W879 => ?_
  refine gIfNo W879 d51_11 ((if0 _ _).trans (feq hz).1) rfl ?_
  refine gAloadN W879 d51_14 rfl rfl rfl ?_
  refine gIloadN W879 d51_15 rfl rfl ?_
  refine gIloadN W879 d51_16 rfl rfl ?_
  refine wStatic (y := (⟨"java/lang/StringUTF16", "compress", "([BII)[B"⟩ : MethodName)) (Wd := 0) (argsL := [(.ref u), (.int (0 : Int32)), (.int (40 : Int32))]) (rest := []) W879 d51_17 (ow246 hw) (ow247 hw) (ow50 hw) (ow248 hw) (by decide) (Cb.ct (orw_c3 l Z a0 hw hE (u) (ku) (cs) (fm) h W879.old SA SH SL SF rf q7 h80 h40 h16 ) (ow248 hw) (ow50 hw) hE (by decide) (by decide)) (by simp) rfl (lenOf opd17 rfl) rfl (Nat.le_of_eq rfl) (by decide) (by decide) rfl fun v884 so885 T880 h882 W881 kp883 sp886 q887 => ?_
  obtain ⟨r888, kr889, N890, vs891, rfl, rfl, f892, f893, f894⟩ := q887
  show Go K _ T880 20 #[.val (.ref u), .val (.int (0 : Int32)), .val (.int (40 : Int32)), .unset, .unset] [(.ref r888)]
  refine gAstoreN (ls' := #[.val (.ref u), .val (.int (0 : Int32)), .val (.int (40 : Int32)), .val (.ref r888), .unset]) W881 d51_20 rfl rfl rfl ?_
  refine gAloadN W881 d51_21 rfl rfl rfl ?_
  refine gIloadN W881 d51_22 rfl rfl ?_
  rcases f893 with ⟨rfl, rfl, hb⟩ | ⟨rfl, rfl, hb⟩
  · refine wStatic (y := (⟨"java/lang/StringUTF16", "coderFromArrayLen", "([BI)B"⟩ : MethodName)) (Wd := 0) (argsL := [(.ref r888), (.int (40 : Int32))]) (rest := []) W881 d51_23 (ow265 hw) (ow56 hw) (ow50 hw) (ow57 hw) (by decide) (Cb.ct (orw_cf0 l Z a0 hw hE (r888) (kr889) (((cs.take 40).map (fun c => Value.int (StrChars.lo8 c)))) h882 W881.old f894 ) (ow57 hw) (ow50 hw) hE (by decide) (by decide)) (by simp) rfl (lenOf opd7 rfl) rfl (Nat.le_of_eq rfl) (by decide) (by decide) rfl fun v899 so900 T895 h897 W896 kp898 sp901 q902 => ?_
    obtain ⟨rfl, rfl⟩ := q902
    show Go K _ T895 26 #[.val (.ref u), .val (.int (0 : Int32)), .val (.int (40 : Int32)), .val (.ref r888), .unset] [(.int (0 : Int32))]
    refine gIstore (ls' := #[.val (.ref u), .val (.int (0 : Int32)), .val (.int (40 : Int32)), .val (.ref r888), .val (.int (0 : Int32))]) W896 d51_26 rfl rfl ?_
    refine wNewO W896 d51_28 (ow266 hw) (ow6 hw) (ow7 hw) (by decide) (by decide) rfl fun T903 h905 a906 W904 E907 g908 A909 D910  => ?_
    have f911 : Fld Z h905 a906 "java/lang/String" "value" "[B" .null := D910 (Or.inr (ow20 hw)) (ty := .array .byte) (by decide)
    have f912 : Fld Z h905 a906 "java/lang/String" "coder" "B" (.int (0 : Int32)) := D910 (Or.inr (ow21 hw)) (ty := .byte) (by decide)
    refine gDup W904 d51_31 rfl rfl ?_
    refine gAloadN W904 d51_32 rfl rfl rfl ?_
    refine gIload W904 d51_33 rfl rfl ?_
    refine wSpecial (y := (⟨"java/lang/String", "<init>", "([BB)V"⟩ : MethodName)) (Wd := 1) (a := a906) (argsL := [(.ref r888), (.int (0 : Int32))]) (rest := [(.ref a906)]) W904 d51_35 rfl (ow267 hw) (ow119 hw) (ow120 hw) (by decide) (Cb.ct (orw_ib0 l Z a0 hw hE (a906) (r888) h905 W904.old A909 f911 f912 (Nat.le_trans W896.old.2.1 (Nat.le_of_eq g908.symm))) (ow120 hw) (ow7 hw) hE (by decide) (by decide)) (by simp) rfl (lenOf opd26 rfl) rfl (Nat.le_of_eq rfl) (by decide) (by decide) rfl fun v917 so918 T913 h915 W914 kp916 sp919 q920 => ?_
    obtain ⟨rfl, rfl, f921, f922, f923⟩ := q920
    show Go K _ T913 38 #[.val (.ref u), .val (.int (0 : Int32)), .val (.int (40 : Int32)), .val (.ref r888), .val (.int (0 : Int32))] [(.ref a906)]
    have f924 := f894.keep kp898 nin0
    have f925 := f924.ext E907
    have ne926 : r888 ≠ a906 := Nat.ne_of_lt (Nat.lt_of_lt_of_le f924.lt (Nat.le_of_eq g908.symm))
    have f927 := f925.keep kp916 (ninS ne926 nin0)
    have f928 : Str Z h915 a906 (cs.take 40) := ⟨r888, kr889, 0, _, _, f921, f923, f922, f927, Or.inl ⟨rfl, by rw [hl40] <;> rfl, rfl, hb⟩, (fun c q => h16 c (memT q)), by rw [hl40] <;> decide⟩
    exact wRetA (so := []) (t := .object "java/lang/String") W914 d51_38 rfl rfl rfl (by decide) (by decide) (fun _ q => nomatch q) ⟨a906, rfl, rfl, f928⟩
  · refine wStatic (y := (⟨"java/lang/StringUTF16", "coderFromArrayLen", "([BI)B"⟩ : MethodName)) (Wd := 0) (argsL := [(.ref r888), (.int (40 : Int32))]) (rest := []) W881 d51_23 (ow265 hw) (ow56 hw) (ow50 hw) (ow57 hw) (by decide) (Cb.ct (orw_cf1 l Z a0 hw hE (r888) (kr889) ((StrChars.Road.wideBytes (cs.take 40))) h882 W881.old f894 ) (ow57 hw) (ow50 hw) hE (by decide) (by decide)) (by simp) rfl (lenOf opd7 rfl) rfl (Nat.le_of_eq rfl) (by decide) (by decide) rfl fun v933 so934 T929 h931 W930 kp932 sp935 q936 => ?_
    obtain ⟨rfl, rfl⟩ := q936
    show Go K _ T929 26 #[.val (.ref u), .val (.int (0 : Int32)), .val (.int (40 : Int32)), .val (.ref r888), .unset] [(.int (1 : Int32))]
    refine gIstore (ls' := #[.val (.ref u), .val (.int (0 : Int32)), .val (.int (40 : Int32)), .val (.ref r888), .val (.int (1 : Int32))]) W930 d51_26 rfl rfl ?_
    refine wNewO W930 d51_28 (ow266 hw) (ow6 hw) (ow7 hw) (by decide) (by decide) rfl fun T937 h939 a940 W938 E941 g942 A943 D944  => ?_
    have f945 : Fld Z h939 a940 "java/lang/String" "value" "[B" .null := D944 (Or.inr (ow20 hw)) (ty := .array .byte) (by decide)
    have f946 : Fld Z h939 a940 "java/lang/String" "coder" "B" (.int (0 : Int32)) := D944 (Or.inr (ow21 hw)) (ty := .byte) (by decide)
    refine gDup W938 d51_31 rfl rfl ?_
    refine gAloadN W938 d51_32 rfl rfl rfl ?_
    refine gIload W938 d51_33 rfl rfl ?_
    refine wSpecial (y := (⟨"java/lang/String", "<init>", "([BB)V"⟩ : MethodName)) (Wd := 1) (a := a940) (argsL := [(.ref r888), (.int (1 : Int32))]) (rest := [(.ref a940)]) W938 d51_35 rfl (ow267 hw) (ow119 hw) (ow120 hw) (by decide) (Cb.ct (orw_ib1 l Z a0 hw hE (a940) (r888) h939 W938.old A943 f945 f946 (Nat.le_trans W930.old.2.1 (Nat.le_of_eq g942.symm))) (ow120 hw) (ow7 hw) hE (by decide) (by decide)) (by simp) rfl (lenOf opd26 rfl) rfl (Nat.le_of_eq rfl) (by decide) (by decide) rfl fun v951 so952 T947 h949 W948 kp950 sp953 q954 => ?_
    obtain ⟨rfl, rfl, f955, f956, f957⟩ := q954
    show Go K _ T947 38 #[.val (.ref u), .val (.int (0 : Int32)), .val (.int (40 : Int32)), .val (.ref r888), .val (.int (1 : Int32))] [(.ref a940)]
    have f958 := f894.keep kp932 nin0
    have f959 := f958.ext E941
    have ne960 : r888 ≠ a940 := Nat.ne_of_lt (Nat.lt_of_lt_of_le f958.lt (Nat.le_of_eq g942.symm))
    have f961 := f959.keep kp950 (ninS ne960 nin0)
    have f962 : Str Z h949 a940 (cs.take 40) := ⟨r888, kr889, 1, _, _, f955, f957, f956, f961, Or.inr ⟨rfl, by rw [hl40] <;> rfl, rfl, hb⟩, (fun c q => h16 c (memT q)), by rw [hl40] <;> decide⟩
    exact wRetA (so := []) (t := .object "java/lang/String") W948 d51_38 rfl rfl rfl (by decide) (by decide) (fun _ q => nomatch q) ⟨a940, rfl, rfl, f962⟩
-- CUT
theorem d14_0 : decode jdk_42_method_92_code 0 = .ok (.aload_n 0, 1) := by decide +kernel
theorem d14_1 : decode jdk_42_method_92_code 1 = .ok (.invokevirtual 505, 3) := by decide +kernel
theorem ow81 {a0 : Array Value} {Z : State} (hw : ∀ d ∈ tables_1, d.before a0 Z = true) : (Jvm.Cond.methodLink "java/lang/String" (505 : Nat) ({ cls := "java/lang/String", name := "length", desc := "()I" } : Jvm.MethodName)).before a0 Z = true := hw _ (List.mem_of_getElem? (i := 81) rfl)
theorem d14_4 : decode jdk_42_method_92_code 4 = .ok (.istore_n 3, 1) := by decide +kernel
theorem d14_5 : decode jdk_42_method_92_code 5 = .ok (.iload_n 1, 1) := by decide +kernel
theorem d14_6 : decode jdk_42_method_92_code 6 = .ok (.iload_n 2, 1) := by decide +kernel
theorem d14_7 : decode jdk_42_method_92_code 7 = .ok (.iload_n 3, 1) := by decide +kernel
theorem d14_8 : decode jdk_42_method_92_code 8 = .ok (.invokestatic 521, 3) := by decide +kernel
theorem ow82 {a0 : Array Value} {Z : State} (hw : ∀ d ∈ tables_1, d.before a0 Z = true) : (Jvm.Cond.methodLink "java/lang/String" (521 : Nat) ({ cls := "java/lang/String", name := "checkBoundsBeginEnd", desc := "(III)V" } : Jvm.MethodName)).before a0 Z = true := hw _ (List.mem_of_getElem? (i := 82) rfl)
theorem ow84 {a0 : Array Value} {Z : State} (hw : ∀ d ∈ tables_1, d.before a0 Z = true) : (Jvm.Cond.code ({ cls := "java/lang/String", name := "checkBoundsBeginEnd", desc := "(III)V" } : Jvm.MethodName) jdk_42_method_158_code (3 : Nat) (Option.none : Option Jvm.ClassFile.FieldType)).before a0 Z = true := hw _ (List.mem_of_getElem? (i := 84) rfl)
theorem opd29 : parseMethodDescriptor "(III)V" = some ⟨[.int, .int, .int], none⟩ := by decide +kernel
theorem ow83 {a0 : Array Value} {Z : State} (hw : ∀ d ∈ tables_1, d.before a0 Z = true) : (Jvm.Cond.static ({ cls := "java/lang/String", name := "checkBoundsBeginEnd", desc := "(III)V" } : Jvm.MethodName)).before a0 Z = true := hw _ (List.mem_of_getElem? (i := 83) rfl)
theorem d14_11 : decode jdk_42_method_92_code 11 = .ok (.iload_n 1, 1) := by decide +kernel
theorem d14_12 : decode jdk_42_method_92_code 12 = .ok (.ifCond .ne 10, 3) := by decide +kernel
theorem d14_15 : decode jdk_42_method_92_code 15 = .ok (.iload_n 2, 1) := by decide +kernel
theorem d14_16 : decode jdk_42_method_92_code 16 = .ok (.iload_n 3, 1) := by decide +kernel
theorem d14_17 : decode jdk_42_method_92_code 17 = .ok (.if_icmp .ne 5, 3) := by decide +kernel
theorem d14_22 : decode jdk_42_method_92_code 22 = .ok (.iload_n 2, 1) := by decide +kernel
theorem d14_23 : decode jdk_42_method_92_code 23 = .ok (.iload_n 1, 1) := by decide +kernel
theorem d14_24 : decode jdk_42_method_92_code 24 = .ok (.isub, 1) := by decide +kernel
theorem d14_25 : decode jdk_42_method_92_code 25 = .ok (.istore 4, 2) := by decide +kernel
theorem d14_27 : decode jdk_42_method_92_code 27 = .ok (.aload_n 0, 1) := by decide +kernel
theorem d14_28 : decode jdk_42_method_92_code 28 = .ok (.invokevirtual 492, 3) := by decide +kernel
theorem ow94 {a0 : Array Value} {Z : State} (hw : ∀ d ∈ tables_1, d.before a0 Z = true) : (Jvm.Cond.code ({ cls := "java/lang/String", name := "isLatin1", desc := "()Z" } : Jvm.MethodName) jdk_42_method_154_code (1 : Nat) (Option.some Jvm.ClassFile.FieldType.boolean)).before a0 Z = true := hw _ (List.mem_of_getElem? (i := 94) rfl)
theorem ow90 {a0 : Array Value} {Z : State} (hw : ∀ d ∈ tables_1, d.before a0 Z = true) : (Jvm.Cond.methodLink "java/lang/String" (492 : Nat) ({ cls := "java/lang/String", name := "isLatin1", desc := "()Z" } : Jvm.MethodName)).before a0 Z = true := hw _ (List.mem_of_getElem? (i := 90) rfl)
theorem ow91 {a0 : Array Value} {Z : State} (hw : ∀ d ∈ tables_1, d.before a0 Z = true) : (Jvm.Cond.declares ({ cls := "java/lang/String", name := "isLatin1", desc := "()Z" } : Jvm.MethodName)).before a0 Z = true := hw _ (List.mem_of_getElem? (i := 91) rfl)
theorem ow93 {a0 : Array Value} {Z : State} (hw : ∀ d ∈ tables_1, d.before a0 Z = true) : (Jvm.Cond.selects "java/lang/String" ({ cls := "java/lang/String", name := "isLatin1", desc := "()Z" } : Jvm.MethodName) ({ cls := "java/lang/String", name := "isLatin1", desc := "()Z" } : Jvm.MethodName)).before a0 Z = true := hw _ (List.mem_of_getElem? (i := 93) rfl)
theorem ow92 {a0 : Array Value} {Z : State} (hw : ∀ d ∈ tables_1, d.before a0 Z = true) : (Jvm.Cond.instanceMethod ({ cls := "java/lang/String", name := "isLatin1", desc := "()Z" } : Jvm.MethodName)).before a0 Z = true := hw _ (List.mem_of_getElem? (i := 92) rfl)
theorem d14_31 : decode jdk_42_method_92_code 31 = .ok (.ifCond .eq 16, 3) := by decide +kernel
theorem d14_34 : decode jdk_42_method_92_code 34 = .ok (.aload_n 0, 1) := by decide +kernel
theorem d14_35 : decode jdk_42_method_92_code 35 = .ok (.getfield 9, 3) := by decide +kernel
theorem d14_38 : decode jdk_42_method_92_code 38 = .ok (.iload_n 1, 1) := by decide +kernel
theorem d14_39 : decode jdk_42_method_92_code 39 = .ok (.iload 4, 2) := by decide +kernel
theorem d14_41 : decode jdk_42_method_92_code 41 = .ok (.invokestatic 685, 3) := by decide +kernel
theorem ow95 {a0 : Array Value} {Z : State} (hw : ∀ d ∈ tables_1, d.before a0 Z = true) : (Jvm.Cond.methodLink "java/lang/String" (685 : Nat) ({ cls := "java/lang/StringLatin1", name := "newString", desc := "([BII)Ljava/lang/String;" } : Jvm.MethodName)).before a0 Z = true := hw _ (List.mem_of_getElem? (i := 95) rfl)
theorem ow97 {a0 : Array Value} {Z : State} (hw : ∀ d ∈ tables_1, d.before a0 Z = true) : (Jvm.Cond.initialized "java/lang/StringLatin1").before a0 Z = true := hw _ (List.mem_of_getElem? (i := 97) rfl)
theorem ow98 {a0 : Array Value} {Z : State} (hw : ∀ d ∈ tables_1, d.before a0 Z = true) : (Jvm.Cond.code ({ cls := "java/lang/StringLatin1", name := "newString", desc := "([BII)Ljava/lang/String;" } : Jvm.MethodName) jdk_43_method_47_code (3 : Nat) (Option.some (Jvm.ClassFile.FieldType.object "java/lang/String"))).before a0 Z = true := hw _ (List.mem_of_getElem? (i := 98) rfl)
theorem opd30 : parseMethodDescriptor "([BII)Ljava/lang/String;" = some ⟨[.array .byte, .int, .int], some (.object "java/lang/String")⟩ := by decide +kernel
theorem ow96 {a0 : Array Value} {Z : State} (hw : ∀ d ∈ tables_1, d.before a0 Z = true) : (Jvm.Cond.static ({ cls := "java/lang/StringLatin1", name := "newString", desc := "([BII)Ljava/lang/String;" } : Jvm.MethodName)).before a0 Z = true := hw _ (List.mem_of_getElem? (i := 96) rfl)
theorem d14_44 : decode jdk_42_method_92_code 44 = .ok (.goto 13, 3) := by decide +kernel
theorem d14_57 : decode jdk_42_method_92_code 57 = .ok (.areturn, 1) := by decide +kernel
theorem d14_47 : decode jdk_42_method_92_code 47 = .ok (.aload_n 0, 1) := by decide +kernel
theorem d14_48 : decode jdk_42_method_92_code 48 = .ok (.getfield 9, 3) := by decide +kernel
theorem d14_51 : decode jdk_42_method_92_code 51 = .ok (.iload_n 1, 1) := by decide +kernel
theorem d14_52 : decode jdk_42_method_92_code 52 = .ok (.iload 4, 2) := by decide +kernel
theorem d14_54 : decode jdk_42_method_92_code 54 = .ok (.invokestatic 689, 3) := by decide +kernel
theorem ow242 {a0 : Array Value} {Z : State} (hw : ∀ d ∈ tables_1, d.before a0 Z = true) : (Jvm.Cond.methodLink "java/lang/String" (689 : Nat) ({ cls := "java/lang/StringUTF16", name := "newString", desc := "([BII)Ljava/lang/String;" } : Jvm.MethodName)).before a0 Z = true := hw _ (List.mem_of_getElem? (i := 242) rfl)
theorem ow244 {a0 : Array Value} {Z : State} (hw : ∀ d ∈ tables_1, d.before a0 Z = true) : (Jvm.Cond.code ({ cls := "java/lang/StringUTF16", name := "newString", desc := "([BII)Ljava/lang/String;" } : Jvm.MethodName) jdk_52_method_69_code (5 : Nat) (Option.some (Jvm.ClassFile.FieldType.object "java/lang/String"))).before a0 Z = true := hw _ (List.mem_of_getElem? (i := 244) rfl)
theorem ow243 {a0 : Array Value} {Z : State} (hw : ∀ d ∈ tables_1, d.before a0 Z = true) : (Jvm.Cond.static ({ cls := "java/lang/StringUTF16", name := "newString", desc := "([BII)Ljava/lang/String;" } : Jvm.MethodName)).before a0 Z = true := hw _ (List.mem_of_getElem? (i := 243) rfl)
theorem oef_orw_sub (m_ : MethodId) (s : Addr)  : (entryFrame m_ #[(.ref s), (.int (0 : Int32)), (.int (40 : Int32))] 5).locals = #[.val (.ref s), .val (.int (0 : Int32)), .val (.int (40 : Int32)), .unset, .unset] := by first | (simp [entryFrame, argsToLocals, Value.category]; done) | rfl
set_option maxRecDepth 65536 in
set_option maxHeartbeats 40000000 in
theorem orw_sub (l : Launch) (Z : State) (a0 : Array Value) (hw : ∀ d ∈ tables_1, d.before a0 Z = true) (hE : EW Z a0 consts_1) (s : Addr) (cs : List Int32) (z : Int32) (fm : Value) (h : Heap) (hO : Old Z Z.heap.size h) (SC : (Sta Z Z.heap "java/lang/String" "COMPACT_STRINGS" "Z" (.int z))) (hz : (¬ z = 0)) (SA : (Sta Z Z.heap "java/lang/StringUTF16" "$assertionsDisabled" "Z" (.int (1 : Int32)))) (SH : (Sta Z Z.heap "java/lang/StringUTF16" "HI_BYTE_SHIFT" "I" (.int (0 : Int32)))) (SL : (Sta Z Z.heap "java/lang/StringUTF16" "LO_BYTE_SHIFT" "I" (.int (8 : Int32)))) (SF : (Sta Z Z.heap "jdk/internal/util/Preconditions" "SIOOBE_FORMATTER" "Ljava/util/function/BiFunction;" fm)) (rf : (fm.isRef = true)) (q7 : Str Z h s cs) (h80 : (cs.length ≤ 80)) (h40 : (40 < cs.length))  :
    Ct l Z consts_1 (⟨"java/lang/String", "substring", "(II)Ljava/lang/String;"⟩ : MethodName) jdk_42_method_92_code 5 (Option.some (Jvm.ClassFile.FieldType.object "java/lang/String")) ⟨6, 3, 144, 140⟩ #[(.ref s), (.int (0 : Int32)), (.int (40 : Int32))] h [] (fun rv' hp' so' => ∃ t : Addr, rv' = some (.ref t) ∧ so' = [] ∧ Str Z hp' t (cs.take 40)) := by
  refine Ct.mk "java/lang/String" "substring" rfl rfl (a0 := a0) (plainFor_of_name opn0) hO hE (fun x q => nomatch q) ?_
  intro K T W
  rw [oef_orw_sub]
  have hl40 : (cs.take 40).length = 40 := by rw [List.length_take]; omega
  refine gAloadN W d14_0 rfl rfl rfl ?_
  obtain ⟨u963, k964, cd965, N966, us967, E968, f969, f970, A971, ho972, hs973, hk974⟩ := q7
  rcases ho972 with ⟨rfl, rfl, rfl, hb975⟩ | ⟨rfl, rfl, rfl, hb975⟩
  · refine wVirtual (y := (⟨"java/lang/String", "length", "()I"⟩ : MethodName)) (z := (⟨"java/lang/String", "length", "()I"⟩ : MethodName)) (Wd := 0) (a := s) (argsL := []) (rest := []) W d14_1 (ow81 hw) (ow31 hw) (ow33 hw) (ow32 hw) (nfS (ow33 hw)) (by decide) (Cb.ct (ors_ln l Z a0 hw hE (s) (u963) (k964) (cs.length) ((cs.map (fun c => Value.int (StrChars.lo8 c)))) (z) h W.old SC hz E968 f969 f970 A971 ) (ow34 hw) (ow7 hw) hE (by decide) (by decide)) E968 (by simp) rfl (lenOf opd12 rfl) rfl (Nat.le_of_eq rfl) (by decide) (by decide) rfl fun v980 so981 T976 h978 W977 kp979 sp982 q983 => ?_
    obtain ⟨rfl, rfl⟩ := q983
    show Go K _ T976 4 #[.val (.ref s), .val (.int (0 : Int32)), .val (.int (40 : Int32)), .unset, .unset] [(.int (Int32.ofNat cs.length))]
    refine gIstoreN (ls' := #[.val (.ref s), .val (.int (0 : Int32)), .val (.int (40 : Int32)), .val (.int (Int32.ofNat cs.length)), .unset]) W977 d14_4 rfl rfl ?_
    refine gIloadN W977 d14_5 rfl rfl ?_
    refine gIloadN W977 d14_6 rfl rfl ?_
    refine gIloadN W977 d14_7 rfl rfl ?_
    refine wStatic (y := (⟨"java/lang/String", "checkBoundsBeginEnd", "(III)V"⟩ : MethodName)) (Wd := 0) (argsL := [(.int (0 : Int32)), (.int (40 : Int32)), (.int (Int32.ofNat cs.length))]) (rest := []) W977 d14_8 (ow82 hw) (ow83 hw) (ow7 hw) (ow84 hw) (by decide) (Cb.ct (orw_cbe l Z a0 hw hE (cs.length) (fm) h978 W977.old h40 (by omega) SF rf ) (ow84 hw) (ow7 hw) hE (by decide) (by decide)) (by simp) rfl (lenOf opd29 rfl) rfl (Nat.le_of_eq rfl) (by decide) (by decide) rfl fun v988 so989 T984 h986 W985 kp987 sp990 q991 => ?_
    obtain ⟨rfl, rfl⟩ := q991
    show Go K _ T984 11 #[.val (.ref s), .val (.int (0 : Int32)), .val (.int (40 : Int32)), .val (.int (Int32.ofNat cs.length)), .unset] []
    refine gIloadN W985 d14_11 rfl rfl ?_
    refine gIfNo W985 d14_12 ((if0 _ _).trans (teq (by decide)).2) rfl ?_
    refine gIloadN W985 d14_15 rfl rfl ?_
    refine gIloadN W985 d14_16 rfl rfl ?_
    refine gIcmpYes (pc' := 22) W985 d14_17 (feq (fun q => absurd (ofNat_inj (a := 40) (by decide) (by omega) q) (by omega))).2 (by decide) rfl ?_
    refine gIloadN W985 d14_22 rfl rfl ?_
    refine gIloadN W985 d14_23 rfl rfl ?_
    refine gIsub (z := (40 : Int32)) W985 d14_24 (by decide) rfl ?_
    refine gIstore (ls' := #[.val (.ref s), .val (.int (0 : Int32)), .val (.int (40 : Int32)), .val (.int (Int32.ofNat cs.length)), .val (.int (40 : Int32))]) W985 d14_25 rfl rfl ?_
    refine gAloadN W985 d14_27 rfl rfl rfl ?_
    have f992 := f970.keep kp979 nin0
    have f993 := f992.keep kp987 nin0
    have f1002 := E968.keep kp979
    have f1003 := f1002.keep kp987
    refine wVirtual (y := (⟨"java/lang/String", "isLatin1", "()Z"⟩ : MethodName)) (z := (⟨"java/lang/String", "isLatin1", "()Z"⟩ : MethodName)) (Wd := 0) (a := s) (argsL := []) (rest := []) W985 d14_28 (ow90 hw) (ow91 hw) (ow93 hw) (ow92 hw) (nfS (ow93 hw)) (by decide) (Cb.ct (orw_il0 l Z a0 hw hE (s) (z) h986 W985.old SC hz f993 ) (ow94 hw) (ow7 hw) hE (by decide) (by decide)) f1003 (by simp) rfl (lenOf opd19 rfl) rfl (Nat.le_of_eq rfl) (by decide) (by decide) rfl fun v998 so999 T994 h996 W995 kp997 sp1000 q1001 => ?_
    obtain ⟨rfl, rfl⟩ := q1001
    show Go K _ T994 31 #[.val (.ref s), .val (.int (0 : Int32)), .val (.int (40 : Int32)), .val (.int (Int32.ofNat cs.length)), .val (.int (40 : Int32))] [(.int (1 : Int32))]
    refine gIfNo W995 d14_31 ((if0 _ _).trans (feq (by decide)).1) rfl ?_
    refine gAloadN W995 d14_34 rfl rfl rfl ?_
    have f1004 := f969.keep kp979 nin0
    have f1005 := f1004.keep kp987 nin0
    have f1006 := f1005.keep kp997 nin0
    refine wGetF W995 d14_35 (ow24 hw) Via.refl f1006 rfl fun T1007 W1008 => ?_
    refine gIloadN W1008 d14_38 rfl rfl ?_
    refine gIload W1008 d14_39 rfl rfl ?_
    have f1009 := A971.keep kp979 nin0
    have f1010 := f1009.keep kp987 nin0
    have f1011 := f1010.keep kp997 nin0
    refine wStatic (y := (⟨"java/lang/StringLatin1", "newString", "([BII)Ljava/lang/String;"⟩ : MethodName)) (Wd := 0) (argsL := [(.ref u963), (.int (0 : Int32)), (.int (40 : Int32))]) (rest := []) W1008 d14_41 (ow95 hw) (ow96 hw) (ow97 hw) (ow98 hw) (by decide) (Cb.ct (orw_nsL l Z a0 hw hE (u963) (k964) (cs.length) ((cs.map (fun c => Value.int (StrChars.lo8 c)))) h996 W1008.old f1011 (List.length_map _) h40 h80 ) (ow98 hw) (ow97 hw) hE (by decide) (by decide)) (by simp) rfl (lenOf opd30 rfl) rfl (Nat.le_of_eq rfl) (by decide) (by decide) rfl fun v1016 so1017 T1012 h1014 W1013 kp1015 sp1018 q1019 => ?_
    obtain ⟨s1020, r1021, kr1022, rfl, rfl, f1023, f1024, f1025, f1026⟩ := q1019
    show Go K _ T1012 44 #[.val (.ref s), .val (.int (0 : Int32)), .val (.int (40 : Int32)), .val (.int (Int32.ofNat cs.length)), .val (.int (40 : Int32))] [(.ref s1020)]
    refine gGoto (pc' := 57) W1013 d14_44 (by decide) rfl ?_
    have f1027 : Arv Z h1014 r1021 kr1022 .byte (Int32.ofNat 40) ((cs.take 40).map (fun c => Value.int (StrChars.lo8 c))) (.int 0) := arvL f1026 List.map_take.symm
    have f1028 : Str Z h1014 s1020 (cs.take 40) := ⟨r1021, kr1022, 0, _, _, f1023, f1025, f1024, f1027, Or.inl ⟨rfl, by rw [hl40] <;> rfl, rfl, (fun c q => hb975 c (memT q))⟩, (fun c q => hs973 c (memT q)), by rw [hl40] <;> decide⟩
    exact wRetA (so := []) (t := .object "java/lang/String") W1013 d14_57 rfl rfl rfl (by decide) (by decide) (fun _ q => nomatch q) ⟨s1020, rfl, rfl, f1028⟩
  · refine wVirtual (y := (⟨"java/lang/String", "length", "()I"⟩ : MethodName)) (z := (⟨"java/lang/String", "length", "()I"⟩ : MethodName)) (Wd := 0) (a := s) (argsL := []) (rest := []) W d14_1 (ow81 hw) (ow31 hw) (ow33 hw) (ow32 hw) (nfS (ow33 hw)) (by decide) (Cb.ct (orw_ln l Z a0 hw hE (s) (u963) (k964) (cs.length) ((StrChars.Road.wideBytes cs)) (z) h W.old SC hz E968 f969 f970 A971 (by omega) ) (ow34 hw) (ow7 hw) hE (by decide) (by decide)) E968 (by simp) rfl (lenOf opd12 rfl) rfl (Nat.le_of_eq rfl) (by decide) (by decide) rfl fun v1033 so1034 T1029 h1031 W1030 kp1032 sp1035 q1036 => ?_
    obtain ⟨rfl, rfl⟩ := q1036
    show Go K _ T1029 4 #[.val (.ref s), .val (.int (0 : Int32)), .val (.int (40 : Int32)), .unset, .unset] [(.int (Int32.ofNat cs.length))]
    refine gIstoreN (ls' := #[.val (.ref s), .val (.int (0 : Int32)), .val (.int (40 : Int32)), .val (.int (Int32.ofNat cs.length)), .unset]) W1030 d14_4 rfl rfl ?_
    refine gIloadN W1030 d14_5 rfl rfl ?_
    refine gIloadN W1030 d14_6 rfl rfl ?_
    refine gIloadN W1030 d14_7 rfl rfl ?_
    refine wStatic (y := (⟨"java/lang/String", "checkBoundsBeginEnd", "(III)V"⟩ : MethodName)) (Wd := 0) (argsL := [(.int (0 : Int32)), (.int (40 : Int32)), (.int (Int32.ofNat cs.length))]) (rest := []) W1030 d14_8 (ow82 hw) (ow83 hw) (ow7 hw) (ow84 hw) (by decide) (Cb.ct (orw_cbe l Z a0 hw hE (cs.length) (fm) h1031 W1030.old h40 (by omega) SF rf ) (ow84 hw) (ow7 hw) hE (by decide) (by decide)) (by simp) rfl (lenOf opd29 rfl) rfl (Nat.le_of_eq rfl) (by decide) (by decide) rfl fun v1041 so1042 T1037 h1039 W1038 kp1040 sp1043 q1044 => ?_
    obtain ⟨rfl, rfl⟩ := q1044
    show Go K _ T1037 11 #[.val (.ref s), .val (.int (0 : Int32)), .val (.int (40 : Int32)), .val (.int (Int32.ofNat cs.length)), .unset] []
    refine gIloadN W1038 d14_11 rfl rfl ?_
    refine gIfNo W1038 d14_12 ((if0 _ _).trans (teq (by decide)).2) rfl ?_
    refine gIloadN W1038 d14_15 rfl rfl ?_
    refine gIloadN W1038 d14_16 rfl rfl ?_
    refine gIcmpYes (pc' := 22) W1038 d14_17 (feq (fun q => absurd (ofNat_inj (a := 40) (by decide) (by omega) q) (by omega))).2 (by decide) rfl ?_
    refine gIloadN W1038 d14_22 rfl rfl ?_
    refine gIloadN W1038 d14_23 rfl rfl ?_
    refine gIsub (z := (40 : Int32)) W1038 d14_24 (by decide) rfl ?_
    refine gIstore (ls' := #[.val (.ref s), .val (.int (0 : Int32)), .val (.int (40 : Int32)), .val (.int (Int32.ofNat cs.length)), .val (.int (40 : Int32))]) W1038 d14_25 rfl rfl ?_
    refine gAloadN W1038 d14_27 rfl rfl rfl ?_
    have f1045 := f970.keep kp1032 nin0
    have f1046 := f1045.keep kp1040 nin0
    have f1055 := E968.keep kp1032
    have f1056 := f1055.keep kp1040
    refine wVirtual (y := (⟨"java/lang/String", "isLatin1", "()Z"⟩ : MethodName)) (z := (⟨"java/lang/String", "isLatin1", "()Z"⟩ : MethodName)) (Wd := 0) (a := s) (argsL := []) (rest := []) W1038 d14_28 (ow90 hw) (ow91 hw) (ow93 hw) (ow92 hw) (nfS (ow93 hw)) (by decide) (Cb.ct (orw_il1 l Z a0 hw hE (s) (z) h1039 W1038.old SC hz f1046 ) (ow94 hw) (ow7 hw) hE (by decide) (by decide)) f1056 (by simp) rfl (lenOf opd19 rfl) rfl (Nat.le_of_eq rfl) (by decide) (by decide) rfl fun v1051 so1052 T1047 h1049 W1048 kp1050 sp1053 q1054 => ?_
    obtain ⟨rfl, rfl⟩ := q1054
    show Go K _ T1047 31 #[.val (.ref s), .val (.int (0 : Int32)), .val (.int (40 : Int32)), .val (.int (Int32.ofNat cs.length)), .val (.int (40 : Int32))] [(.int (0 : Int32))]
    refine gIfYes (pc' := 47) W1048 d14_31 ((if0 _ _).trans (teq rfl).1) (by decide) rfl ?_
    refine gAloadN W1048 d14_47 rfl rfl rfl ?_
    have f1057 := f969.keep kp1032 nin0
    have f1058 := f1057.keep kp1040 nin0
    have f1059 := f1058.keep kp1050 nin0
    refine wGetF W1048 d14_48 (ow24 hw) Via.refl f1059 rfl fun T1060 W1061 => ?_
    refine gIloadN W1061 d14_51 rfl rfl ?_
    refine gIload W1061 d14_52 rfl rfl ?_
    have f1062 := A971.keep kp1032 nin0
    have f1063 := f1062.keep kp1040 nin0
    have f1064 := f1063.keep kp1050 nin0
    refine wStatic (y := (⟨"java/lang/StringUTF16", "newString", "([BII)Ljava/lang/String;"⟩ : MethodName)) (Wd := 0) (argsL := [(.ref u963), (.int (0 : Int32)), (.int (40 : Int32))]) (rest := []) W1061 d14_54 (ow242 hw) (ow243 hw) (ow50 hw) (ow244 hw) (by decide) (Cb.ct (orw_nsW l Z a0 hw hE (u963) (k964) (cs) (z) (fm) h1049 W1061.old SC hz SA SH SL SF rf f1064 h80 h40 hs973 ) (ow244 hw) (ow50 hw) hE (by decide) (by decide)) (by simp) rfl (lenOf opd30 rfl) rfl (Nat.le_of_eq rfl) (by decide) (by decide) rfl fun v1069 so1070 T1065 h1067 W1066 kp1068 sp1071 q1072 => ?_
    obtain ⟨s1073, rfl, rfl, f1074⟩ := q1072
    show Go K _ T1065 57 #[.val (.ref s), .val (.int (0 : Int32)), .val (.int (40 : Int32)), .val (.int (Int32.ofNat cs.length)), .val (.int (40 : Int32))] [(.ref s1073)]
    exact wRetA (so := []) (t := .object "java/lang/String") W1066 d14_57 rfl rfl rfl (by decide) (by decide) (fun _ q => nomatch q) ⟨s1073, rfl, rfl, f1074⟩
theorem d22_5 : decode jdk_29_method_69_code 5 = .ok (.iload_n 0, 1) := by decide +kernel
theorem d22_6 : decode jdk_29_method_69_code 6 = .ok (.goto 4, 3) := by decide +kernel
theorem oef_org_mna (m_ : MethodId) (y0_ : Int32)  : (entryFrame m_ #[(.int y0_), (.int (40 : Int32))] 2).locals = #[.val (.int y0_), .val (.int (40 : Int32))] := by first | (simp [entryFrame, argsToLocals, Value.category]; done) | rfl
set_option maxRecDepth 65536 in
set_option maxHeartbeats 40000000 in
theorem org_mna (l : Launch) (Z : State) (a0 : Array Value) (hw : ∀ d ∈ tables_1, d.before a0 Z = true) (hE : EW Z a0 consts_1)  (h : Heap) (hO : Old Z Z.heap.size h)   :
    Ct l Z consts_1 (⟨"java/lang/Math", "min", "(II)I"⟩ : MethodName) jdk_29_method_69_code 2 (Option.some Jvm.ClassFile.FieldType.int) ⟨0, 0, 0, 0⟩ #[(.int (Int32.ofNat 16)), (.int (40 : Int32))] h [] (fun rv' hp' so' => rv' = some (.int (Int32.ofNat 16)) ∧ so' = []) := by
  refine Ct.mk "java/lang/Math" "min" rfl rfl (a0 := a0) (by decide +kernel) hO hE (fun x q => nomatch q) ?_
  intro K T W
  rw [oef_org_mna]
  refine gIloadN W d22_0 rfl rfl ?_
  refine gIloadN W d22_1 rfl rfl ?_
  refine gIcmpNo W d22_2 (flt (by decide)).2.2.1 rfl ?_
  refine gIloadN W d22_5 rfl rfl ?_
  refine gGoto (pc' := 10) W d22_6 (by decide) rfl ?_
  exact wRetI (so := []) (t := .int) W d22_10 (by simp) rfl (by decide) (by decide) (fun _ q => nomatch q) ⟨rfl, rfl⟩
theorem d30_0 : decode jdk_65_method_121_code 0 = .ok (.iload_n 1, 1) := by decide +kernel
theorem d30_1 : decode jdk_65_method_121_code 1 = .ok (.aload_n 0, 1) := by decide +kernel
theorem d30_2 : decode jdk_65_method_121_code 2 = .ok (.arraylength, 1) := by decide +kernel
theorem d30_3 : decode jdk_65_method_121_code 3 = .ok (.if_icmp .ne 11, 3) := by decide +kernel
theorem d30_14 : decode jdk_65_method_121_code 14 = .ok (.iload_n 1, 1) := by decide +kernel
theorem d30_15 : decode jdk_65_method_121_code 15 = .ok (.newarray .byte, 2) := by decide +kernel
theorem d30_17 : decode jdk_65_method_121_code 17 = .ok (.astore_n 2, 1) := by decide +kernel
theorem d30_18 : decode jdk_65_method_121_code 18 = .ok (.aload_n 0, 1) := by decide +kernel
theorem d30_19 : decode jdk_65_method_121_code 19 = .ok (.iconst 0, 1) := by decide +kernel
theorem d30_20 : decode jdk_65_method_121_code 20 = .ok (.aload_n 2, 1) := by decide +kernel
theorem d30_21 : decode jdk_65_method_121_code 21 = .ok (.iconst 0, 1) := by decide +kernel
theorem d30_22 : decode jdk_65_method_121_code 22 = .ok (.aload_n 0, 1) := by decide +kernel
theorem d30_23 : decode jdk_65_method_121_code 23 = .ok (.arraylength, 1) := by decide +kernel
theorem d30_24 : decode jdk_65_method_121_code 24 = .ok (.iload_n 1, 1) := by decide +kernel
theorem d30_25 : decode jdk_65_method_121_code 25 = .ok (.invokestatic 304, 3) := by decide +kernel
theorem d30_28 : decode jdk_65_method_121_code 28 = .ok (.invokestatic 150, 3) := by decide +kernel
theorem d30_31 : decode jdk_65_method_121_code 31 = .ok (.aload_n 2, 1) := by decide +kernel
theorem d30_32 : decode jdk_65_method_121_code 32 = .ok (.areturn, 1) := by decide +kernel
theorem oef_org_coa (m_ : MethodId) (t : Addr)  : (entryFrame m_ #[(.ref t), (.int (40 : Int32))] 3).locals = #[.val (.ref t), .val (.int (40 : Int32)), .unset] := by first | (simp [entryFrame, argsToLocals, Value.category]; done) | rfl
set_option maxRecDepth 65536 in
set_option maxHeartbeats 40000000 in
theorem org_coa (l : Launch) (Z : State) (a0 : Array Value) (hw : ∀ d ∈ tables_1, d.before a0 Z = true) (hE : EW Z a0 consts_1) (t : Addr) (kb : ClassId) (vs : List Value) (h : Heap) (hO : Old Z Z.heap.size h) (q0 : Arv Z h t kb .byte (Int32.ofNat 16) vs (.int 0)) (hvs : (vs.length = 16))  :
    Ct l Z consts_1 (⟨"java/util/Arrays", "copyOf", "([BI)[B"⟩ : MethodName) jdk_65_method_121_code 3 (Option.some (Jvm.ClassFile.FieldType.array Jvm.ClassFile.FieldType.byte)) ⟨1, 1, 40, 60⟩ #[(.ref t), (.int (40 : Int32))] h [] (fun rv' hp' so' => ∃ r : Addr, ∃ kr : ClassId, rv' = some (.ref r) ∧ so' = [r] ∧ (h.size ≤ r) ∧ Arv Z hp' r kr .byte (Int32.ofNat 40) (vs ++ List.replicate 24 (Value.int 0)) (.int 0)) := by
  refine Ct.mk "java/util/Arrays" "copyOf" rfl rfl (a0 := a0) (plainFor_of_name opn4) hO hE (fun x q => nomatch q) ?_
  intro K T W
  rw [oef_org_coa]
  refine gIloadN W d30_0 rfl rfl ?_
  refine gAloadN W d30_1 rfl rfl rfl ?_
  refine wLen W d30_2 q0 rfl ?_
  refine gIcmpYes (pc' := 14) W d30_3 (feq (by decide)).2 (by decide) rfl ?_
  refine gIloadN W d30_14 rfl rfl ?_
  refine wNewE (cap := 40) (ad := "[B") W d30_15 (ow19 hw) (by decide) (by decide) (by decide) (by decide) (by decide) (by decide) rfl fun T1075 h1077 a1078 k1079 W1076 E1080 g1081 A1082 E1083 => ?_
  have f1084 : Arv Z h1077 a1078 k1079 .byte (40 : Int32) (List.replicate 40 (.int 0)) (.int 0) := A1082 40
  refine gAstoreN (ls' := #[.val (.ref t), .val (.int (40 : Int32)), .val (.ref a1078)]) W1076 d30_17 rfl rfl rfl ?_
  refine gAloadN W1076 d30_18 rfl rfl rfl ?_
  refine gIconst (z := (0 : Int32)) W1076 d30_19 rfl rfl ?_
  refine gAloadN W1076 d30_20 rfl rfl rfl ?_
  refine gIconst (z := (0 : Int32)) W1076 d30_21 rfl rfl ?_
  refine gAloadN W1076 d30_22 rfl rfl rfl ?_
  have f1085 := q0.ext E1080
  refine wLen W1076 d30_23 f1085 rfl ?_
  refine gIloadN W1076 d30_24 rfl rfl ?_
  refine wStatic (y := (⟨"java/lang/Math", "min", "(II)I"⟩ : MethodName)) (Wd := 4) (argsL := [(.int (Int32.ofNat 16)), (.int (40 : Int32))]) (rest := [(.int (0 : Int32)), (.ref a1078), (.int (0 : Int32)), (.ref t)]) W1076 d30_25 (ow110 hw) (ow111 hw) (ow112 hw) (ow113 hw) (by decide) (Cb.ct (org_mna l Z a0 hw hE  h1077 W1076.old  ) (ow113 hw) (ow112 hw) hE (by decide) (by decide)) (by simp) rfl (lenOf opd16 rfl) rfl (Nat.le_of_eq rfl) (by decide) (by decide) rfl fun v1090 so1091 T1086 h1088 W1087 kp1089 sp1092 q1093 => ?_
  obtain ⟨rfl, rfl⟩ := q1093
  show Go K _ T1086 28 #[.val (.ref t), .val (.int (40 : Int32)), .val (.ref a1078)] [(.int (Int32.ofNat 16)), (.int (0 : Int32)), (.ref a1078), (.int (0 : Int32)), (.ref t)]
  have f1094 := f1085.keep kp1089 nin0
  have f1095 := f1084.keep kp1089 nin0
  refine wCopy (us := vs) W1087 d30_28 (ow114 hw) (ow117 hw) (ow115 hw) (ow116 hw) (by simp) f1094 f1095 rfl (by decide) (by decide) (by decide) 16 40 0 0 16 (by decide) (by decide) (by decide) (by decide) (by decide) (by decide) (by decide) (range_self hvs _) (by decide) rfl (by decide) 0 (Nat.le_of_eq rfl) (by decide) rfl fun T1096 h1098 W1097 kp1099 A1100 => ?_
  have f1101 : Arv Z h1098 a1078 k1079 .byte (40 : Int32) ((List.replicate 40 (Value.int 0)).take 0 ++ vs ++ (List.replicate 40 (Value.int 0)).drop (0 + 16)) (.int 0) := A1100
  have f1102 : Arv Z h1098 a1078 k1079 .byte (Int32.ofNat 40) (vs ++ List.replicate 24 (Value.int 0)) (.int 0) := f1101
  refine gAloadN W1097 d30_31 rfl rfl rfl ?_
  exact wRetA (so := [a1078]) (t := .array .byte) W1097 d30_32 rfl rfl rfl (by decide) (by decide) (all1 ⟨by simp, (Nat.le_of_eq g1081.symm)⟩ alln) ⟨a1078, k1079, rfl, rfl, (Nat.le_of_eq g1081.symm), f1102⟩
theorem d29_0 : decode jdk_29_method_65_code 0 = .ok (.iload_n 0, 1) := by decide +kernel
theorem d29_1 : decode jdk_29_method_65_code 1 = .ok (.iload_n 1, 1) := by decide +kernel
theorem d29_2 : decode jdk_29_method_65_code 2 = .ok (.if_icmp .lt 7, 3) := by decide +kernel
theorem d29_5 : decode jdk_29_method_65_code 5 = .ok (.iload_n 0, 1) := by decide +kernel
theorem d29_6 : decode jdk_29_method_65_code 6 = .ok (.goto 4, 3) := by decide +kernel
theorem d29_10 : decode jdk_29_method_65_code 10 = .ok (.ireturn, 1) := by decide +kernel
theorem oef_org_mxa (m_ : MethodId)   : (entryFrame m_ #[(.int (24 : Int32)), (.int (18 : Int32))] 2).locals = #[.val (.int (24 : Int32)), .val (.int (18 : Int32))] := by first | (simp [entryFrame, argsToLocals, Value.category]; done) | rfl
set_option maxRecDepth 65536 in
set_option maxHeartbeats 40000000 in
theorem org_mxa (l : Launch) (Z : State) (a0 : Array Value) (hw : ∀ d ∈ tables_1, d.before a0 Z = true) (hE : EW Z a0 consts_1)  (h : Heap) (hO : Old Z Z.heap.size h)   :
    Ct l Z consts_1 (⟨"java/lang/Math", "max", "(II)I"⟩ : MethodName) jdk_29_method_65_code 2 (Option.some Jvm.ClassFile.FieldType.int) ⟨0, 0, 0, 0⟩ #[(.int (24 : Int32)), (.int (18 : Int32))] h [] (fun rv' hp' so' => rv' = some (.int (24 : Int32)) ∧ so' = []) := by
  refine Ct.mk "java/lang/Math" "max" rfl rfl (a0 := a0) (by decide +kernel) hO hE (fun x q => nomatch q) ?_
  intro K T W
  rw [oef_org_mxa]
  refine gIloadN W d29_0 rfl rfl ?_
  refine gIloadN W d29_1 rfl rfl ?_
  refine gIcmpNo W d29_2 (flt (by decide)).1 rfl ?_
  refine gIloadN W d29_5 rfl rfl ?_
  refine gGoto (pc' := 10) W d29_6 (by decide) rfl ?_
  exact wRetI (so := []) (t := .int) W d29_10 (by simp) rfl (by decide) (by decide) (fun _ q => nomatch q) ⟨rfl, rfl⟩
theorem opn7 : plainName "jdk/internal/util/ArraysSupport" = true := by first | (simp [plainName, overriddenIn]; done) | decide +kernel
theorem d28_0 : decode jdk_48_method_27_code 0 = .ok (.iload_n 0, 1) := by decide +kernel
theorem d28_1 : decode jdk_48_method_27_code 1 = .ok (.iload_n 1, 1) := by decide +kernel
theorem d28_2 : decode jdk_48_method_27_code 2 = .ok (.iload_n 2, 1) := by decide +kernel
theorem d28_3 : decode jdk_48_method_27_code 3 = .ok (.invokestatic 194, 3) := by decide +kernel
theorem ow148 {a0 : Array Value} {Z : State} (hw : ∀ d ∈ tables_1, d.before a0 Z = true) : (Jvm.Cond.methodLink "jdk/internal/util/ArraysSupport" (194 : Nat) ({ cls := "java/lang/Math", name := "max", desc := "(II)I" } : Jvm.MethodName)).before a0 Z = true := hw _ (List.mem_of_getElem? (i := 148) rfl)
theorem ow150 {a0 : Array Value} {Z : State} (hw : ∀ d ∈ tables_1, d.before a0 Z = true) : (Jvm.Cond.code ({ cls := "java/lang/Math", name := "max", desc := "(II)I" } : Jvm.MethodName) jdk_29_method_65_code (2 : Nat) (Option.some Jvm.ClassFile.FieldType.int)).before a0 Z = true := hw _ (List.mem_of_getElem? (i := 150) rfl)
theorem ow149 {a0 : Array Value} {Z : State} (hw : ∀ d ∈ tables_1, d.before a0 Z = true) : (Jvm.Cond.static ({ cls := "java/lang/Math", name := "max", desc := "(II)I" } : Jvm.MethodName)).before a0 Z = true := hw _ (List.mem_of_getElem? (i := 149) rfl)
theorem d28_6 : decode jdk_48_method_27_code 6 = .ok (.iadd, 1) := by decide +kernel
theorem d28_7 : decode jdk_48_method_27_code 7 = .ok (.istore_n 3, 1) := by decide +kernel
theorem d28_8 : decode jdk_48_method_27_code 8 = .ok (.iconst 0, 1) := by decide +kernel
theorem d28_9 : decode jdk_48_method_27_code 9 = .ok (.iload_n 3, 1) := by decide +kernel
theorem d28_10 : decode jdk_48_method_27_code 10 = .ok (.if_icmp .ge 11, 3) := by decide +kernel
theorem d28_13 : decode jdk_48_method_27_code 13 = .ok (.iload_n 3, 1) := by decide +kernel
theorem d28_14 : decode jdk_48_method_27_code 14 = .ok (.ldc 200, 2) := by decide +kernel
theorem ow151 {a0 : Array Value} {Z : State} (hw : ∀ d ∈ tables_1, d.before a0 Z = true) : (Jvm.Cond.constant "jdk/internal/util/ArraysSupport" (200 : Nat) (2147483639 : Int32)).before a0 Z = true := hw _ (List.mem_of_getElem? (i := 151) rfl)
theorem d28_16 : decode jdk_48_method_27_code 16 = .ok (.if_icmp .gt 5, 3) := by decide +kernel
theorem d28_19 : decode jdk_48_method_27_code 19 = .ok (.iload_n 3, 1) := by decide +kernel
theorem d28_20 : decode jdk_48_method_27_code 20 = .ok (.ireturn, 1) := by decide +kernel
theorem oef_org_nla (m_ : MethodId) (y0_ : Int32)  : (entryFrame m_ #[(.int y0_), (.int (24 : Int32)), (.int (18 : Int32))] 4).locals = #[.val (.int y0_), .val (.int (24 : Int32)), .val (.int (18 : Int32)), .unset] := by first | (simp [entryFrame, argsToLocals, Value.category]; done) | rfl
set_option maxRecDepth 65536 in
set_option maxHeartbeats 40000000 in
theorem org_nla (l : Launch) (Z : State) (a0 : Array Value) (hw : ∀ d ∈ tables_1, d.before a0 Z = true) (hE : EW Z a0 consts_1)  (h : Heap) (hO : Old Z Z.heap.size h)   :
    Ct l Z consts_1 (⟨"jdk/internal/util/ArraysSupport", "newLength", "(III)I"⟩ : MethodName) jdk_48_method_27_code 4 (Option.some Jvm.ClassFile.FieldType.int) ⟨1, 0, 0, 20⟩ #[(.int (Int32.ofNat 16)), (.int (24 : Int32)), (.int (18 : Int32))] h [] (fun rv' hp' so' => rv' = some (.int (40 : Int32)) ∧ so' = []) := by
  refine Ct.mk "jdk/internal/util/ArraysSupport" "newLength" rfl rfl (a0 := a0) (plainFor_of_name opn7) hO hE (fun x q => nomatch q) ?_
  intro K T W
  rw [oef_org_nla]
  refine gIloadN W d28_0 rfl rfl ?_
  refine gIloadN W d28_1 rfl rfl ?_
  refine gIloadN W d28_2 rfl rfl ?_
  refine wStatic (y := (⟨"java/lang/Math", "max", "(II)I"⟩ : MethodName)) (Wd := 1) (argsL := [(.int (24 : Int32)), (.int (18 : Int32))]) (rest := [(.int (Int32.ofNat 16))]) W d28_3 (ow148 hw) (ow149 hw) (ow112 hw) (ow150 hw) (by decide) (Cb.ct (org_mxa l Z a0 hw hE  h W.old  ) (ow150 hw) (ow112 hw) hE (by decide) (by decide)) (by simp) rfl (lenOf opd16 rfl) rfl (Nat.le_of_eq rfl) (by decide) (by decide) rfl fun v1107 so1108 T1103 h1105 W1104 kp1106 sp1109 q1110 => ?_
  obtain ⟨rfl, rfl⟩ := q1110
  show Go K _ T1103 6 #[.val (.int (Int32.ofNat 16)), .val (.int (24 : Int32)), .val (.int (18 : Int32)), .unset] [(.int (24 : Int32)), (.int (Int32.ofNat 16))]
  refine gIadd (z := (40 : Int32)) W1104 d28_6 (by decide) rfl ?_
  refine gIstoreN (ls' := #[.val (.int (Int32.ofNat 16)), .val (.int (24 : Int32)), .val (.int (18 : Int32)), .val (.int (40 : Int32))]) W1104 d28_7 rfl rfl ?_
  refine gIconst (z := (0 : Int32)) W1104 d28_8 rfl rfl ?_
  refine gIloadN W1104 d28_9 rfl rfl ?_
  refine gIcmpNo W1104 d28_10 (tlt (by decide)).2.1 rfl ?_
  refine gIloadN W1104 d28_13 rfl rfl ?_
  refine wLdcI (v := (2147483639 : Int32)) W1104 d28_14 (ow151 hw) rfl ?_
  refine gIcmpNo W1104 d28_16 (flt (by decide)).2.2.1 rfl ?_
  refine gIloadN W1104 d28_19 rfl rfl ?_
  exact wRetI (so := []) (t := .int) W1104 d28_20 (by simp) rfl (by decide) (by decide) (fun _ q => nomatch q) ⟨rfl, rfl⟩
theorem d27_0 : decode jdk_68_method_10_code 0 = .ok (.aload_n 0, 1) := by decide +kernel
theorem d27_1 : decode jdk_68_method_10_code 1 = .ok (.getfield 15, 3) := by decide +kernel
theorem d27_4 : decode jdk_68_method_10_code 4 = .ok (.arraylength, 1) := by decide +kernel
theorem d27_5 : decode jdk_68_method_10_code 5 = .ok (.istore_n 2, 1) := by decide +kernel
theorem d27_6 : decode jdk_68_method_10_code 6 = .ok (.iload_n 1, 1) := by decide +kernel
theorem d27_7 : decode jdk_68_method_10_code 7 = .ok (.aload_n 0, 1) := by decide +kernel
theorem d27_8 : decode jdk_68_method_10_code 8 = .ok (.getfield 22, 3) := by decide +kernel
theorem d27_11 : decode jdk_68_method_10_code 11 = .ok (.ishl, 1) := by decide +kernel
theorem d27_12 : decode jdk_68_method_10_code 12 = .ok (.istore_n 3, 1) := by decide +kernel
theorem d27_13 : decode jdk_68_method_10_code 13 = .ok (.iload_n 3, 1) := by decide +kernel
theorem d27_14 : decode jdk_68_method_10_code 14 = .ok (.iload_n 2, 1) := by decide +kernel
theorem d27_15 : decode jdk_68_method_10_code 15 = .ok (.isub, 1) := by decide +kernel
theorem d27_16 : decode jdk_68_method_10_code 16 = .ok (.istore 4, 2) := by decide +kernel
theorem d27_18 : decode jdk_68_method_10_code 18 = .ok (.iload_n 2, 1) := by decide +kernel
theorem d27_19 : decode jdk_68_method_10_code 19 = .ok (.iload 4, 2) := by decide +kernel
theorem d27_21 : decode jdk_68_method_10_code 21 = .ok (.iload_n 2, 1) := by decide +kernel
theorem d27_22 : decode jdk_68_method_10_code 22 = .ok (.iconst 2, 1) := by decide +kernel
theorem d27_23 : decode jdk_68_method_10_code 23 = .ok (.aload_n 0, 1) := by decide +kernel
theorem d27_24 : decode jdk_68_method_10_code 24 = .ok (.getfield 22, 3) := by decide +kernel
theorem d27_27 : decode jdk_68_method_10_code 27 = .ok (.ishl, 1) := by decide +kernel
theorem d27_28 : decode jdk_68_method_10_code 28 = .ok (.iadd, 1) := by decide +kernel
theorem d27_29 : decode jdk_68_method_10_code 29 = .ok (.invokestatic 114, 3) := by decide +kernel
theorem ow144 {a0 : Array Value} {Z : State} (hw : ∀ d ∈ tables_1, d.before a0 Z = true) : (Jvm.Cond.methodLink "java/lang/AbstractStringBuilder" (114 : Nat) ({ cls := "jdk/internal/util/ArraysSupport", name := "newLength", desc := "(III)I" } : Jvm.MethodName)).before a0 Z = true := hw _ (List.mem_of_getElem? (i := 144) rfl)
theorem ow146 {a0 : Array Value} {Z : State} (hw : ∀ d ∈ tables_1, d.before a0 Z = true) : (Jvm.Cond.initialized "jdk/internal/util/ArraysSupport").before a0 Z = true := hw _ (List.mem_of_getElem? (i := 146) rfl)
theorem ow147 {a0 : Array Value} {Z : State} (hw : ∀ d ∈ tables_1, d.before a0 Z = true) : (Jvm.Cond.code ({ cls := "jdk/internal/util/ArraysSupport", name := "newLength", desc := "(III)I" } : Jvm.MethodName) jdk_48_method_27_code (4 : Nat) (Option.some Jvm.ClassFile.FieldType.int)).before a0 Z = true := hw _ (List.mem_of_getElem? (i := 147) rfl)
theorem ow145 {a0 : Array Value} {Z : State} (hw : ∀ d ∈ tables_1, d.before a0 Z = true) : (Jvm.Cond.static ({ cls := "jdk/internal/util/ArraysSupport", name := "newLength", desc := "(III)I" } : Jvm.MethodName)).before a0 Z = true := hw _ (List.mem_of_getElem? (i := 145) rfl)
theorem d27_32 : decode jdk_68_method_10_code 32 = .ok (.istore 5, 2) := by decide +kernel
theorem d27_34 : decode jdk_68_method_10_code 34 = .ok (.iload 5, 2) := by decide +kernel
theorem d27_36 : decode jdk_68_method_10_code 36 = .ok (.ldc 39, 2) := by decide +kernel
theorem ow152 {a0 : Array Value} {Z : State} (hw : ∀ d ∈ tables_1, d.before a0 Z = true) : (Jvm.Cond.constant "java/lang/AbstractStringBuilder" (39 : Nat) (2147483647 : Int32)).before a0 Z = true := hw _ (List.mem_of_getElem? (i := 152) rfl)
theorem d27_38 : decode jdk_68_method_10_code 38 = .ok (.if_icmp .ne 13, 3) := by decide +kernel
theorem d27_51 : decode jdk_68_method_10_code 51 = .ok (.iload 5, 2) := by decide +kernel
theorem d27_53 : decode jdk_68_method_10_code 53 = .ok (.aload_n 0, 1) := by decide +kernel
theorem d27_54 : decode jdk_68_method_10_code 54 = .ok (.getfield 22, 3) := by decide +kernel
theorem d27_57 : decode jdk_68_method_10_code 57 = .ok (.ishr, 1) := by decide +kernel
theorem d27_58 : decode jdk_68_method_10_code 58 = .ok (.ireturn, 1) := by decide +kernel
theorem oef_org_nca (m_ : MethodId) (a : Addr)  : (entryFrame m_ #[(.ref a), (.int (40 : Int32))] 6).locals = #[.val (.ref a), .val (.int (40 : Int32)), .unset, .unset, .unset, .unset] := by first | (simp [entryFrame, argsToLocals, Value.category]; done) | rfl
set_option maxRecDepth 65536 in
set_option maxHeartbeats 40000000 in
theorem org_nca (l : Launch) (Z : State) (a0 : Array Value) (hw : ∀ d ∈ tables_1, d.before a0 Z = true) (hE : EW Z a0 consts_1) (a : Addr) (t : Addr) (kb : ClassId) (vs : List Value) (h : Heap) (hO : Old Z Z.heap.size h) (q0 : Exa Z h a "java/lang/StringBuilder") (q1 : Fld Z h a "java/lang/AbstractStringBuilder" "value" "[B" (.ref t)) (q2 : Fld Z h a "java/lang/AbstractStringBuilder" "coder" "B" (.int (0 : Int32))) (q3 : Arv Z h t kb .byte (Int32.ofNat 16) vs (.int 0))  :
    Ct l Z consts_1 (⟨"java/lang/AbstractStringBuilder", "newCapacity", "(I)I"⟩ : MethodName) jdk_68_method_10_code 6 (Option.some Jvm.ClassFile.FieldType.int) ⟨2, 0, 0, 45⟩ #[(.ref a), (.int (40 : Int32))] h [] (fun rv' hp' so' => rv' = some (.int (40 : Int32)) ∧ so' = []) := by
  refine Ct.mk "java/lang/AbstractStringBuilder" "newCapacity" rfl rfl (a0 := a0) (plainFor_of_name opn2) hO hE (fun x q => nomatch q) ?_
  intro K T W
  rw [oef_org_nca]
  refine gAloadN W d27_0 rfl rfl rfl ?_
  refine wGetF W d27_1 (ow72 hw) Via.refl q1 rfl fun T1111 W1112 => ?_
  refine wLen W1112 d27_4 q3 rfl ?_
  refine gIstoreN (ls' := #[.val (.ref a), .val (.int (40 : Int32)), .val (.int (Int32.ofNat 16)), .unset, .unset, .unset]) W1112 d27_5 rfl rfl ?_
  refine gIloadN W1112 d27_6 rfl rfl ?_
  refine gAloadN W1112 d27_7 rfl rfl rfl ?_
  refine wGetF W1112 d27_8 (ow74 hw) Via.refl q2 rfl fun T1113 W1114 => ?_
  refine gIshl (z := (40 : Int32)) W1114 d27_11 (by decide) rfl ?_
  refine gIstoreN (ls' := #[.val (.ref a), .val (.int (40 : Int32)), .val (.int (Int32.ofNat 16)), .val (.int (40 : Int32)), .unset, .unset]) W1114 d27_12 rfl rfl ?_
  refine gIloadN W1114 d27_13 rfl rfl ?_
  refine gIloadN W1114 d27_14 rfl rfl ?_
  refine gIsub (z := (24 : Int32)) W1114 d27_15 (by decide) rfl ?_
  refine gIstore (ls' := #[.val (.ref a), .val (.int (40 : Int32)), .val (.int (Int32.ofNat 16)), .val (.int (40 : Int32)), .val (.int (24 : Int32)), .unset]) W1114 d27_16 rfl rfl ?_
  refine gIloadN W1114 d27_18 rfl rfl ?_
  refine gIload W1114 d27_19 rfl rfl ?_
  refine gIloadN W1114 d27_21 rfl rfl ?_
  refine gIconst (z := (2 : Int32)) W1114 d27_22 rfl rfl ?_
  refine gAloadN W1114 d27_23 rfl rfl rfl ?_
  refine wGetF W1114 d27_24 (ow74 hw) Via.refl q2 rfl fun T1115 W1116 => ?_
  refine gIshl (z := (2 : Int32)) W1116 d27_27 (by decide) rfl ?_
  refine gIadd (z := (18 : Int32)) W1116 d27_28 (by decide) rfl ?_
  refine wStatic (y := (⟨"jdk/internal/util/ArraysSupport", "newLength", "(III)I"⟩ : MethodName)) (Wd := 0) (argsL := [(.int (Int32.ofNat 16)), (.int (24 : Int32)), (.int (18 : Int32))]) (rest := []) W1116 d27_29 (ow144 hw) (ow145 hw) (ow146 hw) (ow147 hw) (by decide) (Cb.ct (org_nla l Z a0 hw hE  h W1116.old  ) (ow147 hw) (ow146 hw) hE (by decide) (by decide)) (by simp) rfl (lenOf opd25 rfl) rfl (Nat.le_of_eq rfl) (by decide) (by decide) rfl fun v1121 so1122 T1117 h1119 W1118 kp1120 sp1123 q1124 => ?_
  obtain ⟨rfl, rfl⟩ := q1124
  show Go K _ T1117 32 #[.val (.ref a), .val (.int (40 : Int32)), .val (.int (Int32.ofNat 16)), .val (.int (40 : Int32)), .val (.int (24 : Int32)), .unset] [(.int (40 : Int32))]
  refine gIstore (ls' := #[.val (.ref a), .val (.int (40 : Int32)), .val (.int (Int32.ofNat 16)), .val (.int (40 : Int32)), .val (.int (24 : Int32)), .val (.int (40 : Int32))]) W1118 d27_32 rfl rfl ?_
  refine gIload W1118 d27_34 rfl rfl ?_
  refine wLdcI (v := (2147483647 : Int32)) W1118 d27_36 (ow152 hw) rfl ?_
  refine gIcmpYes (pc' := 51) W1118 d27_38 (feq (by decide)).2 (by decide) rfl ?_
  refine gIload W1118 d27_51 rfl rfl ?_
  refine gAloadN W1118 d27_53 rfl rfl rfl ?_
  have f1125 := q2.keep kp1120 nin0
  refine wGetF W1118 d27_54 (ow74 hw) Via.refl f1125 rfl fun T1126 W1127 => ?_
  refine gIshr (z := (40 : Int32)) W1127 d27_57 (by decide) rfl ?_
  exact wRetI (so := []) (t := .int) W1127 d27_58 (by simp) rfl (by decide) (by decide) (fun _ q => nomatch q) ⟨rfl, rfl⟩
theorem d26_17 : decode jdk_68_method_9_code 17 = .ok (.aload_n 0, 1) := by decide +kernel
theorem d26_18 : decode jdk_68_method_9_code 18 = .ok (.aload_n 0, 1) := by decide +kernel
theorem d26_19 : decode jdk_68_method_9_code 19 = .ok (.getfield 15, 3) := by decide +kernel
theorem d26_22 : decode jdk_68_method_9_code 22 = .ok (.aload_n 0, 1) := by decide +kernel
theorem d26_23 : decode jdk_68_method_9_code 23 = .ok (.iload_n 1, 1) := by decide +kernel
theorem d26_24 : decode jdk_68_method_9_code 24 = .ok (.invokevirtual 104, 3) := by decide +kernel
theorem ow143 {a0 : Array Value} {Z : State} (hw : ∀ d ∈ tables_1, d.before a0 Z = true) : (Jvm.Cond.code ({ cls := "java/lang/AbstractStringBuilder", name := "newCapacity", desc := "(I)I" } : Jvm.MethodName) jdk_68_method_10_code (6 : Nat) (Option.some Jvm.ClassFile.FieldType.int)).before a0 Z = true := hw _ (List.mem_of_getElem? (i := 143) rfl)
theorem ow139 {a0 : Array Value} {Z : State} (hw : ∀ d ∈ tables_1, d.before a0 Z = true) : (Jvm.Cond.methodLink "java/lang/AbstractStringBuilder" (104 : Nat) ({ cls := "java/lang/AbstractStringBuilder", name := "newCapacity", desc := "(I)I" } : Jvm.MethodName)).before a0 Z = true := hw _ (List.mem_of_getElem? (i := 139) rfl)
theorem ow140 {a0 : Array Value} {Z : State} (hw : ∀ d ∈ tables_1, d.before a0 Z = true) : (Jvm.Cond.instanceMethod ({ cls := "java/lang/AbstractStringBuilder", name := "newCapacity", desc := "(I)I" } : Jvm.MethodName)).before a0 Z = true := hw _ (List.mem_of_getElem? (i := 140) rfl)
theorem ow142 {a0 : Array Value} {Z : State} (hw : ∀ d ∈ tables_1, d.before a0 Z = true) : (Jvm.Cond.selects "java/lang/StringBuilder" ({ cls := "java/lang/AbstractStringBuilder", name := "newCapacity", desc := "(I)I" } : Jvm.MethodName) ({ cls := "java/lang/AbstractStringBuilder", name := "newCapacity", desc := "(I)I" } : Jvm.MethodName)).before a0 Z = true := hw _ (List.mem_of_getElem? (i := 142) rfl)
theorem ow141 {a0 : Array Value} {Z : State} (hw : ∀ d ∈ tables_1, d.before a0 Z = true) : (Jvm.Cond.privateMethod ({ cls := "java/lang/AbstractStringBuilder", name := "newCapacity", desc := "(I)I" } : Jvm.MethodName)).before a0 Z = true := hw _ (List.mem_of_getElem? (i := 141) rfl)
theorem d26_27 : decode jdk_68_method_9_code 27 = .ok (.aload_n 0, 1) := by decide +kernel
theorem d26_28 : decode jdk_68_method_9_code 28 = .ok (.getfield 22, 3) := by decide +kernel
theorem d26_31 : decode jdk_68_method_9_code 31 = .ok (.ishl, 1) := by decide +kernel
theorem d26_32 : decode jdk_68_method_9_code 32 = .ok (.invokestatic 108, 3) := by decide +kernel
theorem ow153 {a0 : Array Value} {Z : State} (hw : ∀ d ∈ tables_1, d.before a0 Z = true) : (Jvm.Cond.methodLink "java/lang/AbstractStringBuilder" (108 : Nat) ({ cls := "java/util/Arrays", name := "copyOf", desc := "([BI)[B" } : Jvm.MethodName)).before a0 Z = true := hw _ (List.mem_of_getElem? (i := 153) rfl)
theorem ow155 {a0 : Array Value} {Z : State} (hw : ∀ d ∈ tables_1, d.before a0 Z = true) : (Jvm.Cond.code ({ cls := "java/util/Arrays", name := "copyOf", desc := "([BI)[B" } : Jvm.MethodName) jdk_65_method_121_code (3 : Nat) (Option.some (Jvm.ClassFile.FieldType.array Jvm.ClassFile.FieldType.byte))).before a0 Z = true := hw _ (List.mem_of_getElem? (i := 155) rfl)
theorem opd31 : parseMethodDescriptor "([BI)[B" = some ⟨[.array .byte, .int], some (.array .byte)⟩ := by decide +kernel
theorem ow154 {a0 : Array Value} {Z : State} (hw : ∀ d ∈ tables_1, d.before a0 Z = true) : (Jvm.Cond.static ({ cls := "java/util/Arrays", name := "copyOf", desc := "([BI)[B" } : Jvm.MethodName)).before a0 Z = true := hw _ (List.mem_of_getElem? (i := 154) rfl)
theorem d26_35 : decode jdk_68_method_9_code 35 = .ok (.putfield 15, 3) := by decide +kernel
theorem oef_org_ega (m_ : MethodId) (a : Addr)  : (entryFrame m_ #[(.ref a), (.int (40 : Int32))] 3).locals = #[.val (.ref a), .val (.int (40 : Int32)), .unset] := by first | (simp [entryFrame, argsToLocals, Value.category]; done) | rfl
set_option maxRecDepth 65536 in
set_option maxHeartbeats 40000000 in
theorem org_ega (l : Launch) (Z : State) (a0 : Array Value) (hw : ∀ d ∈ tables_1, d.before a0 Z = true) (hE : EW Z a0 consts_1) (a : Addr) (t : Addr) (kb : ClassId) (vs : List Value) (c : Int32) (h : Heap) (hO : Old Z Z.heap.size h) (q0 : Exa Z h a "java/lang/StringBuilder") (q1 : Fld Z h a "java/lang/AbstractStringBuilder" "value" "[B" (.ref t)) (q2 : Fld Z h a "java/lang/AbstractStringBuilder" "coder" "B" (.int (0 : Int32))) (q3 : Arv Z h t kb .byte (Int32.ofNat 16) vs (.int 0)) (q4 : Fld Z h a "java/lang/AbstractStringBuilder" "count" "I" (.int c)) (q5 : Fld Z h a "java/lang/AbstractStringBuilder" "maybeLatin1" "Z" (.int (0 : Int32))) (hvs : (vs.length = 16)) (ge_a : Z.heap.size ≤ a) :
    Ct l Z consts_1 (⟨"java/lang/AbstractStringBuilder", "ensureCapacityInternal", "(I)V"⟩ : MethodName) jdk_68_method_9_code 3 (Option.none : Option Jvm.ClassFile.FieldType) ⟨3, 1, 40, 85⟩ #[(.ref a), (.int (40 : Int32))] h [a] (fun rv' hp' so' => ∃ r : Addr, ∃ kr : ClassId, rv' = none ∧ so' = [r] ∧ (h.size ≤ r) ∧ Exa Z hp' a "java/lang/StringBuilder" ∧ Fld Z hp' a "java/lang/AbstractStringBuilder" "value" "[B" (.ref r) ∧ Fld Z hp' a "java/lang/AbstractStringBuilder" "coder" "B" (.int (0 : Int32)) ∧ Fld Z hp' a "java/lang/AbstractStringBuilder" "count" "I" (.int c) ∧ Fld Z hp' a "java/lang/AbstractStringBuilder" "maybeLatin1" "Z" (.int (0 : Int32)) ∧ Arv Z hp' r kr .byte (Int32.ofNat 40) (vs ++ List.replicate 24 (Value.int 0)) (.int 0)) := by
  refine Ct.mk "java/lang/AbstractStringBuilder" "ensureCapacityInternal" rfl rfl (a0 := a0) (plainFor_of_name opn2) hO hE (fun x q => by simp at q; subst q; exact ge_a) ?_
  intro K T W
  rw [oef_org_ega]
  refine gAloadN W d26_0 rfl rfl rfl ?_
  refine wGetF W d26_1 (ow72 hw) Via.refl q1 rfl fun T1128 W1129 => ?_
  refine wLen W1129 d26_4 q3 rfl ?_
  refine gAloadN W1129 d26_5 rfl rfl rfl ?_
  refine wGetF W1129 d26_6 (ow74 hw) Via.refl q2 rfl fun T1130 W1131 => ?_
  refine gIshr (z := (16 : Int32)) W1131 d26_9 (by decide) rfl ?_
  refine gIstoreN (ls' := #[.val (.ref a), .val (.int (40 : Int32)), .val (.int (16 : Int32))]) W1131 d26_10 rfl rfl ?_
  refine gIloadN W1131 d26_11 rfl rfl ?_
  refine gIloadN W1131 d26_12 rfl rfl ?_
  refine gIsub (z := (24 : Int32)) W1131 d26_13 (by decide) rfl ?_
  refine gIfNo W1131 d26_14 ((if0 _ _).trans (tlt (by decide)).2.2.2) rfl ?_
  refine gAloadN W1131 d26_17 rfl rfl rfl ?_
  refine gAloadN W1131 d26_18 rfl rfl rfl ?_
  refine wGetF W1131 d26_19 (ow72 hw) Via.refl q1 rfl fun T1132 W1133 => ?_
  refine gAloadN W1133 d26_22 rfl rfl rfl ?_
  refine gIloadN W1133 d26_23 rfl rfl ?_
  refine wPrivate (y := (⟨"java/lang/AbstractStringBuilder", "newCapacity", "(I)I"⟩ : MethodName)) (Wd := 2) (a := a) (argsL := [(.int (40 : Int32))]) (rest := [(.ref t), (.ref a)]) W1133 d26_24 (ow139 hw) (ow140 hw) (ow142 hw) (ow141 hw) (ow143 hw) (by decide) (Cb.ct (org_nca l Z a0 hw hE (a) (t) (kb) (vs) h W1133.old q0 q1 q2 q3 ) (ow143 hw) (ow68 hw) hE (by decide) (by decide)) q0 (by simp) rfl (lenOf opd1 rfl) rfl (Nat.le_of_eq rfl) (by decide) (by decide) rfl fun v1138 so1139 T1134 h1136 W1135 kp1137 sp1140 q1141 => ?_
  obtain ⟨rfl, rfl⟩ := q1141
  show Go K _ T1134 27 #[.val (.ref a), .val (.int (40 : Int32)), .val (.int (16 : Int32))] [(.int (40 : Int32)), (.ref t), (.ref a)]
  refine gAloadN W1135 d26_27 rfl rfl rfl ?_
  have f1142 := q2.keep kp1137 nin0
  refine wGetF W1135 d26_28 (ow74 hw) Via.refl f1142 rfl fun T1143 W1144 => ?_
  refine gIshl (z := (40 : Int32)) W1144 d26_31 (by decide) rfl ?_
  have f1145 := q3.keep kp1137 nin0
  refine wStatic (y := (⟨"java/util/Arrays", "copyOf", "([BI)[B"⟩ : MethodName)) (Wd := 1) (argsL := [(.ref t), (.int (40 : Int32))]) (rest := [(.ref a)]) W1144 d26_32 (ow153 hw) (ow154 hw) (ow102 hw) (ow155 hw) (by decide) (Cb.ct (org_coa l Z a0 hw hE (t) (kb) (vs) h1136 W1144.old f1145 hvs ) (ow155 hw) (ow102 hw) hE (by decide) (by decide)) (by simp) rfl (lenOf opd31 rfl) rfl (Nat.le_of_eq rfl) (by decide) (by decide) rfl fun v1150 so1151 T1146 h1148 W1147 kp1149 sp1152 q1153 => ?_
  obtain ⟨r1154, kr1155, rfl, rfl, f1156, f1157⟩ := q1153
  show Go K _ T1146 35 #[.val (.ref a), .val (.int (40 : Int32)), .val (.int (16 : Int32))] [(.ref r1154), (.ref a)]
  have f1158 := q1.keep kp1137 nin0
  have f1159 := f1158.keep kp1149 nin0
  have f1160 := q0.keep kp1137
  have f1161 := f1160.keep kp1149
  refine wPutF (ty := .array .byte) W1147 d26_35 (ow72 hw) Via.refl (by simp) f1159 f1161 (Or.inl (ow73 hw)) (ow59 hw) (by decide) rfl rfl rfl fun T1162 h1164 W1163 wr1165 => ?_
  have f1166 := Fld.same wr1165 f1159
  have f1167 := f1161.wr wr1165
  have f1168 := f1142.keep kp1149 nin0
  have f1169 := f1168.other wr1165 (Or.inr (slot_ne (t := .byte) (t' := .array .byte) (Or.inl (ow75 hw)) (Or.inl (ow73 hw)) (by decide) (by decide) (by decide)))
  have f1170 := q4.keep kp1137 nin0
  have f1171 := f1170.keep kp1149 nin0
  have f1172 := f1171.other wr1165 (Or.inr (slot_ne (t := .int) (t' := .array .byte) (Or.inl (ow133 hw)) (Or.inl (ow73 hw)) (by decide) (by decide) (by decide)))
  have f1173 := q5.keep kp1137 nin0
  have f1174 := f1173.keep kp1149 nin0
  have f1175 := f1174.other wr1165 (Or.inr (slot_ne (t := .boolean) (t' := .array .byte) (Or.inl (ow283 hw)) (Or.inl (ow73 hw)) (by decide) (by decide) (by decide)))
  have ne1176 : a ≠ r1154 := Nat.ne_of_lt (Nat.lt_of_lt_of_le f1160.lt f1156)
  have f1177 := f1157.other wr1165 (Ne.symm ne1176)
  exact wRet0 (so := [r1154]) W1163 d26_38 (by decide) (by decide) (all1 ⟨by simp, (Nat.le_trans W1135.grow f1156)⟩ alln) ⟨r1154, kr1155, rfl, rfl, (Nat.le_trans W1135.grow f1156), f1167, f1166, f1169, f1172, f1175, f1177⟩
theorem oef_org_mnb (m_ : MethodId) (y0_ : Int32)  : (entryFrame m_ #[(.int y0_), (.int (82 : Int32))] 2).locals = #[.val (.int y0_), .val (.int (82 : Int32))] := by first | (simp [entryFrame, argsToLocals, Value.category]; done) | rfl
set_option maxRecDepth 65536 in
set_option maxHeartbeats 40000000 in
theorem org_mnb (l : Launch) (Z : State) (a0 : Array Value) (hw : ∀ d ∈ tables_1, d.before a0 Z = true) (hE : EW Z a0 consts_1)  (h : Heap) (hO : Old Z Z.heap.size h)   :
    Ct l Z consts_1 (⟨"java/lang/Math", "min", "(II)I"⟩ : MethodName) jdk_29_method_69_code 2 (Option.some Jvm.ClassFile.FieldType.int) ⟨0, 0, 0, 0⟩ #[(.int (Int32.ofNat 40)), (.int (82 : Int32))] h [] (fun rv' hp' so' => rv' = some (.int (Int32.ofNat 40)) ∧ so' = []) := by
  refine Ct.mk "java/lang/Math" "min" rfl rfl (a0 := a0) (by decide +kernel) hO hE (fun x q => nomatch q) ?_
  intro K T W
  rw [oef_org_mnb]
  refine gIloadN W d22_0 rfl rfl ?_
  refine gIloadN W d22_1 rfl rfl ?_
  refine gIcmpNo W d22_2 (flt (by decide)).2.2.1 rfl ?_
  refine gIloadN W d22_5 rfl rfl ?_
  refine gGoto (pc' := 10) W d22_6 (by decide) rfl ?_
  exact wRetI (so := []) (t := .int) W d22_10 (by simp) rfl (by decide) (by decide) (fun _ q => nomatch q) ⟨rfl, rfl⟩
theorem oef_org_cob (m_ : MethodId) (t : Addr)  : (entryFrame m_ #[(.ref t), (.int (82 : Int32))] 3).locals = #[.val (.ref t), .val (.int (82 : Int32)), .unset] := by first | (simp [entryFrame, argsToLocals, Value.category]; done) | rfl
set_option maxRecDepth 65536 in
set_option maxHeartbeats 40000000 in
theorem org_cob (l : Launch) (Z : State) (a0 : Array Value) (hw : ∀ d ∈ tables_1, d.before a0 Z = true) (hE : EW Z a0 consts_1) (t : Addr) (kb : ClassId) (vs : List Value) (h : Heap) (hO : Old Z Z.heap.size h) (q0 : Arv Z h t kb .byte (Int32.ofNat 40) vs (.int 0)) (hvs : (vs.length = 40))  :
    Ct l Z consts_1 (⟨"java/util/Arrays", "copyOf", "([BI)[B"⟩ : MethodName) jdk_65_method_121_code 3 (Option.some (Jvm.ClassFile.FieldType.array Jvm.ClassFile.FieldType.byte)) ⟨1, 1, 82, 60⟩ #[(.ref t), (.int (82 : Int32))] h [] (fun rv' hp' so' => ∃ r : Addr, ∃ kr : ClassId, rv' = some (.ref r) ∧ so' = [r] ∧ (h.size ≤ r) ∧ Arv Z hp' r kr .byte (Int32.ofNat 82) (vs ++ List.replicate 42 (Value.int 0)) (.int 0)) := by
  refine Ct.mk "java/util/Arrays" "copyOf" rfl rfl (a0 := a0) (plainFor_of_name opn4) hO hE (fun x q => nomatch q) ?_
  intro K T W
  rw [oef_org_cob]
  refine gIloadN W d30_0 rfl rfl ?_
  refine gAloadN W d30_1 rfl rfl rfl ?_
  refine wLen W d30_2 q0 rfl ?_
  refine gIcmpYes (pc' := 14) W d30_3 (feq (by decide)).2 (by decide) rfl ?_
  refine gIloadN W d30_14 rfl rfl ?_
  refine wNewE (cap := 82) (ad := "[B") W d30_15 (ow19 hw) (by decide) (by decide) (by decide) (by decide) (by decide) (by decide) rfl fun T1178 h1180 a1181 k1182 W1179 E1183 g1184 A1185 E1186 => ?_
  have f1187 : Arv Z h1180 a1181 k1182 .byte (82 : Int32) (List.replicate 82 (.int 0)) (.int 0) := A1185 82
  refine gAstoreN (ls' := #[.val (.ref t), .val (.int (82 : Int32)), .val (.ref a1181)]) W1179 d30_17 rfl rfl rfl ?_
  refine gAloadN W1179 d30_18 rfl rfl rfl ?_
  refine gIconst (z := (0 : Int32)) W1179 d30_19 rfl rfl ?_
  refine gAloadN W1179 d30_20 rfl rfl rfl ?_
  refine gIconst (z := (0 : Int32)) W1179 d30_21 rfl rfl ?_
  refine gAloadN W1179 d30_22 rfl rfl rfl ?_
  have f1188 := q0.ext E1183
  refine wLen W1179 d30_23 f1188 rfl ?_
  refine gIloadN W1179 d30_24 rfl rfl ?_
  refine wStatic (y := (⟨"java/lang/Math", "min", "(II)I"⟩ : MethodName)) (Wd := 4) (argsL := [(.int (Int32.ofNat 40)), (.int (82 : Int32))]) (rest := [(.int (0 : Int32)), (.ref a1181), (.int (0 : Int32)), (.ref t)]) W1179 d30_25 (ow110 hw) (ow111 hw) (ow112 hw) (ow113 hw) (by decide) (Cb.ct (org_mnb l Z a0 hw hE  h1180 W1179.old  ) (ow113 hw) (ow112 hw) hE (by decide) (by decide)) (by simp) rfl (lenOf opd16 rfl) rfl (Nat.le_of_eq rfl) (by decide) (by decide) rfl fun v1193 so1194 T1189 h1191 W1190 kp1192 sp1195 q1196 => ?_
  obtain ⟨rfl, rfl⟩ := q1196
  show Go K _ T1189 28 #[.val (.ref t), .val (.int (82 : Int32)), .val (.ref a1181)] [(.int (Int32.ofNat 40)), (.int (0 : Int32)), (.ref a1181), (.int (0 : Int32)), (.ref t)]
  have f1197 := f1188.keep kp1192 nin0
  have f1198 := f1187.keep kp1192 nin0
  refine wCopy (us := vs) W1190 d30_28 (ow114 hw) (ow117 hw) (ow115 hw) (ow116 hw) (by simp) f1197 f1198 rfl (by decide) (by decide) (by decide) 40 82 0 0 40 (by decide) (by decide) (by decide) (by decide) (by decide) (by decide) (by decide) (range_self hvs _) (by decide) rfl (by decide) 0 (Nat.le_of_eq rfl) (by decide) rfl fun T1199 h1201 W1200 kp1202 A1203 => ?_
  have f1204 : Arv Z h1201 a1181 k1182 .byte (82 : Int32) ((List.replicate 82 (Value.int 0)).take 0 ++ vs ++ (List.replicate 82 (Value.int 0)).drop (0 + 40)) (.int 0) := A1203
  have f1205 : Arv Z h1201 a1181 k1182 .byte (Int32.ofNat 82) (vs ++ List.replicate 42 (Value.int 0)) (.int 0) := f1204
  refine gAloadN W1200 d30_31 rfl rfl rfl ?_
  exact wRetA (so := [a1181]) (t := .array .byte) W1200 d30_32 rfl rfl rfl (by decide) (by decide) (all1 ⟨by simp, (Nat.le_of_eq g1184.symm)⟩ alln) ⟨a1181, k1182, rfl, rfl, (Nat.le_of_eq g1184.symm), f1205⟩
theorem d29_9 : decode jdk_29_method_65_code 9 = .ok (.iload_n 1, 1) := by decide +kernel
theorem oef_org_mxb (m_ : MethodId)   : (entryFrame m_ #[(.int (3 : Int32)), (.int (42 : Int32))] 2).locals = #[.val (.int (3 : Int32)), .val (.int (42 : Int32))] := by first | (simp [entryFrame, argsToLocals, Value.category]; done) | rfl
set_option maxRecDepth 65536 in
set_option maxHeartbeats 40000000 in
theorem org_mxb (l : Launch) (Z : State) (a0 : Array Value) (hw : ∀ d ∈ tables_1, d.before a0 Z = true) (hE : EW Z a0 consts_1)  (h : Heap) (hO : Old Z Z.heap.size h)   :
    Ct l Z consts_1 (⟨"java/lang/Math", "max", "(II)I"⟩ : MethodName) jdk_29_method_65_code 2 (Option.some Jvm.ClassFile.FieldType.int) ⟨0, 0, 0, 0⟩ #[(.int (3 : Int32)), (.int (42 : Int32))] h [] (fun rv' hp' so' => rv' = some (.int (42 : Int32)) ∧ so' = []) := by
  refine Ct.mk "java/lang/Math" "max" rfl rfl (a0 := a0) (by decide +kernel) hO hE (fun x q => nomatch q) ?_
  intro K T W
  rw [oef_org_mxb]
  refine gIloadN W d29_0 rfl rfl ?_
  refine gIloadN W d29_1 rfl rfl ?_
  refine gIcmpYes (pc' := 9) W d29_2 (tlt (by decide)).1 (by decide) rfl ?_
  refine gIloadN W d29_9 rfl rfl ?_
  exact wRetI (so := []) (t := .int) W d29_10 (by simp) rfl (by decide) (by decide) (fun _ q => nomatch q) ⟨rfl, rfl⟩
theorem oef_org_nlb (m_ : MethodId) (y0_ : Int32)  : (entryFrame m_ #[(.int y0_), (.int (3 : Int32)), (.int (42 : Int32))] 4).locals = #[.val (.int y0_), .val (.int (3 : Int32)), .val (.int (42 : Int32)), .unset] := by first | (simp [entryFrame, argsToLocals, Value.category]; done) | rfl
set_option maxRecDepth 65536 in
set_option maxHeartbeats 40000000 in
theorem org_nlb (l : Launch) (Z : State) (a0 : Array Value) (hw : ∀ d ∈ tables_1, d.before a0 Z = true) (hE : EW Z a0 consts_1)  (h : Heap) (hO : Old Z Z.heap.size h)   :
    Ct l Z consts_1 (⟨"jdk/internal/util/ArraysSupport", "newLength", "(III)I"⟩ : MethodName) jdk_48_method_27_code 4 (Option.some Jvm.ClassFile.FieldType.int) ⟨1, 0, 0, 20⟩ #[(.int (Int32.ofNat 40)), (.int (3 : Int32)), (.int (42 : Int32))] h [] (fun rv' hp' so' => rv' = some (.int (82 : Int32)) ∧ so' = []) := by
  refine Ct.mk "jdk/internal/util/ArraysSupport" "newLength" rfl rfl (a0 := a0) (plainFor_of_name opn7) hO hE (fun x q => nomatch q) ?_
  intro K T W
  rw [oef_org_nlb]
  refine gIloadN W d28_0 rfl rfl ?_
  refine gIloadN W d28_1 rfl rfl ?_
  refine gIloadN W d28_2 rfl rfl ?_
  refine wStatic (y := (⟨"java/lang/Math", "max", "(II)I"⟩ : MethodName)) (Wd := 1) (argsL := [(.int (3 : Int32)), (.int (42 : Int32))]) (rest := [(.int (Int32.ofNat 40))]) W d28_3 (ow148 hw) (ow149 hw) (ow112 hw) (ow150 hw) (by decide) (Cb.ct (org_mxb l Z a0 hw hE  h W.old  ) (ow150 hw) (ow112 hw) hE (by decide) (by decide)) (by simp) rfl (lenOf opd16 rfl) rfl (Nat.le_of_eq rfl) (by decide) (by decide) rfl fun v1210 so1211 T1206 h1208 W1207 kp1209 sp1212 q1213 => ?_
  obtain ⟨rfl, rfl⟩ := q1213
  show Go K _ T1206 6 #[.val (.int (Int32.ofNat 40)), .val (.int (3 : Int32)), .val (.int (42 : Int32)), .unset] [(.int (42 : Int32)), (.int (Int32.ofNat 40))]
  refine gIadd (z := (82 : Int32)) W1207 d28_6 (by decide) rfl ?_
  refine gIstoreN (ls' := #[.val (.int (Int32.ofNat 40)), .val (.int (3 : Int32)), .val (.int (42 : Int32)), .val (.int (82 : Int32))]) W1207 d28_7 rfl rfl ?_
  refine gIconst (z := (0 : Int32)) W1207 d28_8 rfl rfl ?_
  refine gIloadN W1207 d28_9 rfl rfl ?_
  refine gIcmpNo W1207 d28_10 (tlt (by decide)).2.1 rfl ?_
  refine gIloadN W1207 d28_13 rfl rfl ?_
  refine wLdcI (v := (2147483639 : Int32)) W1207 d28_14 (ow151 hw) rfl ?_
  refine gIcmpNo W1207 d28_16 (flt (by decide)).2.2.1 rfl ?_
  refine gIloadN W1207 d28_19 rfl rfl ?_
  exact wRetI (so := []) (t := .int) W1207 d28_20 (by simp) rfl (by decide) (by decide) (fun _ q => nomatch q) ⟨rfl, rfl⟩
theorem oef_org_ncb (m_ : MethodId) (a : Addr)  : (entryFrame m_ #[(.ref a), (.int (43 : Int32))] 6).locals = #[.val (.ref a), .val (.int (43 : Int32)), .unset, .unset, .unset, .unset] := by first | (simp [entryFrame, argsToLocals, Value.category]; done) | rfl
set_option maxRecDepth 65536 in
set_option maxHeartbeats 40000000 in
theorem org_ncb (l : Launch) (Z : State) (a0 : Array Value) (hw : ∀ d ∈ tables_1, d.before a0 Z = true) (hE : EW Z a0 consts_1) (a : Addr) (t : Addr) (kb : ClassId) (vs : List Value) (h : Heap) (hO : Old Z Z.heap.size h) (q0 : Exa Z h a "java/lang/StringBuilder") (q1 : Fld Z h a "java/lang/AbstractStringBuilder" "value" "[B" (.ref t)) (q2 : Fld Z h a "java/lang/AbstractStringBuilder" "coder" "B" (.int (0 : Int32))) (q3 : Arv Z h t kb .byte (Int32.ofNat 40) vs (.int 0))  :
    Ct l Z consts_1 (⟨"java/lang/AbstractStringBuilder", "newCapacity", "(I)I"⟩ : MethodName) jdk_68_method_10_code 6 (Option.some Jvm.ClassFile.FieldType.int) ⟨2, 0, 0, 45⟩ #[(.ref a), (.int (43 : Int32))] h [] (fun rv' hp' so' => rv' = some (.int (82 : Int32)) ∧ so' = []) := by
  refine Ct.mk "java/lang/AbstractStringBuilder" "newCapacity" rfl rfl (a0 := a0) (plainFor_of_name opn2) hO hE (fun x q => nomatch q) ?_
  intro K T W
  rw [oef_org_ncb]
  refine gAloadN W d27_0 rfl rfl rfl ?_
  refine wGetF W d27_1 (ow72 hw) Via.refl q1 rfl fun T1214 W1215 => ?_
  refine wLen W1215 d27_4 q3 rfl ?_
  refine gIstoreN (ls' := #[.val (.ref a), .val (.int (43 : Int32)), .val (.int (Int32.ofNat 40)), .unset, .unset, .unset]) W1215 d27_5 rfl rfl ?_
  refine gIloadN W1215 d27_6 rfl rfl ?_
  refine gAloadN W1215 d27_7 rfl rfl rfl ?_
  refine wGetF W1215 d27_8 (ow74 hw) Via.refl q2 rfl fun T1216 W1217 => ?_
  refine gIshl (z := (43 : Int32)) W1217 d27_11 (by decide) rfl ?_
  refine gIstoreN (ls' := #[.val (.ref a), .val (.int (43 : Int32)), .val (.int (Int32.ofNat 40)), .val (.int (43 : Int32)), .unset, .unset]) W1217 d27_12 rfl rfl ?_
  refine gIloadN W1217 d27_13 rfl rfl ?_
  refine gIloadN W1217 d27_14 rfl rfl ?_
  refine gIsub (z := (3 : Int32)) W1217 d27_15 (by decide) rfl ?_
  refine gIstore (ls' := #[.val (.ref a), .val (.int (43 : Int32)), .val (.int (Int32.ofNat 40)), .val (.int (43 : Int32)), .val (.int (3 : Int32)), .unset]) W1217 d27_16 rfl rfl ?_
  refine gIloadN W1217 d27_18 rfl rfl ?_
  refine gIload W1217 d27_19 rfl rfl ?_
  refine gIloadN W1217 d27_21 rfl rfl ?_
  refine gIconst (z := (2 : Int32)) W1217 d27_22 rfl rfl ?_
  refine gAloadN W1217 d27_23 rfl rfl rfl ?_
  refine wGetF W1217 d27_24 (ow74 hw) Via.refl q2 rfl fun T1218 W1219 => ?_
  refine gIshl (z := (2 : Int32)) W1219 d27_27 (by decide) rfl ?_
  refine gIadd (z := (42 : Int32)) W1219 d27_28 (by decide) rfl ?_
  refine wStatic (y := (⟨"jdk/internal/util/ArraysSupport", "newLength", "(III)I"⟩ : MethodName)) (Wd := 0) (argsL := [(.int (Int32.ofNat 40)), (.int (3 : Int32)), (.int (42 : Int32))]) (rest := []) W1219 d27_29 (ow144 hw) (ow145 hw) (ow146 hw) (ow147 hw) (by decide) (Cb.ct (org_nlb l Z a0 hw hE  h W1219.old  ) (ow147 hw) (ow146 hw) hE (by decide) (by decide)) (by simp) rfl (lenOf opd25 rfl) rfl (Nat.le_of_eq rfl) (by decide) (by decide) rfl fun v1224 so1225 T1220 h1222 W1221 kp1223 sp1226 q1227 => ?_
  obtain ⟨rfl, rfl⟩ := q1227
  show Go K _ T1220 32 #[.val (.ref a), .val (.int (43 : Int32)), .val (.int (Int32.ofNat 40)), .val (.int (43 : Int32)), .val (.int (3 : Int32)), .unset] [(.int (82 : Int32))]
  refine gIstore (ls' := #[.val (.ref a), .val (.int (43 : Int32)), .val (.int (Int32.ofNat 40)), .val (.int (43 : Int32)), .val (.int (3 : Int32)), .val (.int (82 : Int32))]) W1221 d27_32 rfl rfl ?_
  refine gIload W1221 d27_34 rfl rfl ?_
  refine wLdcI (v := (2147483647 : Int32)) W1221 d27_36 (ow152 hw) rfl ?_
  refine gIcmpYes (pc' := 51) W1221 d27_38 (feq (by decide)).2 (by decide) rfl ?_
  refine gIload W1221 d27_51 rfl rfl ?_
  refine gAloadN W1221 d27_53 rfl rfl rfl ?_
  have f1228 := q2.keep kp1223 nin0
  refine wGetF W1221 d27_54 (ow74 hw) Via.refl f1228 rfl fun T1229 W1230 => ?_
  refine gIshr (z := (82 : Int32)) W1230 d27_57 (by decide) rfl ?_
  exact wRetI (so := []) (t := .int) W1230 d27_58 (by simp) rfl (by decide) (by decide) (fun _ q => nomatch q) ⟨rfl, rfl⟩
theorem oef_org_egb (m_ : MethodId) (a : Addr)  : (entryFrame m_ #[(.ref a), (.int (43 : Int32))] 3).locals = #[.val (.ref a), .val (.int (43 : Int32)), .unset] := by first | (simp [entryFrame, argsToLocals, Value.category]; done) | rfl
set_option maxRecDepth 65536 in
set_option maxHeartbeats 40000000 in
theorem org_egb (l : Launch) (Z : State) (a0 : Array Value) (hw : ∀ d ∈ tables_1, d.before a0 Z = true) (hE : EW Z a0 consts_1) (a : Addr) (t : Addr) (kb : ClassId) (vs : List Value) (c : Int32) (h : Heap) (hO : Old Z Z.heap.size h) (q0 : Exa Z h a "java/lang/StringBuilder") (q1 : Fld Z h a "java/lang/AbstractStringBuilder" "value" "[B" (.ref t)) (q2 : Fld Z h a "java/lang/AbstractStringBuilder" "coder" "B" (.int (0 : Int32))) (q3 : Arv Z h t kb .byte (Int32.ofNat 40) vs (.int 0)) (q4 : Fld Z h a "java/lang/AbstractStringBuilder" "count" "I" (.int c)) (q5 : Fld Z h a "java/lang/AbstractStringBuilder" "maybeLatin1" "Z" (.int (0 : Int32))) (hvs : (vs.length = 40)) (ge_a : Z.heap.size ≤ a) :
    Ct l Z consts_1 (⟨"java/lang/AbstractStringBuilder", "ensureCapacityInternal", "(I)V"⟩ : MethodName) jdk_68_method_9_code 3 (Option.none : Option Jvm.ClassFile.FieldType) ⟨3, 1, 82, 85⟩ #[(.ref a), (.int (43 : Int32))] h [a] (fun rv' hp' so' => ∃ r : Addr, ∃ kr : ClassId, rv' = none ∧ so' = [r] ∧ (h.size ≤ r) ∧ Exa Z hp' a "java/lang/StringBuilder" ∧ Fld Z hp' a "java/lang/AbstractStringBuilder" "value" "[B" (.ref r) ∧ Fld Z hp' a "java/lang/AbstractStringBuilder" "coder" "B" (.int (0 : Int32)) ∧ Fld Z hp' a "java/lang/AbstractStringBuilder" "count" "I" (.int c) ∧ Fld Z hp' a "java/lang/AbstractStringBuilder" "maybeLatin1" "Z" (.int (0 : Int32)) ∧ Arv Z hp' r kr .byte (Int32.ofNat 82) (vs ++ List.replicate 42 (Value.int 0)) (.int 0)) := by
  refine Ct.mk "java/lang/AbstractStringBuilder" "ensureCapacityInternal" rfl rfl (a0 := a0) (plainFor_of_name opn2) hO hE (fun x q => by simp at q; subst q; exact ge_a) ?_
  intro K T W
  rw [oef_org_egb]
  refine gAloadN W d26_0 rfl rfl rfl ?_
  refine wGetF W d26_1 (ow72 hw) Via.refl q1 rfl fun T1231 W1232 => ?_
  refine wLen W1232 d26_4 q3 rfl ?_
  refine gAloadN W1232 d26_5 rfl rfl rfl ?_
  refine wGetF W1232 d26_6 (ow74 hw) Via.refl q2 rfl fun T1233 W1234 => ?_
  refine gIshr (z := (40 : Int32)) W1234 d26_9 (by decide) rfl ?_
  refine gIstoreN (ls' := #[.val (.ref a), .val (.int (43 : Int32)), .val (.int (40 : Int32))]) W1234 d26_10 rfl rfl ?_
  refine gIloadN W1234 d26_11 rfl rfl ?_
  refine gIloadN W1234 d26_12 rfl rfl ?_
  refine gIsub (z := (3 : Int32)) W1234 d26_13 (by decide) rfl ?_
  refine gIfNo W1234 d26_14 ((if0 _ _).trans (tlt (by decide)).2.2.2) rfl ?_
  refine gAloadN W1234 d26_17 rfl rfl rfl ?_
  refine gAloadN W1234 d26_18 rfl rfl rfl ?_
  refine wGetF W1234 d26_19 (ow72 hw) Via.refl q1 rfl fun T1235 W1236 => ?_
  refine gAloadN W1236 d26_22 rfl rfl rfl ?_
  refine gIloadN W1236 d26_23 rfl rfl ?_
  refine wPrivate (y := (⟨"java/lang/AbstractStringBuilder", "newCapacity", "(I)I"⟩ : MethodName)) (Wd := 2) (a := a) (argsL := [(.int (43 : Int32))]) (rest := [(.ref t), (.ref a)]) W1236 d26_24 (ow139 hw) (ow140 hw) (ow142 hw) (ow141 hw) (ow143 hw) (by decide) (Cb.ct (org_ncb l Z a0 hw hE (a) (t) (kb) (vs) h W1236.old q0 q1 q2 q3 ) (ow143 hw) (ow68 hw) hE (by decide) (by decide)) q0 (by simp) rfl (lenOf opd1 rfl) rfl (Nat.le_of_eq rfl) (by decide) (by decide) rfl fun v1241 so1242 T1237 h1239 W1238 kp1240 sp1243 q1244 => ?_
  obtain ⟨rfl, rfl⟩ := q1244
  show Go K _ T1237 27 #[.val (.ref a), .val (.int (43 : Int32)), .val (.int (40 : Int32))] [(.int (82 : Int32)), (.ref t), (.ref a)]
  refine gAloadN W1238 d26_27 rfl rfl rfl ?_
  have f1245 := q2.keep kp1240 nin0
  refine wGetF W1238 d26_28 (ow74 hw) Via.refl f1245 rfl fun T1246 W1247 => ?_
  refine gIshl (z := (82 : Int32)) W1247 d26_31 (by decide) rfl ?_
  have f1248 := q3.keep kp1240 nin0
  refine wStatic (y := (⟨"java/util/Arrays", "copyOf", "([BI)[B"⟩ : MethodName)) (Wd := 1) (argsL := [(.ref t), (.int (82 : Int32))]) (rest := [(.ref a)]) W1247 d26_32 (ow153 hw) (ow154 hw) (ow102 hw) (ow155 hw) (by decide) (Cb.ct (org_cob l Z a0 hw hE (t) (kb) (vs) h1239 W1247.old f1248 hvs ) (ow155 hw) (ow102 hw) hE (by decide) (by decide)) (by simp) rfl (lenOf opd31 rfl) rfl (Nat.le_of_eq rfl) (by decide) (by decide) rfl fun v1253 so1254 T1249 h1251 W1250 kp1252 sp1255 q1256 => ?_
  obtain ⟨r1257, kr1258, rfl, rfl, f1259, f1260⟩ := q1256
  show Go K _ T1249 35 #[.val (.ref a), .val (.int (43 : Int32)), .val (.int (40 : Int32))] [(.ref r1257), (.ref a)]
  have f1261 := q1.keep kp1240 nin0
  have f1262 := f1261.keep kp1252 nin0
  have f1263 := q0.keep kp1240
  have f1264 := f1263.keep kp1252
  refine wPutF (ty := .array .byte) W1250 d26_35 (ow72 hw) Via.refl (by simp) f1262 f1264 (Or.inl (ow73 hw)) (ow59 hw) (by decide) rfl rfl rfl fun T1265 h1267 W1266 wr1268 => ?_
  have f1269 := Fld.same wr1268 f1262
  have f1270 := f1264.wr wr1268
  have f1271 := f1245.keep kp1252 nin0
  have f1272 := f1271.other wr1268 (Or.inr (slot_ne (t := .byte) (t' := .array .byte) (Or.inl (ow75 hw)) (Or.inl (ow73 hw)) (by decide) (by decide) (by decide)))
  have f1273 := q4.keep kp1240 nin0
  have f1274 := f1273.keep kp1252 nin0
  have f1275 := f1274.other wr1268 (Or.inr (slot_ne (t := .int) (t' := .array .byte) (Or.inl (ow133 hw)) (Or.inl (ow73 hw)) (by decide) (by decide) (by decide)))
  have f1276 := q5.keep kp1240 nin0
  have f1277 := f1276.keep kp1252 nin0
  have f1278 := f1277.other wr1268 (Or.inr (slot_ne (t := .boolean) (t' := .array .byte) (Or.inl (ow283 hw)) (Or.inl (ow73 hw)) (by decide) (by decide) (by decide)))
  have ne1279 : a ≠ r1257 := Nat.ne_of_lt (Nat.lt_of_lt_of_le f1263.lt f1259)
  have f1280 := f1260.other wr1268 (Ne.symm ne1279)
  exact wRet0 (so := [r1257]) W1266 d26_38 (by decide) (by decide) (all1 ⟨by simp, (Nat.le_trans W1238.grow f1259)⟩ alln) ⟨r1257, kr1258, rfl, rfl, (Nat.le_trans W1238.grow f1259), f1270, f1269, f1272, f1275, f1278, f1280⟩
theorem oef_org_mnc (m_ : MethodId) (y0_ : Int32)  : (entryFrame m_ #[(.int y0_), (.int (164 : Int32))] 2).locals = #[.val (.int y0_), .val (.int (164 : Int32))] := by first | (simp [entryFrame, argsToLocals, Value.category]; done) | rfl
set_option maxRecDepth 65536 in
set_option maxHeartbeats 40000000 in
theorem org_mnc (l : Launch) (Z : State) (a0 : Array Value) (hw : ∀ d ∈ tables_1, d.before a0 Z = true) (hE : EW Z a0 consts_1)  (h : Heap) (hO : Old Z Z.heap.size h)   :
    Ct l Z consts_1 (⟨"java/lang/Math", "min", "(II)I"⟩ : MethodName) jdk_29_method_69_code 2 (Option.some Jvm.ClassFile.FieldType.int) ⟨0, 0, 0, 0⟩ #[(.int (Int32.ofNat 80)), (.int (164 : Int32))] h [] (fun rv' hp' so' => rv' = some (.int (Int32.ofNat 80)) ∧ so' = []) := by
  refine Ct.mk "java/lang/Math" "min" rfl rfl (a0 := a0) (by decide +kernel) hO hE (fun x q => nomatch q) ?_
  intro K T W
  rw [oef_org_mnc]
  refine gIloadN W d22_0 rfl rfl ?_
  refine gIloadN W d22_1 rfl rfl ?_
  refine gIcmpNo W d22_2 (flt (by decide)).2.2.1 rfl ?_
  refine gIloadN W d22_5 rfl rfl ?_
  refine gGoto (pc' := 10) W d22_6 (by decide) rfl ?_
  exact wRetI (so := []) (t := .int) W d22_10 (by simp) rfl (by decide) (by decide) (fun _ q => nomatch q) ⟨rfl, rfl⟩
theorem oef_org_coc (m_ : MethodId) (t : Addr)  : (entryFrame m_ #[(.ref t), (.int (164 : Int32))] 3).locals = #[.val (.ref t), .val (.int (164 : Int32)), .unset] := by first | (simp [entryFrame, argsToLocals, Value.category]; done) | rfl
set_option maxRecDepth 65536 in
set_option maxHeartbeats 40000000 in
theorem org_coc (l : Launch) (Z : State) (a0 : Array Value) (hw : ∀ d ∈ tables_1, d.before a0 Z = true) (hE : EW Z a0 consts_1) (t : Addr) (kb : ClassId) (vs : List Value) (h : Heap) (hO : Old Z Z.heap.size h) (q0 : Arv Z h t kb .byte (Int32.ofNat 80) vs (.int 0)) (hvs : (vs.length = 80))  :
    Ct l Z consts_1 (⟨"java/util/Arrays", "copyOf", "([BI)[B"⟩ : MethodName) jdk_65_method_121_code 3 (Option.some (Jvm.ClassFile.FieldType.array Jvm.ClassFile.FieldType.byte)) ⟨1, 1, 164, 60⟩ #[(.ref t), (.int (164 : Int32))] h [] (fun rv' hp' so' => ∃ r : Addr, ∃ kr : ClassId, rv' = some (.ref r) ∧ so' = [r] ∧ (h.size ≤ r) ∧ Arv Z hp' r kr .byte (Int32.ofNat 164) (vs ++ List.replicate 84 (Value.int 0)) (.int 0)) := by
  refine Ct.mk "java/util/Arrays" "copyOf" rfl rfl (a0 := a0) (plainFor_of_name opn4) hO hE (fun x q => nomatch q) ?_
  intro K T W
  rw [oef_org_coc]
  refine gIloadN W d30_0 rfl rfl ?_
  refine gAloadN W d30_1 rfl rfl rfl ?_
  refine wLen W d30_2 q0 rfl ?_
  refine gIcmpYes (pc' := 14) W d30_3 (feq (by decide)).2 (by decide) rfl ?_
  refine gIloadN W d30_14 rfl rfl ?_
  refine wNewE (cap := 164) (ad := "[B") W d30_15 (ow19 hw) (by decide) (by decide) (by decide) (by decide) (by decide) (by decide) rfl fun T1281 h1283 a1284 k1285 W1282 E1286 g1287 A1288 E1289 => ?_
  have f1290 : Arv Z h1283 a1284 k1285 .byte (164 : Int32) (List.replicate 164 (.int 0)) (.int 0) := A1288 164
  refine gAstoreN (ls' := #[.val (.ref t), .val (.int (164 : Int32)), .val (.ref a1284)]) W1282 d30_17 rfl rfl rfl ?_
  refine gAloadN W1282 d30_18 rfl rfl rfl ?_
  refine gIconst (z := (0 : Int32)) W1282 d30_19 rfl rfl ?_
  refine gAloadN W1282 d30_20 rfl rfl rfl ?_
  refine gIconst (z := (0 : Int32)) W1282 d30_21 rfl rfl ?_
  refine gAloadN W1282 d30_22 rfl rfl rfl ?_
  have f1291 := q0.ext E1286
  refine wLen W1282 d30_23 f1291 rfl ?_
  refine gIloadN W1282 d30_24 rfl rfl ?_
  refine wStatic (y := (⟨"java/lang/Math", "min", "(II)I"⟩ : MethodName)) (Wd := 4) (argsL := [(.int (Int32.ofNat 80)), (.int (164 : Int32))]) (rest := [(.int (0 : Int32)), (.ref a1284), (.int (0 : Int32)), (.ref t)]) W1282 d30_25 (ow110 hw) (ow111 hw) (ow112 hw) (ow113 hw) (by decide) (Cb.ct (org_mnc l Z a0 hw hE  h1283 W1282.old  ) (ow113 hw) (ow112 hw) hE (by decide) (by decide)) (by simp) rfl (lenOf opd16 rfl) rfl (Nat.le_of_eq rfl) (by decide) (by decide) rfl fun v1296 so1297 T1292 h1294 W1293 kp1295 sp1298 q1299 => ?_
  obtain ⟨rfl, rfl⟩ := q1299
  show Go K _ T1292 28 #[.val (.ref t), .val (.int (164 : Int32)), .val (.ref a1284)] [(.int (Int32.ofNat 80)), (.int (0 : Int32)), (.ref a1284), (.int (0 : Int32)), (.ref t)]
  have f1300 := f1291.keep kp1295 nin0
  have f1301 := f1290.keep kp1295 nin0
  refine wCopy (us := vs) W1293 d30_28 (ow114 hw) (ow117 hw) (ow115 hw) (ow116 hw) (by simp) f1300 f1301 rfl (by decide) (by decide) (by decide) 80 164 0 0 80 (by decide) (by decide) (by decide) (by decide) (by decide) (by decide) (by decide) (range_self hvs _) (by decide) rfl (by decide) 0 (Nat.le_of_eq rfl) (by decide) rfl fun T1302 h1304 W1303 kp1305 A1306 => ?_
  have f1307 : Arv Z h1304 a1284 k1285 .byte (164 : Int32) ((List.replicate 164 (Value.int 0)).take 0 ++ vs ++ (List.replicate 164 (Value.int 0)).drop (0 + 80)) (.int 0) := A1306
  have f1308 : Arv Z h1304 a1284 k1285 .byte (Int32.ofNat 164) (vs ++ List.replicate 84 (Value.int 0)) (.int 0) := f1307
  refine gAloadN W1303 d30_31 rfl rfl rfl ?_
  exact wRetA (so := [a1284]) (t := .array .byte) W1303 d30_32 rfl rfl rfl (by decide) (by decide) (all1 ⟨by simp, (Nat.le_of_eq g1287.symm)⟩ alln) ⟨a1284, k1285, rfl, rfl, (Nat.le_of_eq g1287.symm), f1308⟩
theorem oef_org_mxc (m_ : MethodId)   : (entryFrame m_ #[(.int (6 : Int32)), (.int (84 : Int32))] 2).locals = #[.val (.int (6 : Int32)), .val (.int (84 : Int32))] := by first | (simp [entryFrame, argsToLocals, Value.category]; done) | rfl
set_option maxRecDepth 65536 in
set_option maxHeartbeats 40000000 in
theorem org_mxc (l : Launch) (Z : State) (a0 : Array Value) (hw : ∀ d ∈ tables_1, d.before a0 Z = true) (hE : EW Z a0 consts_1)  (h : Heap) (hO : Old Z Z.heap.size h)   :
    Ct l Z consts_1 (⟨"java/lang/Math", "max", "(II)I"⟩ : MethodName) jdk_29_method_65_code 2 (Option.some Jvm.ClassFile.FieldType.int) ⟨0, 0, 0, 0⟩ #[(.int (6 : Int32)), (.int (84 : Int32))] h [] (fun rv' hp' so' => rv' = some (.int (84 : Int32)) ∧ so' = []) := by
  refine Ct.mk "java/lang/Math" "max" rfl rfl (a0 := a0) (by decide +kernel) hO hE (fun x q => nomatch q) ?_
  intro K T W
  rw [oef_org_mxc]
  refine gIloadN W d29_0 rfl rfl ?_
  refine gIloadN W d29_1 rfl rfl ?_
  refine gIcmpYes (pc' := 9) W d29_2 (tlt (by decide)).1 (by decide) rfl ?_
  refine gIloadN W d29_9 rfl rfl ?_
  exact wRetI (so := []) (t := .int) W d29_10 (by simp) rfl (by decide) (by decide) (fun _ q => nomatch q) ⟨rfl, rfl⟩
theorem oef_org_nlc (m_ : MethodId) (y0_ : Int32)  : (entryFrame m_ #[(.int y0_), (.int (6 : Int32)), (.int (84 : Int32))] 4).locals = #[.val (.int y0_), .val (.int (6 : Int32)), .val (.int (84 : Int32)), .unset] := by first | (simp [entryFrame, argsToLocals, Value.category]; done) | rfl
set_option maxRecDepth 65536 in
set_option maxHeartbeats 40000000 in
theorem org_nlc (l : Launch) (Z : State) (a0 : Array Value) (hw : ∀ d ∈ tables_1, d.before a0 Z = true) (hE : EW Z a0 consts_1)  (h : Heap) (hO : Old Z Z.heap.size h)   :
    Ct l Z consts_1 (⟨"jdk/internal/util/ArraysSupport", "newLength", "(III)I"⟩ : MethodName) jdk_48_method_27_code 4 (Option.some Jvm.ClassFile.FieldType.int) ⟨1, 0, 0, 20⟩ #[(.int (Int32.ofNat 80)), (.int (6 : Int32)), (.int (84 : Int32))] h [] (fun rv' hp' so' => rv' = some (.int (164 : Int32)) ∧ so' = []) := by
  refine Ct.mk "jdk/internal/util/ArraysSupport" "newLength" rfl rfl (a0 := a0) (plainFor_of_name opn7) hO hE (fun x q => nomatch q) ?_
  intro K T W
  rw [oef_org_nlc]
  refine gIloadN W d28_0 rfl rfl ?_
  refine gIloadN W d28_1 rfl rfl ?_
  refine gIloadN W d28_2 rfl rfl ?_
  refine wStatic (y := (⟨"java/lang/Math", "max", "(II)I"⟩ : MethodName)) (Wd := 1) (argsL := [(.int (6 : Int32)), (.int (84 : Int32))]) (rest := [(.int (Int32.ofNat 80))]) W d28_3 (ow148 hw) (ow149 hw) (ow112 hw) (ow150 hw) (by decide) (Cb.ct (org_mxc l Z a0 hw hE  h W.old  ) (ow150 hw) (ow112 hw) hE (by decide) (by decide)) (by simp) rfl (lenOf opd16 rfl) rfl (Nat.le_of_eq rfl) (by decide) (by decide) rfl fun v1313 so1314 T1309 h1311 W1310 kp1312 sp1315 q1316 => ?_
  obtain ⟨rfl, rfl⟩ := q1316
  show Go K _ T1309 6 #[.val (.int (Int32.ofNat 80)), .val (.int (6 : Int32)), .val (.int (84 : Int32)), .unset] [(.int (84 : Int32)), (.int (Int32.ofNat 80))]
  refine gIadd (z := (164 : Int32)) W1310 d28_6 (by decide) rfl ?_
  refine gIstoreN (ls' := #[.val (.int (Int32.ofNat 80)), .val (.int (6 : Int32)), .val (.int (84 : Int32)), .val (.int (164 : Int32))]) W1310 d28_7 rfl rfl ?_
  refine gIconst (z := (0 : Int32)) W1310 d28_8 rfl rfl ?_
  refine gIloadN W1310 d28_9 rfl rfl ?_
  refine gIcmpNo W1310 d28_10 (tlt (by decide)).2.1 rfl ?_
  refine gIloadN W1310 d28_13 rfl rfl ?_
  refine wLdcI (v := (2147483639 : Int32)) W1310 d28_14 (ow151 hw) rfl ?_
  refine gIcmpNo W1310 d28_16 (flt (by decide)).2.2.1 rfl ?_
  refine gIloadN W1310 d28_19 rfl rfl ?_
  exact wRetI (so := []) (t := .int) W1310 d28_20 (by simp) rfl (by decide) (by decide) (fun _ q => nomatch q) ⟨rfl, rfl⟩
theorem oef_org_ncc (m_ : MethodId) (a : Addr)  : (entryFrame m_ #[(.ref a), (.int (43 : Int32))] 6).locals = #[.val (.ref a), .val (.int (43 : Int32)), .unset, .unset, .unset, .unset] := by first | (simp [entryFrame, argsToLocals, Value.category]; done) | rfl
set_option maxRecDepth 65536 in
set_option maxHeartbeats 40000000 in
theorem org_ncc (l : Launch) (Z : State) (a0 : Array Value) (hw : ∀ d ∈ tables_1, d.before a0 Z = true) (hE : EW Z a0 consts_1) (a : Addr) (t : Addr) (kb : ClassId) (vs : List Value) (h : Heap) (hO : Old Z Z.heap.size h) (q0 : Exa Z h a "java/lang/StringBuilder") (q1 : Fld Z h a "java/lang/AbstractStringBuilder" "value" "[B" (.ref t)) (q2 : Fld Z h a "java/lang/AbstractStringBuilder" "coder" "B" (.int (1 : Int32))) (q3 : Arv Z h t kb .byte (Int32.ofNat 80) vs (.int 0))  :
    Ct l Z consts_1 (⟨"java/lang/AbstractStringBuilder", "newCapacity", "(I)I"⟩ : MethodName) jdk_68_method_10_code 6 (Option.some Jvm.ClassFile.FieldType.int) ⟨2, 0, 0, 45⟩ #[(.ref a), (.int (43 : Int32))] h [] (fun rv' hp' so' => rv' = some (.int (82 : Int32)) ∧ so' = []) := by
  refine Ct.mk "java/lang/AbstractStringBuilder" "newCapacity" rfl rfl (a0 := a0) (plainFor_of_name opn2) hO hE (fun x q => nomatch q) ?_
  intro K T W
  rw [oef_org_ncc]
  refine gAloadN W d27_0 rfl rfl rfl ?_
  refine wGetF W d27_1 (ow72 hw) Via.refl q1 rfl fun T1317 W1318 => ?_
  refine wLen W1318 d27_4 q3 rfl ?_
  refine gIstoreN (ls' := #[.val (.ref a), .val (.int (43 : Int32)), .val (.int (Int32.ofNat 80)), .unset, .unset, .unset]) W1318 d27_5 rfl rfl ?_
  refine gIloadN W1318 d27_6 rfl rfl ?_
  refine gAloadN W1318 d27_7 rfl rfl rfl ?_
  refine wGetF W1318 d27_8 (ow74 hw) Via.refl q2 rfl fun T1319 W1320 => ?_
  refine gIshl (z := (86 : Int32)) W1320 d27_11 (by decide) rfl ?_
  refine gIstoreN (ls' := #[.val (.ref a), .val (.int (43 : Int32)), .val (.int (Int32.ofNat 80)), .val (.int (86 : Int32)), .unset, .unset]) W1320 d27_12 rfl rfl ?_
  refine gIloadN W1320 d27_13 rfl rfl ?_
  refine gIloadN W1320 d27_14 rfl rfl ?_
  refine gIsub (z := (6 : Int32)) W1320 d27_15 (by decide) rfl ?_
  refine gIstore (ls' := #[.val (.ref a), .val (.int (43 : Int32)), .val (.int (Int32.ofNat 80)), .val (.int (86 : Int32)), .val (.int (6 : Int32)), .unset]) W1320 d27_16 rfl rfl ?_
  refine gIloadN W1320 d27_18 rfl rfl ?_
  refine gIload W1320 d27_19 rfl rfl ?_
  refine gIloadN W1320 d27_21 rfl rfl ?_
  refine gIconst (z := (2 : Int32)) W1320 d27_22 rfl rfl ?_
  refine gAloadN W1320 d27_23 rfl rfl rfl ?_
  refine wGetF W1320 d27_24 (ow74 hw) Via.refl q2 rfl fun T1321 W1322 => ?_
  refine gIshl (z := (4 : Int32)) W1322 d27_27 (by decide) rfl ?_
  refine gIadd (z := (84 : Int32)) W1322 d27_28 (by decide) rfl ?_
  refine wStatic (y := (⟨"jdk/internal/util/ArraysSupport", "newLength", "(III)I"⟩ : MethodName)) (Wd := 0) (argsL := [(.int (Int32.ofNat 80)), (.int (6 : Int32)), (.int (84 : Int32))]) (rest := []) W1322 d27_29 (ow144 hw) (ow145 hw) (ow146 hw) (ow147 hw) (by decide) (Cb.ct (org_nlc l Z a0 hw hE  h W1322.old  ) (ow147 hw) (ow146 hw) hE (by decide) (by decide)) (by simp) rfl (lenOf opd25 rfl) rfl (Nat.le_of_eq rfl) (by decide) (by decide) rfl fun v1327 so1328 T1323 h1325 W1324 kp1326 sp1329 q1330 => ?_
  obtain ⟨rfl, rfl⟩ := q1330
  show Go K _ T1323 32 #[.val (.ref a), .val (.int (43 : Int32)), .val (.int (Int32.ofNat 80)), .val (.int (86 : Int32)), .val (.int (6 : Int32)), .unset] [(.int (164 : Int32))]
  refine gIstore (ls' := #[.val (.ref a), .val (.int (43 : Int32)), .val (.int (Int32.ofNat 80)), .val (.int (86 : Int32)), .val (.int (6 : Int32)), .val (.int (164 : Int32))]) W1324 d27_32 rfl rfl ?_
  refine gIload W1324 d27_34 rfl rfl ?_
  refine wLdcI (v := (2147483647 : Int32)) W1324 d27_36 (ow152 hw) rfl ?_
  refine gIcmpYes (pc' := 51) W1324 d27_38 (feq (by decide)).2 (by decide) rfl ?_
  refine gIload W1324 d27_51 rfl rfl ?_
  refine gAloadN W1324 d27_53 rfl rfl rfl ?_
  have f1331 := q2.keep kp1326 nin0
  refine wGetF W1324 d27_54 (ow74 hw) Via.refl f1331 rfl fun T1332 W1333 => ?_
  refine gIshr (z := (82 : Int32)) W1333 d27_57 (by decide) rfl ?_
  exact wRetI (so := []) (t := .int) W1333 d27_58 (by simp) rfl (by decide) (by decide) (fun _ q => nomatch q) ⟨rfl, rfl⟩
theorem oef_org_egc (m_ : MethodId) (a : Addr)  : (entryFrame m_ #[(.ref a), (.int (43 : Int32))] 3).locals = #[.val (.ref a), .val (.int (43 : Int32)), .unset] := by first | (simp [entryFrame, argsToLocals, Value.category]; done) | rfl
set_option maxRecDepth 65536 in
set_option maxHeartbeats 40000000 in
theorem org_egc (l : Launch) (Z : State) (a0 : Array Value) (hw : ∀ d ∈ tables_1, d.before a0 Z = true) (hE : EW Z a0 consts_1) (a : Addr) (t : Addr) (kb : ClassId) (vs : List Value) (c : Int32) (h : Heap) (hO : Old Z Z.heap.size h) (q0 : Exa Z h a "java/lang/StringBuilder") (q1 : Fld Z h a "java/lang/AbstractStringBuilder" "value" "[B" (.ref t)) (q2 : Fld Z h a "java/lang/AbstractStringBuilder" "coder" "B" (.int (1 : Int32))) (q3 : Arv Z h t kb .byte (Int32.ofNat 80) vs (.int 0)) (q4 : Fld Z h a "java/lang/AbstractStringBuilder" "count" "I" (.int c)) (q5 : Fld Z h a "java/lang/AbstractStringBuilder" "maybeLatin1" "Z" (.int (0 : Int32))) (hvs : (vs.length = 80)) (ge_a : Z.heap.size ≤ a) :
    Ct l Z consts_1 (⟨"java/lang/AbstractStringBuilder", "ensureCapacityInternal", "(I)V"⟩ : MethodName) jdk_68_method_9_code 3 (Option.none : Option Jvm.ClassFile.FieldType) ⟨3, 1, 164, 85⟩ #[(.ref a), (.int (43 : Int32))] h [a] (fun rv' hp' so' => ∃ r : Addr, ∃ kr : ClassId, rv' = none ∧ so' = [r] ∧ (h.size ≤ r) ∧ Exa Z hp' a "java/lang/StringBuilder" ∧ Fld Z hp' a "java/lang/AbstractStringBuilder" "value" "[B" (.ref r) ∧ Fld Z hp' a "java/lang/AbstractStringBuilder" "coder" "B" (.int (1 : Int32)) ∧ Fld Z hp' a "java/lang/AbstractStringBuilder" "count" "I" (.int c) ∧ Fld Z hp' a "java/lang/AbstractStringBuilder" "maybeLatin1" "Z" (.int (0 : Int32)) ∧ Arv Z hp' r kr .byte (Int32.ofNat 164) (vs ++ List.replicate 84 (Value.int 0)) (.int 0)) := by
  refine Ct.mk "java/lang/AbstractStringBuilder" "ensureCapacityInternal" rfl rfl (a0 := a0) (plainFor_of_name opn2) hO hE (fun x q => by simp at q; subst q; exact ge_a) ?_
  intro K T W
  rw [oef_org_egc]
  refine gAloadN W d26_0 rfl rfl rfl ?_
  refine wGetF W d26_1 (ow72 hw) Via.refl q1 rfl fun T1334 W1335 => ?_
  refine wLen W1335 d26_4 q3 rfl ?_
  refine gAloadN W1335 d26_5 rfl rfl rfl ?_
  refine wGetF W1335 d26_6 (ow74 hw) Via.refl q2 rfl fun T1336 W1337 => ?_
  refine gIshr (z := (40 : Int32)) W1337 d26_9 (by decide) rfl ?_
  refine gIstoreN (ls' := #[.val (.ref a), .val (.int (43 : Int32)), .val (.int (40 : Int32))]) W1337 d26_10 rfl rfl ?_
  refine gIloadN W1337 d26_11 rfl rfl ?_
  refine gIloadN W1337 d26_12 rfl rfl ?_
  refine gIsub (z := (3 : Int32)) W1337 d26_13 (by decide) rfl ?_
  refine gIfNo W1337 d26_14 ((if0 _ _).trans (tlt (by decide)).2.2.2) rfl ?_
  refine gAloadN W1337 d26_17 rfl rfl rfl ?_
  refine gAloadN W1337 d26_18 rfl rfl rfl ?_
  refine wGetF W1337 d26_19 (ow72 hw) Via.refl q1 rfl fun T1338 W1339 => ?_
  refine gAloadN W1339 d26_22 rfl rfl rfl ?_
  refine gIloadN W1339 d26_23 rfl rfl ?_
  refine wPrivate (y := (⟨"java/lang/AbstractStringBuilder", "newCapacity", "(I)I"⟩ : MethodName)) (Wd := 2) (a := a) (argsL := [(.int (43 : Int32))]) (rest := [(.ref t), (.ref a)]) W1339 d26_24 (ow139 hw) (ow140 hw) (ow142 hw) (ow141 hw) (ow143 hw) (by decide) (Cb.ct (org_ncc l Z a0 hw hE (a) (t) (kb) (vs) h W1339.old q0 q1 q2 q3 ) (ow143 hw) (ow68 hw) hE (by decide) (by decide)) q0 (by simp) rfl (lenOf opd1 rfl) rfl (Nat.le_of_eq rfl) (by decide) (by decide) rfl fun v1344 so1345 T1340 h1342 W1341 kp1343 sp1346 q1347 => ?_
  obtain ⟨rfl, rfl⟩ := q1347
  show Go K _ T1340 27 #[.val (.ref a), .val (.int (43 : Int32)), .val (.int (40 : Int32))] [(.int (82 : Int32)), (.ref t), (.ref a)]
  refine gAloadN W1341 d26_27 rfl rfl rfl ?_
  have f1348 := q2.keep kp1343 nin0
  refine wGetF W1341 d26_28 (ow74 hw) Via.refl f1348 rfl fun T1349 W1350 => ?_
  refine gIshl (z := (164 : Int32)) W1350 d26_31 (by decide) rfl ?_
  have f1351 := q3.keep kp1343 nin0
  refine wStatic (y := (⟨"java/util/Arrays", "copyOf", "([BI)[B"⟩ : MethodName)) (Wd := 1) (argsL := [(.ref t), (.int (164 : Int32))]) (rest := [(.ref a)]) W1350 d26_32 (ow153 hw) (ow154 hw) (ow102 hw) (ow155 hw) (by decide) (Cb.ct (org_coc l Z a0 hw hE (t) (kb) (vs) h1342 W1350.old f1351 hvs ) (ow155 hw) (ow102 hw) hE (by decide) (by decide)) (by simp) rfl (lenOf opd31 rfl) rfl (Nat.le_of_eq rfl) (by decide) (by decide) rfl fun v1356 so1357 T1352 h1354 W1353 kp1355 sp1358 q1359 => ?_
  obtain ⟨r1360, kr1361, rfl, rfl, f1362, f1363⟩ := q1359
  show Go K _ T1352 35 #[.val (.ref a), .val (.int (43 : Int32)), .val (.int (40 : Int32))] [(.ref r1360), (.ref a)]
  have f1364 := q1.keep kp1343 nin0
  have f1365 := f1364.keep kp1355 nin0
  have f1366 := q0.keep kp1343
  have f1367 := f1366.keep kp1355
  refine wPutF (ty := .array .byte) W1353 d26_35 (ow72 hw) Via.refl (by simp) f1365 f1367 (Or.inl (ow73 hw)) (ow59 hw) (by decide) rfl rfl rfl fun T1368 h1370 W1369 wr1371 => ?_
  have f1372 := Fld.same wr1371 f1365
  have f1373 := f1367.wr wr1371
  have f1374 := f1348.keep kp1355 nin0
  have f1375 := f1374.other wr1371 (Or.inr (slot_ne (t := .byte) (t' := .array .byte) (Or.inl (ow75 hw)) (Or.inl (ow73 hw)) (by decide) (by decide) (by decide)))
  have f1376 := q4.keep kp1343 nin0
  have f1377 := f1376.keep kp1355 nin0
  have f1378 := f1377.other wr1371 (Or.inr (slot_ne (t := .int) (t' := .array .byte) (Or.inl (ow133 hw)) (Or.inl (ow73 hw)) (by decide) (by decide) (by decide)))
  have f1379 := q5.keep kp1343 nin0
  have f1380 := f1379.keep kp1355 nin0
  have f1381 := f1380.other wr1371 (Or.inr (slot_ne (t := .boolean) (t' := .array .byte) (Or.inl (ow283 hw)) (Or.inl (ow73 hw)) (by decide) (by decide) (by decide)))
  have ne1382 : a ≠ r1360 := Nat.ne_of_lt (Nat.lt_of_lt_of_le f1366.lt f1362)
  have f1383 := f1363.other wr1371 (Ne.symm ne1382)
  exact wRet0 (so := [r1360]) W1369 d26_38 (by decide) (by decide) (all1 ⟨by simp, (Nat.le_trans W1341.grow f1362)⟩ alln) ⟨r1360, kr1361, rfl, rfl, (Nat.le_trans W1341.grow f1362), f1373, f1372, f1375, f1378, f1381, f1383⟩
theorem oef_orw_ap1L (m_ : MethodId) (a : Addr) (s : Addr)  : (entryFrame m_ #[(.ref a), (.ref s)] 3).locals = #[.val (.ref a), .val (.ref s), .unset] := by first | (simp [entryFrame, argsToLocals, Value.category]; done) | rfl
set_option maxRecDepth 65536 in
set_option maxHeartbeats 40000000 in
theorem orw_ap1L (l : Launch) (Z : State) (a0 : Array Value) (hw : ∀ d ∈ tables_1, d.before a0 Z = true) (hE : EW Z a0 consts_1) (a : Addr) (t : Addr) (kb : ClassId) (vs : List Value) (s : Addr) (u : Addr) (ku : ClassId) (us : List Value) (z : Int32) (h : Heap) (hO : Old Z Z.heap.size h) (SC : (Sta Z Z.heap "java/lang/String" "COMPACT_STRINGS" "Z" (.int z))) (hz : (¬ z = 0)) (q2 : Exa Z h a "java/lang/StringBuilder") (q3 : Fld Z h a "java/lang/AbstractStringBuilder" "value" "[B" (.ref t)) (q4 : Fld Z h a "java/lang/AbstractStringBuilder" "coder" "B" (.int (0 : Int32))) (q5 : Fld Z h a "java/lang/AbstractStringBuilder" "count" "I" (.int (0 : Int32))) (q6 : Fld Z h a "java/lang/AbstractStringBuilder" "maybeLatin1" "Z" (.int (0 : Int32))) (q7 : Arv Z h t kb .byte (Int32.ofNat 16) vs (.int 0)) (q8 : Exa Z h s "java/lang/String") (q9 : Fld Z h s "java/lang/String" "value" "[B" (.ref u)) (q10 : Fld Z h s "java/lang/String" "coder" "B" (.int (0 : Int32))) (q11 : Arv Z h u ku .byte (Int32.ofNat 40) us (.int 0)) (hus : (us.length = 40)) (hvs : (vs.length = 16)) (ge_a : Z.heap.size ≤ a) :
    Ct l Z consts_1 (⟨"java/lang/AbstractStringBuilder", "append", "(Ljava/lang/String;)Ljava/lang/AbstractStringBuilder;"⟩ : MethodName) jdk_68_method_22_code 3 (Option.some (Jvm.ClassFile.FieldType.object "java/lang/AbstractStringBuilder")) ⟨4, 1, 40, 125⟩ #[(.ref a), (.ref s)] h [a] (fun rv' hp' so' => ∃ r : Addr, ∃ kr : ClassId, rv' = some (.ref a) ∧ so' = [r] ∧ (h.size ≤ r) ∧ Exa Z hp' a "java/lang/StringBuilder" ∧ Fld Z hp' a "java/lang/AbstractStringBuilder" "value" "[B" (.ref r) ∧ Fld Z hp' a "java/lang/AbstractStringBuilder" "coder" "B" (.int (0 : Int32)) ∧ Fld Z hp' a "java/lang/AbstractStringBuilder" "count" "I" (.int (40 : Int32)) ∧ Fld Z hp' a "java/lang/AbstractStringBuilder" "maybeLatin1" "Z" (.int (0 : Int32)) ∧ Arv Z hp' r kr .byte (Int32.ofNat 40) ((vs ++ List.replicate 24 (Value.int 0)).take 0 ++ us ++ (vs ++ List.replicate 24 (Value.int 0)).drop (0 + 40)) (.int 0)) := by
  refine Ct.mk "java/lang/AbstractStringBuilder" "append" rfl rfl (a0 := a0) (plainFor_of_name opn2) hO hE (fun x q => by simp at q; subst q; exact ge_a) ?_
  intro K T W
  rw [oef_orw_ap1L]
  refine gAloadN W d25_0 rfl rfl rfl ?_
  refine gIfnonnullYes (pc' := 9) W d25_1 (by decide) rfl ?_
  refine gAloadN W d25_9 rfl rfl rfl ?_
  refine wVirtual (y := (⟨"java/lang/String", "length", "()I"⟩ : MethodName)) (z := (⟨"java/lang/String", "length", "()I"⟩ : MethodName)) (Wd := 0) (a := s) (argsL := []) (rest := []) W d25_10 (ow131 hw) (ow31 hw) (ow33 hw) (ow32 hw) (nfS (ow33 hw)) (by decide) (Cb.ct (ors_ln l Z a0 hw hE (s) (u) (ku) (40) (us) (z) h W.old SC hz q8 q9 q10 q11 ) (ow34 hw) (ow7 hw) hE (by decide) (by decide)) q8 (by simp) rfl (lenOf opd12 rfl) rfl (Nat.le_of_eq rfl) (by decide) (by decide) rfl fun v1388 so1389 T1384 h1386 W1385 kp1387 sp1390 q1391 => ?_
  obtain ⟨rfl, rfl⟩ := q1391
  show Go K _ T1384 13 #[.val (.ref a), .val (.ref s), .unset] [(.int (Int32.ofNat 40))]
  refine gIstoreN (ls' := #[.val (.ref a), .val (.ref s), .val (.int (Int32.ofNat 40))]) W1385 d25_13 rfl rfl ?_
  refine gAloadN W1385 d25_14 rfl rfl rfl ?_
  refine gAloadN W1385 d25_15 rfl rfl rfl ?_
  have f1392 := q5.keep kp1387 nin0
  refine wGetF W1385 d25_16 (ow132 hw) Via.refl f1392 rfl fun T1393 W1394 => ?_
  refine gIloadN W1394 d25_19 rfl rfl ?_
  refine gIadd (z := (40 : Int32)) W1394 d25_20 (by decide) rfl ?_
  have f1395 := q2.keep kp1387
  have f1396 := q3.keep kp1387 nin0
  have f1397 := q4.keep kp1387 nin0
  have f1398 := q7.keep kp1387 nin0
  have f1399 := q6.keep kp1387 nin0
  refine wPrivate (y := (⟨"java/lang/AbstractStringBuilder", "ensureCapacityInternal", "(I)V"⟩ : MethodName)) (Wd := 0) (a := a) (argsL := [(.int (40 : Int32))]) (rest := []) W1394 d25_21 (ow134 hw) (ow135 hw) (ow137 hw) (ow136 hw) (ow138 hw) (by decide) (Cb.ct (org_ega l Z a0 hw hE (a) (t) (kb) (vs) ((0 : Int32)) h1386 W1394.old f1395 f1396 f1397 f1398 f1392 f1399 hvs ge_a) (ow138 hw) (ow68 hw) hE (by decide) (by decide)) f1395 (by simp) rfl (lenOf opd8 rfl) rfl (Nat.le_of_eq rfl) (by decide) (by decide) rfl fun v1404 so1405 T1400 h1402 W1401 kp1403 sp1406 q1407 => ?_
  obtain ⟨r1408, kr1409, rfl, rfl, f1410, f1411, f1412, f1413, f1414, f1415, f1416⟩ := q1407
  show Go K _ T1400 24 #[.val (.ref a), .val (.ref s), .val (.int (Int32.ofNat 40))] []
  refine gAloadN W1401 d25_24 rfl rfl rfl ?_
  refine gAloadN W1401 d25_25 rfl rfl rfl ?_
  refine wGetF W1401 d25_26 (ow132 hw) Via.refl f1414 rfl fun T1417 W1418 => ?_
  refine gAloadN W1418 d25_29 rfl rfl rfl ?_
  have f1420 := q11.keep kp1387 nin0
  have ne1419 : u ≠ r1408 := Nat.ne_of_lt (Nat.lt_of_lt_of_le f1420.lt f1410)
  have f1421 := q8.keep kp1387
  have f1422 := f1421.keep kp1403
  have f1423 := q9.keep kp1387 nin0
  have f1424 := f1423.keep kp1403 (ninS (Ne.symm (Exa.ne q2 q8 (by decide))) nin0)
  have f1425 := q10.keep kp1387 nin0
  have f1426 := f1425.keep kp1403 (ninS (Ne.symm (Exa.ne q2 q8 (by decide))) nin0)
  have f1427 := f1420.keep kp1403 (ninS (Ne.symm (Exa.neArv q2 q11 (ow59 hw))) nin0)
  refine wPrivate (y := (⟨"java/lang/AbstractStringBuilder", "putStringAt", "(ILjava/lang/String;)V"⟩ : MethodName)) (Wd := 0) (a := a) (argsL := [(.int (0 : Int32)), (.ref s)]) (rest := []) W1418 d25_30 (ow156 hw) (ow157 hw) (ow159 hw) (ow158 hw) (ow160 hw) (by decide) (Cb.ct (ors_ps l Z a0 hw hE (a) (r1408) (kr1409) (40) ((vs ++ List.replicate 24 (Value.int 0))) (s) (u) (ku) (40) (us) (0) (z) h1402 W1418.old SC hz f1411 f1412 f1413 f1416 f1422 f1424 f1426 f1427 hus (by simp [hvs]) (by decide) (by decide) ne1419 (Nat.le_trans W1385.old.2.1 f1410)) (ow160 hw) (ow68 hw) hE (by decide) (by decide)) f1411 (by simp) rfl (lenOf opd13 rfl) rfl (Nat.le_of_eq rfl) (by decide) (by decide) rfl fun v1432 so1433 T1428 h1430 W1429 kp1431 sp1434 q1435 => ?_
  obtain ⟨rfl, rfl, f1436⟩ := q1435
  show Go K _ T1428 33 #[.val (.ref a), .val (.ref s), .val (.int (Int32.ofNat 40))] []
  refine gAloadN W1429 d25_33 rfl rfl rfl ?_
  refine gDup W1429 d25_34 rfl rfl ?_
  have ne1437 : a ≠ r1408 := Nat.ne_of_lt (Nat.lt_of_lt_of_le f1395.lt f1410)
  have f1438 := f1414.keep kp1431 (ninS ne1437 nin0)
  refine wGetF W1429 d25_35 (ow132 hw) Via.refl f1438 rfl fun T1439 W1440 => ?_
  refine gIloadN W1440 d25_38 rfl rfl ?_
  refine gIadd (z := (40 : Int32)) W1440 d25_39 (by decide) rfl ?_
  have f1441 := f1411.keep kp1431
  refine wPutF (ty := .int) W1440 d25_40 (ow132 hw) Via.refl (by simp) f1438 f1441 (Or.inl (ow133 hw)) (ow59 hw) (by decide) rfl rfl rfl fun T1442 h1444 W1443 wr1445 => ?_
  have f1446 := Fld.same wr1445 f1438
  refine gAloadN W1443 d25_43 rfl rfl rfl ?_
  have f1447 := f1441.wr wr1445
  have f1448 := f1412.keep kp1431 (ninS ne1437 nin0)
  have f1449 := f1448.other wr1445 (Or.inr (slot_ne (t := .array .byte) (t' := .int) (Or.inl (ow73 hw)) (Or.inl (ow133 hw)) (by decide) (by decide) (by decide)))
  have f1450 := f1413.keep kp1431 (ninS ne1437 nin0)
  have f1451 := f1450.other wr1445 (Or.inr (slot_ne (t := .byte) (t' := .int) (Or.inl (ow75 hw)) (Or.inl (ow133 hw)) (by decide) (by decide) (by decide)))
  have f1452 := f1415.keep kp1431 (ninS ne1437 nin0)
  have f1453 := f1452.other wr1445 (Or.inr (slot_ne (t := .boolean) (t' := .int) (Or.inl (ow283 hw)) (Or.inl (ow133 hw)) (by decide) (by decide) (by decide)))
  have f1454 := f1436.other wr1445 (Ne.symm ne1437)
  exact wRetA (so := [r1408]) (t := .object "java/lang/AbstractStringBuilder") W1443 d25_44 rfl rfl rfl (by decide) (by decide) (all1 ⟨by simp, (Nat.le_trans W1385.grow f1410)⟩ alln) ⟨r1408, kr1409, rfl, rfl, (Nat.le_trans W1385.grow f1410), f1447, f1449, f1451, f1446, f1453, f1454⟩
theorem oef_orw_ap1Lb (m_ : MethodId) (a : Addr) (s : Addr)  : (entryFrame m_ #[(.ref a), (.ref s)] 2).locals = #[.val (.ref a), .val (.ref s)] := by first | (simp [entryFrame, argsToLocals, Value.category]; done) | rfl
set_option maxRecDepth 65536 in
set_option maxHeartbeats 40000000 in
theorem orw_ap1Lb (l : Launch) (Z : State) (a0 : Array Value) (hw : ∀ d ∈ tables_1, d.before a0 Z = true) (hE : EW Z a0 consts_1) (a : Addr) (t : Addr) (kb : ClassId) (vs : List Value) (s : Addr) (u : Addr) (ku : ClassId) (us : List Value) (z : Int32) (h : Heap) (hO : Old Z Z.heap.size h) (SC : (Sta Z Z.heap "java/lang/String" "COMPACT_STRINGS" "Z" (.int z))) (hz : (¬ z = 0)) (q2 : Exa Z h a "java/lang/StringBuilder") (q3 : Fld Z h a "java/lang/AbstractStringBuilder" "value" "[B" (.ref t)) (q4 : Fld Z h a "java/lang/AbstractStringBuilder" "coder" "B" (.int (0 : Int32))) (q5 : Fld Z h a "java/lang/AbstractStringBuilder" "count" "I" (.int (0 : Int32))) (q6 : Fld Z h a "java/lang/AbstractStringBuilder" "maybeLatin1" "Z" (.int (0 : Int32))) (q7 : Arv Z h t kb .byte (Int32.ofNat 16) vs (.int 0)) (q8 : Exa Z h s "java/lang/String") (q9 : Fld Z h s "java/lang/String" "value" "[B" (.ref u)) (q10 : Fld Z h s "java/lang/String" "coder" "B" (.int (0 : Int32))) (q11 : Arv Z h u ku .byte (Int32.ofNat 40) us (.int 0)) (hus : (us.length = 40)) (hvs : (vs.length = 16)) (ge_a : Z.heap.size ≤ a) :
    Ct l Z consts_1 (⟨"java/lang/StringBuilder", "append", "(Ljava/lang/String;)Ljava/lang/StringBuilder;"⟩ : MethodName) jdk_67_method_7_code 2 (Option.some (Jvm.ClassFile.FieldType.object "java/lang/StringBuilder")) ⟨5, 1, 40, 141⟩ #[(.ref a), (.ref s)] h [a] (fun rv' hp' so' => ∃ r : Addr, ∃ kr : ClassId, rv' = some (.ref a) ∧ so' = [r] ∧ (h.size ≤ r) ∧ Exa Z hp' a "java/lang/StringBuilder" ∧ Fld Z hp' a "java/lang/AbstractStringBuilder" "value" "[B" (.ref r) ∧ Fld Z hp' a "java/lang/AbstractStringBuilder" "coder" "B" (.int (0 : Int32)) ∧ Fld Z hp' a "java/lang/AbstractStringBuilder" "count" "I" (.int (40 : Int32)) ∧ Fld Z hp' a "java/lang/AbstractStringBuilder" "maybeLatin1" "Z" (.int (0 : Int32)) ∧ Arv Z hp' r kr .byte (Int32.ofNat 40) ((vs ++ List.replicate 24 (Value.int 0)).take 0 ++ us ++ (vs ++ List.replicate 24 (Value.int 0)).drop (0 + 40)) (.int 0)) := by
  refine Ct.mk "java/lang/StringBuilder" "append" rfl rfl (a0 := a0) (plainFor_of_name opn3) hO hE (fun x q => by simp at q; subst q; exact ge_a) ?_
  intro K T W
  rw [oef_orw_ap1Lb]
  refine gAloadN W d24_0 rfl rfl rfl ?_
  refine gAloadN W d24_1 rfl rfl rfl ?_
  refine wSuper (x := (⟨"java/lang/AbstractStringBuilder", "ensureCapacityInternal", "(I)V"⟩ : MethodName)) (y := (⟨"java/lang/AbstractStringBuilder", "append", "(Ljava/lang/String;)Ljava/lang/AbstractStringBuilder;"⟩ : MethodName)) (z := (⟨"java/lang/AbstractStringBuilder", "ensureCapacityInternal", "(I)V"⟩ : MethodName)) (Wd := 0) (a := a) (argsL := [(.ref s)]) (rest := []) W d24_2 (ow126 hw) (ow127 hw) (ow137 hw) rfl (ow128 hw) (by decide) (ow130 hw) (by decide) (Cb.ct (orw_ap1L l Z a0 hw hE (a) (t) (kb) (vs) (s) (u) (ku) (us) (z) h W.old SC hz q2 q3 q4 q5 q6 q7 q8 q9 q10 q11 hus hvs ge_a) (ow130 hw) (ow68 hw) hE (by decide) (by decide)) q2 (by simp) rfl (lenOf opd14 rfl) rfl (Nat.le_of_eq rfl) (by decide) (by decide) rfl fun v1459 so1460 T1455 h1457 W1456 kp1458 sp1461 q1462 => ?_
  obtain ⟨r1463, kr1464, rfl, rfl, f1465, f1466, f1467, f1468, f1469, f1470, f1471⟩ := q1462
  show Go K _ T1455 5 #[.val (.ref a), .val (.ref s)] [(.ref a)]
  refine gPop W1456 d24_5 rfl rfl ?_
  refine gAloadN W1456 d24_6 rfl rfl rfl ?_
  exact wRetA (so := [r1463]) (t := .object "java/lang/StringBuilder") W1456 d24_7 rfl rfl rfl (by decide) (by decide) (all1 ⟨by simp, f1465⟩ alln) ⟨r1463, kr1464, rfl, rfl, f1465, f1466, f1467, f1468, f1469, f1470, f1471⟩
theorem oef_orw_ap2L (m_ : MethodId) (a : Addr) (s : Addr)  : (entryFrame m_ #[(.ref a), (.ref s)] 3).locals = #[.val (.ref a), .val (.ref s), .unset] := by first | (simp [entryFrame, argsToLocals, Value.category]; done) | rfl
set_option maxRecDepth 65536 in
set_option maxHeartbeats 40000000 in
theorem orw_ap2L (l : Launch) (Z : State) (a0 : Array Value) (hw : ∀ d ∈ tables_1, d.before a0 Z = true) (hE : EW Z a0 consts_1) (a : Addr) (t : Addr) (kb : ClassId) (vs : List Value) (s : Addr) (u : Addr) (ku : ClassId) (us : List Value) (z : Int32) (h : Heap) (hO : Old Z Z.heap.size h) (SC : (Sta Z Z.heap "java/lang/String" "COMPACT_STRINGS" "Z" (.int z))) (hz : (¬ z = 0)) (q2 : Exa Z h a "java/lang/StringBuilder") (q3 : Fld Z h a "java/lang/AbstractStringBuilder" "value" "[B" (.ref t)) (q4 : Fld Z h a "java/lang/AbstractStringBuilder" "coder" "B" (.int (0 : Int32))) (q5 : Fld Z h a "java/lang/AbstractStringBuilder" "count" "I" (.int (40 : Int32))) (q6 : Fld Z h a "java/lang/AbstractStringBuilder" "maybeLatin1" "Z" (.int (0 : Int32))) (q7 : Arv Z h t kb .byte (Int32.ofNat 40) vs (.int 0)) (q8 : Exa Z h s "java/lang/String") (q9 : Fld Z h s "java/lang/String" "value" "[B" (.ref u)) (q10 : Fld Z h s "java/lang/String" "coder" "B" (.int (0 : Int32))) (q11 : Arv Z h u ku .byte (Int32.ofNat 3) us (.int 0)) (hus : (us.length = 3)) (hvs : (vs.length = 40)) (ge_a : Z.heap.size ≤ a) :
    Ct l Z consts_1 (⟨"java/lang/AbstractStringBuilder", "append", "(Ljava/lang/String;)Ljava/lang/AbstractStringBuilder;"⟩ : MethodName) jdk_68_method_22_code 3 (Option.some (Jvm.ClassFile.FieldType.object "java/lang/AbstractStringBuilder")) ⟨4, 1, 82, 125⟩ #[(.ref a), (.ref s)] h [a] (fun rv' hp' so' => ∃ r : Addr, ∃ kr : ClassId, rv' = some (.ref a) ∧ so' = [r] ∧ (h.size ≤ r) ∧ Exa Z hp' a "java/lang/StringBuilder" ∧ Fld Z hp' a "java/lang/AbstractStringBuilder" "value" "[B" (.ref r) ∧ Fld Z hp' a "java/lang/AbstractStringBuilder" "coder" "B" (.int (0 : Int32)) ∧ Fld Z hp' a "java/lang/AbstractStringBuilder" "count" "I" (.int (43 : Int32)) ∧ Fld Z hp' a "java/lang/AbstractStringBuilder" "maybeLatin1" "Z" (.int (0 : Int32)) ∧ Arv Z hp' r kr .byte (Int32.ofNat 82) ((vs ++ List.replicate 42 (Value.int 0)).take 40 ++ us ++ (vs ++ List.replicate 42 (Value.int 0)).drop (40 + 3)) (.int 0)) := by
  refine Ct.mk "java/lang/AbstractStringBuilder" "append" rfl rfl (a0 := a0) (plainFor_of_name opn2) hO hE (fun x q => by simp at q; subst q; exact ge_a) ?_
  intro K T W
  rw [oef_orw_ap2L]
  refine gAloadN W d25_0 rfl rfl rfl ?_
  refine gIfnonnullYes (pc' := 9) W d25_1 (by decide) rfl ?_
  refine gAloadN W d25_9 rfl rfl rfl ?_
  refine wVirtual (y := (⟨"java/lang/String", "length", "()I"⟩ : MethodName)) (z := (⟨"java/lang/String", "length", "()I"⟩ : MethodName)) (Wd := 0) (a := s) (argsL := []) (rest := []) W d25_10 (ow131 hw) (ow31 hw) (ow33 hw) (ow32 hw) (nfS (ow33 hw)) (by decide) (Cb.ct (ors_ln l Z a0 hw hE (s) (u) (ku) (3) (us) (z) h W.old SC hz q8 q9 q10 q11 ) (ow34 hw) (ow7 hw) hE (by decide) (by decide)) q8 (by simp) rfl (lenOf opd12 rfl) rfl (Nat.le_of_eq rfl) (by decide) (by decide) rfl fun v1476 so1477 T1472 h1474 W1473 kp1475 sp1478 q1479 => ?_
  obtain ⟨rfl, rfl⟩ := q1479
  show Go K _ T1472 13 #[.val (.ref a), .val (.ref s), .unset] [(.int (Int32.ofNat 3))]
  refine gIstoreN (ls' := #[.val (.ref a), .val (.ref s), .val (.int (Int32.ofNat 3))]) W1473 d25_13 rfl rfl ?_
  refine gAloadN W1473 d25_14 rfl rfl rfl ?_
  refine gAloadN W1473 d25_15 rfl rfl rfl ?_
  have f1480 := q5.keep kp1475 nin0
  refine wGetF W1473 d25_16 (ow132 hw) Via.refl f1480 rfl fun T1481 W1482 => ?_
  refine gIloadN W1482 d25_19 rfl rfl ?_
  refine gIadd (z := (43 : Int32)) W1482 d25_20 (by decide) rfl ?_
  have f1483 := q2.keep kp1475
  have f1484 := q3.keep kp1475 nin0
  have f1485 := q4.keep kp1475 nin0
  have f1486 := q7.keep kp1475 nin0
  have f1487 := q6.keep kp1475 nin0
  refine wPrivate (y := (⟨"java/lang/AbstractStringBuilder", "ensureCapacityInternal", "(I)V"⟩ : MethodName)) (Wd := 0) (a := a) (argsL := [(.int (43 : Int32))]) (rest := []) W1482 d25_21 (ow134 hw) (ow135 hw) (ow137 hw) (ow136 hw) (ow138 hw) (by decide) (Cb.ct (org_egb l Z a0 hw hE (a) (t) (kb) (vs) ((40 : Int32)) h1474 W1482.old f1483 f1484 f1485 f1486 f1480 f1487 hvs ge_a) (ow138 hw) (ow68 hw) hE (by decide) (by decide)) f1483 (by simp) rfl (lenOf opd8 rfl) rfl (Nat.le_of_eq rfl) (by decide) (by decide) rfl fun v1492 so1493 T1488 h1490 W1489 kp1491 sp1494 q1495 => ?_
  obtain ⟨r1496, kr1497, rfl, rfl, f1498, f1499, f1500, f1501, f1502, f1503, f1504⟩ := q1495
  show Go K _ T1488 24 #[.val (.ref a), .val (.ref s), .val (.int (Int32.ofNat 3))] []
  refine gAloadN W1489 d25_24 rfl rfl rfl ?_
  refine gAloadN W1489 d25_25 rfl rfl rfl ?_
  refine wGetF W1489 d25_26 (ow132 hw) Via.refl f1502 rfl fun T1505 W1506 => ?_
  refine gAloadN W1506 d25_29 rfl rfl rfl ?_
  have f1508 := q11.keep kp1475 nin0
  have ne1507 : u ≠ r1496 := Nat.ne_of_lt (Nat.lt_of_lt_of_le f1508.lt f1498)
  have f1509 := q8.keep kp1475
  have f1510 := f1509.keep kp1491
  have f1511 := q9.keep kp1475 nin0
  have f1512 := f1511.keep kp1491 (ninS (Ne.symm (Exa.ne q2 q8 (by decide))) nin0)
  have f1513 := q10.keep kp1475 nin0
  have f1514 := f1513.keep kp1491 (ninS (Ne.symm (Exa.ne q2 q8 (by decide))) nin0)
  have f1515 := f1508.keep kp1491 (ninS (Ne.symm (Exa.neArv q2 q11 (ow59 hw))) nin0)
  refine wPrivate (y := (⟨"java/lang/AbstractStringBuilder", "putStringAt", "(ILjava/lang/String;)V"⟩ : MethodName)) (Wd := 0) (a := a) (argsL := [(.int (40 : Int32)), (.ref s)]) (rest := []) W1506 d25_30 (ow156 hw) (ow157 hw) (ow159 hw) (ow158 hw) (ow160 hw) (by decide) (Cb.ct (ors_ps l Z a0 hw hE (a) (r1496) (kr1497) (82) ((vs ++ List.replicate 42 (Value.int 0))) (s) (u) (ku) (3) (us) (40) (z) h1490 W1506.old SC hz f1499 f1500 f1501 f1504 f1510 f1512 f1514 f1515 hus (by simp [hvs]) (by decide) (by decide) ne1507 (Nat.le_trans W1473.old.2.1 f1498)) (ow160 hw) (ow68 hw) hE (by decide) (by decide)) f1499 (by simp) rfl (lenOf opd13 rfl) rfl (Nat.le_of_eq rfl) (by decide) (by decide) rfl fun v1520 so1521 T1516 h1518 W1517 kp1519 sp1522 q1523 => ?_
  obtain ⟨rfl, rfl, f1524⟩ := q1523
  show Go K _ T1516 33 #[.val (.ref a), .val (.ref s), .val (.int (Int32.ofNat 3))] []
  refine gAloadN W1517 d25_33 rfl rfl rfl ?_
  refine gDup W1517 d25_34 rfl rfl ?_
  have ne1525 : a ≠ r1496 := Nat.ne_of_lt (Nat.lt_of_lt_of_le f1483.lt f1498)
  have f1526 := f1502.keep kp1519 (ninS ne1525 nin0)
  refine wGetF W1517 d25_35 (ow132 hw) Via.refl f1526 rfl fun T1527 W1528 => ?_
  refine gIloadN W1528 d25_38 rfl rfl ?_
  refine gIadd (z := (43 : Int32)) W1528 d25_39 (by decide) rfl ?_
  have f1529 := f1499.keep kp1519
  refine wPutF (ty := .int) W1528 d25_40 (ow132 hw) Via.refl (by simp) f1526 f1529 (Or.inl (ow133 hw)) (ow59 hw) (by decide) rfl rfl rfl fun T1530 h1532 W1531 wr1533 => ?_
  have f1534 := Fld.same wr1533 f1526
  refine gAloadN W1531 d25_43 rfl rfl rfl ?_
  have f1535 := f1529.wr wr1533
  have f1536 := f1500.keep kp1519 (ninS ne1525 nin0)
  have f1537 := f1536.other wr1533 (Or.inr (slot_ne (t := .array .byte) (t' := .int) (Or.inl (ow73 hw)) (Or.inl (ow133 hw)) (by decide) (by decide) (by decide)))
  have f1538 := f1501.keep kp1519 (ninS ne1525 nin0)
  have f1539 := f1538.other wr1533 (Or.inr (slot_ne (t := .byte) (t' := .int) (Or.inl (ow75 hw)) (Or.inl (ow133 hw)) (by decide) (by decide) (by decide)))
  have f1540 := f1503.keep kp1519 (ninS ne1525 nin0)
  have f1541 := f1540.other wr1533 (Or.inr (slot_ne (t := .boolean) (t' := .int) (Or.inl (ow283 hw)) (Or.inl (ow133 hw)) (by decide) (by decide) (by decide)))
  have f1542 := f1524.other wr1533 (Ne.symm ne1525)
  exact wRetA (so := [r1496]) (t := .object "java/lang/AbstractStringBuilder") W1531 d25_44 rfl rfl rfl (by decide) (by decide) (all1 ⟨by simp, (Nat.le_trans W1473.grow f1498)⟩ alln) ⟨r1496, kr1497, rfl, rfl, (Nat.le_trans W1473.grow f1498), f1535, f1537, f1539, f1534, f1541, f1542⟩
theorem oef_orw_ap2Lb (m_ : MethodId) (a : Addr) (s : Addr)  : (entryFrame m_ #[(.ref a), (.ref s)] 2).locals = #[.val (.ref a), .val (.ref s)] := by first | (simp [entryFrame, argsToLocals, Value.category]; done) | rfl
set_option maxRecDepth 65536 in
set_option maxHeartbeats 40000000 in
theorem orw_ap2Lb (l : Launch) (Z : State) (a0 : Array Value) (hw : ∀ d ∈ tables_1, d.before a0 Z = true) (hE : EW Z a0 consts_1) (a : Addr) (t : Addr) (kb : ClassId) (vs : List Value) (s : Addr) (u : Addr) (ku : ClassId) (us : List Value) (z : Int32) (h : Heap) (hO : Old Z Z.heap.size h) (SC : (Sta Z Z.heap "java/lang/String" "COMPACT_STRINGS" "Z" (.int z))) (hz : (¬ z = 0)) (q2 : Exa Z h a "java/lang/StringBuilder") (q3 : Fld Z h a "java/lang/AbstractStringBuilder" "value" "[B" (.ref t)) (q4 : Fld Z h a "java/lang/AbstractStringBuilder" "coder" "B" (.int (0 : Int32))) (q5 : Fld Z h a "java/lang/AbstractStringBuilder" "count" "I" (.int (40 : Int32))) (q6 : Fld Z h a "java/lang/AbstractStringBuilder" "maybeLatin1" "Z" (.int (0 : Int32))) (q7 : Arv Z h t kb .byte (Int32.ofNat 40) vs (.int 0)) (q8 : Exa Z h s "java/lang/String") (q9 : Fld Z h s "java/lang/String" "value" "[B" (.ref u)) (q10 : Fld Z h s "java/lang/String" "coder" "B" (.int (0 : Int32))) (q11 : Arv Z h u ku .byte (Int32.ofNat 3) us (.int 0)) (hus : (us.length = 3)) (hvs : (vs.length = 40)) (ge_a : Z.heap.size ≤ a) :
    Ct l Z consts_1 (⟨"java/lang/StringBuilder", "append", "(Ljava/lang/String;)Ljava/lang/StringBuilder;"⟩ : MethodName) jdk_67_method_7_code 2 (Option.some (Jvm.ClassFile.FieldType.object "java/lang/StringBuilder")) ⟨5, 1, 82, 141⟩ #[(.ref a), (.ref s)] h [a] (fun rv' hp' so' => ∃ r : Addr, ∃ kr : ClassId, rv' = some (.ref a) ∧ so' = [r] ∧ (h.size ≤ r) ∧ Exa Z hp' a "java/lang/StringBuilder" ∧ Fld Z hp' a "java/lang/AbstractStringBuilder" "value" "[B" (.ref r) ∧ Fld Z hp' a "java/lang/AbstractStringBuilder" "coder" "B" (.int (0 : Int32)) ∧ Fld Z hp' a "java/lang/AbstractStringBuilder" "count" "I" (.int (43 : Int32)) ∧ Fld Z hp' a "java/lang/AbstractStringBuilder" "maybeLatin1" "Z" (.int (0 : Int32)) ∧ Arv Z hp' r kr .byte (Int32.ofNat 82) ((vs ++ List.replicate 42 (Value.int 0)).take 40 ++ us ++ (vs ++ List.replicate 42 (Value.int 0)).drop (40 + 3)) (.int 0)) := by
  refine Ct.mk "java/lang/StringBuilder" "append" rfl rfl (a0 := a0) (plainFor_of_name opn3) hO hE (fun x q => by simp at q; subst q; exact ge_a) ?_
  intro K T W
  rw [oef_orw_ap2Lb]
  refine gAloadN W d24_0 rfl rfl rfl ?_
  refine gAloadN W d24_1 rfl rfl rfl ?_
  refine wSuper (x := (⟨"java/lang/AbstractStringBuilder", "ensureCapacityInternal", "(I)V"⟩ : MethodName)) (y := (⟨"java/lang/AbstractStringBuilder", "append", "(Ljava/lang/String;)Ljava/lang/AbstractStringBuilder;"⟩ : MethodName)) (z := (⟨"java/lang/AbstractStringBuilder", "ensureCapacityInternal", "(I)V"⟩ : MethodName)) (Wd := 0) (a := a) (argsL := [(.ref s)]) (rest := []) W d24_2 (ow126 hw) (ow127 hw) (ow137 hw) rfl (ow128 hw) (by decide) (ow130 hw) (by decide) (Cb.ct (orw_ap2L l Z a0 hw hE (a) (t) (kb) (vs) (s) (u) (ku) (us) (z) h W.old SC hz q2 q3 q4 q5 q6 q7 q8 q9 q10 q11 hus hvs ge_a) (ow130 hw) (ow68 hw) hE (by decide) (by decide)) q2 (by simp) rfl (lenOf opd14 rfl) rfl (Nat.le_of_eq rfl) (by decide) (by decide) rfl fun v1547 so1548 T1543 h1545 W1544 kp1546 sp1549 q1550 => ?_
  obtain ⟨r1551, kr1552, rfl, rfl, f1553, f1554, f1555, f1556, f1557, f1558, f1559⟩ := q1550
  show Go K _ T1543 5 #[.val (.ref a), .val (.ref s)] [(.ref a)]
  refine gPop W1544 d24_5 rfl rfl ?_
  refine gAloadN W1544 d24_6 rfl rfl rfl ?_
  exact wRetA (so := [r1551]) (t := .object "java/lang/StringBuilder") W1544 d24_7 rfl rfl rfl (by decide) (by decide) (all1 ⟨by simp, f1553⟩ alln) ⟨r1551, kr1552, rfl, rfl, f1553, f1554, f1555, f1556, f1557, f1558, f1559⟩
-- CUT
theorem d60_0 : decode jdk_52_method_86_code 0 = .ok (.iload_n 3, 1) := by decide +kernel
theorem d60_1 : decode jdk_52_method_86_code 1 = .ok (.iload 4, 2) := by decide +kernel
theorem d60_3 : decode jdk_52_method_86_code 3 = .ok (.aload_n 2, 1) := by decide +kernel
theorem d60_4 : decode jdk_52_method_86_code 4 = .ok (.invokestatic 173, 3) := by decide +kernel
theorem d60_7 : decode jdk_52_method_86_code 7 = .ok (.iconst 0, 1) := by decide +kernel
theorem d60_8 : decode jdk_52_method_86_code 8 = .ok (.istore 5, 2) := by decide +kernel
theorem d60_10 : decode jdk_52_method_86_code 10 = .ok (.iload 5, 2) := by decide +kernel
theorem d60_12 : decode jdk_52_method_86_code 12 = .ok (.iload 4, 2) := by decide +kernel
theorem d60_14 : decode jdk_52_method_86_code 14 = .ok (.if_icmp .ge 27, 3) := by decide +kernel
theorem d60_41 : decode jdk_52_method_86_code 41 = .ok (.return_, 1) := by decide +kernel
theorem oef_orw_ui0 (m_ : MethodId) (u : Addr) (v : Addr)  : (entryFrame m_ #[(.ref u), (.int (0 : Int32)), (.ref v), (.int (0 : Int32)), (.int (0 : Int32))] 6).locals = #[.val (.ref u), .val (.int (0 : Int32)), .val (.ref v), .val (.int (0 : Int32)), .val (.int (0 : Int32)), .unset] := by first | (simp [entryFrame, argsToLocals, Value.category]; done) | rfl
set_option maxRecDepth 65536 in
set_option maxHeartbeats 40000000 in
theorem orw_ui0 (l : Launch) (Z : State) (a0 : Array Value) (hw : ∀ d ∈ tables_1, d.before a0 Z = true) (hE : EW Z a0 consts_1) (u : Addr) (v : Addr) (kv : ClassId) (vs : List Value) (fm : Value) (h : Heap) (hO : Old Z Z.heap.size h) (SF : (Sta Z Z.heap "jdk/internal/util/Preconditions" "SIOOBE_FORMATTER" "Ljava/util/function/BiFunction;" fm)) (rf : (fm.isRef = true)) (q2 : Arv Z h v kv .byte (Int32.ofNat (2 * 40)) vs (.int 0))  :
    Ct l Z consts_1 (⟨"java/lang/StringUTF16", "inflate", "([BI[BII)V"⟩ : MethodName) jdk_52_method_86_code 6 (Option.none : Option Jvm.ClassFile.FieldType) ⟨3, 0, 0, 50⟩ #[(.ref u), (.int (0 : Int32)), (.ref v), (.int (0 : Int32)), (.int (0 : Int32))] h [] (fun rv' hp' so' => rv' = none ∧ so' = []) := by
  refine Ct.mk "java/lang/StringUTF16" "inflate" rfl rfl (a0 := a0) (plainFor_of_name opn1) hO hE (fun x q => nomatch q) ?_
  intro K T W
  rw [oef_orw_ui0]
  refine gIloadN W d60_0 rfl rfl ?_
  refine gIload W d60_1 rfl rfl ?_
  refine gAloadN W d60_3 rfl rfl rfl ?_
  refine wStatic (y := (⟨"java/lang/StringUTF16", "checkBoundsOffCount", "(II[B)V"⟩ : MethodName)) (Wd := 0) (argsL := [(.int (0 : Int32)), (.int (0 : Int32)), (.ref v)]) (rest := []) W d60_4 (ow252 hw) (ow253 hw) (ow50 hw) (ow254 hw) (by decide) (Cb.ct (orw_cbu l Z a0 hw hE (0) (0) (40) (v) (kv) (vs) (fm) h W.old (by decide) (by decide) SF rf q2 ) (ow254 hw) (ow50 hw) hE (by decide) (by decide)) (by simp) rfl (lenOf opd27 rfl) rfl (Nat.le_of_eq rfl) (by decide) (by decide) rfl fun v1564 so1565 T1560 h1562 W1561 kp1563 sp1566 q1567 => ?_
  obtain ⟨rfl, rfl⟩ := q1567
  show Go K _ T1560 7 #[.val (.ref u), .val (.int (0 : Int32)), .val (.ref v), .val (.int (0 : Int32)), .val (.int (0 : Int32)), .unset] []
  refine gIconst (z := (0 : Int32)) W1561 d60_7 rfl rfl ?_
  refine gIstore (ls' := #[.val (.ref u), .val (.int (0 : Int32)), .val (.ref v), .val (.int (0 : Int32)), .val (.int (0 : Int32)), .val (.int (0 : Int32))]) W1561 d60_8 rfl rfl ?_
  refine gIload W1561 d60_10 rfl rfl ?_
  refine gIload W1561 d60_12 rfl rfl ?_
  refine gIcmpYes (pc' := 41) W1561 d60_14 (flt (by decide)).2.1 (by decide) rfl ?_
  exact wRet0 (so := []) W1561 d60_41 (by decide) (by decide) (fun _ q => nomatch q) ⟨rfl, rfl⟩
theorem d59_0 : decode jdk_43_method_50_code 0 = .ok (.aload_n 0, 1) := by decide +kernel
theorem d59_1 : decode jdk_43_method_50_code 1 = .ok (.iload_n 1, 1) := by decide +kernel
theorem d59_2 : decode jdk_43_method_50_code 2 = .ok (.aload_n 2, 1) := by decide +kernel
theorem d59_3 : decode jdk_43_method_50_code 3 = .ok (.iload_n 3, 1) := by decide +kernel
theorem d59_4 : decode jdk_43_method_50_code 4 = .ok (.iload 4, 2) := by decide +kernel
theorem d59_6 : decode jdk_43_method_50_code 6 = .ok (.invokestatic 240, 3) := by decide +kernel
theorem ow278 {a0 : Array Value} {Z : State} (hw : ∀ d ∈ tables_1, d.before a0 Z = true) : (Jvm.Cond.methodLink "java/lang/StringLatin1" (240 : Nat) ({ cls := "java/lang/StringUTF16", name := "inflate", desc := "([BI[BII)V" } : Jvm.MethodName)).before a0 Z = true := hw _ (List.mem_of_getElem? (i := 278) rfl)
theorem ow280 {a0 : Array Value} {Z : State} (hw : ∀ d ∈ tables_1, d.before a0 Z = true) : (Jvm.Cond.code ({ cls := "java/lang/StringUTF16", name := "inflate", desc := "([BI[BII)V" } : Jvm.MethodName) jdk_52_method_86_code (6 : Nat) (Option.none : Option Jvm.ClassFile.FieldType)).before a0 Z = true := hw _ (List.mem_of_getElem? (i := 280) rfl)
theorem opd32 : parseMethodDescriptor "([BI[BII)V" = some ⟨[.array .byte, .int, .array .byte, .int, .int], none⟩ := by decide +kernel
theorem ow279 {a0 : Array Value} {Z : State} (hw : ∀ d ∈ tables_1, d.before a0 Z = true) : (Jvm.Cond.static ({ cls := "java/lang/StringUTF16", name := "inflate", desc := "([BI[BII)V" } : Jvm.MethodName)).before a0 Z = true := hw _ (List.mem_of_getElem? (i := 279) rfl)
theorem d59_9 : decode jdk_43_method_50_code 9 = .ok (.return_, 1) := by decide +kernel
theorem oef_orw_li0 (m_ : MethodId) (u : Addr) (v : Addr)  : (entryFrame m_ #[(.ref u), (.int (0 : Int32)), (.ref v), (.int (0 : Int32)), (.int (0 : Int32))] 5).locals = #[.val (.ref u), .val (.int (0 : Int32)), .val (.ref v), .val (.int (0 : Int32)), .val (.int (0 : Int32))] := by first | (simp [entryFrame, argsToLocals, Value.category]; done) | rfl
set_option maxRecDepth 65536 in
set_option maxHeartbeats 40000000 in
theorem orw_li0 (l : Launch) (Z : State) (a0 : Array Value) (hw : ∀ d ∈ tables_1, d.before a0 Z = true) (hE : EW Z a0 consts_1) (u : Addr) (v : Addr) (kv : ClassId) (vs : List Value) (fm : Value) (h : Heap) (hO : Old Z Z.heap.size h) (SF : (Sta Z Z.heap "jdk/internal/util/Preconditions" "SIOOBE_FORMATTER" "Ljava/util/function/BiFunction;" fm)) (rf : (fm.isRef = true)) (q2 : Arv Z h v kv .byte (Int32.ofNat (2 * 40)) vs (.int 0))  :
    Ct l Z consts_1 (⟨"java/lang/StringLatin1", "inflate", "([BI[BII)V"⟩ : MethodName) jdk_43_method_50_code 5 (Option.none : Option Jvm.ClassFile.FieldType) ⟨4, 0, 0, 68⟩ #[(.ref u), (.int (0 : Int32)), (.ref v), (.int (0 : Int32)), (.int (0 : Int32))] h [] (fun rv' hp' so' => rv' = none ∧ so' = []) := by
  refine Ct.mk "java/lang/StringLatin1" "inflate" rfl rfl (a0 := a0) (plainFor_of_name opn6) hO hE (fun x q => nomatch q) ?_
  intro K T W
  rw [oef_orw_li0]
  refine gAloadN W d59_0 rfl rfl rfl ?_
  refine gIloadN W d59_1 rfl rfl ?_
  refine gAloadN W d59_2 rfl rfl rfl ?_
  refine gIloadN W d59_3 rfl rfl ?_
  refine gIload W d59_4 rfl rfl ?_
  refine wStatic (y := (⟨"java/lang/StringUTF16", "inflate", "([BI[BII)V"⟩ : MethodName)) (Wd := 0) (argsL := [(.ref u), (.int (0 : Int32)), (.ref v), (.int (0 : Int32)), (.int (0 : Int32))]) (rest := []) W d59_6 (ow278 hw) (ow279 hw) (ow50 hw) (ow280 hw) (by decide) (Cb.ct (orw_ui0 l Z a0 hw hE (u) (v) (kv) (vs) (fm) h W.old SF rf q2 ) (ow280 hw) (ow50 hw) hE (by decide) (by decide)) (by simp) rfl (lenOf opd32 rfl) rfl (Nat.le_of_eq rfl) (by decide) (by decide) rfl fun v1572 so1573 T1568 h1570 W1569 kp1571 sp1574 q1575 => ?_
  obtain ⟨rfl, rfl⟩ := q1575
  show Go K _ T1568 9 #[.val (.ref u), .val (.int (0 : Int32)), .val (.ref v), .val (.int (0 : Int32)), .val (.int (0 : Int32))] []
  exact wRet0 (so := []) W1569 d59_9 (by decide) (by decide) (fun _ q => nomatch q) ⟨rfl, rfl⟩
theorem d58_0 : decode jdk_68_method_11_code 0 = .ok (.aload_n 0, 1) := by decide +kernel
theorem d58_1 : decode jdk_68_method_11_code 1 = .ok (.invokevirtual 83, 3) := by decide +kernel
theorem ow273 {a0 : Array Value} {Z : State} (hw : ∀ d ∈ tables_1, d.before a0 Z = true) : (Jvm.Cond.methodLink "java/lang/AbstractStringBuilder" (83 : Nat) ({ cls := "java/lang/AbstractStringBuilder", name := "isLatin1", desc := "()Z" } : Jvm.MethodName)).before a0 Z = true := hw _ (List.mem_of_getElem? (i := 273) rfl)
theorem d58_4 : decode jdk_68_method_11_code 4 = .ok (.ifCond .ne 4, 3) := by decide +kernel
theorem d58_8 : decode jdk_68_method_11_code 8 = .ok (.aload_n 0, 1) := by decide +kernel
theorem d58_9 : decode jdk_68_method_11_code 9 = .ok (.getfield 15, 3) := by decide +kernel
theorem d58_12 : decode jdk_68_method_11_code 12 = .ok (.arraylength, 1) := by decide +kernel
theorem d58_13 : decode jdk_68_method_11_code 13 = .ok (.invokestatic 26, 3) := by decide +kernel
theorem ow274 {a0 : Array Value} {Z : State} (hw : ∀ d ∈ tables_1, d.before a0 Z = true) : (Jvm.Cond.methodLink "java/lang/AbstractStringBuilder" (26 : Nat) ({ cls := "java/lang/StringUTF16", name := "newBytesFor", desc := "(I)[B" } : Jvm.MethodName)).before a0 Z = true := hw _ (List.mem_of_getElem? (i := 274) rfl)
theorem d58_16 : decode jdk_68_method_11_code 16 = .ok (.astore_n 1, 1) := by decide +kernel
theorem d58_17 : decode jdk_68_method_11_code 17 = .ok (.aload_n 0, 1) := by decide +kernel
theorem d58_18 : decode jdk_68_method_11_code 18 = .ok (.getfield 15, 3) := by decide +kernel
theorem d58_21 : decode jdk_68_method_11_code 21 = .ok (.iconst 0, 1) := by decide +kernel
theorem d58_22 : decode jdk_68_method_11_code 22 = .ok (.aload_n 1, 1) := by decide +kernel
theorem d58_23 : decode jdk_68_method_11_code 23 = .ok (.iconst 0, 1) := by decide +kernel
theorem d58_24 : decode jdk_68_method_11_code 24 = .ok (.aload_n 0, 1) := by decide +kernel
theorem d58_25 : decode jdk_68_method_11_code 25 = .ok (.getfield 79, 3) := by decide +kernel
theorem d58_28 : decode jdk_68_method_11_code 28 = .ok (.invokestatic 125, 3) := by decide +kernel
theorem ow275 {a0 : Array Value} {Z : State} (hw : ∀ d ∈ tables_1, d.before a0 Z = true) : (Jvm.Cond.methodLink "java/lang/AbstractStringBuilder" (125 : Nat) ({ cls := "java/lang/StringLatin1", name := "inflate", desc := "([BI[BII)V" } : Jvm.MethodName)).before a0 Z = true := hw _ (List.mem_of_getElem? (i := 275) rfl)
theorem ow277 {a0 : Array Value} {Z : State} (hw : ∀ d ∈ tables_1, d.before a0 Z = true) : (Jvm.Cond.code ({ cls := "java/lang/StringLatin1", name := "inflate", desc := "([BI[BII)V" } : Jvm.MethodName) jdk_43_method_50_code (5 : Nat) (Option.none : Option Jvm.ClassFile.FieldType)).before a0 Z = true := hw _ (List.mem_of_getElem? (i := 277) rfl)
theorem ow276 {a0 : Array Value} {Z : State} (hw : ∀ d ∈ tables_1, d.before a0 Z = true) : (Jvm.Cond.static ({ cls := "java/lang/StringLatin1", name := "inflate", desc := "([BI[BII)V" } : Jvm.MethodName)).before a0 Z = true := hw _ (List.mem_of_getElem? (i := 276) rfl)
theorem d58_31 : decode jdk_68_method_11_code 31 = .ok (.aload_n 0, 1) := by decide +kernel
theorem d58_32 : decode jdk_68_method_11_code 32 = .ok (.aload_n 1, 1) := by decide +kernel
theorem d58_33 : decode jdk_68_method_11_code 33 = .ok (.putfield 15, 3) := by decide +kernel
theorem d58_36 : decode jdk_68_method_11_code 36 = .ok (.aload_n 0, 1) := by decide +kernel
theorem d58_37 : decode jdk_68_method_11_code 37 = .ok (.iconst 1, 1) := by decide +kernel
theorem d58_38 : decode jdk_68_method_11_code 38 = .ok (.putfield 22, 3) := by decide +kernel
theorem d58_41 : decode jdk_68_method_11_code 41 = .ok (.return_, 1) := by decide +kernel
theorem oef_orw_inf (m_ : MethodId) (a : Addr)  : (entryFrame m_ #[(.ref a)] 2).locals = #[.val (.ref a), .unset] := by first | (simp [entryFrame, argsToLocals, Value.category]; done) | rfl
set_option maxRecDepth 65536 in
set_option maxHeartbeats 40000000 in
theorem orw_inf (l : Launch) (Z : State) (a0 : Array Value) (hw : ∀ d ∈ tables_1, d.before a0 Z = true) (hE : EW Z a0 consts_1) (a : Addr) (t : Addr) (kb : ClassId) (vs : List Value) (z : Int32) (fm : Value) (h : Heap) (hO : Old Z Z.heap.size h) (SC : (Sta Z Z.heap "java/lang/String" "COMPACT_STRINGS" "Z" (.int z))) (hz : (¬ z = 0)) (SF : (Sta Z Z.heap "jdk/internal/util/Preconditions" "SIOOBE_FORMATTER" "Ljava/util/function/BiFunction;" fm)) (rf : (fm.isRef = true)) (q4 : Exa Z h a "java/lang/StringBuilder") (q5 : Fld Z h a "java/lang/AbstractStringBuilder" "value" "[B" (.ref t)) (q6 : Fld Z h a "java/lang/AbstractStringBuilder" "coder" "B" (.int (0 : Int32))) (q7 : Fld Z h a "java/lang/AbstractStringBuilder" "count" "I" (.int (0 : Int32))) (q8 : Fld Z h a "java/lang/AbstractStringBuilder" "maybeLatin1" "Z" (.int (0 : Int32))) (q9 : Arv Z h t kb .byte (Int32.ofNat 40) vs (.int 0)) (ge_a : Z.heap.size ≤ a) :
    Ct l Z consts_1 (⟨"java/lang/AbstractStringBuilder", "inflate", "()V"⟩ : MethodName) jdk_68_method_11_code 2 (Option.none : Option Jvm.ClassFile.FieldType) ⟨5, 1, 160, 90⟩ #[(.ref a)] h [a] (fun rv' hp' so' => ∃ r : Addr, ∃ kr : ClassId, rv' = none ∧ so' = [r] ∧ (h.size ≤ r) ∧ Exa Z hp' a "java/lang/StringBuilder" ∧ Fld Z hp' a "java/lang/AbstractStringBuilder" "value" "[B" (.ref r) ∧ Fld Z hp' a "java/lang/AbstractStringBuilder" "coder" "B" (.int (1 : Int32)) ∧ Fld Z hp' a "java/lang/AbstractStringBuilder" "count" "I" (.int (0 : Int32)) ∧ Fld Z hp' a "java/lang/AbstractStringBuilder" "maybeLatin1" "Z" (.int (0 : Int32)) ∧ Arv Z hp' r kr .byte (Int32.ofNat 80) (List.replicate 80 (Value.int 0)) (.int 0)) := by
  refine Ct.mk "java/lang/AbstractStringBuilder" "inflate" rfl rfl (a0 := a0) (plainFor_of_name opn2) hO hE (fun x q => by simp at q; subst q; exact ge_a) ?_
  intro K T W
  rw [oef_orw_inf]
  refine gAloadN W d58_0 rfl rfl rfl ?_
  refine wVirtual (y := (⟨"java/lang/AbstractStringBuilder", "isLatin1", "()Z"⟩ : MethodName)) (z := (⟨"java/lang/AbstractStringBuilder", "isLatin1", "()Z"⟩ : MethodName)) (Wd := 0) (a := a) (argsL := []) (rest := []) W d58_1 (ow273 hw) (ow200 hw) (ow202 hw) (ow201 hw) (nfS (ow202 hw)) (by decide) (Cb.ct (ors_il l Z a0 hw hE (a) (z) h W.old SC hz q6 ) (ow203 hw) (ow68 hw) hE (by decide) (by decide)) q4 (by simp) rfl (lenOf opd19 rfl) rfl (Nat.le_of_eq rfl) (by decide) (by decide) rfl fun v1580 so1581 T1576 h1578 W1577 kp1579 sp1582 q1583 => ?_
  obtain ⟨rfl, rfl⟩ := q1583
  show Go K _ T1576 4 #[.val (.ref a), .unset] [(.int (1 : Int32))]
  refine gIfYes (pc' := 8) W1577 d58_4 ((if0 _ _).trans (feq (by decide)).2) (by decide) rfl ?_
  refine gAloadN W1577 d58_8 rfl rfl rfl ?_
  have f1584 := q5.keep kp1579 nin0
  refine wGetF W1577 d58_9 (ow72 hw) Via.refl f1584 rfl fun T1585 W1586 => ?_
  have f1587 := q9.keep kp1579 nin0
  refine wLen W1586 d58_12 f1587 rfl ?_
  refine wStatic (y := (⟨"java/lang/StringUTF16", "newBytesFor", "(I)[B"⟩ : MethodName)) (Wd := 0) (argsL := [(.int (Int32.ofNat 40))]) (rest := []) W1586 d58_13 (ow274 hw) (ow227 hw) (ow50 hw) (ow228 hw) (by decide) (Cb.ct (oru_nbf l Z a0 hw hE ((Int32.ofNat 40)) ((Int32.ofNat 80)) h1578 W1586.old (by decide) (by decide) (by decide) (by decide) (by decide) ) (ow228 hw) (ow50 hw) hE (by decide) (by decide)) (by simp) rfl (lenOf opd2 rfl) rfl (Nat.le_of_eq rfl) (by decide) (by decide) rfl fun v1592 so1593 T1588 h1590 W1589 kp1591 sp1594 q1595 => ?_
  obtain ⟨r1596, kb1597, rfl, rfl, f1598, f1599⟩ := q1595
  show Go K _ T1588 16 #[.val (.ref a), .unset] [(.ref r1596)]
  have f1600 : Arv Z h1590 r1596 kb1597 .byte (Int32.ofNat 80) (List.replicate 80 (Value.int 0)) (.int 0) := f1599.pad (fun i => by rw [rep_get, rep_get])
  refine gAstoreN (ls' := #[.val (.ref a), .val (.ref r1596)]) W1589 d58_16 rfl rfl rfl ?_
  refine gAloadN W1589 d58_17 rfl rfl rfl ?_
  have f1601 := f1584.keep kp1591 nin0
  refine wGetF W1589 d58_18 (ow72 hw) Via.refl f1601 rfl fun T1602 W1603 => ?_
  refine gIconst (z := (0 : Int32)) W1603 d58_21 rfl rfl ?_
  refine gAloadN W1603 d58_22 rfl rfl rfl ?_
  refine gIconst (z := (0 : Int32)) W1603 d58_23 rfl rfl ?_
  refine gAloadN W1603 d58_24 rfl rfl rfl ?_
  have f1604 := q7.keep kp1579 nin0
  have f1605 := f1604.keep kp1591 nin0
  refine wGetF W1603 d58_25 (ow132 hw) Via.refl f1605 rfl fun T1606 W1607 => ?_
  refine wStatic (y := (⟨"java/lang/StringLatin1", "inflate", "([BI[BII)V"⟩ : MethodName)) (Wd := 0) (argsL := [(.ref t), (.int (0 : Int32)), (.ref r1596), (.int (0 : Int32)), (.int (0 : Int32))]) (rest := []) W1607 d58_28 (ow275 hw) (ow276 hw) (ow97 hw) (ow277 hw) (by decide) (Cb.ct (orw_li0 l Z a0 hw hE (t) (r1596) (kb1597) ((List.replicate 80 (Value.int 0))) (fm) h1590 W1607.old SF rf f1600 ) (ow277 hw) (ow97 hw) hE (by decide) (by decide)) (by simp) rfl (lenOf opd32 rfl) rfl (Nat.le_of_eq rfl) (by decide) (by decide) rfl fun v1612 so1613 T1608 h1610 W1609 kp1611 sp1614 q1615 => ?_
  obtain ⟨rfl, rfl⟩ := q1615
  show Go K _ T1608 31 #[.val (.ref a), .val (.ref r1596)] []
  refine gAloadN W1609 d58_31 rfl rfl rfl ?_
  refine gAloadN W1609 d58_32 rfl rfl rfl ?_
  have f1616 := f1601.keep kp1611 nin0
  have f1617 := q4.keep kp1579
  have f1618 := f1617.keep kp1591
  have f1619 := f1618.keep kp1611
  refine wPutF (ty := .array .byte) W1609 d58_33 (ow72 hw) Via.refl (by simp) f1616 f1619 (Or.inl (ow73 hw)) (ow59 hw) (by decide) rfl rfl rfl fun T1620 h1622 W1621 wr1623 => ?_
  have f1624 := Fld.same wr1623 f1616
  refine gAloadN W1621 d58_36 rfl rfl rfl ?_
  refine gIconst (z := (1 : Int32)) W1621 d58_37 rfl rfl ?_
  have f1625 := q6.keep kp1579 nin0
  have f1626 := f1625.keep kp1591 nin0
  have f1627 := f1626.keep kp1611 nin0
  have f1628 := f1627.other wr1623 (Or.inr (slot_ne (t := .byte) (t' := .array .byte) (Or.inl (ow75 hw)) (Or.inl (ow73 hw)) (by decide) (by decide) (by decide)))
  have f1629 := f1619.wr wr1623
  refine wPutF (ty := .byte) W1621 d58_38 (ow74 hw) Via.refl (by simp) f1628 f1629 (Or.inl (ow75 hw)) (ow59 hw) (by decide) rfl (by decide) rfl fun T1630 h1632 W1631 wr1633 => ?_
  have f1634 := Fld.same wr1633 f1628
  have f1635 := f1629.wr wr1633
  have f1636 := f1624.other wr1633 (Or.inr (slot_ne (t := .array .byte) (t' := .byte) (Or.inl (ow73 hw)) (Or.inl (ow75 hw)) (by decide) (by decide) (by decide)))
  have f1637 := f1605.keep kp1611 nin0
  have f1638 := f1637.other wr1623 (Or.inr (slot_ne (t := .int) (t' := .array .byte) (Or.inl (ow133 hw)) (Or.inl (ow73 hw)) (by decide) (by decide) (by decide)))
  have f1639 := f1638.other wr1633 (Or.inr (slot_ne (t := .int) (t' := .byte) (Or.inl (ow133 hw)) (Or.inl (ow75 hw)) (by decide) (by decide) (by decide)))
  have f1640 := q8.keep kp1579 nin0
  have f1641 := f1640.keep kp1591 nin0
  have f1642 := f1641.keep kp1611 nin0
  have f1643 := f1642.other wr1623 (Or.inr (slot_ne (t := .boolean) (t' := .array .byte) (Or.inl (ow283 hw)) (Or.inl (ow73 hw)) (by decide) (by decide) (by decide)))
  have f1644 := f1643.other wr1633 (Or.inr (slot_ne (t := .boolean) (t' := .byte) (Or.inl (ow283 hw)) (Or.inl (ow75 hw)) (by decide) (by decide) (by decide)))
  have f1645 := f1600.keep kp1611 nin0
  have ne1646 : a ≠ r1596 := Nat.ne_of_lt (Nat.lt_of_lt_of_le f1617.lt f1598)
  have f1647 := f1645.other wr1623 (Ne.symm ne1646)
  have f1648 := f1647.other wr1633 (Ne.symm ne1646)
  exact wRet0 (so := [r1596]) W1631 d58_41 (by decide) (by decide) (all1 ⟨by simp, (Nat.le_trans W1577.grow f1598)⟩ alln) ⟨r1596, kb1597, rfl, rfl, (Nat.le_trans W1577.grow f1598), f1635, f1636, f1634, f1639, f1644, f1648⟩
theorem d32_17 : decode jdk_68_method_71_code 17 = .ok (.aload_n 0, 1) := by decide +kernel
theorem d32_18 : decode jdk_68_method_71_code 18 = .ok (.invokevirtual 195, 3) := by decide +kernel
theorem ow272 {a0 : Array Value} {Z : State} (hw : ∀ d ∈ tables_1, d.before a0 Z = true) : (Jvm.Cond.code ({ cls := "java/lang/AbstractStringBuilder", name := "inflate", desc := "()V" } : Jvm.MethodName) jdk_68_method_11_code (2 : Nat) (Option.none : Option Jvm.ClassFile.FieldType)).before a0 Z = true := hw _ (List.mem_of_getElem? (i := 272) rfl)
theorem opd33 : parseMethodDescriptor "()V" = some ⟨[], none⟩ := by decide +kernel
theorem ow268 {a0 : Array Value} {Z : State} (hw : ∀ d ∈ tables_1, d.before a0 Z = true) : (Jvm.Cond.methodLink "java/lang/AbstractStringBuilder" (195 : Nat) ({ cls := "java/lang/AbstractStringBuilder", name := "inflate", desc := "()V" } : Jvm.MethodName)).before a0 Z = true := hw _ (List.mem_of_getElem? (i := 268) rfl)
theorem ow269 {a0 : Array Value} {Z : State} (hw : ∀ d ∈ tables_1, d.before a0 Z = true) : (Jvm.Cond.instanceMethod ({ cls := "java/lang/AbstractStringBuilder", name := "inflate", desc := "()V" } : Jvm.MethodName)).before a0 Z = true := hw _ (List.mem_of_getElem? (i := 269) rfl)
theorem ow271 {a0 : Array Value} {Z : State} (hw : ∀ d ∈ tables_1, d.before a0 Z = true) : (Jvm.Cond.selects "java/lang/StringBuilder" ({ cls := "java/lang/AbstractStringBuilder", name := "inflate", desc := "()V" } : Jvm.MethodName) ({ cls := "java/lang/AbstractStringBuilder", name := "inflate", desc := "()V" } : Jvm.MethodName)).before a0 Z = true := hw _ (List.mem_of_getElem? (i := 271) rfl)
theorem ow270 {a0 : Array Value} {Z : State} (hw : ∀ d ∈ tables_1, d.before a0 Z = true) : (Jvm.Cond.privateMethod ({ cls := "java/lang/AbstractStringBuilder", name := "inflate", desc := "()V" } : Jvm.MethodName)).before a0 Z = true := hw _ (List.mem_of_getElem? (i := 270) rfl)
theorem oef_orw_ifs (m_ : MethodId) (a : Addr) (s : Addr)  : (entryFrame m_ #[(.ref a), (.ref s)] 2).locals = #[.val (.ref a), .val (.ref s)] := by first | (simp [entryFrame, argsToLocals, Value.category]; done) | rfl
set_option maxRecDepth 65536 in
set_option maxHeartbeats 40000000 in
theorem orw_ifs (l : Launch) (Z : State) (a0 : Array Value) (hw : ∀ d ∈ tables_1, d.before a0 Z = true) (hE : EW Z a0 consts_1) (a : Addr) (t : Addr) (kb : ClassId) (vs : List Value) (s : Addr) (z : Int32) (fm : Value) (h : Heap) (hO : Old Z Z.heap.size h) (SC : (Sta Z Z.heap "java/lang/String" "COMPACT_STRINGS" "Z" (.int z))) (hz : (¬ z = 0)) (SF : (Sta Z Z.heap "jdk/internal/util/Preconditions" "SIOOBE_FORMATTER" "Ljava/util/function/BiFunction;" fm)) (rf : (fm.isRef = true)) (q4 : Exa Z h a "java/lang/StringBuilder") (q5 : Fld Z h a "java/lang/AbstractStringBuilder" "value" "[B" (.ref t)) (q6 : Fld Z h a "java/lang/AbstractStringBuilder" "coder" "B" (.int (0 : Int32))) (q7 : Fld Z h a "java/lang/AbstractStringBuilder" "count" "I" (.int (0 : Int32))) (q8 : Fld Z h a "java/lang/AbstractStringBuilder" "maybeLatin1" "Z" (.int (0 : Int32))) (q9 : Arv Z h t kb .byte (Int32.ofNat 40) vs (.int 0)) (q10 : Exa Z h s "java/lang/String") (q11 : Fld Z h s "java/lang/String" "coder" "B" (.int (1 : Int32))) (ge_a : Z.heap.size ≤ a) :
    Ct l Z consts_1 (⟨"java/lang/AbstractStringBuilder", "inflateIfNeededFor", "(Ljava/lang/String;)V"⟩ : MethodName) jdk_68_method_71_code 2 (Option.none : Option Jvm.ClassFile.FieldType) ⟨6, 1, 160, 106⟩ #[(.ref a), (.ref s)] h [a] (fun rv' hp' so' => ∃ r : Addr, ∃ kr : ClassId, rv' = none ∧ so' = [r] ∧ (h.size ≤ r) ∧ Exa Z hp' a "java/lang/StringBuilder" ∧ Fld Z hp' a "java/lang/AbstractStringBuilder" "value" "[B" (.ref r) ∧ Fld Z hp' a "java/lang/AbstractStringBuilder" "coder" "B" (.int (1 : Int32)) ∧ Fld Z hp' a "java/lang/AbstractStringBuilder" "count" "I" (.int (0 : Int32)) ∧ Fld Z hp' a "java/lang/AbstractStringBuilder" "maybeLatin1" "Z" (.int (0 : Int32)) ∧ Arv Z hp' r kr .byte (Int32.ofNat 80) (List.replicate 80 (Value.int 0)) (.int 0)) := by
  refine Ct.mk "java/lang/AbstractStringBuilder" "inflateIfNeededFor" rfl rfl (a0 := a0) (plainFor_of_name opn2) hO hE (fun x q => by simp at q; subst q; exact ge_a) ?_
  intro K T W
  rw [oef_orw_ifs]
  refine wGetS W d32_0 (ow71 hw) Via.refl SC rfl fun T1649 W1650 => ?_
  refine gIfNo W1650 d32_3 ((if0 _ _).trans (feq hz).1) rfl ?_
  refine gAloadN W1650 d32_6 rfl rfl rfl ?_
  refine wGetF W1650 d32_7 (ow74 hw) Via.refl q6 rfl fun T1651 W1652 => ?_
  refine gAloadN W1652 d32_10 rfl rfl rfl ?_
  refine wVirtual (y := (⟨"java/lang/String", "coder", "()B"⟩ : MethodName)) (z := (⟨"java/lang/String", "coder", "()B"⟩ : MethodName)) (Wd := 1) (a := s) (argsL := []) (rest := [(.int (0 : Int32))]) W1652 d32_11 (ow166 hw) (ow36 hw) (ow38 hw) (ow37 hw) (nfS (ow38 hw)) (by decide) (Cb.ct (orw_co l Z a0 hw hE (s) (z) h W1652.old SC hz q11 ) (ow39 hw) (ow7 hw) hE (by decide) (by decide)) q10 (by simp) rfl (lenOf opd9 rfl) rfl (Nat.le_of_eq rfl) (by decide) (by decide) rfl fun v1657 so1658 T1653 h1655 W1654 kp1656 sp1659 q1660 => ?_
  obtain ⟨rfl, rfl⟩ := q1660
  show Go K _ T1653 14 #[.val (.ref a), .val (.ref s)] [(.int (1 : Int32)), (.int (0 : Int32))]
  refine gIcmpNo W1654 d32_14 (feq (by decide)).1 rfl ?_
  refine gAloadN W1654 d32_17 rfl rfl rfl ?_
  have f1661 := q4.keep kp1656
  have f1662 := q5.keep kp1656 nin0
  have f1663 := q6.keep kp1656 nin0
  have f1664 := q7.keep kp1656 nin0
  have f1665 := q8.keep kp1656 nin0
  have f1666 := q9.keep kp1656 nin0
  refine wPrivate (y := (⟨"java/lang/AbstractStringBuilder", "inflate", "()V"⟩ : MethodName)) (Wd := 0) (a := a) (argsL := []) (rest := []) W1654 d32_18 (ow268 hw) (ow269 hw) (ow271 hw) (ow270 hw) (ow272 hw) (by decide) (Cb.ct (orw_inf l Z a0 hw hE (a) (t) (kb) (vs) (z) (fm) h1655 W1654.old SC hz SF rf f1661 f1662 f1663 f1664 f1665 f1666 ge_a) (ow272 hw) (ow68 hw) hE (by decide) (by decide)) f1661 (by simp) rfl (lenOf opd33 rfl) rfl (Nat.le_of_eq rfl) (by decide) (by decide) rfl fun v1671 so1672 T1667 h1669 W1668 kp1670 sp1673 q1674 => ?_
  obtain ⟨r1675, kr1676, rfl, rfl, f1677, f1678, f1679, f1680, f1681, f1682, f1683⟩ := q1674
  show Go K _ T1667 21 #[.val (.ref a), .val (.ref s)] []
  exact wRet0 (so := [r1675]) W1668 d32_21 (by decide) (by decide) (all1 ⟨by simp, (Nat.le_trans W1654.grow f1677)⟩ alln) ⟨r1675, kr1676, rfl, rfl, (Nat.le_trans W1654.grow f1677), f1678, f1679, f1680, f1681, f1682, f1683⟩
theorem oef_orw_gbW (m_ : MethodId) (s : Addr) (t : Addr)  : (entryFrame m_ #[(.ref s), (.ref t), (.int (0 : Int32)), (.int (1 : Int32))] 4).locals = #[.val (.ref s), .val (.ref t), .val (.int (0 : Int32)), .val (.int (1 : Int32))] := by first | (simp [entryFrame, argsToLocals, Value.category]; done) | rfl
set_option maxRecDepth 65536 in
set_option maxHeartbeats 40000000 in
theorem orw_gbW (l : Launch) (Z : State) (a0 : Array Value) (hw : ∀ d ∈ tables_1, d.before a0 Z = true) (hE : EW Z a0 consts_1) (s : Addr) (u : Addr) (ku : ClassId) (us : List Value) (t : Addr) (kb : ClassId) (vs : List Value) (z : Int32) (h : Heap) (hO : Old Z Z.heap.size h) (SC : (Sta Z Z.heap "java/lang/String" "COMPACT_STRINGS" "Z" (.int z))) (hz : (¬ z = 0)) (q2 : Exa Z h s "java/lang/String") (q3 : Fld Z h s "java/lang/String" "value" "[B" (.ref u)) (q4 : Fld Z h s "java/lang/String" "coder" "B" (.int (1 : Int32))) (q5 : Arv Z h u ku .byte (Int32.ofNat 80) us (.int 0)) (hus : (us.length = 80)) (q7 : Arv Z h t kb .byte (Int32.ofNat 80) vs (.int 0)) (hvs : (vs.length = 80)) (nut : (u ≠ t)) (ge_t : Z.heap.size ≤ t) :
    Ct l Z consts_1 (⟨"java/lang/String", "getBytes", "([BIB)V"⟩ : MethodName) jdk_42_method_147_code 4 (Option.none : Option Jvm.ClassFile.FieldType) ⟨1, 0, 0, 60⟩ #[(.ref s), (.ref t), (.int (0 : Int32)), (.int (1 : Int32))] h [t] (fun rv' hp' so' => rv' = none ∧ so' = [] ∧ Arv Z hp' t kb .byte (Int32.ofNat 80) us (.int 0)) := by
  refine Ct.mk "java/lang/String" "getBytes" rfl rfl (a0 := a0) (plainFor_of_name opn0) hO hE (fun x q => by simp at q; subst q; exact ge_t) ?_
  intro K T W
  rw [oef_orw_gbW]
  refine gAloadN W d33_0 rfl rfl rfl ?_
  refine wVirtual (y := (⟨"java/lang/String", "coder", "()B"⟩ : MethodName)) (z := (⟨"java/lang/String", "coder", "()B"⟩ : MethodName)) (Wd := 0) (a := s) (argsL := []) (rest := []) W d33_1 (ow35 hw) (ow36 hw) (ow38 hw) (ow37 hw) (nfS (ow38 hw)) (by decide) (Cb.ct (orw_co l Z a0 hw hE (s) (z) h W.old SC hz q4 ) (ow39 hw) (ow7 hw) hE (by decide) (by decide)) q2 (by simp) rfl (lenOf opd9 rfl) rfl (Nat.le_of_eq rfl) (by decide) (by decide) rfl fun v1688 so1689 T1684 h1686 W1685 kp1687 sp1690 q1691 => ?_
  obtain ⟨rfl, rfl⟩ := q1691
  show Go K _ T1684 4 #[.val (.ref s), .val (.ref t), .val (.int (0 : Int32)), .val (.int (1 : Int32))] [(.int (1 : Int32))]
  refine gIloadN W1685 d33_4 rfl rfl ?_
  refine gIcmpNo W1685 d33_5 (teq rfl).2 rfl ?_
  refine gAloadN W1685 d33_8 rfl rfl rfl ?_
  have f1692 := q3.keep kp1687 nin0
  refine wGetF W1685 d33_9 (ow24 hw) Via.refl f1692 rfl fun T1693 W1694 => ?_
  refine gIconst (z := (0 : Int32)) W1694 d33_12 rfl rfl ?_
  refine gAloadN W1694 d33_13 rfl rfl rfl ?_
  refine gIloadN W1694 d33_14 rfl rfl ?_
  refine gIloadN W1694 d33_15 rfl rfl ?_
  refine gIshl (z := (0 : Int32)) W1694 d33_16 (by decide) rfl ?_
  refine gAloadN W1694 d33_17 rfl rfl rfl ?_
  refine wGetF W1694 d33_18 (ow24 hw) Via.refl f1692 rfl fun T1695 W1696 => ?_
  have f1697 := q5.keep kp1687 nin0
  refine wLen W1696 d33_21 f1697 rfl ?_
  have f1698 := q7.keep kp1687 nin0
  refine wCopy (us := us) W1696 d33_22 (ow172 hw) (ow117 hw) (ow115 hw) (ow116 hw) (by simp) f1697 f1698 rfl (by decide) (by decide) (by decide) 80 80 0 0 80 (by decide) (by decide) (by decide) (by decide) (by decide) (by decide) (by decide) (range_self hus _) (by rw [hvs]; decide) rfl (by decide) 0 (Nat.le_of_eq rfl) (by decide) rfl fun T1699 h1701 W1700 kp1702 A1703 => ?_
  have f1704 : Arv Z h1701 t kb .byte (Int32.ofNat 80) (vs.take 0 ++ us ++ vs.drop (0 + 80)) (.int 0) := A1703
  have f1705 : Arv Z h1701 t kb .byte (Int32.ofNat 80) us (.int 0) := arvL f1704 (by rw [List.drop_of_length_le (by rw [hvs]; decide)]; simp)
  refine gGoto (pc' := 43) W1700 d33_25 (by decide) rfl ?_
  exact wRet0 (so := []) W1700 d33_43 (by decide) (by decide) (fun _ q => nomatch q) ⟨rfl, rfl, f1705⟩
theorem oef_orw_psW (m_ : MethodId) (a : Addr) (s : Addr)  : (entryFrame m_ #[(.ref a), (.int (0 : Int32)), (.ref s)] 3).locals = #[.val (.ref a), .val (.int (0 : Int32)), .val (.ref s)] := by first | (simp [entryFrame, argsToLocals, Value.category]; done) | rfl
set_option maxRecDepth 65536 in
set_option maxHeartbeats 40000000 in
theorem orw_psW (l : Launch) (Z : State) (a0 : Array Value) (hw : ∀ d ∈ tables_1, d.before a0 Z = true) (hE : EW Z a0 consts_1) (a : Addr) (t : Addr) (kb : ClassId) (vs : List Value) (s : Addr) (u : Addr) (ku : ClassId) (us : List Value) (z : Int32) (fm : Value) (h : Heap) (hO : Old Z Z.heap.size h) (SC : (Sta Z Z.heap "java/lang/String" "COMPACT_STRINGS" "Z" (.int z))) (hz : (¬ z = 0)) (SF : (Sta Z Z.heap "jdk/internal/util/Preconditions" "SIOOBE_FORMATTER" "Ljava/util/function/BiFunction;" fm)) (rf : (fm.isRef = true)) (q4 : Exa Z h a "java/lang/StringBuilder") (q5 : Fld Z h a "java/lang/AbstractStringBuilder" "value" "[B" (.ref t)) (q6 : Fld Z h a "java/lang/AbstractStringBuilder" "coder" "B" (.int (0 : Int32))) (q7 : Fld Z h a "java/lang/AbstractStringBuilder" "count" "I" (.int (0 : Int32))) (q8 : Fld Z h a "java/lang/AbstractStringBuilder" "maybeLatin1" "Z" (.int (0 : Int32))) (q9 : Arv Z h t kb .byte (Int32.ofNat 40) vs (.int 0)) (q10 : Exa Z h s "java/lang/String") (q11 : Fld Z h s "java/lang/String" "value" "[B" (.ref u)) (q12 : Fld Z h s "java/lang/String" "coder" "B" (.int (1 : Int32))) (q13 : Arv Z h u ku .byte (Int32.ofNat 80) us (.int 0)) (hus : (us.length = 80)) (ge_a : Z.heap.size ≤ a) :
    Ct l Z consts_1 (⟨"java/lang/AbstractStringBuilder", "putStringAt", "(ILjava/lang/String;)V"⟩ : MethodName) jdk_68_method_73_code 3 (Option.none : Option Jvm.ClassFile.FieldType) ⟨7, 1, 160, 122⟩ #[(.ref a), (.int (0 : Int32)), (.ref s)] h [a] (fun rv' hp' so' => ∃ r : Addr, ∃ kr : ClassId, rv' = none ∧ so' = [r] ∧ (h.size ≤ r) ∧ Exa Z hp' a "java/lang/StringBuilder" ∧ Fld Z hp' a "java/lang/AbstractStringBuilder" "value" "[B" (.ref r) ∧ Fld Z hp' a "java/lang/AbstractStringBuilder" "coder" "B" (.int (1 : Int32)) ∧ Fld Z hp' a "java/lang/AbstractStringBuilder" "count" "I" (.int (0 : Int32)) ∧ Fld Z hp' a "java/lang/AbstractStringBuilder" "maybeLatin1" "Z" (.int (0 : Int32)) ∧ Arv Z hp' r kr .byte (Int32.ofNat 80) us (.int 0)) := by
  refine Ct.mk "java/lang/AbstractStringBuilder" "putStringAt" rfl rfl (a0 := a0) (plainFor_of_name opn2) hO hE (fun x q => by simp at q; subst q; exact ge_a) ?_
  intro K T W
  rw [oef_orw_psW]
  refine gAloadN W d31_0 rfl rfl rfl ?_
  refine gAloadN W d31_1 rfl rfl rfl ?_
  refine wPrivate (y := (⟨"java/lang/AbstractStringBuilder", "inflateIfNeededFor", "(Ljava/lang/String;)V"⟩ : MethodName)) (Wd := 0) (a := a) (argsL := [(.ref s)]) (rest := []) W d31_2 (ow161 hw) (ow162 hw) (ow164 hw) (ow163 hw) (ow165 hw) (by decide) (Cb.ct (orw_ifs l Z a0 hw hE (a) (t) (kb) (vs) (s) (z) (fm) h W.old SC hz SF rf q4 q5 q6 q7 q8 q9 q10 q12 ge_a) (ow165 hw) (ow68 hw) hE (by decide) (by decide)) q4 (by simp) rfl (lenOf opd10 rfl) rfl (Nat.le_of_eq rfl) (by decide) (by decide) rfl fun v1710 so1711 T1706 h1708 W1707 kp1709 sp1712 q1713 => ?_
  obtain ⟨r1714, kr1715, rfl, rfl, f1716, f1717, f1718, f1719, f1720, f1721, f1722⟩ := q1713
  show Go K _ T1706 5 #[.val (.ref a), .val (.int (0 : Int32)), .val (.ref s)] []
  refine gAloadN W1707 d31_5 rfl rfl rfl ?_
  refine gAloadN W1707 d31_6 rfl rfl rfl ?_
  refine wGetF W1707 d31_7 (ow72 hw) Via.refl f1718 rfl fun T1723 W1724 => ?_
  refine gIloadN W1724 d31_10 rfl rfl ?_
  refine gAloadN W1724 d31_11 rfl rfl rfl ?_
  refine wGetF W1724 d31_12 (ow74 hw) Via.refl f1719 rfl fun T1725 W1726 => ?_
  have ne1727 : u ≠ r1714 := Nat.ne_of_lt (Nat.lt_of_lt_of_le q13.lt f1716)
  have f1728 := q10.keep kp1709
  have f1729 := q11.keep kp1709 (ninS (Ne.symm (Exa.ne q4 q10 (by decide))) nin0)
  have f1730 := q12.keep kp1709 (ninS (Ne.symm (Exa.ne q4 q10 (by decide))) nin0)
  have f1731 := q13.keep kp1709 (ninS (Ne.symm (Exa.neArv q4 q13 (ow59 hw))) nin0)
  refine wVirtual (y := (⟨"java/lang/String", "getBytes", "([BIB)V"⟩ : MethodName)) (z := (⟨"java/lang/String", "getBytes", "([BIB)V"⟩ : MethodName)) (Wd := 0) (a := s) (argsL := [(.ref r1714), (.int (0 : Int32)), (.int (1 : Int32))]) (rest := []) W1726 d31_15 (ow167 hw) (ow168 hw) (ow170 hw) (ow169 hw) (nfS (ow170 hw)) (by decide) (Cb.ct (orw_gbW l Z a0 hw hE (s) (u) (ku) (us) (r1714) (kr1715) ((List.replicate 80 (Value.int 0))) (z) h1708 W1726.old SC hz f1728 f1729 f1730 f1731 hus f1722 (by simp) ne1727 (Nat.le_trans W.old.2.1 f1716)) (ow171 hw) (ow7 hw) hE (by decide) (by decide)) f1728 (by simp) rfl (lenOf opd11 rfl) rfl (Nat.le_of_eq rfl) (by decide) (by decide) rfl fun v1736 so1737 T1732 h1734 W1733 kp1735 sp1738 q1739 => ?_
  obtain ⟨rfl, rfl, f1740⟩ := q1739
  show Go K _ T1732 18 #[.val (.ref a), .val (.int (0 : Int32)), .val (.ref s)] []
  have f1741 := f1717.keep kp1735
  have ne1742 : a ≠ r1714 := Nat.ne_of_lt (Nat.lt_of_lt_of_le q4.lt f1716)
  have f1743 := f1718.keep kp1735 (ninS ne1742 nin0)
  have f1744 := f1719.keep kp1735 (ninS ne1742 nin0)
  have f1745 := f1720.keep kp1735 (ninS ne1742 nin0)
  have f1746 := f1721.keep kp1735 (ninS ne1742 nin0)
  exact wRet0 (so := [r1714]) W1733 d31_18 (by decide) (by decide) (all1 ⟨by simp, f1716⟩ alln) ⟨r1714, kr1715, rfl, rfl, f1716, f1741, f1743, f1744, f1745, f1746, f1740⟩
theorem oef_orw_ap1W (m_ : MethodId) (a : Addr) (s : Addr)  : (entryFrame m_ #[(.ref a), (.ref s)] 3).locals = #[.val (.ref a), .val (.ref s), .unset] := by first | (simp [entryFrame, argsToLocals, Value.category]; done) | rfl
set_option maxRecDepth 65536 in
set_option maxHeartbeats 40000000 in
theorem orw_ap1W (l : Launch) (Z : State) (a0 : Array Value) (hw : ∀ d ∈ tables_1, d.before a0 Z = true) (hE : EW Z a0 consts_1) (a : Addr) (t : Addr) (kb : ClassId) (vs : List Value) (s : Addr) (u : Addr) (ku : ClassId) (us : List Value) (z : Int32) (fm : Value) (h : Heap) (hO : Old Z Z.heap.size h) (SC : (Sta Z Z.heap "java/lang/String" "COMPACT_STRINGS" "Z" (.int z))) (hz : (¬ z = 0)) (SF : (Sta Z Z.heap "jdk/internal/util/Preconditions" "SIOOBE_FORMATTER" "Ljava/util/function/BiFunction;" fm)) (rf : (fm.isRef = true)) (q4 : Exa Z h a "java/lang/StringBuilder") (q5 : Fld Z h a "java/lang/AbstractStringBuilder" "value" "[B" (.ref t)) (q6 : Fld Z h a "java/lang/AbstractStringBuilder" "coder" "B" (.int (0 : Int32))) (q7 : Fld Z h a "java/lang/AbstractStringBuilder" "count" "I" (.int (0 : Int32))) (q8 : Fld Z h a "java/lang/AbstractStringBuilder" "maybeLatin1" "Z" (.int (0 : Int32))) (q9 : Arv Z h t kb .byte (Int32.ofNat 16) vs (.int 0)) (q10 : Exa Z h s "java/lang/String") (q11 : Fld Z h s "java/lang/String" "value" "[B" (.ref u)) (q12 : Fld Z h s "java/lang/String" "coder" "B" (.int (1 : Int32))) (q13 : Arv Z h u ku .byte (Int32.ofNat 80) us (.int 0)) (hus : (us.length = 80)) (hvs : (vs.length = 16)) (ge_a : Z.heap.size ≤ a) :
    Ct l Z consts_1 (⟨"java/lang/AbstractStringBuilder", "append", "(Ljava/lang/String;)Ljava/lang/AbstractStringBuilder;"⟩ : MethodName) jdk_68_method_22_code 3 (Option.some (Jvm.ClassFile.FieldType.object "java/lang/AbstractStringBuilder")) ⟨8, 2, 200, 140⟩ #[(.ref a), (.ref s)] h [a] (fun rv' hp' so' => ∃ r : Addr, ∃ kr : ClassId, rv' = some (.ref a) ∧ so' = [r] ∧ (h.size ≤ r) ∧ Exa Z hp' a "java/lang/StringBuilder" ∧ Fld Z hp' a "java/lang/AbstractStringBuilder" "value" "[B" (.ref r) ∧ Fld Z hp' a "java/lang/AbstractStringBuilder" "coder" "B" (.int (1 : Int32)) ∧ Fld Z hp' a "java/lang/AbstractStringBuilder" "count" "I" (.int (40 : Int32)) ∧ Fld Z hp' a "java/lang/AbstractStringBuilder" "maybeLatin1" "Z" (.int (0 : Int32)) ∧ Arv Z hp' r kr .byte (Int32.ofNat 80) us (.int 0)) := by
  refine Ct.mk "java/lang/AbstractStringBuilder" "append" rfl rfl (a0 := a0) (plainFor_of_name opn2) hO hE (fun x q => by simp at q; subst q; exact ge_a) ?_
  intro K T W
  rw [oef_orw_ap1W]
  refine gAloadN W d25_0 rfl rfl rfl ?_
  refine gIfnonnullYes (pc' := 9) W d25_1 (by decide) rfl ?_
  refine gAloadN W d25_9 rfl rfl rfl ?_
  refine wVirtual (y := (⟨"java/lang/String", "length", "()I"⟩ : MethodName)) (z := (⟨"java/lang/String", "length", "()I"⟩ : MethodName)) (Wd := 0) (a := s) (argsL := []) (rest := []) W d25_10 (ow131 hw) (ow31 hw) (ow33 hw) (ow32 hw) (nfS (ow33 hw)) (by decide) (Cb.ct (orw_ln l Z a0 hw hE (s) (u) (ku) (40) (us) (z) h W.old SC hz q10 q11 q12 q13 (by decide) ) (ow34 hw) (ow7 hw) hE (by decide) (by decide)) q10 (by simp) rfl (lenOf opd12 rfl) rfl (Nat.le_of_eq rfl) (by decide) (by decide) rfl fun v1751 so1752 T1747 h1749 W1748 kp1750 sp1753 q1754 => ?_
  obtain ⟨rfl, rfl⟩ := q1754
  show Go K _ T1747 13 #[.val (.ref a), .val (.ref s), .unset] [(.int (Int32.ofNat 40))]
  refine gIstoreN (ls' := #[.val (.ref a), .val (.ref s), .val (.int (Int32.ofNat 40))]) W1748 d25_13 rfl rfl ?_
  refine gAloadN W1748 d25_14 rfl rfl rfl ?_
  refine gAloadN W1748 d25_15 rfl rfl rfl ?_
  have f1755 := q7.keep kp1750 nin0
  refine wGetF W1748 d25_16 (ow132 hw) Via.refl f1755 rfl fun T1756 W1757 => ?_
  refine gIloadN W1757 d25_19 rfl rfl ?_
  refine gIadd (z := (40 : Int32)) W1757 d25_20 (by decide) rfl ?_
  have f1758 := q4.keep kp1750
  have f1759 := q5.keep kp1750 nin0
  have f1760 := q6.keep kp1750 nin0
  have f1761 := q9.keep kp1750 nin0
  have f1762 := q8.keep kp1750 nin0
  refine wPrivate (y := (⟨"java/lang/AbstractStringBuilder", "ensureCapacityInternal", "(I)V"⟩ : MethodName)) (Wd := 0) (a := a) (argsL := [(.int (40 : Int32))]) (rest := []) W1757 d25_21 (ow134 hw) (ow135 hw) (ow137 hw) (ow136 hw) (ow138 hw) (by decide) (Cb.ct (org_ega l Z a0 hw hE (a) (t) (kb) (vs) ((0 : Int32)) h1749 W1757.old f1758 f1759 f1760 f1761 f1755 f1762 hvs ge_a) (ow138 hw) (ow68 hw) hE (by decide) (by decide)) f1758 (by simp) rfl (lenOf opd8 rfl) rfl (Nat.le_of_eq rfl) (by decide) (by decide) rfl fun v1767 so1768 T1763 h1765 W1764 kp1766 sp1769 q1770 => ?_
  obtain ⟨r1771, kr1772, rfl, rfl, f1773, f1774, f1775, f1776, f1777, f1778, f1779⟩ := q1770
  show Go K _ T1763 24 #[.val (.ref a), .val (.ref s), .val (.int (Int32.ofNat 40))] []
  refine gAloadN W1764 d25_24 rfl rfl rfl ?_
  refine gAloadN W1764 d25_25 rfl rfl rfl ?_
  refine wGetF W1764 d25_26 (ow132 hw) Via.refl f1777 rfl fun T1780 W1781 => ?_
  refine gAloadN W1781 d25_29 rfl rfl rfl ?_
  have f1782 := q10.keep kp1750
  have f1783 := f1782.keep kp1766
  have f1784 := q11.keep kp1750 nin0
  have f1785 := f1784.keep kp1766 (ninS (Ne.symm (Exa.ne q4 q10 (by decide))) nin0)
  have f1786 := q12.keep kp1750 nin0
  have f1787 := f1786.keep kp1766 (ninS (Ne.symm (Exa.ne q4 q10 (by decide))) nin0)
  have f1788 := q13.keep kp1750 nin0
  have f1789 := f1788.keep kp1766 (ninS (Ne.symm (Exa.neArv q4 q13 (ow59 hw))) nin0)
  refine wPrivate (y := (⟨"java/lang/AbstractStringBuilder", "putStringAt", "(ILjava/lang/String;)V"⟩ : MethodName)) (Wd := 0) (a := a) (argsL := [(.int (0 : Int32)), (.ref s)]) (rest := []) W1781 d25_30 (ow156 hw) (ow157 hw) (ow159 hw) (ow158 hw) (ow160 hw) (by decide) (Cb.ct (orw_psW l Z a0 hw hE (a) (r1771) (kr1772) ((vs ++ List.replicate 24 (Value.int 0))) (s) (u) (ku) (us) (z) (fm) h1765 W1781.old SC hz SF rf f1774 f1775 f1776 f1777 f1778 f1779 f1783 f1785 f1787 f1789 hus ge_a) (ow160 hw) (ow68 hw) hE (by decide) (by decide)) f1774 (by simp) rfl (lenOf opd13 rfl) rfl (Nat.le_of_eq rfl) (by decide) (by decide) rfl fun v1794 so1795 T1790 h1792 W1791 kp1793 sp1796 q1797 => ?_
  obtain ⟨r1798, kr1799, rfl, rfl, f1800, f1801, f1802, f1803, f1804, f1805, f1806⟩ := q1797
  show Go K _ T1790 33 #[.val (.ref a), .val (.ref s), .val (.int (Int32.ofNat 40))] []
  refine gAloadN W1791 d25_33 rfl rfl rfl ?_
  refine gDup W1791 d25_34 rfl rfl ?_
  refine wGetF W1791 d25_35 (ow132 hw) Via.refl f1804 rfl fun T1807 W1808 => ?_
  refine gIloadN W1808 d25_38 rfl rfl ?_
  refine gIadd (z := (40 : Int32)) W1808 d25_39 (by decide) rfl ?_
  refine wPutF (ty := .int) W1808 d25_40 (ow132 hw) Via.refl (by simp) f1804 f1801 (Or.inl (ow133 hw)) (ow59 hw) (by decide) rfl rfl rfl fun T1809 h1811 W1810 wr1812 => ?_
  have f1813 := Fld.same wr1812 f1804
  refine gAloadN W1810 d25_43 rfl rfl rfl ?_
  have f1814 := f1801.wr wr1812
  have f1815 := f1802.other wr1812 (Or.inr (slot_ne (t := .array .byte) (t' := .int) (Or.inl (ow73 hw)) (Or.inl (ow133 hw)) (by decide) (by decide) (by decide)))
  have f1816 := f1803.other wr1812 (Or.inr (slot_ne (t := .byte) (t' := .int) (Or.inl (ow75 hw)) (Or.inl (ow133 hw)) (by decide) (by decide) (by decide)))
  have f1817 := f1805.other wr1812 (Or.inr (slot_ne (t := .boolean) (t' := .int) (Or.inl (ow283 hw)) (Or.inl (ow133 hw)) (by decide) (by decide) (by decide)))
  have ne1818 : a ≠ r1798 := Nat.ne_of_lt (Nat.lt_of_lt_of_le f1774.lt f1800)
  have f1819 := f1806.other wr1812 (Ne.symm ne1818)
  exact wRetA (so := [r1798]) (t := .object "java/lang/AbstractStringBuilder") W1810 d25_44 rfl rfl rfl (by decide) (by decide) (all1 ⟨by simp, (Nat.le_trans W1764.grow f1800)⟩ alln) ⟨r1798, kr1799, rfl, rfl, (Nat.le_trans W1764.grow f1800), f1814, f1815, f1816, f1813, f1817, f1819⟩
theorem oef_orw_ap1Wb (m_ : MethodId) (a : Addr) (s : Addr)  : (entryFrame m_ #[(.ref a), (.ref s)] 2).locals = #[.val (.ref a), .val (.ref s)] := by first | (simp [entryFrame, argsToLocals, Value.category]; done) | rfl
set_option maxRecDepth 65536 in
set_option maxHeartbeats 40000000 in
theorem orw_ap1Wb (l : Launch) (Z : State) (a0 : Array Value) (hw : ∀ d ∈ tables_1, d.before a0 Z = true) (hE : EW Z a0 consts_1) (a : Addr) (t : Addr) (kb : ClassId) (vs : List Value) (s : Addr) (u : Addr) (ku : ClassId) (us : List Value) (z : Int32) (fm : Value) (h : Heap) (hO : Old Z Z.heap.size h) (SC : (Sta Z Z.heap "java/lang/String" "COMPACT_STRINGS" "Z" (.int z))) (hz : (¬ z = 0)) (SF : (Sta Z Z.heap "jdk/internal/util/Preconditions" "SIOOBE_FORMATTER" "Ljava/util/function/BiFunction;" fm)) (rf : (fm.isRef = true)) (q4 : Exa Z h a "java/lang/StringBuilder") (q5 : Fld Z h a "java/lang/AbstractStringBuilder" "value" "[B" (.ref t)) (q6 : Fld Z h a "java/lang/AbstractStringBuilder" "coder" "B" (.int (0 : Int32))) (q7 : Fld Z h a "java/lang/AbstractStringBuilder" "count" "I" (.int (0 : Int32))) (q8 : Fld Z h a "java/lang/AbstractStringBuilder" "maybeLatin1" "Z" (.int (0 : Int32))) (q9 : Arv Z h t kb .byte (Int32.ofNat 16) vs (.int 0)) (q10 : Exa Z h s "java/lang/String") (q11 : Fld Z h s "java/lang/String" "value" "[B" (.ref u)) (q12 : Fld Z h s "java/lang/String" "coder" "B" (.int (1 : Int32))) (q13 : Arv Z h u ku .byte (Int32.ofNat 80) us (.int 0)) (hus : (us.length = 80)) (hvs : (vs.length = 16)) (ge_a : Z.heap.size ≤ a) :
    Ct l Z consts_1 (⟨"java/lang/StringBuilder", "append", "(Ljava/lang/String;)Ljava/lang/StringBuilder;"⟩ : MethodName) jdk_67_method_7_code 2 (Option.some (Jvm.ClassFile.FieldType.object "java/lang/StringBuilder")) ⟨9, 2, 200, 156⟩ #[(.ref a), (.ref s)] h [a] (fun rv' hp' so' => ∃ r : Addr, ∃ kr : ClassId, rv' = some (.ref a) ∧ so' = [r] ∧ (h.size ≤ r) ∧ Exa Z hp' a "java/lang/StringBuilder" ∧ Fld Z hp' a "java/lang/AbstractStringBuilder" "value" "[B" (.ref r) ∧ Fld Z hp' a "java/lang/AbstractStringBuilder" "coder" "B" (.int (1 : Int32)) ∧ Fld Z hp' a "java/lang/AbstractStringBuilder" "count" "I" (.int (40 : Int32)) ∧ Fld Z hp' a "java/lang/AbstractStringBuilder" "maybeLatin1" "Z" (.int (0 : Int32)) ∧ Arv Z hp' r kr .byte (Int32.ofNat 80) us (.int 0)) := by
  refine Ct.mk "java/lang/StringBuilder" "append" rfl rfl (a0 := a0) (plainFor_of_name opn3) hO hE (fun x q => by simp at q; subst q; exact ge_a) ?_
  intro K T W
  rw [oef_orw_ap1Wb]
  refine gAloadN W d24_0 rfl rfl rfl ?_
  refine gAloadN W d24_1 rfl rfl rfl ?_
  refine wSuper (x := (⟨"java/lang/AbstractStringBuilder", "ensureCapacityInternal", "(I)V"⟩ : MethodName)) (y := (⟨"java/lang/AbstractStringBuilder", "append", "(Ljava/lang/String;)Ljava/lang/AbstractStringBuilder;"⟩ : MethodName)) (z := (⟨"java/lang/AbstractStringBuilder", "ensureCapacityInternal", "(I)V"⟩ : MethodName)) (Wd := 0) (a := a) (argsL := [(.ref s)]) (rest := []) W d24_2 (ow126 hw) (ow127 hw) (ow137 hw) rfl (ow128 hw) (by decide) (ow130 hw) (by decide) (Cb.ct (orw_ap1W l Z a0 hw hE (a) (t) (kb) (vs) (s) (u) (ku) (us) (z) (fm) h W.old SC hz SF rf q4 q5 q6 q7 q8 q9 q10 q11 q12 q13 hus hvs ge_a) (ow130 hw) (ow68 hw) hE (by decide) (by decide)) q4 (by simp) rfl (lenOf opd14 rfl) rfl (Nat.le_of_eq rfl) (by decide) (by decide) rfl fun v1824 so1825 T1820 h1822 W1821 kp1823 sp1826 q1827 => ?_
  obtain ⟨r1828, kr1829, rfl, rfl, f1830, f1831, f1832, f1833, f1834, f1835, f1836⟩ := q1827
  show Go K _ T1820 5 #[.val (.ref a), .val (.ref s)] [(.ref a)]
  refine gPop W1821 d24_5 rfl rfl ?_
  refine gAloadN W1821 d24_6 rfl rfl rfl ?_
  exact wRetA (so := [r1828]) (t := .object "java/lang/StringBuilder") W1821 d24_7 rfl rfl rfl (by decide) (by decide) (all1 ⟨by simp, f1830⟩ alln) ⟨r1828, kr1829, rfl, rfl, f1830, f1831, f1832, f1833, f1834, f1835, f1836⟩
theorem d60_17 : decode jdk_52_method_86_code 17 = .ok (.aload_n 2, 1) := by decide +kernel
theorem d60_18 : decode jdk_52_method_86_code 18 = .ok (.iload_n 3, 1) := by decide +kernel
theorem d60_19 : decode jdk_52_method_86_code 19 = .ok (.iinc 3 1, 3) := by decide +kernel
theorem d60_22 : decode jdk_52_method_86_code 22 = .ok (.aload_n 0, 1) := by decide +kernel
theorem d60_23 : decode jdk_52_method_86_code 23 = .ok (.iload_n 1, 1) := by decide +kernel
theorem d60_24 : decode jdk_52_method_86_code 24 = .ok (.iinc 1 1, 3) := by decide +kernel
theorem d60_27 : decode jdk_52_method_86_code 27 = .ok (.baload, 1) := by decide +kernel
theorem d60_28 : decode jdk_52_method_86_code 28 = .ok (.sipush 255, 3) := by decide +kernel
theorem d60_31 : decode jdk_52_method_86_code 31 = .ok (.iand, 1) := by decide +kernel
theorem d60_32 : decode jdk_52_method_86_code 32 = .ok (.invokestatic 111, 3) := by decide +kernel
theorem d60_35 : decode jdk_52_method_86_code 35 = .ok (.iinc 5 1, 3) := by decide +kernel
theorem d60_38 : decode jdk_52_method_86_code 38 = .ok (.goto (-28), 3) := by decide +kernel
theorem oef_orw_ui3 (m_ : MethodId) (u : Addr) (v : Addr)  : (entryFrame m_ #[(.ref u), (.int (0 : Int32)), (.ref v), (.int (40 : Int32)), (.int (3 : Int32))] 6).locals = #[.val (.ref u), .val (.int (0 : Int32)), .val (.ref v), .val (.int (40 : Int32)), .val (.int (3 : Int32)), .unset] := by first | (simp [entryFrame, argsToLocals, Value.category]; done) | rfl
set_option maxRecDepth 65536 in
set_option maxHeartbeats 40000000 in
theorem orw_ui3 (l : Launch) (Z : State) (a0 : Array Value) (hw : ∀ d ∈ tables_1, d.before a0 Z = true) (hE : EW Z a0 consts_1) (u : Addr) (ku : ClassId) (v : Addr) (kv : ClassId) (vs : List Value) (fm : Value) (h : Heap) (hO : Old Z Z.heap.size h) (SA : (Sta Z Z.heap "java/lang/StringUTF16" "$assertionsDisabled" "Z" (.int (1 : Int32)))) (SH : (Sta Z Z.heap "java/lang/StringUTF16" "HI_BYTE_SHIFT" "I" (.int (0 : Int32)))) (SL : (Sta Z Z.heap "java/lang/StringUTF16" "LO_BYTE_SHIFT" "I" (.int (8 : Int32)))) (SF : (Sta Z Z.heap "jdk/internal/util/Preconditions" "SIOOBE_FORMATTER" "Ljava/util/function/BiFunction;" fm)) (rf : (fm.isRef = true)) (q5 : Arv Z h u ku .byte (Int32.ofNat 3) [Value.int 46, Value.int 46, Value.int 46] (.int 0)) (q6 : Arv Z h v kv .byte (Int32.ofNat (2 * 82)) vs (.int 0)) (hvs : (vs.length = 164)) (nuv : (u ≠ v)) (ge_v : Z.heap.size ≤ v) :
    Ct l Z consts_1 (⟨"java/lang/StringUTF16", "inflate", "([BI[BII)V"⟩ : MethodName) jdk_52_method_86_code 6 (Option.none : Option Jvm.ClassFile.FieldType) ⟨3, 0, 0, 50⟩ #[(.ref u), (.int (0 : Int32)), (.ref v), (.int (40 : Int32)), (.int (3 : Int32))] h [v] (fun rv' hp' so' => rv' = none ∧ so' = [] ∧ Arv Z hp' v kv .byte (Int32.ofNat (2 * 82)) ((((((vs.set (2 * 40) (.int (StrChars.lo8 46))).set (2 * 40 + 1) (.int (StrChars.hi8 46))).set (2 * 41) (.int (StrChars.lo8 46))).set (2 * 41 + 1) (.int (StrChars.hi8 46))).set (2 * 42) (.int (StrChars.lo8 46))).set (2 * 42 + 1) (.int (StrChars.hi8 46))) (.int 0)) := by
  refine Ct.mk "java/lang/StringUTF16" "inflate" rfl rfl (a0 := a0) (plainFor_of_name opn1) hO hE (fun x q => by simp at q; subst q; exact ge_v) ?_
  intro K T W
  rw [oef_orw_ui3]
  refine gIloadN W d60_0 rfl rfl ?_
  refine gIload W d60_1 rfl rfl ?_
  refine gAloadN W d60_3 rfl rfl rfl ?_
  refine wStatic (y := (⟨"java/lang/StringUTF16", "checkBoundsOffCount", "(II[B)V"⟩ : MethodName)) (Wd := 0) (argsL := [(.int (40 : Int32)), (.int (3 : Int32)), (.ref v)]) (rest := []) W d60_4 (ow252 hw) (ow253 hw) (ow50 hw) (ow254 hw) (by decide) (Cb.ct (orw_cbu l Z a0 hw hE (40) (3) (82) (v) (kv) (vs) (fm) h W.old (by decide) (by decide) SF rf q6 ) (ow254 hw) (ow50 hw) hE (by decide) (by decide)) (by simp) rfl (lenOf opd27 rfl) rfl (Nat.le_of_eq rfl) (by decide) (by decide) rfl fun v1841 so1842 T1837 h1839 W1838 kp1840 sp1843 q1844 => ?_
  obtain ⟨rfl, rfl⟩ := q1844
  show Go K _ T1837 7 #[.val (.ref u), .val (.int (0 : Int32)), .val (.ref v), .val (.int (40 : Int32)), .val (.int (3 : Int32)), .unset] []
  refine gIconst (z := (0 : Int32)) W1838 d60_7 rfl rfl ?_
  refine gIstore (ls' := #[.val (.ref u), .val (.int (0 : Int32)), .val (.ref v), .val (.int (40 : Int32)), .val (.int (3 : Int32)), .val (.int (0 : Int32))]) W1838 d60_8 rfl rfl ?_
  refine gIload W1838 d60_10 rfl rfl ?_
  refine gIload W1838 d60_12 rfl rfl ?_
  refine gIcmpNo W1838 d60_14 (tlt (by decide)).2.1 rfl ?_
  refine gAloadN W1838 d60_17 rfl rfl rfl ?_
  refine gIloadN W1838 d60_18 rfl rfl ?_
  refine gIinc (z := (41 : Int32)) (ls' := #[.val (.ref u), .val (.int (0 : Int32)), .val (.ref v), .val (.int (41 : Int32)), .val (.int (3 : Int32)), .val (.int (0 : Int32))]) W1838 d60_19 rfl (by decide) rfl rfl ?_
  refine gAloadN W1838 d60_22 rfl rfl rfl ?_
  refine gIloadN W1838 d60_23 rfl rfl ?_
  refine gIinc (z := (1 : Int32)) (ls' := #[.val (.ref u), .val (.int (1 : Int32)), .val (.ref v), .val (.int (41 : Int32)), .val (.int (3 : Int32)), .val (.int (0 : Int32))]) W1838 d60_24 rfl (by decide) rfl rfl ?_
  have f1845 := q5.keep kp1840 nin0
  refine wLdB (v := (.int (46 : Int32))) W1838 d60_27 f1845 (by decide) rfl rfl ?_
  refine gSipush (z := (255 : Int32)) W1838 d60_28 rfl rfl ?_
  refine gIand (z := (46 : Int32)) W1838 d60_31 (by decide) rfl ?_
  have f1846 := q6.keep kp1840 nin0
  refine wStatic (y := (⟨"java/lang/StringUTF16", "putChar", "([BII)V"⟩ : MethodName)) (Wd := 0) (argsL := [(.ref v), (.int (40 : Int32)), (.int (46 : Int32))]) (rest := []) W1838 d60_32 (ow233 hw) (ow234 hw) (ow50 hw) (ow235 hw) (by decide) (Cb.ct (oru_put l Z a0 hw hE (v) (kv) ((2 * 82)) (vs) (40) ((46 : Int32)) h1839 W1838.old SA SH SL f1846 (by decide) (by decide) (by first | omega | (simp only [List.length_set]; omega)) ge_v) (ow235 hw) (ow50 hw) hE (by decide) (by decide)) (by simp) rfl (lenOf opd3 rfl) rfl (Nat.le_of_eq rfl) (by decide) (by decide) rfl fun v1851 so1852 T1847 h1849 W1848 kp1850 sp1853 q1854 => ?_
  obtain ⟨rfl, rfl, f1855⟩ := q1854
  show Go K _ T1847 35 #[.val (.ref u), .val (.int (1 : Int32)), .val (.ref v), .val (.int (41 : Int32)), .val (.int (3 : Int32)), .val (.int (0 : Int32))] []
  refine gIinc (z := (1 : Int32)) (ls' := #[.val (.ref u), .val (.int (1 : Int32)), .val (.ref v), .val (.int (41 : Int32)), .val (.int (3 : Int32)), .val (.int (1 : Int32))]) W1848 d60_35 rfl (by decide) rfl rfl ?_
  refine gGoto (pc' := 10) W1848 d60_38 (by decide) rfl ?_
  refine gIload W1848 d60_10 rfl rfl ?_
  refine gIload W1848 d60_12 rfl rfl ?_
  refine gIcmpNo W1848 d60_14 (tlt (by decide)).2.1 rfl ?_
  refine gAloadN W1848 d60_17 rfl rfl rfl ?_
  refine gIloadN W1848 d60_18 rfl rfl ?_
  refine gIinc (z := (42 : Int32)) (ls' := #[.val (.ref u), .val (.int (1 : Int32)), .val (.ref v), .val (.int (42 : Int32)), .val (.int (3 : Int32)), .val (.int (1 : Int32))]) W1848 d60_19 rfl (by decide) rfl rfl ?_
  refine gAloadN W1848 d60_22 rfl rfl rfl ?_
  refine gIloadN W1848 d60_23 rfl rfl ?_
  refine gIinc (z := (2 : Int32)) (ls' := #[.val (.ref u), .val (.int (2 : Int32)), .val (.ref v), .val (.int (42 : Int32)), .val (.int (3 : Int32)), .val (.int (1 : Int32))]) W1848 d60_24 rfl (by decide) rfl rfl ?_
  have f1856 := f1845.keep kp1850 (ninS nuv nin0)
  refine wLdB (v := (.int (46 : Int32))) W1848 d60_27 f1856 (by decide) rfl rfl ?_
  refine gSipush (z := (255 : Int32)) W1848 d60_28 rfl rfl ?_
  refine gIand (z := (46 : Int32)) W1848 d60_31 (by decide) rfl ?_
  refine wStatic (y := (⟨"java/lang/StringUTF16", "putChar", "([BII)V"⟩ : MethodName)) (Wd := 0) (argsL := [(.ref v), (.int (41 : Int32)), (.int (46 : Int32))]) (rest := []) W1848 d60_32 (ow233 hw) (ow234 hw) (ow50 hw) (ow235 hw) (by decide) (Cb.ct (oru_put l Z a0 hw hE (v) (kv) ((2 * 82)) (((vs.set (2 * 40) (.int (StrChars.lo8 46))).set (2 * 40 + 1) (.int (StrChars.hi8 46)))) (41) ((46 : Int32)) h1849 W1848.old SA SH SL f1855 (by decide) (by decide) (by first | omega | (simp only [List.length_set]; omega)) ge_v) (ow235 hw) (ow50 hw) hE (by decide) (by decide)) (by simp) rfl (lenOf opd3 rfl) rfl (Nat.le_of_eq rfl) (by decide) (by decide) rfl fun v1861 so1862 T1857 h1859 W1858 kp1860 sp1863 q1864 => ?_
  obtain ⟨rfl, rfl, f1865⟩ := q1864
  show Go K _ T1857 35 #[.val (.ref u), .val (.int (2 : Int32)), .val (.ref v), .val (.int (42 : Int32)), .val (.int (3 : Int32)), .val (.int (1 : Int32))] []
  refine gIinc (z := (2 : Int32)) (ls' := #[.val (.ref u), .val (.int (2 : Int32)), .val (.ref v), .val (.int (42 : Int32)), .val (.int (3 : Int32)), .val (.int (2 : Int32))]) W1858 d60_35 rfl (by decide) rfl rfl ?_
  refine gGoto (pc' := 10) W1858 d60_38 (by decide) rfl ?_
  refine gIload W1858 d60_10 rfl rfl ?_
  refine gIload W1858 d60_12 rfl rfl ?_
  refine gIcmpNo W1858 d60_14 (tlt (by decide)).2.1 rfl ?_
  refine gAloadN W1858 d60_17 rfl rfl rfl ?_
  refine gIloadN W1858 d60_18 rfl rfl ?_
  refine gIinc (z := (43 : Int32)) (ls' := #[.val (.ref u), .val (.int (2 : Int32)), .val (.ref v), .val (.int (43 : Int32)), .val (.int (3 : Int32)), .val (.int (2 : Int32))]) W1858 d60_19 rfl (by decide) rfl rfl ?_
  refine gAloadN W1858 d60_22 rfl rfl rfl ?_
  refine gIloadN W1858 d60_23 rfl rfl ?_
  refine gIinc (z := (3 : Int32)) (ls' := #[.val (.ref u), .val (.int (3 : Int32)), .val (.ref v), .val (.int (43 : Int32)), .val (.int (3 : Int32)), .val (.int (2 : Int32))]) W1858 d60_24 rfl (by decide) rfl rfl ?_
  have f1866 := f1856.keep kp1860 (ninS nuv nin0)
  refine wLdB (v := (.int (46 : Int32))) W1858 d60_27 f1866 (by decide) rfl rfl ?_
  refine gSipush (z := (255 : Int32)) W1858 d60_28 rfl rfl ?_
  refine gIand (z := (46 : Int32)) W1858 d60_31 (by decide) rfl ?_
  refine wStatic (y := (⟨"java/lang/StringUTF16", "putChar", "([BII)V"⟩ : MethodName)) (Wd := 0) (argsL := [(.ref v), (.int (42 : Int32)), (.int (46 : Int32))]) (rest := []) W1858 d60_32 (ow233 hw) (ow234 hw) (ow50 hw) (ow235 hw) (by decide) (Cb.ct (oru_put l Z a0 hw hE (v) (kv) ((2 * 82)) (((((vs.set (2 * 40) (.int (StrChars.lo8 46))).set (2 * 40 + 1) (.int (StrChars.hi8 46))).set (2 * 41) (.int (StrChars.lo8 46))).set (2 * 41 + 1) (.int (StrChars.hi8 46)))) (42) ((46 : Int32)) h1859 W1858.old SA SH SL f1865 (by decide) (by decide) (by first | omega | (simp only [List.length_set]; omega)) ge_v) (ow235 hw) (ow50 hw) hE (by decide) (by decide)) (by simp) rfl (lenOf opd3 rfl) rfl (Nat.le_of_eq rfl) (by decide) (by decide) rfl fun v1871 so1872 T1867 h1869 W1868 kp1870 sp1873 q1874 => ?_
  obtain ⟨rfl, rfl, f1875⟩ := q1874
  show Go K _ T1867 35 #[.val (.ref u), .val (.int (3 : Int32)), .val (.ref v), .val (.int (43 : Int32)), .val (.int (3 : Int32)), .val (.int (2 : Int32))] []
  refine gIinc (z := (3 : Int32)) (ls' := #[.val (.ref u), .val (.int (3 : Int32)), .val (.ref v), .val (.int (43 : Int32)), .val (.int (3 : Int32)), .val (.int (3 : Int32))]) W1868 d60_35 rfl (by decide) rfl rfl ?_
  refine gGoto (pc' := 10) W1868 d60_38 (by decide) rfl ?_
  refine gIload W1868 d60_10 rfl rfl ?_
  refine gIload W1868 d60_12 rfl rfl ?_
  refine gIcmpYes (pc' := 41) W1868 d60_14 (flt (by decide)).2.1 (by decide) rfl ?_
  exact wRet0 (so := []) W1868 d60_41 (by decide) (by decide) (fun _ q => nomatch q) ⟨rfl, rfl, f1875⟩
theorem oef_orw_li3 (m_ : MethodId) (u : Addr) (v : Addr)  : (entryFrame m_ #[(.ref u), (.int (0 : Int32)), (.ref v), (.int (40 : Int32)), (.int (3 : Int32))] 5).locals = #[.val (.ref u), .val (.int (0 : Int32)), .val (.ref v), .val (.int (40 : Int32)), .val (.int (3 : Int32))] := by first | (simp [entryFrame, argsToLocals, Value.category]; done) | rfl
set_option maxRecDepth 65536 in
set_option maxHeartbeats 40000000 in
theorem orw_li3 (l : Launch) (Z : State) (a0 : Array Value) (hw : ∀ d ∈ tables_1, d.before a0 Z = true) (hE : EW Z a0 consts_1) (u : Addr) (ku : ClassId) (v : Addr) (kv : ClassId) (vs : List Value) (fm : Value) (h : Heap) (hO : Old Z Z.heap.size h) (SA : (Sta Z Z.heap "java/lang/StringUTF16" "$assertionsDisabled" "Z" (.int (1 : Int32)))) (SH : (Sta Z Z.heap "java/lang/StringUTF16" "HI_BYTE_SHIFT" "I" (.int (0 : Int32)))) (SL : (Sta Z Z.heap "java/lang/StringUTF16" "LO_BYTE_SHIFT" "I" (.int (8 : Int32)))) (SF : (Sta Z Z.heap "jdk/internal/util/Preconditions" "SIOOBE_FORMATTER" "Ljava/util/function/BiFunction;" fm)) (rf : (fm.isRef = true)) (q5 : Arv Z h u ku .byte (Int32.ofNat 3) [Value.int 46, Value.int 46, Value.int 46] (.int 0)) (q6 : Arv Z h v kv .byte (Int32.ofNat (2 * 82)) vs (.int 0)) (hvs : (vs.length = 164)) (nuv : (u ≠ v)) (ge_v : Z.heap.size ≤ v) :
    Ct l Z consts_1 (⟨"java/lang/StringLatin1", "inflate", "([BI[BII)V"⟩ : MethodName) jdk_43_method_50_code 5 (Option.none : Option Jvm.ClassFile.FieldType) ⟨4, 0, 0, 68⟩ #[(.ref u), (.int (0 : Int32)), (.ref v), (.int (40 : Int32)), (.int (3 : Int32))] h [v] (fun rv' hp' so' => rv' = none ∧ so' = [] ∧ Arv Z hp' v kv .byte (Int32.ofNat (2 * 82)) ((((((vs.set (2 * 40) (.int (StrChars.lo8 46))).set (2 * 40 + 1) (.int (StrChars.hi8 46))).set (2 * 41) (.int (StrChars.lo8 46))).set (2 * 41 + 1) (.int (StrChars.hi8 46))).set (2 * 42) (.int (StrChars.lo8 46))).set (2 * 42 + 1) (.int (StrChars.hi8 46))) (.int 0)) := by
  refine Ct.mk "java/lang/StringLatin1" "inflate" rfl rfl (a0 := a0) (plainFor_of_name opn6) hO hE (fun x q => by simp at q; subst q; exact ge_v) ?_
  intro K T W
  rw [oef_orw_li3]
  refine gAloadN W d59_0 rfl rfl rfl ?_
  refine gIloadN W d59_1 rfl rfl ?_
  refine gAloadN W d59_2 rfl rfl rfl ?_
  refine gIloadN W d59_3 rfl rfl ?_
  refine gIload W d59_4 rfl rfl ?_
  refine wStatic (y := (⟨"java/lang/StringUTF16", "inflate", "([BI[BII)V"⟩ : MethodName)) (Wd := 0) (argsL := [(.ref u), (.int (0 : Int32)), (.ref v), (.int (40 : Int32)), (.int (3 : Int32))]) (rest := []) W d59_6 (ow278 hw) (ow279 hw) (ow50 hw) (ow280 hw) (by decide) (Cb.ct (orw_ui3 l Z a0 hw hE (u) (ku) (v) (kv) (vs) (fm) h W.old SA SH SL SF rf q5 q6 hvs nuv ge_v) (ow280 hw) (ow50 hw) hE (by decide) (by decide)) (by simp) rfl (lenOf opd32 rfl) rfl (Nat.le_of_eq rfl) (by decide) (by decide) rfl fun v1880 so1881 T1876 h1878 W1877 kp1879 sp1882 q1883 => ?_
  obtain ⟨rfl, rfl, f1884⟩ := q1883
  show Go K _ T1876 9 #[.val (.ref u), .val (.int (0 : Int32)), .val (.ref v), .val (.int (40 : Int32)), .val (.int (3 : Int32))] []
  exact wRet0 (so := []) W1877 d59_9 (by decide) (by decide) (fun _ q => nomatch q) ⟨rfl, rfl, f1884⟩
theorem d33_28 : decode jdk_42_method_147_code 28 = .ok (.aload_n 0, 1) := by decide +kernel
theorem d33_29 : decode jdk_42_method_147_code 29 = .ok (.getfield 9, 3) := by decide +kernel
theorem d33_32 : decode jdk_42_method_147_code 32 = .ok (.iconst 0, 1) := by decide +kernel
theorem d33_33 : decode jdk_42_method_147_code 33 = .ok (.aload_n 1, 1) := by decide +kernel
theorem d33_34 : decode jdk_42_method_147_code 34 = .ok (.iload_n 2, 1) := by decide +kernel
theorem d33_35 : decode jdk_42_method_147_code 35 = .ok (.aload_n 0, 1) := by decide +kernel
theorem d33_36 : decode jdk_42_method_147_code 36 = .ok (.getfield 9, 3) := by decide +kernel
theorem d33_39 : decode jdk_42_method_147_code 39 = .ok (.arraylength, 1) := by decide +kernel
theorem d33_40 : decode jdk_42_method_147_code 40 = .ok (.invokestatic 106, 3) := by decide +kernel
theorem ow281 {a0 : Array Value} {Z : State} (hw : ∀ d ∈ tables_1, d.before a0 Z = true) : (Jvm.Cond.methodLink "java/lang/String" (106 : Nat) ({ cls := "java/lang/StringLatin1", name := "inflate", desc := "([BI[BII)V" } : Jvm.MethodName)).before a0 Z = true := hw _ (List.mem_of_getElem? (i := 281) rfl)
theorem oef_orw_gb3 (m_ : MethodId) (s : Addr) (v : Addr)  : (entryFrame m_ #[(.ref s), (.ref v), (.int (40 : Int32)), (.int (1 : Int32))] 4).locals = #[.val (.ref s), .val (.ref v), .val (.int (40 : Int32)), .val (.int (1 : Int32))] := by first | (simp [entryFrame, argsToLocals, Value.category]; done) | rfl
set_option maxRecDepth 65536 in
set_option maxHeartbeats 40000000 in
theorem orw_gb3 (l : Launch) (Z : State) (a0 : Array Value) (hw : ∀ d ∈ tables_1, d.before a0 Z = true) (hE : EW Z a0 consts_1) (s : Addr) (u : Addr) (ku : ClassId) (v : Addr) (kv : ClassId) (vs : List Value) (z : Int32) (fm : Value) (h : Heap) (hO : Old Z Z.heap.size h) (SC : (Sta Z Z.heap "java/lang/String" "COMPACT_STRINGS" "Z" (.int z))) (hz : (¬ z = 0)) (SA : (Sta Z Z.heap "java/lang/StringUTF16" "$assertionsDisabled" "Z" (.int (1 : Int32)))) (SH : (Sta Z Z.heap "java/lang/StringUTF16" "HI_BYTE_SHIFT" "I" (.int (0 : Int32)))) (SL : (Sta Z Z.heap "java/lang/StringUTF16" "LO_BYTE_SHIFT" "I" (.int (8 : Int32)))) (SF : (Sta Z Z.heap "jdk/internal/util/Preconditions" "SIOOBE_FORMATTER" "Ljava/util/function/BiFunction;" fm)) (rf : (fm.isRef = true)) (q7 : Exa Z h s "java/lang/String") (q8 : Fld Z h s "java/lang/String" "value" "[B" (.ref u)) (q9 : Fld Z h s "java/lang/String" "coder" "B" (.int (0 : Int32))) (q10 : Arv Z h u ku .byte (Int32.ofNat 3) [Value.int 46, Value.int 46, Value.int 46] (.int 0)) (q11 : Arv Z h v kv .byte (Int32.ofNat (2 * 82)) vs (.int 0)) (hvs : (vs.length = 164)) (nuv : (u ≠ v)) (ge_v : Z.heap.size ≤ v) :
    Ct l Z consts_1 (⟨"java/lang/String", "getBytes", "([BIB)V"⟩ : MethodName) jdk_42_method_147_code 4 (Option.none : Option Jvm.ClassFile.FieldType) ⟨5, 0, 0, 90⟩ #[(.ref s), (.ref v), (.int (40 : Int32)), (.int (1 : Int32))] h [v] (fun rv' hp' so' => rv' = none ∧ so' = [] ∧ Arv Z hp' v kv .byte (Int32.ofNat (2 * 82)) ((((((vs.set (2 * 40) (.int (StrChars.lo8 46))).set (2 * 40 + 1) (.int (StrChars.hi8 46))).set (2 * 41) (.int (StrChars.lo8 46))).set (2 * 41 + 1) (.int (StrChars.hi8 46))).set (2 * 42) (.int (StrChars.lo8 46))).set (2 * 42 + 1) (.int (StrChars.hi8 46))) (.int 0)) := by
  refine Ct.mk "java/lang/String" "getBytes" rfl rfl (a0 := a0) (plainFor_of_name opn0) hO hE (fun x q => by simp at q; subst q; exact ge_v) ?_
  intro K T W
  rw [oef_orw_gb3]
  refine gAloadN W d33_0 rfl rfl rfl ?_
  refine wVirtual (y := (⟨"java/lang/String", "coder", "()B"⟩ : MethodName)) (z := (⟨"java/lang/String", "coder", "()B"⟩ : MethodName)) (Wd := 0) (a := s) (argsL := []) (rest := []) W d33_1 (ow35 hw) (ow36 hw) (ow38 hw) (ow37 hw) (nfS (ow38 hw)) (by decide) (Cb.ct (ors_co l Z a0 hw hE (s) (z) h W.old SC hz q9 ) (ow39 hw) (ow7 hw) hE (by decide) (by decide)) q7 (by simp) rfl (lenOf opd9 rfl) rfl (Nat.le_of_eq rfl) (by decide) (by decide) rfl fun v1889 so1890 T1885 h1887 W1886 kp1888 sp1891 q1892 => ?_
  obtain ⟨rfl, rfl⟩ := q1892
  show Go K _ T1885 4 #[.val (.ref s), .val (.ref v), .val (.int (40 : Int32)), .val (.int (1 : Int32))] [(.int (0 : Int32))]
  refine gIloadN W1886 d33_4 rfl rfl ?_
  refine gIcmpYes (pc' := 28) W1886 d33_5 (feq (by decide)).2 (by decide) rfl ?_
  refine gAloadN W1886 d33_28 rfl rfl rfl ?_
  have f1893 := q8.keep kp1888 nin0
  refine wGetF W1886 d33_29 (ow24 hw) Via.refl f1893 rfl fun T1894 W1895 => ?_
  refine gIconst (z := (0 : Int32)) W1895 d33_32 rfl rfl ?_
  refine gAloadN W1895 d33_33 rfl rfl rfl ?_
  refine gIloadN W1895 d33_34 rfl rfl ?_
  refine gAloadN W1895 d33_35 rfl rfl rfl ?_
  refine wGetF W1895 d33_36 (ow24 hw) Via.refl f1893 rfl fun T1896 W1897 => ?_
  have f1898 := q10.keep kp1888 nin0
  refine wLen W1897 d33_39 f1898 rfl ?_
  have f1899 := q11.keep kp1888 nin0
  refine wStatic (y := (⟨"java/lang/StringLatin1", "inflate", "([BI[BII)V"⟩ : MethodName)) (Wd := 0) (argsL := [(.ref u), (.int (0 : Int32)), (.ref v), (.int (40 : Int32)), (.int (Int32.ofNat 3))]) (rest := []) W1897 d33_40 (ow281 hw) (ow276 hw) (ow97 hw) (ow277 hw) (by decide) (Cb.ct (orw_li3 l Z a0 hw hE (u) (ku) (v) (kv) (vs) (fm) h1887 W1897.old SA SH SL SF rf f1898 f1899 hvs nuv ge_v) (ow277 hw) (ow97 hw) hE (by decide) (by decide)) (by simp) rfl (lenOf opd32 rfl) rfl (Nat.le_of_eq rfl) (by decide) (by decide) rfl fun v1904 so1905 T1900 h1902 W1901 kp1903 sp1906 q1907 => ?_
  obtain ⟨rfl, rfl, f1908⟩ := q1907
  show Go K _ T1900 43 #[.val (.ref s), .val (.ref v), .val (.int (40 : Int32)), .val (.int (1 : Int32))] []
  exact wRet0 (so := []) W1901 d33_43 (by decide) (by decide) (fun _ q => nomatch q) ⟨rfl, rfl, f1908⟩
theorem d58_7 : decode jdk_68_method_11_code 7 = .ok (.return_, 1) := by decide +kernel
theorem oef_orw_in2 (m_ : MethodId) (a : Addr)  : (entryFrame m_ #[(.ref a)] 2).locals = #[.val (.ref a), .unset] := by first | (simp [entryFrame, argsToLocals, Value.category]; done) | rfl
set_option maxRecDepth 65536 in
set_option maxHeartbeats 40000000 in
theorem orw_in2 (l : Launch) (Z : State) (a0 : Array Value) (hw : ∀ d ∈ tables_1, d.before a0 Z = true) (hE : EW Z a0 consts_1) (a : Addr) (z : Int32) (h : Heap) (hO : Old Z Z.heap.size h) (SC : (Sta Z Z.heap "java/lang/String" "COMPACT_STRINGS" "Z" (.int z))) (hz : (¬ z = 0)) (q2 : Exa Z h a "java/lang/StringBuilder") (q3 : Fld Z h a "java/lang/AbstractStringBuilder" "coder" "B" (.int (1 : Int32)))  :
    Ct l Z consts_1 (⟨"java/lang/AbstractStringBuilder", "inflate", "()V"⟩ : MethodName) jdk_68_method_11_code 2 (Option.none : Option Jvm.ClassFile.FieldType) ⟨1, 0, 0, 14⟩ #[(.ref a)] h [] (fun rv' hp' so' => rv' = none ∧ so' = []) := by
  refine Ct.mk "java/lang/AbstractStringBuilder" "inflate" rfl rfl (a0 := a0) (plainFor_of_name opn2) hO hE (fun x q => nomatch q) ?_
  intro K T W
  rw [oef_orw_in2]
  refine gAloadN W d58_0 rfl rfl rfl ?_
  refine wVirtual (y := (⟨"java/lang/AbstractStringBuilder", "isLatin1", "()Z"⟩ : MethodName)) (z := (⟨"java/lang/AbstractStringBuilder", "isLatin1", "()Z"⟩ : MethodName)) (Wd := 0) (a := a) (argsL := []) (rest := []) W d58_1 (ow273 hw) (ow200 hw) (ow202 hw) (ow201 hw) (nfS (ow202 hw)) (by decide) (Cb.ct (orw_sil l Z a0 hw hE (a) (z) h W.old SC hz q3 ) (ow203 hw) (ow68 hw) hE (by decide) (by decide)) q2 (by simp) rfl (lenOf opd19 rfl) rfl (Nat.le_of_eq rfl) (by decide) (by decide) rfl fun v1913 so1914 T1909 h1911 W1910 kp1912 sp1915 q1916 => ?_
  obtain ⟨rfl, rfl⟩ := q1916
  show Go K _ T1909 4 #[.val (.ref a), .unset] [(.int (0 : Int32))]
  refine gIfNo W1910 d58_4 ((if0 _ _).trans (teq rfl).2) rfl ?_
  exact wRet0 (so := []) W1910 d58_7 (by decide) (by decide) (fun _ q => nomatch q) ⟨rfl, rfl⟩
theorem oef_orw_if2 (m_ : MethodId) (a : Addr) (s : Addr)  : (entryFrame m_ #[(.ref a), (.ref s)] 2).locals = #[.val (.ref a), .val (.ref s)] := by first | (simp [entryFrame, argsToLocals, Value.category]; done) | rfl
set_option maxRecDepth 65536 in
set_option maxHeartbeats 40000000 in
theorem orw_if2 (l : Launch) (Z : State) (a0 : Array Value) (hw : ∀ d ∈ tables_1, d.before a0 Z = true) (hE : EW Z a0 consts_1) (a : Addr) (s : Addr) (z : Int32) (h : Heap) (hO : Old Z Z.heap.size h) (SC : (Sta Z Z.heap "java/lang/String" "COMPACT_STRINGS" "Z" (.int z))) (hz : (¬ z = 0)) (q2 : Exa Z h a "java/lang/StringBuilder") (q3 : Fld Z h a "java/lang/AbstractStringBuilder" "coder" "B" (.int (1 : Int32))) (q4 : Exa Z h s "java/lang/String") (q5 : Fld Z h s "java/lang/String" "coder" "B" (.int (0 : Int32)))  :
    Ct l Z consts_1 (⟨"java/lang/AbstractStringBuilder", "inflateIfNeededFor", "(Ljava/lang/String;)V"⟩ : MethodName) jdk_68_method_71_code 2 (Option.none : Option Jvm.ClassFile.FieldType) ⟨2, 0, 0, 30⟩ #[(.ref a), (.ref s)] h [] (fun rv' hp' so' => rv' = none ∧ so' = []) := by
  refine Ct.mk "java/lang/AbstractStringBuilder" "inflateIfNeededFor" rfl rfl (a0 := a0) (plainFor_of_name opn2) hO hE (fun x q => nomatch q) ?_
  intro K T W
  rw [oef_orw_if2]
  refine wGetS W d32_0 (ow71 hw) Via.refl SC rfl fun T1917 W1918 => ?_
  refine gIfNo W1918 d32_3 ((if0 _ _).trans (feq hz).1) rfl ?_
  refine gAloadN W1918 d32_6 rfl rfl rfl ?_
  refine wGetF W1918 d32_7 (ow74 hw) Via.refl q3 rfl fun T1919 W1920 => ?_
  refine gAloadN W1920 d32_10 rfl rfl rfl ?_
  refine wVirtual (y := (⟨"java/lang/String", "coder", "()B"⟩ : MethodName)) (z := (⟨"java/lang/String", "coder", "()B"⟩ : MethodName)) (Wd := 1) (a := s) (argsL := []) (rest := [(.int (1 : Int32))]) W1920 d32_11 (ow166 hw) (ow36 hw) (ow38 hw) (ow37 hw) (nfS (ow38 hw)) (by decide) (Cb.ct (ors_co l Z a0 hw hE (s) (z) h W1920.old SC hz q5 ) (ow39 hw) (ow7 hw) hE (by decide) (by decide)) q4 (by simp) rfl (lenOf opd9 rfl) rfl (Nat.le_of_eq rfl) (by decide) (by decide) rfl fun v1925 so1926 T1921 h1923 W1922 kp1924 sp1927 q1928 => ?_
  obtain ⟨rfl, rfl⟩ := q1928
  show Go K _ T1921 14 #[.val (.ref a), .val (.ref s)] [(.int (0 : Int32)), (.int (1 : Int32))]
  refine gIcmpNo W1922 d32_14 (feq (by decide)).1 rfl ?_
  refine gAloadN W1922 d32_17 rfl rfl rfl ?_
  have f1929 := q2.keep kp1924
  have f1930 := q3.keep kp1924 nin0
  refine wPrivate (y := (⟨"java/lang/AbstractStringBuilder", "inflate", "()V"⟩ : MethodName)) (Wd := 0) (a := a) (argsL := []) (rest := []) W1922 d32_18 (ow268 hw) (ow269 hw) (ow271 hw) (ow270 hw) (ow272 hw) (by decide) (Cb.ct (orw_in2 l Z a0 hw hE (a) (z) h1923 W1922.old SC hz f1929 f1930 ) (ow272 hw) (ow68 hw) hE (by decide) (by decide)) f1929 (by simp) rfl (lenOf opd33 rfl) rfl (Nat.le_of_eq rfl) (by decide) (by decide) rfl fun v1935 so1936 T1931 h1933 W1932 kp1934 sp1937 q1938 => ?_
  obtain ⟨rfl, rfl⟩ := q1938
  show Go K _ T1931 21 #[.val (.ref a), .val (.ref s)] []
  exact wRet0 (so := []) W1932 d32_21 (by decide) (by decide) (fun _ q => nomatch q) ⟨rfl, rfl⟩
theorem oef_orw_ps3 (m_ : MethodId) (a : Addr) (s : Addr)  : (entryFrame m_ #[(.ref a), (.int (40 : Int32)), (.ref s)] 3).locals = #[.val (.ref a), .val (.int (40 : Int32)), .val (.ref s)] := by first | (simp [entryFrame, argsToLocals, Value.category]; done) | rfl
set_option maxRecDepth 65536 in
set_option maxHeartbeats 40000000 in
theorem orw_ps3 (l : Launch) (Z : State) (a0 : Array Value) (hw : ∀ d ∈ tables_1, d.before a0 Z = true) (hE : EW Z a0 consts_1) (a : Addr) (v : Addr) (kv : ClassId) (vs : List Value) (s : Addr) (u : Addr) (ku : ClassId) (z : Int32) (fm : Value) (h : Heap) (hO : Old Z Z.heap.size h) (SC : (Sta Z Z.heap "java/lang/String" "COMPACT_STRINGS" "Z" (.int z))) (hz : (¬ z = 0)) (SA : (Sta Z Z.heap "java/lang/StringUTF16" "$assertionsDisabled" "Z" (.int (1 : Int32)))) (SH : (Sta Z Z.heap "java/lang/StringUTF16" "HI_BYTE_SHIFT" "I" (.int (0 : Int32)))) (SL : (Sta Z Z.heap "java/lang/StringUTF16" "LO_BYTE_SHIFT" "I" (.int (8 : Int32)))) (SF : (Sta Z Z.heap "jdk/internal/util/Preconditions" "SIOOBE_FORMATTER" "Ljava/util/function/BiFunction;" fm)) (rf : (fm.isRef = true)) (q7 : Exa Z h a "java/lang/StringBuilder") (q8 : Fld Z h a "java/lang/AbstractStringBuilder" "value" "[B" (.ref v)) (q9 : Fld Z h a "java/lang/AbstractStringBuilder" "coder" "B" (.int (1 : Int32))) (q10 : Arv Z h v kv .byte (Int32.ofNat (2 * 82)) vs (.int 0)) (hvs : (vs.length = 164)) (nuv : (u ≠ v)) (q13 : Exa Z h s "java/lang/String") (q14 : Fld Z h s "java/lang/String" "value" "[B" (.ref u)) (q15 : Fld Z h s "java/lang/String" "coder" "B" (.int (0 : Int32))) (q16 : Arv Z h u ku .byte (Int32.ofNat 3) [Value.int 46, Value.int 46, Value.int 46] (.int 0)) (ge_v : Z.heap.size ≤ v) :
    Ct l Z consts_1 (⟨"java/lang/AbstractStringBuilder", "putStringAt", "(ILjava/lang/String;)V"⟩ : MethodName) jdk_68_method_73_code 3 (Option.none : Option Jvm.ClassFile.FieldType) ⟨6, 0, 0, 106⟩ #[(.ref a), (.int (40 : Int32)), (.ref s)] h [v] (fun rv' hp' so' => rv' = none ∧ so' = [] ∧ Arv Z hp' v kv .byte (Int32.ofNat (2 * 82)) ((((((vs.set (2 * 40) (.int (StrChars.lo8 46))).set (2 * 40 + 1) (.int (StrChars.hi8 46))).set (2 * 41) (.int (StrChars.lo8 46))).set (2 * 41 + 1) (.int (StrChars.hi8 46))).set (2 * 42) (.int (StrChars.lo8 46))).set (2 * 42 + 1) (.int (StrChars.hi8 46))) (.int 0)) := by
  refine Ct.mk "java/lang/AbstractStringBuilder" "putStringAt" rfl rfl (a0 := a0) (plainFor_of_name opn2) hO hE (fun x q => by simp at q; subst q; exact ge_v) ?_
  intro K T W
  rw [oef_orw_ps3]
  refine gAloadN W d31_0 rfl rfl rfl ?_
  refine gAloadN W d31_1 rfl rfl rfl ?_
  refine wPrivate (y := (⟨"java/lang/AbstractStringBuilder", "inflateIfNeededFor", "(Ljava/lang/String;)V"⟩ : MethodName)) (Wd := 0) (a := a) (argsL := [(.ref s)]) (rest := []) W d31_2 (ow161 hw) (ow162 hw) (ow164 hw) (ow163 hw) (ow165 hw) (by decide) (Cb.ct (orw_if2 l Z a0 hw hE (a) (s) (z) h W.old SC hz q7 q9 q13 q15 ) (ow165 hw) (ow68 hw) hE (by decide) (by decide)) q7 (by simp) rfl (lenOf opd10 rfl) rfl (Nat.le_of_eq rfl) (by decide) (by decide) rfl fun v1943 so1944 T1939 h1941 W1940 kp1942 sp1945 q1946 => ?_
  obtain ⟨rfl, rfl⟩ := q1946
  show Go K _ T1939 5 #[.val (.ref a), .val (.int (40 : Int32)), .val (.ref s)] []
  refine gAloadN W1940 d31_5 rfl rfl rfl ?_
  refine gAloadN W1940 d31_6 rfl rfl rfl ?_
  have f1947 := q8.keep kp1942 nin0
  refine wGetF W1940 d31_7 (ow72 hw) Via.refl f1947 rfl fun T1948 W1949 => ?_
  refine gIloadN W1949 d31_10 rfl rfl ?_
  refine gAloadN W1949 d31_11 rfl rfl rfl ?_
  have f1950 := q9.keep kp1942 nin0
  refine wGetF W1949 d31_12 (ow74 hw) Via.refl f1950 rfl fun T1951 W1952 => ?_
  have f1953 := q13.keep kp1942
  have f1954 := q14.keep kp1942 nin0
  have f1955 := q15.keep kp1942 nin0
  have f1956 := q16.keep kp1942 nin0
  have f1957 := q10.keep kp1942 nin0
  refine wVirtual (y := (⟨"java/lang/String", "getBytes", "([BIB)V"⟩ : MethodName)) (z := (⟨"java/lang/String", "getBytes", "([BIB)V"⟩ : MethodName)) (Wd := 0) (a := s) (argsL := [(.ref v), (.int (40 : Int32)), (.int (1 : Int32))]) (rest := []) W1952 d31_15 (ow167 hw) (ow168 hw) (ow170 hw) (ow169 hw) (nfS (ow170 hw)) (by decide) (Cb.ct (orw_gb3 l Z a0 hw hE (s) (u) (ku) (v) (kv) (vs) (z) (fm) h1941 W1952.old SC hz SA SH SL SF rf f1953 f1954 f1955 f1956 f1957 hvs nuv ge_v) (ow171 hw) (ow7 hw) hE (by decide) (by decide)) f1953 (by simp) rfl (lenOf opd11 rfl) rfl (Nat.le_of_eq rfl) (by decide) (by decide) rfl fun v1962 so1963 T1958 h1960 W1959 kp1961 sp1964 q1965 => ?_
  obtain ⟨rfl, rfl, f1966⟩ := q1965
  show Go K _ T1958 18 #[.val (.ref a), .val (.int (40 : Int32)), .val (.ref s)] []
  exact wRet0 (so := []) W1959 d31_18 (by decide) (by decide) (fun _ q => nomatch q) ⟨rfl, rfl, f1966⟩
theorem oef_orw_ap2W (m_ : MethodId) (a : Addr) (s : Addr)  : (entryFrame m_ #[(.ref a), (.ref s)] 3).locals = #[.val (.ref a), .val (.ref s), .unset] := by first | (simp [entryFrame, argsToLocals, Value.category]; done) | rfl
set_option maxRecDepth 65536 in
set_option maxHeartbeats 40000000 in
theorem orw_ap2W (l : Launch) (Z : State) (a0 : Array Value) (hw : ∀ d ∈ tables_1, d.before a0 Z = true) (hE : EW Z a0 consts_1) (a : Addr) (t : Addr) (kb : ClassId) (vs : List Value) (s : Addr) (u : Addr) (ku : ClassId) (z : Int32) (fm : Value) (h : Heap) (hO : Old Z Z.heap.size h) (SC : (Sta Z Z.heap "java/lang/String" "COMPACT_STRINGS" "Z" (.int z))) (hz : (¬ z = 0)) (SA : (Sta Z Z.heap "java/lang/StringUTF16" "$assertionsDisabled" "Z" (.int (1 : Int32)))) (SH : (Sta Z Z.heap "java/lang/StringUTF16" "HI_BYTE_SHIFT" "I" (.int (0 : Int32)))) (SL : (Sta Z Z.heap "java/lang/StringUTF16" "LO_BYTE_SHIFT" "I" (.int (8 : Int32)))) (SF : (Sta Z Z.heap "jdk/internal/util/Preconditions" "SIOOBE_FORMATTER" "Ljava/util/function/BiFunction;" fm)) (rf : (fm.isRef = true)) (q7 : Exa Z h a "java/lang/StringBuilder") (q8 : Fld Z h a "java/lang/AbstractStringBuilder" "value" "[B" (.ref t)) (q9 : Fld Z h a "java/lang/AbstractStringBuilder" "coder" "B" (.int (1 : Int32))) (q10 : Fld Z h a "java/lang/AbstractStringBuilder" "count" "I" (.int (40 : Int32))) (q11 : Fld Z h a "java/lang/AbstractStringBuilder" "maybeLatin1" "Z" (.int (0 : Int32))) (q12 : Arv Z h t kb .byte (Int32.ofNat 80) vs (.int 0)) (q13 : Exa Z h s "java/lang/String") (q14 : Fld Z h s "java/lang/String" "value" "[B" (.ref u)) (q15 : Fld Z h s "java/lang/String" "coder" "B" (.int (0 : Int32))) (q16 : Arv Z h u ku .byte (Int32.ofNat 3) [Value.int 46, Value.int 46, Value.int 46] (.int 0)) (hvs : (vs.length = 80)) (ge_a : Z.heap.size ≤ a) :
    Ct l Z consts_1 (⟨"java/lang/AbstractStringBuilder", "append", "(Ljava/lang/String;)Ljava/lang/AbstractStringBuilder;"⟩ : MethodName) jdk_68_method_22_code 3 (Option.some (Jvm.ClassFile.FieldType.object "java/lang/AbstractStringBuilder")) ⟨7, 1, 164, 124⟩ #[(.ref a), (.ref s)] h [a] (fun rv' hp' so' => ∃ r : Addr, ∃ kr : ClassId, rv' = some (.ref a) ∧ so' = [r] ∧ (h.size ≤ r) ∧ Exa Z hp' a "java/lang/StringBuilder" ∧ Fld Z hp' a "java/lang/AbstractStringBuilder" "value" "[B" (.ref r) ∧ Fld Z hp' a "java/lang/AbstractStringBuilder" "coder" "B" (.int (1 : Int32)) ∧ Fld Z hp' a "java/lang/AbstractStringBuilder" "count" "I" (.int (43 : Int32)) ∧ Fld Z hp' a "java/lang/AbstractStringBuilder" "maybeLatin1" "Z" (.int (0 : Int32)) ∧ Arv Z hp' r kr .byte (Int32.ofNat 164) (((((((vs ++ List.replicate 84 (Value.int 0)).set (2 * 40) (.int (StrChars.lo8 46))).set (2 * 40 + 1) (.int (StrChars.hi8 46))).set (2 * 41) (.int (StrChars.lo8 46))).set (2 * 41 + 1) (.int (StrChars.hi8 46))).set (2 * 42) (.int (StrChars.lo8 46))).set (2 * 42 + 1) (.int (StrChars.hi8 46))) (.int 0)) := by
  refine Ct.mk "java/lang/AbstractStringBuilder" "append" rfl rfl (a0 := a0) (plainFor_of_name opn2) hO hE (fun x q => by simp at q; subst q; exact ge_a) ?_
  intro K T W
  rw [oef_orw_ap2W]
  refine gAloadN W d25_0 rfl rfl rfl ?_
  refine gIfnonnullYes (pc' := 9) W d25_1 (by decide) rfl ?_
  refine gAloadN W d25_9 rfl rfl rfl ?_
  refine wVirtual (y := (⟨"java/lang/String", "length", "()I"⟩ : MethodName)) (z := (⟨"java/lang/String", "length", "()I"⟩ : MethodName)) (Wd := 0) (a := s) (argsL := []) (rest := []) W d25_10 (ow131 hw) (ow31 hw) (ow33 hw) (ow32 hw) (nfS (ow33 hw)) (by decide) (Cb.ct (ors_ln l Z a0 hw hE (s) (u) (ku) (3) ([Value.int 46, Value.int 46, Value.int 46]) (z) h W.old SC hz q13 q14 q15 q16 ) (ow34 hw) (ow7 hw) hE (by decide) (by decide)) q13 (by simp) rfl (lenOf opd12 rfl) rfl (Nat.le_of_eq rfl) (by decide) (by decide) rfl fun v1971 so1972 T1967 h1969 W1968 kp1970 sp1973 q1974 => ?_
  obtain ⟨rfl, rfl⟩ := q1974
  show Go K _ T1967 13 #[.val (.ref a), .val (.ref s), .unset] [(.int (Int32.ofNat 3))]
  refine gIstoreN (ls' := #[.val (.ref a), .val (.ref s), .val (.int (Int32.ofNat 3))]) W1968 d25_13 rfl rfl ?_
  refine gAloadN W1968 d25_14 rfl rfl rfl ?_
  refine gAloadN W1968 d25_15 rfl rfl rfl ?_
  have f1975 := q10.keep kp1970 nin0
  refine wGetF W1968 d25_16 (ow132 hw) Via.refl f1975 rfl fun T1976 W1977 => ?_
  refine gIloadN W1977 d25_19 rfl rfl ?_
  refine gIadd (z := (43 : Int32)) W1977 d25_20 (by decide) rfl ?_
  have f1978 := q7.keep kp1970
  have f1979 := q8.keep kp1970 nin0
  have f1980 := q9.keep kp1970 nin0
  have f1981 := q12.keep kp1970 nin0
  have f1982 := q11.keep kp1970 nin0
  refine wPrivate (y := (⟨"java/lang/AbstractStringBuilder", "ensureCapacityInternal", "(I)V"⟩ : MethodName)) (Wd := 0) (a := a) (argsL := [(.int (43 : Int32))]) (rest := []) W1977 d25_21 (ow134 hw) (ow135 hw) (ow137 hw) (ow136 hw) (ow138 hw) (by decide) (Cb.ct (org_egc l Z a0 hw hE (a) (t) (kb) (vs) ((40 : Int32)) h1969 W1977.old f1978 f1979 f1980 f1981 f1975 f1982 hvs ge_a) (ow138 hw) (ow68 hw) hE (by decide) (by decide)) f1978 (by simp) rfl (lenOf opd8 rfl) rfl (Nat.le_of_eq rfl) (by decide) (by decide) rfl fun v1987 so1988 T1983 h1985 W1984 kp1986 sp1989 q1990 => ?_
  obtain ⟨r1991, kr1992, rfl, rfl, f1993, f1994, f1995, f1996, f1997, f1998, f1999⟩ := q1990
  show Go K _ T1983 24 #[.val (.ref a), .val (.ref s), .val (.int (Int32.ofNat 3))] []
  refine gAloadN W1984 d25_24 rfl rfl rfl ?_
  refine gAloadN W1984 d25_25 rfl rfl rfl ?_
  refine wGetF W1984 d25_26 (ow132 hw) Via.refl f1997 rfl fun T2000 W2001 => ?_
  refine gAloadN W2001 d25_29 rfl rfl rfl ?_
  have f2003 := q16.keep kp1970 nin0
  have ne2002 : u ≠ r1991 := Nat.ne_of_lt (Nat.lt_of_lt_of_le f2003.lt f1993)
  have f2004 := q13.keep kp1970
  have f2005 := f2004.keep kp1986
  have f2006 := q14.keep kp1970 nin0
  have f2007 := f2006.keep kp1986 (ninS (Ne.symm (Exa.ne q7 q13 (by decide))) nin0)
  have f2008 := q15.keep kp1970 nin0
  have f2009 := f2008.keep kp1986 (ninS (Ne.symm (Exa.ne q7 q13 (by decide))) nin0)
  have f2010 := f2003.keep kp1986 (ninS (Ne.symm (Exa.neArv q7 q16 (ow59 hw))) nin0)
  refine wPrivate (y := (⟨"java/lang/AbstractStringBuilder", "putStringAt", "(ILjava/lang/String;)V"⟩ : MethodName)) (Wd := 0) (a := a) (argsL := [(.int (40 : Int32)), (.ref s)]) (rest := []) W2001 d25_30 (ow156 hw) (ow157 hw) (ow159 hw) (ow158 hw) (ow160 hw) (by decide) (Cb.ct (orw_ps3 l Z a0 hw hE (a) (r1991) (kr1992) ((vs ++ List.replicate 84 (Value.int 0))) (s) (u) (ku) (z) (fm) h1985 W2001.old SC hz SA SH SL SF rf f1994 f1995 f1996 f1999 (by simp [hvs]) ne2002 f2005 f2007 f2009 f2010 (Nat.le_trans W1968.old.2.1 f1993)) (ow160 hw) (ow68 hw) hE (by decide) (by decide)) f1994 (by simp) rfl (lenOf opd13 rfl) rfl (Nat.le_of_eq rfl) (by decide) (by decide) rfl fun v2015 so2016 T2011 h2013 W2012 kp2014 sp2017 q2018 => ?_
  obtain ⟨rfl, rfl, f2019⟩ := q2018
  show Go K _ T2011 33 #[.val (.ref a), .val (.ref s), .val (.int (Int32.ofNat 3))] []
  have f2020 : Arv Z h2013 r1991 kr1992 .byte (Int32.ofNat 164) (((((((vs ++ List.replicate 84 (Value.int 0)).set (2 * 40) (.int (StrChars.lo8 46))).set (2 * 40 + 1) (.int (StrChars.hi8 46))).set (2 * 41) (.int (StrChars.lo8 46))).set (2 * 41 + 1) (.int (StrChars.hi8 46))).set (2 * 42) (.int (StrChars.lo8 46))).set (2 * 42 + 1) (.int (StrChars.hi8 46))) (.int 0) := f2019
  refine gAloadN W2012 d25_33 rfl rfl rfl ?_
  refine gDup W2012 d25_34 rfl rfl ?_
  have ne2021 : a ≠ r1991 := Nat.ne_of_lt (Nat.lt_of_lt_of_le f1978.lt f1993)
  have f2022 := f1997.keep kp2014 (ninS ne2021 nin0)
  refine wGetF W2012 d25_35 (ow132 hw) Via.refl f2022 rfl fun T2023 W2024 => ?_
  refine gIloadN W2024 d25_38 rfl rfl ?_
  refine gIadd (z := (43 : Int32)) W2024 d25_39 (by decide) rfl ?_
  have f2025 := f1994.keep kp2014
  refine wPutF (ty := .int) W2024 d25_40 (ow132 hw) Via.refl (by simp) f2022 f2025 (Or.inl (ow133 hw)) (ow59 hw) (by decide) rfl rfl rfl fun T2026 h2028 W2027 wr2029 => ?_
  have f2030 := Fld.same wr2029 f2022
  refine gAloadN W2027 d25_43 rfl rfl rfl ?_
  have f2031 := f2025.wr wr2029
  have f2032 := f1995.keep kp2014 (ninS ne2021 nin0)
  have f2033 := f2032.other wr2029 (Or.inr (slot_ne (t := .array .byte) (t' := .int) (Or.inl (ow73 hw)) (Or.inl (ow133 hw)) (by decide) (by decide) (by decide)))
  have f2034 := f1996.keep kp2014 (ninS ne2021 nin0)
  have f2035 := f2034.other wr2029 (Or.inr (slot_ne (t := .byte) (t' := .int) (Or.inl (ow75 hw)) (Or.inl (ow133 hw)) (by decide) (by decide) (by decide)))
  have f2036 := f1998.keep kp2014 (ninS ne2021 nin0)
  have f2037 := f2036.other wr2029 (Or.inr (slot_ne (t := .boolean) (t' := .int) (Or.inl (ow283 hw)) (Or.inl (ow133 hw)) (by decide) (by decide) (by decide)))
  have f2038 := f2020.other wr2029 (Ne.symm ne2021)
  exact wRetA (so := [r1991]) (t := .object "java/lang/AbstractStringBuilder") W2027 d25_44 rfl rfl rfl (by decide) (by decide) (all1 ⟨by simp, (Nat.le_trans W1968.grow f1993)⟩ alln) ⟨r1991, kr1992, rfl, rfl, (Nat.le_trans W1968.grow f1993), f2031, f2033, f2035, f2030, f2037, f2038⟩
theorem oef_orw_ap2Wb (m_ : MethodId) (a : Addr) (s : Addr)  : (entryFrame m_ #[(.ref a), (.ref s)] 2).locals = #[.val (.ref a), .val (.ref s)] := by first | (simp [entryFrame, argsToLocals, Value.category]; done) | rfl
set_option maxRecDepth 65536 in
set_option maxHeartbeats 40000000 in
theorem orw_ap2Wb (l : Launch) (Z : State) (a0 : Array Value) (hw : ∀ d ∈ tables_1, d.before a0 Z = true) (hE : EW Z a0 consts_1) (a : Addr) (t : Addr) (kb : ClassId) (vs : List Value) (s : Addr) (u : Addr) (ku : ClassId) (z : Int32) (fm : Value) (h : Heap) (hO : Old Z Z.heap.size h) (SC : (Sta Z Z.heap "java/lang/String" "COMPACT_STRINGS" "Z" (.int z))) (hz : (¬ z = 0)) (SA : (Sta Z Z.heap "java/lang/StringUTF16" "$assertionsDisabled" "Z" (.int (1 : Int32)))) (SH : (Sta Z Z.heap "java/lang/StringUTF16" "HI_BYTE_SHIFT" "I" (.int (0 : Int32)))) (SL : (Sta Z Z.heap "java/lang/StringUTF16" "LO_BYTE_SHIFT" "I" (.int (8 : Int32)))) (SF : (Sta Z Z.heap "jdk/internal/util/Preconditions" "SIOOBE_FORMATTER" "Ljava/util/function/BiFunction;" fm)) (rf : (fm.isRef = true)) (q7 : Exa Z h a "java/lang/StringBuilder") (q8 : Fld Z h a "java/lang/AbstractStringBuilder" "value" "[B" (.ref t)) (q9 : Fld Z h a "java/lang/AbstractStringBuilder" "coder" "B" (.int (1 : Int32))) (q10 : Fld Z h a "java/lang/AbstractStringBuilder" "count" "I" (.int (40 : Int32))) (q11 : Fld Z h a "java/lang/AbstractStringBuilder" "maybeLatin1" "Z" (.int (0 : Int32))) (q12 : Arv Z h t kb .byte (Int32.ofNat 80) vs (.int 0)) (q13 : Exa Z h s "java/lang/String") (q14 : Fld Z h s "java/lang/String" "value" "[B" (.ref u)) (q15 : Fld Z h s "java/lang/String" "coder" "B" (.int (0 : Int32))) (q16 : Arv Z h u ku .byte (Int32.ofNat 3) [Value.int 46, Value.int 46, Value.int 46] (.int 0)) (hvs : (vs.length = 80)) (ge_a : Z.heap.size ≤ a) :
    Ct l Z consts_1 (⟨"java/lang/StringBuilder", "append", "(Ljava/lang/String;)Ljava/lang/StringBuilder;"⟩ : MethodName) jdk_67_method_7_code 2 (Option.some (Jvm.ClassFile.FieldType.object "java/lang/StringBuilder")) ⟨8, 1, 164, 140⟩ #[(.ref a), (.ref s)] h [a] (fun rv' hp' so' => ∃ r : Addr, ∃ kr : ClassId, rv' = some (.ref a) ∧ so' = [r] ∧ (h.size ≤ r) ∧ Exa Z hp' a "java/lang/StringBuilder" ∧ Fld Z hp' a "java/lang/AbstractStringBuilder" "value" "[B" (.ref r) ∧ Fld Z hp' a "java/lang/AbstractStringBuilder" "coder" "B" (.int (1 : Int32)) ∧ Fld Z hp' a "java/lang/AbstractStringBuilder" "count" "I" (.int (43 : Int32)) ∧ Fld Z hp' a "java/lang/AbstractStringBuilder" "maybeLatin1" "Z" (.int (0 : Int32)) ∧ Arv Z hp' r kr .byte (Int32.ofNat 164) (((((((vs ++ List.replicate 84 (Value.int 0)).set (2 * 40) (.int (StrChars.lo8 46))).set (2 * 40 + 1) (.int (StrChars.hi8 46))).set (2 * 41) (.int (StrChars.lo8 46))).set (2 * 41 + 1) (.int (StrChars.hi8 46))).set (2 * 42) (.int (StrChars.lo8 46))).set (2 * 42 + 1) (.int (StrChars.hi8 46))) (.int 0)) := by
  refine Ct.mk "java/lang/StringBuilder" "append" rfl rfl (a0 := a0) (plainFor_of_name opn3) hO hE (fun x q => by simp at q; subst q; exact ge_a) ?_
  intro K T W
  rw [oef_orw_ap2Wb]
  refine gAloadN W d24_0 rfl rfl rfl ?_
  refine gAloadN W d24_1 rfl rfl rfl ?_
  refine wSuper (x := (⟨"java/lang/AbstractStringBuilder", "ensureCapacityInternal", "(I)V"⟩ : MethodName)) (y := (⟨"java/lang/AbstractStringBuilder", "append", "(Ljava/lang/String;)Ljava/lang/AbstractStringBuilder;"⟩ : MethodName)) (z := (⟨"java/lang/AbstractStringBuilder", "ensureCapacityInternal", "(I)V"⟩ : MethodName)) (Wd := 0) (a := a) (argsL := [(.ref s)]) (rest := []) W d24_2 (ow126 hw) (ow127 hw) (ow137 hw) rfl (ow128 hw) (by decide) (ow130 hw) (by decide) (Cb.ct (orw_ap2W l Z a0 hw hE (a) (t) (kb) (vs) (s) (u) (ku) (z) (fm) h W.old SC hz SA SH SL SF rf q7 q8 q9 q10 q11 q12 q13 q14 q15 q16 hvs ge_a) (ow130 hw) (ow68 hw) hE (by decide) (by decide)) q7 (by simp) rfl (lenOf opd14 rfl) rfl (Nat.le_of_eq rfl) (by decide) (by decide) rfl fun v2043 so2044 T2039 h2041 W2040 kp2042 sp2045 q2046 => ?_
  obtain ⟨r2047, kr2048, rfl, rfl, f2049, f2050, f2051, f2052, f2053, f2054, f2055⟩ := q2046
  show Go K _ T2039 5 #[.val (.ref a), .val (.ref s)] [(.ref a)]
  refine gPop W2040 d24_5 rfl rfl ?_
  refine gAloadN W2040 d24_6 rfl rfl rfl ?_
  exact wRetA (so := [r2047]) (t := .object "java/lang/StringBuilder") W2040 d24_7 rfl rfl rfl (by decide) (by decide) (all1 ⟨by simp, f2049⟩ alln) ⟨r2047, kr2048, rfl, rfl, f2049, f2050, f2051, f2052, f2053, f2054, f2055⟩
-- CUT
theorem d36_41 : decode jdk_42_method_150_code 41 = .ok (.getstatic 38, 3) := by decide +kernel
theorem d36_44 : decode jdk_42_method_150_code 44 = .ok (.ifCond .eq 35, 3) := by decide +kernel
theorem d36_47 : decode jdk_42_method_150_code 47 = .ok (.aload_n 1, 1) := by decide +kernel
theorem d36_48 : decode jdk_42_method_150_code 48 = .ok (.getfield 1048, 3) := by decide +kernel
theorem ow282 {a0 : Array Value} {Z : State} (hw : ∀ d ∈ tables_1, d.before a0 Z = true) : (Jvm.Cond.fieldLink "java/lang/String" (1048 : Nat) "java/lang/AbstractStringBuilder" "maybeLatin1" "Z").before a0 Z = true := hw _ (List.mem_of_getElem? (i := 282) rfl)
theorem d36_51 : decode jdk_42_method_150_code 51 = .ok (.ifCond .eq 28, 3) := by decide +kernel
theorem d36_79 : decode jdk_42_method_150_code 79 = .ok (.aload_n 0, 1) := by decide +kernel
theorem d36_80 : decode jdk_42_method_150_code 80 = .ok (.iconst 1, 1) := by decide +kernel
theorem d36_81 : decode jdk_42_method_150_code 81 = .ok (.putfield 15, 3) := by decide +kernel
theorem d36_84 : decode jdk_42_method_150_code 84 = .ok (.aload_n 0, 1) := by decide +kernel
theorem d36_85 : decode jdk_42_method_150_code 85 = .ok (.aload_n 3, 1) := by decide +kernel
theorem d36_86 : decode jdk_42_method_150_code 86 = .ok (.iconst 0, 1) := by decide +kernel
theorem d36_87 : decode jdk_42_method_150_code 87 = .ok (.iload 4, 2) := by decide +kernel
theorem d36_89 : decode jdk_42_method_150_code 89 = .ok (.iconst 1, 1) := by decide +kernel
theorem d36_90 : decode jdk_42_method_150_code 90 = .ok (.ishl, 1) := by decide +kernel
theorem d36_91 : decode jdk_42_method_150_code 91 = .ok (.invokestatic 54, 3) := by decide +kernel
theorem d36_94 : decode jdk_42_method_150_code 94 = .ok (.putfield 9, 3) := by decide +kernel
theorem oef_orw_s2 (m_ : MethodId) (a : Addr) (b : Addr)  : (entryFrame m_ #[(.ref a), (.ref b), .null] 5).locals = #[.val (.ref a), .val (.ref b), .val .null, .unset, .unset] := by first | (simp [entryFrame, argsToLocals, Value.category]; done) | rfl
set_option maxRecDepth 65536 in
set_option maxHeartbeats 40000000 in
theorem orw_s2 (l : Launch) (Z : State) (a0 : Array Value) (hw : ∀ d ∈ tables_1, d.before a0 Z = true) (hE : EW Z a0 consts_1) (a : Addr) (b : Addr) (t : Addr) (kb : ClassId) (vs : List Value) (z : Int32) (h : Heap) (hO : Old Z Z.heap.size h) (SC : (Sta Z Z.heap "java/lang/String" "COMPACT_STRINGS" "Z" (.int z))) (hz : (¬ z = 0)) (q2 : Exa Z h a "java/lang/String") (q3 : Fld Z h a "java/lang/String" "value" "[B" .null) (q4 : Fld Z h a "java/lang/String" "coder" "B" (.int (0 : Int32))) (q5 : Exa Z h b "java/lang/StringBuilder") (q6 : Fld Z h b "java/lang/AbstractStringBuilder" "value" "[B" (.ref t)) (q7 : Fld Z h b "java/lang/AbstractStringBuilder" "coder" "B" (.int (1 : Int32))) (q8 : Fld Z h b "java/lang/AbstractStringBuilder" "count" "I" (.int (43 : Int32))) (q9 : Fld Z h b "java/lang/AbstractStringBuilder" "maybeLatin1" "Z" (.int (0 : Int32))) (q10 : Arv Z h t kb .byte (Int32.ofNat 164) vs (.int 0)) (hvs : (vs.length = 164)) (ge_a : Z.heap.size ≤ a) :
    Ct l Z consts_1 (⟨"java/lang/String", "<init>", "(Ljava/lang/AbstractStringBuilder;Ljava/lang/Void;)V"⟩ : MethodName) jdk_42_method_150_code 5 (Option.none : Option Jvm.ClassFile.FieldType) ⟨3, 1, 100, 100⟩ #[(.ref a), (.ref b), .null] h [a] (fun rv' hp' so' => ∃ r : Addr, ∃ kr : ClassId, rv' = none ∧ so' = [] ∧ Exa Z hp' a "java/lang/String" ∧ Fld Z hp' a "java/lang/String" "coder" "B" (.int (1 : Int32)) ∧ Fld Z hp' a "java/lang/String" "value" "[B" (.ref r) ∧ Arv Z hp' r kr .byte (Int32.ofNat 86) (vs.take 86) (.int 0)) := by
  refine Ct.mk "java/lang/String" "<init>" rfl rfl (a0 := a0) (plainFor_of_name opn0) hO hE (fun x q => by simp at q; subst q; exact ge_a) ?_
  intro K T W
  rw [oef_orw_s2]
  refine gAloadN W d36_0 rfl rfl rfl ?_
  refine wInitO W d36_1 (ow15 hw) (ow16 hw) (ow17 hw) rfl (by decide) 0 (Nat.le_of_eq rfl) (by decide) rfl fun T2056 W2057 => ?_
  refine gAloadN W2057 d36_4 rfl rfl rfl ?_
  refine wVirtual (y := (⟨"java/lang/AbstractStringBuilder", "getValue", "()[B"⟩ : MethodName)) (z := (⟨"java/lang/AbstractStringBuilder", "getValue", "()[B"⟩ : MethodName)) (Wd := 0) (a := b) (argsL := []) (rest := []) W2057 d36_5 (ow186 hw) (ow187 hw) (ow189 hw) (ow188 hw) (nfS (ow189 hw)) (by decide) (Cb.ct (ors_gv l Z a0 hw hE (b) (t) h W2057.old q6 ) (ow190 hw) (ow68 hw) hE (by decide) (by decide)) q5 (by simp) rfl (lenOf opd18 rfl) rfl (Nat.le_of_eq rfl) (by decide) (by decide) rfl fun v2062 so2063 T2058 h2060 W2059 kp2061 sp2064 q2065 => ?_
  obtain ⟨rfl, rfl⟩ := q2065
  show Go K _ T2058 8 #[.val (.ref a), .val (.ref b), .val .null, .unset, .unset] [(.ref t)]
  refine gAstoreN (ls' := #[.val (.ref a), .val (.ref b), .val .null, .val (.ref t), .unset]) W2059 d36_8 rfl rfl rfl ?_
  refine gAloadN W2059 d36_9 rfl rfl rfl ?_
  have f2066 := q5.keep kp2061
  have f2067 := q8.keep kp2061 nin0
  refine wVirtual (y := (⟨"java/lang/AbstractStringBuilder", "length", "()I"⟩ : MethodName)) (z := (⟨"java/lang/StringBuilder", "length", "()I"⟩ : MethodName)) (Wd := 0) (a := b) (argsL := []) (rest := []) W2059 d36_10 (ow191 hw) (ow192 hw) (ow194 hw) (ow195 hw) (nfC (ow137 hw) rfl) (by decide) (Cb.ct (ors_l1 l Z a0 hw hE (b) ((43 : Int32)) h2060 W2059.old f2066 f2067 ) (ow196 hw) (ow60 hw) hE (by decide) (by decide)) f2066 (by simp) rfl (lenOf opd12 rfl) rfl (Nat.le_of_eq rfl) (by decide) (by decide) rfl fun v2072 so2073 T2068 h2070 W2069 kp2071 sp2074 q2075 => ?_
  obtain ⟨rfl, rfl⟩ := q2075
  show Go K _ T2068 13 #[.val (.ref a), .val (.ref b), .val .null, .val (.ref t), .unset] [(.int (43 : Int32))]
  refine gIstore (ls' := #[.val (.ref a), .val (.ref b), .val .null, .val (.ref t), .val (.int (43 : Int32))]) W2069 d36_13 rfl rfl ?_
  refine gAloadN W2069 d36_15 rfl rfl rfl ?_
  have f2076 := q7.keep kp2061 nin0
  have f2077 := f2076.keep kp2071 nin0
  have f2086 := f2066.keep kp2071
  refine wVirtual (y := (⟨"java/lang/AbstractStringBuilder", "isLatin1", "()Z"⟩ : MethodName)) (z := (⟨"java/lang/AbstractStringBuilder", "isLatin1", "()Z"⟩ : MethodName)) (Wd := 0) (a := b) (argsL := []) (rest := []) W2069 d36_16 (ow199 hw) (ow200 hw) (ow202 hw) (ow201 hw) (nfS (ow202 hw)) (by decide) (Cb.ct (orw_sil l Z a0 hw hE (b) (z) h2070 W2069.old SC hz f2077 ) (ow203 hw) (ow68 hw) hE (by decide) (by decide)) f2086 (by simp) rfl (lenOf opd19 rfl) rfl (Nat.le_of_eq rfl) (by decide) (by decide) rfl fun v2082 so2083 T2078 h2080 W2079 kp2081 sp2084 q2085 => ?_
  obtain ⟨rfl, rfl⟩ := q2085
  show Go K _ T2078 19 #[.val (.ref a), .val (.ref b), .val .null, .val (.ref t), .val (.int (43 : Int32))] [(.int (0 : Int32))]
  refine gIfYes (pc' := 41) W2079 d36_19 ((if0 _ _).trans (teq rfl).1) (by decide) rfl ?_
  refine wGetS W2079 d36_41 (ow40 hw) Via.refl SC rfl fun T2087 W2088 => ?_
  refine gIfNo W2088 d36_44 ((if0 _ _).trans (feq hz).1) rfl ?_
  refine gAloadN W2088 d36_47 rfl rfl rfl ?_
  have f2089 := q9.keep kp2061 nin0
  have f2090 := f2089.keep kp2071 nin0
  have f2091 := f2090.keep kp2081 nin0
  refine wGetF W2088 d36_48 (ow282 hw) Via.refl f2091 rfl fun T2092 W2093 => ?_
  refine gIfYes (pc' := 79) W2093 d36_51 ((if0 _ _).trans (teq rfl).1) (by decide) rfl ?_
  refine gAloadN W2093 d36_79 rfl rfl rfl ?_
  refine gIconst (z := (1 : Int32)) W2093 d36_80 rfl rfl ?_
  have f2094 := q4.keep kp2061 nin0
  have f2095 := f2094.keep kp2071 nin0
  have f2096 := f2095.keep kp2081 nin0
  have f2097 := q2.keep kp2061
  have f2098 := f2097.keep kp2071
  have f2099 := f2098.keep kp2081
  refine wPutF (ty := .byte) W2093 d36_81 (ow25 hw) Via.refl (by simp) f2096 f2099 (Or.inr ⟨(ow21 hw), rfl, rfl⟩) (ow6 hw) (by decide) rfl (by decide) rfl fun T2100 h2102 W2101 wr2103 => ?_
  have f2104 := Fld.same wr2103 f2096
  refine gAloadN W2101 d36_84 rfl rfl rfl ?_
  refine gAloadN W2101 d36_85 rfl rfl rfl ?_
  refine gIconst (z := (0 : Int32)) W2101 d36_86 rfl rfl ?_
  refine gIload W2101 d36_87 rfl rfl ?_
  refine gIconst (z := (1 : Int32)) W2101 d36_89 rfl rfl ?_
  refine gIshl (z := (86 : Int32)) W2101 d36_90 (by decide) rfl ?_
  have f2105 := q10.keep kp2061 nin0
  have f2106 := f2105.keep kp2071 nin0
  have f2107 := f2106.keep kp2081 nin0
  have f2108 := f2107.other wr2103 (Ne.symm (Exa.neArv q2 q10 (hws' hw)))
  refine wStatic (y := (⟨"java/util/Arrays", "copyOfRange", "([BII)[B"⟩ : MethodName)) (Wd := 1) (argsL := [(.ref t), (.int (0 : Int32)), (.int (86 : Int32))]) (rest := [(.ref a)]) W2101 d36_91 (ow204 hw) (ow101 hw) (ow102 hw) (ow103 hw) (by decide) (Cb.ct (ors_cr l Z a0 hw hE (t) (kb) (164) (vs) (86) h2102 W2101.old f2108 hvs (by decide) (by decide) (by decide) ) (ow103 hw) (ow102 hw) hE (by decide) (by decide)) (by simp) rfl (lenOf opd17 rfl) rfl (Nat.le_of_eq rfl) (by decide) (by decide) rfl fun v2113 so2114 T2109 h2111 W2110 kp2112 sp2115 q2116 => ?_
  obtain ⟨r2117, kr2118, rfl, rfl, f2119, f2120⟩ := q2116
  show Go K _ T2109 94 #[.val (.ref a), .val (.ref b), .val .null, .val (.ref t), .val (.int (43 : Int32))] [(.ref r2117), (.ref a)]
  have f2121 := q3.keep kp2061 nin0
  have f2122 := f2121.keep kp2071 nin0
  have f2123 := f2122.keep kp2081 nin0
  have f2124 := f2123.other wr2103 (Or.inr (slot_ne (t := .array .byte) (t' := .byte) (Or.inr (ow20 hw)) (Or.inr (ow21 hw)) (by decide) (by decide) (by decide)))
  have f2125 := f2124.keep kp2112 nin0
  have f2126 := f2099.wr wr2103
  have f2127 := f2126.keep kp2112
  refine wPutF (ty := .array .byte) W2110 d36_94 (ow24 hw) Via.refl (by simp) f2125 f2127 (Or.inr ⟨(ow20 hw), rfl, rfl⟩) (ow6 hw) (by decide) rfl rfl rfl fun T2128 h2130 W2129 wr2131 => ?_
  have f2132 := Fld.same wr2131 f2125
  have f2133 := f2127.wr wr2131
  have f2134 := f2104.keep kp2112 nin0
  have f2135 := f2134.other wr2131 (Or.inr (slot_ne (t := .byte) (t' := .array .byte) (Or.inr (ow21 hw)) (Or.inr (ow20 hw)) (by decide) (by decide) (by decide)))
  have ne2136 : a ≠ r2117 := Nat.ne_of_lt (Nat.lt_of_lt_of_le f2126.lt f2119)
  have f2137 := f2120.other wr2131 (Ne.symm ne2136)
  exact wRet0 (so := []) W2129 d36_97 (by decide) (by decide) (fun _ q => nomatch q) ⟨r2117, kr2118, rfl, rfl, f2133, f2135, f2132, f2137⟩
theorem oef_orw_s1 (m_ : MethodId) (a : Addr) (b : Addr)  : (entryFrame m_ #[(.ref a), (.ref b)] 2).locals = #[.val (.ref a), .val (.ref b)] := by first | (simp [entryFrame, argsToLocals, Value.category]; done) | rfl
set_option maxRecDepth 65536 in
set_option maxHeartbeats 40000000 in
theorem orw_s1 (l : Launch) (Z : State) (a0 : Array Value) (hw : ∀ d ∈ tables_1, d.before a0 Z = true) (hE : EW Z a0 consts_1) (a : Addr) (b : Addr) (t : Addr) (kb : ClassId) (vs : List Value) (z : Int32) (h : Heap) (hO : Old Z Z.heap.size h) (SC : (Sta Z Z.heap "java/lang/String" "COMPACT_STRINGS" "Z" (.int z))) (hz : (¬ z = 0)) (q2 : Exa Z h a "java/lang/String") (q3 : Fld Z h a "java/lang/String" "value" "[B" .null) (q4 : Fld Z h a "java/lang/String" "coder" "B" (.int (0 : Int32))) (q5 : Exa Z h b "java/lang/StringBuilder") (q6 : Fld Z h b "java/lang/AbstractStringBuilder" "value" "[B" (.ref t)) (q7 : Fld Z h b "java/lang/AbstractStringBuilder" "coder" "B" (.int (1 : Int32))) (q8 : Fld Z h b "java/lang/AbstractStringBuilder" "count" "I" (.int (43 : Int32))) (q9 : Fld Z h b "java/lang/AbstractStringBuilder" "maybeLatin1" "Z" (.int (0 : Int32))) (q10 : Arv Z h t kb .byte (Int32.ofNat 164) vs (.int 0)) (hvs : (vs.length = 164)) (ge_a : Z.heap.size ≤ a) :
    Ct l Z consts_1 (⟨"java/lang/String", "<init>", "(Ljava/lang/StringBuilder;)V"⟩ : MethodName) jdk_42_method_53_code 2 (Option.none : Option Jvm.ClassFile.FieldType) ⟨4, 1, 100, 120⟩ #[(.ref a), (.ref b)] h [a] (fun rv' hp' so' => ∃ r : Addr, ∃ kr : ClassId, rv' = none ∧ so' = [] ∧ Exa Z hp' a "java/lang/String" ∧ Fld Z hp' a "java/lang/String" "coder" "B" (.int (1 : Int32)) ∧ Fld Z hp' a "java/lang/String" "value" "[B" (.ref r) ∧ Arv Z hp' r kr .byte (Int32.ofNat 86) (vs.take 86) (.int 0)) := by
  refine Ct.mk "java/lang/String" "<init>" rfl rfl (a0 := a0) (plainFor_of_name opn0) hO hE (fun x q => by simp at q; subst q; exact ge_a) ?_
  intro K T W
  rw [oef_orw_s1]
  refine gAloadN W d35_0 rfl rfl rfl ?_
  refine gAloadN W d35_1 rfl rfl rfl ?_
  refine gAconstNull W d35_2 rfl ?_
  refine wSpecial (y := (⟨"java/lang/String", "<init>", "(Ljava/lang/AbstractStringBuilder;Ljava/lang/Void;)V"⟩ : MethodName)) (Wd := 0) (a := a) (argsL := [(.ref b), .null]) (rest := []) W d35_3 rfl (ow183 hw) (ow184 hw) (ow185 hw) (by decide) (Cb.ct (orw_s2 l Z a0 hw hE (a) (b) (t) (kb) (vs) (z) h W.old SC hz q2 q3 q4 q5 q6 q7 q8 q9 q10 hvs ge_a) (ow185 hw) (ow7 hw) hE (by decide) (by decide)) (by simp) rfl (lenOf opd20 rfl) rfl (Nat.le_of_eq rfl) (by decide) (by decide) rfl fun v2142 so2143 T2138 h2140 W2139 kp2141 sp2144 q2145 => ?_
  obtain ⟨r2146, kr2147, rfl, rfl, f2148, f2149, f2150, f2151⟩ := q2145
  show Go K _ T2138 6 #[.val (.ref a), .val (.ref b)] []
  exact wRet0 (so := []) W2139 d35_6 (by decide) (by decide) (fun _ q => nomatch q) ⟨r2146, kr2147, rfl, rfl, f2148, f2149, f2150, f2151⟩
theorem oef_orw_ts (m_ : MethodId) (b : Addr)  : (entryFrame m_ #[(.ref b)] 1).locals = #[.val (.ref b)] := by first | (simp [entryFrame, argsToLocals, Value.category]; done) | rfl
set_option maxRecDepth 65536 in
set_option maxHeartbeats 40000000 in
theorem orw_ts (l : Launch) (Z : State) (a0 : Array Value) (hw : ∀ d ∈ tables_1, d.before a0 Z = true) (hE : EW Z a0 consts_1) (b : Addr) (t : Addr) (kb : ClassId) (vs : List Value) (z : Int32) (h : Heap) (hO : Old Z Z.heap.size h) (SC : (Sta Z Z.heap "java/lang/String" "COMPACT_STRINGS" "Z" (.int z))) (hz : (¬ z = 0)) (q2 : Exa Z h b "java/lang/StringBuilder") (q3 : Fld Z h b "java/lang/AbstractStringBuilder" "value" "[B" (.ref t)) (q4 : Fld Z h b "java/lang/AbstractStringBuilder" "coder" "B" (.int (1 : Int32))) (q5 : Fld Z h b "java/lang/AbstractStringBuilder" "count" "I" (.int (43 : Int32))) (q6 : Fld Z h b "java/lang/AbstractStringBuilder" "maybeLatin1" "Z" (.int (0 : Int32))) (q7 : Arv Z h t kb .byte (Int32.ofNat 164) vs (.int 0)) (hvs : (vs.length = 164))  :
    Ct l Z consts_1 (⟨"java/lang/StringBuilder", "toString", "()Ljava/lang/String;"⟩ : MethodName) jdk_67_method_42_code 1 (Option.some (Jvm.ClassFile.FieldType.object "java/lang/String")) ⟨5, 2, 104, 136⟩ #[(.ref b)] h [] (fun rv' hp' so' => ∃ s : Addr, ∃ r : Addr, ∃ kr : ClassId, rv' = some (.ref s) ∧ so' = [] ∧ Exa Z hp' s "java/lang/String" ∧ Fld Z hp' s "java/lang/String" "coder" "B" (.int (1 : Int32)) ∧ Fld Z hp' s "java/lang/String" "value" "[B" (.ref r) ∧ Arv Z hp' r kr .byte (Int32.ofNat 86) (vs.take 86) (.int 0)) := by
  refine Ct.mk "java/lang/StringBuilder" "toString" rfl rfl (a0 := a0) (plainFor_of_name opn3) hO hE (fun x q => nomatch q) ?_
  intro K T W
  rw [oef_orw_ts]
  refine wNewO W d34_0 (ow179 hw) (ow6 hw) (ow7 hw) (by decide) (by decide) rfl fun T2152 h2154 a2155 W2153 E2156 g2157 A2158 D2159  => ?_
  have f2160 : Fld Z h2154 a2155 "java/lang/String" "value" "[B" .null := D2159 (Or.inr (ow20 hw)) (ty := .array .byte) (by decide)
  have f2161 : Fld Z h2154 a2155 "java/lang/String" "coder" "B" (.int (0 : Int32)) := D2159 (Or.inr (ow21 hw)) (ty := .byte) (by decide)
  refine gDup W2153 d34_3 rfl rfl ?_
  refine gAloadN W2153 d34_4 rfl rfl rfl ?_
  have f2162 := q2.ext E2156
  have f2163 := q3.ext E2156
  have f2164 := q4.ext E2156
  have f2165 := q5.ext E2156
  have f2166 := q6.ext E2156
  have f2167 := q7.ext E2156
  refine wSpecial (y := (⟨"java/lang/String", "<init>", "(Ljava/lang/StringBuilder;)V"⟩ : MethodName)) (Wd := 1) (a := a2155) (argsL := [(.ref b)]) (rest := [(.ref a2155)]) W2153 d34_5 rfl (ow180 hw) (ow181 hw) (ow182 hw) (by decide) (Cb.ct (orw_s1 l Z a0 hw hE (a2155) (b) (t) (kb) (vs) (z) h2154 W2153.old SC hz A2158 f2160 f2161 f2162 f2163 f2164 f2165 f2166 f2167 hvs (Nat.le_trans W.old.2.1 (Nat.le_of_eq g2157.symm))) (ow182 hw) (ow7 hw) hE (by decide) (by decide)) (by simp) rfl (lenOf opd21 rfl) rfl (Nat.le_of_eq rfl) (by decide) (by decide) rfl fun v2172 so2173 T2168 h2170 W2169 kp2171 sp2174 q2175 => ?_
  obtain ⟨r2176, kr2177, rfl, rfl, f2178, f2179, f2180, f2181⟩ := q2175
  show Go K _ T2168 8 #[.val (.ref b)] [(.ref a2155)]
  exact wRetA (so := []) (t := .object "java/lang/String") W2169 d34_8 rfl rfl rfl (by decide) (by decide) (fun _ q => nomatch q) ⟨a2155, r2176, kr2177, rfl, rfl, f2178, f2179, f2180, f2181⟩
theorem opn8 : plainName "com/example/tallykeep/tallykeep/core/FileText" = true := by first | (simp [plainName, overriddenIn]; done) | decide +kernel
theorem d5_0 : decode prog_13_method_3_code 0 = .ok (.aload_n 0, 1) := by decide +kernel
theorem d5_1 : decode prog_13_method_3_code 1 = .ok (.invokevirtual 33, 3) := by decide +kernel
theorem ow30 {a0 : Array Value} {Z : State} (hw : ∀ d ∈ tables_1, d.before a0 Z = true) : (Jvm.Cond.methodLink "com/example/tallykeep/tallykeep/core/FileText" (33 : Nat) ({ cls := "java/lang/String", name := "length", desc := "()I" } : Jvm.MethodName)).before a0 Z = true := hw _ (List.mem_of_getElem? (i := 30) rfl)
theorem d5_4 : decode prog_13_method_3_code 4 = .ok (.bipush 40, 2) := by decide +kernel
theorem d5_6 : decode prog_13_method_3_code 6 = .ok (.if_icmp .gt 7, 3) := by decide +kernel
theorem d5_9 : decode prog_13_method_3_code 9 = .ok (.aload_n 0, 1) := by decide +kernel
theorem d5_10 : decode prog_13_method_3_code 10 = .ok (.goto 28, 3) := by decide +kernel
theorem d5_38 : decode prog_13_method_3_code 38 = .ok (.areturn, 1) := by decide +kernel
theorem oef_orw_sh1 (m_ : MethodId) (s : Addr)  : (entryFrame m_ #[(.ref s)] 1).locals = #[.val (.ref s)] := by first | (simp [entryFrame, argsToLocals, Value.category]; done) | rfl
set_option maxRecDepth 65536 in
set_option maxHeartbeats 40000000 in
theorem orw_sh1 (l : Launch) (Z : State) (a0 : Array Value) (hw : ∀ d ∈ tables_1, d.before a0 Z = true) (hE : EW Z a0 consts_1) (s : Addr) (cs : List Int32) (z : Int32) (h : Heap) (hO : Old Z Z.heap.size h) (SC : (Sta Z Z.heap "java/lang/String" "COMPACT_STRINGS" "Z" (.int z))) (hz : (¬ z = 0)) (q2 : Str Z h s cs) (hl : (cs.length ≤ 40))  :
    Ct l Z consts_1 (⟨"com/example/tallykeep/tallykeep/core/FileText", "shortened", "(Ljava/lang/String;)Ljava/lang/String;"⟩ : MethodName) prog_13_method_3_code 1 (Option.some (Jvm.ClassFile.FieldType.object "java/lang/String")) ⟨2, 0, 0, 30⟩ #[(.ref s)] h [] (fun rv' hp' so' => rv' = some (.ref s) ∧ so' = []) := by
  refine Ct.mk "com/example/tallykeep/tallykeep/core/FileText" "shortened" rfl rfl (a0 := a0) (plainFor_of_name opn8) hO hE (fun x q => nomatch q) ?_
  intro K T W
  rw [oef_orw_sh1]
  refine gAloadN W d5_0 rfl rfl rfl ?_
  refine wVirtual (y := (⟨"java/lang/String", "length", "()I"⟩ : MethodName)) (z := (⟨"java/lang/String", "length", "()I"⟩ : MethodName)) (Wd := 0) (a := s) (argsL := []) (rest := []) W d5_1 (ow30 hw) (ow31 hw) (ow33 hw) (ow32 hw) (nfS (ow33 hw)) (by decide) (lenPay hw hE s cs 0 q2 (SC.ext W.old.2) hz (by decide) (by decide)) q2.exa (by simp) rfl (lenOf opd12 rfl) rfl (Nat.le_of_eq rfl) (by decide) (by decide) rfl fun v2186 so2187 T2182 h2184 W2183 kp2185 sp2188 q2189 => ?_
  obtain ⟨rfl, rfl⟩ := q2189
  show Go K _ T2182 4 #[.val (.ref s)] [(.int (Int32.ofNat cs.length))]
  refine gBipush (z := (40 : Int32)) W2183 d5_4 rfl rfl ?_
  refine gIcmpNo W2183 d5_6 (flt (fun q => absurd ((ltc_ofNat (P := 40) (by decide) (by omega)).mp q) (by omega))).2.2.1 rfl ?_
  refine gAloadN W2183 d5_9 rfl rfl rfl ?_
  refine gGoto (pc' := 38) W2183 d5_10 (by decide) rfl ?_
  exact wRetA (so := []) (t := .object "java/lang/String") W2183 d5_38 rfl rfl rfl (by decide) (by decide) (fun _ q => nomatch q) ⟨rfl, rfl⟩
theorem d5_13 : decode prog_13_method_3_code 13 = .ok (.new 41, 3) := by decide +kernel
theorem ow58 {a0 : Array Value} {Z : State} (hw : ∀ d ∈ tables_1, d.before a0 Z = true) : (Jvm.Cond.classLink "com/example/tallykeep/tallykeep/core/FileText" (41 : Nat) "java/lang/StringBuilder").before a0 Z = true := hw _ (List.mem_of_getElem? (i := 58) rfl)
theorem d5_16 : decode prog_13_method_3_code 16 = .ok (.dup, 1) := by decide +kernel
theorem d5_17 : decode prog_13_method_3_code 17 = .ok (.invokespecial 43, 3) := by decide +kernel
theorem ow61 {a0 : Array Value} {Z : State} (hw : ∀ d ∈ tables_1, d.before a0 Z = true) : (Jvm.Cond.methodLink "com/example/tallykeep/tallykeep/core/FileText" (43 : Nat) ({ cls := "java/lang/StringBuilder", name := "<init>", desc := "()V" } : Jvm.MethodName)).before a0 Z = true := hw _ (List.mem_of_getElem? (i := 61) rfl)
theorem ow63 {a0 : Array Value} {Z : State} (hw : ∀ d ∈ tables_1, d.before a0 Z = true) : (Jvm.Cond.code ({ cls := "java/lang/StringBuilder", name := "<init>", desc := "()V" } : Jvm.MethodName) jdk_67_method_1_code (1 : Nat) (Option.none : Option Jvm.ClassFile.FieldType)).before a0 Z = true := hw _ (List.mem_of_getElem? (i := 63) rfl)
theorem ow62 {a0 : Array Value} {Z : State} (hw : ∀ d ∈ tables_1, d.before a0 Z = true) : (Jvm.Cond.instanceMethod ({ cls := "java/lang/StringBuilder", name := "<init>", desc := "()V" } : Jvm.MethodName)).before a0 Z = true := hw _ (List.mem_of_getElem? (i := 62) rfl)
theorem d5_20 : decode prog_13_method_3_code 20 = .ok (.aload_n 0, 1) := by decide +kernel
theorem d5_21 : decode prog_13_method_3_code 21 = .ok (.iconst 0, 1) := by decide +kernel
theorem d5_22 : decode prog_13_method_3_code 22 = .ok (.bipush 40, 2) := by decide +kernel
theorem d5_24 : decode prog_13_method_3_code 24 = .ok (.invokevirtual 44, 3) := by decide +kernel
theorem ow80 {a0 : Array Value} {Z : State} (hw : ∀ d ∈ tables_1, d.before a0 Z = true) : (Jvm.Cond.code ({ cls := "java/lang/String", name := "substring", desc := "(II)Ljava/lang/String;" } : Jvm.MethodName) jdk_42_method_92_code (5 : Nat) (Option.some (Jvm.ClassFile.FieldType.object "java/lang/String"))).before a0 Z = true := hw _ (List.mem_of_getElem? (i := 80) rfl)
theorem opd34 : parseMethodDescriptor "(II)Ljava/lang/String;" = some ⟨[.int, .int], some (.object "java/lang/String")⟩ := by decide +kernel
theorem ow76 {a0 : Array Value} {Z : State} (hw : ∀ d ∈ tables_1, d.before a0 Z = true) : (Jvm.Cond.methodLink "com/example/tallykeep/tallykeep/core/FileText" (44 : Nat) ({ cls := "java/lang/String", name := "substring", desc := "(II)Ljava/lang/String;" } : Jvm.MethodName)).before a0 Z = true := hw _ (List.mem_of_getElem? (i := 76) rfl)
theorem ow77 {a0 : Array Value} {Z : State} (hw : ∀ d ∈ tables_1, d.before a0 Z = true) : (Jvm.Cond.declares ({ cls := "java/lang/String", name := "substring", desc := "(II)Ljava/lang/String;" } : Jvm.MethodName)).before a0 Z = true := hw _ (List.mem_of_getElem? (i := 77) rfl)
theorem ow79 {a0 : Array Value} {Z : State} (hw : ∀ d ∈ tables_1, d.before a0 Z = true) : (Jvm.Cond.selects "java/lang/String" ({ cls := "java/lang/String", name := "substring", desc := "(II)Ljava/lang/String;" } : Jvm.MethodName) ({ cls := "java/lang/String", name := "substring", desc := "(II)Ljava/lang/String;" } : Jvm.MethodName)).before a0 Z = true := hw _ (List.mem_of_getElem? (i := 79) rfl)
theorem ow78 {a0 : Array Value} {Z : State} (hw : ∀ d ∈ tables_1, d.before a0 Z = true) : (Jvm.Cond.instanceMethod ({ cls := "java/lang/String", name := "substring", desc := "(II)Ljava/lang/String;" } : Jvm.MethodName)).before a0 Z = true := hw _ (List.mem_of_getElem? (i := 78) rfl)
theorem d5_27 : decode prog_13_method_3_code 27 = .ok (.invokevirtual 48, 3) := by decide +kernel
theorem ow125 {a0 : Array Value} {Z : State} (hw : ∀ d ∈ tables_1, d.before a0 Z = true) : (Jvm.Cond.code ({ cls := "java/lang/StringBuilder", name := "append", desc := "(Ljava/lang/String;)Ljava/lang/StringBuilder;" } : Jvm.MethodName) jdk_67_method_7_code (2 : Nat) (Option.some (Jvm.ClassFile.FieldType.object "java/lang/StringBuilder"))).before a0 Z = true := hw _ (List.mem_of_getElem? (i := 125) rfl)
theorem opd35 : parseMethodDescriptor "(Ljava/lang/String;)Ljava/lang/StringBuilder;" = some ⟨[.object "java/lang/String"], some (.object "java/lang/StringBuilder")⟩ := by decide +kernel
theorem ow121 {a0 : Array Value} {Z : State} (hw : ∀ d ∈ tables_1, d.before a0 Z = true) : (Jvm.Cond.methodLink "com/example/tallykeep/tallykeep/core/FileText" (48 : Nat) ({ cls := "java/lang/StringBuilder", name := "append", desc := "(Ljava/lang/String;)Ljava/lang/StringBuilder;" } : Jvm.MethodName)).before a0 Z = true := hw _ (List.mem_of_getElem? (i := 121) rfl)
theorem ow122 {a0 : Array Value} {Z : State} (hw : ∀ d ∈ tables_1, d.before a0 Z = true) : (Jvm.Cond.declares ({ cls := "java/lang/StringBuilder", name := "append", desc := "(Ljava/lang/String;)Ljava/lang/StringBuilder;" } : Jvm.MethodName)).before a0 Z = true := hw _ (List.mem_of_getElem? (i := 122) rfl)
theorem ow124 {a0 : Array Value} {Z : State} (hw : ∀ d ∈ tables_1, d.before a0 Z = true) : (Jvm.Cond.selects "java/lang/StringBuilder" ({ cls := "java/lang/StringBuilder", name := "append", desc := "(Ljava/lang/String;)Ljava/lang/StringBuilder;" } : Jvm.MethodName) ({ cls := "java/lang/StringBuilder", name := "append", desc := "(Ljava/lang/String;)Ljava/lang/StringBuilder;" } : Jvm.MethodName)).before a0 Z = true := hw _ (List.mem_of_getElem? (i := 124) rfl)
theorem ow123 {a0 : Array Value} {Z : State} (hw : ∀ d ∈ tables_1, d.before a0 Z = true) : (Jvm.Cond.instanceMethod ({ cls := "java/lang/StringBuilder", name := "append", desc := "(Ljava/lang/String;)Ljava/lang/StringBuilder;" } : Jvm.MethodName)).before a0 Z = true := hw _ (List.mem_of_getElem? (i := 123) rfl)
theorem d5_30 : decode prog_13_method_3_code 30 = .ok (.ldc 52, 2) := by decide +kernel
theorem ow173 {a0 : Array Value} {Z : State} (hw : ∀ d ∈ tables_1, d.before a0 Z = true) : (Jvm.Cond.stringLink "com/example/tallykeep/tallykeep/core/FileText" (52 : Nat) "...").before a0 Z = true := hw _ (List.mem_of_getElem? (i := 173) rfl)
theorem d5_32 : decode prog_13_method_3_code 32 = .ok (.invokevirtual 48, 3) := by decide +kernel
theorem d5_35 : decode prog_13_method_3_code 35 = .ok (.invokevirtual 54, 3) := by decide +kernel
theorem ow178 {a0 : Array Value} {Z : State} (hw : ∀ d ∈ tables_1, d.before a0 Z = true) : (Jvm.Cond.code ({ cls := "java/lang/StringBuilder", name := "toString", desc := "()Ljava/lang/String;" } : Jvm.MethodName) jdk_67_method_42_code (1 : Nat) (Option.some (Jvm.ClassFile.FieldType.object "java/lang/String"))).before a0 Z = true := hw _ (List.mem_of_getElem? (i := 178) rfl)
theorem opd36 : parseMethodDescriptor "()Ljava/lang/String;" = some ⟨[], some (.object "java/lang/String")⟩ := by decide +kernel
theorem ow174 {a0 : Array Value} {Z : State} (hw : ∀ d ∈ tables_1, d.before a0 Z = true) : (Jvm.Cond.methodLink "com/example/tallykeep/tallykeep/core/FileText" (54 : Nat) ({ cls := "java/lang/StringBuilder", name := "toString", desc := "()Ljava/lang/String;" } : Jvm.MethodName)).before a0 Z = true := hw _ (List.mem_of_getElem? (i := 174) rfl)
theorem ow175 {a0 : Array Value} {Z : State} (hw : ∀ d ∈ tables_1, d.before a0 Z = true) : (Jvm.Cond.declares ({ cls := "java/lang/StringBuilder", name := "toString", desc := "()Ljava/lang/String;" } : Jvm.MethodName)).before a0 Z = true := hw _ (List.mem_of_getElem? (i := 175) rfl)
theorem ow177 {a0 : Array Value} {Z : State} (hw : ∀ d ∈ tables_1, d.before a0 Z = true) : (Jvm.Cond.selects "java/lang/StringBuilder" ({ cls := "java/lang/StringBuilder", name := "toString", desc := "()Ljava/lang/String;" } : Jvm.MethodName) ({ cls := "java/lang/StringBuilder", name := "toString", desc := "()Ljava/lang/String;" } : Jvm.MethodName)).before a0 Z = true := hw _ (List.mem_of_getElem? (i := 177) rfl)
theorem ow176 {a0 : Array Value} {Z : State} (hw : ∀ d ∈ tables_1, d.before a0 Z = true) : (Jvm.Cond.instanceMethod ({ cls := "java/lang/StringBuilder", name := "toString", desc := "()Ljava/lang/String;" } : Jvm.MethodName)).before a0 Z = true := hw _ (List.mem_of_getElem? (i := 176) rfl)
theorem oef_orw_sh2 (m_ : MethodId) (s : Addr)  : (entryFrame m_ #[(.ref s)] 1).locals = #[.val (.ref s)] := by first | (simp [entryFrame, argsToLocals, Value.category]; done) | rfl
set_option maxRecDepth 65536 in
set_option maxHeartbeats 40000000 in
theorem orw_sh2 (l : Launch) (Z : State) (a0 : Array Value) (hw : ∀ d ∈ tables_1, d.before a0 Z = true) (hE : EW Z a0 consts_1) (s : Addr) (cs : List Int32) (z : Int32) (fm : Value) (h : Heap) (hO : Old Z Z.heap.size h) (SC : (Sta Z Z.heap "java/lang/String" "COMPACT_STRINGS" "Z" (.int z))) (hz : (¬ z = 0)) (SA : (Sta Z Z.heap "java/lang/StringUTF16" "$assertionsDisabled" "Z" (.int (1 : Int32)))) (SH : (Sta Z Z.heap "java/lang/StringUTF16" "HI_BYTE_SHIFT" "I" (.int (0 : Int32)))) (SL : (Sta Z Z.heap "java/lang/StringUTF16" "LO_BYTE_SHIFT" "I" (.int (8 : Int32)))) (SF : (Sta Z Z.heap "jdk/internal/util/Preconditions" "SIOOBE_FORMATTER" "Ljava/util/function/BiFunction;" fm)) (rf : (fm.isRef = true)) (q7 : Str Z h s cs) (h80 : (cs.length ≤ 80)) (h40 : (40 < cs.length))  :
    Ct l Z consts_1 (⟨"com/example/tallykeep/tallykeep/core/FileText", "shortened", "(Ljava/lang/String;)Ljava/lang/String;"⟩ : MethodName) prog_13_method_3_code 1 (Option.some (Jvm.ClassFile.FieldType.object "java/lang/String")) ⟨11, 16, 900, 180⟩ #[(.ref s)] h [] (fun rv' hp' so' => ∃ r : Addr, rv' = some (.ref r) ∧ so' = [] ∧ Str Z hp' r (cs.take 40 ++ dots)) := by
  refine Ct.mk "com/example/tallykeep/tallykeep/core/FileText" "shortened" rfl rfl (a0 := a0) (plainFor_of_name opn8) hO hE (fun x q => nomatch q) ?_
  intro K T W
  rw [oef_orw_sh2]
  have hl40 : (cs.take 40).length = 40 := by rw [List.length_take]; omega
  have hl43 : (cs.take 40 ++ dots).length = 43 := by rw [List.length_append, hl40]; rfl
  refine gAloadN W d5_0 rfl rfl rfl ?_
  refine wVirtual (y := (⟨"java/lang/String", "length", "()I"⟩ : MethodName)) (z := (⟨"java/lang/String", "length", "()I"⟩ : MethodName)) (Wd := 0) (a := s) (argsL := []) (rest := []) W d5_1 (ow30 hw) (ow31 hw) (ow33 hw) (ow32 hw) (nfS (ow33 hw)) (by decide) (lenPay hw hE s cs 0 q7 (SC.ext W.old.2) hz (by decide) (by decide)) q7.exa (by simp) rfl (lenOf opd12 rfl) rfl (Nat.le_of_eq rfl) (by decide) (by decide) rfl fun v2194 so2195 T2190 h2192 W2191 kp2193 sp2196 q2197 => ?_
  obtain ⟨rfl, rfl⟩ := q2197
  show Go K _ T2190 4 #[.val (.ref s)] [(.int (Int32.ofNat cs.length))]
  refine gBipush (z := (40 : Int32)) W2191 d5_4 rfl rfl ?_
  refine gIcmpYes (pc' := 13) W2191 d5_6 (tlt ((ltc_ofNat (P := 40) (by decide) (by omega)).mpr h40)).2.2.1 (by decide) rfl ?_
  refine wNewO W2191 d5_13 (ow58 hw) (ow59 hw) (ow60 hw) (by decide) (by decide) rfl fun T2198 h2200 a2201 W2199 E2202 g2203 A2204 D2205  => ?_
  have f2206 : Fld Z h2200 a2201 "java/lang/AbstractStringBuilder" "value" "[B" .null := D2205 (Or.inl (ow73 hw)) (ty := .array .byte) (by decide)
  have f2207 : Fld Z h2200 a2201 "java/lang/AbstractStringBuilder" "coder" "B" (.int (0 : Int32)) := D2205 (Or.inl (ow75 hw)) (ty := .byte) (by decide)
  have f2208 : Fld Z h2200 a2201 "java/lang/AbstractStringBuilder" "count" "I" (.int (0 : Int32)) := D2205 (Or.inl (ow133 hw)) (ty := .int) (by decide)
  have f2209 : Fld Z h2200 a2201 "java/lang/AbstractStringBuilder" "maybeLatin1" "Z" (.int (0 : Int32)) := D2205 (Or.inl (ow283 hw)) (ty := .boolean) (by decide)
  refine gDup W2199 d5_16 rfl rfl ?_
  refine wSpecial (y := (⟨"java/lang/StringBuilder", "<init>", "()V"⟩ : MethodName)) (Wd := 1) (a := a2201) (argsL := []) (rest := [(.ref a2201)]) W2199 d5_17 rfl (ow61 hw) (ow62 hw) (ow63 hw) (by decide) (Cb.ct (ors_i0 l Z a0 hw hE (a2201) (z) h2200 W2199.old SC hz A2204 f2206 f2207 f2208 f2209 (Nat.le_trans W2191.old.2.1 (Nat.le_of_eq g2203.symm))) (ow63 hw) (ow60 hw) hE (by decide) (by decide)) (by simp) rfl (lenOf opd33 rfl) rfl (Nat.le_of_eq rfl) (by decide) (by decide) rfl fun v2214 so2215 T2210 h2212 W2211 kp2213 sp2216 q2217 => ?_
  obtain ⟨t2218, kb2219, rfl, rfl, f2220, f2221, f2222, f2223, f2224, f2225, f2226, f2227⟩ := q2217
  show Go K _ T2210 20 #[.val (.ref s)] [(.ref a2201)]
  have f2228 : Arv Z h2212 t2218 kb2219 .byte (Int32.ofNat 16) (List.replicate 16 (Value.int 0)) (.int 0) := f2226
  refine gAloadN W2211 d5_20 rfl rfl rfl ?_
  refine gIconst (z := (0 : Int32)) W2211 d5_21 rfl rfl ?_
  refine gBipush (z := (40 : Int32)) W2211 d5_22 rfl rfl ?_
  have f2229 := q7.keep kp2193 nin0 (a0 := a0) alln
  have f2230 := f2229.ext E2202
  have f2232 := q7.exa.keep kp2193
  have ne2231 : s ≠ a2201 := Nat.ne_of_lt (Nat.lt_of_lt_of_le f2232.lt (Nat.le_of_eq g2203.symm))
  have f2233 := f2230.keep kp2213 (ninS ne2231 nin0) (a0 := a0) (all1 ⟨_, _, A2204, (ow59 hw)⟩ alln)
  have f2242 := f2232.ext E2202
  have f2243 := f2242.keep kp2213
  refine wVirtual (y := (⟨"java/lang/String", "substring", "(II)Ljava/lang/String;"⟩ : MethodName)) (z := (⟨"java/lang/String", "substring", "(II)Ljava/lang/String;"⟩ : MethodName)) (Wd := 1) (a := s) (argsL := [(.int (0 : Int32)), (.int (40 : Int32))]) (rest := [(.ref a2201)]) W2211 d5_24 (ow76 hw) (ow77 hw) (ow79 hw) (ow78 hw) (nfS (ow79 hw)) (by decide) (Cb.ct (orw_sub l Z a0 hw hE (s) (cs) (z) (fm) h2212 W2211.old SC hz SA SH SL SF rf f2233 h80 h40 ) (ow80 hw) (ow7 hw) hE (by decide) (by decide)) f2243 (by simp) rfl (lenOf opd34 rfl) rfl (Nat.le_of_eq rfl) (by decide) (by decide) rfl fun v2238 so2239 T2234 h2236 W2235 kp2237 sp2240 q2241 => ?_
  obtain ⟨t2244, rfl, rfl, f2245⟩ := q2241
  show Go K _ T2234 27 #[.val (.ref s)] [(.ref t2244), (.ref a2201)]
  obtain ⟨u2246, k2247, cd2248, N2249, us2250, E2251, f2252, f2253, A2254, ho2255, hs2256, hk2257⟩ := f2245
  rcases ho2255 with ⟨rfl, rfl, rfl, hb2258⟩ | ⟨rfl, rfl, rfl, hb2258⟩
  · have f2259 : Arv Z h2236 u2246 k2247 .byte (Int32.ofNat 40) ((cs.take 40).map (fun c => Value.int (StrChars.lo8 c))) (.int 0) := by have q := A2254; rw [hl40] at q; exact q
    have hus : (((cs.take 40).map (fun c => Value.int (StrChars.lo8 c)))).length = 40 := (by rw [List.length_map, hl40])
    have f2260 := f2221.keep kp2237
    have f2261 := f2222.keep kp2237 nin0
    have f2262 := f2223.keep kp2237 nin0
    have f2263 := f2224.keep kp2237 nin0
    have f2264 := f2225.keep kp2237 nin0
    have f2265 := f2228.keep kp2237 nin0
    refine wVirtual (y := (⟨"java/lang/StringBuilder", "append", "(Ljava/lang/String;)Ljava/lang/StringBuilder;"⟩ : MethodName)) (z := (⟨"java/lang/StringBuilder", "append", "(Ljava/lang/String;)Ljava/lang/StringBuilder;"⟩ : MethodName)) (Wd := 0) (a := a2201) (argsL := [(.ref t2244)]) (rest := []) W2235 d5_27 (ow121 hw) (ow122 hw) (ow124 hw) (ow123 hw) (nfS (ow124 hw)) (by decide) (Cb.ct (orw_ap1Lb l Z a0 hw hE (a2201) (t2218) (kb2219) ((List.replicate 16 (Value.int 0))) (t2244) (u2246) (k2247) (((cs.take 40).map (fun c => Value.int (StrChars.lo8 c)))) (z) h2236 W2235.old SC hz f2260 f2261 f2262 f2263 f2264 f2265 E2251 f2252 f2253 f2259 hus (by simp) (Nat.le_trans W2191.old.2.1 (Nat.le_of_eq g2203.symm))) (ow125 hw) (ow60 hw) hE (by decide) (by decide)) f2260 (by simp) rfl (lenOf opd35 rfl) rfl (Nat.le_of_eq rfl) (by decide) (by decide) rfl fun v2270 so2271 T2266 h2268 W2267 kp2269 sp2272 q2273 => ?_
    obtain ⟨r2274, kr2275, rfl, rfl, f2276, f2277, f2278, f2279, f2280, f2281, f2282⟩ := q2273
    show Go K _ T2266 30 #[.val (.ref s)] [(.ref a2201)]
    have f2283 : Arv Z h2268 r2274 kr2275 .byte (Int32.ofNat 40) ((cs.take 40).map (fun c => Value.int (StrChars.lo8 c))) (.int 0) := arvL f2282 (put40 hus)
    refine wLdcS (vs := [(.int 46), (.int 46), (.int 46)]) (z := 3) (n := 12) W2267 d5_30 (ow173 hw) (owS hw) hE (by decide) (by decide) (by decide) (by decide) (by decide) (by decide) (by decide) (by decide) rfl fun T2284 h2286 a2287 t2288 k2289 W2285 E2290 A2291 f2292 f2293 f2294 ne2295 => ?_
    have f2296 := f2277.ext E2290
    have f2297 := f2278.ext E2290
    have f2298 := f2279.ext E2290
    have f2299 := f2280.ext E2290
    have f2300 := f2281.ext E2290
    have f2301 := f2283.ext E2290
    refine wVirtual (y := (⟨"java/lang/StringBuilder", "append", "(Ljava/lang/String;)Ljava/lang/StringBuilder;"⟩ : MethodName)) (z := (⟨"java/lang/StringBuilder", "append", "(Ljava/lang/String;)Ljava/lang/StringBuilder;"⟩ : MethodName)) (Wd := 0) (a := a2201) (argsL := [(.ref a2287)]) (rest := []) W2285 d5_32 (ow121 hw) (ow122 hw) (ow124 hw) (ow123 hw) (nfS (ow124 hw)) (by decide) (Cb.ct (orw_ap2Lb l Z a0 hw hE (a2201) (r2274) (kr2275) (((cs.take 40).map (fun c => Value.int (StrChars.lo8 c)))) (a2287) (t2288) (k2289) ([Value.int 46, Value.int 46, Value.int 46]) (z) h2286 W2285.old SC hz f2296 f2297 f2298 f2299 f2300 f2301 A2291 f2293 f2292 f2294 rfl hus (Nat.le_trans W2191.old.2.1 (Nat.le_of_eq g2203.symm))) (ow125 hw) (ow60 hw) hE (by decide) (by decide)) f2296 (by simp) rfl (lenOf opd35 rfl) rfl (Nat.le_of_eq rfl) (by decide) (by decide) rfl fun v2306 so2307 T2302 h2304 W2303 kp2305 sp2308 q2309 => ?_
    obtain ⟨r2310, kr2311, rfl, rfl, f2312, f2313, f2314, f2315, f2316, f2317, f2318⟩ := q2309
    show Go K _ T2302 35 #[.val (.ref s)] [(.ref a2201)]
    refine wVirtual (y := (⟨"java/lang/StringBuilder", "toString", "()Ljava/lang/String;"⟩ : MethodName)) (z := (⟨"java/lang/StringBuilder", "toString", "()Ljava/lang/String;"⟩ : MethodName)) (Wd := 0) (a := a2201) (argsL := []) (rest := []) W2303 d5_35 (ow174 hw) (ow175 hw) (ow177 hw) (ow176 hw) (nfS (ow177 hw)) (by decide) (Cb.ct (ors_ts l Z a0 hw hE (a2201) (r2310) (kr2311) (82) (((((cs.take 40).map (fun c => Value.int (StrChars.lo8 c))) ++ List.replicate 42 (Value.int 0)).take 40 ++ [Value.int 46, Value.int 46, Value.int 46] ++ (((cs.take 40).map (fun c => Value.int (StrChars.lo8 c))) ++ List.replicate 42 (Value.int 0)).drop (40 + 3))) (43) (z) h2304 W2303.old SC hz f2313 f2314 f2315 f2316 f2318 (put43_len hus) (by decide) (by decide) (by decide) ) (ow178 hw) (ow60 hw) hE (by decide) (by decide)) f2313 (by simp) rfl (lenOf opd36 rfl) rfl (Nat.le_of_eq rfl) (by decide) (by decide) rfl fun v2323 so2324 T2319 h2321 W2320 kp2322 sp2325 q2326 => ?_
    obtain ⟨s2327, r2328, kr2329, rfl, rfl, f2330, f2331, f2332, f2333⟩ := q2326
    show Go K _ T2319 38 #[.val (.ref s)] [(.ref s2327)]
    have f2334 : Arv Z h2321 r2328 kr2329 .byte (Int32.ofNat 43) ((cs.take 40 ++ dots).map (fun c => Value.int (StrChars.lo8 c))) (.int 0) := arvL f2333 ((tailL hus).trans (dotsL _).symm)
    have f2335 : Str Z h2321 s2327 (cs.take 40 ++ dots) := ⟨r2328, kr2329, 0, _, _, f2330, f2332, f2331, f2334, Or.inl ⟨rfl, by rw [hl43] <;> rfl, rfl, (app255 hb2258)⟩, (app16 hs2256), by rw [hl43] <;> decide⟩
    exact wRetA (so := []) (t := .object "java/lang/String") W2320 d5_38 rfl rfl rfl (by decide) (by decide) (fun _ q => nomatch q) ⟨s2327, rfl, rfl, f2335⟩
  · have f2336 : Arv Z h2236 u2246 k2247 .byte (Int32.ofNat 80) (StrChars.Road.wideBytes (cs.take 40)) (.int 0) := by have q := A2254; rw [hl40] at q; exact q
    have hus : ((StrChars.Road.wideBytes (cs.take 40))).length = 80 := (by rw [wide_len, hl40])
    have f2337 := f2221.keep kp2237
    have f2338 := f2222.keep kp2237 nin0
    have f2339 := f2223.keep kp2237 nin0
    have f2340 := f2224.keep kp2237 nin0
    have f2341 := f2225.keep kp2237 nin0
    have f2342 := f2228.keep kp2237 nin0
    refine wVirtual (y := (⟨"java/lang/StringBuilder", "append", "(Ljava/lang/String;)Ljava/lang/StringBuilder;"⟩ : MethodName)) (z := (⟨"java/lang/StringBuilder", "append", "(Ljava/lang/String;)Ljava/lang/StringBuilder;"⟩ : MethodName)) (Wd := 0) (a := a2201) (argsL := [(.ref t2244)]) (rest := []) W2235 d5_27 (ow121 hw) (ow122 hw) (ow124 hw) (ow123 hw) (nfS (ow124 hw)) (by decide) (Cb.ct (orw_ap1Wb l Z a0 hw hE (a2201) (t2218) (kb2219) ((List.replicate 16 (Value.int 0))) (t2244) (u2246) (k2247) ((StrChars.Road.wideBytes (cs.take 40))) (z) (fm) h2236 W2235.old SC hz SF rf f2337 f2338 f2339 f2340 f2341 f2342 E2251 f2252 f2253 f2336 hus (by simp) (Nat.le_trans W2191.old.2.1 (Nat.le_of_eq g2203.symm))) (ow125 hw) (ow60 hw) hE (by decide) (by decide)) f2337 (by simp) rfl (lenOf opd35 rfl) rfl (Nat.le_of_eq rfl) (by decide) (by decide) rfl fun v2347 so2348 T2343 h2345 W2344 kp2346 sp2349 q2350 => ?_
    obtain ⟨r2351, kr2352, rfl, rfl, f2353, f2354, f2355, f2356, f2357, f2358, f2359⟩ := q2350
    show Go K _ T2343 30 #[.val (.ref s)] [(.ref a2201)]
    refine wLdcS (vs := [(.int 46), (.int 46), (.int 46)]) (z := 3) (n := 12) W2344 d5_30 (ow173 hw) (owS hw) hE (by decide) (by decide) (by decide) (by decide) (by decide) (by decide) (by decide) (by decide) rfl fun T2360 h2362 a2363 t2364 k2365 W2361 E2366 A2367 f2368 f2369 f2370 ne2371 => ?_
    have f2372 := f2354.ext E2366
    have f2373 := f2355.ext E2366
    have f2374 := f2356.ext E2366
    have f2375 := f2357.ext E2366
    have f2376 := f2358.ext E2366
    have f2377 := f2359.ext E2366
    refine wVirtual (y := (⟨"java/lang/StringBuilder", "append", "(Ljava/lang/String;)Ljava/lang/StringBuilder;"⟩ : MethodName)) (z := (⟨"java/lang/StringBuilder", "append", "(Ljava/lang/String;)Ljava/lang/StringBuilder;"⟩ : MethodName)) (Wd := 0) (a := a2201) (argsL := [(.ref a2363)]) (rest := []) W2361 d5_32 (ow121 hw) (ow122 hw) (ow124 hw) (ow123 hw) (nfS (ow124 hw)) (by decide) (Cb.ct (orw_ap2Wb l Z a0 hw hE (a2201) (r2351) (kr2352) ((StrChars.Road.wideBytes (cs.take 40))) (a2363) (t2364) (k2365) (z) (fm) h2362 W2361.old SC hz SA SH SL SF rf f2372 f2373 f2374 f2375 f2376 f2377 A2367 f2369 f2368 f2370 hus (Nat.le_trans W2191.old.2.1 (Nat.le_of_eq g2203.symm))) (ow125 hw) (ow60 hw) hE (by decide) (by decide)) f2372 (by simp) rfl (lenOf opd35 rfl) rfl (Nat.le_of_eq rfl) (by decide) (by decide) rfl fun v2382 so2383 T2378 h2380 W2379 kp2381 sp2384 q2385 => ?_
    obtain ⟨r2386, kr2387, rfl, rfl, f2388, f2389, f2390, f2391, f2392, f2393, f2394⟩ := q2385
    show Go K _ T2378 35 #[.val (.ref s)] [(.ref a2201)]
    refine wVirtual (y := (⟨"java/lang/StringBuilder", "toString", "()Ljava/lang/String;"⟩ : MethodName)) (z := (⟨"java/lang/StringBuilder", "toString", "()Ljava/lang/String;"⟩ : MethodName)) (Wd := 0) (a := a2201) (argsL := []) (rest := []) W2379 d5_35 (ow174 hw) (ow175 hw) (ow177 hw) (ow176 hw) (nfS (ow177 hw)) (by decide) (Cb.ct (orw_ts l Z a0 hw hE (a2201) (r2386) (kr2387) (((((((((StrChars.Road.wideBytes (cs.take 40)) ++ List.replicate 84 (Value.int 0)).set (2 * 40) (.int (StrChars.lo8 46))).set (2 * 40 + 1) (.int (StrChars.hi8 46))).set (2 * 41) (.int (StrChars.lo8 46))).set (2 * 41 + 1) (.int (StrChars.hi8 46))).set (2 * 42) (.int (StrChars.lo8 46))).set (2 * 42 + 1) (.int (StrChars.hi8 46)))) (z) h2380 W2379.old SC hz f2389 f2390 f2391 f2392 f2393 f2394 (putW_len hus) ) (ow178 hw) (ow60 hw) hE (by decide) (by decide)) f2389 (by simp) rfl (lenOf opd36 rfl) rfl (Nat.le_of_eq rfl) (by decide) (by decide) rfl fun v2399 so2400 T2395 h2397 W2396 kp2398 sp2401 q2402 => ?_
    obtain ⟨s2403, r2404, kr2405, rfl, rfl, f2406, f2407, f2408, f2409⟩ := q2402
    show Go K _ T2395 38 #[.val (.ref s)] [(.ref s2403)]
    have f2410 : Arv Z h2397 r2404 kr2405 .byte (Int32.ofNat 86) (StrChars.Road.wideBytes (cs.take 40 ++ dots)) (.int 0) := arvL f2409 ((tailW hus).trans (dotsW _).symm)
    have f2411 : Str Z h2397 s2403 (cs.take 40 ++ dots) := ⟨r2404, kr2405, 1, _, _, f2406, f2408, f2407, f2410, Or.inr ⟨rfl, by rw [hl43] <;> rfl, rfl, (appX hb2258)⟩, (app16 hs2256), by rw [hl43] <;> decide⟩
    exact wRetA (so := []) (t := .object "java/lang/String") W2396 d5_38 rfl rfl rfl (by decide) (by decide) (fun _ q => nomatch q) ⟨s2403, rfl, rfl, f2411⟩
-- CUT
theorem d42_0 : decode jdk_43_method_2_code 0 = .ok (.iload_n 1, 1) := by decide +kernel
theorem d42_1 : decode jdk_43_method_2_code 1 = .ok (.aload_n 0, 1) := by decide +kernel
theorem d42_2 : decode jdk_43_method_2_code 2 = .ok (.arraylength, 1) := by decide +kernel
theorem d42_3 : decode jdk_43_method_2_code 3 = .ok (.invokestatic 9, 3) := by decide +kernel
theorem ow214 {a0 : Array Value} {Z : State} (hw : ∀ d ∈ tables_1, d.before a0 Z = true) : (Jvm.Cond.methodLink "java/lang/StringLatin1" (9 : Nat) ({ cls := "java/lang/String", name := "checkIndex", desc := "(II)V" } : Jvm.MethodName)).before a0 Z = true := hw _ (List.mem_of_getElem? (i := 214) rfl)
theorem ow216 {a0 : Array Value} {Z : State} (hw : ∀ d ∈ tables_1, d.before a0 Z = true) : (Jvm.Cond.code ({ cls := "java/lang/String", name := "checkIndex", desc := "(II)V" } : Jvm.MethodName) jdk_42_method_155_code (2 : Nat) (Option.none : Option Jvm.ClassFile.FieldType)).before a0 Z = true := hw _ (List.mem_of_getElem? (i := 216) rfl)
theorem ow215 {a0 : Array Value} {Z : State} (hw : ∀ d ∈ tables_1, d.before a0 Z = true) : (Jvm.Cond.static ({ cls := "java/lang/String", name := "checkIndex", desc := "(II)V" } : Jvm.MethodName)).before a0 Z = true := hw _ (List.mem_of_getElem? (i := 215) rfl)
theorem d42_6 : decode jdk_43_method_2_code 6 = .ok (.aload_n 0, 1) := by decide +kernel
theorem d42_7 : decode jdk_43_method_2_code 7 = .ok (.iload_n 1, 1) := by decide +kernel
theorem d42_8 : decode jdk_43_method_2_code 8 = .ok (.baload, 1) := by decide +kernel
theorem d42_9 : decode jdk_43_method_2_code 9 = .ok (.sipush 255, 3) := by decide +kernel
theorem d42_12 : decode jdk_43_method_2_code 12 = .ok (.iand, 1) := by decide +kernel
theorem d42_13 : decode jdk_43_method_2_code 13 = .ok (.i2c, 1) := by decide +kernel
theorem d42_14 : decode jdk_43_method_2_code 14 = .ok (.ireturn, 1) := by decide +kernel
theorem oef_orw_lcL (m_ : MethodId) (u : Addr) (y0_ : Int32)  : (entryFrame m_ #[(.ref u), (.int y0_)] 2).locals = #[.val (.ref u), .val (.int y0_)] := by first | (simp [entryFrame, argsToLocals, Value.category]; done) | rfl
set_option maxRecDepth 65536 in
set_option maxHeartbeats 40000000 in
theorem orw_lcL (l : Launch) (Z : State) (a0 : Array Value) (hw : ∀ d ∈ tables_1, d.before a0 Z = true) (hE : EW Z a0 consts_1) (u : Addr) (ku : ClassId) (cs : List Int32) (k : Nat) (fm : Value) (h : Heap) (hO : Old Z Z.heap.size h) (SF : (Sta Z Z.heap "jdk/internal/util/Preconditions" "SIOOBE_FORMATTER" "Ljava/util/function/BiFunction;" fm)) (rf : (fm.isRef = true)) (q2 : Arv Z h u ku .byte (Int32.ofNat cs.length) (cs.map (fun c => Value.int (StrChars.lo8 c))) (.int 0)) (hk : (k < cs.length)) (h4 : (cs.length ≤ 4000)) (h16 : (∀ c ∈ cs, ¬ c < 0 ∧ ¬ (65535 : Int32) < c)) (hb : (∀ c ∈ cs, ¬ 255 < c))  :
    Ct l Z consts_1 (⟨"java/lang/StringLatin1", "charAt", "([BI)C"⟩ : MethodName) jdk_43_method_2_code 2 (Option.some Jvm.ClassFile.FieldType.char) ⟨2, 0, 0, 34⟩ #[(.ref u), (.int (Int32.ofNat k))] h [] (fun rv' hp' so' => rv' = some (.int (cs.getD k 0)) ∧ so' = []) := by
  refine Ct.mk "java/lang/StringLatin1" "charAt" rfl rfl (a0 := a0) (plainFor_of_name opn6) hO hE (fun x q => nomatch q) ?_
  intro K T W
  rw [oef_orw_lcL]
  refine gIloadN W d42_0 rfl rfl ?_
  refine gAloadN W d42_1 rfl rfl rfl ?_
  refine wLen W d42_2 q2 rfl ?_
  refine wStatic (y := (⟨"java/lang/String", "checkIndex", "(II)V"⟩ : MethodName)) (Wd := 0) (argsL := [(.int (Int32.ofNat k)), (.int (Int32.ofNat cs.length))]) (rest := []) W d42_3 (ow214 hw) (ow215 hw) (ow7 hw) (ow216 hw) (by decide) (Cb.ct (orw_ck l Z a0 hw hE (k) (cs.length) (fm) h W.old hk (by omega) SF rf ) (ow216 hw) (ow7 hw) hE (by decide) (by decide)) (by simp) rfl (lenOf opd15 rfl) rfl (Nat.le_of_eq rfl) (by decide) (by decide) rfl fun v2416 so2417 T2412 h2414 W2413 kp2415 sp2418 q2419 => ?_
  obtain ⟨rfl, rfl⟩ := q2419
  show Go K _ T2412 6 #[.val (.ref u), .val (.int (Int32.ofNat k))] []
  refine gAloadN W2413 d42_6 rfl rfl rfl ?_
  refine gIloadN W2413 d42_7 rfl rfl ?_
  have f2420 := q2.keep kp2415 nin0
  refine wLdB (v := (.int (StrChars.lo8 (cs.getD k 0)))) W2413 d42_8 f2420 (ofNat_inb hk (by omega)) (by rw [ofNat_clamp (by omega)]; exact low_at' _ _ _ hk) rfl ?_
  refine gSipush (z := (255 : Int32)) W2413 d42_9 rfl rfl ?_
  refine gIand (z := (cs.getD k 0)) W2413 d42_12 (lo8_mask (b8_mem hb h16 hk)) rfl ?_
  refine gI2C (z := (cs.getD k 0)) W2413 d42_13 (b8_mem hb h16 hk).i2c' rfl ?_
  exact wRetI (so := []) (t := .char) W2413 d42_14 (by simp) (by show Value.int (nar .char (cs.getD k 0)) = _; rw [B8.nar (b8_mem hb (h16) hk)]) (by decide) (by decide) (fun _ q => nomatch q) ⟨rfl, rfl⟩
theorem d62_0 : decode jdk_52_method_91_code 0 = .ok (.iload_n 0, 1) := by decide +kernel
theorem d62_1 : decode jdk_52_method_91_code 1 = .ok (.aload_n 1, 1) := by decide +kernel
theorem d62_2 : decode jdk_52_method_91_code 2 = .ok (.invokestatic 48, 3) := by decide +kernel
theorem d62_5 : decode jdk_52_method_91_code 5 = .ok (.invokestatic 414, 3) := by decide +kernel
theorem ow290 {a0 : Array Value} {Z : State} (hw : ∀ d ∈ tables_1, d.before a0 Z = true) : (Jvm.Cond.methodLink "java/lang/StringUTF16" (414 : Nat) ({ cls := "java/lang/String", name := "checkIndex", desc := "(II)V" } : Jvm.MethodName)).before a0 Z = true := hw _ (List.mem_of_getElem? (i := 290) rfl)
theorem d62_8 : decode jdk_52_method_91_code 8 = .ok (.return_, 1) := by decide +kernel
theorem oef_orw_uck (m_ : MethodId) (y0_ : Int32) (u : Addr)  : (entryFrame m_ #[(.int y0_), (.ref u)] 2).locals = #[.val (.int y0_), .val (.ref u)] := by first | (simp [entryFrame, argsToLocals, Value.category]; done) | rfl
set_option maxRecDepth 65536 in
set_option maxHeartbeats 40000000 in
theorem orw_uck (l : Launch) (Z : State) (a0 : Array Value) (hw : ∀ d ∈ tables_1, d.before a0 Z = true) (hE : EW Z a0 consts_1) (u : Addr) (ku : ClassId) (cs : List Int32) (k : Nat) (fm : Value) (h : Heap) (hO : Old Z Z.heap.size h) (SF : (Sta Z Z.heap "jdk/internal/util/Preconditions" "SIOOBE_FORMATTER" "Ljava/util/function/BiFunction;" fm)) (rf : (fm.isRef = true)) (q2 : Arv Z h u ku .byte (Int32.ofNat (2 * cs.length)) (StrChars.Road.wideBytes cs) (.int 0)) (hk : (k < cs.length)) (h4 : (cs.length ≤ 4000))  :
    Ct l Z consts_1 (⟨"java/lang/StringUTF16", "checkIndex", "(I[B)V"⟩ : MethodName) jdk_52_method_91_code 2 (Option.none : Option Jvm.ClassFile.FieldType) ⟨2, 0, 0, 34⟩ #[(.int (Int32.ofNat k)), (.ref u)] h [] (fun rv' hp' so' => rv' = none ∧ so' = []) := by
  refine Ct.mk "java/lang/StringUTF16" "checkIndex" rfl rfl (a0 := a0) (plainFor_of_name opn1) hO hE (fun x q => nomatch q) ?_
  intro K T W
  rw [oef_orw_uck]
  refine gIloadN W d62_0 rfl rfl ?_
  refine gAloadN W d62_1 rfl rfl rfl ?_
  refine wStatic (y := (⟨"java/lang/StringUTF16", "length", "([B)I"⟩ : MethodName)) (Wd := 1) (argsL := [(.ref u)]) (rest := [(.int (Int32.ofNat k))]) W d62_2 (ow255 hw) (ow256 hw) (ow50 hw) (ow257 hw) (by decide) (Cb.ct (orw_ul l Z a0 hw hE (u) (ku) ((StrChars.Road.wideBytes cs)) (cs.length) h W.old q2 h4 ) (ow257 hw) (ow50 hw) hE (by decide) (by decide)) (by simp) rfl (lenOf opd24 rfl) rfl (Nat.le_of_eq rfl) (by decide) (by decide) rfl fun v2425 so2426 T2421 h2423 W2422 kp2424 sp2427 q2428 => ?_
  obtain ⟨rfl, rfl⟩ := q2428
  show Go K _ T2421 5 #[.val (.int (Int32.ofNat k)), .val (.ref u)] [(.int (Int32.ofNat cs.length)), (.int (Int32.ofNat k))]
  refine wStatic (y := (⟨"java/lang/String", "checkIndex", "(II)V"⟩ : MethodName)) (Wd := 0) (argsL := [(.int (Int32.ofNat k)), (.int (Int32.ofNat cs.length))]) (rest := []) W2422 d62_5 (ow290 hw) (ow215 hw) (ow7 hw) (ow216 hw) (by decide) (Cb.ct (orw_ck l Z a0 hw hE (k) (cs.length) (fm) h2423 W2422.old hk (by omega) SF rf ) (ow216 hw) (ow7 hw) hE (by decide) (by decide)) (by simp) rfl (lenOf opd15 rfl) rfl (Nat.le_of_eq rfl) (by decide) (by decide) rfl fun v2433 so2434 T2429 h2431 W2430 kp2432 sp2435 q2436 => ?_
  obtain ⟨rfl, rfl⟩ := q2436
  show Go K _ T2429 8 #[.val (.int (Int32.ofNat k)), .val (.ref u)] []
  exact wRet0 (so := []) W2430 d62_8 (by decide) (by decide) (fun _ q => nomatch q) ⟨rfl, rfl⟩
theorem d61_0 : decode jdk_52_method_83_code 0 = .ok (.iload_n 1, 1) := by decide +kernel
theorem d61_1 : decode jdk_52_method_83_code 1 = .ok (.aload_n 0, 1) := by decide +kernel
theorem d61_2 : decode jdk_52_method_83_code 2 = .ok (.invokestatic 67, 3) := by decide +kernel
theorem ow287 {a0 : Array Value} {Z : State} (hw : ∀ d ∈ tables_1, d.before a0 Z = true) : (Jvm.Cond.methodLink "java/lang/StringUTF16" (67 : Nat) ({ cls := "java/lang/StringUTF16", name := "checkIndex", desc := "(I[B)V" } : Jvm.MethodName)).before a0 Z = true := hw _ (List.mem_of_getElem? (i := 287) rfl)
theorem ow289 {a0 : Array Value} {Z : State} (hw : ∀ d ∈ tables_1, d.before a0 Z = true) : (Jvm.Cond.code ({ cls := "java/lang/StringUTF16", name := "checkIndex", desc := "(I[B)V" } : Jvm.MethodName) jdk_52_method_91_code (2 : Nat) (Option.none : Option Jvm.ClassFile.FieldType)).before a0 Z = true := hw _ (List.mem_of_getElem? (i := 289) rfl)
theorem opd37 : parseMethodDescriptor "(I[B)V" = some ⟨[.int, .array .byte], none⟩ := by decide +kernel
theorem ow288 {a0 : Array Value} {Z : State} (hw : ∀ d ∈ tables_1, d.before a0 Z = true) : (Jvm.Cond.static ({ cls := "java/lang/StringUTF16", name := "checkIndex", desc := "(I[B)V" } : Jvm.MethodName)).before a0 Z = true := hw _ (List.mem_of_getElem? (i := 288) rfl)
theorem d61_5 : decode jdk_52_method_83_code 5 = .ok (.aload_n 0, 1) := by decide +kernel
theorem d61_6 : decode jdk_52_method_83_code 6 = .ok (.iload_n 1, 1) := by decide +kernel
theorem d61_7 : decode jdk_52_method_83_code 7 = .ok (.invokestatic 71, 3) := by decide +kernel
theorem d61_10 : decode jdk_52_method_83_code 10 = .ok (.ireturn, 1) := by decide +kernel
theorem oef_orw_lcW (m_ : MethodId) (u : Addr) (y0_ : Int32)  : (entryFrame m_ #[(.ref u), (.int y0_)] 2).locals = #[.val (.ref u), .val (.int y0_)] := by first | (simp [entryFrame, argsToLocals, Value.category]; done) | rfl
set_option maxRecDepth 65536 in
set_option maxHeartbeats 40000000 in
theorem orw_lcW (l : Launch) (Z : State) (a0 : Array Value) (hw : ∀ d ∈ tables_1, d.before a0 Z = true) (hE : EW Z a0 consts_1) (u : Addr) (ku : ClassId) (cs : List Int32) (k : Nat) (fm : Value) (h : Heap) (hO : Old Z Z.heap.size h) (SA : (Sta Z Z.heap "java/lang/StringUTF16" "$assertionsDisabled" "Z" (.int (1 : Int32)))) (SH : (Sta Z Z.heap "java/lang/StringUTF16" "HI_BYTE_SHIFT" "I" (.int (0 : Int32)))) (SL : (Sta Z Z.heap "java/lang/StringUTF16" "LO_BYTE_SHIFT" "I" (.int (8 : Int32)))) (SF : (Sta Z Z.heap "jdk/internal/util/Preconditions" "SIOOBE_FORMATTER" "Ljava/util/function/BiFunction;" fm)) (rf : (fm.isRef = true)) (q5 : Arv Z h u ku .byte (Int32.ofNat (2 * cs.length)) (StrChars.Road.wideBytes cs) (.int 0)) (hk : (k < cs.length)) (h4 : (cs.length ≤ 4000)) (h16 : (∀ c ∈ cs, ¬ c < 0 ∧ ¬ (65535 : Int32) < c))  :
    Ct l Z consts_1 (⟨"java/lang/StringUTF16", "charAt", "([BI)C"⟩ : MethodName) jdk_52_method_83_code 2 (Option.some Jvm.ClassFile.FieldType.char) ⟨3, 0, 0, 50⟩ #[(.ref u), (.int (Int32.ofNat k))] h [] (fun rv' hp' so' => rv' = some (.int (cs.getD k 0)) ∧ so' = []) := by
  refine Ct.mk "java/lang/StringUTF16" "charAt" rfl rfl (a0 := a0) (plainFor_of_name opn1) hO hE (fun x q => nomatch q) ?_
  intro K T W
  rw [oef_orw_lcW]
  refine gIloadN W d61_0 rfl rfl ?_
  refine gAloadN W d61_1 rfl rfl rfl ?_
  refine wStatic (y := (⟨"java/lang/StringUTF16", "checkIndex", "(I[B)V"⟩ : MethodName)) (Wd := 0) (argsL := [(.int (Int32.ofNat k)), (.ref u)]) (rest := []) W d61_2 (ow287 hw) (ow288 hw) (ow50 hw) (ow289 hw) (by decide) (Cb.ct (orw_uck l Z a0 hw hE (u) (ku) (cs) (k) (fm) h W.old SF rf q5 hk h4 ) (ow289 hw) (ow50 hw) hE (by decide) (by decide)) (by simp) rfl (lenOf opd37 rfl) rfl (Nat.le_of_eq rfl) (by decide) (by decide) rfl fun v2441 so2442 T2437 h2439 W2438 kp2440 sp2443 q2444 => ?_
  obtain ⟨rfl, rfl⟩ := q2444
  show Go K _ T2437 5 #[.val (.ref u), .val (.int (Int32.ofNat k))] []
  refine gAloadN W2438 d61_5 rfl rfl rfl ?_
  refine gIloadN W2438 d61_6 rfl rfl ?_
  have f2445 := q5.keep kp2440 nin0
  refine wStatic (y := (⟨"java/lang/StringUTF16", "getChar", "([BI)C"⟩ : MethodName)) (Wd := 0) (argsL := [(.ref u), (.int (Int32.ofNat k))]) (rest := []) W2438 d61_7 (ow239 hw) (ow240 hw) (ow50 hw) (ow241 hw) (by decide) (Cb.ct (oru_get l Z a0 hw hE (u) (ku) ((2 * cs.length)) ((StrChars.Road.wideBytes cs)) (k) ((cs.getD k 0)) h2439 W2438.old SA SH SL f2445 (by omega) (by omega) (StrChars.Road.wide_lo _ _ _ hk) (StrChars.Road.wide_hi _ _ _ hk) (B16.mem h16 hk) ) (ow241 hw) (ow50 hw) hE (by decide) (by decide)) (by simp) rfl (lenOf opd6 rfl) rfl (Nat.le_of_eq rfl) (by decide) (by decide) rfl fun v2450 so2451 T2446 h2448 W2447 kp2449 sp2452 q2453 => ?_
  obtain ⟨rfl, rfl⟩ := q2453
  show Go K _ T2446 10 #[.val (.ref u), .val (.int (Int32.ofNat k))] [(.int (cs.getD k 0))]
  exact wRetI (so := []) (t := .char) W2447 d61_10 (by simp) (StrChars.narrow_ch (B16.mem h16 hk).1 (B16.mem h16 hk).2) (by decide) (by decide) (fun _ q => nomatch q) ⟨rfl, rfl⟩
theorem d41_0 : decode jdk_42_method_56_code 0 = .ok (.aload_n 0, 1) := by decide +kernel
theorem d41_1 : decode jdk_42_method_56_code 1 = .ok (.invokevirtual 492, 3) := by decide +kernel
theorem d41_4 : decode jdk_42_method_56_code 4 = .ok (.ifCond .eq 12, 3) := by decide +kernel
theorem d41_7 : decode jdk_42_method_56_code 7 = .ok (.aload_n 0, 1) := by decide +kernel
theorem d41_8 : decode jdk_42_method_56_code 8 = .ok (.getfield 9, 3) := by decide +kernel
theorem d41_11 : decode jdk_42_method_56_code 11 = .ok (.iload_n 1, 1) := by decide +kernel
theorem d41_12 : decode jdk_42_method_56_code 12 = .ok (.invokestatic 495, 3) := by decide +kernel
theorem ow211 {a0 : Array Value} {Z : State} (hw : ∀ d ∈ tables_1, d.before a0 Z = true) : (Jvm.Cond.methodLink "java/lang/String" (495 : Nat) ({ cls := "java/lang/StringLatin1", name := "charAt", desc := "([BI)C" } : Jvm.MethodName)).before a0 Z = true := hw _ (List.mem_of_getElem? (i := 211) rfl)
theorem ow213 {a0 : Array Value} {Z : State} (hw : ∀ d ∈ tables_1, d.before a0 Z = true) : (Jvm.Cond.code ({ cls := "java/lang/StringLatin1", name := "charAt", desc := "([BI)C" } : Jvm.MethodName) jdk_43_method_2_code (2 : Nat) (Option.some Jvm.ClassFile.FieldType.char)).before a0 Z = true := hw _ (List.mem_of_getElem? (i := 213) rfl)
theorem ow212 {a0 : Array Value} {Z : State} (hw : ∀ d ∈ tables_1, d.before a0 Z = true) : (Jvm.Cond.static ({ cls := "java/lang/StringLatin1", name := "charAt", desc := "([BI)C" } : Jvm.MethodName)).before a0 Z = true := hw _ (List.mem_of_getElem? (i := 212) rfl)
theorem d41_15 : decode jdk_42_method_56_code 15 = .ok (.ireturn, 1) := by decide +kernel
theorem d41_16 : decode jdk_42_method_56_code 16 = .ok (.aload_n 0, 1) := by decide +kernel
theorem d41_17 : decode jdk_42_method_56_code 17 = .ok (.getfield 9, 3) := by decide +kernel
theorem d41_20 : decode jdk_42_method_56_code 20 = .ok (.iload_n 1, 1) := by decide +kernel
theorem d41_21 : decode jdk_42_method_56_code 21 = .ok (.invokestatic 498, 3) := by decide +kernel
theorem ow284 {a0 : Array Value} {Z : State} (hw : ∀ d ∈ tables_1, d.before a0 Z = true) : (Jvm.Cond.methodLink "java/lang/String" (498 : Nat) ({ cls := "java/lang/StringUTF16", name := "charAt", desc := "([BI)C" } : Jvm.MethodName)).before a0 Z = true := hw _ (List.mem_of_getElem? (i := 284) rfl)
theorem ow286 {a0 : Array Value} {Z : State} (hw : ∀ d ∈ tables_1, d.before a0 Z = true) : (Jvm.Cond.code ({ cls := "java/lang/StringUTF16", name := "charAt", desc := "([BI)C" } : Jvm.MethodName) jdk_52_method_83_code (2 : Nat) (Option.some Jvm.ClassFile.FieldType.char)).before a0 Z = true := hw _ (List.mem_of_getElem? (i := 286) rfl)
theorem ow285 {a0 : Array Value} {Z : State} (hw : ∀ d ∈ tables_1, d.before a0 Z = true) : (Jvm.Cond.static ({ cls := "java/lang/StringUTF16", name := "charAt", desc := "([BI)C" } : Jvm.MethodName)).before a0 Z = true := hw _ (List.mem_of_getElem? (i := 285) rfl)
theorem d41_24 : decode jdk_42_method_56_code 24 = .ok (.ireturn, 1) := by decide +kernel
theorem oef_orw_ch (m_ : MethodId) (s : Addr) (y0_ : Int32)  : (entryFrame m_ #[(.ref s), (.int y0_)] 2).locals = #[.val (.ref s), .val (.int y0_)] := by first | (simp [entryFrame, argsToLocals, Value.category]; done) | rfl
set_option maxRecDepth 65536 in
set_option maxHeartbeats 40000000 in
theorem orw_ch (l : Launch) (Z : State) (a0 : Array Value) (hw : ∀ d ∈ tables_1, d.before a0 Z = true) (hE : EW Z a0 consts_1) (s : Addr) (cs : List Int32) (k : Nat) (z : Int32) (fm : Value) (h : Heap) (hO : Old Z Z.heap.size h) (SC : (Sta Z Z.heap "java/lang/String" "COMPACT_STRINGS" "Z" (.int z))) (hz : (¬ z = 0)) (SA : (Sta Z Z.heap "java/lang/StringUTF16" "$assertionsDisabled" "Z" (.int (1 : Int32)))) (SH : (Sta Z Z.heap "java/lang/StringUTF16" "HI_BYTE_SHIFT" "I" (.int (0 : Int32)))) (SL : (Sta Z Z.heap "java/lang/StringUTF16" "LO_BYTE_SHIFT" "I" (.int (8 : Int32)))) (SF : (Sta Z Z.heap "jdk/internal/util/Preconditions" "SIOOBE_FORMATTER" "Ljava/util/function/BiFunction;" fm)) (rf : (fm.isRef = true)) (q7 : Str Z h s cs) (hk : (k < cs.length))  :
    Ct l Z consts_1 (⟨"java/lang/String", "charAt", "(I)C"⟩ : MethodName) jdk_42_method_56_code 2 (Option.some Jvm.ClassFile.FieldType.char) ⟨4, 0, 0, 70⟩ #[(.ref s), (.int (Int32.ofNat k))] h [] (fun rv' hp' so' => rv' = some (.int (cs.getD k 0)) ∧ so' = []) := by
  refine Ct.mk "java/lang/String" "charAt" rfl rfl (a0 := a0) (plainFor_of_name opn0) hO hE (fun x q => nomatch q) ?_
  intro K T W
  rw [oef_orw_ch]
  obtain ⟨u2454, k2455, cd2456, N2457, us2458, E2459, f2460, f2461, A2462, ho2463, hs2464, hk2465⟩ := q7
  rcases ho2463 with ⟨rfl, rfl, rfl, hb2466⟩ | ⟨rfl, rfl, rfl, hb2466⟩
  · refine gAloadN W d41_0 rfl rfl rfl ?_
    refine wVirtual (y := (⟨"java/lang/String", "isLatin1", "()Z"⟩ : MethodName)) (z := (⟨"java/lang/String", "isLatin1", "()Z"⟩ : MethodName)) (Wd := 0) (a := s) (argsL := []) (rest := []) W d41_1 (ow90 hw) (ow91 hw) (ow93 hw) (ow92 hw) (nfS (ow93 hw)) (by decide) (Cb.ct (orw_il0 l Z a0 hw hE (s) (z) h W.old SC hz f2461 ) (ow94 hw) (ow7 hw) hE (by decide) (by decide)) E2459 (by simp) rfl (lenOf opd19 rfl) rfl (Nat.le_of_eq rfl) (by decide) (by decide) rfl fun v2471 so2472 T2467 h2469 W2468 kp2470 sp2473 q2474 => ?_
    obtain ⟨rfl, rfl⟩ := q2474
    show Go K _ T2467 4 #[.val (.ref s), .val (.int (Int32.ofNat k))] [(.int (1 : Int32))]
    refine gIfNo W2468 d41_4 ((if0 _ _).trans (feq (by decide)).1) rfl ?_
    refine gAloadN W2468 d41_7 rfl rfl rfl ?_
    have f2475 := f2460.keep kp2470 nin0
    refine wGetF W2468 d41_8 (ow24 hw) Via.refl f2475 rfl fun T2476 W2477 => ?_
    refine gIloadN W2477 d41_11 rfl rfl ?_
    have f2478 := A2462.keep kp2470 nin0
    refine wStatic (y := (⟨"java/lang/StringLatin1", "charAt", "([BI)C"⟩ : MethodName)) (Wd := 0) (argsL := [(.ref u2454), (.int (Int32.ofNat k))]) (rest := []) W2477 d41_12 (ow211 hw) (ow212 hw) (ow97 hw) (ow213 hw) (by decide) (Cb.ct (orw_lcL l Z a0 hw hE (u2454) (k2455) (cs) (k) (fm) h2469 W2477.old SF rf f2478 hk hk2465 hs2464 hb2466 ) (ow213 hw) (ow97 hw) hE (by decide) (by decide)) (by simp) rfl (lenOf opd6 rfl) rfl (Nat.le_of_eq rfl) (by decide) (by decide) rfl fun v2483 so2484 T2479 h2481 W2480 kp2482 sp2485 q2486 => ?_
    obtain ⟨rfl, rfl⟩ := q2486
    show Go K _ T2479 15 #[.val (.ref s), .val (.int (Int32.ofNat k))] [(.int (cs.getD k 0))]
    exact wRetI (so := []) (t := .char) W2480 d41_15 (by simp) (by show Value.int (nar .char (cs.getD k 0)) = _; rw [B8.nar (b8_mem hb2466 (hs2464) hk)]) (by decide) (by decide) (fun _ q => nomatch q) ⟨rfl, rfl⟩
  · refine gAloadN W d41_0 rfl rfl rfl ?_
    refine wVirtual (y := (⟨"java/lang/String", "isLatin1", "()Z"⟩ : MethodName)) (z := (⟨"java/lang/String", "isLatin1", "()Z"⟩ : MethodName)) (Wd := 0) (a := s) (argsL := []) (rest := []) W d41_1 (ow90 hw) (ow91 hw) (ow93 hw) (ow92 hw) (nfS (ow93 hw)) (by decide) (Cb.ct (orw_il1 l Z a0 hw hE (s) (z) h W.old SC hz f2461 ) (ow94 hw) (ow7 hw) hE (by decide) (by decide)) E2459 (by simp) rfl (lenOf opd19 rfl) rfl (Nat.le_of_eq rfl) (by decide) (by decide) rfl fun v2491 so2492 T2487 h2489 W2488 kp2490 sp2493 q2494 => ?_
    obtain ⟨rfl, rfl⟩ := q2494
    show Go K _ T2487 4 #[.val (.ref s), .val (.int (Int32.ofNat k))] [(.int (0 : Int32))]
    refine gIfYes (pc' := 16) W2488 d41_4 ((if0 _ _).trans (teq rfl).1) (by decide) rfl ?_
    refine gAloadN W2488 d41_16 rfl rfl rfl ?_
    have f2495 := f2460.keep kp2490 nin0
    refine wGetF W2488 d41_17 (ow24 hw) Via.refl f2495 rfl fun T2496 W2497 => ?_
    refine gIloadN W2497 d41_20 rfl rfl ?_
    have f2498 := A2462.keep kp2490 nin0
    refine wStatic (y := (⟨"java/lang/StringUTF16", "charAt", "([BI)C"⟩ : MethodName)) (Wd := 0) (argsL := [(.ref u2454), (.int (Int32.ofNat k))]) (rest := []) W2497 d41_21 (ow284 hw) (ow285 hw) (ow50 hw) (ow286 hw) (by decide) (Cb.ct (orw_lcW l Z a0 hw hE (u2454) (k2455) (cs) (k) (fm) h2489 W2497.old SA SH SL SF rf f2498 hk hk2465 hs2464 ) (ow286 hw) (ow50 hw) hE (by decide) (by decide)) (by simp) rfl (lenOf opd6 rfl) rfl (Nat.le_of_eq rfl) (by decide) (by decide) rfl fun v2503 so2504 T2499 h2501 W2500 kp2502 sp2505 q2506 => ?_
    obtain ⟨rfl, rfl⟩ := q2506
    show Go K _ T2499 24 #[.val (.ref s), .val (.int (Int32.ofNat k))] [(.int (cs.getD k 0))]
    exact wRetI (so := []) (t := .char) W2500 d41_24 (by simp) (StrChars.narrow_ch (B16.mem hs2464 hk).1 (B16.mem hs2464 hk).2) (by decide) (by decide) (fun _ q => nomatch q) ⟨rfl, rfl⟩
theorem opn9 : plainName "com/example/tallykeep/tallykeep/core/FileTextShortenedPinLaw" = true := by first | (simp [plainName, overriddenIn]; done) | decide +kernel
theorem d45_0 : decode method_3_code 0 = .ok (.aload_n 0, 1) := by decide +kernel
theorem d45_1 : decode method_3_code 1 = .ok (.iload_n 2, 1) := by decide +kernel
theorem d45_2 : decode method_3_code 2 = .ok (.invokevirtual 7, 3) := by decide +kernel
theorem ow210 {a0 : Array Value} {Z : State} (hw : ∀ d ∈ tables_1, d.before a0 Z = true) : (Jvm.Cond.code ({ cls := "java/lang/String", name := "charAt", desc := "(I)C" } : Jvm.MethodName) jdk_42_method_56_code (2 : Nat) (Option.some Jvm.ClassFile.FieldType.char)).before a0 Z = true := hw _ (List.mem_of_getElem? (i := 210) rfl)
theorem opd38 : parseMethodDescriptor "(I)C" = some ⟨[.int], some (.char)⟩ := by decide +kernel
theorem ow206 {a0 : Array Value} {Z : State} (hw : ∀ d ∈ tables_1, d.before a0 Z = true) : (Jvm.Cond.methodLink "com/example/tallykeep/tallykeep/core/FileTextShortenedPinLaw" (7 : Nat) ({ cls := "java/lang/String", name := "charAt", desc := "(I)C" } : Jvm.MethodName)).before a0 Z = true := hw _ (List.mem_of_getElem? (i := 206) rfl)
theorem ow207 {a0 : Array Value} {Z : State} (hw : ∀ d ∈ tables_1, d.before a0 Z = true) : (Jvm.Cond.declares ({ cls := "java/lang/String", name := "charAt", desc := "(I)C" } : Jvm.MethodName)).before a0 Z = true := hw _ (List.mem_of_getElem? (i := 207) rfl)
theorem ow209 {a0 : Array Value} {Z : State} (hw : ∀ d ∈ tables_1, d.before a0 Z = true) : (Jvm.Cond.selects "java/lang/String" ({ cls := "java/lang/String", name := "charAt", desc := "(I)C" } : Jvm.MethodName) ({ cls := "java/lang/String", name := "charAt", desc := "(I)C" } : Jvm.MethodName)).before a0 Z = true := hw _ (List.mem_of_getElem? (i := 209) rfl)
theorem ow208 {a0 : Array Value} {Z : State} (hw : ∀ d ∈ tables_1, d.before a0 Z = true) : (Jvm.Cond.instanceMethod ({ cls := "java/lang/String", name := "charAt", desc := "(I)C" } : Jvm.MethodName)).before a0 Z = true := hw _ (List.mem_of_getElem? (i := 208) rfl)
theorem d45_5 : decode method_3_code 5 = .ok (.aload_n 1, 1) := by decide +kernel
theorem d45_6 : decode method_3_code 6 = .ok (.iload_n 2, 1) := by decide +kernel
theorem d45_7 : decode method_3_code 7 = .ok (.invokevirtual 7, 3) := by decide +kernel
theorem d45_10 : decode method_3_code 10 = .ok (.if_icmp .ne 7, 3) := by decide +kernel
theorem d45_13 : decode method_3_code 13 = .ok (.iconst 1, 1) := by decide +kernel
theorem d45_14 : decode method_3_code 14 = .ok (.goto 4, 3) := by decide +kernel
theorem d45_18 : decode method_3_code 18 = .ok (.ireturn, 1) := by decide +kernel
theorem oef_orw_sm (m_ : MethodId) (s : Addr) (t : Addr) (y0_ : Int32)  : (entryFrame m_ #[(.ref s), (.ref t), (.int y0_)] 3).locals = #[.val (.ref s), .val (.ref t), .val (.int y0_)] := by first | (simp [entryFrame, argsToLocals, Value.category]; done) | rfl
set_option maxRecDepth 65536 in
set_option maxHeartbeats 40000000 in
theorem orw_sm (l : Launch) (Z : State) (a0 : Array Value) (hw : ∀ d ∈ tables_1, d.before a0 Z = true) (hE : EW Z a0 consts_1) (s : Addr) (t : Addr) (cs : List Int32) (ds : List Int32) (k : Nat) (z : Int32) (fm : Value) (h : Heap) (hO : Old Z Z.heap.size h) (SC : (Sta Z Z.heap "java/lang/String" "COMPACT_STRINGS" "Z" (.int z))) (hz : (¬ z = 0)) (SA : (Sta Z Z.heap "java/lang/StringUTF16" "$assertionsDisabled" "Z" (.int (1 : Int32)))) (SH : (Sta Z Z.heap "java/lang/StringUTF16" "HI_BYTE_SHIFT" "I" (.int (0 : Int32)))) (SL : (Sta Z Z.heap "java/lang/StringUTF16" "LO_BYTE_SHIFT" "I" (.int (8 : Int32)))) (SF : (Sta Z Z.heap "jdk/internal/util/Preconditions" "SIOOBE_FORMATTER" "Ljava/util/function/BiFunction;" fm)) (rf : (fm.isRef = true)) (q7 : Str Z h s ds) (q8 : Str Z h t cs) (hk : (k < ds.length)) (hk2 : (k < cs.length)) (heq : (ds.getD k 0 = cs.getD k 0))  :
    Ct l Z consts_1 (⟨"com/example/tallykeep/tallykeep/core/FileTextShortenedPinLaw", "same", "(Ljava/lang/String;Ljava/lang/String;I)Z"⟩ : MethodName) method_3_code 3 (Option.some Jvm.ClassFile.FieldType.boolean) ⟨5, 0, 0, 86⟩ #[(.ref s), (.ref t), (.int (Int32.ofNat k))] h [] (fun rv' hp' so' => rv' = some (.int (1 : Int32)) ∧ so' = []) := by
  refine Ct.mk "com/example/tallykeep/tallykeep/core/FileTextShortenedPinLaw" "same" rfl rfl (a0 := a0) (plainFor_of_name opn9) hO hE (fun x q => nomatch q) ?_
  intro K T W
  rw [oef_orw_sm]
  refine gAloadN W d45_0 rfl rfl rfl ?_
  refine gIloadN W d45_1 rfl rfl ?_
  refine wVirtual (y := (⟨"java/lang/String", "charAt", "(I)C"⟩ : MethodName)) (z := (⟨"java/lang/String", "charAt", "(I)C"⟩ : MethodName)) (Wd := 0) (a := s) (argsL := [(.int (Int32.ofNat k))]) (rest := []) W d45_2 (ow206 hw) (ow207 hw) (ow209 hw) (ow208 hw) (nfS (ow209 hw)) (by decide) (Cb.ct (orw_ch l Z a0 hw hE (s) (ds) (k) (z) (fm) h W.old SC hz SA SH SL SF rf q7 hk ) (ow210 hw) (ow7 hw) hE (by decide) (by decide)) q7.exa (by simp) rfl (lenOf opd38 rfl) rfl (Nat.le_of_eq rfl) (by decide) (by decide) rfl fun v2511 so2512 T2507 h2509 W2508 kp2510 sp2513 q2514 => ?_
  obtain ⟨rfl, rfl⟩ := q2514
  show Go K _ T2507 5 #[.val (.ref s), .val (.ref t), .val (.int (Int32.ofNat k))] [(.int (ds.getD k 0))]
  refine gAloadN W2508 d45_5 rfl rfl rfl ?_
  refine gIloadN W2508 d45_6 rfl rfl ?_
  have f2515 := q8.keep kp2510 nin0 (a0 := a0) alln
  refine wVirtual (y := (⟨"java/lang/String", "charAt", "(I)C"⟩ : MethodName)) (z := (⟨"java/lang/String", "charAt", "(I)C"⟩ : MethodName)) (Wd := 1) (a := t) (argsL := [(.int (Int32.ofNat k))]) (rest := [(.int (ds.getD k 0))]) W2508 d45_7 (ow206 hw) (ow207 hw) (ow209 hw) (ow208 hw) (nfS (ow209 hw)) (by decide) (Cb.ct (orw_ch l Z a0 hw hE (t) (cs) (k) (z) (fm) h2509 W2508.old SC hz SA SH SL SF rf f2515 hk2 ) (ow210 hw) (ow7 hw) hE (by decide) (by decide)) f2515.exa (by simp) rfl (lenOf opd38 rfl) rfl (Nat.le_of_eq rfl) (by decide) (by decide) rfl fun v2520 so2521 T2516 h2518 W2517 kp2519 sp2522 q2523 => ?_
  obtain ⟨rfl, rfl⟩ := q2523
  show Go K _ T2516 10 #[.val (.ref s), .val (.ref t), .val (.int (Int32.ofNat k))] [(.int (cs.getD k 0)), (.int (ds.getD k 0))]
  refine gIcmpNo W2517 d45_10 (teq heq).2 rfl ?_
  refine gIconst (z := (1 : Int32)) W2517 d45_13 rfl rfl ?_
  refine gGoto (pc' := 18) W2517 d45_14 (by decide) rfl ?_
  exact wRetI (so := []) (t := .boolean) W2517 d45_18 (by simp) rfl (by decide) (by decide) (fun _ q => nomatch q) ⟨rfl, rfl⟩
theorem d1_0 : decode method_2_code 0 = .ok (.iload_n 0, 1) := by decide +kernel
theorem d1_1 : decode method_2_code 1 = .ok (.ifCond .ne 7, 3) := by decide +kernel
theorem d1_4 : decode method_2_code 4 = .ok (.iconst 0, 1) := by decide +kernel
theorem d1_5 : decode method_2_code 5 = .ok (.newarray .char, 2) := by decide +kernel
theorem ow4 {a0 : Array Value} {Z : State} (hw : ∀ d ∈ tables_1, d.before a0 Z = true) : (Jvm.Cond.arrayClass Jvm.ClassFile.FieldType.char).before a0 Z = true := hw _ (List.mem_of_getElem? (i := 4) rfl)
theorem d1_7 : decode method_2_code 7 = .ok (.areturn, 1) := by decide +kernel
theorem d1_8 : decode method_2_code 8 = .ok (.iload_n 0, 1) := by decide +kernel
theorem d1_9 : decode method_2_code 9 = .ok (.iconst 1, 1) := by decide +kernel
theorem d1_10 : decode method_2_code 10 = .ok (.if_icmp .ne 7, 3) := by decide +kernel
theorem d1_13 : decode method_2_code 13 = .ok (.iconst 1, 1) := by decide +kernel
theorem d1_14 : decode method_2_code 14 = .ok (.newarray .char, 2) := by decide +kernel
theorem d1_16 : decode method_2_code 16 = .ok (.areturn, 1) := by decide +kernel
theorem d1_17 : decode method_2_code 17 = .ok (.iload_n 0, 1) := by decide +kernel
theorem d1_18 : decode method_2_code 18 = .ok (.iconst 2, 1) := by decide +kernel
theorem d1_19 : decode method_2_code 19 = .ok (.if_icmp .ne 8, 3) := by decide +kernel
theorem d1_22 : decode method_2_code 22 = .ok (.bipush 39, 2) := by decide +kernel
theorem d1_24 : decode method_2_code 24 = .ok (.newarray .char, 2) := by decide +kernel
theorem d1_26 : decode method_2_code 26 = .ok (.areturn, 1) := by decide +kernel
theorem d1_27 : decode method_2_code 27 = .ok (.iload_n 0, 1) := by decide +kernel
theorem d1_28 : decode method_2_code 28 = .ok (.iconst 3, 1) := by decide +kernel
theorem d1_29 : decode method_2_code 29 = .ok (.if_icmp .ne 8, 3) := by decide +kernel
theorem d1_32 : decode method_2_code 32 = .ok (.bipush 40, 2) := by decide +kernel
theorem d1_34 : decode method_2_code 34 = .ok (.newarray .char, 2) := by decide +kernel
theorem d1_36 : decode method_2_code 36 = .ok (.areturn, 1) := by decide +kernel
theorem d1_37 : decode method_2_code 37 = .ok (.iload_n 0, 1) := by decide +kernel
theorem d1_38 : decode method_2_code 38 = .ok (.iconst 4, 1) := by decide +kernel
theorem d1_39 : decode method_2_code 39 = .ok (.if_icmp .ne 8, 3) := by decide +kernel
theorem d1_42 : decode method_2_code 42 = .ok (.bipush 41, 2) := by decide +kernel
theorem d1_44 : decode method_2_code 44 = .ok (.newarray .char, 2) := by decide +kernel
theorem d1_46 : decode method_2_code 46 = .ok (.areturn, 1) := by decide +kernel
theorem d1_47 : decode method_2_code 47 = .ok (.iload_n 0, 1) := by decide +kernel
theorem d1_48 : decode method_2_code 48 = .ok (.iconst 5, 1) := by decide +kernel
theorem d1_49 : decode method_2_code 49 = .ok (.if_icmp .ne 8, 3) := by decide +kernel
theorem d1_52 : decode method_2_code 52 = .ok (.bipush 42, 2) := by decide +kernel
theorem d1_54 : decode method_2_code 54 = .ok (.newarray .char, 2) := by decide +kernel
theorem d1_56 : decode method_2_code 56 = .ok (.areturn, 1) := by decide +kernel
theorem d1_57 : decode method_2_code 57 = .ok (.iload_n 0, 1) := by decide +kernel
theorem d1_58 : decode method_2_code 58 = .ok (.bipush 6, 2) := by decide +kernel
theorem d1_60 : decode method_2_code 60 = .ok (.if_icmp .ne 8, 3) := by decide +kernel
theorem d1_63 : decode method_2_code 63 = .ok (.bipush 43, 2) := by decide +kernel
theorem d1_65 : decode method_2_code 65 = .ok (.newarray .char, 2) := by decide +kernel
theorem d1_67 : decode method_2_code 67 = .ok (.areturn, 1) := by decide +kernel
theorem d1_68 : decode method_2_code 68 = .ok (.bipush 80, 2) := by decide +kernel
theorem d1_70 : decode method_2_code 70 = .ok (.newarray .char, 2) := by decide +kernel
theorem d1_72 : decode method_2_code 72 = .ok (.areturn, 1) := by decide +kernel
theorem oef_orw_mk (m_ : MethodId) (x : Int32)  : (entryFrame m_ #[(.int x)] 1).locals = #[.val (.int x)] := by first | (simp [entryFrame, argsToLocals, Value.category]; done) | rfl
set_option maxRecDepth 65536 in
set_option maxHeartbeats 40000000 in
theorem orw_mk (l : Launch) (Z : State) (a0 : Array Value) (hw : ∀ d ∈ tables_1, d.before a0 Z = true) (hE : EW Z a0 consts_1) (x : Int32) (h : Heap) (hO : Old Z Z.heap.size h) (hx : (x = 0 ∨ x = 1 ∨ x = 2 ∨ x = 3 ∨ x = 4 ∨ x = 5 ∨ x = 6 ∨ x = 7))  :
    Ct l Z consts_1 (⟨"com/example/tallykeep/tallykeep/core/FileTextShortenedPinLaw", "make", "(I)[C"⟩ : MethodName) method_2_code 1 (Option.some (Jvm.ClassFile.FieldType.array Jvm.ClassFile.FieldType.char)) ⟨0, 1, 80, 0⟩ #[(.int x)] h [] (fun rv' hp' so' => ∃ r : Addr, ∃ kr : ClassId, ∃ n : Nat, rv' = some (.ref r) ∧ so' = [r] ∧ (h.size ≤ r) ∧ (n ≤ 80) ∧ Arv Z hp' r kr .char (Int32.ofNat n) (List.replicate n (Value.int 0)) (.int 0)) := by
  refine Ct.mk "com/example/tallykeep/tallykeep/core/FileTextShortenedPinLaw" "make" rfl rfl (a0 := a0) (plainFor_of_name opn9) hO hE (fun x q => nomatch q) ?_
  intro K T W
  rw [oef_orw_mk]
  rcases hx with rfl | rfl | rfl | rfl | rfl | rfl | rfl | rfl
  · refine gIloadN W d1_0 rfl rfl ?_
    refine gIfNo W d1_1 ((if0 _ _).trans (teq (by decide)).2) rfl ?_
    refine gIconst (z := (0 : Int32)) W d1_4 rfl rfl ?_
    refine wNewP (cap := 0) W d1_5 (ow4 hw) (by decide) (by decide) (by decide) (by decide) (by decide) rfl fun T2524 h2526 a2527 k2531 W2525 E2528 g2529 A2530 => ?_
    have f2532 : Arv Z h2526 a2527 k2531 .char (0 : Int32) [] (.int 0) := A2530 0
    have f2533 : Arv Z h2526 a2527 k2531 .char (Int32.ofNat 0) (List.replicate 0 (Value.int 0)) (.int 0) := A2530 0
    exact wRetA (so := [a2527]) (t := .array .char) W2525 d1_7 rfl rfl rfl (by decide) (by decide) (all1 ⟨by simp, (Nat.le_of_eq g2529.symm)⟩ alln) ⟨a2527, k2531, 0, rfl, rfl, (Nat.le_of_eq g2529.symm), (by decide), f2533⟩
  · refine gIloadN W d1_0 rfl rfl ?_
    refine gIfYes (pc' := 8) W d1_1 ((if0 _ _).trans (feq (by decide)).2) (by decide) rfl ?_
    refine gIloadN W d1_8 rfl rfl ?_
    refine gIconst (z := (1 : Int32)) W d1_9 rfl rfl ?_
    refine gIcmpNo W d1_10 (teq (by decide)).2 rfl ?_
    refine gIconst (z := (1 : Int32)) W d1_13 rfl rfl ?_
    refine wNewP (cap := 1) W d1_14 (ow4 hw) (by decide) (by decide) (by decide) (by decide) (by decide) rfl fun T2534 h2536 a2537 k2541 W2535 E2538 g2539 A2540 => ?_
    have f2542 : Arv Z h2536 a2537 k2541 .char (1 : Int32) [(.int (0 : Int32))] (.int 0) := A2540 1
    have f2543 : Arv Z h2536 a2537 k2541 .char (Int32.ofNat 1) (List.replicate 1 (Value.int 0)) (.int 0) := A2540 1
    exact wRetA (so := [a2537]) (t := .array .char) W2535 d1_16 rfl rfl rfl (by decide) (by decide) (all1 ⟨by simp, (Nat.le_of_eq g2539.symm)⟩ alln) ⟨a2537, k2541, 1, rfl, rfl, (Nat.le_of_eq g2539.symm), (by decide), f2543⟩
  · refine gIloadN W d1_0 rfl rfl ?_
    refine gIfYes (pc' := 8) W d1_1 ((if0 _ _).trans (feq (by decide)).2) (by decide) rfl ?_
    refine gIloadN W d1_8 rfl rfl ?_
    refine gIconst (z := (1 : Int32)) W d1_9 rfl rfl ?_
    refine gIcmpYes (pc' := 17) W d1_10 (feq (by decide)).2 (by decide) rfl ?_
    refine gIloadN W d1_17 rfl rfl ?_
    refine gIconst (z := (2 : Int32)) W d1_18 rfl rfl ?_
    refine gIcmpNo W d1_19 (teq (by decide)).2 rfl ?_
    refine gBipush (z := (39 : Int32)) W d1_22 rfl rfl ?_
    refine wNewP (cap := 39) W d1_24 (ow4 hw) (by decide) (by decide) (by decide) (by decide) (by decide) rfl fun T2544 h2546 a2547 k2551 W2545 E2548 g2549 A2550 => ?_
    have f2552 : Arv Z h2546 a2547 k2551 .char (39 : Int32) [(.int (0 : Int32)), (.int (0 : Int32)), (.int (0 : Int32)), (.int (0 : Int32)), (.int (0 : Int32)), (.int (0 : Int32)), (.int (0 : Int32)), (.int (0 : Int32)), (.int (0 : Int32)), (.int (0 : Int32)), (.int (0 : Int32)), (.int (0 : Int32)), (.int (0 : Int32)), (.int (0 : Int32)), (.int (0 : Int32)), (.int (0 : Int32)), (.int (0 : Int32)), (.int (0 : Int32)), (.int (0 : Int32)), (.int (0 : Int32)), (.int (0 : Int32)), (.int (0 : Int32)), (.int (0 : Int32)), (.int (0 : Int32)), (.int (0 : Int32)), (.int (0 : Int32)), (.int (0 : Int32)), (.int (0 : Int32)), (.int (0 : Int32)), (.int (0 : Int32)), (.int (0 : Int32)), (.int (0 : Int32)), (.int (0 : Int32)), (.int (0 : Int32)), (.int (0 : Int32)), (.int (0 : Int32)), (.int (0 : Int32)), (.int (0 : Int32)), (.int (0 : Int32))] (.int 0) := A2550 39
    have f2553 : Arv Z h2546 a2547 k2551 .char (Int32.ofNat 39) (List.replicate 39 (Value.int 0)) (.int 0) := A2550 39
    exact wRetA (so := [a2547]) (t := .array .char) W2545 d1_26 rfl rfl rfl (by decide) (by decide) (all1 ⟨by simp, (Nat.le_of_eq g2549.symm)⟩ alln) ⟨a2547, k2551, 39, rfl, rfl, (Nat.le_of_eq g2549.symm), (by decide), f2553⟩
  · refine gIloadN W d1_0 rfl rfl ?_
    refine gIfYes (pc' := 8) W d1_1 ((if0 _ _).trans (feq (by decide)).2) (by decide) rfl ?_
    refine gIloadN W d1_8 rfl rfl ?_
    refine gIconst (z := (1 : Int32)) W d1_9 rfl rfl ?_
    refine gIcmpYes (pc' := 17) W d1_10 (feq (by decide)).2 (by decide) rfl ?_
    refine gIloadN W d1_17 rfl rfl ?_
    refine gIconst (z := (2 : Int32)) W d1_18 rfl rfl ?_
    refine gIcmpYes (pc' := 27) W d1_19 (feq (by decide)).2 (by decide) rfl ?_
    refine gIloadN W d1_27 rfl rfl ?_
    refine gIconst (z := (3 : Int32)) W d1_28 rfl rfl ?_
    refine gIcmpNo W d1_29 (teq (by decide)).2 rfl ?_
    refine gBipush (z := (40 : Int32)) W d1_32 rfl rfl ?_
    refine wNewP (cap := 40) W d1_34 (ow4 hw) (by decide) (by decide) (by decide) (by decide) (by decide) rfl fun T2554 h2556 a2557 k2561 W2555 E2558 g2559 A2560 => ?_
    have f2562 : Arv Z h2556 a2557 k2561 .char (40 : Int32) [(.int (0 : Int32)), (.int (0 : Int32)), (.int (0 : Int32)), (.int (0 : Int32)), (.int (0 : Int32)), (.int (0 : Int32)), (.int (0 : Int32)), (.int (0 : Int32)), (.int (0 : Int32)), (.int (0 : Int32)), (.int (0 : Int32)), (.int (0 : Int32)), (.int (0 : Int32)), (.int (0 : Int32)), (.int (0 : Int32)), (.int (0 : Int32)), (.int (0 : Int32)), (.int (0 : Int32)), (.int (0 : Int32)), (.int (0 : Int32)), (.int (0 : Int32)), (.int (0 : Int32)), (.int (0 : Int32)), (.int (0 : Int32)), (.int (0 : Int32)), (.int (0 : Int32)), (.int (0 : Int32)), (.int (0 : Int32)), (.int (0 : Int32)), (.int (0 : Int32)), (.int (0 : Int32)), (.int (0 : Int32)), (.int (0 : Int32)), (.int (0 : Int32)), (.int (0 : Int32)), (.int (0 : Int32)), (.int (0 : Int32)), (.int (0 : Int32)), (.int (0 : Int32)), (.int (0 : Int32))] (.int 0) := A2560 40
    have f2563 : Arv Z h2556 a2557 k2561 .char (Int32.ofNat 40) (List.replicate 40 (Value.int 0)) (.int 0) := A2560 40
    exact wRetA (so := [a2557]) (t := .array .char) W2555 d1_36 rfl rfl rfl (by decide) (by decide) (all1 ⟨by simp, (Nat.le_of_eq g2559.symm)⟩ alln) ⟨a2557, k2561, 40, rfl, rfl, (Nat.le_of_eq g2559.symm), (by decide), f2563⟩
  · refine gIloadN W d1_0 rfl rfl ?_
    refine gIfYes (pc' := 8) W d1_1 ((if0 _ _).trans (feq (by decide)).2) (by decide) rfl ?_
    refine gIloadN W d1_8 rfl rfl ?_
    refine gIconst (z := (1 : Int32)) W d1_9 rfl rfl ?_
    refine gIcmpYes (pc' := 17) W d1_10 (feq (by decide)).2 (by decide) rfl ?_
    refine gIloadN W d1_17 rfl rfl ?_
    refine gIconst (z := (2 : Int32)) W d1_18 rfl rfl ?_
    refine gIcmpYes (pc' := 27) W d1_19 (feq (by decide)).2 (by decide) rfl ?_
    refine gIloadN W d1_27 rfl rfl ?_
    refine gIconst (z := (3 : Int32)) W d1_28 rfl rfl ?_
    refine gIcmpYes (pc' := 37) W d1_29 (feq (by decide)).2 (by decide) rfl ?_
    refine gIloadN W d1_37 rfl rfl ?_
    refine gIconst (z := (4 : Int32)) W d1_38 rfl rfl ?_
    refine gIcmpNo W d1_39 (teq (by decide)).2 rfl ?_
    refine gBipush (z := (41 : Int32)) W d1_42 rfl rfl ?_
    refine wNewP (cap := 41) W d1_44 (ow4 hw) (by decide) (by decide) (by decide) (by decide) (by decide) rfl fun T2564 h2566 a2567 k2571 W2565 E2568 g2569 A2570 => ?_
    have f2572 : Arv Z h2566 a2567 k2571 .char (41 : Int32) [(.int (0 : Int32)), (.int (0 : Int32)), (.int (0 : Int32)), (.int (0 : Int32)), (.int (0 : Int32)), (.int (0 : Int32)), (.int (0 : Int32)), (.int (0 : Int32)), (.int (0 : Int32)), (.int (0 : Int32)), (.int (0 : Int32)), (.int (0 : Int32)), (.int (0 : Int32)), (.int (0 : Int32)), (.int (0 : Int32)), (.int (0 : Int32)), (.int (0 : Int32)), (.int (0 : Int32)), (.int (0 : Int32)), (.int (0 : Int32)), (.int (0 : Int32)), (.int (0 : Int32)), (.int (0 : Int32)), (.int (0 : Int32)), (.int (0 : Int32)), (.int (0 : Int32)), (.int (0 : Int32)), (.int (0 : Int32)), (.int (0 : Int32)), (.int (0 : Int32)), (.int (0 : Int32)), (.int (0 : Int32)), (.int (0 : Int32)), (.int (0 : Int32)), (.int (0 : Int32)), (.int (0 : Int32)), (.int (0 : Int32)), (.int (0 : Int32)), (.int (0 : Int32)), (.int (0 : Int32)), (.int (0 : Int32))] (.int 0) := A2570 41
    have f2573 : Arv Z h2566 a2567 k2571 .char (Int32.ofNat 41) (List.replicate 41 (Value.int 0)) (.int 0) := A2570 41
    exact wRetA (so := [a2567]) (t := .array .char) W2565 d1_46 rfl rfl rfl (by decide) (by decide) (all1 ⟨by simp, (Nat.le_of_eq g2569.symm)⟩ alln) ⟨a2567, k2571, 41, rfl, rfl, (Nat.le_of_eq g2569.symm), (by decide), f2573⟩
  · refine gIloadN W d1_0 rfl rfl ?_
    refine gIfYes (pc' := 8) W d1_1 ((if0 _ _).trans (feq (by decide)).2) (by decide) rfl ?_
    refine gIloadN W d1_8 rfl rfl ?_
    refine gIconst (z := (1 : Int32)) W d1_9 rfl rfl ?_
    refine gIcmpYes (pc' := 17) W d1_10 (feq (by decide)).2 (by decide) rfl ?_
    refine gIloadN W d1_17 rfl rfl ?_
    refine gIconst (z := (2 : Int32)) W d1_18 rfl rfl ?_
    refine gIcmpYes (pc' := 27) W d1_19 (feq (by decide)).2 (by decide) rfl ?_
    refine gIloadN W d1_27 rfl rfl ?_
    refine gIconst (z := (3 : Int32)) W d1_28 rfl rfl ?_
    refine gIcmpYes (pc' := 37) W d1_29 (feq (by decide)).2 (by decide) rfl ?_
    refine gIloadN W d1_37 rfl rfl ?_
    refine gIconst (z := (4 : Int32)) W d1_38 rfl rfl ?_
    refine gIcmpYes (pc' := 47) W d1_39 (feq (by decide)).2 (by decide) rfl ?_
    refine gIloadN W d1_47 rfl rfl ?_
    refine gIconst (z := (5 : Int32)) W d1_48 rfl rfl ?_
    refine gIcmpNo W d1_49 (teq (by decide)).2 rfl ?_
    refine gBipush (z := (42 : Int32)) W d1_52 rfl rfl ?_
    refine wNewP (cap := 42) W d1_54 (ow4 hw) (by decide) (by decide) (by decide) (by decide) (by decide) rfl fun T2574 h2576 a2577 k2581 W2575 E2578 g2579 A2580 => ?_
    have f2582 : Arv Z h2576 a2577 k2581 .char (42 : Int32) [(.int (0 : Int32)), (.int (0 : Int32)), (.int (0 : Int32)), (.int (0 : Int32)), (.int (0 : Int32)), (.int (0 : Int32)), (.int (0 : Int32)), (.int (0 : Int32)), (.int (0 : Int32)), (.int (0 : Int32)), (.int (0 : Int32)), (.int (0 : Int32)), (.int (0 : Int32)), (.int (0 : Int32)), (.int (0 : Int32)), (.int (0 : Int32)), (.int (0 : Int32)), (.int (0 : Int32)), (.int (0 : Int32)), (.int (0 : Int32)), (.int (0 : Int32)), (.int (0 : Int32)), (.int (0 : Int32)), (.int (0 : Int32)), (.int (0 : Int32)), (.int (0 : Int32)), (.int (0 : Int32)), (.int (0 : Int32)), (.int (0 : Int32)), (.int (0 : Int32)), (.int (0 : Int32)), (.int (0 : Int32)), (.int (0 : Int32)), (.int (0 : Int32)), (.int (0 : Int32)), (.int (0 : Int32)), (.int (0 : Int32)), (.int (0 : Int32)), (.int (0 : Int32)), (.int (0 : Int32)), (.int (0 : Int32)), (.int (0 : Int32))] (.int 0) := A2580 42
    have f2583 : Arv Z h2576 a2577 k2581 .char (Int32.ofNat 42) (List.replicate 42 (Value.int 0)) (.int 0) := A2580 42
    exact wRetA (so := [a2577]) (t := .array .char) W2575 d1_56 rfl rfl rfl (by decide) (by decide) (all1 ⟨by simp, (Nat.le_of_eq g2579.symm)⟩ alln) ⟨a2577, k2581, 42, rfl, rfl, (Nat.le_of_eq g2579.symm), (by decide), f2583⟩
  · refine gIloadN W d1_0 rfl rfl ?_
    refine gIfYes (pc' := 8) W d1_1 ((if0 _ _).trans (feq (by decide)).2) (by decide) rfl ?_
    refine gIloadN W d1_8 rfl rfl ?_
    refine gIconst (z := (1 : Int32)) W d1_9 rfl rfl ?_
    refine gIcmpYes (pc' := 17) W d1_10 (feq (by decide)).2 (by decide) rfl ?_
    refine gIloadN W d1_17 rfl rfl ?_
    refine gIconst (z := (2 : Int32)) W d1_18 rfl rfl ?_
    refine gIcmpYes (pc' := 27) W d1_19 (feq (by decide)).2 (by decide) rfl ?_
    refine gIloadN W d1_27 rfl rfl ?_
    refine gIconst (z := (3 : Int32)) W d1_28 rfl rfl ?_
    refine gIcmpYes (pc' := 37) W d1_29 (feq (by decide)).2 (by decide) rfl ?_
    refine gIloadN W d1_37 rfl rfl ?_
    refine gIconst (z := (4 : Int32)) W d1_38 rfl rfl ?_
    refine gIcmpYes (pc' := 47) W d1_39 (feq (by decide)).2 (by decide) rfl ?_
    refine gIloadN W d1_47 rfl rfl ?_
    refine gIconst (z := (5 : Int32)) W d1_48 rfl rfl ?_
    refine gIcmpYes (pc' := 57) W d1_49 (feq (by decide)).2 (by decide) rfl ?_
    refine gIloadN W d1_57 rfl rfl ?_
    refine gBipush (z := (6 : Int32)) W d1_58 rfl rfl ?_
    refine gIcmpNo W d1_60 (teq (by decide)).2 rfl ?_
    refine gBipush (z := (43 : Int32)) W d1_63 rfl rfl ?_
    refine wNewP (cap := 43) W d1_65 (ow4 hw) (by decide) (by decide) (by decide) (by decide) (by decide) rfl fun T2584 h2586 a2587 k2591 W2585 E2588 g2589 A2590 => ?_
    have f2592 : Arv Z h2586 a2587 k2591 .char (43 : Int32) [(.int (0 : Int32)), (.int (0 : Int32)), (.int (0 : Int32)), (.int (0 : Int32)), (.int (0 : Int32)), (.int (0 : Int32)), (.int (0 : Int32)), (.int (0 : Int32)), (.int (0 : Int32)), (.int (0 : Int32)), (.int (0 : Int32)), (.int (0 : Int32)), (.int (0 : Int32)), (.int (0 : Int32)), (.int (0 : Int32)), (.int (0 : Int32)), (.int (0 : Int32)), (.int (0 : Int32)), (.int (0 : Int32)), (.int (0 : Int32)), (.int (0 : Int32)), (.int (0 : Int32)), (.int (0 : Int32)), (.int (0 : Int32)), (.int (0 : Int32)), (.int (0 : Int32)), (.int (0 : Int32)), (.int (0 : Int32)), (.int (0 : Int32)), (.int (0 : Int32)), (.int (0 : Int32)), (.int (0 : Int32)), (.int (0 : Int32)), (.int (0 : Int32)), (.int (0 : Int32)), (.int (0 : Int32)), (.int (0 : Int32)), (.int (0 : Int32)), (.int (0 : Int32)), (.int (0 : Int32)), (.int (0 : Int32)), (.int (0 : Int32)), (.int (0 : Int32))] (.int 0) := A2590 43
    have f2593 : Arv Z h2586 a2587 k2591 .char (Int32.ofNat 43) (List.replicate 43 (Value.int 0)) (.int 0) := A2590 43
    exact wRetA (so := [a2587]) (t := .array .char) W2585 d1_67 rfl rfl rfl (by decide) (by decide) (all1 ⟨by simp, (Nat.le_of_eq g2589.symm)⟩ alln) ⟨a2587, k2591, 43, rfl, rfl, (Nat.le_of_eq g2589.symm), (by decide), f2593⟩
  · refine gIloadN W d1_0 rfl rfl ?_
    refine gIfYes (pc' := 8) W d1_1 ((if0 _ _).trans (feq (by decide)).2) (by decide) rfl ?_
    refine gIloadN W d1_8 rfl rfl ?_
    refine gIconst (z := (1 : Int32)) W d1_9 rfl rfl ?_
    refine gIcmpYes (pc' := 17) W d1_10 (feq (by decide)).2 (by decide) rfl ?_
    refine gIloadN W d1_17 rfl rfl ?_
    refine gIconst (z := (2 : Int32)) W d1_18 rfl rfl ?_
    refine gIcmpYes (pc' := 27) W d1_19 (feq (by decide)).2 (by decide) rfl ?_
    refine gIloadN W d1_27 rfl rfl ?_
    refine gIconst (z := (3 : Int32)) W d1_28 rfl rfl ?_
    refine gIcmpYes (pc' := 37) W d1_29 (feq (by decide)).2 (by decide) rfl ?_
    refine gIloadN W d1_37 rfl rfl ?_
    refine gIconst (z := (4 : Int32)) W d1_38 rfl rfl ?_
    refine gIcmpYes (pc' := 47) W d1_39 (feq (by decide)).2 (by decide) rfl ?_
    refine gIloadN W d1_47 rfl rfl ?_
    refine gIconst (z := (5 : Int32)) W d1_48 rfl rfl ?_
    refine gIcmpYes (pc' := 57) W d1_49 (feq (by decide)).2 (by decide) rfl ?_
    refine gIloadN W d1_57 rfl rfl ?_
    refine gBipush (z := (6 : Int32)) W d1_58 rfl rfl ?_
    refine gIcmpYes (pc' := 68) W d1_60 (feq (by decide)).2 (by decide) rfl ?_
    refine gBipush (z := (80 : Int32)) W d1_68 rfl rfl ?_
    refine wNewP (cap := 80) W d1_70 (ow4 hw) (by decide) (by decide) (by decide) (by decide) (by decide) rfl fun T2594 h2596 a2597 k2601 W2595 E2598 g2599 A2600 => ?_
    have f2602 : Arv Z h2596 a2597 k2601 .char (80 : Int32) [(.int (0 : Int32)), (.int (0 : Int32)), (.int (0 : Int32)), (.int (0 : Int32)), (.int (0 : Int32)), (.int (0 : Int32)), (.int (0 : Int32)), (.int (0 : Int32)), (.int (0 : Int32)), (.int (0 : Int32)), (.int (0 : Int32)), (.int (0 : Int32)), (.int (0 : Int32)), (.int (0 : Int32)), (.int (0 : Int32)), (.int (0 : Int32)), (.int (0 : Int32)), (.int (0 : Int32)), (.int (0 : Int32)), (.int (0 : Int32)), (.int (0 : Int32)), (.int (0 : Int32)), (.int (0 : Int32)), (.int (0 : Int32)), (.int (0 : Int32)), (.int (0 : Int32)), (.int (0 : Int32)), (.int (0 : Int32)), (.int (0 : Int32)), (.int (0 : Int32)), (.int (0 : Int32)), (.int (0 : Int32)), (.int (0 : Int32)), (.int (0 : Int32)), (.int (0 : Int32)), (.int (0 : Int32)), (.int (0 : Int32)), (.int (0 : Int32)), (.int (0 : Int32)), (.int (0 : Int32)), (.int (0 : Int32)), (.int (0 : Int32)), (.int (0 : Int32)), (.int (0 : Int32)), (.int (0 : Int32)), (.int (0 : Int32)), (.int (0 : Int32)), (.int (0 : Int32)), (.int (0 : Int32)), (.int (0 : Int32)), (.int (0 : Int32)), (.int (0 : Int32)), (.int (0 : Int32)), (.int (0 : Int32)), (.int (0 : Int32)), (.int (0 : Int32)), (.int (0 : Int32)), (.int (0 : Int32)), (.int (0 : Int32)), (.int (0 : Int32)), (.int (0 : Int32)), (.int (0 : Int32)), (.int (0 : Int32)), (.int (0 : Int32)), (.int (0 : Int32)), (.int (0 : Int32)), (.int (0 : Int32)), (.int (0 : Int32)), (.int (0 : Int32)), (.int (0 : Int32)), (.int (0 : Int32)), (.int (0 : Int32)), (.int (0 : Int32)), (.int (0 : Int32)), (.int (0 : Int32)), (.int (0 : Int32)), (.int (0 : Int32)), (.int (0 : Int32)), (.int (0 : Int32)), (.int (0 : Int32))] (.int 0) := A2600 80
    have f2603 : Arv Z h2596 a2597 k2601 .char (Int32.ofNat 80) (List.replicate 80 (Value.int 0)) (.int 0) := A2600 80
    exact wRetA (so := [a2597]) (t := .array .char) W2595 d1_72 rfl rfl rfl (by decide) (by decide) (all1 ⟨by simp, (Nat.le_of_eq g2599.symm)⟩ alln) ⟨a2597, k2601, 80, rfl, rfl, (Nat.le_of_eq g2599.symm), (by decide), f2603⟩
-- CUT
theorem ow0 {a0 : Array Value} {Z : State} (hw : ∀ d ∈ tables_1, d.before a0 Z = true) : (Jvm.Cond.methodLink "com/example/tallykeep/tallykeep/core/FileTextShortenedPinLaw" (13 : Nat) ({ cls := "com/example/tallykeep/tallykeep/core/FileTextShortenedPinLaw", name := "make", desc := "(I)[C" } : Jvm.MethodName)).before a0 Z = true := hw _ (List.mem_of_getElem? (i := 0) rfl)
theorem ow2 {a0 : Array Value} {Z : State} (hw : ∀ d ∈ tables_1, d.before a0 Z = true) : (Jvm.Cond.initialized "com/example/tallykeep/tallykeep/core/FileTextShortenedPinLaw").before a0 Z = true := hw _ (List.mem_of_getElem? (i := 2) rfl)
theorem ow3 {a0 : Array Value} {Z : State} (hw : ∀ d ∈ tables_1, d.before a0 Z = true) : (Jvm.Cond.code ({ cls := "com/example/tallykeep/tallykeep/core/FileTextShortenedPinLaw", name := "make", desc := "(I)[C" } : Jvm.MethodName) method_2_code (1 : Nat) (Option.some (Jvm.ClassFile.FieldType.array Jvm.ClassFile.FieldType.char))).before a0 Z = true := hw _ (List.mem_of_getElem? (i := 3) rfl)
theorem opd39 : parseMethodDescriptor "(I)[C" = some ⟨[.int], some (.array .char)⟩ := by decide +kernel
theorem ow1 {a0 : Array Value} {Z : State} (hw : ∀ d ∈ tables_1, d.before a0 Z = true) : (Jvm.Cond.static ({ cls := "com/example/tallykeep/tallykeep/core/FileTextShortenedPinLaw", name := "make", desc := "(I)[C" } : Jvm.MethodName)).before a0 Z = true := hw _ (List.mem_of_getElem? (i := 1) rfl)
theorem ow5 {a0 : Array Value} {Z : State} (hw : ∀ d ∈ tables_1, d.before a0 Z = true) : (Jvm.Cond.classLink "com/example/tallykeep/tallykeep/core/FileTextShortenedPinLaw" (8 : Nat) "java/lang/String").before a0 Z = true := hw _ (List.mem_of_getElem? (i := 5) rfl)
theorem ow8 {a0 : Array Value} {Z : State} (hw : ∀ d ∈ tables_1, d.before a0 Z = true) : (Jvm.Cond.methodLink "com/example/tallykeep/tallykeep/core/FileTextShortenedPinLaw" (21 : Nat) ({ cls := "java/lang/String", name := "<init>", desc := "([C)V" } : Jvm.MethodName)).before a0 Z = true := hw _ (List.mem_of_getElem? (i := 8) rfl)
theorem opd40 : parseMethodDescriptor "([C)V" = some ⟨[.array .char], none⟩ := by decide +kernel
theorem ow9 {a0 : Array Value} {Z : State} (hw : ∀ d ∈ tables_1, d.before a0 Z = true) : (Jvm.Cond.instanceMethod ({ cls := "java/lang/String", name := "<init>", desc := "([C)V" } : Jvm.MethodName)).before a0 Z = true := hw _ (List.mem_of_getElem? (i := 9) rfl)
theorem ow26 {a0 : Array Value} {Z : State} (hw : ∀ d ∈ tables_1, d.before a0 Z = true) : (Jvm.Cond.methodLink "com/example/tallykeep/tallykeep/core/FileTextShortenedPinLaw" (24 : Nat) ({ cls := "com/example/tallykeep/tallykeep/core/FileText", name := "shortened", desc := "(Ljava/lang/String;)Ljava/lang/String;" } : Jvm.MethodName)).before a0 Z = true := hw _ (List.mem_of_getElem? (i := 26) rfl)
theorem ow28 {a0 : Array Value} {Z : State} (hw : ∀ d ∈ tables_1, d.before a0 Z = true) : (Jvm.Cond.initialized "com/example/tallykeep/tallykeep/core/FileText").before a0 Z = true := hw _ (List.mem_of_getElem? (i := 28) rfl)
theorem ow29 {a0 : Array Value} {Z : State} (hw : ∀ d ∈ tables_1, d.before a0 Z = true) : (Jvm.Cond.code ({ cls := "com/example/tallykeep/tallykeep/core/FileText", name := "shortened", desc := "(Ljava/lang/String;)Ljava/lang/String;" } : Jvm.MethodName) prog_13_method_3_code (1 : Nat) (Option.some (Jvm.ClassFile.FieldType.object "java/lang/String"))).before a0 Z = true := hw _ (List.mem_of_getElem? (i := 29) rfl)
theorem opd41 : parseMethodDescriptor "(Ljava/lang/String;)Ljava/lang/String;" = some ⟨[.object "java/lang/String"], some (.object "java/lang/String")⟩ := by decide +kernel
theorem ow27 {a0 : Array Value} {Z : State} (hw : ∀ d ∈ tables_1, d.before a0 Z = true) : (Jvm.Cond.static ({ cls := "com/example/tallykeep/tallykeep/core/FileText", name := "shortened", desc := "(Ljava/lang/String;)Ljava/lang/String;" } : Jvm.MethodName)).before a0 Z = true := hw _ (List.mem_of_getElem? (i := 27) rfl)
theorem ow45 {a0 : Array Value} {Z : State} (hw : ∀ d ∈ tables_1, d.before a0 Z = true) : (Jvm.Cond.code ({ cls := "java/lang/String", name := "equals", desc := "(Ljava/lang/Object;)Z" } : Jvm.MethodName) jdk_42_method_66_code (3 : Nat) (Option.some Jvm.ClassFile.FieldType.boolean)).before a0 Z = true := hw _ (List.mem_of_getElem? (i := 45) rfl)
theorem opd42 : parseMethodDescriptor "(Ljava/lang/Object;)Z" = some ⟨[.object "java/lang/Object"], some (.boolean)⟩ := by decide +kernel
theorem ow41 {a0 : Array Value} {Z : State} (hw : ∀ d ∈ tables_1, d.before a0 Z = true) : (Jvm.Cond.methodLink "com/example/tallykeep/tallykeep/core/FileTextShortenedPinLaw" (30 : Nat) ({ cls := "java/lang/String", name := "equals", desc := "(Ljava/lang/Object;)Z" } : Jvm.MethodName)).before a0 Z = true := hw _ (List.mem_of_getElem? (i := 41) rfl)
theorem ow42 {a0 : Array Value} {Z : State} (hw : ∀ d ∈ tables_1, d.before a0 Z = true) : (Jvm.Cond.declares ({ cls := "java/lang/String", name := "equals", desc := "(Ljava/lang/Object;)Z" } : Jvm.MethodName)).before a0 Z = true := hw _ (List.mem_of_getElem? (i := 42) rfl)
theorem ow44 {a0 : Array Value} {Z : State} (hw : ∀ d ∈ tables_1, d.before a0 Z = true) : (Jvm.Cond.selects "java/lang/String" ({ cls := "java/lang/String", name := "equals", desc := "(Ljava/lang/Object;)Z" } : Jvm.MethodName) ({ cls := "java/lang/String", name := "equals", desc := "(Ljava/lang/Object;)Z" } : Jvm.MethodName)).before a0 Z = true := hw _ (List.mem_of_getElem? (i := 44) rfl)
theorem ow43 {a0 : Array Value} {Z : State} (hw : ∀ d ∈ tables_1, d.before a0 Z = true) : (Jvm.Cond.instanceMethod ({ cls := "java/lang/String", name := "equals", desc := "(Ljava/lang/Object;)Z" } : Jvm.MethodName)).before a0 Z = true := hw _ (List.mem_of_getElem? (i := 43) rfl)
theorem ow46 {a0 : Array Value} {Z : State} (hw : ∀ d ∈ tables_1, d.before a0 Z = true) : (Jvm.Cond.constant "com/example/tallykeep/tallykeep/core/FileTextShortenedPinLaw" (19 : Nat) (2147483647 : Int32)).before a0 Z = true := hw _ (List.mem_of_getElem? (i := 46) rfl)
theorem ow47 {a0 : Array Value} {Z : State} (hw : ∀ d ∈ tables_1, d.before a0 Z = true) : (Jvm.Cond.constant "com/example/tallykeep/tallykeep/core/FileTextShortenedPinLaw" (20 : Nat) (65535 : Int32)).before a0 Z = true := hw _ (List.mem_of_getElem? (i := 47) rfl)
theorem ow205 {a0 : Array Value} {Z : State} (hw : ∀ d ∈ tables_1, d.before a0 Z = true) : (Jvm.Cond.methodLink "com/example/tallykeep/tallykeep/core/FileTextShortenedPinLaw" (34 : Nat) ({ cls := "java/lang/String", name := "length", desc := "()I" } : Jvm.MethodName)).before a0 Z = true := hw _ (List.mem_of_getElem? (i := 205) rfl)
theorem ow220 {a0 : Array Value} {Z : State} (hw : ∀ d ∈ tables_1, d.before a0 Z = true) : (Jvm.Cond.methodLink "com/example/tallykeep/tallykeep/core/FileTextShortenedPinLaw" (38 : Nat) ({ cls := "com/example/tallykeep/tallykeep/core/FileTextShortenedPinLaw", name := "same", desc := "(Ljava/lang/String;Ljava/lang/String;I)Z" } : Jvm.MethodName)).before a0 Z = true := hw _ (List.mem_of_getElem? (i := 220) rfl)
theorem ow222 {a0 : Array Value} {Z : State} (hw : ∀ d ∈ tables_1, d.before a0 Z = true) : (Jvm.Cond.code ({ cls := "com/example/tallykeep/tallykeep/core/FileTextShortenedPinLaw", name := "same", desc := "(Ljava/lang/String;Ljava/lang/String;I)Z" } : Jvm.MethodName) method_3_code (3 : Nat) (Option.some Jvm.ClassFile.FieldType.boolean)).before a0 Z = true := hw _ (List.mem_of_getElem? (i := 222) rfl)
theorem opd43 : parseMethodDescriptor "(Ljava/lang/String;Ljava/lang/String;I)Z" = some ⟨[.object "java/lang/String", .object "java/lang/String", .int], some (.boolean)⟩ := by decide +kernel
theorem ow221 {a0 : Array Value} {Z : State} (hw : ∀ d ∈ tables_1, d.before a0 Z = true) : (Jvm.Cond.static ({ cls := "com/example/tallykeep/tallykeep/core/FileTextShortenedPinLaw", name := "same", desc := "(Ljava/lang/String;Ljava/lang/String;I)Z" } : Jvm.MethodName)).before a0 Z = true := hw _ (List.mem_of_getElem? (i := 221) rfl)
theorem oef_orw_law (m_ : MethodId) (x0 : Int32) (x1 : Int32) (x2 : Int32) (x3 : Int32) (x4 : Int32) (x5 : Int32)  : (entryFrame m_ #[(.int x0), (.int x1), (.int x2), (.int x3), (.int x4), (.int x5)] maxLocals).locals = #[.val (.int x0), .val (.int x1), .val (.int x2), .val (.int x3), .val (.int x4), .val (.int x5), .unset, .unset, .unset, .unset, .unset, .unset, .unset] := by first | (simp [entryFrame, argsToLocals, Value.category, maxLocals]; done) | rfl
set_option maxRecDepth 65536 in
set_option maxHeartbeats 40000000 in
theorem orw_law (l : Launch) (Z : State) (a0 : Array Value) (hw : ∀ d ∈ tables_1, d.before a0 Z = true) (hE : EW Z a0 consts_1) (x0 : Int32) (x1 : Int32) (x2 : Int32) (x3 : Int32) (x4 : Int32) (x5 : Int32) (z : Int32) (fm : Value) (h : Heap) (hO : Old Z Z.heap.size h) (SC : (Sta Z Z.heap "java/lang/String" "COMPACT_STRINGS" "Z" (.int z))) (hz : (¬ z = 0)) (SA : (Sta Z Z.heap "java/lang/StringUTF16" "$assertionsDisabled" "Z" (.int (1 : Int32)))) (SH : (Sta Z Z.heap "java/lang/StringUTF16" "HI_BYTE_SHIFT" "I" (.int (0 : Int32)))) (SL : (Sta Z Z.heap "java/lang/StringUTF16" "LO_BYTE_SHIFT" "I" (.int (8 : Int32)))) (SF : (Sta Z Z.heap "jdk/internal/util/Preconditions" "SIOOBE_FORMATTER" "Ljava/util/function/BiFunction;" fm)) (rf : (fm.isRef = true))  :
    Ct l Z consts_1 x code maxLocals ret room_1 #[(.int x0), (.int x1), (.int x2), (.int x3), (.int x4), (.int x5)] h [] (fun rv' hp' so' => rv' = some (.int (1 : Int32)) ∧ so' = []) := by
  refine Ct.mk "com/example/tallykeep/tallykeep/core/FileTextShortenedPinLaw" "law" rfl rfl (a0 := a0) (plainFor_of_name opn9) hO hE (fun x q => nomatch q) ?_
  intro K T W
  rw [oef_orw_law]
  refine gIloadN W at_0 rfl rfl ?_
  refine gBipush (z := (7 : Int32)) W at_1 rfl rfl ?_
  obtain ⟨v2604, e2605⟩ : ∃ v : Int32, x0 &&& (7 : Int32) = v := ⟨_, rfl⟩
  refine gIand W at_3 e2605 rfl ?_
  refine wStatic (y := (⟨"com/example/tallykeep/tallykeep/core/FileTextShortenedPinLaw", "make", "(I)[C"⟩ : MethodName)) (Wd := 0) (argsL := [(.int v2604)]) (rest := []) W at_4 (ow0 hw) (ow1 hw) (ow2 hw) (ow3 hw) (by decide) (Cb.ct (orw_mk l Z a0 hw hE (v2604) h W.old (and7 e2605) ) (ow3 hw) (ow2 hw) hE (by decide) (by decide)) (by simp) rfl (lenOf opd39 rfl) rfl (Nat.le_of_eq rfl) (by decide) (by decide) rfl fun v2610 so2611 T2606 h2608 W2607 kp2609 sp2612 q2613 => ?_
  obtain ⟨r2614, kr2615, n2616, rfl, rfl, f2617, f2618, f2619⟩ := q2613
  show Go K _ T2606 7 #[.val (.int x0), .val (.int x1), .val (.int x2), .val (.int x3), .val (.int x4), .val (.int x5), .unset, .unset, .unset, .unset, .unset, .unset, .unset] [(.ref r2614)]
  refine gAstore (ls' := #[.val (.int x0), .val (.int x1), .val (.int x2), .val (.int x3), .val (.int x4), .val (.int x5), .val (.ref r2614), .unset, .unset, .unset, .unset, .unset, .unset]) W2607 at_7 rfl rfl rfl ?_
  refine gAload W2607 at_9 rfl rfl rfl ?_
  refine wLen W2607 at_11 f2619 rfl ?_
  refine gIstore (ls' := #[.val (.int x0), .val (.int x1), .val (.int x2), .val (.int x3), .val (.int x4), .val (.int x5), .val (.ref r2614), .val (.int (Int32.ofNat n2616)), .unset, .unset, .unset, .unset, .unset]) W2607 at_12 rfl rfl ?_
  refine gIconst (z := (0 : Int32)) W2607 at_14 rfl rfl ?_
  refine gIstore (ls' := #[.val (.int x0), .val (.int x1), .val (.int x2), .val (.int x3), .val (.int x4), .val (.int x5), .val (.ref r2614), .val (.int (Int32.ofNat n2616)), .val (.int (0 : Int32)), .unset, .unset, .unset, .unset]) W2607 at_15 rfl rfl ?_
  refine gIconst (z := (0 : Int32)) W2607 at_17 rfl rfl ?_
  refine gIstore (ls' := #[.val (.int x0), .val (.int x1), .val (.int x2), .val (.int x3), .val (.int x4), .val (.int x5), .val (.ref r2614), .val (.int (Int32.ofNat n2616)), .val (.int (0 : Int32)), .val (.int (0 : Int32)), .unset, .unset, .unset]) W2607 at_18 rfl rfl ?_
  refine gIload W2607 at_20 rfl rfl ?_
  by_cases n0 : n2616 = 0
  · refine gIfYes (pc' := 64) W2607 at_22 ((if0 _ _).trans (flt (fun q => absurd ((ltc_ofNat (P := 0) (by decide) (by omega)).mp q) (by omega))).2.2.2) (by decide) rfl ?_
    refine wNewO W2607 at_64 (ow5 hw) (ow6 hw) (ow7 hw) (by decide) (by decide) rfl fun T2620 h2622 a2623 W2621 E2624 g2625 A2626 D2627  => ?_
    have f2628 : Fld Z h2622 a2623 "java/lang/String" "value" "[B" .null := D2627 (Or.inr (ow20 hw)) (ty := .array .byte) (by decide)
    have f2629 : Fld Z h2622 a2623 "java/lang/String" "coder" "B" (.int (0 : Int32)) := D2627 (Or.inr (ow21 hw)) (ty := .byte) (by decide)
    refine gDup W2621 at_67 rfl rfl ?_
    refine gAload W2621 at_68 rfl rfl rfl ?_
    have f2630 := f2619.ext E2624
    have f2631 : Arv Z h2622 r2614 kr2615 .char (0 : Int32) [] (.int 0) := by have q := f2630; rw [n0] at q; exact q
    refine wSpecial (y := (⟨"java/lang/String", "<init>", "([C)V"⟩ : MethodName)) (Wd := 1) (a := a2623) (argsL := [(.ref r2614)]) (rest := [(.ref a2623)]) W2621 at_70 rfl (ow8 hw) (ow9 hw) (ow10 hw) (by decide) (Cb.ct (orm_new1E l Z a0 hw hE (a2623) (r2614) (kr2615) h2622 W2621.old A2626 f2628 f2629 f2631 (Nat.le_trans W2607.old.2.1 (Nat.le_of_eq g2625.symm))) (ow10 hw) (ow7 hw) hE (by decide) (by decide)) (by simp) rfl (lenOf opd40 rfl) rfl (Nat.le_of_eq rfl) (by decide) (by decide) rfl fun v2636 so2637 T2632 h2634 W2633 kp2635 sp2638 q2639 => ?_
    obtain ⟨t2640, kb2641, rfl, rfl, f2642, f2643, f2644, f2645⟩ := q2639
    show Go K _ T2632 73 #[.val (.int x0), .val (.int x1), .val (.int x2), .val (.int x3), .val (.int x4), .val (.int x5), .val (.ref r2614), .val (.int (Int32.ofNat n2616)), .val (.int (0 : Int32)), .val (.int (0 : Int32)), .unset, .unset, .unset] [(.ref a2623)]
    have f2646 : Str Z h2634 a2623 [] := Str.mk (cs := []) f2642 f2643 f2644 f2645 (show _ = Int32.ofNat 0 from by decide) alln (show 0 ≤ 4000 from by decide)
    refine gAstore (ls' := #[.val (.int x0), .val (.int x1), .val (.int x2), .val (.int x3), .val (.int x4), .val (.int x5), .val (.ref r2614), .val (.int (Int32.ofNat n2616)), .val (.int (0 : Int32)), .val (.int (0 : Int32)), .val (.ref a2623), .unset, .unset]) W2633 at_73 rfl rfl rfl ?_
    refine gAload W2633 at_75 rfl rfl rfl ?_
    refine wStatic (y := (⟨"com/example/tallykeep/tallykeep/core/FileText", "shortened", "(Ljava/lang/String;)Ljava/lang/String;"⟩ : MethodName)) (Wd := 0) (argsL := [(.ref a2623)]) (rest := []) W2633 at_77 (ow26 hw) (ow27 hw) (ow28 hw) (ow29 hw) (by decide) (Cb.ct (orw_sh1 l Z a0 hw hE (a2623) ([]) (z) h2634 W2633.old SC hz f2646 (by decide) ) (ow29 hw) (ow28 hw) hE (by decide) (by decide)) (by simp) rfl (lenOf opd41 rfl) rfl (Nat.le_of_eq rfl) (by decide) (by decide) rfl fun v2651 so2652 T2647 h2649 W2648 kp2650 sp2653 q2654 => ?_
    obtain ⟨rfl, rfl⟩ := q2654
    show Go K _ T2647 80 #[.val (.int x0), .val (.int x1), .val (.int x2), .val (.int x3), .val (.int x4), .val (.int x5), .val (.ref r2614), .val (.int (Int32.ofNat n2616)), .val (.int (0 : Int32)), .val (.int (0 : Int32)), .val (.ref a2623), .unset, .unset] [(.ref a2623)]
    refine gAstore (ls' := #[.val (.int x0), .val (.int x1), .val (.int x2), .val (.int x3), .val (.int x4), .val (.int x5), .val (.ref r2614), .val (.int (Int32.ofNat n2616)), .val (.int (0 : Int32)), .val (.int (0 : Int32)), .val (.ref a2623), .val (.ref a2623), .unset]) W2648 at_80 rfl rfl rfl ?_
    refine gIload W2648 at_82 rfl rfl ?_
    refine gBipush (z := (40 : Int32)) W2648 at_84 rfl rfl ?_
    refine gIcmpNo W2648 at_86 (flt (fun q => absurd ((ltc_ofNat (P := 40) (by decide) (by omega)).mp q) (by omega))).2.2.1 rfl ?_
    refine gAload W2648 at_89 rfl rfl rfl ?_
    refine gAload W2648 at_91 rfl rfl rfl ?_
    have f2655 := f2646.keep kp2650 nin0 (a0 := a0) alln
    refine wVirtual (y := (⟨"java/lang/String", "equals", "(Ljava/lang/Object;)Z"⟩ : MethodName)) (z := (⟨"java/lang/String", "equals", "(Ljava/lang/Object;)Z"⟩ : MethodName)) (Wd := 0) (a := a2623) (argsL := [(.ref a2623)]) (rest := []) W2648 at_93 (ow41 hw) (ow42 hw) (ow44 hw) (ow43 hw) (nfS (ow44 hw)) (by decide) (Cb.ct (orm_eqSame l Z a0 hw hE (a2623) h2649 W2648.old  ) (ow45 hw) (ow7 hw) hE (by decide) (by decide)) f2655.exa (by simp) rfl (lenOf opd42 rfl) rfl (Nat.le_of_eq rfl) (by decide) (by decide) rfl fun v2660 so2661 T2656 h2658 W2657 kp2659 sp2662 q2663 => ?_
    obtain ⟨rfl, rfl⟩ := q2663
    show Go K _ T2656 96 #[.val (.int x0), .val (.int x1), .val (.int x2), .val (.int x3), .val (.int x4), .val (.int x5), .val (.ref r2614), .val (.int (Int32.ofNat n2616)), .val (.int (0 : Int32)), .val (.int (0 : Int32)), .val (.ref a2623), .val (.ref a2623), .unset] [(.int (1 : Int32))]
    exact wRetI (so := []) (t := .boolean) W2657 at_96 (by simp) rfl (by decide) (by decide) (fun _ q => nomatch q) ⟨rfl, rfl⟩
  · refine gIfNo W2607 at_22 ((if0 _ _).trans (tlt ((ltc_ofNat (P := 0) (by decide) (by omega)).mpr (by omega))).2.2.2) rfl ?_
    refine gIloadN W2607 at_25 rfl rfl ?_
    refine wLdcI (v := (2147483647 : Int32)) W2607 at_26 (ow46 hw) rfl ?_
    obtain ⟨v2664, e2665⟩ : ∃ v : Int32, x1 &&& (2147483647 : Int32) = v := ⟨_, rfl⟩
    refine gIand W2607 at_28 e2665 rfl ?_
    refine gIload W2607 at_29 rfl rfl ?_
    obtain ⟨v2666, e2667⟩ : ∃ v : Int32, v2664 % (Int32.ofNat n2616) = v := ⟨_, rfl⟩
    refine gIrem W2607 at_31 (ofNat_ne (by omega) (by omega)) e2667 rfl ?_
    obtain ⟨pn, hpn, rfl⟩ := natOf (d := n2616) (rem_lt (and31 e2665) e2667 (ofNat_toInt (by omega)) (by omega))
    show Go K _ T2606 32 #[.val (.int x0), .val (.int x1), .val (.int x2), .val (.int x3), .val (.int x4), .val (.int x5), .val (.ref r2614), .val (.int (Int32.ofNat n2616)), .val (.int (0 : Int32)), .val (.int (0 : Int32)), .unset, .unset, .unset] [(.int (Int32.ofNat pn))]
    refine gIstore (ls' := #[.val (.int x0), .val (.int x1), .val (.int x2), .val (.int x3), .val (.int x4), .val (.int x5), .val (.ref r2614), .val (.int (Int32.ofNat n2616)), .val (.int (Int32.ofNat pn)), .val (.int (0 : Int32)), .unset, .unset, .unset]) W2607 at_32 rfl rfl ?_
    refine gIloadN W2607 at_34 rfl rfl ?_
    refine wLdcI (v := (2147483647 : Int32)) W2607 at_35 (ow46 hw) rfl ?_
    obtain ⟨v2668, e2669⟩ : ∃ v : Int32, x2 &&& (2147483647 : Int32) = v := ⟨_, rfl⟩
    refine gIand W2607 at_37 e2669 rfl ?_
    refine gIload W2607 at_38 rfl rfl ?_
    obtain ⟨v2670, e2671⟩ : ∃ v : Int32, v2668 % (Int32.ofNat n2616) = v := ⟨_, rfl⟩
    refine gIrem W2607 at_40 (ofNat_ne (by omega) (by omega)) e2671 rfl ?_
    obtain ⟨qn, hqn, rfl⟩ := natOf (d := n2616) (rem_lt (and31 e2669) e2671 (ofNat_toInt (by omega)) (by omega))
    show Go K _ T2606 41 #[.val (.int x0), .val (.int x1), .val (.int x2), .val (.int x3), .val (.int x4), .val (.int x5), .val (.ref r2614), .val (.int (Int32.ofNat n2616)), .val (.int (Int32.ofNat pn)), .val (.int (0 : Int32)), .unset, .unset, .unset] [(.int (Int32.ofNat qn))]
    refine gIstore (ls' := #[.val (.int x0), .val (.int x1), .val (.int x2), .val (.int x3), .val (.int x4), .val (.int x5), .val (.ref r2614), .val (.int (Int32.ofNat n2616)), .val (.int (Int32.ofNat pn)), .val (.int (Int32.ofNat qn)), .unset, .unset, .unset]) W2607 at_41 rfl rfl ?_
    refine gAload W2607 at_43 rfl rfl rfl ?_
    refine gIload W2607 at_45 rfl rfl ?_
    refine gIloadN W2607 at_47 rfl rfl ?_
    refine wLdcI (v := (65535 : Int32)) W2607 at_48 (ow47 hw) rfl ?_
    obtain ⟨v2672, e2673⟩ : ∃ v : Int32, x3 &&& (65535 : Int32) = v := ⟨_, rfl⟩
    refine gIand W2607 at_50 e2673 rfl ?_
    obtain ⟨v2674, e2675⟩ : ∃ v : Int32, v2672.toUInt32.toUInt16.toUInt32.toInt32 = v := ⟨_, rfl⟩
    refine gI2C W2607 at_51 e2675 rfl ?_
    have hc2676 := ch16 e2673 e2675
    refine wStC (y := v2674) W2607 at_52 (by simp) f2619 (ofNat_inb (by omega) (by omega)) hc2676.2 pn (ofNat_clamp (by omega)) (by first | (simp; omega) | simp) rfl fun T2677 h2679 W2678 wr2680 A2681 => ?_
    refine gAload W2678 at_53 rfl rfl rfl ?_
    refine gIload W2678 at_55 rfl rfl ?_
    refine gIload W2678 at_57 rfl rfl ?_
    refine wLdcI (v := (65535 : Int32)) W2678 at_59 (ow47 hw) rfl ?_
    obtain ⟨v2682, e2683⟩ : ∃ v : Int32, x4 &&& (65535 : Int32) = v := ⟨_, rfl⟩
    refine gIand W2678 at_61 e2683 rfl ?_
    obtain ⟨v2684, e2685⟩ : ∃ v : Int32, v2682.toUInt32.toUInt16.toUInt32.toInt32 = v := ⟨_, rfl⟩
    refine gI2C W2678 at_62 e2685 rfl ?_
    have hc2686 := ch16 e2683 e2685
    refine wStC (y := v2684) W2678 at_63 (by simp) A2681 (ofNat_inb (by omega) (by omega)) hc2686.2 qn (ofNat_clamp (by omega)) (by first | (simp; omega) | simp) rfl fun T2687 h2689 W2688 wr2690 A2691 => ?_
    obtain ⟨cs2692, ecs⟩ : ∃ cs : List Int32, (((List.replicate n2616 (0 : Int32)).set pn v2674).set qn v2684) = cs := ⟨_, rfl⟩
    have hcl : cs2692.length = n2616 := by rw [← ecs]; simp
    have h16 : ∀ c ∈ cs2692, B16 c := by rw [← ecs]; exact set16 (set16 rep16 hc2676.1) hc2686.1
    have f2693 : Arv Z h2689 r2614 kr2615 .char (Int32.ofNat n2616) (cs2692.map Value.int) (.int 0) := arvL A2691 (by rw [← ecs]; simp)
    refine wNewO W2688 at_64 (ow5 hw) (ow6 hw) (ow7 hw) (by decide) (by decide) rfl fun T2694 h2696 a2697 W2695 E2698 g2699 A2700 D2701  => ?_
    have f2702 : Fld Z h2696 a2697 "java/lang/String" "value" "[B" .null := D2701 (Or.inr (ow20 hw)) (ty := .array .byte) (by decide)
    have f2703 : Fld Z h2696 a2697 "java/lang/String" "coder" "B" (.int (0 : Int32)) := D2701 (Or.inr (ow21 hw)) (ty := .byte) (by decide)
    refine gDup W2695 at_67 rfl rfl ?_
    refine gAload W2695 at_68 rfl rfl rfl ?_
    have f2704 := f2693.ext E2698
    refine wSpecial (y := (⟨"java/lang/String", "<init>", "([C)V"⟩ : MethodName)) (Wd := 1) (a := a2697) (argsL := [(.ref r2614)]) (rest := [(.ref a2697)]) W2695 at_70 rfl (ow8 hw) (ow9 hw) (ow10 hw) (by decide) (strAny hw hE a2697 r2614 (Int32.ofNat n2616) cs2692 n2616 1 W2695.old (Nat.le_trans W2688.old.2.1 (Nat.le_of_eq g2699.symm)) A2700 f2702 f2703 f2704 SC hz SA SH SL hcl rfl (by omega) f2618 h16 (by decide) (by decide)) (by simp) rfl (lenOf opd40 rfl) rfl (Nat.le_of_eq rfl) (by decide) (by decide) rfl fun v2709 so2710 T2705 h2707 W2706 kp2708 sp2711 q2712 => ?_
    obtain ⟨rfl, rfl, f2713, f2714⟩ := q2712
    show Go K _ T2705 73 #[.val (.int x0), .val (.int x1), .val (.int x2), .val (.int x3), .val (.int x4), .val (.int x5), .val (.ref r2614), .val (.int (Int32.ofNat n2616)), .val (.int (Int32.ofNat pn)), .val (.int (Int32.ofNat qn)), .unset, .unset, .unset] [(.ref a2697)]
    by_cases n40 : n2616 ≤ 40
    · refine gAstore (ls' := #[.val (.int x0), .val (.int x1), .val (.int x2), .val (.int x3), .val (.int x4), .val (.int x5), .val (.ref r2614), .val (.int (Int32.ofNat n2616)), .val (.int (Int32.ofNat pn)), .val (.int (Int32.ofNat qn)), .val (.ref a2697), .unset, .unset]) W2706 at_73 rfl rfl rfl ?_
      refine gAload W2706 at_75 rfl rfl rfl ?_
      refine wStatic (y := (⟨"com/example/tallykeep/tallykeep/core/FileText", "shortened", "(Ljava/lang/String;)Ljava/lang/String;"⟩ : MethodName)) (Wd := 0) (argsL := [(.ref a2697)]) (rest := []) W2706 at_77 (ow26 hw) (ow27 hw) (ow28 hw) (ow29 hw) (by decide) (Cb.ct (orw_sh1 l Z a0 hw hE (a2697) (cs2692) (z) h2707 W2706.old SC hz f2714 (by omega) ) (ow29 hw) (ow28 hw) hE (by decide) (by decide)) (by simp) rfl (lenOf opd41 rfl) rfl (Nat.le_of_eq rfl) (by decide) (by decide) rfl fun v2719 so2720 T2715 h2717 W2716 kp2718 sp2721 q2722 => ?_
      obtain ⟨rfl, rfl⟩ := q2722
      show Go K _ T2715 80 #[.val (.int x0), .val (.int x1), .val (.int x2), .val (.int x3), .val (.int x4), .val (.int x5), .val (.ref r2614), .val (.int (Int32.ofNat n2616)), .val (.int (Int32.ofNat pn)), .val (.int (Int32.ofNat qn)), .val (.ref a2697), .unset, .unset] [(.ref a2697)]
      refine gAstore (ls' := #[.val (.int x0), .val (.int x1), .val (.int x2), .val (.int x3), .val (.int x4), .val (.int x5), .val (.ref r2614), .val (.int (Int32.ofNat n2616)), .val (.int (Int32.ofNat pn)), .val (.int (Int32.ofNat qn)), .val (.ref a2697), .val (.ref a2697), .unset]) W2716 at_80 rfl rfl rfl ?_
      refine gIload W2716 at_82 rfl rfl ?_
      refine gBipush (z := (40 : Int32)) W2716 at_84 rfl rfl ?_
      refine gIcmpNo W2716 at_86 (flt (fun q => absurd ((ltc_ofNat (P := 40) (by decide) (by omega)).mp q) (by omega))).2.2.1 rfl ?_
      refine gAload W2716 at_89 rfl rfl rfl ?_
      refine gAload W2716 at_91 rfl rfl rfl ?_
      have f2723 := f2714.keep kp2718 nin0 (a0 := a0) alln
      refine wVirtual (y := (⟨"java/lang/String", "equals", "(Ljava/lang/Object;)Z"⟩ : MethodName)) (z := (⟨"java/lang/String", "equals", "(Ljava/lang/Object;)Z"⟩ : MethodName)) (Wd := 0) (a := a2697) (argsL := [(.ref a2697)]) (rest := []) W2716 at_93 (ow41 hw) (ow42 hw) (ow44 hw) (ow43 hw) (nfS (ow44 hw)) (by decide) (Cb.ct (orm_eqSame l Z a0 hw hE (a2697) h2717 W2716.old  ) (ow45 hw) (ow7 hw) hE (by decide) (by decide)) f2723.exa (by simp) rfl (lenOf opd42 rfl) rfl (Nat.le_of_eq rfl) (by decide) (by decide) rfl fun v2728 so2729 T2724 h2726 W2725 kp2727 sp2730 q2731 => ?_
      obtain ⟨rfl, rfl⟩ := q2731
      show Go K _ T2724 96 #[.val (.int x0), .val (.int x1), .val (.int x2), .val (.int x3), .val (.int x4), .val (.int x5), .val (.ref r2614), .val (.int (Int32.ofNat n2616)), .val (.int (Int32.ofNat pn)), .val (.int (Int32.ofNat qn)), .val (.ref a2697), .val (.ref a2697), .unset] [(.int (1 : Int32))]
      exact wRetI (so := []) (t := .boolean) W2725 at_96 (by simp) rfl (by decide) (by decide) (fun _ q => nomatch q) ⟨rfl, rfl⟩
    · refine gAstore (ls' := #[.val (.int x0), .val (.int x1), .val (.int x2), .val (.int x3), .val (.int x4), .val (.int x5), .val (.ref r2614), .val (.int (Int32.ofNat n2616)), .val (.int (Int32.ofNat pn)), .val (.int (Int32.ofNat qn)), .val (.ref a2697), .unset, .unset]) W2706 at_73 rfl rfl rfl ?_
      refine gAload W2706 at_75 rfl rfl rfl ?_
      refine wStatic (y := (⟨"com/example/tallykeep/tallykeep/core/FileText", "shortened", "(Ljava/lang/String;)Ljava/lang/String;"⟩ : MethodName)) (Wd := 0) (argsL := [(.ref a2697)]) (rest := []) W2706 at_77 (ow26 hw) (ow27 hw) (ow28 hw) (ow29 hw) (by decide) (Cb.ct (orw_sh2 l Z a0 hw hE (a2697) (cs2692) (z) (fm) h2707 W2706.old SC hz SA SH SL SF rf f2714 (by omega) (by omega) ) (ow29 hw) (ow28 hw) hE (by decide) (by decide)) (by simp) rfl (lenOf opd41 rfl) rfl (Nat.le_of_eq rfl) (by decide) (by decide) rfl fun v2736 so2737 T2732 h2734 W2733 kp2735 sp2738 q2739 => ?_
      obtain ⟨r2740, rfl, rfl, f2741⟩ := q2739
      show Go K _ T2732 80 #[.val (.int x0), .val (.int x1), .val (.int x2), .val (.int x3), .val (.int x4), .val (.int x5), .val (.ref r2614), .val (.int (Int32.ofNat n2616)), .val (.int (Int32.ofNat pn)), .val (.int (Int32.ofNat qn)), .val (.ref a2697), .unset, .unset] [(.ref r2740)]
      have hl43 : (cs2692.take 40 ++ dots).length = 43 := by rw [List.length_append, List.length_take]; show min 40 cs2692.length + 3 = 43; omega
      refine gAstore (ls' := #[.val (.int x0), .val (.int x1), .val (.int x2), .val (.int x3), .val (.int x4), .val (.int x5), .val (.ref r2614), .val (.int (Int32.ofNat n2616)), .val (.int (Int32.ofNat pn)), .val (.int (Int32.ofNat qn)), .val (.ref a2697), .val (.ref r2740), .unset]) W2733 at_80 rfl rfl rfl ?_
      refine gIload W2733 at_82 rfl rfl ?_
      refine gBipush (z := (40 : Int32)) W2733 at_84 rfl rfl ?_
      refine gIcmpYes (pc' := 97) W2733 at_86 (tlt ((ltc_ofNat (P := 40) (by decide) (by omega)).mpr (by omega))).2.2.1 (by decide) rfl ?_
      refine gAload W2733 at_97 rfl rfl rfl ?_
      refine wVirtual (y := (⟨"java/lang/String", "length", "()I"⟩ : MethodName)) (z := (⟨"java/lang/String", "length", "()I"⟩ : MethodName)) (Wd := 0) (a := r2740) (argsL := []) (rest := []) W2733 at_99 (ow205 hw) (ow31 hw) (ow33 hw) (ow32 hw) (nfS (ow33 hw)) (by decide) (lenPay hw hE r2740 (cs2692.take 40 ++ dots) 0 f2741 (SC.ext W2733.old.2) hz (by decide) (by decide)) f2741.exa (by simp) rfl (lenOf opd12 rfl) rfl (Nat.le_of_eq rfl) (by decide) (by decide) rfl fun v2746 so2747 T2742 h2744 W2743 kp2745 sp2748 q2749 => ?_
      obtain ⟨rfl, rfl⟩ := q2749
      show Go K _ T2742 102 #[.val (.int x0), .val (.int x1), .val (.int x2), .val (.int x3), .val (.int x4), .val (.int x5), .val (.ref r2614), .val (.int (Int32.ofNat n2616)), .val (.int (Int32.ofNat pn)), .val (.int (Int32.ofNat qn)), .val (.ref a2697), .val (.ref r2740), .unset] [(.int (Int32.ofNat (cs2692.take 40 ++ dots).length))]
      refine gBipush (z := (43 : Int32)) W2743 at_102 rfl rfl ?_
      refine gIcmpYes (pc' := 109) W2743 at_104 (teq (by rw [hl43] <;> rfl)).1 (by decide) rfl ?_
      refine gAload W2743 at_109 rfl rfl rfl ?_
      refine gBipush (z := (40 : Int32)) W2743 at_111 rfl rfl ?_
      have f2750 := f2741.keep kp2745 nin0 (a0 := a0) alln
      refine wVirtual (y := (⟨"java/lang/String", "charAt", "(I)C"⟩ : MethodName)) (z := (⟨"java/lang/String", "charAt", "(I)C"⟩ : MethodName)) (Wd := 0) (a := r2740) (argsL := [(.int (40 : Int32))]) (rest := []) W2743 at_113 (ow206 hw) (ow207 hw) (ow209 hw) (ow208 hw) (nfS (ow209 hw)) (by decide) (Cb.ct (orw_ch l Z a0 hw hE (r2740) ((cs2692.take 40 ++ dots)) (40) (z) (fm) h2744 W2743.old SC hz SA SH SL SF rf f2750 (by omega) ) (ow210 hw) (ow7 hw) hE (by decide) (by decide)) f2750.exa (by simp) rfl (lenOf opd38 rfl) rfl (Nat.le_of_eq rfl) (by decide) (by decide) rfl fun v2755 so2756 T2751 h2753 W2752 kp2754 sp2757 q2758 => ?_
      obtain ⟨rfl, rfl⟩ := q2758
      show Go K _ T2751 116 #[.val (.int x0), .val (.int x1), .val (.int x2), .val (.int x3), .val (.int x4), .val (.int x5), .val (.ref r2614), .val (.int (Int32.ofNat n2616)), .val (.int (Int32.ofNat pn)), .val (.int (Int32.ofNat qn)), .val (.ref a2697), .val (.ref r2740), .unset] [(.int ((cs2692.take 40 ++ dots).getD 40 0))]
      refine gBipush (z := (46 : Int32)) W2752 at_116 rfl rfl ?_
      refine gIcmpNo W2752 at_118 (teq (dot_at hcl (by omega) 0 (by decide))).2 rfl ?_
      refine gAload W2752 at_121 rfl rfl rfl ?_
      refine gBipush (z := (41 : Int32)) W2752 at_123 rfl rfl ?_
      have f2759 := f2750.keep kp2754 nin0 (a0 := a0) alln
      refine wVirtual (y := (⟨"java/lang/String", "charAt", "(I)C"⟩ : MethodName)) (z := (⟨"java/lang/String", "charAt", "(I)C"⟩ : MethodName)) (Wd := 0) (a := r2740) (argsL := [(.int (41 : Int32))]) (rest := []) W2752 at_125 (ow206 hw) (ow207 hw) (ow209 hw) (ow208 hw) (nfS (ow209 hw)) (by decide) (Cb.ct (orw_ch l Z a0 hw hE (r2740) ((cs2692.take 40 ++ dots)) (41) (z) (fm) h2753 W2752.old SC hz SA SH SL SF rf f2759 (by omega) ) (ow210 hw) (ow7 hw) hE (by decide) (by decide)) f2759.exa (by simp) rfl (lenOf opd38 rfl) rfl (Nat.le_of_eq rfl) (by decide) (by decide) rfl fun v2764 so2765 T2760 h2762 W2761 kp2763 sp2766 q2767 => ?_
      obtain ⟨rfl, rfl⟩ := q2767
      show Go K _ T2760 128 #[.val (.int x0), .val (.int x1), .val (.int x2), .val (.int x3), .val (.int x4), .val (.int x5), .val (.ref r2614), .val (.int (Int32.ofNat n2616)), .val (.int (Int32.ofNat pn)), .val (.int (Int32.ofNat qn)), .val (.ref a2697), .val (.ref r2740), .unset] [(.int ((cs2692.take 40 ++ dots).getD 41 0))]
      refine gBipush (z := (46 : Int32)) W2761 at_128 rfl rfl ?_
      refine gIcmpNo W2761 at_130 (teq (dot_at hcl (by omega) 1 (by decide))).2 rfl ?_
      refine gAload W2761 at_133 rfl rfl rfl ?_
      refine gBipush (z := (42 : Int32)) W2761 at_135 rfl rfl ?_
      have f2768 := f2759.keep kp2763 nin0 (a0 := a0) alln
      refine wVirtual (y := (⟨"java/lang/String", "charAt", "(I)C"⟩ : MethodName)) (z := (⟨"java/lang/String", "charAt", "(I)C"⟩ : MethodName)) (Wd := 0) (a := r2740) (argsL := [(.int (42 : Int32))]) (rest := []) W2761 at_137 (ow206 hw) (ow207 hw) (ow209 hw) (ow208 hw) (nfS (ow209 hw)) (by decide) (Cb.ct (orw_ch l Z a0 hw hE (r2740) ((cs2692.take 40 ++ dots)) (42) (z) (fm) h2762 W2761.old SC hz SA SH SL SF rf f2768 (by omega) ) (ow210 hw) (ow7 hw) hE (by decide) (by decide)) f2768.exa (by simp) rfl (lenOf opd38 rfl) rfl (Nat.le_of_eq rfl) (by decide) (by decide) rfl fun v2773 so2774 T2769 h2771 W2770 kp2772 sp2775 q2776 => ?_
      obtain ⟨rfl, rfl⟩ := q2776
      show Go K _ T2769 140 #[.val (.int x0), .val (.int x1), .val (.int x2), .val (.int x3), .val (.int x4), .val (.int x5), .val (.ref r2614), .val (.int (Int32.ofNat n2616)), .val (.int (Int32.ofNat pn)), .val (.int (Int32.ofNat qn)), .val (.ref a2697), .val (.ref r2740), .unset] [(.int ((cs2692.take 40 ++ dots).getD 42 0))]
      refine gBipush (z := (46 : Int32)) W2770 at_140 rfl rfl ?_
      refine gIcmpYes (pc' := 147) W2770 at_142 (teq (dot_at hcl (by omega) 2 (by decide))).1 (by decide) rfl ?_
      refine gIload W2770 at_147 rfl rfl ?_
      refine wLdcI (v := (2147483647 : Int32)) W2770 at_149 (ow46 hw) rfl ?_
      obtain ⟨v2777, e2778⟩ : ∃ v : Int32, x5 &&& (2147483647 : Int32) = v := ⟨_, rfl⟩
      refine gIand W2770 at_151 e2778 rfl ?_
      refine gBipush (z := (40 : Int32)) W2770 at_152 rfl rfl ?_
      obtain ⟨v2779, e2780⟩ : ∃ v : Int32, v2777 % (40 : Int32) = v := ⟨_, rfl⟩
      refine gIrem W2770 at_154 (by decide) e2780 rfl ?_
      obtain ⟨kn, hkn, rfl⟩ := natOf (d := 40) (rem_lt (and31 e2778) e2780 (by decide) (by decide))
      show Go K _ T2769 155 #[.val (.int x0), .val (.int x1), .val (.int x2), .val (.int x3), .val (.int x4), .val (.int x5), .val (.ref r2614), .val (.int (Int32.ofNat n2616)), .val (.int (Int32.ofNat pn)), .val (.int (Int32.ofNat qn)), .val (.ref a2697), .val (.ref r2740), .unset] [(.int (Int32.ofNat kn))]
      refine gIstore (ls' := #[.val (.int x0), .val (.int x1), .val (.int x2), .val (.int x3), .val (.int x4), .val (.int x5), .val (.ref r2614), .val (.int (Int32.ofNat n2616)), .val (.int (Int32.ofNat pn)), .val (.int (Int32.ofNat qn)), .val (.ref a2697), .val (.ref r2740), .val (.int (Int32.ofNat kn))]) W2770 at_155 rfl rfl ?_
      refine gAload W2770 at_157 rfl rfl rfl ?_
      refine gAload W2770 at_159 rfl rfl rfl ?_
      refine gIconst (z := (0 : Int32)) W2770 at_161 rfl rfl ?_
      have f2781 := f2768.keep kp2772 nin0 (a0 := a0) alln
      have f2782 := f2714.keep kp2735 nin0 (a0 := a0) alln
      have f2783 := f2782.keep kp2745 nin0 (a0 := a0) alln
      have f2784 := f2783.keep kp2754 nin0 (a0 := a0) alln
      have f2785 := f2784.keep kp2763 nin0 (a0 := a0) alln
      have f2786 := f2785.keep kp2772 nin0 (a0 := a0) alln
      refine wStatic (y := (⟨"com/example/tallykeep/tallykeep/core/FileTextShortenedPinLaw", "same", "(Ljava/lang/String;Ljava/lang/String;I)Z"⟩ : MethodName)) (Wd := 0) (argsL := [(.ref r2740), (.ref a2697), (.int (0 : Int32))]) (rest := []) W2770 at_162 (ow220 hw) (ow221 hw) (ow2 hw) (ow222 hw) (by decide) (Cb.ct (orw_sm l Z a0 hw hE (r2740) (a2697) (cs2692) ((cs2692.take 40 ++ dots)) (0) (z) (fm) h2771 W2770.old SC hz SA SH SL SF rf f2781 f2786 (by omega) (by omega) (take_at hcl (by omega) (by decide)) ) (ow222 hw) (ow2 hw) hE (by decide) (by decide)) (by simp) rfl (lenOf opd43 rfl) rfl (Nat.le_of_eq rfl) (by decide) (by decide) rfl fun v2791 so2792 T2787 h2789 W2788 kp2790 sp2793 q2794 => ?_
      obtain ⟨rfl, rfl⟩ := q2794
      show Go K _ T2787 165 #[.val (.int x0), .val (.int x1), .val (.int x2), .val (.int x3), .val (.int x4), .val (.int x5), .val (.ref r2614), .val (.int (Int32.ofNat n2616)), .val (.int (Int32.ofNat pn)), .val (.int (Int32.ofNat qn)), .val (.ref a2697), .val (.ref r2740), .val (.int (Int32.ofNat kn))] [(.int (1 : Int32))]
      refine gIfNo W2788 at_165 ((if0 _ _).trans (feq (by decide)).1) rfl ?_
      refine gAload W2788 at_168 rfl rfl rfl ?_
      refine gAload W2788 at_170 rfl rfl rfl ?_
      refine gBipush (z := (39 : Int32)) W2788 at_172 rfl rfl ?_
      have f2795 := f2781.keep kp2790 nin0 (a0 := a0) alln
      have f2796 := f2786.keep kp2790 nin0 (a0 := a0) alln
      refine wStatic (y := (⟨"com/example/tallykeep/tallykeep/core/FileTextShortenedPinLaw", "same", "(Ljava/lang/String;Ljava/lang/String;I)Z"⟩ : MethodName)) (Wd := 0) (argsL := [(.ref r2740), (.ref a2697), (.int (39 : Int32))]) (rest := []) W2788 at_174 (ow220 hw) (ow221 hw) (ow2 hw) (ow222 hw) (by decide) (Cb.ct (orw_sm l Z a0 hw hE (r2740) (a2697) (cs2692) ((cs2692.take 40 ++ dots)) (39) (z) (fm) h2789 W2788.old SC hz SA SH SL SF rf f2795 f2796 (by omega) (by omega) (take_at hcl (by omega) (by decide)) ) (ow222 hw) (ow2 hw) hE (by decide) (by decide)) (by simp) rfl (lenOf opd43 rfl) rfl (Nat.le_of_eq rfl) (by decide) (by decide) rfl fun v2801 so2802 T2797 h2799 W2798 kp2800 sp2803 q2804 => ?_
      obtain ⟨rfl, rfl⟩ := q2804
      show Go K _ T2797 177 #[.val (.int x0), .val (.int x1), .val (.int x2), .val (.int x3), .val (.int x4), .val (.int x5), .val (.ref r2614), .val (.int (Int32.ofNat n2616)), .val (.int (Int32.ofNat pn)), .val (.int (Int32.ofNat qn)), .val (.ref a2697), .val (.ref r2740), .val (.int (Int32.ofNat kn))] [(.int (1 : Int32))]
      refine gIfNo W2798 at_177 ((if0 _ _).trans (feq (by decide)).1) rfl ?_
      refine gAload W2798 at_180 rfl rfl rfl ?_
      refine gAload W2798 at_182 rfl rfl rfl ?_
      refine gIload W2798 at_184 rfl rfl ?_
      have f2805 := f2795.keep kp2800 nin0 (a0 := a0) alln
      have f2806 := f2796.keep kp2800 nin0 (a0 := a0) alln
      refine wStatic (y := (⟨"com/example/tallykeep/tallykeep/core/FileTextShortenedPinLaw", "same", "(Ljava/lang/String;Ljava/lang/String;I)Z"⟩ : MethodName)) (Wd := 0) (argsL := [(.ref r2740), (.ref a2697), (.int (Int32.ofNat kn))]) (rest := []) W2798 at_186 (ow220 hw) (ow221 hw) (ow2 hw) (ow222 hw) (by decide) (Cb.ct (orw_sm l Z a0 hw hE (r2740) (a2697) (cs2692) ((cs2692.take 40 ++ dots)) (kn) (z) (fm) h2799 W2798.old SC hz SA SH SL SF rf f2805 f2806 (by omega) (by omega) (take_at hcl (by omega) hkn) ) (ow222 hw) (ow2 hw) hE (by decide) (by decide)) (by simp) rfl (lenOf opd43 rfl) rfl (Nat.le_of_eq rfl) (by decide) (by decide) rfl fun v2811 so2812 T2807 h2809 W2808 kp2810 sp2813 q2814 => ?_
      obtain ⟨rfl, rfl⟩ := q2814
      show Go K _ T2807 189 #[.val (.int x0), .val (.int x1), .val (.int x2), .val (.int x3), .val (.int x4), .val (.int x5), .val (.ref r2614), .val (.int (Int32.ofNat n2616)), .val (.int (Int32.ofNat pn)), .val (.int (Int32.ofNat qn)), .val (.ref a2697), .val (.ref r2740), .val (.int (Int32.ofNat kn))] [(.int (1 : Int32))]
      refine gIfYes (pc' := 194) W2808 at_189 ((if0 _ _).trans (feq (by decide)).2) (by decide) rfl ?_
      refine gIload W2808 at_194 rfl rfl ?_
      refine gBipush (z := (40 : Int32)) W2808 at_196 rfl rfl ?_
      by_cases bpn : pn < 40
      · refine gIcmpNo W2808 at_198 (tlt ((ofNat_ltc (P := 40) (by decide) (by omega)).mpr bpn)).2.1 rfl ?_
        refine gAload W2808 at_201 rfl rfl rfl ?_
        refine gAload W2808 at_203 rfl rfl rfl ?_
        refine gIload W2808 at_205 rfl rfl ?_
        have f2815 := f2805.keep kp2810 nin0 (a0 := a0) alln
        have f2816 := f2806.keep kp2810 nin0 (a0 := a0) alln
        refine wStatic (y := (⟨"com/example/tallykeep/tallykeep/core/FileTextShortenedPinLaw", "same", "(Ljava/lang/String;Ljava/lang/String;I)Z"⟩ : MethodName)) (Wd := 0) (argsL := [(.ref r2740), (.ref a2697), (.int (Int32.ofNat pn))]) (rest := []) W2808 at_207 (ow220 hw) (ow221 hw) (ow2 hw) (ow222 hw) (by decide) (Cb.ct (orw_sm l Z a0 hw hE (r2740) (a2697) (cs2692) ((cs2692.take 40 ++ dots)) (pn) (z) (fm) h2809 W2808.old SC hz SA SH SL SF rf f2815 f2816 (by omega) (by omega) (take_at hcl (by omega) bpn) ) (ow222 hw) (ow2 hw) hE (by decide) (by decide)) (by simp) rfl (lenOf opd43 rfl) rfl (Nat.le_of_eq rfl) (by decide) (by decide) rfl fun v2821 so2822 T2817 h2819 W2818 kp2820 sp2823 q2824 => ?_
        obtain ⟨rfl, rfl⟩ := q2824
        show Go K _ T2817 210 #[.val (.int x0), .val (.int x1), .val (.int x2), .val (.int x3), .val (.int x4), .val (.int x5), .val (.ref r2614), .val (.int (Int32.ofNat n2616)), .val (.int (Int32.ofNat pn)), .val (.int (Int32.ofNat qn)), .val (.ref a2697), .val (.ref r2740), .val (.int (Int32.ofNat kn))] [(.int (1 : Int32))]
        refine gIfYes (pc' := 215) W2818 at_210 ((if0 _ _).trans (feq (by decide)).2) (by decide) rfl ?_
        refine gIload W2818 at_215 rfl rfl ?_
        refine gBipush (z := (40 : Int32)) W2818 at_217 rfl rfl ?_
        by_cases bqn : qn < 40
        · refine gIcmpNo W2818 at_219 (tlt ((ofNat_ltc (P := 40) (by decide) (by omega)).mpr bqn)).2.1 rfl ?_
          refine gAload W2818 at_222 rfl rfl rfl ?_
          refine gAload W2818 at_224 rfl rfl rfl ?_
          refine gIload W2818 at_226 rfl rfl ?_
          have f2825 := f2815.keep kp2820 nin0 (a0 := a0) alln
          have f2826 := f2816.keep kp2820 nin0 (a0 := a0) alln
          refine wStatic (y := (⟨"com/example/tallykeep/tallykeep/core/FileTextShortenedPinLaw", "same", "(Ljava/lang/String;Ljava/lang/String;I)Z"⟩ : MethodName)) (Wd := 0) (argsL := [(.ref r2740), (.ref a2697), (.int (Int32.ofNat qn))]) (rest := []) W2818 at_228 (ow220 hw) (ow221 hw) (ow2 hw) (ow222 hw) (by decide) (Cb.ct (orw_sm l Z a0 hw hE (r2740) (a2697) (cs2692) ((cs2692.take 40 ++ dots)) (qn) (z) (fm) h2819 W2818.old SC hz SA SH SL SF rf f2825 f2826 (by omega) (by omega) (take_at hcl (by omega) bqn) ) (ow222 hw) (ow2 hw) hE (by decide) (by decide)) (by simp) rfl (lenOf opd43 rfl) rfl (Nat.le_of_eq rfl) (by decide) (by decide) rfl fun v2831 so2832 T2827 h2829 W2828 kp2830 sp2833 q2834 => ?_
          obtain ⟨rfl, rfl⟩ := q2834
          show Go K _ T2827 231 #[.val (.int x0), .val (.int x1), .val (.int x2), .val (.int x3), .val (.int x4), .val (.int x5), .val (.ref r2614), .val (.int (Int32.ofNat n2616)), .val (.int (Int32.ofNat pn)), .val (.int (Int32.ofNat qn)), .val (.ref a2697), .val (.ref r2740), .val (.int (Int32.ofNat kn))] [(.int (1 : Int32))]
          refine gIfYes (pc' := 236) W2828 at_231 ((if0 _ _).trans (feq (by decide)).2) (by decide) rfl ?_
          refine gIconst (z := (1 : Int32)) W2828 at_236 rfl rfl ?_
          exact wRetI (so := []) (t := .boolean) W2828 at_237 (by simp) rfl (by decide) (by decide) (fun _ q => nomatch q) ⟨rfl, rfl⟩
        · refine gIcmpYes (pc' := 236) W2818 at_219 (flt (fun q => bqn ((ofNat_ltc (P := 40) (by decide) (by omega)).mp q))).2.1 (by decide) rfl ?_
          refine gIconst (z := (1 : Int32)) W2818 at_236 rfl rfl ?_
          exact wRetI (so := []) (t := .boolean) W2818 at_237 (by simp) rfl (by decide) (by decide) (fun _ q => nomatch q) ⟨rfl, rfl⟩
      · refine gIcmpYes (pc' := 215) W2808 at_198 (flt (fun q => bpn ((ofNat_ltc (P := 40) (by decide) (by omega)).mp q))).2.1 (by decide) rfl ?_
        refine gIload W2808 at_215 rfl rfl ?_
        refine gBipush (z := (40 : Int32)) W2808 at_217 rfl rfl ?_
        by_cases bqn : qn < 40
        · refine gIcmpNo W2808 at_219 (tlt ((ofNat_ltc (P := 40) (by decide) (by omega)).mpr bqn)).2.1 rfl ?_
          refine gAload W2808 at_222 rfl rfl rfl ?_
          refine gAload W2808 at_224 rfl rfl rfl ?_
          refine gIload W2808 at_226 rfl rfl ?_
          have f2835 := f2805.keep kp2810 nin0 (a0 := a0) alln
          have f2836 := f2806.keep kp2810 nin0 (a0 := a0) alln
          refine wStatic (y := (⟨"com/example/tallykeep/tallykeep/core/FileTextShortenedPinLaw", "same", "(Ljava/lang/String;Ljava/lang/String;I)Z"⟩ : MethodName)) (Wd := 0) (argsL := [(.ref r2740), (.ref a2697), (.int (Int32.ofNat qn))]) (rest := []) W2808 at_228 (ow220 hw) (ow221 hw) (ow2 hw) (ow222 hw) (by decide) (Cb.ct (orw_sm l Z a0 hw hE (r2740) (a2697) (cs2692) ((cs2692.take 40 ++ dots)) (qn) (z) (fm) h2809 W2808.old SC hz SA SH SL SF rf f2835 f2836 (by omega) (by omega) (take_at hcl (by omega) bqn) ) (ow222 hw) (ow2 hw) hE (by decide) (by decide)) (by simp) rfl (lenOf opd43 rfl) rfl (Nat.le_of_eq rfl) (by decide) (by decide) rfl fun v2841 so2842 T2837 h2839 W2838 kp2840 sp2843 q2844 => ?_
          obtain ⟨rfl, rfl⟩ := q2844
          show Go K _ T2837 231 #[.val (.int x0), .val (.int x1), .val (.int x2), .val (.int x3), .val (.int x4), .val (.int x5), .val (.ref r2614), .val (.int (Int32.ofNat n2616)), .val (.int (Int32.ofNat pn)), .val (.int (Int32.ofNat qn)), .val (.ref a2697), .val (.ref r2740), .val (.int (Int32.ofNat kn))] [(.int (1 : Int32))]
          refine gIfYes (pc' := 236) W2838 at_231 ((if0 _ _).trans (feq (by decide)).2) (by decide) rfl ?_
          refine gIconst (z := (1 : Int32)) W2838 at_236 rfl rfl ?_
          exact wRetI (so := []) (t := .boolean) W2838 at_237 (by simp) rfl (by decide) (by decide) (fun _ q => nomatch q) ⟨rfl, rfl⟩
        · refine gIcmpYes (pc' := 236) W2808 at_219 (flt (fun q => bqn ((ofNat_ltc (P := 40) (by decide) (by omega)).mp q))).2.1 (by decide) rfl ?_
          refine gIconst (z := (1 : Int32)) W2808 at_236 rfl rfl ?_
          exact wRetI (so := []) (t := .boolean) W2808 at_237 (by simp) rfl (by decide) (by decide) (fun _ q => nomatch q) ⟨rfl, rfl⟩
set_option maxRecDepth 65536 in
set_option maxHeartbeats 40000000 in
theorem comes_1 {Post : Tables → Env → Array Value → State → Outcome → State → Prop} (hpost : ∀ tb e args s v u, (limb_1_1.after args s (.returned v) u = true ∧ limb_1_2.after args s (.returned v) u = true ∧ True) → FramedW s (.returned v) u (Jvm.fieldLocs frame_1_writes args s ++ Jvm.arrayLocs frame_1_arrays args s ++ Jvm.staticLocs frame_1_statics s) 40 3840 → Post tb e args s (.returned v) u) :
    ArmFor flags0 classFile x code maxLocals ret World_1 tables_1 room_1 Calls_1 rest_1 Pre_1 Post := by
  intro l hfl _ _ p e ha hc hk s m args below hf hA hF happ hP
  obtain ⟨hcalls, hrest, hpre⟩ := hP
  obtain ⟨-, -, -, hnamed, -, -, -, hat⟩ := (Spec.applies_iff hf).mp happ
  obtain ⟨hg, hn⟩ := and_e (Cond.before_iff.mp (show (Jvm.Cond.and given_1 narrow_1).before args s = true from hpre))
  obtain ⟨hcount, hg0⟩ := and_e hg
  obtain ⟨hi0, hg1⟩ := and_e hg0
  obtain ⟨hi1, hg2⟩ := and_e hg1
  obtain ⟨hi2, hg3⟩ := and_e hg2
  obtain ⟨hi3, hg4⟩ := and_e hg3
  obtain ⟨hi4, hg5⟩ := and_e hg4
  have hi5 := hg5
  obtain ⟨w0, w1, w2, w3, w4, w5, rfl⟩ : ∃ w0 w1 w2 w3 w4 w5 : Value, args = #[w0, w1, w2, w3, w4, w5] := by
    have hs : args.size = 6 := by simpa [Cond.value, given_1] using hcount
    obtain ⟨L⟩ := args
    match L, hs with
    | [w0, w1, w2, w3, w4, w5], _ => exact ⟨w0, w1, w2, w3, w4, w5, rfl⟩
  have hw := fun d (hd : d ∈ tables_1) => atoms_spec (ws := Jvm.Cond.code x code maxLocals ret :: tables_1) hat d (List.mem_cons_of_mem _ hd)
  obtain ⟨hsets, hown0⟩ := atoms_of _ (rest_1_c_eq ▸ (show rest_1_c.before _ s = true from hrest))
  obtain ⟨i0, ei0⟩ := is_v hi0
  obtain rfl : w0 = (.int i0) := Option.some.inj ei0
  obtain ⟨i1, ei1⟩ := is_v hi1
  obtain rfl : w1 = (.int i1) := Option.some.inj ei1
  obtain ⟨i2, ei2⟩ := is_v hi2
  obtain rfl : w2 = (.int i2) := Option.some.inj ei2
  obtain ⟨i3, ei3⟩ := is_v hi3
  obtain rfl : w3 = (.int i3) := Option.some.inj ei3
  obtain ⟨i4, ei4⟩ := is_v hi4
  obtain rfl : w4 = (.int i4) := Option.some.inj ei4
  obtain ⟨i5, ei5⟩ := is_v hi5
  obtain rfl : w5 = (.int i5) := Option.some.inj ei5
  have n5 := not_v (Cond.before_iff.mp (hsets _ (List.mem_of_getElem? (i := 2) rfl)))
  obtain ⟨iz, ez⟩ := is_v (Cond.before_iff.mp (hsets _ (List.mem_of_getElem? (i := 1) rfl)))
  have SC : Sta s s.heap "java/lang/String" "COMPACT_STRINGS" "Z" (.int iz) := Sta.start ez (Or.inl (hsets _ (List.mem_of_getElem? (i := 0) rfl)))
  have hz : ¬ (iz = (0 : Int32)) := gotF (Cond.eq_ints ez (Term.int_eval (0))) n5
  have SA : Sta s s.heap "java/lang/StringUTF16" "$assertionsDisabled" "Z" (.int (1 : Int32)) := Sta.start (Cond.eq_int (hsets _ (List.mem_of_getElem? (i := 12) rfl)) rfl) (Or.inl (hsets _ (List.mem_of_getElem? (i := 11) rfl)))
  have SH : Sta s s.heap "java/lang/StringUTF16" "HI_BYTE_SHIFT" "I" (.int (0 : Int32)) := Sta.start (Cond.eq_int (hsets _ (List.mem_of_getElem? (i := 15) rfl)) rfl) (Or.inl (hsets _ (List.mem_of_getElem? (i := 14) rfl)))
  have SL : Sta s s.heap "java/lang/StringUTF16" "LO_BYTE_SHIFT" "I" (.int (8 : Int32)) := Sta.start (Cond.eq_int (hsets _ (List.mem_of_getElem? (i := 18) rfl)) rfl) (Or.inl (hsets _ (List.mem_of_getElem? (i := 17) rfl)))
  obtain ⟨fm, ef, rf⟩ := isR_v (Cond.before_iff.mp (hsets _ (List.mem_of_getElem? (i := 8) rfl)))
  have SF : Sta s s.heap "jdk/internal/util/Preconditions" "SIOOBE_FORMATTER" "Ljava/util/function/BiFunction;" fm := Sta.start ef (Or.inl (hsets _ (List.mem_of_getElem? (i := 7) rfl)))
  have hE : EW s #[(.int i0), (.int i1), (.int i2), (.int i3), (.int i4), (.int i5)] consts_1 := (EW.cons (ow173 hw) (by decide) (EW.cons (ow18 hw) (by decide) EW.nil))
  have hcw : Jvm.Lit.compactW.before _ s = true := (hsets _ (List.mem_of_getElem? (i := 2) rfl))
  have hCH : CHv s consts_1 s.vm s.heap := CHv.start hE (fun q hq => (hcalls.1 : constsHeld consts_1 s) q hq) hcw (owS hw _ (by simp [Bundle.stringAtoms])) (hws' hw)
  obtain ⟨n, o, h1, h2, h3, v, L, so, rfl, hQ, -, hL, -, hq⟩ := orw_law l s _ hw hE i0 i1 i2 i3 i4 i5 iz fm s.heap (Old.start s) SC hz SA SH SL SF rf tables_1 p e ha hc hk s m _ below hf ((Spec.applies_iff_loose hf).mp happ).1 ⟨rfl, State.Warmed39.refl s, rfl, hCH, fun _ q => nomatch q⟩ trivial
  obtain ⟨rfl, -⟩ := hQ
  refine ⟨n, _, h1, h2, h3, hpost _ _ _ _ _ _ ⟨Cond.after_iff.mpr rfl, Cond.after_iff.mpr (eq_i res_at (Term.int_eval (1)) rfl), trivial⟩ ⟨hq.1, hq.2.1, hq.2.2.1, (hq.2.2.2.sift fun y hy => Or.inr ?_).mono (by decide) (by decide)⟩⟩
  rcases hL y hy with z | z
  · cases z
  · exact z
theorem main_1_1 : Claimed_1_1 := comes_1 fun _ _ _ _ _ _ h hF => ⟨h.1, hF⟩
theorem main_1_2 : Claimed_1_2 := comes_1 fun _ _ _ _ _ _ h hF => ⟨h.2.1, hF⟩
end Jvm.Pilot.@@N@@
namespace Jvm.Pilot.@@N@@
open Jvm Jvm.ClassFile Sem Op Lib Jvm.Free Jvm.Stand Jvm.Pilot.@@N@@.Jvm.D
/-! MADE BY PROGRAM (witnessworld.py) out of the Statement's table words and the real class files: 26 classes; the members and pool entries that the words name. The judged class is class 1, her method 3. -/
namespace start1
open Jvm.ClassFile
def u (s : String) : CpInfo := .utf8 (stringToUtf16 s)
/-- a pool by its gaps: so many unusable entries, then the entry; so many at the end -/
def gap : Nat → List CpInfo → List CpInfo
  | 0, r => r
  | n + 1, r => .unusable :: gap n r
def poolList (es : List (Nat × CpInfo)) (last : Nat) : List CpInfo := es.foldr (fun e r => gap e.1 (e.2 :: r)) (gap last [])
def pool (es : List (Nat × CpInfo)) (last : Nat) : Array CpInfo := ⟨poolList es last⟩
def fileOf (pool : Array CpInfo) (this : Nat) (attrs : Array Attribute := #[]) (ms : Array MethodInfo := #[]) (fl : Nat := 33) (sup : Nat := 0) (ifs : Array Nat := #[]) (fds : Array FieldInfo := #[]) : ClassFile where
  minorVersion := 0
  majorVersion := 65
  constantPool := pool
  accessFlags := fl
  thisClass := this
  superClass := sup
  interfaces := ifs
  fields := fds
  methods := ms
  attributes := attrs
def plain (name : String) (sup : Option ClassId) : Class where
  name := name
  kind := .ordinary
  loader := none
  accessFlags := 33
  super := sup
  interfaces := #[]
  cf := none
  fields := #[]
  methods := #[]
  instanceTypes := #[]
  staticTypes := #[]
  resolved := #[]
  callSites := []
  init := .initialized
  statics := none
  mirror := none

def pool0 : Array CpInfo := pool [(5, u "<init>"), (0, u "()V"), (1, .class_ 10), (1, u "java/lang/Object")] 113

def k0c0 : Code := { maxStack := 0, maxLocals := 1, code := object_method_1_code, exceptionTable := #[], attributes := #[] }
def k0m0 : Method := { name := "<init>", desc := "()V", sig := { parameters := [], returnType := none }, accessFlags := 1, code := some k0c0 }
/-- java/lang/Object -/
def k0 : Class := { plain "java/lang/Object" none with
  accessFlags := 33
  interfaces := #[]
  cf := some (fileOf pool0 8 #[] #[{ accessFlags := 1, nameIndex := 5, descriptorIndex := 6, attributes := #[] }] 33 0 #[] #[])
  fields := #[]
  methods := #[k0m0]
  instanceTypes := #[]
  staticTypes := #[]
  resolved := Array.replicate 124 none
  statics := none }

def pool1 : Array CpInfo := pool [(2, .class_ 4), (1, u "java/lang/Object"), (0, u "<init>"), (0, u "()V"), (0, .methodref 8 9), (0, .class_ 10), (0, .nameAndType 11 12), (0, u "java/lang/String"), (0, u "charAt"), (0, u "(I)C"), (0, .methodref 14 15), (0, .class_ 16), (0, .nameAndType 17 18), (0, u "com/example/tallykeep/tallykeep/core/FileTextShortenedPinLaw"), (0, u "make"), (0, u "(I)[C"), (0, .integer 2147483647), (0, .integer 65535), (0, .methodref 8 22), (0, .nameAndType 5 23), (0, u "([C)V"), (0, .methodref 25 26), (0, .class_ 27), (0, .nameAndType 28 29), (0, u "com/example/tallykeep/tallykeep/core/FileText"), (0, u "shortened"), (0, u "(Ljava/lang/String;)Ljava/lang/String;"), (0, .methodref 8 31), (0, .nameAndType 32 33), (0, u "equals"), (0, u "(Ljava/lang/Object;)Z"), (0, .methodref 8 35), (0, .nameAndType 36 37), (0, u "length"), (0, u "()I"), (0, .methodref 14 39), (0, .nameAndType 40 41), (0, u "same"), (0, u "(Ljava/lang/String;Ljava/lang/String;I)Z"), (3, u "law"), (0, u "(IIIIII)Z")] 4

def k1m0 : Method := { name := "<init>", desc := "()V", sig := { parameters := [], returnType := none }, accessFlags := 2, code := none }
def k1c1 : Code := { maxStack := 2, maxLocals := 1, code := method_2_code, exceptionTable := #[], attributes := #[] }
def k1m1 : Method := { name := "make", desc := "(I)[C", sig := { parameters := [.int], returnType := some (.array .char) }, accessFlags := 10, code := some k1c1 }
def k1c2 : Code := { maxStack := 3, maxLocals := 3, code := method_3_code, exceptionTable := #[], attributes := #[] }
def k1m2 : Method := { name := "same", desc := "(Ljava/lang/String;Ljava/lang/String;I)Z", sig := { parameters := [(.object "java/lang/String"), (.object "java/lang/String"), .int], returnType := some .boolean }, accessFlags := 10, code := some k1c2 }
def k1c3 : Code := { maxStack := 4, maxLocals := 13, code := code, exceptionTable := #[], attributes := #[] }
def k1m3 : Method := { name := "law", desc := "(IIIIII)Z", sig := { parameters := [.int, .int, .int, .int, .int, .int], returnType := some .boolean }, accessFlags := 9, code := some k1c3 }
/-- com/example/tallykeep/tallykeep/core/FileTextShortenedPinLaw -/
def k1 : Class := { plain "com/example/tallykeep/tallykeep/core/FileTextShortenedPinLaw" (some 0) with
  accessFlags := 49
  interfaces := #[]
  cf := some (fileOf pool1 14 #[] #[{ accessFlags := 2, nameIndex := 5, descriptorIndex := 6, attributes := #[] }, { accessFlags := 10, nameIndex := 17, descriptorIndex := 18, attributes := #[] }, { accessFlags := 10, nameIndex := 40, descriptorIndex := 41, attributes := #[] }, { accessFlags := 9, nameIndex := 45, descriptorIndex := 46, attributes := #[] }] 49 2 #[] #[])
  fields := #[]
  methods := #[k1m0, k1m1, k1m2, k1m3]
  instanceTypes := #[]
  staticTypes := #[]
  resolved := Array.replicate 51 none
  statics := none }

def pool2 : Array CpInfo := pool [(1, .class_ 2), (0, u "java/io/Serializable"), (0, .class_ 4), (0, u "java/lang/Object")] 2

/-- java/io/Serializable -/
def k2 : Class := { plain "java/io/Serializable" (some 0) with
  accessFlags := 1537
  interfaces := #[]
  cf := some (fileOf pool2 1 #[] #[] 1537 3 #[] #[])
  fields := #[]
  methods := #[]
  instanceTypes := #[]
  staticTypes := #[]
  resolved := Array.replicate 7 none
  statics := none }

def pool3 : Array CpInfo := pool [(1, .class_ 2), (0, u "java/lang/Comparable"), (0, .class_ 4), (0, u "java/lang/Object")] 7

/-- java/lang/Comparable -/
def k3 : Class := { plain "java/lang/Comparable" (some 0) with
  accessFlags := 1537
  interfaces := #[]
  cf := some (fileOf pool3 1 #[] #[] 1537 3 #[] #[])
  fields := #[]
  methods := #[]
  instanceTypes := #[]
  staticTypes := #[]
  resolved := Array.replicate 12 none
  statics := none }

def pool4 : Array CpInfo := pool [(2, .class_ 4), (1, u "java/lang/CharSequence"), (42, .class_ 48), (0, u "java/lang/CharSequence$1CodePointIterator"), (10, .class_ 60), (0, u "java/lang/CharSequence$1CharIterator"), (5, .class_ 67), (0, u "java/lang/Object")] 63

/-- java/lang/CharSequence -/
def k4 : Class := { plain "java/lang/CharSequence" (some 0) with
  accessFlags := 1537
  interfaces := #[]
  cf := some (fileOf pool4 2 #[.nestMembers #[47, 59]] #[] 1537 66 #[] #[])
  fields := #[]
  methods := #[]
  instanceTypes := #[]
  staticTypes := #[]
  resolved := Array.replicate 131 none
  statics := none }

def pool5 : Array CpInfo := pool [(1, .class_ 2), (0, u "java/lang/constant/Constable"), (0, .class_ 4), (0, u "java/lang/Object")] 6

/-- java/lang/constant/Constable -/
def k5 : Class := { plain "java/lang/constant/Constable" (some 0) with
  accessFlags := 1537
  interfaces := #[]
  cf := some (fileOf pool5 1 #[] #[] 1537 3 #[] #[])
  fields := #[]
  methods := #[]
  instanceTypes := #[]
  staticTypes := #[]
  resolved := Array.replicate 11 none
  statics := none }

def pool6 : Array CpInfo := pool [(1, .class_ 2), (0, u "java/lang/constant/ConstantDesc"), (0, .class_ 4), (0, u "java/lang/Object")] 32

/-- java/lang/constant/ConstantDesc -/
def k6 : Class := { plain "java/lang/constant/ConstantDesc" (some 0) with
  accessFlags := 1537
  interfaces := #[]
  cf := some (fileOf pool6 1 #[] #[] 1537 3 #[] #[])
  fields := #[]
  methods := #[]
  instanceTypes := #[]
  staticTypes := #[]
  resolved := Array.replicate 37 none
  statics := none }

def pool7 : Array CpInfo := pool [(1, .methodref 2 3), (0, .class_ 4), (0, .nameAndType 5 6), (0, u "java/lang/Object"), (0, u "<init>"), (0, u "()V"), (0, .string 8), (0, u ""), (0, .fieldref 10 11), (0, .class_ 12), (0, .nameAndType 13 14), (0, u "java/lang/String"), (0, u "value"), (0, u "[B"), (0, .fieldref 10 16), (0, .nameAndType 17 18), (0, u "coder"), (0, u "B"), (2, u "hash"), (0, u "I"), (2, u "hashIsZero"), (0, u "Z"), (0, .methodref 10 28), (0, .nameAndType 5 29), (0, u "([CIILjava/lang/Void;)V"), (6, u "checkBoundsOffCount"), (0, u "(III)I"), (0, .fieldref 10 39), (0, .nameAndType 40 26), (0, u "COMPACT_STRINGS"), (1, .class_ 44), (1, u "java/lang/StringUTF16"), (0, u "compress"), (1, .methodref 42 48), (0, .nameAndType 49 50), (0, u "coderFromArrayLen"), (0, u "([BI)B"), (3, .methodref 55 56), (0, .class_ 57), (0, .nameAndType 58 59), (0, u "java/util/Arrays"), (0, u "copyOfRange"), (0, u "([BII)[B"), (46, .methodref 107 108), (0, .class_ 109), (0, .nameAndType 110 111), (0, u "java/lang/StringLatin1"), (0, u "inflate"), (0, u "([BI[BII)V"), (30, u "()Z"), (34, .methodref 42 178), (0, .nameAndType 45 179), (0, u "([CII)[B"), (13, .class_ 195), (1, u "java/lang/System"), (15, u "([BB)V"), (0, .methodref 193 213), (0, .nameAndType 214 215), (0, u "arraycopy"), (0, u "(Ljava/lang/Object;ILjava/lang/Object;II)V"), (118, u "()I"), (0, .methodref 10 336), (0, .nameAndType 17 337), (0, u "()B"), (2, u "()[B"), (22, u "([BI)C"), (27, u "(II)V"), (35, u "(I)C"), (61, .methodref 10 490), (0, .nameAndType 5 491), (0, u "(Ljava/lang/AbstractStringBuilder;Ljava/lang/Void;)V"), (0, .methodref 10 493), (0, .nameAndType 494 142), (0, u "isLatin1"), (0, .methodref 107 496), (0, .nameAndType 497 363), (0, u "charAt"), (0, .methodref 42 496), (2, u "checkIndex"), (3, .methodref 10 506), (0, .nameAndType 507 334), (0, u "length"), (5, u "checkFromToIndex"), (7, .methodref 10 522), (0, .nameAndType 523 524), (0, u "checkBoundsBeginEnd"), (0, u "(III)V"), (7, u "getBytes"), (10, u "equals"), (5, .methodref 550 506), (0, .class_ 551), (0, u "java/lang/AbstractStringBuilder"), (0, .methodref 550 553), (0, .nameAndType 554 340), (0, u "getValue"), (18, u "(Ljava/lang/Object;)Z"), (1, .class_ 576), (0, u "java/lang/CharSequence"), (22, u "CASE_INSENSITIVE_ORDER"), (0, u "Ljava/util/Comparator;"), (82, u "substring"), (0, u "(II)Ljava/lang/String;"), (0, .methodref 107 686), (0, .nameAndType 687 688), (0, u "newString"), (0, u "([BII)Ljava/lang/String;"), (0, .methodref 42 686), (131, u "([BIB)V"), (188, u "([C)V"), (36, .methodref 550 493), (0, .fieldref 550 1049), (0, .nameAndType 1050 26), (0, u "maybeLatin1"), (2, .fieldref 1054 1055), (0, .class_ 1056), (0, .nameAndType 1057 1058), (0, u "jdk/internal/util/Preconditions"), (0, u "SIOOBE_FORMATTER"), (0, u "Ljava/util/function/BiFunction;"), (0, .methodref 1054 1060), (0, .nameAndType 501 1061), (0, u "(IILjava/util/function/BiFunction;)I"), (0, .methodref 1054 1063), (0, .nameAndType 513 1064), (0, u "(IIILjava/util/function/BiFunction;)I"), (0, .methodref 1054 1066), (0, .nameAndType 1067 1064), (0, u "checkFromIndexSize"), (33, u "serialPersistentFields"), (0, u "[Ljava/io/ObjectStreamField;"), (0, .class_ 1104), (0, u "java/lang/String$CaseInsensitiveComparator"), (1, .class_ 1107), (0, u "java/io/Serializable"), (0, .class_ 1109), (0, u "java/lang/Comparable"), (0, .class_ 1111), (0, u "java/lang/constant/Constable"), (0, .class_ 1113), (0, u "java/lang/constant/ConstantDesc"), (2, u "serialVersionUID"), (0, u "J"), (3, u "REPL"), (0, u "C"), (2, u "LATIN1"), (1, u "UTF16"), (105, u "(Ljava/lang/StringBuilder;)V")] 217

def k7m0 : Method := { name := "<init>", desc := "()V", sig := { parameters := [], returnType := none }, accessFlags := 1, code := none }
def k7c1 : Code := { maxStack := 5, maxLocals := 2, code := jdk_42_method_3_code, exceptionTable := #[], attributes := #[] }
def k7m1 : Method := { name := "<init>", desc := "([C)V", sig := { parameters := [(.array .char)], returnType := none }, accessFlags := 1, code := some k7c1 }
def k7c2 : Code := { maxStack := 3, maxLocals := 2, code := jdk_42_method_53_code, exceptionTable := #[], attributes := #[] }
def k7m2 : Method := { name := "<init>", desc := "(Ljava/lang/StringBuilder;)V", sig := { parameters := [(.object "java/lang/StringBuilder")], returnType := none }, accessFlags := 1, code := some k7c2 }
def k7c3 : Code := { maxStack := 2, maxLocals := 1, code := jdk_42_method_54_code, exceptionTable := #[], attributes := #[] }
def k7m3 : Method := { name := "length", desc := "()I", sig := { parameters := [], returnType := some .int }, accessFlags := 1, code := some k7c3 }
def k7c4 : Code := { maxStack := 2, maxLocals := 2, code := jdk_42_method_56_code, exceptionTable := #[], attributes := #[] }
def k7m4 : Method := { name := "charAt", desc := "(I)C", sig := { parameters := [.int], returnType := some .char }, accessFlags := 1, code := some k7c4 }
def k7c5 : Code := { maxStack := 2, maxLocals := 3, code := jdk_42_method_66_code, exceptionTable := #[], attributes := #[] }
def k7m5 : Method := { name := "equals", desc := "(Ljava/lang/Object;)Z", sig := { parameters := [(.object "java/lang/Object")], returnType := some .boolean }, accessFlags := 1, code := some k7c5 }
def k7c6 : Code := { maxStack := 3, maxLocals := 5, code := jdk_42_method_92_code, exceptionTable := #[], attributes := #[] }
def k7m6 : Method := { name := "substring", desc := "(II)Ljava/lang/String;", sig := { parameters := [.int, .int], returnType := some (.object "java/lang/String") }, accessFlags := 1, code := some k7c6 }
def k7c7 : Code := { maxStack := 5, maxLocals := 4, code := jdk_42_method_147_code, exceptionTable := #[], attributes := #[] }
def k7m7 : Method := { name := "getBytes", desc := "([BIB)V", sig := { parameters := [(.array .byte), .int, .byte], returnType := none }, accessFlags := 0, code := some k7c7 }
def k7c8 : Code := { maxStack := 4, maxLocals := 6, code := jdk_42_method_149_code, exceptionTable := #[], attributes := #[] }
def k7m8 : Method := { name := "<init>", desc := "([CIILjava/lang/Void;)V", sig := { parameters := [(.array .char), .int, .int, (.object "java/lang/Void")], returnType := none }, accessFlags := 2, code := some k7c8 }
def k7c9 : Code := { maxStack := 5, maxLocals := 5, code := jdk_42_method_150_code, exceptionTable := #[], attributes := #[] }
def k7m9 : Method := { name := "<init>", desc := "(Ljava/lang/AbstractStringBuilder;Ljava/lang/Void;)V", sig := { parameters := [(.object "java/lang/AbstractStringBuilder"), (.object "java/lang/Void")], returnType := none }, accessFlags := 0, code := some k7c9 }
def k7c10 : Code := { maxStack := 2, maxLocals := 3, code := jdk_42_method_151_code, exceptionTable := #[], attributes := #[] }
def k7m10 : Method := { name := "<init>", desc := "([BB)V", sig := { parameters := [(.array .byte), .byte], returnType := none }, accessFlags := 0, code := some k7c10 }
def k7c11 : Code := { maxStack := 1, maxLocals := 1, code := jdk_42_method_152_code, exceptionTable := #[], attributes := #[] }
def k7m11 : Method := { name := "coder", desc := "()B", sig := { parameters := [], returnType := some .byte }, accessFlags := 0, code := some k7c11 }
def k7c12 : Code := { maxStack := 1, maxLocals := 1, code := jdk_42_method_154_code, exceptionTable := #[], attributes := #[] }
def k7m12 : Method := { name := "isLatin1", desc := "()Z", sig := { parameters := [], returnType := some .boolean }, accessFlags := 0, code := some k7c12 }
def k7c13 : Code := { maxStack := 3, maxLocals := 2, code := jdk_42_method_155_code, exceptionTable := #[], attributes := #[] }
def k7m13 : Method := { name := "checkIndex", desc := "(II)V", sig := { parameters := [.int, .int], returnType := none }, accessFlags := 8, code := some k7c13 }
def k7c14 : Code := { maxStack := 4, maxLocals := 3, code := jdk_42_method_157_code, exceptionTable := #[], attributes := #[] }
def k7m14 : Method := { name := "checkBoundsOffCount", desc := "(III)I", sig := { parameters := [.int, .int, .int], returnType := some .int }, accessFlags := 8, code := some k7c14 }
def k7c15 : Code := { maxStack := 4, maxLocals := 3, code := jdk_42_method_158_code, exceptionTable := #[], attributes := #[] }
def k7m15 : Method := { name := "checkBoundsBeginEnd", desc := "(III)V", sig := { parameters := [.int, .int, .int], returnType := none }, accessFlags := 8, code := some k7c15 }
/-- java/lang/String -/
def k7 : Class := { plain "java/lang/String" (some 0) with
  accessFlags := 49
  interfaces := #[2, 3, 4, 5, 6]
  cf := some (fileOf pool7 10 #[.nestMembers #[1103]] #[{ accessFlags := 1, nameIndex := 5, descriptorIndex := 6, attributes := #[] }, { accessFlags := 1, nameIndex := 5, descriptorIndex := 1010, attributes := #[] }, { accessFlags := 1, nameIndex := 5, descriptorIndex := 1233, attributes := #[] }, { accessFlags := 1, nameIndex := 507, descriptorIndex := 334, attributes := #[] }, { accessFlags := 1, nameIndex := 497, descriptorIndex := 427, attributes := #[] }, { accessFlags := 1, nameIndex := 543, descriptorIndex := 573, attributes := #[] }, { accessFlags := 1, nameIndex := 683, descriptorIndex := 684, attributes := #[] }, { accessFlags := 0, nameIndex := 532, descriptorIndex := 821, attributes := #[] }, { accessFlags := 2, nameIndex := 5, descriptorIndex := 29, attributes := #[] }, { accessFlags := 0, nameIndex := 5, descriptorIndex := 491, attributes := #[] }, { accessFlags := 0, nameIndex := 5, descriptorIndex := 211, attributes := #[] }, { accessFlags := 0, nameIndex := 17, descriptorIndex := 337, attributes := #[] }, { accessFlags := 0, nameIndex := 494, descriptorIndex := 142, attributes := #[] }, { accessFlags := 8, nameIndex := 501, descriptorIndex := 391, attributes := #[] }, { accessFlags := 8, nameIndex := 36, descriptorIndex := 37, attributes := #[] }, { accessFlags := 8, nameIndex := 523, descriptorIndex := 524, attributes := #[] }] 49 2 #[1106, 1108, 575, 1110, 1112] #[{ accessFlags := 18, nameIndex := 13, descriptorIndex := 14, attributes := #[] }, { accessFlags := 18, nameIndex := 17, descriptorIndex := 18, attributes := #[] }, { accessFlags := 2, nameIndex := 21, descriptorIndex := 22, attributes := #[] }, { accessFlags := 2, nameIndex := 25, descriptorIndex := 26, attributes := #[] }, { accessFlags := 26, nameIndex := 1116, descriptorIndex := 1117, attributes := #[] }, { accessFlags := 24, nameIndex := 40, descriptorIndex := 26, attributes := #[] }, { accessFlags := 26, nameIndex := 1101, descriptorIndex := 1102, attributes := #[] }, { accessFlags := 26, nameIndex := 1121, descriptorIndex := 1122, attributes := #[] }, { accessFlags := 25, nameIndex := 599, descriptorIndex := 600, attributes := #[] }, { accessFlags := 24, nameIndex := 1125, descriptorIndex := 18, attributes := #[] }, { accessFlags := 24, nameIndex := 1127, descriptorIndex := 18, attributes := #[] }])
  fields := #[{ name := "value", type := (.array .byte), accessFlags := 18, slot := 0, constantValue := 0 }, { name := "coder", type := .byte, accessFlags := 18, slot := 1, constantValue := 0 }, { name := "hash", type := .int, accessFlags := 2, slot := 2, constantValue := 0 }, { name := "hashIsZero", type := .boolean, accessFlags := 2, slot := 3, constantValue := 0 }, { name := "serialVersionUID", type := .long, accessFlags := 26, slot := 0, constantValue := 0 }, { name := "COMPACT_STRINGS", type := .boolean, accessFlags := 24, slot := 1, constantValue := 0 }, { name := "serialPersistentFields", type := (.array (.object "java/io/ObjectStreamField")), accessFlags := 26, slot := 2, constantValue := 0 }, { name := "REPL", type := .char, accessFlags := 26, slot := 3, constantValue := 0 }, { name := "CASE_INSENSITIVE_ORDER", type := (.object "java/util/Comparator"), accessFlags := 25, slot := 4, constantValue := 0 }, { name := "LATIN1", type := .byte, accessFlags := 24, slot := 5, constantValue := 0 }, { name := "UTF16", type := .byte, accessFlags := 24, slot := 6, constantValue := 0 }]
  methods := #[k7m0, k7m1, k7m2, k7m3, k7m4, k7m5, k7m6, k7m7, k7m8, k7m9, k7m10, k7m11, k7m12, k7m13, k7m14, k7m15]
  instanceTypes := #[(.array .byte), .byte, .int, .boolean]
  staticTypes := #[.long, .boolean, (.array (.object "java/io/ObjectStreamField")), .char, (.object "java/util/Comparator"), .byte, .byte]
  resolved := Array.replicate 1451 none
  statics := some 0 }

def pool8 : Array CpInfo := pool [(2, .class_ 4), (0, .nameAndType 5 6), (0, u "java/lang/Object"), (0, u "<init>"), (0, u "()V"), (26, .methodref 34 35), (0, .class_ 36), (0, .nameAndType 37 38), (0, u "java/lang/String"), (0, u "length"), (0, u "()I"), (0, .class_ 40), (0, u "com/example/tallykeep/tallykeep/core/FileText"), (0, .class_ 42), (0, u "java/lang/StringBuilder"), (0, .methodref 41 3), (0, .methodref 34 45), (0, .nameAndType 46 47), (0, u "substring"), (0, u "(II)Ljava/lang/String;"), (0, .methodref 41 49), (0, .nameAndType 50 51), (0, u "append"), (0, u "(Ljava/lang/String;)Ljava/lang/StringBuilder;"), (0, .string 53), (0, u "..."), (0, .methodref 41 55), (0, .nameAndType 56 57), (0, u "toString"), (0, u "()Ljava/lang/String;"), (0, u "SHOWN"), (0, u "I"), (6, u "shortened"), (0, u "(Ljava/lang/String;)Ljava/lang/String;")] 3

def k8m0 : Method := { name := "<init>", desc := "()V", sig := { parameters := [], returnType := none }, accessFlags := 2, code := none }
def k8c1 : Code := { maxStack := 4, maxLocals := 1, code := prog_13_method_3_code, exceptionTable := #[], attributes := #[] }
def k8m1 : Method := { name := "shortened", desc := "(Ljava/lang/String;)Ljava/lang/String;", sig := { parameters := [(.object "java/lang/String")], returnType := some (.object "java/lang/String") }, accessFlags := 8, code := some k8c1 }
/-- com/example/tallykeep/tallykeep/core/FileText -/
def k8 : Class := { plain "com/example/tallykeep/tallykeep/core/FileText" (some 0) with
  accessFlags := 48
  interfaces := #[]
  cf := some (fileOf pool8 39 #[] #[{ accessFlags := 2, nameIndex := 5, descriptorIndex := 6, attributes := #[] }, { accessFlags := 8, nameIndex := 66, descriptorIndex := 67, attributes := #[] }] 48 2 #[] #[{ accessFlags := 26, nameIndex := 58, descriptorIndex := 59, attributes := #[] }])
  fields := #[{ name := "SHOWN", type := .int, accessFlags := 26, slot := 0, constantValue := 0 }]
  methods := #[k8m0, k8m1]
  instanceTypes := #[]
  staticTypes := #[.int]
  resolved := Array.replicate 71 none
  statics := none }

def pool9 : Array CpInfo := pool [(3, .class_ 4), (0, u "java/lang/String"), (1, .class_ 8), (1, u "java/lang/Object"), (0, u "<init>"), (0, u "()V"), (0, .methodref 12 13), (0, .class_ 14), (0, .nameAndType 15 16), (0, u "java/lang/StringUTF16"), (0, u "newBytesLength"), (0, u "(I)I"), (3, .integer 1073741823), (23, .fieldref 12 45), (0, .nameAndType 46 47), (0, u "$assertionsDisabled"), (0, u "Z"), (0, .methodref 12 49), (0, .nameAndType 50 51), (0, u "length"), (0, u "([B)I"), (7, .fieldref 12 60), (0, .nameAndType 61 62), (0, u "HI_BYTE_SHIFT"), (0, u "I"), (0, .fieldref 12 64), (0, .nameAndType 65 62), (0, u "LO_BYTE_SHIFT"), (1, .methodref 12 68), (0, .nameAndType 69 70), (0, u "checkIndex"), (0, u "(I[B)V"), (0, .methodref 12 72), (0, .nameAndType 73 74), (0, u "getChar"), (0, u "([BI)C"), (24, u "(II[B)V"), (7, .methodref 12 108), (0, .nameAndType 109 110), (0, u "newBytesFor"), (0, u "(I)[B"), (0, .methodref 12 112), (0, .nameAndType 113 114), (0, u "putChar"), (0, u "([BII)V"), (0, .methodref 12 116), (0, .nameAndType 117 118), (0, u "compress"), (0, u "([CI[BII)I"), (0, .methodref 12 120), (0, .nameAndType 121 122), (0, u "toBytes"), (0, u "([CII)[B"), (0, .methodref 12 124), (0, .nameAndType 117 125), (0, u "([BI[BII)I"), (0, .methodref 127 128), (0, .class_ 129), (0, .nameAndType 130 131), (0, u "java/util/Arrays"), (0, u "copyOfRange"), (0, u "([BII)[B"), (8, u "inflate"), (0, u "([BI[BII)V"), (31, .methodref 12 174), (0, .nameAndType 175 99), (0, u "checkBoundsOffCount"), (75, .fieldref 3 252), (0, .nameAndType 253 47), (0, u "COMPACT_STRINGS"), (3, .methodref 12 258), (0, .nameAndType 117 131), (0, .methodref 12 260), (0, .nameAndType 261 262), (0, u "coderFromArrayLen"), (0, u "([BI)B"), (0, .methodref 3 264), (0, .nameAndType 9 265), (0, u "([BB)V"), (15, u "(III)I"), (45, u "newString"), (0, u "([BII)Ljava/lang/String;"), (40, .class_ 371), (1, u "java/lang/StringUTF16$LinesSpliterator"), (20, u "charAt"), (21, .methodref 3 415), (0, .nameAndType 69 416), (0, u "(II)V"), (2, .methodref 3 420), (0, .nameAndType 175 281), (9, u "MAX_LENGTH"), (196, .class_ 628), (0, u "java/lang/StringUTF16$CodePointsSpliterator"), (0, .class_ 630), (0, u "java/lang/StringUTF16$CharsSpliterator")] 4

def k9m0 : Method := { name := "<init>", desc := "()V", sig := { parameters := [], returnType := none }, accessFlags := 0, code := none }
def k9c1 : Code := { maxStack := 1, maxLocals := 1, code := jdk_52_method_2_code, exceptionTable := #[], attributes := #[] }
def k9m1 : Method := { name := "newBytesFor", desc := "(I)[B", sig := { parameters := [.int], returnType := some (.array .byte) }, accessFlags := 9, code := some k9c1 }
def k9c2 : Code := { maxStack := 4, maxLocals := 1, code := jdk_52_method_3_code, exceptionTable := #[], attributes := #[] }
def k9m2 : Method := { name := "newBytesLength", desc := "(I)I", sig := { parameters := [.int], returnType := some .int }, accessFlags := 9, code := some k9c2 }
def k9c3 : Code := { maxStack := 4, maxLocals := 3, code := jdk_52_method_4_code, exceptionTable := #[], attributes := #[] }
def k9m3 : Method := { name := "putChar", desc := "([BII)V", sig := { parameters := [(.array .byte), .int, .int], returnType := none }, accessFlags := 8, code := some k9c3 }
def k9c4 : Code := { maxStack := 3, maxLocals := 2, code := jdk_52_method_5_code, exceptionTable := #[], attributes := #[] }
def k9m4 : Method := { name := "getChar", desc := "([BI)C", sig := { parameters := [(.array .byte), .int], returnType := some .char }, accessFlags := 8, code := some k9c4 }
def k9c5 : Code := { maxStack := 2, maxLocals := 1, code := jdk_52_method_6_code, exceptionTable := #[], attributes := #[] }
def k9m5 : Method := { name := "length", desc := "([B)I", sig := { parameters := [(.array .byte)], returnType := some .int }, accessFlags := 9, code := some k9c5 }
def k9c6 : Code := { maxStack := 4, maxLocals := 5, code := jdk_52_method_14_code, exceptionTable := #[], attributes := #[] }
def k9m6 : Method := { name := "toBytes", desc := "([CII)[B", sig := { parameters := [(.array .char), .int, .int], returnType := some (.array .byte) }, accessFlags := 9, code := some k9c6 }
def k9c7 : Code := { maxStack := 2, maxLocals := 2, code := jdk_52_method_15_code, exceptionTable := #[], attributes := #[] }
def k9m7 : Method := { name := "coderFromArrayLen", desc := "([BI)B", sig := { parameters := [(.array .byte), .int], returnType := some .byte }, accessFlags := 8, code := some k9c7 }
def k9c8 : Code := { maxStack := 5, maxLocals := 6, code := jdk_52_method_16_code, exceptionTable := #[], attributes := #[] }
def k9m8 : Method := { name := "compress", desc := "([CII)[B", sig := { parameters := [(.array .char), .int, .int], returnType := some (.array .byte) }, accessFlags := 9, code := some k9c8 }
def k9c9 : Code := { maxStack := 5, maxLocals := 6, code := jdk_52_method_17_code, exceptionTable := #[], attributes := #[] }
def k9m9 : Method := { name := "compress", desc := "([BII)[B", sig := { parameters := [(.array .byte), .int, .int], returnType := some (.array .byte) }, accessFlags := 9, code := some k9c9 }
def k9c10 : Code := { maxStack := 3, maxLocals := 7, code := jdk_52_method_21_code, exceptionTable := #[], attributes := #[] }
def k9m10 : Method := { name := "compress", desc := "([CI[BII)I", sig := { parameters := [(.array .char), .int, (.array .byte), .int, .int], returnType := some .int }, accessFlags := 9, code := some k9c10 }
def k9c11 : Code := { maxStack := 3, maxLocals := 7, code := jdk_52_method_22_code, exceptionTable := #[], attributes := #[] }
def k9m11 : Method := { name := "compress", desc := "([BI[BII)I", sig := { parameters := [(.array .byte), .int, (.array .byte), .int, .int], returnType := some .int }, accessFlags := 9, code := some k9c11 }
def k9c12 : Code := { maxStack := 6, maxLocals := 5, code := jdk_52_method_69_code, exceptionTable := #[], attributes := #[] }
def k9m12 : Method := { name := "newString", desc := "([BII)Ljava/lang/String;", sig := { parameters := [(.array .byte), .int, .int], returnType := some (.object "java/lang/String") }, accessFlags := 9, code := some k9c12 }
def k9c13 : Code := { maxStack := 2, maxLocals := 2, code := jdk_52_method_83_code, exceptionTable := #[], attributes := #[] }
def k9m13 : Method := { name := "charAt", desc := "([BI)C", sig := { parameters := [(.array .byte), .int], returnType := some .char }, accessFlags := 9, code := some k9c13 }
def k9c14 : Code := { maxStack := 4, maxLocals := 6, code := jdk_52_method_86_code, exceptionTable := #[], attributes := #[] }
def k9m14 : Method := { name := "inflate", desc := "([BI[BII)V", sig := { parameters := [(.array .byte), .int, (.array .byte), .int, .int], returnType := none }, accessFlags := 9, code := some k9c14 }
def k9c15 : Code := { maxStack := 2, maxLocals := 2, code := jdk_52_method_91_code, exceptionTable := #[], attributes := #[] }
def k9m15 : Method := { name := "checkIndex", desc := "(I[B)V", sig := { parameters := [.int, (.array .byte)], returnType := none }, accessFlags := 9, code := some k9c15 }
def k9c16 : Code := { maxStack := 3, maxLocals := 3, code := jdk_52_method_94_code, exceptionTable := #[], attributes := #[] }
def k9m16 : Method := { name := "checkBoundsOffCount", desc := "(II[B)V", sig := { parameters := [.int, .int, (.array .byte)], returnType := none }, accessFlags := 9, code := some k9c16 }
/-- java/lang/StringUTF16 -/
def k9 : Class := { plain "java/lang/StringUTF16" (some 0) with
  accessFlags := 48
  interfaces := #[]
  cf := some (fileOf pool9 12 #[.nestMembers #[627, 629, 369]] #[{ accessFlags := 0, nameIndex := 9, descriptorIndex := 10, attributes := #[] }, { accessFlags := 9, nameIndex := 109, descriptorIndex := 110, attributes := #[] }, { accessFlags := 9, nameIndex := 15, descriptorIndex := 16, attributes := #[] }, { accessFlags := 8, nameIndex := 113, descriptorIndex := 114, attributes := #[] }, { accessFlags := 8, nameIndex := 73, descriptorIndex := 74, attributes := #[] }, { accessFlags := 9, nameIndex := 50, descriptorIndex := 51, attributes := #[] }, { accessFlags := 9, nameIndex := 121, descriptorIndex := 122, attributes := #[] }, { accessFlags := 8, nameIndex := 261, descriptorIndex := 262, attributes := #[] }, { accessFlags := 9, nameIndex := 117, descriptorIndex := 122, attributes := #[] }, { accessFlags := 9, nameIndex := 117, descriptorIndex := 131, attributes := #[] }, { accessFlags := 9, nameIndex := 117, descriptorIndex := 118, attributes := #[] }, { accessFlags := 9, nameIndex := 117, descriptorIndex := 125, attributes := #[] }, { accessFlags := 9, nameIndex := 327, descriptorIndex := 328, attributes := #[] }, { accessFlags := 9, nameIndex := 392, descriptorIndex := 74, attributes := #[] }, { accessFlags := 9, nameIndex := 140, descriptorIndex := 141, attributes := #[] }, { accessFlags := 9, nameIndex := 69, descriptorIndex := 70, attributes := #[] }, { accessFlags := 9, nameIndex := 175, descriptorIndex := 99, attributes := #[] }] 48 6 #[] #[{ accessFlags := 26, nameIndex := 61, descriptorIndex := 62, attributes := #[] }, { accessFlags := 26, nameIndex := 65, descriptorIndex := 62, attributes := #[] }, { accessFlags := 24, nameIndex := 430, descriptorIndex := 62, attributes := #[] }, { accessFlags := 4120, nameIndex := 46, descriptorIndex := 47, attributes := #[] }])
  fields := #[{ name := "HI_BYTE_SHIFT", type := .int, accessFlags := 26, slot := 0, constantValue := 0 }, { name := "LO_BYTE_SHIFT", type := .int, accessFlags := 26, slot := 1, constantValue := 0 }, { name := "MAX_LENGTH", type := .int, accessFlags := 24, slot := 2, constantValue := 0 }, { name := "$assertionsDisabled", type := .boolean, accessFlags := 4120, slot := 3, constantValue := 0 }]
  methods := #[k9m0, k9m1, k9m2, k9m3, k9m4, k9m5, k9m6, k9m7, k9m8, k9m9, k9m10, k9m11, k9m12, k9m13, k9m14, k9m15, k9m16]
  instanceTypes := #[]
  staticTypes := #[.int, .int, .int, .boolean]
  resolved := Array.replicate 635 none
  statics := some 1 }

def pool10 : Array CpInfo := pool [(1, .class_ 2), (0, u "java/lang/Appendable"), (0, .class_ 4), (0, u "java/lang/Object")] 9

/-- java/lang/Appendable -/
def k10 : Class := { plain "java/lang/Appendable" (some 0) with
  accessFlags := 1537
  interfaces := #[]
  cf := some (fileOf pool10 1 #[] #[] 1537 3 #[] #[])
  fields := #[]
  methods := #[]
  instanceTypes := #[]
  staticTypes := #[]
  resolved := Array.replicate 14 none
  statics := none }

def pool11 : Array CpInfo := pool [(1, .class_ 2), (0, u "java/lang/String"), (0, .methodref 4 5), (0, .class_ 6), (0, .nameAndType 7 8), (0, u "java/lang/Object"), (0, u "<init>"), (0, u "()V"), (1, .class_ 12), (1, u "java/lang/AbstractStringBuilder"), (0, u "EMPTYVALUE"), (0, u "[B"), (0, .fieldref 10 16), (0, .nameAndType 17 14), (0, u "value"), (0, .fieldref 1 19), (0, .nameAndType 20 21), (0, u "COMPACT_STRINGS"), (0, u "Z"), (0, .fieldref 10 23), (0, .nameAndType 24 25), (0, u "coder"), (0, u "B"), (0, .methodref 27 28), (0, .class_ 29), (0, .nameAndType 30 31), (0, u "java/lang/StringUTF16"), (0, u "newBytesFor"), (0, u "(I)[B"), (0, .methodref 1 33), (0, .nameAndType 34 35), (0, u "length"), (0, u "()I"), (3, .integer 2147483647), (0, .methodref 1 41), (0, .nameAndType 24 42), (0, u "()B"), (2, u "append"), (0, u "(Ljava/lang/String;)Ljava/lang/AbstractStringBuilder;"), (1, .class_ 49), (0, u "java/lang/CharSequence"), (19, u "(Ljava/lang/String;)V"), (5, u "maybeLatin1"), (3, .fieldref 10 80), (0, .nameAndType 81 82), (0, u "count"), (0, u "I"), (0, .methodref 10 84), (0, .nameAndType 85 86), (0, u "isLatin1"), (0, u "()Z"), (1, .class_ 90), (1, u "java/lang/StringLatin1"), (9, .methodref 10 101), (0, .nameAndType 102 103), (0, u "ensureCapacityInternal"), (0, u "(I)V"), (0, .methodref 10 105), (0, .nameAndType 106 107), (0, u "newCapacity"), (0, u "(I)I"), (0, .methodref 109 110), (0, .class_ 111), (0, .nameAndType 112 113), (0, u "java/util/Arrays"), (0, u "copyOf"), (0, u "([BI)[B"), (0, .methodref 115 116), (0, .class_ 117), (0, .nameAndType 118 119), (0, u "jdk/internal/util/ArraysSupport"), (0, u "newLength"), (0, u "(III)I"), (5, .methodref 88 126), (0, .nameAndType 127 128), (0, u "inflate"), (0, u "([BI[BII)V"), (66, .methodref 10 196), (0, .nameAndType 127 8), (11, .methodref 10 209), (0, .nameAndType 210 211), (0, u "putStringAt"), (0, u "(ILjava/lang/String;)V"), (5, u "inflateIfNeededFor"), (2, .nameAndType 221 222), (0, u "getBytes"), (0, u "([BIB)V"), (174, .methodref 10 398), (0, .nameAndType 217 69), (0, .methodref 1 220), (3, u "()[B"), (40, .class_ 445), (0, u "java/lang/Appendable"), (106, u "getValue")] 56

def k11m0 : Method := { name := "<init>", desc := "()V", sig := { parameters := [], returnType := none }, accessFlags := 0, code := none }
def k11c1 : Code := { maxStack := 2, maxLocals := 2, code := jdk_68_method_2_code, exceptionTable := #[], attributes := #[] }
def k11m1 : Method := { name := "<init>", desc := "(I)V", sig := { parameters := [.int], returnType := none }, accessFlags := 0, code := some k11c1 }
def k11c2 : Code := { maxStack := 1, maxLocals := 1, code := jdk_68_method_6_code, exceptionTable := #[], attributes := #[] }
def k11m2 : Method := { name := "length", desc := "()I", sig := { parameters := [], returnType := some .int }, accessFlags := 1, code := some k11c2 }
def k11c3 : Code := { maxStack := 4, maxLocals := 3, code := jdk_68_method_9_code, exceptionTable := #[], attributes := #[] }
def k11m3 : Method := { name := "ensureCapacityInternal", desc := "(I)V", sig := { parameters := [.int], returnType := none }, accessFlags := 2, code := some k11c3 }
def k11c4 : Code := { maxStack := 5, maxLocals := 6, code := jdk_68_method_10_code, exceptionTable := #[], attributes := #[] }
def k11m4 : Method := { name := "newCapacity", desc := "(I)I", sig := { parameters := [.int], returnType := some .int }, accessFlags := 2, code := some k11c4 }
def k11c5 : Code := { maxStack := 5, maxLocals := 2, code := jdk_68_method_11_code, exceptionTable := #[], attributes := #[] }
def k11m5 : Method := { name := "inflate", desc := "()V", sig := { parameters := [], returnType := none }, accessFlags := 2, code := some k11c5 }
def k11c6 : Code := { maxStack := 3, maxLocals := 3, code := jdk_68_method_22_code, exceptionTable := #[], attributes := #[] }
def k11m6 : Method := { name := "append", desc := "(Ljava/lang/String;)Ljava/lang/AbstractStringBuilder;", sig := { parameters := [(.object "java/lang/String")], returnType := some (.object "java/lang/AbstractStringBuilder") }, accessFlags := 1, code := some k11c6 }
def k11c7 : Code := { maxStack := 1, maxLocals := 1, code := jdk_68_method_64_code, exceptionTable := #[], attributes := #[] }
def k11m7 : Method := { name := "getValue", desc := "()[B", sig := { parameters := [], returnType := some (.array .byte) }, accessFlags := 16, code := some k11c7 }
def k11c8 : Code := { maxStack := 1, maxLocals := 1, code := jdk_68_method_68_code, exceptionTable := #[], attributes := #[] }
def k11m8 : Method := { name := "isLatin1", desc := "()Z", sig := { parameters := [], returnType := some .boolean }, accessFlags := 16, code := some k11c8 }
def k11c9 : Code := { maxStack := 2, maxLocals := 2, code := jdk_68_method_71_code, exceptionTable := #[], attributes := #[] }
def k11m9 : Method := { name := "inflateIfNeededFor", desc := "(Ljava/lang/String;)V", sig := { parameters := [(.object "java/lang/String")], returnType := none }, accessFlags := 2, code := some k11c9 }
def k11c10 : Code := { maxStack := 4, maxLocals := 3, code := jdk_68_method_73_code, exceptionTable := #[], attributes := #[] }
def k11m10 : Method := { name := "putStringAt", desc := "(ILjava/lang/String;)V", sig := { parameters := [.int, (.object "java/lang/String")], returnType := none }, accessFlags := 2, code := some k11c10 }
/-- java/lang/AbstractStringBuilder -/
def k11 : Class := { plain "java/lang/AbstractStringBuilder" (some 0) with
  accessFlags := 1056
  interfaces := #[10, 4]
  cf := some (fileOf pool11 10 #[] #[{ accessFlags := 0, nameIndex := 7, descriptorIndex := 8, attributes := #[] }, { accessFlags := 0, nameIndex := 7, descriptorIndex := 103, attributes := #[] }, { accessFlags := 1, nameIndex := 34, descriptorIndex := 35, attributes := #[] }, { accessFlags := 2, nameIndex := 102, descriptorIndex := 103, attributes := #[] }, { accessFlags := 2, nameIndex := 106, descriptorIndex := 107, attributes := #[] }, { accessFlags := 2, nameIndex := 127, descriptorIndex := 8, attributes := #[] }, { accessFlags := 1, nameIndex := 45, descriptorIndex := 46, attributes := #[] }, { accessFlags := 16, nameIndex := 552, descriptorIndex := 403, attributes := #[] }, { accessFlags := 16, nameIndex := 85, descriptorIndex := 86, attributes := #[] }, { accessFlags := 2, nameIndex := 217, descriptorIndex := 69, attributes := #[] }, { accessFlags := 2, nameIndex := 210, descriptorIndex := 211, attributes := #[] }] 1056 4 #[444, 48] #[{ accessFlags := 0, nameIndex := 17, descriptorIndex := 14, attributes := #[] }, { accessFlags := 0, nameIndex := 24, descriptorIndex := 25, attributes := #[] }, { accessFlags := 0, nameIndex := 75, descriptorIndex := 21, attributes := #[] }, { accessFlags := 0, nameIndex := 81, descriptorIndex := 82, attributes := #[] }, { accessFlags := 26, nameIndex := 13, descriptorIndex := 14, attributes := #[] }])
  fields := #[{ name := "value", type := (.array .byte), accessFlags := 0, slot := 0, constantValue := 0 }, { name := "coder", type := .byte, accessFlags := 0, slot := 1, constantValue := 0 }, { name := "maybeLatin1", type := .boolean, accessFlags := 0, slot := 2, constantValue := 0 }, { name := "count", type := .int, accessFlags := 0, slot := 3, constantValue := 0 }, { name := "EMPTYVALUE", type := (.array .byte), accessFlags := 26, slot := 0, constantValue := 0 }]
  methods := #[k11m0, k11m1, k11m2, k11m3, k11m4, k11m5, k11m6, k11m7, k11m8, k11m9, k11m10]
  instanceTypes := #[(.array .byte), .byte, .boolean, .int]
  staticTypes := #[(.array .byte)]
  resolved := Array.replicate 609 none
  statics := none }

def pool12 : Array CpInfo := pool [(1, .methodref 2 3), (0, .class_ 4), (0, .nameAndType 5 6), (0, u "java/lang/AbstractStringBuilder"), (0, u "<init>"), (0, u "(I)V"), (11, .class_ 20), (1, u "java/lang/String"), (3, .class_ 26), (1, u "java/lang/StringBuilder"), (0, u "append"), (0, u "(Ljava/lang/String;)Ljava/lang/StringBuilder;"), (0, .methodref 2 30), (0, .nameAndType 27 31), (0, u "(Ljava/lang/String;)Ljava/lang/AbstractStringBuilder;"), (105, .methodref 18 138), (0, .nameAndType 5 139), (0, u "(Ljava/lang/StringBuilder;)V"), (5, u "()V"), (10, u "()I"), (186, .methodref 2 344), (0, .nameAndType 345 156), (0, u "length"), (3, .class_ 350), (0, u "java/lang/Appendable"), (0, .class_ 352), (0, u "java/io/Serializable"), (0, .class_ 354), (0, u "java/lang/Comparable"), (0, .class_ 356), (0, u "java/lang/CharSequence"), (0, u "serialVersionUID"), (0, u "J"), (40, u "toString"), (0, u "()Ljava/lang/String;")] 21

def k12c0 : Code := { maxStack := 2, maxLocals := 1, code := jdk_67_method_1_code, exceptionTable := #[], attributes := #[] }
def k12m0 : Method := { name := "<init>", desc := "()V", sig := { parameters := [], returnType := none }, accessFlags := 1, code := some k12c0 }
def k12c1 : Code := { maxStack := 2, maxLocals := 2, code := jdk_67_method_7_code, exceptionTable := #[], attributes := #[] }
def k12m1 : Method := { name := "append", desc := "(Ljava/lang/String;)Ljava/lang/StringBuilder;", sig := { parameters := [(.object "java/lang/String")], returnType := some (.object "java/lang/StringBuilder") }, accessFlags := 1, code := some k12c1 }
def k12c2 : Code := { maxStack := 3, maxLocals := 1, code := jdk_67_method_42_code, exceptionTable := #[], attributes := #[] }
def k12m2 : Method := { name := "toString", desc := "()Ljava/lang/String;", sig := { parameters := [], returnType := some (.object "java/lang/String") }, accessFlags := 1, code := some k12c2 }
def k12c3 : Code := { maxStack := 1, maxLocals := 1, code := jdk_67_method_93_code, exceptionTable := #[], attributes := #[] }
def k12m3 : Method := { name := "length", desc := "()I", sig := { parameters := [], returnType := some .int }, accessFlags := 4161, code := some k12c3 }
/-- java/lang/StringBuilder -/
def k12 : Class := { plain "java/lang/StringBuilder" (some 11) with
  accessFlags := 49
  interfaces := #[10, 2, 3, 4]
  cf := some (fileOf pool12 24 #[] #[{ accessFlags := 1, nameIndex := 5, descriptorIndex := 145, attributes := #[] }, { accessFlags := 1, nameIndex := 27, descriptorIndex := 28, attributes := #[] }, { accessFlags := 1, nameIndex := 399, descriptorIndex := 400, attributes := #[] }, { accessFlags := 4161, nameIndex := 345, descriptorIndex := 156, attributes := #[] }] 49 2 #[349, 351, 353, 355] #[{ accessFlags := 24, nameIndex := 357, descriptorIndex := 358, attributes := #[] }])
  fields := #[{ name := "serialVersionUID", type := .long, accessFlags := 24, slot := 0, constantValue := 0 }]
  methods := #[k12m0, k12m1, k12m2, k12m3]
  instanceTypes := #[(.array .byte), .byte, .boolean, .int]
  staticTypes := #[.long]
  resolved := Array.replicate 422 none
  statics := none }

def pool13 : Array CpInfo := pool [(2, .class_ 4), (1, u "java/lang/Object"), (0, u "<init>"), (0, u "()V"), (17, .class_ 26), (1, u "jdk/internal/util/Preconditions"), (6, u "checkIndex"), (13, u "checkFromToIndex"), (1, u "checkFromIndexSize"), (5, .class_ 56), (0, u "jdk/internal/util/Preconditions$4"), (57, .class_ 115), (0, u "jdk/internal/util/Preconditions$1"), (7, u "SIOOBE_FORMATTER"), (0, u "Ljava/util/function/BiFunction;"), (0, .class_ 126), (0, u "jdk/internal/util/Preconditions$2"), (3, u "AIOOBE_FORMATTER"), (0, .class_ 132), (0, u "jdk/internal/util/Preconditions$3"), (3, u "IOOBE_FORMATTER"), (41, u "(IILjava/util/function/BiFunction;)I"), (4, u "(IIILjava/util/function/BiFunction;)I")] 10

def k13m0 : Method := { name := "<init>", desc := "()V", sig := { parameters := [], returnType := none }, accessFlags := 1, code := none }
def k13c1 : Code := { maxStack := 3, maxLocals := 3, code := jdk_41_method_11_code, exceptionTable := #[], attributes := #[] }
def k13m1 : Method := { name := "checkIndex", desc := "(IILjava/util/function/BiFunction;)I", sig := { parameters := [.int, .int, (.object "java/util/function/BiFunction")], returnType := some .int }, accessFlags := 9, code := some k13c1 }
def k13c2 : Code := { maxStack := 4, maxLocals := 4, code := jdk_41_method_12_code, exceptionTable := #[], attributes := #[] }
def k13m2 : Method := { name := "checkFromToIndex", desc := "(IIILjava/util/function/BiFunction;)I", sig := { parameters := [.int, .int, .int, (.object "java/util/function/BiFunction")], returnType := some .int }, accessFlags := 9, code := some k13c2 }
def k13c3 : Code := { maxStack := 4, maxLocals := 4, code := jdk_41_method_13_code, exceptionTable := #[], attributes := #[] }
def k13m3 : Method := { name := "checkFromIndexSize", desc := "(IIILjava/util/function/BiFunction;)I", sig := { parameters := [.int, .int, .int, (.object "java/util/function/BiFunction")], returnType := some .int }, accessFlags := 9, code := some k13c3 }
/-- jdk/internal/util/Preconditions -/
def k13 : Class := { plain "jdk/internal/util/Preconditions" (some 0) with
  accessFlags := 33
  interfaces := #[]
  cf := some (fileOf pool13 24 #[.nestMembers #[55, 131, 125, 114]] #[{ accessFlags := 1, nameIndex := 5, descriptorIndex := 6, attributes := #[] }, { accessFlags := 9, nameIndex := 33, descriptorIndex := 178, attributes := #[] }, { accessFlags := 9, nameIndex := 47, descriptorIndex := 183, attributes := #[] }, { accessFlags := 9, nameIndex := 49, descriptorIndex := 183, attributes := #[] }] 33 2 #[] #[{ accessFlags := 25, nameIndex := 123, descriptorIndex := 124, attributes := #[] }, { accessFlags := 25, nameIndex := 130, descriptorIndex := 124, attributes := #[] }, { accessFlags := 25, nameIndex := 136, descriptorIndex := 124, attributes := #[] }])
  fields := #[{ name := "SIOOBE_FORMATTER", type := (.object "java/util/function/BiFunction"), accessFlags := 25, slot := 0, constantValue := 0 }, { name := "AIOOBE_FORMATTER", type := (.object "java/util/function/BiFunction"), accessFlags := 25, slot := 1, constantValue := 0 }, { name := "IOOBE_FORMATTER", type := (.object "java/util/function/BiFunction"), accessFlags := 25, slot := 2, constantValue := 0 }]
  methods := #[k13m0, k13m1, k13m2, k13m3]
  instanceTypes := #[]
  staticTypes := #[(.object "java/util/function/BiFunction"), (.object "java/util/function/BiFunction"), (.object "java/util/function/BiFunction")]
  resolved := Array.replicate 194 none
  statics := some 2 }

def pool14 : Array CpInfo := pool [(1, .class_ 2), (0, u "java/lang/String"), (1, .class_ 6), (1, u "java/lang/Object"), (0, u "<init>"), (0, u "()V"), (0, .methodref 1 10), (0, .nameAndType 11 12), (0, u "checkIndex"), (0, u "(II)V"), (1, .class_ 16), (1, u "java/lang/StringLatin1"), (0, u "inflate"), (2, .class_ 22), (1, u "java/lang/StringUTF16"), (3, .nameAndType 17 27), (0, u "([BI[BII)V"), (25, u "([BI)C"), (58, .methodref 1 113), (0, .nameAndType 7 114), (0, u "([BB)V"), (6, u "$assertionsDisabled"), (0, u "Z"), (8, .class_ 133), (1, u "java/util/Arrays"), (62, u "newString"), (0, u "([BII)Ljava/lang/String;"), (23, .class_ 223), (1, u "java/lang/StringLatin1$LinesSpliterator"), (8, .methodref 131 233), (0, .nameAndType 234 235), (0, u "copyOfRange"), (0, u "([BII)[B"), (4, .methodref 20 26), (11, u "charAt"), (137, .class_ 391), (0, u "java/lang/StringLatin1$CharsSpliterator")] 3

def k14m0 : Method := { name := "<init>", desc := "()V", sig := { parameters := [], returnType := none }, accessFlags := 0, code := none }
def k14c1 : Code := { maxStack := 2, maxLocals := 2, code := jdk_43_method_2_code, exceptionTable := #[], attributes := #[] }
def k14m1 : Method := { name := "charAt", desc := "([BI)C", sig := { parameters := [(.array .byte), .int], returnType := some .char }, accessFlags := 9, code := some k14c1 }
def k14c2 : Code := { maxStack := 6, maxLocals := 3, code := jdk_43_method_47_code, exceptionTable := #[], attributes := #[] }
def k14m2 : Method := { name := "newString", desc := "([BII)Ljava/lang/String;", sig := { parameters := [(.array .byte), .int, .int], returnType := some (.object "java/lang/String") }, accessFlags := 9, code := some k14c2 }
def k14c3 : Code := { maxStack := 5, maxLocals := 5, code := jdk_43_method_50_code, exceptionTable := #[], attributes := #[] }
def k14m3 : Method := { name := "inflate", desc := "([BI[BII)V", sig := { parameters := [(.array .byte), .int, (.array .byte), .int, .int], returnType := none }, accessFlags := 9, code := some k14c3 }
/-- java/lang/StringLatin1 -/
def k14 : Class := { plain "java/lang/StringLatin1" (some 0) with
  accessFlags := 48
  interfaces := #[]
  cf := some (fileOf pool14 14 #[.nestMembers #[390, 221]] #[{ accessFlags := 0, nameIndex := 7, descriptorIndex := 8, attributes := #[] }, { accessFlags := 9, nameIndex := 252, descriptorIndex := 53, attributes := #[] }, { accessFlags := 9, nameIndex := 196, descriptorIndex := 197, attributes := #[] }, { accessFlags := 9, nameIndex := 17, descriptorIndex := 27, attributes := #[] }] 48 4 #[] #[{ accessFlags := 4120, nameIndex := 121, descriptorIndex := 122, attributes := #[] }])
  fields := #[{ name := "$assertionsDisabled", type := .boolean, accessFlags := 4120, slot := 0, constantValue := 0 }]
  methods := #[k14m0, k14m1, k14m2, k14m3]
  instanceTypes := #[]
  staticTypes := #[.boolean]
  resolved := Array.replicate 395 none
  statics := none }

def pool15 : Array CpInfo := pool [(2, .class_ 4), (1, u "java/lang/Object"), (0, u "<init>"), (0, u "()V"), (7, .class_ 16), (1, u "java/util/Arrays"), (57, .class_ 76), (1, u "java/util/Arrays$NaturalOrder"), (36, .class_ 115), (1, u "java/util/Arrays$LegacyMergeSort"), (1, u "Z"), (21, u "copyOfRange"), (10, .methodref 151 152), (0, .class_ 153), (0, .nameAndType 154 155), (0, u "java/lang/System"), (0, u "arraycopy"), (0, u "(Ljava/lang/Object;ILjava/lang/Object;II)V"), (146, u "copyOf"), (1, .methodref 305 306), (0, .class_ 307), (0, .nameAndType 308 309), (0, u "java/lang/Math"), (0, u "min"), (0, u "(II)I"), (29, .methodref 14 340), (0, .nameAndType 341 342), (0, u "copyOfRangeByte"), (0, u "([BII)[B"), (0, .methodref 14 344), (0, .nameAndType 345 346), (0, u "checkLength"), (0, u "(II)V"), (28, .class_ 376), (0, u "java/util/Arrays$ArrayList"), (68, u "$assertionsDisabled"), (269, u "MIN_ARRAY_SORT_GRAN"), (0, u "I"), (2, u "INSERTIONSORT_THRESHOLD"), (149, u "([BI)[B"), (105, .class_ 976), (0, u "java/util/Arrays$ArrayItr")] 52

def k15m0 : Method := { name := "<init>", desc := "()V", sig := { parameters := [], returnType := none }, accessFlags := 2, code := none }
def k15c1 : Code := { maxStack := 6, maxLocals := 3, code := jdk_65_method_121_code, exceptionTable := #[], attributes := #[] }
def k15m1 : Method := { name := "copyOf", desc := "([BI)[B", sig := { parameters := [(.array .byte), .int], returnType := some (.array .byte) }, accessFlags := 9, code := some k15c1 }
def k15c2 : Code := { maxStack := 4, maxLocals := 2, code := jdk_65_method_131_code, exceptionTable := #[], attributes := #[] }
def k15m2 : Method := { name := "checkLength", desc := "(II)V", sig := { parameters := [.int, .int], returnType := none }, accessFlags := 10, code := some k15c2 }
def k15c3 : Code := { maxStack := 3, maxLocals := 3, code := jdk_65_method_132_code, exceptionTable := #[], attributes := #[] }
def k15m3 : Method := { name := "copyOfRange", desc := "([BII)[B", sig := { parameters := [(.array .byte), .int, .int], returnType := some (.array .byte) }, accessFlags := 9, code := some k15c3 }
def k15c4 : Code := { maxStack := 6, maxLocals := 5, code := jdk_65_method_133_code, exceptionTable := #[], attributes := #[] }
def k15m4 : Method := { name := "copyOfRangeByte", desc := "([BII)[B", sig := { parameters := [(.array .byte), .int, .int], returnType := some (.array .byte) }, accessFlags := 10, code := some k15c4 }
/-- java/util/Arrays -/
def k15 : Class := { plain "java/util/Arrays" (some 0) with
  accessFlags := 49
  interfaces := #[]
  cf := some (fileOf pool15 14 #[.nestMembers #[975, 375, 113, 74]] #[{ accessFlags := 2, nameIndex := 5, descriptorIndex := 6, attributes := #[] }, { accessFlags := 9, nameIndex := 302, descriptorIndex := 869, attributes := #[] }, { accessFlags := 10, nameIndex := 345, descriptorIndex := 346, attributes := #[] }, { accessFlags := 9, nameIndex := 139, descriptorIndex := 342, attributes := #[] }, { accessFlags := 10, nameIndex := 341, descriptorIndex := 342, attributes := #[] }] 49 2 #[] #[{ accessFlags := 26, nameIndex := 715, descriptorIndex := 716, attributes := #[] }, { accessFlags := 26, nameIndex := 719, descriptorIndex := 716, attributes := #[] }, { accessFlags := 4120, nameIndex := 445, descriptorIndex := 117, attributes := #[] }])
  fields := #[{ name := "MIN_ARRAY_SORT_GRAN", type := .int, accessFlags := 26, slot := 0, constantValue := 0 }, { name := "INSERTIONSORT_THRESHOLD", type := .int, accessFlags := 26, slot := 1, constantValue := 0 }, { name := "$assertionsDisabled", type := .boolean, accessFlags := 4120, slot := 2, constantValue := 0 }]
  methods := #[k15m0, k15m1, k15m2, k15m3, k15m4]
  instanceTypes := #[]
  staticTypes := #[.int, .int, .boolean]
  resolved := Array.replicate 1029 none
  statics := none }

def pool16 : Array CpInfo := pool [(1, .class_ 2), (0, u "java/lang/Math"), (1, .class_ 6), (1, u "java/lang/Object"), (0, u "<init>"), (0, u "()V"), (89, .class_ 100), (1, u "java/lang/Math$RandomNumberGeneratorHolder"), (71, u "negativeZeroFloatBits"), (0, u "J"), (2, u "negativeZeroDoubleBits"), (21, u "max"), (2, u "min"), (43, u "$assertionsDisabled"), (0, u "Z"), (88, u "(II)I"), (2, u "twoToTheDoubleScaleDown"), (0, u "D"), (4, u "twoToTheDoubleScaleUp"), (9, u "E"), (3, u "PI"), (2, u "TAU"), (2, u "DEGREES_TO_RADIANS"), (0, u "RADIANS_TO_DEGREES")] 94

def k16m0 : Method := { name := "<init>", desc := "()V", sig := { parameters := [], returnType := none }, accessFlags := 2, code := none }
def k16c1 : Code := { maxStack := 2, maxLocals := 2, code := jdk_29_method_65_code, exceptionTable := #[], attributes := #[] }
def k16m1 : Method := { name := "max", desc := "(II)I", sig := { parameters := [.int, .int], returnType := some .int }, accessFlags := 9, code := some k16c1 }
def k16c2 : Code := { maxStack := 2, maxLocals := 2, code := jdk_29_method_69_code, exceptionTable := #[], attributes := #[] }
def k16m2 : Method := { name := "min", desc := "(II)I", sig := { parameters := [.int, .int], returnType := some .int }, accessFlags := 9, code := some k16c2 }
/-- java/lang/Math -/
def k16 : Class := { plain "java/lang/Math" (some 0) with
  accessFlags := 49
  interfaces := #[]
  cf := some (fileOf pool16 1 #[.nestMembers #[98]] #[{ accessFlags := 2, nameIndex := 7, descriptorIndex := 8, attributes := #[] }, { accessFlags := 9, nameIndex := 198, descriptorIndex := 335, attributes := #[] }, { accessFlags := 9, nameIndex := 201, descriptorIndex := 335, attributes := #[] }] 49 4 #[] #[{ accessFlags := 25, nameIndex := 354, descriptorIndex := 339, attributes := #[] }, { accessFlags := 25, nameIndex := 358, descriptorIndex := 339, attributes := #[] }, { accessFlags := 25, nameIndex := 361, descriptorIndex := 339, attributes := #[] }, { accessFlags := 26, nameIndex := 364, descriptorIndex := 339, attributes := #[] }, { accessFlags := 26, nameIndex := 365, descriptorIndex := 339, attributes := #[] }, { accessFlags := 26, nameIndex := 172, descriptorIndex := 173, attributes := #[] }, { accessFlags := 26, nameIndex := 176, descriptorIndex := 173, attributes := #[] }, { accessFlags := 8, nameIndex := 344, descriptorIndex := 339, attributes := #[] }, { accessFlags := 8, nameIndex := 338, descriptorIndex := 339, attributes := #[] }, { accessFlags := 4120, nameIndex := 245, descriptorIndex := 246, attributes := #[] }])
  fields := #[{ name := "E", type := .double, accessFlags := 25, slot := 0, constantValue := 0 }, { name := "PI", type := .double, accessFlags := 25, slot := 1, constantValue := 0 }, { name := "TAU", type := .double, accessFlags := 25, slot := 2, constantValue := 0 }, { name := "DEGREES_TO_RADIANS", type := .double, accessFlags := 26, slot := 3, constantValue := 0 }, { name := "RADIANS_TO_DEGREES", type := .double, accessFlags := 26, slot := 4, constantValue := 0 }, { name := "negativeZeroFloatBits", type := .long, accessFlags := 26, slot := 5, constantValue := 0 }, { name := "negativeZeroDoubleBits", type := .long, accessFlags := 26, slot := 6, constantValue := 0 }, { name := "twoToTheDoubleScaleUp", type := .double, accessFlags := 8, slot := 7, constantValue := 0 }, { name := "twoToTheDoubleScaleDown", type := .double, accessFlags := 8, slot := 8, constantValue := 0 }, { name := "$assertionsDisabled", type := .boolean, accessFlags := 4120, slot := 9, constantValue := 0 }]
  methods := #[k16m0, k16m1, k16m2]
  instanceTypes := #[]
  staticTypes := #[.double, .double, .double, .double, .double, .long, .long, .double, .double, .boolean]
  resolved := Array.replicate 460 none
  statics := none }

def pool17 : Array CpInfo := pool [(2, .class_ 4), (1, u "java/lang/Object"), (0, u "<init>"), (0, u "()V"), (1, .class_ 10), (1, u "java/lang/System"), (0, u "allowSecurityManager"), (0, u "I"), (16, u "cons"), (0, u "Ljava/io/Console;"), (77, .class_ 110), (1, u "java/lang/System$CallersHolder"), (43, u "initialErrStream"), (0, u "Ljava/io/PrintStream;"), (19, u "security"), (0, u "Ljava/lang/SecurityManager;"), (31, .class_ 209), (0, u "java/lang/System$1"), (7, u "props"), (0, u "Ljava/util/Properties;"), (2, u "lineSeparator"), (0, u "Ljava/lang/String;"), (96, .class_ 321), (1, u "java/lang/System$LoggerFinder"), (5, .class_ 328), (0, u "java/lang/System$Logger"), (67, u "err"), (2, u "out"), (91, u "notSupportedJnuEncoding"), (15, u "in"), (17, u "initialIn"), (0, u "Ljava/io/InputStream;"), (35, u "bootLayer"), (0, u "Ljava/lang/ModuleLayer;"), (99, .class_ 664), (0, u "java/lang/System$2"), (9, u "NEVER"), (2, u "MAYBE"), (49, u "arraycopy"), (0, u "(Ljava/lang/Object;ILjava/lang/Object;II)V"), (72, .class_ 802), (0, u "java/lang/System$Logger$Level")] 31

def k17m0 : Method := { name := "<init>", desc := "()V", sig := { parameters := [], returnType := none }, accessFlags := 2, code := none }
def k17m1 : Method := { name := "arraycopy", desc := "(Ljava/lang/Object;ILjava/lang/Object;II)V", sig := { parameters := [(.object "java/lang/Object"), .int, (.object "java/lang/Object"), .int, .int], returnType := none }, accessFlags := 265, code := none }
/-- java/lang/System -/
def k17 : Class := { plain "java/lang/System" (some 0) with
  accessFlags := 49
  interfaces := #[]
  cf := some (fileOf pool17 8 #[.nestMembers #[319, 327, 801, 108, 663, 208]] #[{ accessFlags := 2, nameIndex := 5, descriptorIndex := 6, attributes := #[] }, { accessFlags := 265, nameIndex := 727, descriptorIndex := 728, attributes := #[] }] 49 2 #[] #[{ accessFlags := 25, nameIndex := 507, descriptorIndex := 526, attributes := #[] }, { accessFlags := 25, nameIndex := 399, descriptorIndex := 155, attributes := #[] }, { accessFlags := 25, nameIndex := 396, descriptorIndex := 155, attributes := #[] }, { accessFlags := 10, nameIndex := 525, descriptorIndex := 526, attributes := #[] }, { accessFlags := 26, nameIndex := 674, descriptorIndex := 12, attributes := #[] }, { accessFlags := 26, nameIndex := 677, descriptorIndex := 12, attributes := #[] }, { accessFlags := 10, nameIndex := 11, descriptorIndex := 12, attributes := #[] }, { accessFlags := 74, nameIndex := 175, descriptorIndex := 176, attributes := #[] }, { accessFlags := 10, nameIndex := 491, descriptorIndex := 222, attributes := #[] }, { accessFlags := 74, nameIndex := 29, descriptorIndex := 30, attributes := #[] }, { accessFlags := 74, nameIndex := 154, descriptorIndex := 155, attributes := #[] }, { accessFlags := 10, nameIndex := 217, descriptorIndex := 218, attributes := #[] }, { accessFlags := 10, nameIndex := 221, descriptorIndex := 222, attributes := #[] }, { accessFlags := 8, nameIndex := 562, descriptorIndex := 563, attributes := #[] }])
  fields := #[{ name := "in", type := (.object "java/io/InputStream"), accessFlags := 25, slot := 0, constantValue := 0 }, { name := "out", type := (.object "java/io/PrintStream"), accessFlags := 25, slot := 1, constantValue := 0 }, { name := "err", type := (.object "java/io/PrintStream"), accessFlags := 25, slot := 2, constantValue := 0 }, { name := "initialIn", type := (.object "java/io/InputStream"), accessFlags := 10, slot := 3, constantValue := 0 }, { name := "NEVER", type := .int, accessFlags := 26, slot := 4, constantValue := 0 }, { name := "MAYBE", type := .int, accessFlags := 26, slot := 5, constantValue := 0 }, { name := "allowSecurityManager", type := .int, accessFlags := 10, slot := 6, constantValue := 0 }, { name := "security", type := (.object "java/lang/SecurityManager"), accessFlags := 74, slot := 7, constantValue := 0 }, { name := "notSupportedJnuEncoding", type := (.object "java/lang/String"), accessFlags := 10, slot := 8, constantValue := 0 }, { name := "cons", type := (.object "java/io/Console"), accessFlags := 74, slot := 9, constantValue := 0 }, { name := "initialErrStream", type := (.object "java/io/PrintStream"), accessFlags := 74, slot := 10, constantValue := 0 }, { name := "props", type := (.object "java/util/Properties"), accessFlags := 10, slot := 11, constantValue := 0 }, { name := "lineSeparator", type := (.object "java/lang/String"), accessFlags := 10, slot := 12, constantValue := 0 }, { name := "bootLayer", type := (.object "java/lang/ModuleLayer"), accessFlags := 8, slot := 13, constantValue := 0 }]
  methods := #[k17m0, k17m1]
  instanceTypes := #[]
  staticTypes := #[(.object "java/io/InputStream"), (.object "java/io/PrintStream"), (.object "java/io/PrintStream"), (.object "java/io/InputStream"), .int, .int, .int, (.object "java/lang/SecurityManager"), (.object "java/lang/String"), (.object "java/io/Console"), (.object "java/io/PrintStream"), (.object "java/util/Properties"), (.object "java/lang/String"), (.object "java/lang/ModuleLayer")]
  resolved := Array.replicate 834 none
  statics := none }

def pool18 : Array CpInfo := pool [(9, u "<init>"), (6, .class_ 18), (1, u "java/lang/Object"), (0, u "()V"), (1, .class_ 23), (1, u "jdk/internal/util/ArraysSupport"), (0, u "LOG2_ARRAY_LONG_INDEX_SCALE"), (0, u "I"), (2, u "U"), (0, u "Ljdk/internal/misc/Unsafe;"), (8, u "BIG_ENDIAN"), (0, u "Z"), (8, u "LOG2_BYTE_BIT_SIZE"), (4, u "LOG2_ARRAY_INT_INDEX_SCALE"), (54, u "JLA"), (0, u "Ljdk/internal/access/JavaLangAccess;"), (11, u "LOG2_ARRAY_BOOLEAN_INDEX_SCALE"), (9, u "LOG2_ARRAY_BYTE_INDEX_SCALE"), (5, u "LOG2_ARRAY_CHAR_INDEX_SCALE"), (5, u "LOG2_ARRAY_SHORT_INDEX_SCALE"), (18, u "LOG2_ARRAY_FLOAT_INDEX_SCALE"), (24, u "LOG2_ARRAY_DOUBLE_INDEX_SCALE"), (6, .methodref 195 196), (0, .class_ 197), (0, .nameAndType 198 199), (0, u "java/lang/Math"), (0, u "max"), (0, u "(II)I"), (0, .integer 2147483639), (76, u "T_BOOLEAN"), (2, u "T_CHAR"), (1, u "T_FLOAT"), (1, u "T_DOUBLE"), (1, u "T_BYTE"), (1, u "T_SHORT"), (1, u "T_INT"), (1, u "T_LONG"), (1, u "SOFT_MAX_ARRAY_LENGTH"), (56, u "newLength"), (0, u "(III)I")] 25

def k18m0 : Method := { name := "<init>", desc := "()V", sig := { parameters := [], returnType := none }, accessFlags := 2, code := none }
def k18c1 : Code := { maxStack := 3, maxLocals := 4, code := jdk_48_method_27_code, exceptionTable := #[], attributes := #[] }
def k18m1 : Method := { name := "newLength", desc := "(III)I", sig := { parameters := [.int, .int, .int], returnType := some .int }, accessFlags := 9, code := some k18c1 }
/-- jdk/internal/util/ArraysSupport -/
def k18 : Class := { plain "jdk/internal/util/ArraysSupport" (some 0) with
  accessFlags := 33
  interfaces := #[]
  cf := some (fileOf pool18 21 #[] #[{ accessFlags := 2, nameIndex := 9, descriptorIndex := 19, attributes := #[] }, { accessFlags := 9, nameIndex := 351, descriptorIndex := 352, attributes := #[] }] 33 16 #[] #[{ accessFlags := 24, nameIndex := 28, descriptorIndex := 29, attributes := #[] }, { accessFlags := 26, nameIndex := 38, descriptorIndex := 39, attributes := #[] }, { accessFlags := 25, nameIndex := 121, descriptorIndex := 25, attributes := #[] }, { accessFlags := 25, nameIndex := 131, descriptorIndex := 25, attributes := #[] }, { accessFlags := 25, nameIndex := 137, descriptorIndex := 25, attributes := #[] }, { accessFlags := 25, nameIndex := 143, descriptorIndex := 25, attributes := #[] }, { accessFlags := 25, nameIndex := 53, descriptorIndex := 25, attributes := #[] }, { accessFlags := 25, nameIndex := 24, descriptorIndex := 25, attributes := #[] }, { accessFlags := 25, nameIndex := 162, descriptorIndex := 25, attributes := #[] }, { accessFlags := 25, nameIndex := 187, descriptorIndex := 25, attributes := #[] }, { accessFlags := 26, nameIndex := 48, descriptorIndex := 25, attributes := #[] }, { accessFlags := 25, nameIndex := 277, descriptorIndex := 25, attributes := #[] }, { accessFlags := 25, nameIndex := 280, descriptorIndex := 25, attributes := #[] }, { accessFlags := 25, nameIndex := 282, descriptorIndex := 25, attributes := #[] }, { accessFlags := 25, nameIndex := 284, descriptorIndex := 25, attributes := #[] }, { accessFlags := 25, nameIndex := 286, descriptorIndex := 25, attributes := #[] }, { accessFlags := 25, nameIndex := 288, descriptorIndex := 25, attributes := #[] }, { accessFlags := 25, nameIndex := 290, descriptorIndex := 25, attributes := #[] }, { accessFlags := 25, nameIndex := 292, descriptorIndex := 25, attributes := #[] }, { accessFlags := 26, nameIndex := 108, descriptorIndex := 109, attributes := #[] }, { accessFlags := 25, nameIndex := 294, descriptorIndex := 25, attributes := #[] }])
  fields := #[{ name := "U", type := (.object "jdk/internal/misc/Unsafe"), accessFlags := 24, slot := 0, constantValue := 0 }, { name := "BIG_ENDIAN", type := .boolean, accessFlags := 26, slot := 1, constantValue := 0 }, { name := "LOG2_ARRAY_BOOLEAN_INDEX_SCALE", type := .int, accessFlags := 25, slot := 2, constantValue := 0 }, { name := "LOG2_ARRAY_BYTE_INDEX_SCALE", type := .int, accessFlags := 25, slot := 3, constantValue := 0 }, { name := "LOG2_ARRAY_CHAR_INDEX_SCALE", type := .int, accessFlags := 25, slot := 4, constantValue := 0 }, { name := "LOG2_ARRAY_SHORT_INDEX_SCALE", type := .int, accessFlags := 25, slot := 5, constantValue := 0 }, { name := "LOG2_ARRAY_INT_INDEX_SCALE", type := .int, accessFlags := 25, slot := 6, constantValue := 0 }, { name := "LOG2_ARRAY_LONG_INDEX_SCALE", type := .int, accessFlags := 25, slot := 7, constantValue := 0 }, { name := "LOG2_ARRAY_FLOAT_INDEX_SCALE", type := .int, accessFlags := 25, slot := 8, constantValue := 0 }, { name := "LOG2_ARRAY_DOUBLE_INDEX_SCALE", type := .int, accessFlags := 25, slot := 9, constantValue := 0 }, { name := "LOG2_BYTE_BIT_SIZE", type := .int, accessFlags := 26, slot := 10, constantValue := 0 }, { name := "T_BOOLEAN", type := .int, accessFlags := 25, slot := 11, constantValue := 0 }, { name := "T_CHAR", type := .int, accessFlags := 25, slot := 12, constantValue := 0 }, { name := "T_FLOAT", type := .int, accessFlags := 25, slot := 13, constantValue := 0 }, { name := "T_DOUBLE", type := .int, accessFlags := 25, slot := 14, constantValue := 0 }, { name := "T_BYTE", type := .int, accessFlags := 25, slot := 15, constantValue := 0 }, { name := "T_SHORT", type := .int, accessFlags := 25, slot := 16, constantValue := 0 }, { name := "T_INT", type := .int, accessFlags := 25, slot := 17, constantValue := 0 }, { name := "T_LONG", type := .int, accessFlags := 25, slot := 18, constantValue := 0 }, { name := "JLA", type := (.object "jdk/internal/access/JavaLangAccess"), accessFlags := 26, slot := 19, constantValue := 0 }, { name := "SOFT_MAX_ARRAY_LENGTH", type := .int, accessFlags := 25, slot := 20, constantValue := 0 }]
  methods := #[k18m0, k18m1]
  instanceTypes := #[]
  staticTypes := #[(.object "jdk/internal/misc/Unsafe"), .boolean, .int, .int, .int, .int, .int, .int, .int, .int, .int, .int, .int, .int, .int, .int, .int, .int, .int, (.object "jdk/internal/access/JavaLangAccess"), .int]
  resolved := Array.replicate 378 none
  statics := none }

def pool19 : Array CpInfo := pool [(1, u "java/lang/Cloneable"), (0, .class_ 1), (0, u "java/lang/Object"), (0, .class_ 3)] 3

/-- java/lang/Cloneable -/
def k19 : Class := { plain "java/lang/Cloneable" (some 0) with
  accessFlags := 1537
  interfaces := #[]
  cf := some (fileOf pool19 2 #[] #[] 1537 4 #[] #[])
  fields := #[]
  methods := #[]
  instanceTypes := #[]
  staticTypes := #[]
  resolved := Array.replicate 8 none
  statics := none }

/-- the primitive byte -/
def k20 : Class := { plain "byte" none with kind := .primitive 'B', accessFlags := 0x411 }
/-- [B -/
def k21 : Class := { plain "[B" (some 0) with kind := .array 20 .byte, interfaces := #[19, 2], accessFlags := 1041 }

/-- the primitive char -/
def k22 : Class := { plain "char" none with kind := .primitive 'C', accessFlags := 0x411 }
/-- [C -/
def k23 : Class := { plain "[C" (some 0) with kind := .array 22 .char, interfaces := #[19, 2], accessFlags := 1041 }

/-- the primitive int -/
def k24 : Class := { plain "int" none with kind := .primitive 'I', accessFlags := 0x411 }
/-- [I -/
def k25 : Class := { plain "[I" (some 0) with kind := .array 24 .int, interfaces := #[19, 2], accessFlags := 1041 }

def heap : Heap := #[{ cls := 7, slots := #[.long 0, .int 1, .null, .int 0, .null, .int 0, .int 0], vm := .statics 7 },
  { cls := 9, slots := #[.int 0, .int 8, .int 0, .int 1], vm := .statics 9 },
  { cls := 13, slots := #[.null, .null, .null], vm := .statics 13 }]
def classes : Array Class := #[k0, k1, k2, k3, k4, k5, k6, k7, k8, k9, k10, k11, k12, k13, k14, k15, k16, k17, k18, k19, k20, k21, k22, k23, k24, k25]
def interned : List (Array UInt16 × Addr) := []
def slotsUsed : Nat := 14
def theMethod : MethodId := ⟨1, 3⟩
def args0 : Array Value := #[.int 5, .int 5, .int 5, .int 5, .int 5, .int 5]
def aboutOver (below : List Frame) : State where
  vm := { classes := classes, interned := interned.toArray }
  heap := heap
  slotsUsed := slotsUsed
  threads := #[{ frames := .invoking theMethod args0 :: below }]
def below0 : List Frame := [.native { method := ⟨0, 0⟩, args := #[] }]
def about1 : State := aboutOver below0
def p0 : Program := .bare "" "" ""
def e0 : Env := launch0.env 0 0 0
theorem w_frames : about1.frames = Frame.invoking theMethod args0 :: below0 := rfl
set_option maxRecDepth 65536 in
theorem w_args : argsFit about1.vm theMethod args0 = true := by decide +kernel
set_option maxRecDepth 65536 in
theorem w_heap : heapFits about1 = true := by decide +kernel
set_option maxRecDepth 65536 in
theorem w_runnable : about1.curStatus? = some .runnable := by decide +kernel
set_option maxRecDepth 65536 in
theorem w_alone : about1.alone = true := by decide +kernel
set_option maxRecDepth 65536 in
theorem w_named : about1.methodNamed? x = some theMethod := by decide +kernel
set_option maxRecDepth 65536 in
theorem w_hears : about1.hears theMethod below0 = true := by decide +kernel
set_option maxRecDepth 65536 in
theorem w_ripe : about1.ripe theMethod args0 below0 = true := by decide +kernel
theorem w_running : about1.status = .running := rfl
set_option maxRecDepth 65536 in
theorem w_room : about1.hasRoom e0.platform room_1 = true :=
  launch0.hasRoom_least _ room_1 (by decide +kernel) (by decide +kernel) (by decide +kernel) (by decide +kernel) (by decide +kernel) (by decide +kernel)
theorem allAtoms_all (ts : List Jvm.Cond) (a : Array Jvm.Value) (st : Jvm.State) : (allAtoms ts).before a st = ts.all (fun c => c.before a st) := by
  induction ts with
  | nil => rfl
  | cons c t ih =>
    show (Jvm.Cond.and c (allAtoms t)).before a st = _
    rw [Jvm.Cond.before_and, ih, List.all_cons]
def words1 : List Jvm.Cond := Jvm.Cond.code x code maxLocals ret :: tables_1
/-- a 'code' word, met by the world's own term for the bytes: nothing is compared byte by byte -/
theorem code_word {y : MethodName} {bytes : ByteArray} {mx : Nat} {rt : Option FieldType} {a : Array Value} {s : State} {m : MethodId} {meth : Method} {c : Code} (h1 : s.methodNamed? y = some m) (h2 : s.vm.method? m = some meth) (h3 : meth.code = some c) (h4 : c.code = bytes)
    (h5 : (c.maxLocals == mx && c.exceptionTable.isEmpty && decide (c.maxStack ≤ mostOperands) && decide (meth.sig.returnType = rt) && !meth.locks && decide (parseMethodDescriptor y.desc = some meth.sig)) = true) : (Jvm.Cond.code y bytes mx rt).before a s = true := by
  simp only [Bool.and_eq_true, beq_iff_eq, Bool.not_eq_true', decide_eq_true_eq] at h5
  obtain ⟨⟨⟨⟨⟨g1, g2⟩, g3⟩, g4⟩, g5⟩, g6⟩ := h5
  simp [Cond.before, Cond.holds, Cond.value, h1, h2, h3, h4, g1, g2, g3, g4, g5, g6]
def isCode : Jvm.Cond → Bool
  | .code _ _ _ _ => true
  | _ => false
theorem all_split {L : List Jvm.Cond} {P : Jvm.Cond → Bool} (h1 : L.all (fun c => isCode c || P c) = true) (h2 : ∀ c ∈ L.filter isCode, P c = true) : L.all P = true := by
  refine List.all_eq_true.mpr fun c hc => ?_
  have h := List.all_eq_true.mp h1 c hc
  rcases Bool.eq_false_or_eq_true (isCode c) with hi | hi
  · exact h2 c (List.mem_filter.mpr ⟨hc, hi⟩)
  · simpa [hi] using h
set_option maxRecDepth 65536 in
theorem w_c0 : (Jvm.Cond.code x code maxLocals ret).before args0 about1 = true := code_word (m := ⟨1, 3⟩) (meth := k1m3) (c := k1c3) (by decide +kernel) rfl rfl rfl (by decide +kernel)
set_option maxRecDepth 65536 in
theorem w_c1 : (Jvm.Cond.code ({ cls := "com/example/tallykeep/tallykeep/core/FileTextShortenedPinLaw", name := "make", desc := "(I)[C" } : Jvm.MethodName) method_2_code (1 : Nat) (Option.some (Jvm.ClassFile.FieldType.array Jvm.ClassFile.FieldType.char))).before args0 about1 = true := code_word (m := ⟨1, 1⟩) (meth := k1m1) (c := k1c1) (by decide +kernel) rfl rfl rfl (by decide +kernel)
set_option maxRecDepth 65536 in
theorem w_c2 : (Jvm.Cond.code ({ cls := "java/lang/String", name := "<init>", desc := "([C)V" } : Jvm.MethodName) jdk_42_method_3_code (2 : Nat) (Option.none : Option Jvm.ClassFile.FieldType)).before args0 about1 = true := code_word (m := ⟨7, 1⟩) (meth := k7m1) (c := k7c1) (by decide +kernel) rfl rfl rfl (by decide +kernel)
set_option maxRecDepth 65536 in
theorem w_c3 : (Jvm.Cond.code ({ cls := "java/lang/String", name := "<init>", desc := "([CIILjava/lang/Void;)V" } : Jvm.MethodName) jdk_42_method_149_code (6 : Nat) (Option.none : Option Jvm.ClassFile.FieldType)).before args0 about1 = true := code_word (m := ⟨7, 8⟩) (meth := k7m8) (c := k7c8) (by decide +kernel) rfl rfl rfl (by decide +kernel)
set_option maxRecDepth 65536 in
theorem w_c4 : (Jvm.Cond.code ({ cls := "java/lang/Object", name := "<init>", desc := "()V" } : Jvm.MethodName) object_method_1_code (1 : Nat) (Option.none : Option Jvm.ClassFile.FieldType)).before args0 about1 = true := code_word (m := ⟨0, 0⟩) (meth := k0m0) (c := k0c0) (by decide +kernel) rfl rfl rfl (by decide +kernel)
set_option maxRecDepth 65536 in
theorem w_c5 : (Jvm.Cond.code ({ cls := "com/example/tallykeep/tallykeep/core/FileText", name := "shortened", desc := "(Ljava/lang/String;)Ljava/lang/String;" } : Jvm.MethodName) prog_13_method_3_code (1 : Nat) (Option.some (Jvm.ClassFile.FieldType.object "java/lang/String"))).before args0 about1 = true := code_word (m := ⟨8, 1⟩) (meth := k8m1) (c := k8c1) (by decide +kernel) rfl rfl rfl (by decide +kernel)
set_option maxRecDepth 65536 in
theorem w_c6 : (Jvm.Cond.code ({ cls := "java/lang/String", name := "length", desc := "()I" } : Jvm.MethodName) jdk_42_method_54_code (1 : Nat) (Option.some Jvm.ClassFile.FieldType.int)).before args0 about1 = true := code_word (m := ⟨7, 3⟩) (meth := k7m3) (c := k7c3) (by decide +kernel) rfl rfl rfl (by decide +kernel)
set_option maxRecDepth 65536 in
theorem w_c7 : (Jvm.Cond.code ({ cls := "java/lang/String", name := "coder", desc := "()B" } : Jvm.MethodName) jdk_42_method_152_code (1 : Nat) (Option.some Jvm.ClassFile.FieldType.byte)).before args0 about1 = true := code_word (m := ⟨7, 11⟩) (meth := k7m11) (c := k7c11) (by decide +kernel) rfl rfl rfl (by decide +kernel)
set_option maxRecDepth 65536 in
theorem w_c8 : (Jvm.Cond.code ({ cls := "java/lang/String", name := "equals", desc := "(Ljava/lang/Object;)Z" } : Jvm.MethodName) jdk_42_method_66_code (3 : Nat) (Option.some Jvm.ClassFile.FieldType.boolean)).before args0 about1 = true := code_word (m := ⟨7, 5⟩) (meth := k7m5) (c := k7c5) (by decide +kernel) rfl rfl rfl (by decide +kernel)
set_option maxRecDepth 65536 in
theorem w_c9 : (Jvm.Cond.code ({ cls := "java/lang/StringUTF16", name := "compress", desc := "([CII)[B" } : Jvm.MethodName) jdk_52_method_16_code (6 : Nat) (Option.some (Jvm.ClassFile.FieldType.array Jvm.ClassFile.FieldType.byte))).before args0 about1 = true := code_word (m := ⟨9, 8⟩) (meth := k9m8) (c := k9c8) (by decide +kernel) rfl rfl rfl (by decide +kernel)
set_option maxRecDepth 65536 in
theorem w_c10 : (Jvm.Cond.code ({ cls := "java/lang/StringUTF16", name := "compress", desc := "([CI[BII)I" } : Jvm.MethodName) jdk_52_method_21_code (7 : Nat) (Option.some Jvm.ClassFile.FieldType.int)).before args0 about1 = true := code_word (m := ⟨9, 10⟩) (meth := k9m10) (c := k9c10) (by decide +kernel) rfl rfl rfl (by decide +kernel)
set_option maxRecDepth 65536 in
theorem w_c11 : (Jvm.Cond.code ({ cls := "java/lang/StringUTF16", name := "coderFromArrayLen", desc := "([BI)B" } : Jvm.MethodName) jdk_52_method_15_code (2 : Nat) (Option.some Jvm.ClassFile.FieldType.byte)).before args0 about1 = true := code_word (m := ⟨9, 7⟩) (meth := k9m7) (c := k9c7) (by decide +kernel) rfl rfl rfl (by decide +kernel)
set_option maxRecDepth 65536 in
theorem w_c12 : (Jvm.Cond.code ({ cls := "java/lang/StringBuilder", name := "<init>", desc := "()V" } : Jvm.MethodName) jdk_67_method_1_code (1 : Nat) (Option.none : Option Jvm.ClassFile.FieldType)).before args0 about1 = true := code_word (m := ⟨12, 0⟩) (meth := k12m0) (c := k12c0) (by decide +kernel) rfl rfl rfl (by decide +kernel)
set_option maxRecDepth 65536 in
theorem w_c13 : (Jvm.Cond.code ({ cls := "java/lang/AbstractStringBuilder", name := "<init>", desc := "(I)V" } : Jvm.MethodName) jdk_68_method_2_code (2 : Nat) (Option.none : Option Jvm.ClassFile.FieldType)).before args0 about1 = true := code_word (m := ⟨11, 1⟩) (meth := k11m1) (c := k11c1) (by decide +kernel) rfl rfl rfl (by decide +kernel)
set_option maxRecDepth 65536 in
theorem w_c14 : (Jvm.Cond.code ({ cls := "java/lang/String", name := "substring", desc := "(II)Ljava/lang/String;" } : Jvm.MethodName) jdk_42_method_92_code (5 : Nat) (Option.some (Jvm.ClassFile.FieldType.object "java/lang/String"))).before args0 about1 = true := code_word (m := ⟨7, 6⟩) (meth := k7m6) (c := k7c6) (by decide +kernel) rfl rfl rfl (by decide +kernel)
set_option maxRecDepth 65536 in
theorem w_c15 : (Jvm.Cond.code ({ cls := "java/lang/String", name := "checkBoundsBeginEnd", desc := "(III)V" } : Jvm.MethodName) jdk_42_method_158_code (3 : Nat) (Option.none : Option Jvm.ClassFile.FieldType)).before args0 about1 = true := code_word (m := ⟨7, 15⟩) (meth := k7m15) (c := k7c15) (by decide +kernel) rfl rfl rfl (by decide +kernel)
set_option maxRecDepth 65536 in
theorem w_c16 : (Jvm.Cond.code ({ cls := "jdk/internal/util/Preconditions", name := "checkFromToIndex", desc := "(IIILjava/util/function/BiFunction;)I" } : Jvm.MethodName) jdk_41_method_12_code (4 : Nat) (Option.some Jvm.ClassFile.FieldType.int)).before args0 about1 = true := code_word (m := ⟨13, 2⟩) (meth := k13m2) (c := k13c2) (by decide +kernel) rfl rfl rfl (by decide +kernel)
set_option maxRecDepth 65536 in
theorem w_c17 : (Jvm.Cond.code ({ cls := "java/lang/String", name := "isLatin1", desc := "()Z" } : Jvm.MethodName) jdk_42_method_154_code (1 : Nat) (Option.some Jvm.ClassFile.FieldType.boolean)).before args0 about1 = true := code_word (m := ⟨7, 12⟩) (meth := k7m12) (c := k7c12) (by decide +kernel) rfl rfl rfl (by decide +kernel)
set_option maxRecDepth 65536 in
theorem w_c18 : (Jvm.Cond.code ({ cls := "java/lang/StringLatin1", name := "newString", desc := "([BII)Ljava/lang/String;" } : Jvm.MethodName) jdk_43_method_47_code (3 : Nat) (Option.some (Jvm.ClassFile.FieldType.object "java/lang/String"))).before args0 about1 = true := code_word (m := ⟨14, 2⟩) (meth := k14m2) (c := k14c2) (by decide +kernel) rfl rfl rfl (by decide +kernel)
set_option maxRecDepth 65536 in
theorem w_c19 : (Jvm.Cond.code ({ cls := "java/util/Arrays", name := "copyOfRange", desc := "([BII)[B" } : Jvm.MethodName) jdk_65_method_132_code (3 : Nat) (Option.some (Jvm.ClassFile.FieldType.array Jvm.ClassFile.FieldType.byte))).before args0 about1 = true := code_word (m := ⟨15, 3⟩) (meth := k15m3) (c := k15c3) (by decide +kernel) rfl rfl rfl (by decide +kernel)
set_option maxRecDepth 65536 in
theorem w_c20 : (Jvm.Cond.code ({ cls := "java/util/Arrays", name := "copyOfRangeByte", desc := "([BII)[B" } : Jvm.MethodName) jdk_65_method_133_code (5 : Nat) (Option.some (Jvm.ClassFile.FieldType.array Jvm.ClassFile.FieldType.byte))).before args0 about1 = true := code_word (m := ⟨15, 4⟩) (meth := k15m4) (c := k15c4) (by decide +kernel) rfl rfl rfl (by decide +kernel)
set_option maxRecDepth 65536 in
theorem w_c21 : (Jvm.Cond.code ({ cls := "java/util/Arrays", name := "checkLength", desc := "(II)V" } : Jvm.MethodName) jdk_65_method_131_code (2 : Nat) (Option.none : Option Jvm.ClassFile.FieldType)).before args0 about1 = true := code_word (m := ⟨15, 2⟩) (meth := k15m2) (c := k15c2) (by decide +kernel) rfl rfl rfl (by decide +kernel)
set_option maxRecDepth 65536 in
theorem w_c22 : (Jvm.Cond.code ({ cls := "java/lang/Math", name := "min", desc := "(II)I" } : Jvm.MethodName) jdk_29_method_69_code (2 : Nat) (Option.some Jvm.ClassFile.FieldType.int)).before args0 about1 = true := code_word (m := ⟨16, 2⟩) (meth := k16m2) (c := k16c2) (by decide +kernel) rfl rfl rfl (by decide +kernel)
set_option maxRecDepth 65536 in
theorem w_c23 : (Jvm.Cond.code ({ cls := "java/lang/String", name := "<init>", desc := "([BB)V" } : Jvm.MethodName) jdk_42_method_151_code (3 : Nat) (Option.none : Option Jvm.ClassFile.FieldType)).before args0 about1 = true := code_word (m := ⟨7, 10⟩) (meth := k7m10) (c := k7c10) (by decide +kernel) rfl rfl rfl (by decide +kernel)
set_option maxRecDepth 65536 in
theorem w_c24 : (Jvm.Cond.code ({ cls := "java/lang/StringBuilder", name := "append", desc := "(Ljava/lang/String;)Ljava/lang/StringBuilder;" } : Jvm.MethodName) jdk_67_method_7_code (2 : Nat) (Option.some (Jvm.ClassFile.FieldType.object "java/lang/StringBuilder"))).before args0 about1 = true := code_word (m := ⟨12, 1⟩) (meth := k12m1) (c := k12c1) (by decide +kernel) rfl rfl rfl (by decide +kernel)
set_option maxRecDepth 65536 in
theorem w_c25 : (Jvm.Cond.code ({ cls := "java/lang/AbstractStringBuilder", name := "append", desc := "(Ljava/lang/String;)Ljava/lang/AbstractStringBuilder;" } : Jvm.MethodName) jdk_68_method_22_code (3 : Nat) (Option.some (Jvm.ClassFile.FieldType.object "java/lang/AbstractStringBuilder"))).before args0 about1 = true := code_word (m := ⟨11, 6⟩) (meth := k11m6) (c := k11c6) (by decide +kernel) rfl rfl rfl (by decide +kernel)
set_option maxRecDepth 65536 in
theorem w_c26 : (Jvm.Cond.code ({ cls := "java/lang/AbstractStringBuilder", name := "ensureCapacityInternal", desc := "(I)V" } : Jvm.MethodName) jdk_68_method_9_code (3 : Nat) (Option.none : Option Jvm.ClassFile.FieldType)).before args0 about1 = true := code_word (m := ⟨11, 3⟩) (meth := k11m3) (c := k11c3) (by decide +kernel) rfl rfl rfl (by decide +kernel)
set_option maxRecDepth 65536 in
theorem w_c27 : (Jvm.Cond.code ({ cls := "java/lang/AbstractStringBuilder", name := "newCapacity", desc := "(I)I" } : Jvm.MethodName) jdk_68_method_10_code (6 : Nat) (Option.some Jvm.ClassFile.FieldType.int)).before args0 about1 = true := code_word (m := ⟨11, 4⟩) (meth := k11m4) (c := k11c4) (by decide +kernel) rfl rfl rfl (by decide +kernel)
set_option maxRecDepth 65536 in
theorem w_c28 : (Jvm.Cond.code ({ cls := "jdk/internal/util/ArraysSupport", name := "newLength", desc := "(III)I" } : Jvm.MethodName) jdk_48_method_27_code (4 : Nat) (Option.some Jvm.ClassFile.FieldType.int)).before args0 about1 = true := code_word (m := ⟨18, 1⟩) (meth := k18m1) (c := k18c1) (by decide +kernel) rfl rfl rfl (by decide +kernel)
set_option maxRecDepth 65536 in
theorem w_c29 : (Jvm.Cond.code ({ cls := "java/lang/Math", name := "max", desc := "(II)I" } : Jvm.MethodName) jdk_29_method_65_code (2 : Nat) (Option.some Jvm.ClassFile.FieldType.int)).before args0 about1 = true := code_word (m := ⟨16, 1⟩) (meth := k16m1) (c := k16c1) (by decide +kernel) rfl rfl rfl (by decide +kernel)
set_option maxRecDepth 65536 in
theorem w_c30 : (Jvm.Cond.code ({ cls := "java/util/Arrays", name := "copyOf", desc := "([BI)[B" } : Jvm.MethodName) jdk_65_method_121_code (3 : Nat) (Option.some (Jvm.ClassFile.FieldType.array Jvm.ClassFile.FieldType.byte))).before args0 about1 = true := code_word (m := ⟨15, 1⟩) (meth := k15m1) (c := k15c1) (by decide +kernel) rfl rfl rfl (by decide +kernel)
set_option maxRecDepth 65536 in
theorem w_c31 : (Jvm.Cond.code ({ cls := "java/lang/AbstractStringBuilder", name := "putStringAt", desc := "(ILjava/lang/String;)V" } : Jvm.MethodName) jdk_68_method_73_code (3 : Nat) (Option.none : Option Jvm.ClassFile.FieldType)).before args0 about1 = true := code_word (m := ⟨11, 10⟩) (meth := k11m10) (c := k11c10) (by decide +kernel) rfl rfl rfl (by decide +kernel)
set_option maxRecDepth 65536 in
theorem w_c32 : (Jvm.Cond.code ({ cls := "java/lang/AbstractStringBuilder", name := "inflateIfNeededFor", desc := "(Ljava/lang/String;)V" } : Jvm.MethodName) jdk_68_method_71_code (2 : Nat) (Option.none : Option Jvm.ClassFile.FieldType)).before args0 about1 = true := code_word (m := ⟨11, 9⟩) (meth := k11m9) (c := k11c9) (by decide +kernel) rfl rfl rfl (by decide +kernel)
set_option maxRecDepth 65536 in
theorem w_c33 : (Jvm.Cond.code ({ cls := "java/lang/String", name := "getBytes", desc := "([BIB)V" } : Jvm.MethodName) jdk_42_method_147_code (4 : Nat) (Option.none : Option Jvm.ClassFile.FieldType)).before args0 about1 = true := code_word (m := ⟨7, 7⟩) (meth := k7m7) (c := k7c7) (by decide +kernel) rfl rfl rfl (by decide +kernel)
set_option maxRecDepth 65536 in
theorem w_c34 : (Jvm.Cond.code ({ cls := "java/lang/StringBuilder", name := "toString", desc := "()Ljava/lang/String;" } : Jvm.MethodName) jdk_67_method_42_code (1 : Nat) (Option.some (Jvm.ClassFile.FieldType.object "java/lang/String"))).before args0 about1 = true := code_word (m := ⟨12, 2⟩) (meth := k12m2) (c := k12c2) (by decide +kernel) rfl rfl rfl (by decide +kernel)
set_option maxRecDepth 65536 in
theorem w_c35 : (Jvm.Cond.code ({ cls := "java/lang/String", name := "<init>", desc := "(Ljava/lang/StringBuilder;)V" } : Jvm.MethodName) jdk_42_method_53_code (2 : Nat) (Option.none : Option Jvm.ClassFile.FieldType)).before args0 about1 = true := code_word (m := ⟨7, 2⟩) (meth := k7m2) (c := k7c2) (by decide +kernel) rfl rfl rfl (by decide +kernel)
set_option maxRecDepth 65536 in
theorem w_c36 : (Jvm.Cond.code ({ cls := "java/lang/String", name := "<init>", desc := "(Ljava/lang/AbstractStringBuilder;Ljava/lang/Void;)V" } : Jvm.MethodName) jdk_42_method_150_code (5 : Nat) (Option.none : Option Jvm.ClassFile.FieldType)).before args0 about1 = true := code_word (m := ⟨7, 9⟩) (meth := k7m9) (c := k7c9) (by decide +kernel) rfl rfl rfl (by decide +kernel)
set_option maxRecDepth 65536 in
theorem w_c37 : (Jvm.Cond.code ({ cls := "java/lang/AbstractStringBuilder", name := "getValue", desc := "()[B" } : Jvm.MethodName) jdk_68_method_64_code (1 : Nat) (Option.some (Jvm.ClassFile.FieldType.array Jvm.ClassFile.FieldType.byte))).before args0 about1 = true := code_word (m := ⟨11, 7⟩) (meth := k11m7) (c := k11c7) (by decide +kernel) rfl rfl rfl (by decide +kernel)
set_option maxRecDepth 65536 in
theorem w_c38 : (Jvm.Cond.code ({ cls := "java/lang/StringBuilder", name := "length", desc := "()I" } : Jvm.MethodName) jdk_67_method_93_code (1 : Nat) (Option.some Jvm.ClassFile.FieldType.int)).before args0 about1 = true := code_word (m := ⟨12, 3⟩) (meth := k12m3) (c := k12c3) (by decide +kernel) rfl rfl rfl (by decide +kernel)
set_option maxRecDepth 65536 in
theorem w_c39 : (Jvm.Cond.code ({ cls := "java/lang/AbstractStringBuilder", name := "length", desc := "()I" } : Jvm.MethodName) jdk_68_method_6_code (1 : Nat) (Option.some Jvm.ClassFile.FieldType.int)).before args0 about1 = true := code_word (m := ⟨11, 2⟩) (meth := k11m2) (c := k11c2) (by decide +kernel) rfl rfl rfl (by decide +kernel)
set_option maxRecDepth 65536 in
theorem w_c40 : (Jvm.Cond.code ({ cls := "java/lang/AbstractStringBuilder", name := "isLatin1", desc := "()Z" } : Jvm.MethodName) jdk_68_method_68_code (1 : Nat) (Option.some Jvm.ClassFile.FieldType.boolean)).before args0 about1 = true := code_word (m := ⟨11, 8⟩) (meth := k11m8) (c := k11c8) (by decide +kernel) rfl rfl rfl (by decide +kernel)
set_option maxRecDepth 65536 in
theorem w_c41 : (Jvm.Cond.code ({ cls := "java/lang/String", name := "charAt", desc := "(I)C" } : Jvm.MethodName) jdk_42_method_56_code (2 : Nat) (Option.some Jvm.ClassFile.FieldType.char)).before args0 about1 = true := code_word (m := ⟨7, 4⟩) (meth := k7m4) (c := k7c4) (by decide +kernel) rfl rfl rfl (by decide +kernel)
set_option maxRecDepth 65536 in
theorem w_c42 : (Jvm.Cond.code ({ cls := "java/lang/StringLatin1", name := "charAt", desc := "([BI)C" } : Jvm.MethodName) jdk_43_method_2_code (2 : Nat) (Option.some Jvm.ClassFile.FieldType.char)).before args0 about1 = true := code_word (m := ⟨14, 1⟩) (meth := k14m1) (c := k14c1) (by decide +kernel) rfl rfl rfl (by decide +kernel)
set_option maxRecDepth 65536 in
theorem w_c43 : (Jvm.Cond.code ({ cls := "java/lang/String", name := "checkIndex", desc := "(II)V" } : Jvm.MethodName) jdk_42_method_155_code (2 : Nat) (Option.none : Option Jvm.ClassFile.FieldType)).before args0 about1 = true := code_word (m := ⟨7, 13⟩) (meth := k7m13) (c := k7c13) (by decide +kernel) rfl rfl rfl (by decide +kernel)
set_option maxRecDepth 65536 in
theorem w_c44 : (Jvm.Cond.code ({ cls := "jdk/internal/util/Preconditions", name := "checkIndex", desc := "(IILjava/util/function/BiFunction;)I" } : Jvm.MethodName) jdk_41_method_11_code (3 : Nat) (Option.some Jvm.ClassFile.FieldType.int)).before args0 about1 = true := code_word (m := ⟨13, 1⟩) (meth := k13m1) (c := k13c1) (by decide +kernel) rfl rfl rfl (by decide +kernel)
set_option maxRecDepth 65536 in
theorem w_c45 : (Jvm.Cond.code ({ cls := "com/example/tallykeep/tallykeep/core/FileTextShortenedPinLaw", name := "same", desc := "(Ljava/lang/String;Ljava/lang/String;I)Z" } : Jvm.MethodName) method_3_code (3 : Nat) (Option.some Jvm.ClassFile.FieldType.boolean)).before args0 about1 = true := code_word (m := ⟨1, 2⟩) (meth := k1m2) (c := k1c2) (by decide +kernel) rfl rfl rfl (by decide +kernel)
set_option maxRecDepth 65536 in
theorem w_c46 : (Jvm.Cond.code ({ cls := "java/lang/StringUTF16", name := "toBytes", desc := "([CII)[B" } : Jvm.MethodName) jdk_52_method_14_code (5 : Nat) (Option.some (Jvm.ClassFile.FieldType.array Jvm.ClassFile.FieldType.byte))).before args0 about1 = true := code_word (m := ⟨9, 6⟩) (meth := k9m6) (c := k9c6) (by decide +kernel) rfl rfl rfl (by decide +kernel)
set_option maxRecDepth 65536 in
theorem w_c47 : (Jvm.Cond.code ({ cls := "java/lang/StringUTF16", name := "newBytesFor", desc := "(I)[B" } : Jvm.MethodName) jdk_52_method_2_code (1 : Nat) (Option.some (Jvm.ClassFile.FieldType.array Jvm.ClassFile.FieldType.byte))).before args0 about1 = true := code_word (m := ⟨9, 1⟩) (meth := k9m1) (c := k9c1) (by decide +kernel) rfl rfl rfl (by decide +kernel)
set_option maxRecDepth 65536 in
theorem w_c48 : (Jvm.Cond.code ({ cls := "java/lang/StringUTF16", name := "newBytesLength", desc := "(I)I" } : Jvm.MethodName) jdk_52_method_3_code (1 : Nat) (Option.some Jvm.ClassFile.FieldType.int)).before args0 about1 = true := code_word (m := ⟨9, 2⟩) (meth := k9m2) (c := k9c2) (by decide +kernel) rfl rfl rfl (by decide +kernel)
set_option maxRecDepth 65536 in
theorem w_c49 : (Jvm.Cond.code ({ cls := "java/lang/StringUTF16", name := "putChar", desc := "([BII)V" } : Jvm.MethodName) jdk_52_method_4_code (3 : Nat) (Option.none : Option Jvm.ClassFile.FieldType)).before args0 about1 = true := code_word (m := ⟨9, 3⟩) (meth := k9m3) (c := k9c3) (by decide +kernel) rfl rfl rfl (by decide +kernel)
set_option maxRecDepth 65536 in
theorem w_c50 : (Jvm.Cond.code ({ cls := "java/lang/StringUTF16", name := "getChar", desc := "([BI)C" } : Jvm.MethodName) jdk_52_method_5_code (2 : Nat) (Option.some Jvm.ClassFile.FieldType.char)).before args0 about1 = true := code_word (m := ⟨9, 4⟩) (meth := k9m4) (c := k9c4) (by decide +kernel) rfl rfl rfl (by decide +kernel)
set_option maxRecDepth 65536 in
theorem w_c51 : (Jvm.Cond.code ({ cls := "java/lang/StringUTF16", name := "newString", desc := "([BII)Ljava/lang/String;" } : Jvm.MethodName) jdk_52_method_69_code (5 : Nat) (Option.some (Jvm.ClassFile.FieldType.object "java/lang/String"))).before args0 about1 = true := code_word (m := ⟨9, 12⟩) (meth := k9m12) (c := k9c12) (by decide +kernel) rfl rfl rfl (by decide +kernel)
set_option maxRecDepth 65536 in
theorem w_c52 : (Jvm.Cond.code ({ cls := "java/lang/StringUTF16", name := "compress", desc := "([BII)[B" } : Jvm.MethodName) jdk_52_method_17_code (6 : Nat) (Option.some (Jvm.ClassFile.FieldType.array Jvm.ClassFile.FieldType.byte))).before args0 about1 = true := code_word (m := ⟨9, 9⟩) (meth := k9m9) (c := k9c9) (by decide +kernel) rfl rfl rfl (by decide +kernel)
set_option maxRecDepth 65536 in
theorem w_c53 : (Jvm.Cond.code ({ cls := "java/lang/StringUTF16", name := "compress", desc := "([BI[BII)I" } : Jvm.MethodName) jdk_52_method_22_code (7 : Nat) (Option.some Jvm.ClassFile.FieldType.int)).before args0 about1 = true := code_word (m := ⟨9, 11⟩) (meth := k9m11) (c := k9c11) (by decide +kernel) rfl rfl rfl (by decide +kernel)
set_option maxRecDepth 65536 in
theorem w_c54 : (Jvm.Cond.code ({ cls := "java/lang/StringUTF16", name := "checkBoundsOffCount", desc := "(II[B)V" } : Jvm.MethodName) jdk_52_method_94_code (3 : Nat) (Option.none : Option Jvm.ClassFile.FieldType)).before args0 about1 = true := code_word (m := ⟨9, 16⟩) (meth := k9m16) (c := k9c16) (by decide +kernel) rfl rfl rfl (by decide +kernel)
set_option maxRecDepth 65536 in
theorem w_c55 : (Jvm.Cond.code ({ cls := "java/lang/StringUTF16", name := "length", desc := "([B)I" } : Jvm.MethodName) jdk_52_method_6_code (1 : Nat) (Option.some Jvm.ClassFile.FieldType.int)).before args0 about1 = true := code_word (m := ⟨9, 5⟩) (meth := k9m5) (c := k9c5) (by decide +kernel) rfl rfl rfl (by decide +kernel)
set_option maxRecDepth 65536 in
theorem w_c56 : (Jvm.Cond.code ({ cls := "java/lang/String", name := "checkBoundsOffCount", desc := "(III)I" } : Jvm.MethodName) jdk_42_method_157_code (3 : Nat) (Option.some Jvm.ClassFile.FieldType.int)).before args0 about1 = true := code_word (m := ⟨7, 14⟩) (meth := k7m14) (c := k7c14) (by decide +kernel) rfl rfl rfl (by decide +kernel)
set_option maxRecDepth 65536 in
theorem w_c57 : (Jvm.Cond.code ({ cls := "jdk/internal/util/Preconditions", name := "checkFromIndexSize", desc := "(IIILjava/util/function/BiFunction;)I" } : Jvm.MethodName) jdk_41_method_13_code (4 : Nat) (Option.some Jvm.ClassFile.FieldType.int)).before args0 about1 = true := code_word (m := ⟨13, 3⟩) (meth := k13m3) (c := k13c3) (by decide +kernel) rfl rfl rfl (by decide +kernel)
set_option maxRecDepth 65536 in
theorem w_c58 : (Jvm.Cond.code ({ cls := "java/lang/AbstractStringBuilder", name := "inflate", desc := "()V" } : Jvm.MethodName) jdk_68_method_11_code (2 : Nat) (Option.none : Option Jvm.ClassFile.FieldType)).before args0 about1 = true := code_word (m := ⟨11, 5⟩) (meth := k11m5) (c := k11c5) (by decide +kernel) rfl rfl rfl (by decide +kernel)
set_option maxRecDepth 65536 in
theorem w_c59 : (Jvm.Cond.code ({ cls := "java/lang/StringLatin1", name := "inflate", desc := "([BI[BII)V" } : Jvm.MethodName) jdk_43_method_50_code (5 : Nat) (Option.none : Option Jvm.ClassFile.FieldType)).before args0 about1 = true := code_word (m := ⟨14, 3⟩) (meth := k14m3) (c := k14c3) (by decide +kernel) rfl rfl rfl (by decide +kernel)
set_option maxRecDepth 65536 in
theorem w_c60 : (Jvm.Cond.code ({ cls := "java/lang/StringUTF16", name := "inflate", desc := "([BI[BII)V" } : Jvm.MethodName) jdk_52_method_86_code (6 : Nat) (Option.none : Option Jvm.ClassFile.FieldType)).before args0 about1 = true := code_word (m := ⟨9, 14⟩) (meth := k9m14) (c := k9c14) (by decide +kernel) rfl rfl rfl (by decide +kernel)
set_option maxRecDepth 65536 in
theorem w_c61 : (Jvm.Cond.code ({ cls := "java/lang/StringUTF16", name := "charAt", desc := "([BI)C" } : Jvm.MethodName) jdk_52_method_83_code (2 : Nat) (Option.some Jvm.ClassFile.FieldType.char)).before args0 about1 = true := code_word (m := ⟨9, 13⟩) (meth := k9m13) (c := k9c13) (by decide +kernel) rfl rfl rfl (by decide +kernel)
set_option maxRecDepth 65536 in
theorem w_c62 : (Jvm.Cond.code ({ cls := "java/lang/StringUTF16", name := "checkIndex", desc := "(I[B)V" } : Jvm.MethodName) jdk_52_method_91_code (2 : Nat) (Option.none : Option Jvm.ClassFile.FieldType)).before args0 about1 = true := code_word (m := ⟨9, 15⟩) (meth := k9m15) (c := k9c15) (by decide +kernel) rfl rfl rfl (by decide +kernel)
def codes1 : List Jvm.Cond := [Jvm.Cond.code x code maxLocals ret, Jvm.Cond.code ({ cls := "com/example/tallykeep/tallykeep/core/FileTextShortenedPinLaw", name := "make", desc := "(I)[C" } : Jvm.MethodName) method_2_code (1 : Nat) (Option.some (Jvm.ClassFile.FieldType.array Jvm.ClassFile.FieldType.char)), Jvm.Cond.code ({ cls := "java/lang/String", name := "<init>", desc := "([C)V" } : Jvm.MethodName) jdk_42_method_3_code (2 : Nat) (Option.none : Option Jvm.ClassFile.FieldType), Jvm.Cond.code ({ cls := "java/lang/String", name := "<init>", desc := "([CIILjava/lang/Void;)V" } : Jvm.MethodName) jdk_42_method_149_code (6 : Nat) (Option.none : Option Jvm.ClassFile.FieldType), Jvm.Cond.code ({ cls := "java/lang/Object", name := "<init>", desc := "()V" } : Jvm.MethodName) object_method_1_code (1 : Nat) (Option.none : Option Jvm.ClassFile.FieldType), Jvm.Cond.code ({ cls := "com/example/tallykeep/tallykeep/core/FileText", name := "shortened", desc := "(Ljava/lang/String;)Ljava/lang/String;" } : Jvm.MethodName) prog_13_method_3_code (1 : Nat) (Option.some (Jvm.ClassFile.FieldType.object "java/lang/String")), Jvm.Cond.code ({ cls := "java/lang/String", name := "length", desc := "()I" } : Jvm.MethodName) jdk_42_method_54_code (1 : Nat) (Option.some Jvm.ClassFile.FieldType.int), Jvm.Cond.code ({ cls := "java/lang/String", name := "coder", desc := "()B" } : Jvm.MethodName) jdk_42_method_152_code (1 : Nat) (Option.some Jvm.ClassFile.FieldType.byte), Jvm.Cond.code ({ cls := "java/lang/String", name := "equals", desc := "(Ljava/lang/Object;)Z" } : Jvm.MethodName) jdk_42_method_66_code (3 : Nat) (Option.some Jvm.ClassFile.FieldType.boolean), Jvm.Cond.code ({ cls := "java/lang/StringUTF16", name := "compress", desc := "([CII)[B" } : Jvm.MethodName) jdk_52_method_16_code (6 : Nat) (Option.some (Jvm.ClassFile.FieldType.array Jvm.ClassFile.FieldType.byte)), Jvm.Cond.code ({ cls := "java/lang/StringUTF16", name := "compress", desc := "([CI[BII)I" } : Jvm.MethodName) jdk_52_method_21_code (7 : Nat) (Option.some Jvm.ClassFile.FieldType.int), Jvm.Cond.code ({ cls := "java/lang/StringUTF16", name := "coderFromArrayLen", desc := "([BI)B" } : Jvm.MethodName) jdk_52_method_15_code (2 : Nat) (Option.some Jvm.ClassFile.FieldType.byte), Jvm.Cond.code ({ cls := "java/lang/StringBuilder", name := "<init>", desc := "()V" } : Jvm.MethodName) jdk_67_method_1_code (1 : Nat) (Option.none : Option Jvm.ClassFile.FieldType), Jvm.Cond.code ({ cls := "java/lang/AbstractStringBuilder", name := "<init>", desc := "(I)V" } : Jvm.MethodName) jdk_68_method_2_code (2 : Nat) (Option.none : Option Jvm.ClassFile.FieldType), Jvm.Cond.code ({ cls := "java/lang/String", name := "substring", desc := "(II)Ljava/lang/String;" } : Jvm.MethodName) jdk_42_method_92_code (5 : Nat) (Option.some (Jvm.ClassFile.FieldType.object "java/lang/String")), Jvm.Cond.code ({ cls := "java/lang/String", name := "checkBoundsBeginEnd", desc := "(III)V" } : Jvm.MethodName) jdk_42_method_158_code (3 : Nat) (Option.none : Option Jvm.ClassFile.FieldType), Jvm.Cond.code ({ cls := "jdk/internal/util/Preconditions", name := "checkFromToIndex", desc := "(IIILjava/util/function/BiFunction;)I" } : Jvm.MethodName) jdk_41_method_12_code (4 : Nat) (Option.some Jvm.ClassFile.FieldType.int), Jvm.Cond.code ({ cls := "java/lang/String", name := "isLatin1", desc := "()Z" } : Jvm.MethodName) jdk_42_method_154_code (1 : Nat) (Option.some Jvm.ClassFile.FieldType.boolean), Jvm.Cond.code ({ cls := "java/lang/StringLatin1", name := "newString", desc := "([BII)Ljava/lang/String;" } : Jvm.MethodName) jdk_43_method_47_code (3 : Nat) (Option.some (Jvm.ClassFile.FieldType.object "java/lang/String")), Jvm.Cond.code ({ cls := "java/util/Arrays", name := "copyOfRange", desc := "([BII)[B" } : Jvm.MethodName) jdk_65_method_132_code (3 : Nat) (Option.some (Jvm.ClassFile.FieldType.array Jvm.ClassFile.FieldType.byte)), Jvm.Cond.code ({ cls := "java/util/Arrays", name := "copyOfRangeByte", desc := "([BII)[B" } : Jvm.MethodName) jdk_65_method_133_code (5 : Nat) (Option.some (Jvm.ClassFile.FieldType.array Jvm.ClassFile.FieldType.byte)), Jvm.Cond.code ({ cls := "java/util/Arrays", name := "checkLength", desc := "(II)V" } : Jvm.MethodName) jdk_65_method_131_code (2 : Nat) (Option.none : Option Jvm.ClassFile.FieldType), Jvm.Cond.code ({ cls := "java/lang/Math", name := "min", desc := "(II)I" } : Jvm.MethodName) jdk_29_method_69_code (2 : Nat) (Option.some Jvm.ClassFile.FieldType.int), Jvm.Cond.code ({ cls := "java/lang/String", name := "<init>", desc := "([BB)V" } : Jvm.MethodName) jdk_42_method_151_code (3 : Nat) (Option.none : Option Jvm.ClassFile.FieldType), Jvm.Cond.code ({ cls := "java/lang/StringBuilder", name := "append", desc := "(Ljava/lang/String;)Ljava/lang/StringBuilder;" } : Jvm.MethodName) jdk_67_method_7_code (2 : Nat) (Option.some (Jvm.ClassFile.FieldType.object "java/lang/StringBuilder")), Jvm.Cond.code ({ cls := "java/lang/AbstractStringBuilder", name := "append", desc := "(Ljava/lang/String;)Ljava/lang/AbstractStringBuilder;" } : Jvm.MethodName) jdk_68_method_22_code (3 : Nat) (Option.some (Jvm.ClassFile.FieldType.object "java/lang/AbstractStringBuilder")), Jvm.Cond.code ({ cls := "java/lang/AbstractStringBuilder", name := "ensureCapacityInternal", desc := "(I)V" } : Jvm.MethodName) jdk_68_method_9_code (3 : Nat) (Option.none : Option Jvm.ClassFile.FieldType), Jvm.Cond.code ({ cls := "java/lang/AbstractStringBuilder", name := "newCapacity", desc := "(I)I" } : Jvm.MethodName) jdk_68_method_10_code (6 : Nat) (Option.some Jvm.ClassFile.FieldType.int), Jvm.Cond.code ({ cls := "jdk/internal/util/ArraysSupport", name := "newLength", desc := "(III)I" } : Jvm.MethodName) jdk_48_method_27_code (4 : Nat) (Option.some Jvm.ClassFile.FieldType.int), Jvm.Cond.code ({ cls := "java/lang/Math", name := "max", desc := "(II)I" } : Jvm.MethodName) jdk_29_method_65_code (2 : Nat) (Option.some Jvm.ClassFile.FieldType.int), Jvm.Cond.code ({ cls := "java/util/Arrays", name := "copyOf", desc := "([BI)[B" } : Jvm.MethodName) jdk_65_method_121_code (3 : Nat) (Option.some (Jvm.ClassFile.FieldType.array Jvm.ClassFile.FieldType.byte)), Jvm.Cond.code ({ cls := "java/lang/AbstractStringBuilder", name := "putStringAt", desc := "(ILjava/lang/String;)V" } : Jvm.MethodName) jdk_68_method_73_code (3 : Nat) (Option.none : Option Jvm.ClassFile.FieldType), Jvm.Cond.code ({ cls := "java/lang/AbstractStringBuilder", name := "inflateIfNeededFor", desc := "(Ljava/lang/String;)V" } : Jvm.MethodName) jdk_68_method_71_code (2 : Nat) (Option.none : Option Jvm.ClassFile.FieldType), Jvm.Cond.code ({ cls := "java/lang/String", name := "getBytes", desc := "([BIB)V" } : Jvm.MethodName) jdk_42_method_147_code (4 : Nat) (Option.none : Option Jvm.ClassFile.FieldType), Jvm.Cond.code ({ cls := "java/lang/StringBuilder", name := "toString", desc := "()Ljava/lang/String;" } : Jvm.MethodName) jdk_67_method_42_code (1 : Nat) (Option.some (Jvm.ClassFile.FieldType.object "java/lang/String")), Jvm.Cond.code ({ cls := "java/lang/String", name := "<init>", desc := "(Ljava/lang/StringBuilder;)V" } : Jvm.MethodName) jdk_42_method_53_code (2 : Nat) (Option.none : Option Jvm.ClassFile.FieldType), Jvm.Cond.code ({ cls := "java/lang/String", name := "<init>", desc := "(Ljava/lang/AbstractStringBuilder;Ljava/lang/Void;)V" } : Jvm.MethodName) jdk_42_method_150_code (5 : Nat) (Option.none : Option Jvm.ClassFile.FieldType), Jvm.Cond.code ({ cls := "java/lang/AbstractStringBuilder", name := "getValue", desc := "()[B" } : Jvm.MethodName) jdk_68_method_64_code (1 : Nat) (Option.some (Jvm.ClassFile.FieldType.array Jvm.ClassFile.FieldType.byte)), Jvm.Cond.code ({ cls := "java/lang/StringBuilder", name := "length", desc := "()I" } : Jvm.MethodName) jdk_67_method_93_code (1 : Nat) (Option.some Jvm.ClassFile.FieldType.int), Jvm.Cond.code ({ cls := "java/lang/AbstractStringBuilder", name := "length", desc := "()I" } : Jvm.MethodName) jdk_68_method_6_code (1 : Nat) (Option.some Jvm.ClassFile.FieldType.int), Jvm.Cond.code ({ cls := "java/lang/AbstractStringBuilder", name := "isLatin1", desc := "()Z" } : Jvm.MethodName) jdk_68_method_68_code (1 : Nat) (Option.some Jvm.ClassFile.FieldType.boolean), Jvm.Cond.code ({ cls := "java/lang/String", name := "charAt", desc := "(I)C" } : Jvm.MethodName) jdk_42_method_56_code (2 : Nat) (Option.some Jvm.ClassFile.FieldType.char), Jvm.Cond.code ({ cls := "java/lang/StringLatin1", name := "charAt", desc := "([BI)C" } : Jvm.MethodName) jdk_43_method_2_code (2 : Nat) (Option.some Jvm.ClassFile.FieldType.char), Jvm.Cond.code ({ cls := "java/lang/String", name := "checkIndex", desc := "(II)V" } : Jvm.MethodName) jdk_42_method_155_code (2 : Nat) (Option.none : Option Jvm.ClassFile.FieldType), Jvm.Cond.code ({ cls := "jdk/internal/util/Preconditions", name := "checkIndex", desc := "(IILjava/util/function/BiFunction;)I" } : Jvm.MethodName) jdk_41_method_11_code (3 : Nat) (Option.some Jvm.ClassFile.FieldType.int), Jvm.Cond.code ({ cls := "com/example/tallykeep/tallykeep/core/FileTextShortenedPinLaw", name := "same", desc := "(Ljava/lang/String;Ljava/lang/String;I)Z" } : Jvm.MethodName) method_3_code (3 : Nat) (Option.some Jvm.ClassFile.FieldType.boolean), Jvm.Cond.code ({ cls := "java/lang/StringUTF16", name := "toBytes", desc := "([CII)[B" } : Jvm.MethodName) jdk_52_method_14_code (5 : Nat) (Option.some (Jvm.ClassFile.FieldType.array Jvm.ClassFile.FieldType.byte)), Jvm.Cond.code ({ cls := "java/lang/StringUTF16", name := "newBytesFor", desc := "(I)[B" } : Jvm.MethodName) jdk_52_method_2_code (1 : Nat) (Option.some (Jvm.ClassFile.FieldType.array Jvm.ClassFile.FieldType.byte)), Jvm.Cond.code ({ cls := "java/lang/StringUTF16", name := "newBytesLength", desc := "(I)I" } : Jvm.MethodName) jdk_52_method_3_code (1 : Nat) (Option.some Jvm.ClassFile.FieldType.int), Jvm.Cond.code ({ cls := "java/lang/StringUTF16", name := "putChar", desc := "([BII)V" } : Jvm.MethodName) jdk_52_method_4_code (3 : Nat) (Option.none : Option Jvm.ClassFile.FieldType), Jvm.Cond.code ({ cls := "java/lang/StringUTF16", name := "getChar", desc := "([BI)C" } : Jvm.MethodName) jdk_52_method_5_code (2 : Nat) (Option.some Jvm.ClassFile.FieldType.char), Jvm.Cond.code ({ cls := "java/lang/StringUTF16", name := "newString", desc := "([BII)Ljava/lang/String;" } : Jvm.MethodName) jdk_52_method_69_code (5 : Nat) (Option.some (Jvm.ClassFile.FieldType.object "java/lang/String")), Jvm.Cond.code ({ cls := "java/lang/StringUTF16", name := "compress", desc := "([BII)[B" } : Jvm.MethodName) jdk_52_method_17_code (6 : Nat) (Option.some (Jvm.ClassFile.FieldType.array Jvm.ClassFile.FieldType.byte)), Jvm.Cond.code ({ cls := "java/lang/StringUTF16", name := "compress", desc := "([BI[BII)I" } : Jvm.MethodName) jdk_52_method_22_code (7 : Nat) (Option.some Jvm.ClassFile.FieldType.int), Jvm.Cond.code ({ cls := "java/lang/StringUTF16", name := "checkBoundsOffCount", desc := "(II[B)V" } : Jvm.MethodName) jdk_52_method_94_code (3 : Nat) (Option.none : Option Jvm.ClassFile.FieldType), Jvm.Cond.code ({ cls := "java/lang/StringUTF16", name := "length", desc := "([B)I" } : Jvm.MethodName) jdk_52_method_6_code (1 : Nat) (Option.some Jvm.ClassFile.FieldType.int), Jvm.Cond.code ({ cls := "java/lang/String", name := "checkBoundsOffCount", desc := "(III)I" } : Jvm.MethodName) jdk_42_method_157_code (3 : Nat) (Option.some Jvm.ClassFile.FieldType.int), Jvm.Cond.code ({ cls := "jdk/internal/util/Preconditions", name := "checkFromIndexSize", desc := "(IIILjava/util/function/BiFunction;)I" } : Jvm.MethodName) jdk_41_method_13_code (4 : Nat) (Option.some Jvm.ClassFile.FieldType.int), Jvm.Cond.code ({ cls := "java/lang/AbstractStringBuilder", name := "inflate", desc := "()V" } : Jvm.MethodName) jdk_68_method_11_code (2 : Nat) (Option.none : Option Jvm.ClassFile.FieldType), Jvm.Cond.code ({ cls := "java/lang/StringLatin1", name := "inflate", desc := "([BI[BII)V" } : Jvm.MethodName) jdk_43_method_50_code (5 : Nat) (Option.none : Option Jvm.ClassFile.FieldType), Jvm.Cond.code ({ cls := "java/lang/StringUTF16", name := "inflate", desc := "([BI[BII)V" } : Jvm.MethodName) jdk_52_method_86_code (6 : Nat) (Option.none : Option Jvm.ClassFile.FieldType), Jvm.Cond.code ({ cls := "java/lang/StringUTF16", name := "charAt", desc := "([BI)C" } : Jvm.MethodName) jdk_52_method_83_code (2 : Nat) (Option.some Jvm.ClassFile.FieldType.char), Jvm.Cond.code ({ cls := "java/lang/StringUTF16", name := "checkIndex", desc := "(I[B)V" } : Jvm.MethodName) jdk_52_method_91_code (2 : Nat) (Option.none : Option Jvm.ClassFile.FieldType)]
set_option maxRecDepth 65536 in
theorem codes_eq : words1.filter isCode = codes1 := rfl
theorem w_codes : ∀ c ∈ words1.filter isCode, c.before args0 about1 = true := by
  rw [codes_eq]
  intro c hc
  simp only [codes1, List.mem_cons, List.not_mem_nil, or_false] at hc
  rcases hc with rfl | rfl | rfl | rfl | rfl | rfl | rfl | rfl | rfl | rfl | rfl | rfl | rfl | rfl | rfl | rfl | rfl | rfl | rfl | rfl | rfl | rfl | rfl | rfl | rfl | rfl | rfl | rfl | rfl | rfl | rfl | rfl | rfl | rfl | rfl | rfl | rfl | rfl | rfl | rfl | rfl | rfl | rfl | rfl | rfl | rfl | rfl | rfl | rfl | rfl | rfl | rfl | rfl | rfl | rfl | rfl | rfl | rfl | rfl | rfl | rfl | rfl | rfl
  · exact w_c0
  · exact w_c1
  · exact w_c2
  · exact w_c3
  · exact w_c4
  · exact w_c5
  · exact w_c6
  · exact w_c7
  · exact w_c8
  · exact w_c9
  · exact w_c10
  · exact w_c11
  · exact w_c12
  · exact w_c13
  · exact w_c14
  · exact w_c15
  · exact w_c16
  · exact w_c17
  · exact w_c18
  · exact w_c19
  · exact w_c20
  · exact w_c21
  · exact w_c22
  · exact w_c23
  · exact w_c24
  · exact w_c25
  · exact w_c26
  · exact w_c27
  · exact w_c28
  · exact w_c29
  · exact w_c30
  · exact w_c31
  · exact w_c32
  · exact w_c33
  · exact w_c34
  · exact w_c35
  · exact w_c36
  · exact w_c37
  · exact w_c38
  · exact w_c39
  · exact w_c40
  · exact w_c41
  · exact w_c42
  · exact w_c43
  · exact w_c44
  · exact w_c45
  · exact w_c46
  · exact w_c47
  · exact w_c48
  · exact w_c49
  · exact w_c50
  · exact w_c51
  · exact w_c52
  · exact w_c53
  · exact w_c54
  · exact w_c55
  · exact w_c56
  · exact w_c57
  · exact w_c58
  · exact w_c59
  · exact w_c60
  · exact w_c61
  · exact w_c62
set_option maxRecDepth 65536 in
theorem w_t1 : (words1.take 24).all (fun c => isCode c || c.before args0 about1) = true := by decide +kernel
set_option maxRecDepth 65536 in
theorem w_t2 : ((words1.drop 24).take 24).all (fun c => isCode c || c.before args0 about1) = true := by decide +kernel
set_option maxRecDepth 65536 in
theorem w_t3 : (((words1.drop 24).drop 24).take 24).all (fun c => isCode c || c.before args0 about1) = true := by decide +kernel
set_option maxRecDepth 65536 in
theorem w_t4 : ((((words1.drop 24).drop 24).drop 24).take 24).all (fun c => isCode c || c.before args0 about1) = true := by decide +kernel
set_option maxRecDepth 65536 in
theorem w_t5 : (((((words1.drop 24).drop 24).drop 24).drop 24).take 24).all (fun c => isCode c || c.before args0 about1) = true := by decide +kernel
set_option maxRecDepth 65536 in
theorem w_t6 : ((((((words1.drop 24).drop 24).drop 24).drop 24).drop 24).take 24).all (fun c => isCode c || c.before args0 about1) = true := by decide +kernel
set_option maxRecDepth 65536 in
theorem w_t7 : (((((((words1.drop 24).drop 24).drop 24).drop 24).drop 24).drop 24).take 24).all (fun c => isCode c || c.before args0 about1) = true := by decide +kernel
set_option maxRecDepth 65536 in
theorem w_t8 : ((((((((words1.drop 24).drop 24).drop 24).drop 24).drop 24).drop 24).drop 24).take 24).all (fun c => isCode c || c.before args0 about1) = true := by decide +kernel
set_option maxRecDepth 65536 in
theorem w_t9 : (((((((((words1.drop 24).drop 24).drop 24).drop 24).drop 24).drop 24).drop 24).drop 24).take 24).all (fun c => isCode c || c.before args0 about1) = true := by decide +kernel
set_option maxRecDepth 65536 in
theorem w_t10 : ((((((((((words1.drop 24).drop 24).drop 24).drop 24).drop 24).drop 24).drop 24).drop 24).drop 24).take 24).all (fun c => isCode c || c.before args0 about1) = true := by decide +kernel
set_option maxRecDepth 65536 in
theorem w_t11 : (((((((((((words1.drop 24).drop 24).drop 24).drop 24).drop 24).drop 24).drop 24).drop 24).drop 24).drop 24).take 24).all (fun c => isCode c || c.before args0 about1) = true := by decide +kernel
set_option maxRecDepth 65536 in
theorem w_t12 : ((((((((((((words1.drop 24).drop 24).drop 24).drop 24).drop 24).drop 24).drop 24).drop 24).drop 24).drop 24).drop 24).take 24).all (fun c => isCode c || c.before args0 about1) = true := by decide +kernel
set_option maxRecDepth 65536 in
theorem w_t13 : ((((((((((((words1.drop 24).drop 24).drop 24).drop 24).drop 24).drop 24).drop 24).drop 24).drop 24).drop 24).drop 24).drop 24).all (fun c => isCode c || c.before args0 about1) = true := by decide +kernel
theorem w_tables : (allAtoms (Jvm.Cond.code x code maxLocals ret :: tables_1)).before args0 about1 = true := by
  rw [allAtoms_all]
  show words1.all (fun c => c.before args0 about1) = true
  refine all_split ?_ w_codes
  rw [← List.take_append_drop 24 words1, List.all_append, w_t1, ← List.take_append_drop 24 (words1.drop 24), List.all_append, w_t2, ← List.take_append_drop 24 ((words1.drop 24).drop 24), List.all_append, w_t3, ← List.take_append_drop 24 (((words1.drop 24).drop 24).drop 24), List.all_append, w_t4, ← List.take_append_drop 24 ((((words1.drop 24).drop 24).drop 24).drop 24), List.all_append, w_t5, ← List.take_append_drop 24 (((((words1.drop 24).drop 24).drop 24).drop 24).drop 24), List.all_append, w_t6, ← List.take_append_drop 24 ((((((words1.drop 24).drop 24).drop 24).drop 24).drop 24).drop 24), List.all_append, w_t7, ← List.take_append_drop 24 (((((((words1.drop 24).drop 24).drop 24).drop 24).drop 24).drop 24).drop 24), List.all_append, w_t8, ← List.take_append_drop 24 ((((((((words1.drop 24).drop 24).drop 24).drop 24).drop 24).drop 24).drop 24).drop 24), List.all_append, w_t9, ← List.take_append_drop 24 (((((((((words1.drop 24).drop 24).drop 24).drop 24).drop 24).drop 24).drop 24).drop 24).drop 24), List.all_append, w_t10, ← List.take_append_drop 24 ((((((((((words1.drop 24).drop 24).drop 24).drop 24).drop 24).drop 24).drop 24).drop 24).drop 24).drop 24), List.all_append, w_t11, ← List.take_append_drop 24 (((((((((((words1.drop 24).drop 24).drop 24).drop 24).drop 24).drop 24).drop 24).drop 24).drop 24).drop 24).drop 24), List.all_append, w_t12, w_t13]
  rfl
set_option maxRecDepth 65536 in
theorem w_rest : rest_1_c.before args0 about1 = true := by decide +kernel
set_option maxRecDepth 65536 in
theorem w_case : (Jvm.Cond.and given_1 narrow_1).before args0 about1 = true := by decide +kernel
set_option maxRecDepth 65536 in
theorem w_consts : constsHeld consts_1 about1 := Jvm.Lit.constsHeldB_iff.mp (by decide +kernel)
theorem w_applies : (headSpec (Jvm.Cond.code x code maxLocals ret :: tables_1) room_1).applies x e0.platform about1 = true :=
  (Spec.applies_iff w_frames).mpr ⟨w_running, w_runnable, w_alone, w_named, w_hears, w_ripe, w_room, w_tables⟩
theorem atStart : AtStart classFile x code maxLocals ret World_1 tables_1 room_1 Calls_1 rest_1 Pre_1 launch0 p0 e0 about1 theMethod args0 below0 :=
  ⟨lists_1, trivial, launch0.admits_env _ _ _, launch0.least_env, fairChoices_fair.cas, fairChoices_fair.clock, w_frames, w_args, w_heap, w_applies, ⟨w_consts, trivial⟩, w_rest, w_case⟩
end start1
theorem witness_1 : WitnessClaimed_1 := ⟨start1.p0, start1.e0, start1.about1, start1.theMethod, start1.args0, start1.below0, start1.atStart⟩
end Jvm.Pilot.@@N@@
