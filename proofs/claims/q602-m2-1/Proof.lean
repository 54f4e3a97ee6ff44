import JvmDerived
import JvmDerived.Pilot.@@N@@Statement
import JvmDerived.Pilot.@@N@@Code
set_option linter.unusedVariables false
set_option linter.unusedSimpArgs false
namespace Jvm.Own
open Jvm Sem ClassFile Op Lib Jvm.Stand Jvm.Free Jvm.LawKit Jvm.RoadKit Bundle
abbrev Cx : Type := Program × Env × State × MethodId × Array Value × List Frame × Method × Code
def Go (K : Cx) (P : Outcome → State → Prop) (T : State) (pc : Nat) (ls : Array Slot) (st : List Value) : Prop :=
  ∃ o U, Steps K.1.tables K.2.1 K.2.2.2.2.2.1 (T.setTop (mkF K.2.2.2.1 pc ls st)) U ∧ U.status = .running ∧ Ended U K.2.2.2.2.2.1 o ∧ P o U
def Wk (l : Launch) (Z : State) (EL : List (String × Nat)) (own nm : String) (cd : ByteArray) (ml : Nat) (ret : Option FieldType) (R : Room) (ws : List Addr) (h0 : Heap) (K : Cx) (sf : List Addr) (T : State) (h : Heap) (cells slots : Nat) : Prop :=
  ∃ (vm0 : Vm) (locs : List Loc) (k0 : Nat), Stand K.1 l K.2.1 R (K.2.2.1.setVm vm0) K.2.2.2.1 K.2.2.2.2.1 K.2.2.2.2.2.1 K.2.2.2.2.2.2.1 K.2.2.2.2.2.2.2 T locs cells slots ∧ T.heap = h ∧ K.1.tables.exec = Jvm.exec ∧
    (K.2.2.2.2.2.2.2.code = cd ∧ K.2.2.2.2.2.2.2.maxLocals = ml ∧ K.2.2.2.2.2.2.1.sig.returnType = ret ∧ K.2.2.2.2.2.2.1.locks = false ∧ K.2.2.2.2.2.2.1.name = nm) ∧ K.2.2.1.heap = h0 ∧
    Z.Warmed39 vm0 ∧ vm0.findClass own = some K.2.2.2.1.cls ∧ (K.2.2.1.Since vm0 k0 ∧ K.2.2.1.WarmedH vm0) ∧ k0 ≤ h.size ∧ (∀ x ∈ locs, x.base ∈ ws ∨ h0.size ≤ x.base) ∧ CHr Z EL K.2.2.1.vm h0 vm0 h ∧ Old Z Z.heap.size h ∧ (∃ a0, EW Z a0 EL) ∧
    (∀ x ∈ ws, Z.heap.size ≤ x) ∧ Z.heap.size ≤ h0.size ∧ ∀ x ∈ sf, Safe Z EL vm0 h x ∧ x < h.size ∧ (x ∈ ws ∨ h0.size ≤ x)
def Pst (Z : State) (EL : List (String × Nat)) (ws : List Addr) (s : State) (kc ks : Nat) (Q : Option Value → Heap → List Addr → Prop) (o : Outcome) (U : State) : Prop :=
  ∃ v L so, o = .returned v ∧ Q v U.heap so ∧ (∀ x ∈ so, Safe Z EL U.vm U.heap x ∧ s.heap.size ≤ x ∧ x < U.heap.size) ∧ (∀ x ∈ L, x.base ∈ ws ∨ s.heap.size ≤ x.base) ∧ CHr Z EL s.vm s.heap U.vm U.heap ∧ ReturnedEndW s o U L kc ks ∧ s.WarmedH U.vm
def Ct (l : Launch) (Z : State) (EL : List (String × Nat)) (y : MethodName) (cd : ByteArray) (ml : Nat) (ret : Option FieldType) (rm : Room) (as' : Array Value) (h : Heap) (ws : List Addr) (Q : Option Value → Heap → List Addr → Prop) : Prop :=
  ∀ wl, MetFree l y (head1 (Cond.code y cd ml ret :: wl) rm) (fun a U => a = as' ∧ Z.Warmed39 U.vm ∧ U.heap = h ∧ CHv Z EL U.vm h ∧ ∀ x ∈ ws, Safe Z EL U.vm h x ∧ x < h.size) (fun _ _ _ _ _ => True) (fun _ U o U' => Pst Z EL ws U rm.cells rm.slots Q o U')
section Basics
variable {l : Launch} {Z : State} {EL : List (String × Nat)} {own nm : String} {cd : ByteArray} {ml : Nat} {ret : Option FieldType} {R : Room} {ws : List Addr} {h0 : Heap} {K : Cx} {sf : List Addr} {T : State} {h h' : Heap} {cells slots : Nat} {P : Outcome → State → Prop} {pc pc' : Nat} {ls : Array Slot} {st : List Value} {a0 : Array Value}
theorem Go.stp {T' : State} {pc' : Nat} {ls' : Array Slot} {st' : List Value} (f : ∀ t, Steps K.1.tables K.2.1 K.2.2.2.2.2.1 (T'.setTop (mkF K.2.2.2.1 pc' ls' st')) t → Steps K.1.tables K.2.1 K.2.2.2.2.2.1 (T.setTop (mkF K.2.2.2.1 pc ls st)) t) (k : Go K P T' pc' ls' st') : Go K P T pc ls st := by
  obtain ⟨o, U, r, q⟩ := k; exact ⟨o, U, f _ r, q⟩
theorem Go.top {v v' : Value} (e : v = v') (k : Go K P T pc ls (v' :: st)) : Go K P T pc ls (v :: st) := e ▸ k
theorem Wk.old (W : Wk l Z EL own nm cd ml ret R ws h0 K sf T h cells slots) : Old Z Z.heap.size h := by obtain ⟨_, _, _, _, _, _, _, _, _, _, _, _, _, _, q, _⟩ := W; exact q
theorem Wk.grow (W : Wk l Z EL own nm cd ml ret R ws h0 K sf T h cells slots) : h0.size ≤ h.size := by obtain ⟨_, _, _, _, _, _, _, _, _, _, _, _, _, q, _⟩ := W; exact q.2.1
theorem Wk.lt (W : Wk l Z EL own nm cd ml ret R ws h0 K sf T h cells slots) {x : Addr} (hx : x ∈ sf) : x < h.size := by obtain ⟨_, _, _, _, _, _, _, _, _, _, _, _, _, _, _, _, _, _, q⟩ := W; exact (q x hx).2.1
theorem Wk.mono (W : Wk l Z EL own nm cd ml ret R ws h0 K sf T h cells slots) {cells' slots' : Nat} (hc : cells ≤ cells') (hn : slots ≤ slots') : Wk l Z EL own nm cd ml ret R ws h0 K sf T h cells' slots' := by
  obtain ⟨vm0, locs, k0, X, r⟩ := W; exact ⟨vm0, locs, k0, X.mono hc hn, r⟩
theorem keep_of {s U : State} {L : List Loc} {k n : Nat} {ws : List Addr} (hs : s.sameButNew U L k n) (hL : ∀ x ∈ L, x.base ∈ ws ∨ s.heap.size ≤ x.base) : Keep s.heap U.heap ws := by
  obtain ⟨-, q2, -, -, -, q6⟩ := hs
  refine ⟨q2, fun x c hx hn => ?_, fun x c hx => ?_⟩
  · obtain ⟨c', r1, r2, r3, r4⟩ := q6 x c hx
    have hlt := (Array.getElem?_eq_some_iff.mp hx).1
    have e1 : c'.slots = c.slots := Array.ext_getElem? fun i => r4 i fun hm => by
      rcases hL _ hm with z | z
      · exact hn z
      · exact absurd hlt (Nat.not_lt.mpr z)
    have e2 : c' = c := by rw [r2, e1]
    rw [r1, e2]
  · obtain ⟨c', r1, r2, r3, -⟩ := q6 x c hx
    exact ⟨c', r1, by rw [r2], by rw [r2], r3⟩
theorem Ct.mk {y : MethodName} (own nm : String) (h1 : y.cls = own) (h2 : y.name = nm) {rm : Room} {as' : Array Value} {Q : Option Value → Heap → List Addr → Prop} (pn : plainFor y = true) (hO : Old Z Z.heap.size h) (hE : EW Z a0 EL) (hw : ∀ x ∈ ws, Z.heap.size ≤ x)
    (k : ∀ (K : Cx) (T : State), Wk l Z EL own nm cd ml ret rm ws h K ws T h 0 0 → Go K (Pst Z EL ws K.2.2.1 rm.cells rm.slots Q) T 0 (entryFrame K.2.2.2.1 as' ml).locals []) : Ct l Z EL y cd ml ret rm as' h ws Q := by
  subst h1 h2
  intro wl
  refine MetFree.of_bodySF pn hisR ?_
  intro p e s m args below meth c s₁ Bd hml hP hK
  obtain ⟨rfl, hZ, hh, hCH, hsf⟩ := hP
  have X0 := Stand.of_body Bd
  have hes : s₁.heap = h := by rw [← hh, Bd.state]; rfl
  have hvm : s₁.vm = s.vm := by rw [Bd.state]; rfl
  have hn := name_of_methodNamed Bd.named Bd.method
  obtain ⟨o, U, r1, r2, r3, r4⟩ := k (p, e, s, m, args, below, meth, c) s₁ ⟨s.vm, [], 0, X0, hes, Bd.exec, ⟨Bd.bytes, hml, Bd.returns, Bd.notSynchronized, hn.1⟩, hh, hZ, findClass_of_methodNamed Bd.named, ⟨(State.WarmedH.refl s).since 0, State.WarmedH.refl s⟩, Nat.zero_le _, (fun x q => nomatch q), by rw [← hh] at hCH ⊢; exact CHr.refl hCH, hO, ⟨a0, hE⟩, hw, hO.1 ▸ hO.2.1, fun x q => ⟨(hsf x q).1, (hsf x q).2, Or.inl q⟩⟩
  refine ⟨U, o, ?_, r2, r3, r4⟩
  have ef : entryFrame m args ml = mkF m 0 (entryFrame m args ml).locals [] := rfl
  rw [ef]; exact r1
end Basics
section Pure
variable {l : Launch} {Z : State} {EL : List (String × Nat)} {own nm : String} {cd : ByteArray} {ml : Nat} {ret : Option FieldType} {R : Room} {ws : List Addr} {h0 : Heap} {K : Cx} {sf : List Addr} {T : State} {h h' : Heap} {cells slots : Nat} {P : Outcome → State → Prop} {pc pc' : Nat} {ls : Array Slot} {st : List Value} {a0 : Array Value}
theorem gAloadN (W : Wk l Z EL own nm cd ml ret R ws h0 K sf T h cells slots) {i : Fin 4} {v : Value} (hd : decode cd pc = .ok (.aload_n i, 1)) (hl : ls[i.val]? = some (.val v)) (hv : v.isRef = true) (hp : pc + 1 = pc') (k : Go K P T pc' ls (v :: st)) : Go K P T pc ls st := by
  obtain ⟨vm0, locs, k0, X, e, hx, ⟨hc, -⟩, -⟩ := W
  subst hp
  exact Go.stp (fun t r => XS.aloadN X.here hx rfl (hb hc hd) hl hv r) k
theorem gAload (W : Wk l Z EL own nm cd ml ret R ws h0 K sf T h cells slots) {i : Nat} {v : Value} (hd : decode cd pc = .ok (.aload i, 2)) (hl : ls[i]? = some (.val v)) (hv : v.isRef = true) (hp : pc + 2 = pc') (k : Go K P T pc' ls (v :: st)) : Go K P T pc ls st := by
  obtain ⟨vm0, locs, k0, X, e, hx, ⟨hc, -⟩, -⟩ := W
  subst hp
  exact Go.stp (fun t r => XS.aload X.here hx rfl (hb hc hd) hl hv r) k
theorem gIloadN (W : Wk l Z EL own nm cd ml ret R ws h0 K sf T h cells slots) {i : Fin 4} {v : Int32} (hd : decode cd pc = .ok (.iload_n i, 1)) (hl : ls[i.val]? = some (.val (.int v))) (hp : pc + 1 = pc') (k : Go K P T pc' ls (.int v :: st)) : Go K P T pc ls st := by
  obtain ⟨vm0, locs, k0, X, e, hx, ⟨hc, -⟩, -⟩ := W
  subst hp
  exact Go.stp (fun t r => XS.iloadN X.here hx rfl (hb hc hd) hl r) k
theorem gIload (W : Wk l Z EL own nm cd ml ret R ws h0 K sf T h cells slots) {i : Nat} {v : Int32} (hd : decode cd pc = .ok (.iload i, 2)) (hl : ls[i]? = some (.val (.int v))) (hp : pc + 2 = pc') (k : Go K P T pc' ls (.int v :: st)) : Go K P T pc ls st := by
  obtain ⟨vm0, locs, k0, X, e, hx, ⟨hc, -⟩, -⟩ := W
  subst hp
  exact Go.stp (fun t r => XS.iload X.here hx rfl (hb hc hd) hl r) k
theorem gLloadN (W : Wk l Z EL own nm cd ml ret R ws h0 K sf T h cells slots) {i : Fin 4} {v : Int64} (hd : decode cd pc = .ok (.lload_n i, 1)) (hl : ls[i.val]? = some (.val (.long v))) (hp : pc + 1 = pc') (k : Go K P T pc' ls (.long v :: st)) : Go K P T pc ls st := by
  obtain ⟨vm0, locs, k0, X, e, hx, ⟨hc, -⟩, -⟩ := W
  subst hp
  exact Go.stp (fun t r => XS.lloadN X.here hx rfl (hb hc hd) hl r) k
theorem gLload (W : Wk l Z EL own nm cd ml ret R ws h0 K sf T h cells slots) {i : Nat} {v : Int64} (hd : decode cd pc = .ok (.lload i, 2)) (hl : ls[i]? = some (.val (.long v))) (hp : pc + 2 = pc') (k : Go K P T pc' ls (.long v :: st)) : Go K P T pc ls st := by
  obtain ⟨vm0, locs, k0, X, e, hx, ⟨hc, -⟩, -⟩ := W
  subst hp
  exact Go.stp (fun t r => XS.lload X.here hx rfl (hb hc hd) hl r) k
theorem gIconst (W : Wk l Z EL own nm cd ml ret R ws h0 K sf T h cells slots) {i : Int} {z : Int32} (hd : decode cd pc = .ok (.iconst i, 1)) (hz : Int32.ofInt i = z) (hp : pc + 1 = pc') (k : Go K P T pc' ls (.int z :: st)) : Go K P T pc ls st := by
  obtain ⟨vm0, locs, k0, X, e, hx, ⟨hc, -⟩, -⟩ := W
  subst hp
  exact Go.stp (fun t r => XS.iconst X.here hx rfl (hb hc hd) <| hz ▸ r) k
theorem gBipush (W : Wk l Z EL own nm cd ml ret R ws h0 K sf T h cells slots) {i : Int} {z : Int32} (hd : decode cd pc = .ok (.bipush i, 2)) (hz : (Int8.ofInt i).toInt32 = z) (hp : pc + 2 = pc') (k : Go K P T pc' ls (.int z :: st)) : Go K P T pc ls st := by
  obtain ⟨vm0, locs, k0, X, e, hx, ⟨hc, -⟩, -⟩ := W
  subst hp
  exact Go.stp (fun t r => XS.bipush X.here hx rfl (hb hc hd) <| hz ▸ r) k
theorem gLconst (W : Wk l Z EL own nm cd ml ret R ws h0 K sf T h cells slots) {i : Fin 2} {z : Int64} (hd : decode cd pc = .ok (.lconst i, 1)) (hz : (Int64.ofNat i.val) = z) (hp : pc + 1 = pc') (k : Go K P T pc' ls (.long z :: st)) : Go K P T pc ls st := by
  obtain ⟨vm0, locs, k0, X, e, hx, ⟨hc, -⟩, -⟩ := W
  subst hp
  exact Go.stp (fun t r => XS.lconst X.here hx rfl (hb hc hd) <| hz ▸ r) k
theorem gIadd (W : Wk l Z EL own nm cd ml ret R ws h0 K sf T h cells slots) {x y z : Int32} (hd : decode cd pc = .ok (.iadd, 1)) (hz : x + y = z) (hp : pc + 1 = pc') (k : Go K P T pc' ls (.int z :: st)) : Go K P T pc ls (.int y :: .int x :: st) := by
  obtain ⟨vm0, locs, k0, X, e, hx, ⟨hc, -⟩, -⟩ := W
  subst hp
  exact Go.stp (fun t r => XS.iadd X.here hx rfl (hb hc hd) rfl <| hz ▸ r) k
theorem gIsub (W : Wk l Z EL own nm cd ml ret R ws h0 K sf T h cells slots) {x y z : Int32} (hd : decode cd pc = .ok (.isub, 1)) (hz : x - y = z) (hp : pc + 1 = pc') (k : Go K P T pc' ls (.int z :: st)) : Go K P T pc ls (.int y :: .int x :: st) := by
  obtain ⟨vm0, locs, k0, X, e, hx, ⟨hc, -⟩, -⟩ := W
  subst hp
  exact Go.stp (fun t r => XS.isub X.here hx rfl (hb hc hd) rfl <| hz ▸ r) k
theorem gIand (W : Wk l Z EL own nm cd ml ret R ws h0 K sf T h cells slots) {x y z : Int32} (hd : decode cd pc = .ok (.iand, 1)) (hz : x &&& y = z) (hp : pc + 1 = pc') (k : Go K P T pc' ls (.int z :: st)) : Go K P T pc ls (.int y :: .int x :: st) := by
  obtain ⟨vm0, locs, k0, X, e, hx, ⟨hc, -⟩, -⟩ := W
  subst hp
  exact Go.stp (fun t r => XS.iand X.here hx rfl (hb hc hd) rfl <| hz ▸ r) k
theorem gIushr (W : Wk l Z EL own nm cd ml ret R ws h0 K sf T h cells slots) {x y z : Int32} (hd : decode cd pc = .ok (.iushr, 1)) (hz : (x.toUInt32 >>> (y &&& 31).toUInt32).toInt32 = z) (hp : pc + 1 = pc') (k : Go K P T pc' ls (.int z :: st)) : Go K P T pc ls (.int y :: .int x :: st) := by
  obtain ⟨vm0, locs, k0, X, e, hx, ⟨hc, -⟩, -⟩ := W
  subst hp
  exact Go.stp (fun t r => XS.iushr X.here hx rfl (hb hc hd) rfl <| hz ▸ r) k
theorem gI2L (W : Wk l Z EL own nm cd ml ret R ws h0 K sf T h cells slots) {x : Int32} {z : Int64} (hd : decode cd pc = .ok (.i2l, 1)) (hz : x.toInt64 = z) (hp : pc + 1 = pc') (k : Go K P T pc' ls (.long z :: st)) : Go K P T pc ls (.int x :: st) := by
  obtain ⟨vm0, locs, k0, X, e, hx, ⟨hc, -⟩, -⟩ := W
  subst hp
  exact Go.stp (fun t r => XS.i2l X.here hx rfl (hb hc hd) rfl <| hz ▸ r) k
theorem gL2I (W : Wk l Z EL own nm cd ml ret R ws h0 K sf T h cells slots) {x : Int64} {z : Int32} (hd : decode cd pc = .ok (.l2i, 1)) (hz : x.toInt32 = z) (hp : pc + 1 = pc') (k : Go K P T pc' ls (.int z :: st)) : Go K P T pc ls (.long x :: st) := by
  obtain ⟨vm0, locs, k0, X, e, hx, ⟨hc, -⟩, -⟩ := W
  subst hp
  exact Go.stp (fun t r => XS.l2i X.here hx rfl (hb hc hd) rfl <| hz ▸ r) k
theorem gLadd (W : Wk l Z EL own nm cd ml ret R ws h0 K sf T h cells slots) {x y z : Int64} (hd : decode cd pc = .ok (.ladd, 1)) (hz : x + y = z) (hp : pc + 1 = pc') (k : Go K P T pc' ls (.long z :: st)) : Go K P T pc ls (.long y :: .long x :: st) := by
  obtain ⟨vm0, locs, k0, X, e, hx, ⟨hc, -⟩, -⟩ := W
  subst hp
  exact Go.stp (fun t r => XS.ladd X.here hx rfl (hb hc hd) rfl <| hz ▸ r) k
theorem gLsub (W : Wk l Z EL own nm cd ml ret R ws h0 K sf T h cells slots) {x y z : Int64} (hd : decode cd pc = .ok (.lsub, 1)) (hz : x - y = z) (hp : pc + 1 = pc') (k : Go K P T pc' ls (.long z :: st)) : Go K P T pc ls (.long y :: .long x :: st) := by
  obtain ⟨vm0, locs, k0, X, e, hx, ⟨hc, -⟩, -⟩ := W
  subst hp
  exact Go.stp (fun t r => XS.lsub X.here hx rfl (hb hc hd) rfl <| hz ▸ r) k
theorem gLmul (W : Wk l Z EL own nm cd ml ret R ws h0 K sf T h cells slots) {x y z : Int64} (hd : decode cd pc = .ok (.lmul, 1)) (hz : x * y = z) (hp : pc + 1 = pc') (k : Go K P T pc' ls (.long z :: st)) : Go K P T pc ls (.long y :: .long x :: st) := by
  obtain ⟨vm0, locs, k0, X, e, hx, ⟨hc, -⟩, -⟩ := W
  subst hp
  exact Go.stp (fun t r => XS.lmul X.here hx rfl (hb hc hd) rfl <| hz ▸ r) k
theorem gLcmp (W : Wk l Z EL own nm cd ml ret R ws h0 K sf T h cells slots) {x y : Int64} {z : Int32} (hd : decode cd pc = .ok (.lcmp, 1)) (hz : lcmpW x y = z) (hp : pc + 1 = pc') (k : Go K P T pc' ls (.int z :: st)) : Go K P T pc ls (.long y :: .long x :: st) := by
  obtain ⟨vm0, locs, k0, X, e, hx, ⟨hc, -⟩, -⟩ := W
  subst hp
  exact Go.stp (fun t r => XS.lcmp X.here hx rfl (hb hc hd) rfl (by subst hz; exact r)) k
theorem gDup (W : Wk l Z EL own nm cd ml ret R ws h0 K sf T h cells slots) {x : Value} (hd : decode cd pc = .ok (.dup, 1)) (hc1 : x.category = 1) (hp : pc + 1 = pc') (k : Go K P T pc' ls (x :: x :: st)) : Go K P T pc ls (x :: st) := by
  obtain ⟨vm0, locs, k0, X, e, hx, ⟨hc, -⟩, -⟩ := W
  subst hp
  exact Go.stp (fun t r => XS.dup X.here hx rfl (hb hc hd) rfl hc1 r) k
theorem gIstore (W : Wk l Z EL own nm cd ml ret R ws h0 K sf T h cells slots) {i : Nat} {x : Int32} {ls' : Array Slot} (hd : decode cd pc = .ok (.istore i, 2)) (hl : storeLocals ls i (.int x) = some ls') (hp : pc + 2 = pc') (k : Go K P T pc' ls' st) : Go K P T pc ls (.int x :: st) := by
  obtain ⟨vm0, locs, k0, X, e, hx, ⟨hc, -⟩, -⟩ := W
  subst hp
  exact Go.stp (fun t r => XS.istore X.here hx rfl (hb hc hd) rfl hl r) k
theorem gAstoreN (W : Wk l Z EL own nm cd ml ret R ws h0 K sf T h cells slots) {i : Fin 4} {x : Value} {ls' : Array Slot} (hd : decode cd pc = .ok (.astore_n i, 1)) (hv : x.isRef = true) (hl : storeLocals ls i.val x = some ls') (hp : pc + 1 = pc') (k : Go K P T pc' ls' st) : Go K P T pc ls (x :: st) := by
  obtain ⟨vm0, locs, k0, X, e, hx, ⟨hc, -⟩, -⟩ := W
  subst hp
  exact Go.stp (fun t r => XS.astoreN X.here hx rfl (hb hc hd) rfl hv hl r) k
theorem gAstore (W : Wk l Z EL own nm cd ml ret R ws h0 K sf T h cells slots) {i : Nat} {x : Value} {ls' : Array Slot} (hd : decode cd pc = .ok (.astore i, 2)) (hv : x.isRef = true) (hl : storeLocals ls i x = some ls') (hp : pc + 2 = pc') (k : Go K P T pc' ls' st) : Go K P T pc ls (x :: st) := by
  obtain ⟨vm0, locs, k0, X, e, hx, ⟨hc, -⟩, -⟩ := W
  subst hp
  exact Go.stp (fun t r => XS.astore X.here hx rfl (hb hc hd) rfl hv hl r) k
theorem gLstore (W : Wk l Z EL own nm cd ml ret R ws h0 K sf T h cells slots) {i : Nat} {x : Int64} {ls' : Array Slot} (hd : decode cd pc = .ok (.lstore i, 2)) (hl : storeLocals ls i (.long x) = some ls') (hp : pc + 2 = pc') (k : Go K P T pc' ls' st) : Go K P T pc ls (.long x :: st) := by
  obtain ⟨vm0, locs, k0, X, e, hx, ⟨hc, -⟩, -⟩ := W
  subst hp
  exact Go.stp (fun t r => XS.lstore X.here hx rfl (hb hc hd) rfl hl r) k
theorem gIinc (W : Wk l Z EL own nm cd ml ret R ws h0 K sf T h cells slots) {i : Nat} {c0 : Int} {x z : Int32} {ls' : Array Slot} (hd : decode cd pc = .ok (.iinc i c0, 3)) (hl : ls[i]? = some (.val (.int x))) (hz : x + Int32.ofInt c0 = z) (hl2 : storeLocals ls i (.int z) = some ls') (hp : pc + 3 = pc') (k : Go K P T pc' ls' st) : Go K P T pc ls st := by
  obtain ⟨vm0, locs, k0, X, e, hx, ⟨hc, -⟩, -⟩ := W
  subst hp
  exact Go.stp (fun t r => XS.iinc X.here hx rfl (hb hc hd) hl (hz ▸ hl2) r) k
theorem gGoto (W : Wk l Z EL own nm cd ml ret R ws h0 K sf T h cells slots) {o : Int} (hd : decode cd pc = .ok (.goto o, 3)) (ho : 0 ≤ (pc : Int) + o) (hp : ((pc : Int) + o).toNat = pc') (k : Go K P T pc' ls st) : Go K P T pc ls st := by
  obtain ⟨vm0, locs, k0, X, e, hx, ⟨hc, -⟩, -⟩ := W
  exact Go.stp (fun t r => XS.goto X.here hx rfl (pc0 := pc) rfl (hb hc hd) ho hp r) k
theorem gIfYes (W : Wk l Z EL own nm cd ml ret R ws h0 K sf T h cells slots) {cn : ClassFile.Cond} {o : Int} {x : Int32} (hd : decode cd pc = .ok (.ifCond cn o, 3)) (hq : ifCond.holds cn x = true) (ho : 0 ≤ (pc : Int) + o) (hp : ((pc : Int) + o).toNat = pc') (k : Go K P T pc' ls st) : Go K P T pc ls (.int x :: st) := by
  obtain ⟨vm0, locs, k0, X, e, hx, ⟨hc, -⟩, -⟩ := W
  exact Go.stp (fun t r => XS.ifYes X.here hx rfl (pc0 := pc) rfl (hb hc hd) rfl hq ho hp r) k
theorem gIfNo (W : Wk l Z EL own nm cd ml ret R ws h0 K sf T h cells slots) {cn : ClassFile.Cond} {o : Int} {x : Int32} (hd : decode cd pc = .ok (.ifCond cn o, 3)) (hq : ifCond.holds cn x = false) (hp : pc + 3 = pc') (k : Go K P T pc' ls st) : Go K P T pc ls (.int x :: st) := by
  obtain ⟨vm0, locs, k0, X, e, hx, ⟨hc, -⟩, -⟩ := W
  subst hp
  exact Go.stp (fun t r => XS.ifNo X.here hx rfl (hb hc hd) rfl hq r) k
theorem gIcmpYes (W : Wk l Z EL own nm cd ml ret R ws h0 K sf T h cells slots) {cn : ClassFile.Cond} {o : Int} {x y : Int32} (hd : decode cd pc = .ok (.if_icmp cn o, 3)) (hq : if_icmp.holds cn x y = true) (ho : 0 ≤ (pc : Int) + o) (hp : ((pc : Int) + o).toNat = pc') (k : Go K P T pc' ls st) : Go K P T pc ls (.int y :: .int x :: st) := by
  obtain ⟨vm0, locs, k0, X, e, hx, ⟨hc, -⟩, -⟩ := W
  exact Go.stp (fun t r => XS.icmpYes X.here hx rfl (pc0 := pc) rfl (hb hc hd) rfl hq ho hp r) k
theorem gIcmpNo (W : Wk l Z EL own nm cd ml ret R ws h0 K sf T h cells slots) {cn : ClassFile.Cond} {o : Int} {x y : Int32} (hd : decode cd pc = .ok (.if_icmp cn o, 3)) (hq : if_icmp.holds cn x y = false) (hp : pc + 3 = pc') (k : Go K P T pc' ls st) : Go K P T pc ls (.int y :: .int x :: st) := by
  obtain ⟨vm0, locs, k0, X, e, hx, ⟨hc, -⟩, -⟩ := W
  subst hp
  exact Go.stp (fun t r => XS.icmpNo X.here hx rfl (hb hc hd) rfl hq r) k
end Pure
section Laws
variable {l : Launch} {Z : State} {EL : List (String × Nat)} {own nm : String} {cd : ByteArray} {ml : Nat} {ret : Option FieldType} {R : Room} {ws : List Addr} {h0 : Heap} {K : Cx} {sf : List Addr} {T : State} {h h' : Heap} {cells slots : Nat} {P : Outcome → State → Prop} {pc pc' : Nat} {ls : Array Slot} {st : List Value} {a0 : Array Value}
theorem wGetF (W : Wk l Z EL own nm cd ml ret R ws h0 K sf T h cells slots) {R0 O n d : String} {index : Nat} (hd : decode cd pc = .ok (.getfield index, 3)) (w : (Cond.fieldLink own index R0 n d).before a0 Z = true) (via : Via Z R0 O n d) {a : Addr} {v : Value} (F : Fld Z h a O n d v) (hp : pc + 3 = pc')
    (k : ∀ T', Wk l Z EL own nm cd ml ret R ws h0 K sf T' h cells slots → Go K P T' pc' ls (v :: st)) : Go K P T pc ls (.ref a :: st) := by
  obtain ⟨vm0, locs, k0, X, e, hx, hc, e0, hZ, hown, r⟩ := W
  subst hp
  obtain ⟨T', X', e', f⟩ := getF X hx hZ hown (host := "") (Or.inl w) via e F (g := mkF K.2.2.2.1 pc ls (.ref a :: st)) rfl rfl (hb hc.1 hd)
  exact Go.stp f (k T' ⟨vm0, locs, k0, X', e', hx, hc, e0, hZ, hown, r⟩)
theorem wExt {vm0 : Vm} {s : State} (hC : CHr Z EL s.vm h0 vm0 h) (hs : ∀ x ∈ sf, Safe Z EL vm0 h x ∧ x < h.size ∧ (x ∈ ws ∨ h0.size ≤ x)) (E : Ext h h') :
    CHr Z EL s.vm h0 vm0 h' ∧ ∀ x ∈ sf, Safe Z EL vm0 h' x ∧ x < h'.size ∧ (x ∈ ws ∨ h0.size ≤ x) :=
  ⟨hC.trans (CHr.ext E hC.1), fun x q => ⟨Safe.ext E hC.1 (hs x q).1, Nat.lt_of_lt_of_le (hs x q).2.1 E.1, (hs x q).2.2⟩⟩
theorem wNewO (W : Wk l Z EL own nm cd ml ret R ws h0 K sf T h cells slots) {C : String} {index n : Nat} (hd : decode cd pc = .ok (.new index, 3)) (w : (Cond.classLink own index C).before a0 Z = true) (wi : (Cond.instantiable C n).before a0 Z = true) (wz : (Cond.initialized C).before a0 Z = true) (hc' : cells + 1 ≤ R.cells) (hl : slots + n ≤ R.slots) (hp : pc + 3 = pc')
    (k : ∀ T' h' a, Wk l Z EL own nm cd ml ret R ws h0 K (a :: sf) T' h' (cells + 1) (slots + n) → Ext h h' → a = h.size → Exa Z h' a C → (∀ {O nm d : String} {ty : FieldType}, Laid Z a0 C O nm d → parseFieldDescriptor d = some ty → Fld Z h' a O nm d (defaultValue ty)) → Go K P T' pc' ls (.ref a :: st)) : Go K P T pc ls st := by
  have hg := W.grow
  obtain ⟨vm0, locs, k0, X, e, hx, hc, e0, hZ, hown, hS, hk, hL, hC, hO, hE, hw, hz, hs⟩ := W
  subst hp
  obtain ⟨T', h', X', e', E, A, D, -, f⟩ := newO X hx hZ hown w wi wz e (g := mkF K.2.2.2.1 pc ls st) rfl (hb hc.1 hd) hc' hl
  obtain ⟨hC', hs'⟩ := wExt (s := K.2.2.1) hC hs E
  refine Go.stp f (k T' h' h.size ⟨vm0, locs, k0, X', e', hx, hc, e0, hZ, hown, hS, Nat.le_trans hk E.1, hL, hC', hO.ext E, hE, hw, hz, fun x q => ?_⟩ E rfl A D)
  rcases List.mem_cons.mp q with rfl | q
  · exact ⟨Safe.ext E hC.1 (Safe.new (Nat.le_refl _)), A.lt, Or.inr hg⟩
  · exact hs' x q
theorem wNewP (W : Wk l Z EL own nm cd ml ret R ws h0 K sf T h cells slots) {aty : ArrayType} (hd : decode cd pc = .ok (.newarray aty, 2)) (w : (Cond.arrayClass (newarray.typeOf aty)).before a0 Z = true) {n : Int32} (hn : ¬ n < 0) {cap : Nat} (hcap : n.toNatClampNeg ≤ cap) (hbig : cap * 8 ≤ 536870912) (hc' : cells + 1 ≤ R.cells) (hl : slots + cap ≤ R.slots) (hp : pc + 2 = pc')
    (k : ∀ T' h' a cA, Wk l Z EL own nm cd ml ret R ws h0 K (a :: sf) T' h' (cells + 1) (slots + cap) → Ext h h' → a = h.size → (∀ m : Nat, Arv Z h' a cA (newarray.typeOf aty) n (List.replicate m (defaultValue (newarray.typeOf aty))) (defaultValue (newarray.typeOf aty))) → Go K P T' pc' ls (.ref a :: st)) : Go K P T pc ls (.int n :: st) := by
  have hg := W.grow
  obtain ⟨vm0, locs, k0, X, e, hx, hc, e0, hZ, hown, hS, hk, hL, hC, hO, hE, hw, hz, hs⟩ := W
  subst hp
  obtain ⟨T', h', cA, X', e', E, A, f⟩ := newP X hx hZ w e (g := mkF K.2.2.2.1 pc ls (.int n :: st)) rfl (hb hc.1 hd) rfl hn hcap hbig hc' hl
  obtain ⟨hC', hs'⟩ := wExt (s := K.2.2.1) hC hs E
  have F := Arv.new A hn
  refine Go.stp f (k T' h' h.size cA ⟨vm0, locs, k0, X', e', hx, hc, e0, hZ, hown, hS, Nat.le_trans hk E.1, hL, hC', hO.ext E, hE, hw, hz, fun x q => ?_⟩ E rfl (fun m => F.pad (pad_rep [] _ m)))
  rcases List.mem_cons.mp q with rfl | q
  · exact ⟨Safe.ext E hC.1 (Safe.new (Nat.le_refl _)), A.lt, Or.inr hg⟩
  · exact hs' x q
theorem wWr {vm0 : Vm} {s : State} {a : Addr} {sl : Nat} {v : Value} {locs : List Loc} (hC : CHr Z EL s.vm h0 vm0 h) (hs : ∀ x ∈ sf, Safe Z EL vm0 h x ∧ x < h.size ∧ (x ∈ ws ∨ h0.size ≤ x)) (hL : ∀ x ∈ locs, x.base ∈ ws ∨ h0.size ≤ x.base) (hO : Old Z Z.heap.size h) (hw : ∀ x ∈ ws, Z.heap.size ≤ x) (hz : Z.heap.size ≤ h0.size) (ha : a ∈ sf) (Wr' : Wr h h' a sl v) :
    CHr Z EL s.vm h0 vm0 h' ∧ (∀ x ∈ sf, Safe Z EL vm0 h' x ∧ x < h'.size ∧ (x ∈ ws ∨ h0.size ≤ x)) ∧ (∀ x ∈ locs ++ [⟨a, sl⟩], x.base ∈ ws ∨ h0.size ≤ x.base) ∧ Old Z Z.heap.size h' := by
  obtain ⟨s1, s2, s3⟩ := hs a ha
  refine ⟨hC.trans (CHr.wr Wr' s1 hC.1), fun x q => ⟨Safe.wr Wr' s1 hC.1 (hs x q).1, by rw [Wr'.size]; exact (hs x q).2.1, (hs x q).2.2⟩, fun x q => ?_, hO.wr Wr' ?_⟩
  · rcases List.mem_append.mp q with q | q
    · exact hL x q
    · cases List.mem_singleton.mp q; exact s3
  · rcases s3 with z | z
    · exact hw a z
    · exact Nat.le_trans hz z
theorem wPutF (W : Wk l Z EL own nm cd ml ret R ws h0 K sf T h cells slots) {R0 O n d C : String} {index kk : Nat} {ty : FieldType} (hd : decode cd pc = .ok (.putfield index, 3)) (w : (Cond.fieldLink own index R0 n d).before a0 Z = true) (via : Via Z R0 O n d) {a : Addr} {v old : Value} (ha : a ∈ sf) (F : Fld Z h a O n d old) (E : Exa Z h a C)
    (L : (Cond.lays C O n d).before a0 Z = true ∨ ((Cond.laysFinal C O n d).before a0 Z = true ∧ own = O ∧ nm = "<init>")) (wi : (Cond.instantiable C kk).before a0 Z = true) (hty : parseFieldDescriptor d = some ty) (hn : narrow ty v = v) (hf : fits ty v = true) (hp : pc + 3 = pc')
    (k : ∀ T' h', Wk l Z EL own nm cd ml ret R ws h0 K sf T' h' cells slots → Wr h h' a (Jvm.RoadKit.slotOf Z O n d) v → Go K P T' pc' ls st) : Go K P T pc ls (v :: .ref a :: st) := by
  obtain ⟨vm0, locs, k0, X, e, hx, hc, e0, hZ, hown, hS, hk, hL, hC, hO, hE, hw, hz, hs⟩ := W
  subst hp
  obtain ⟨T', h', X', e', Wr', f⟩ := putF X hx hZ hown (host := "") (Or.inl w) via e F E (L.imp id fun q => ⟨q.1, q.2.1, hc.2.2.2.2.trans q.2.2⟩) wi hty hn hf (g := mkF K.2.2.2.1 pc ls (v :: .ref a :: st)) rfl rfl (hb hc.1 hd)
  obtain ⟨hC', hs', hL', hO'⟩ := wWr (s := K.2.2.1) hC hs hL hO hw hz ha Wr'
  exact Go.stp f (k T' h' ⟨vm0, _, k0, X', e', hx, hc, e0, hZ, hown, hS, by rw [Wr'.size]; exact hk, hL', hC', hO', hE, hw, hz, hs'⟩ Wr')
theorem wLen (W : Wk l Z EL own nm cd ml ret R ws h0 K sf T h cells slots) (hd : decode cd pc = .ok (.arraylength, 1)) {a : Addr} {kA : ClassId} {ty : FieldType} {z : Int32} {vs : List Value} {dv : Value} (A : Arv Z h a kA ty z vs dv) (hp : pc + 1 = pc')
    (k : Go K P T pc' ls (.int z :: st)) : Go K P T pc ls (.ref a :: st) := by
  obtain ⟨vm0, locs, k0, X, e, hx, hc, e0, hZ, r⟩ := W
  subst hp
  obtain ⟨cl, A1, A2, A3, A4, -⟩ := A
  refine Go.stp (fun t q => ?_) k
  have ez : cl.slots.size.toInt32 = z := len_of A3 A4
  exact X.arraylength hx (by rw [e]; exact A1.1) (State.isArrayOf_alike hZ.alike A1.2.1) (g := mkF K.2.2.2.1 pc ls (.ref a :: st)) rfl rfl (hb hc.1 hd) _ (by rw [ez]; exact q)
theorem wInitO (W : Wk l Z EL own nm cd ml ret R ws h0 K sf T h cells slots) {index : Nat} (hd : decode cd pc = .ok (.invokespecial index, 3)) (w1 : (Cond.methodLink own index Lib.objectInit).before a0 Z = true) (w2 : (Cond.instanceMethod Lib.objectInit).before a0 Z = true) (w3 : (Cond.code Lib.objectInit ⟨#[0xb1]⟩ 1 none).before a0 Z = true) {a : Addr} (hsz : ls.size = ml) (hf : 1 ≤ R.frames) (Wd : Nat) (hW : (st.map fun v => v.category).sum ≤ Wd) (hl : Wd + 12 ≤ R.locals) (hp : pc + 3 = pc')
    (k : ∀ T', Wk l Z EL own nm cd ml ret R ws h0 K sf T' h cells slots → Go K P T' pc' ls st) : Go K P T pc ls (.ref a :: st) := by
  obtain ⟨vm0, locs, k0, X, e, hx, hc, e0, hZ, hown, r⟩ := W
  subst hp
  obtain ⟨T', X', e', f⟩ := initO X hx hZ hown w1 w2 w3 e (g := mkF K.2.2.2.1 pc ls (.ref a :: st)) rfl (hsz.trans hc.2.1.symm) rfl (hb hc.1 hd) hf (W := Wd) (by show 2 * 0 + _ ≤ _; omega) hl
  exact Go.stp f (k T' ⟨vm0, locs, k0, X', e', hx, hc, e0, hZ, hown, r⟩)
theorem wLdcI (W : Wk l Z EL own nm cd ml ret R ws h0 K sf T h cells slots) {index : Nat} {v : Int32} (hd : decode cd pc = .ok (.ldc index, 2)) (w : (Cond.constant own index v).before a0 Z = true) (hp : pc + 2 = pc') (k : Go K P T pc' ls (.int v :: st)) : Go K P T pc ls st := by
  obtain ⟨vm0, locs, k0, X, e, hx, hc, e0, hZ, hown, r⟩ := W
  subst hp
  exact Go.stp (fun t q => X.ldcInt hx hown (mv (s := K.2.2.1.setVm vm0) hZ w) (g := mkF K.2.2.2.1 pc ls st) rfl (hb hc.1 hd) _ q) k
end Laws
section Calls
variable {l : Launch} {Z : State} {EL : List (String × Nat)} {own nm : String} {cd : ByteArray} {ml : Nat} {ret : Option FieldType} {R : Room} {ws : List Addr} {h0 : Heap} {K : Cx} {sf : List Addr} {T : State} {h h' : Heap} {cells slots : Nat} {P : Outcome → State → Prop} {pc pc' : Nat} {ls : Array Slot} {st : List Value} {a0 : Array Value}
def Cb (l : Launch) (Z : State) (EL : List (String × Nat)) (R : Room) (K : Cx) (y : MethodName) (len Wd kc ks : Nat) (as' : Array Value) (h : Heap) (wsc : List Addr) (Q : Option Value → Heap → List Addr → Prop) : Prop :=
  ∀ vm0, Z.Warmed39 vm0 → CHv Z EL vm0 h → (∀ x ∈ wsc, Safe Z EL vm0 h x ∧ x < h.size) → BackS l R K.1 K.2.1 K.2.2.2.2.2.1 (K.2.2.1.setVm vm0) K.2.2.2.2.1 y len Wd (fun A a => a = as' ∧ A.U.heap = h ∧ A.cells + kc ≤ R.cells ∧ A.slots + ks ≤ R.slots)
    (fun A _ v B => ∃ L so, Q v B.U.heap so ∧ (∀ x ∈ so, Safe Z EL B.U.vm B.U.heap x ∧ h.size ≤ x ∧ x < B.U.heap.size) ∧ (∀ x ∈ L, x.base ∈ wsc ∨ h.size ≤ x.base) ∧ Keep h B.U.heap wsc ∧ B.locs = A.locs ++ L ∧ B.cells = A.cells + kc ∧ B.slots = A.slots + ks ∧ CHr Z EL vm0 h B.U.vm B.U.heap ∧ (K.2.2.1.setVm vm0).WarmedH B.U.vm)
theorem Cb.ct {y : MethodName} {bytes : ByteArray} {maxL : Nat} {rt : Option FieldType} {rm : Room} {len Wd : Nat} {as' : Array Value} {wsc : List Addr} {Q : Option Value → Heap → List Addr → Prop} (C : Ct l Z EL y bytes maxL rt rm as' h wsc Q) (wc : (Cond.code y bytes maxL rt).before a0 Z = true) (wz : (Cond.initialized y.cls).before a0 Z = true) (hEL : EW Z a0 EL) (hf : rm.frames + 1 ≤ R.frames) (hl : Wd + (maxL + 11) + rm.locals ≤ R.locals) :
    Cb l Z EL R K y len Wd rm.cells rm.slots as' h wsc Q := by
  intro vm0 hZ H hsafe
  refine BackS.of_freeW (bytes := bytes) (maxL := maxL) (ret := rt) (E := fun _ first o t L k n => k = rm.cells ∧ n = rm.slots ∧ ∃ v so, o = .returned v ∧ Q v t.heap so ∧ (∀ x ∈ so, Safe Z EL t.vm t.heap x ∧ first.heap.size ≤ x ∧ x < t.heap.size) ∧ (∀ x ∈ L, x.base ∈ wsc ∨ first.heap.size ≤ x.base) ∧ CHr Z EL first.vm first.heap t.vm t.heap ∧ first.WarmedH t.vm) (C []) hf hl
    (fun m meth c A a Y hp => have hU : Z.Warmed39 A.U.vm := wtrans (s := K.2.2.1.setVm vm0) hZ Y.warmed
      ⟨by show (Cond.and _ .tt).before a A.U = true; rw [Cond.before_and, mv hU wc]; rfl, mv hU wc, mv hU wz, hp.2.2.1, hp.2.2.2⟩)
    (fun m meth c A a g mk Y hp => ⟨hp.1, wtrans (s := K.2.2.1.setVm vm0) hZ Y.warmed, hp.2.1, (CHv.at Y hZ hEL H).1, fun x q => ⟨(CHv.at Y hZ hEL H).safe (hsafe x q).2 (hsafe x q).1, (hsafe x q).2⟩⟩) (fun _ _ _ _ _ _ _ _ _ => trivial)
    (fun _ first o t ⟨v, L, so, h1, h2, h3, h4, h5, h6⟩ => ⟨L, _, _, h6.1, rfl, rfl, v, so, h1, h2, h3, h4, h5, h6.2⟩)
    (fun m meth c A a g mk v t L k n Y hp _ hret ⟨e1, e2, v', so, e3, e4, e5, e6, e7, e8⟩ => ?_)
  cases e3; subst e1 e2
  have eh : (A.U.calling g mk a).heap = h := hp.2.1
  have ke := keep_of (ws := wsc) hret.2.2.2 (by simpa using e6)
  rw [eh] at ke e5 e6 e7
  exact ⟨L, so, e4, e5, e6, ke, rfl, rfl, rfl, (CHv.at Y hZ hEL H).trans e7, State.WarmedH.trans (t := A.U.calling g mk a) Y.warmed e8⟩
theorem Cb.mono {y : MethodName} {len Wd kc ks kc' ks' : Nat} {as' : Array Value} {wsc : List Addr} {Q : Option Value → Heap → List Addr → Prop} (C : Cb l Z EL R K y len Wd kc ks as' h wsc Q) (h1 : kc ≤ kc') (h2 : ks ≤ ks') : Cb l Z EL R K y len Wd kc' ks' as' h wsc Q := by
  intro vm0 hZ H hs m meth c A g ig mk a X hg hsz hd hW hn hp
  obtain ⟨v, B, X', hS, hgr, ⟨L, so, q1, q2, q3, q4, q5, q6, q7, q8⟩, st⟩ := C vm0 hZ H hs m meth c A g ig mk a X hg hsz hd hW hn ⟨hp.1, hp.2.1, Nat.le_trans (Nat.add_le_add_left h1 _) hp.2.2.1, Nat.le_trans (Nat.add_le_add_left h2 _) hp.2.2.2⟩
  refine ⟨v, ⟨B.U, B.locs, A.cells + kc', A.slots + ks'⟩, ?_, hS, hgr, ⟨L, so, q1, q2, q3, q4, q5, rfl, rfl, q8⟩, st⟩
  exact X'.mono (by rw [q6]; exact Nat.add_le_add_left h1 _) (by rw [q7]; exact Nat.add_le_add_left h2 _)
theorem wAfter {vm0 : Vm} {s : State} {wsc so : List Addr} {vm1 : Vm} {locs L : List Loc} (hC : CHr Z EL s.vm h0 vm0 h) (hs : ∀ x ∈ sf, Safe Z EL vm0 h x ∧ x < h.size ∧ (x ∈ ws ∨ h0.size ≤ x)) (hL : ∀ x ∈ locs, x.base ∈ ws ∨ h0.size ≤ x.base) (hO : Old Z Z.heap.size h) (hw : ∀ x ∈ ws, Z.heap.size ≤ x) (hz : Z.heap.size ≤ h0.size) (hws : ∀ x ∈ wsc, x ∈ sf)
    (q2 : ∀ x ∈ so, Safe Z EL vm1 h' x ∧ h.size ≤ x ∧ x < h'.size) (q3 : ∀ x ∈ L, x.base ∈ wsc ∨ h.size ≤ x.base) (q4 : Keep h h' wsc) (q8 : CHr Z EL vm0 h vm1 h') :
    CHr Z EL s.vm h0 vm1 h' ∧ (∀ x ∈ so ++ sf, Safe Z EL vm1 h' x ∧ x < h'.size ∧ (x ∈ ws ∨ h0.size ≤ x)) ∧ (∀ x ∈ locs ++ L, x.base ∈ ws ∨ h0.size ≤ x.base) ∧ Old Z Z.heap.size h' := by
  have hgr : h0.size ≤ h.size := hC.2.1
  refine ⟨hC.trans q8, fun x q => ?_, fun x q => ?_, hO.keep q4 fun x q => ?_⟩
  · rcases List.mem_append.mp q with q | q
    · exact ⟨(q2 x q).1, (q2 x q).2.2, Or.inr (Nat.le_trans hgr (q2 x q).2.1)⟩
    · exact ⟨q8.safe (hs x q).2.1 (hs x q).1, Nat.lt_of_lt_of_le (hs x q).2.1 q4.1, (hs x q).2.2⟩
  · rcases List.mem_append.mp q with q | q
    · exact hL x q
    · rcases q3 x q with q | q
      · exact (hs _ (hws _ q)).2.2
      · exact Or.inr (Nat.le_trans hgr q)
  · rcases (hs _ (hws _ q)).2.2 with z | z
    · exact hw _ z
    · exact Nat.le_trans hz z
theorem wStatic (W : Wk l Z EL own nm cd ml ret R ws h0 K sf T h cells slots) {y : MethodName} {index : Nat} (hd : decode cd pc = .ok (.invokestatic index, 3)) (w1 : (Cond.methodLink own index y).before a0 Z = true) (w2 : (Cond.static y).before a0 Z = true) (wz : (Cond.initialized y.cls).before a0 Z = true) {bytes : ByteArray} {maxL : Nat} {rt : Option FieldType} (wc : (Cond.code y bytes maxL rt).before a0 Z = true) (hy : y.cls ≠ "java/lang/invoke/MethodHandle" ∧ y.cls ≠ "java/lang/invoke/VarHandle")
    {Wd kc ks : Nat} {argsL rest : List Value} {wsc : List Addr} {Q : Option Value → Heap → List Addr → Prop} (C : Cb l Z EL R K y 3 Wd kc ks argsL.toArray h wsc Q) (hws : ∀ x ∈ wsc, x ∈ sf) (hsz : ls.size = ml) (hlen : ∀ sig, parseMethodDescriptor y.desc = some sig → argsL.length = sig.parameters.length) (hst : st = argsL.reverse ++ rest) (hW : (rest.map fun v => v.category).sum ≤ Wd) (hc' : cells + kc ≤ R.cells) (hl' : slots + ks ≤ R.slots) (hp : pc + 3 = pc')
    (k : ∀ v so T' h', Wk l Z EL own nm cd ml ret R ws h0 K (so ++ sf) T' h' (cells + kc) (slots + ks) → Keep h h' wsc → (∀ x ∈ so, h.size ≤ x ∧ x < h'.size) → Q v h' so → Go K P T' pc' ls (v.toList ++ rest)) : Go K P T pc ls st := by
  obtain ⟨vm0, locs, k0, X, e, hx, hc, e0, hZ, hown, hS, hk, hL, hC, hO, hE, hw, hz, hs⟩ := W
  subst hp
  obtain ⟨v, vm₁, B, -, X', hS', hgr, ⟨L, so, q1, q2, q3, q4, q5, q6, q7, q8⟩, f⟩ := callSS X hx (y := y) hown (mvT hZ w1) (mvT hZ w2) (mvT hZ wz) (mvT hZ wc) hy (C vm0 hZ hC.1 fun x q => ⟨(hs x (hws x q)).1, (hs x (hws x q)).2.1⟩) (g := mkF K.2.2.2.1 pc ls st) rfl (hsz.trans hc.2.1.symm) hlen hst (by show 2 * 0 + _ ≤ _; omega) (hb hc.1 hd) (fun _ _ => ⟨rfl, e, hc', hl'⟩)
  obtain ⟨X2, hS2, hZ2, hown2⟩ := rebS (Z := Z) (own := own) (n1 := h.size) hS.1 hk X' hS' (by rw [← e]; exact hgr) hZ hown
  obtain ⟨a1, a2, a3, a4⟩ := wAfter (s := K.2.2.1) hC hs hL hO hw hz hws q2 q3 q4 q8.1
  rw [q5, q6, q7] at X2
  obtain ⟨o, U, r, q⟩ := k v so B.U B.U.heap ⟨B.U.vm, _, _, X2, rfl, hx, hc, e0, hZ2, hown2, ⟨hS2, State.WarmedH.trans (t := K.2.2.1.setVm vm0) hS.2 q8.2⟩, Nat.le_refl _, a3, a1, a4, hE, hw, hz, a2⟩ q4 (fun x z => ⟨(q2 x z).2.1, (q2 x z).2.2⟩) q1
  exact ⟨o, U, f.trans r, q⟩
theorem wSpecial (W : Wk l Z EL own nm cd ml ret R ws h0 K sf T h cells slots) {y : MethodName} {index : Nat} (hd : decode cd pc = .ok (.invokespecial index, 3)) (hy1 : y.name = "<init>") (w1 : (Cond.methodLink own index y).before a0 Z = true) (w2 : (Cond.instanceMethod y).before a0 Z = true) {bytes : ByteArray} {maxL : Nat} (wc : (Cond.code y bytes maxL none).before a0 Z = true) (hy : y.cls ≠ "java/lang/invoke/MethodHandle" ∧ y.cls ≠ "java/lang/invoke/VarHandle")
    {Wd kc ks : Nat} {a : Addr} {argsL rest : List Value} {wsc : List Addr} {Q : Option Value → Heap → List Addr → Prop} (C : Cb l Z EL R K y 3 Wd kc ks (.ref a :: argsL).toArray h wsc Q) (hws : ∀ x ∈ wsc, x ∈ sf) (hsz : ls.size = ml) (hlen : ∀ sig, parseMethodDescriptor y.desc = some sig → argsL.length = sig.parameters.length) (hst : st = argsL.reverse ++ .ref a :: rest) (hW : (rest.map fun v => v.category).sum ≤ Wd) (hc' : cells + kc ≤ R.cells) (hl' : slots + ks ≤ R.slots) (hp : pc + 3 = pc')
    (k : ∀ v so T' h', Wk l Z EL own nm cd ml ret R ws h0 K (so ++ sf) T' h' (cells + kc) (slots + ks) → Keep h h' wsc → (∀ x ∈ so, h.size ≤ x ∧ x < h'.size) → Q v h' so → Go K P T' pc' ls (v.toList ++ rest)) : Go K P T pc ls st := by
  obtain ⟨vm0, locs, k0, X, e, hx, hc, e0, hZ, hown, hS, hk, hL, hC, hO, hE, hw, hz, hs⟩ := W
  subst hp
  obtain ⟨v, vm₁, B, -, X', hS', hgr, ⟨L, so, q1, q2, q3, q4, q5, q6, q7, q8⟩, f⟩ := X.specialBackS hx (y := y) hy1 hown (mvT hZ w1) (mvT hZ w2) (mvT hZ wc) hy (C vm0 hZ hC.1 fun x q => ⟨(hs x (hws x q)).1, (hs x (hws x q)).2.1⟩) (g := mkF K.2.2.2.1 pc ls st) rfl (hsz.trans hc.2.1.symm) (Steps.refl _) hlen hst (by show 2 * 0 + _ ≤ _; omega) (hb hc.1 hd) (fun _ _ => ⟨rfl, e, hc', hl'⟩)
  obtain ⟨X2, hS2, hZ2, hown2⟩ := rebS (Z := Z) (own := own) (n1 := h.size) hS.1 hk X' hS' (by rw [← e]; exact hgr) hZ hown
  obtain ⟨a1, a2, a3, a4⟩ := wAfter (s := K.2.2.1) hC hs hL hO hw hz hws q2 q3 q4 q8.1
  rw [q5, q6, q7] at X2
  obtain ⟨o, U, r, q⟩ := k v so B.U B.U.heap ⟨B.U.vm, _, _, X2, rfl, hx, hc, e0, hZ2, hown2, ⟨hS2, State.WarmedH.trans (t := K.2.2.1.setVm vm0) hS.2 q8.2⟩, Nat.le_refl _, a3, a1, a4, hE, hw, hz, a2⟩ q4 (fun x z => ⟨(q2 x z).2.1, (q2 x z).2.2⟩) q1
  exact ⟨o, U, f.trans r, q⟩
theorem wVirtual (W : Wk l Z EL own nm cd ml ret R ws h0 K sf T h cells slots) {C : String} {y z : MethodName} {index : Nat} (hd : decode cd pc = .ok (.invokevirtual index, 3)) (w1 : (Cond.methodLink own index y).before a0 Z = true) (w2 : (Cond.declares y).before a0 Z = true) (w3 : (Cond.selects C y z).before a0 Z = true) (w4 : (Cond.instanceMethod z).before a0 Z = true) (nf : ∀ s : State, Z.Warmed39 s.vm → NotFace s y) (hy : y.cls ≠ "java/lang/invoke/MethodHandle" ∧ y.cls ≠ "java/lang/invoke/VarHandle")
    {Wd kc ks : Nat} {a : Addr} {argsL rest : List Value} {wsc : List Addr} {Q : Option Value → Heap → List Addr → Prop} (Cc : Cb l Z EL R K z 3 Wd kc ks (.ref a :: argsL).toArray h wsc Q) (E : Exa Z h a C) (hws : ∀ x ∈ wsc, x ∈ sf) (hsz : ls.size = ml) (hlen : ∀ sig, parseMethodDescriptor y.desc = some sig → argsL.length = sig.parameters.length) (hst : st = argsL.reverse ++ .ref a :: rest) (hW : (rest.map fun v => v.category).sum ≤ Wd) (hc' : cells + kc ≤ R.cells) (hl' : slots + ks ≤ R.slots) (hp : pc + 3 = pc')
    (k : ∀ v so T' h', Wk l Z EL own nm cd ml ret R ws h0 K (so ++ sf) T' h' (cells + kc) (slots + ks) → Keep h h' wsc → (∀ x ∈ so, h.size ≤ x ∧ x < h'.size) → Q v h' so → Go K P T' pc' ls (v.toList ++ rest)) : Go K P T pc ls st := by
  obtain ⟨vm0, locs, k0, X, e, hx, hc, e0, hZ, hown, hS, hk, hL, hC, hO, hE, hw, hz, hs⟩ := W
  subst hp
  obtain ⟨cB, kB, i1, i2, i3⟩ := isOf (s := K.2.2.1.setVm vm0) hZ e E
  obtain ⟨v, vm₁, B, -, X', hS', hgr, ⟨L, so, q1, q2, q3, q4, q5, q6, q7, q8⟩, f⟩ := X.virtualBackS hx (y := y) (z := z) hown (mvT hZ w1) (mvT hZ w2) (nf (K.2.2.1.setVm vm0) hZ) (mvT hZ w3) (mvT hZ w4) hy (Cc vm0 hZ hC.1 fun x q => ⟨(hs x (hws x q)).1, (hs x (hws x q)).2.1⟩) i1 i3 (g := mkF K.2.2.2.1 pc ls st) rfl (hsz.trans hc.2.1.symm) (Steps.refl _) hlen hst (by show 2 * 0 + _ ≤ _; omega) (hb hc.1 hd) (fun _ _ => ⟨rfl, e, hc', hl'⟩)
  obtain ⟨X2, hS2, hZ2, hown2⟩ := rebS (Z := Z) (own := own) (n1 := h.size) hS.1 hk X' hS' (by rw [← e]; exact hgr) hZ hown
  obtain ⟨a1, a2, a3, a4⟩ := wAfter (s := K.2.2.1) hC hs hL hO hw hz hws q2 q3 q4 q8.1
  rw [q5, q6, q7] at X2
  obtain ⟨o, U, r, q⟩ := k v so B.U B.U.heap ⟨B.U.vm, _, _, X2, rfl, hx, hc, e0, hZ2, hown2, ⟨hS2, State.WarmedH.trans (t := K.2.2.1.setVm vm0) hS.2 q8.2⟩, Nat.le_refl _, a3, a1, a4, hE, hw, hz, a2⟩ q4 (fun x z => ⟨(q2 x z).2.1, (q2 x z).2.2⟩) q1
  exact ⟨o, U, f.trans r, q⟩
theorem nfS {C : String} {y : MethodName} (w3 : (Cond.selects C y y).before a0 Z = true) : ∀ s : State, Z.Warmed39 s.vm → NotFace s y := fun s hZ => notFace_of_selects (args := #[]) (mvT hZ w3)
theorem wEnd {kc ks : Nat} {v : Option Value} {Q : Option Value → Heap → List Addr → Prop} {so : List Addr} (W : Wk l Z EL own nm cd ml ret R ws h0 K sf T h cells slots) (hv : ret = none → v = none) (hk : cells ≤ kc) (hn : slots ≤ ks) (hso : ∀ x ∈ so, x ∈ sf ∧ h0.size ≤ x) (q : Q v h so)
    (stp : ∀ (vm0 : Vm) (locs : List Loc) (fs : List Frame), Stand K.1 l K.2.1 R (K.2.2.1.setVm vm0) K.2.2.2.1 K.2.2.2.2.1 K.2.2.2.2.2.1 K.2.2.2.2.2.2.1 K.2.2.2.2.2.2.2 T locs cells slots → K.1.tables.exec = Jvm.exec → K.2.2.2.2.2.2.2.code = cd → K.2.2.2.2.2.2.1.sig.returnType = ret →
      (∀ (f : JFrame) (acts : List Action), f.method = K.2.2.2.1 → f.locked = none → f.entered = [] → (doReturn K.2.1 (T.setTop f) acts v).1 = T.setFrames fs) → Steps K.1.tables K.2.1 K.2.2.2.2.2.1 (T.setTop (mkF K.2.2.2.1 pc ls st)) (T.setFrames fs)) :
    Go K (Pst Z EL ws K.2.2.1 kc ks Q) T pc ls st := by
  obtain ⟨vm0, locs, k0, X, e, hx, hc, e0, hZ, hown, hS, hk0, hL, hC, hO, ⟨a0, hE⟩, hw, hz, hs⟩ := W
  have hlk := hc.2.2.2.1
  obtain ⟨fs, f1, f2, f3, f4⟩ := X.leaveW hS.1 (by rw [e]; exact hk0) (v := v) (fun q => hv (hc.2.2.1.symm.trans q)) hlk
  have hend := CHv.at X hZ hE hC.1
  refine ⟨.returned v, T.setFrames fs, stp vm0 locs fs X hx hc.1 hc.2.2.1 f1, f2, f3, v, locs, so, rfl, ?_, fun x z => ?_, ?_, ?_, ?_⟩
  · show Q v T.heap so
    rw [e]; exact q
  · show Safe Z EL T.vm T.heap x ∧ _ ∧ x < T.heap.size
    rw [e, e0]
    exact ⟨hend.safe (hs x (hso x z).1).2.1 (hs x (hso x z).1).1, (hso x z).2, (hs x (hso x z).1).2.1⟩
  · rw [e0]; exact hL
  · show CHr Z EL K.2.2.1.vm K.2.2.1.heap T.vm T.heap
    rw [e, e0]; exact hC.trans hend
  · obtain ⟨g1, g2, g3, g4⟩ := f4
    exact ⟨⟨g1, g2, g3, g4.mono hk hn⟩, State.WarmedH.trans (t := K.2.2.1.setVm vm0) hS.2 X.warmed⟩
theorem wRet0 {kc ks : Nat} {Q : Option Value → Heap → List Addr → Prop} {so : List Addr} (W : Wk l Z EL own nm cd ml none R ws h0 K sf T h cells slots) (hd : decode cd pc = .ok (.return_, 1)) (hk : cells ≤ kc) (hn : slots ≤ ks) (hso : ∀ x ∈ so, x ∈ sf ∧ h0.size ≤ x) (q : Q none h so) : Go K (Pst Z EL ws K.2.2.1 kc ks Q) T pc ls [] :=
  wEnd W (fun _ => rfl) hk hn hso q fun vm0 locs fs X hx hc hr f => X.returnOut hx hr (hb hc hd) f
theorem wRetI {t : FieldType} {z : Int32} {kc ks : Nat} {Q : Option Value → Heap → List Addr → Prop} {so : List Addr} (W : Wk l Z EL own nm cd ml (some t) R ws h0 K sf T h cells slots) (hd : decode cd pc = .ok (.ireturn, 1)) (ht : t = .int ∨ t = .boolean ∨ t = .byte ∨ t = .char ∨ t = .short) (hnr : narrow t (.int z) = .int z) (hk : cells ≤ kc) (hn : slots ≤ ks) (hso : ∀ x ∈ so, x ∈ sf ∧ h0.size ≤ x) (q : Q (some (.int z)) h so) : Go K (Pst Z EL ws K.2.2.1 kc ks Q) T pc ls (.int z :: st) :=
  wEnd W (fun q => nomatch q) hk hn hso q fun vm0 locs fs X hx hc hr f => retOut X hx hr hnr (Or.inl ⟨rfl, ht, z, rfl⟩) (hb hc hd) f
theorem wRetA {t : FieldType} {w : Value} {kc ks : Nat} {Q : Option Value → Heap → List Addr → Prop} {so : List Addr} (W : Wk l Z EL own nm cd ml (some t) R ws h0 K sf T h cells slots) (hd : decode cd pc = .ok (.areturn, 1)) (ht : t.isReference = true) (hw : w.isRef = true) (hnr : narrow t w = w) (hk : cells ≤ kc) (hn : slots ≤ ks) (hso : ∀ x ∈ so, x ∈ sf ∧ h0.size ≤ x) (q : Q (some w) h so) : Go K (Pst Z EL ws K.2.2.1 kc ks Q) T pc ls (w :: st) :=
  wEnd W (fun q => nomatch q) hk hn hso q fun vm0 locs fs X hx hc hr f => retOut X hx hr hnr (Or.inr (Or.inr (Or.inr (Or.inr ⟨rfl, ht, hw⟩)))) (hb hc hd) f
theorem wRetL {z : Int64} {kc ks : Nat} {Q : Option Value → Heap → List Addr → Prop} {so : List Addr} (W : Wk l Z EL own nm cd ml (some .long) R ws h0 K sf T h cells slots) (hd : decode cd pc = .ok (.lreturn, 1)) (hk : cells ≤ kc) (hn : slots ≤ ks) (hso : ∀ x ∈ so, x ∈ sf ∧ h0.size ≤ x) (q : Q (some (.long z)) h so) : Go K (Pst Z EL ws K.2.2.1 kc ks Q) T pc ls (.long z :: st) :=
  wEnd W (fun q => nomatch q) hk hn hso q fun vm0 locs fs X hx hc hr f => retOut X hx hr rfl (Or.inr (Or.inl ⟨rfl, rfl, z, rfl⟩)) (hb hc hd) f
end Calls
section Ints
theorem i32_of {v : Int32} {n : Int} (w : Int32) (hw : w.toInt = n) (h : v.toInt = n) : v = w := Int32.toInt_inj.mp (h.trans hw.symm)
theorem and3 {x v : Int32} (e : x &&& 3 = v) : v = 0 ∨ v = 1 ∨ v = 2 ∨ v = 3 := by
  subst e
  have q := c_and x 3 (by decide)
  have h3 : (3 : Int32).toInt = 3 := by decide
  rw [h3] at q
  have : (x &&& 3).toInt = 0 ∨ (x &&& 3).toInt = 1 ∨ (x &&& 3).toInt = 2 ∨ (x &&& 3).toInt = 3 := by omega
  rcases this with h | h | h | h
  · exact Or.inl (i32_of 0 (by decide) h)
  · exact Or.inr (Or.inl (i32_of 1 (by decide) h))
  · exact Or.inr (Or.inr (Or.inl (i32_of 2 (by decide) h)))
  · exact Or.inr (Or.inr (Or.inr (i32_of 3 (by decide) h)))
def B8 (x : Int32) : Prop := ¬ x < 0 ∧ ¬ 255 < x
theorem B8.toInt {x : Int32} (h : B8 x) : 0 ≤ x.toInt ∧ x.toInt ≤ 255 := by
  obtain ⟨h1, h2⟩ := h
  rw [Int32.lt_iff_toInt_lt] at h1 h2
  have a : (0 : Int32).toInt = 0 := by decide
  have b : (255 : Int32).toInt = 255 := by decide
  omega
theorem B8.of {x : Int32} (h : 0 ≤ x.toInt ∧ x.toInt ≤ 255) : B8 x := by
  refine ⟨?_, ?_⟩ <;> rw [Int32.lt_iff_toInt_lt]
  · have a : (0 : Int32).toInt = 0 := by decide
    omega
  · have b : (255 : Int32).toInt = 255 := by decide
    omega
theorem B8.and {p v : Int32} (e : p &&& 255 = v) : B8 v := by
  subst e; have q := c_and p 255 (by decide)
  have b : (255 : Int32).toInt = 255 := by decide
  exact B8.of (by omega)
theorem lt_i {x y : Int32} : x < y ↔ x.toInt < y.toInt := Int32.lt_iff_toInt_lt
end Ints
section Refs0
variable {l : Launch} {Z : State} {EL : List (String × Nat)} {own nm : String} {cd : ByteArray} {ml : Nat} {ret : Option FieldType} {R : Room} {ws : List Addr} {h0 : Heap} {K : Cx} {sf : List Addr} {T : State} {h h' : Heap} {cells slots : Nat} {P : Outcome → State → Prop} {pc pc' : Nat} {ls : Array Slot} {st : List Value} {a0 : Array Value}
end Refs0
section Refs
variable {Z : State} {h h' : Heap} {v : Value} {C : String} {ws : List Addr}
def RefS (Z : State) (h : Heap) (v : Value) (C : String) : Prop := v = .null ∨ ∃ r, v = .ref r ∧ Exa Z h r C
theorem RefS.isRef (F : RefS Z h v C) : v.isRef = true := by rcases F with rfl | ⟨r, rfl, -⟩ <;> rfl
theorem RefS.ext (F : RefS Z h v C) (E : Ext h h') : RefS Z h' v C := F.imp id fun ⟨r, q, A⟩ => ⟨r, q, A.ext E⟩
theorem RefS.wr {a : Addr} {sl : Nat} {u : Value} (F : RefS Z h v C) (W : Wr h h' a sl u) : RefS Z h' v C := F.imp id fun ⟨r, q, A⟩ => ⟨r, q, A.wr W⟩
theorem RefS.keep (F : RefS Z h v C) (K : Keep h h' ws) : RefS Z h' v C := F.imp id fun ⟨r, q, A⟩ => ⟨r, q, A.keep K⟩
theorem RefS.of {r : Addr} (A : Exa Z h r C) : RefS Z h (.ref r) C := Or.inr ⟨r, rfl, A⟩
theorem RefS.null : RefS Z h .null C := Or.inl rfl
end Refs
section Refs2
variable {l : Launch} {Z : State} {EL : List (String × Nat)} {own nm : String} {cd : ByteArray} {ml : Nat} {ret : Option FieldType} {R : Room} {ws : List Addr} {h0 : Heap} {K : Cx} {sf : List Addr} {T : State} {h h' : Heap} {cells slots : Nat} {P : Outcome → State → Prop} {pc pc' : Nat} {ls : Array Slot} {st : List Value} {a0 : Array Value}
end Refs2
section More
variable {l : Launch} {Z : State} {EL : List (String × Nat)} {own nm : String} {cd : ByteArray} {ml : Nat} {ret : Option FieldType} {R : Room} {ws : List Addr} {h0 : Heap} {K : Cx} {sf : List Addr} {T : State} {h h' : Heap} {cells slots : Nat} {P : Outcome → State → Prop} {pc pc' : Nat} {ls : Array Slot} {st : List Value} {a0 : Array Value}
end More
section Starts
end Starts
end Jvm.Own
namespace Jvm.Own
open Jvm Sem ClassFile Op Lib Jvm.Stand Jvm.Free Jvm.LawKit Jvm.RoadKit Bundle
section B64
variable {l : Launch} {Z : State} {EL : List (String × Nat)} {own nm : String} {cd : ByteArray} {ml : Nat} {ret : Option FieldType} {R : Room} {ws : List Addr} {h0 : Heap} {K : Cx} {sf : List Addr} {T : State} {h h' : Heap} {cells slots : Nat} {P : Outcome → State → Prop} {pc pc' : Nat} {ls : Array Slot} {st : List Value} {a0 : Array Value}
theorem gLdiv (W : Wk l Z EL own nm cd ml ret R ws h0 K sf T h cells slots) {x y z : Int64} (hd : decode cd pc = .ok (.ldiv, 1)) (hy : y ≠ 0) (hz : x / y = z) (hp : pc + 1 = pc') (k : Go K P T pc' ls (.long z :: st)) : Go K P T pc ls (.long y :: .long x :: st) := by
  obtain ⟨vm0, locs, k0, X, e, hx, ⟨hc, -⟩, -⟩ := W
  subst hp
  exact Go.stp (fun t r => XS.ldiv X.here hx rfl (hb hc hd) rfl hy <| hz ▸ r) k
def CtW (l : Launch) (Z : State) (EL : List (String × Nat)) (y : MethodName) (cd : ByteArray) (ml : Nat) (ret : Option FieldType) (hs : List (Nat × Nat × Nat × Nat)) (rm : Room) (as' : Array Value) (h : Heap) (ws : List Addr) (Q : Option Value → Heap → List Addr → Prop) : Prop :=
  MetFree l y (head1 [Cond.codeWith y cd ml ret hs] rm) (fun a U => a = as' ∧ Z.Warmed39 U.vm ∧ U.heap = h ∧ CHv Z EL U.vm h ∧ ∀ x ∈ ws, Safe Z EL U.vm h x ∧ x < h.size) (fun _ _ _ _ _ => True) (fun _ U o U' => Pst Z EL ws U rm.cells rm.slots Q o U')
theorem CtW.mk {y : MethodName} {hs : List (Nat × Nat × Nat × Nat)} (own nm : String) (h1 : y.cls = own) (h2 : y.name = nm) {rm : Room} {as' : Array Value} {Q : Option Value → Heap → List Addr → Prop} (pn : plainFor y = true) (hO : Old Z Z.heap.size h) (hE : EW Z a0 EL) (hw : ∀ x ∈ ws, Z.heap.size ≤ x)
    (k : ∀ (K : Cx) (T : State), Wk l Z EL own nm cd ml ret rm ws h K ws T h 0 0 → Go K (Pst Z EL ws K.2.2.1 rm.cells rm.slots Q) T 0 (entryFrame K.2.2.2.1 as' ml).locals []) : CtW l Z EL y cd ml ret hs rm as' h ws Q := by
  subst h1 h2
  refine MetFree.of_bodySF pn hisWith ?_
  intro p e s m args below meth c s₁ Bd hml hP hK
  obtain ⟨rfl, hZ, hh, hCH, hsf⟩ := hP
  have X0 := Stand.of_body Bd
  have hes : s₁.heap = h := by rw [← hh, Bd.state]; rfl
  have hn := name_of_methodNamed Bd.named Bd.method
  obtain ⟨o, U, r1, r2, r3, r4⟩ := k (p, e, s, m, args, below, meth, c) s₁ ⟨s.vm, [], 0, X0, hes, Bd.exec, ⟨Bd.bytes, hml, Bd.returns, Bd.notSynchronized, hn.1⟩, hh, hZ, findClass_of_methodNamed Bd.named, ⟨(State.WarmedH.refl s).since 0, State.WarmedH.refl s⟩, Nat.zero_le _, (fun x q => nomatch q), by rw [← hh] at hCH ⊢; exact CHr.refl hCH, hO, ⟨a0, hE⟩, hw, hO.1 ▸ hO.2.1, fun x q => ⟨(hsf x q).1, (hsf x q).2, Or.inl q⟩⟩
  refine ⟨U, o, ?_, r2, r3, r4⟩
  have ef : entryFrame m args ml = mkF m 0 (entryFrame m args ml).locals [] := rfl
  rw [ef]; exact r1
end B64
end Jvm.Own
namespace Jvm.Own
open Jvm Sem ClassFile Op Lib Jvm.Stand Jvm.Free Jvm.LawKit Jvm.RoadKit Bundle Jvm.Free.Fl
section Dbl
variable {l : Launch} {Z : State} {EL : List (String × Nat)} {own nm : String} {cd : ByteArray} {ml : Nat} {ret : Option FieldType} {R : Room} {ws : List Addr} {h0 : Heap} {K : Cx} {sf : List Addr} {T : State} {h h' : Heap} {cells slots : Nat} {P : Outcome → State → Prop} {pc pc' : Nat} {ls : Array Slot} {st : List Value} {a0 : Array Value}

theorem gDload (W : Wk l Z EL own nm cd ml ret R ws h0 K sf T h cells slots) {i : Nat} {v : UInt64} (hd : decode cd pc = .ok (.dload i, 2)) (hl : ls[i]? = some (.val (.double v))) (hp : pc + 2 = pc') (k : Go K P T pc' ls (.double v :: st)) : Go K P T pc ls st := by
  obtain ⟨vm0, locs, k0, X, e, hx, ⟨hc, -⟩, -⟩ := W
  subst hp
  exact Go.stp (fun t r => XS.dload X.here hx rfl (hb hc hd) hl r) k
theorem gDloadN (W : Wk l Z EL own nm cd ml ret R ws h0 K sf T h cells slots) {i : Fin 4} {v : UInt64} (hd : decode cd pc = .ok (.dload_n i, 1)) (hl : ls[i.val]? = some (.val (.double v))) (hp : pc + 1 = pc') (k : Go K P T pc' ls (.double v :: st)) : Go K P T pc ls st := by
  obtain ⟨vm0, locs, k0, X, e, hx, ⟨hc, -⟩, -⟩ := W
  subst hp
  exact Go.stp (fun t r => XS.dloadN X.here hx rfl (hb hc hd) hl r) k
theorem gDstore (W : Wk l Z EL own nm cd ml ret R ws h0 K sf T h cells slots) {i : Nat} {x : UInt64} {ls' : Array Slot} (hd : decode cd pc = .ok (.dstore i, 2)) (hl : storeLocals ls i (.double x) = some ls') (hp : pc + 2 = pc') (k : Go K P T pc' ls' st) : Go K P T pc ls (.double x :: st) := by
  obtain ⟨vm0, locs, k0, X, e, hx, ⟨hc, -⟩, -⟩ := W
  subst hp
  exact Go.stp (fun t r => XS.dstore X.here hx rfl (hb hc hd) rfl hl r) k
theorem gDstoreN (W : Wk l Z EL own nm cd ml ret R ws h0 K sf T h cells slots) {i : Fin 4} {x : UInt64} {ls' : Array Slot} (hd : decode cd pc = .ok (.dstore_n i, 1)) (hl : storeLocals ls i.val (.double x) = some ls') (hp : pc + 1 = pc') (k : Go K P T pc' ls' st) : Go K P T pc ls (.double x :: st) := by
  obtain ⟨vm0, locs, k0, X, e, hx, ⟨hc, -⟩, -⟩ := W
  subst hp
  exact Go.stp (fun t r => XS.dstoreN X.here hx rfl (hb hc hd) rfl hl r) k
theorem gDconst0 (W : Wk l Z EL own nm cd ml ret R ws h0 K sf T h cells slots) {z : UInt64} (hd : decode cd pc = .ok (.dconst 0, 1)) (hz : FP.dconst0 = z) (hp : pc + 1 = pc') (k : Go K P T pc' ls (.double z :: st)) : Go K P T pc ls st := by
  obtain ⟨vm0, locs, k0, X, e, hx, ⟨hc, -⟩, -⟩ := W
  subst hp
  exact Go.stp (fun t r => XS.dconst0 X.here hx rfl (hb hc hd) hz r) k
theorem gDconst1 (W : Wk l Z EL own nm cd ml ret R ws h0 K sf T h cells slots) {z : UInt64} (hd : decode cd pc = .ok (.dconst 1, 1)) (hz : FP.dconst1 = z) (hp : pc + 1 = pc') (k : Go K P T pc' ls (.double z :: st)) : Go K P T pc ls st := by
  obtain ⟨vm0, locs, k0, X, e, hx, ⟨hc, -⟩, -⟩ := W
  subst hp
  exact Go.stp (fun t r => XS.dconst1 X.here hx rfl (hb hc hd) hz r) k
theorem gI2D (W : Wk l Z EL own nm cd ml ret R ws h0 K sf T h cells slots) {x : Int32} {z : UInt64} (hd : decode cd pc = .ok (.i2d, 1)) (hz : FP.i2d x = z) (hp : pc + 1 = pc') (k : Go K P T pc' ls (.double z :: st)) : Go K P T pc ls (.int x :: st) := by
  obtain ⟨vm0, locs, k0, X, e, hx, ⟨hc, -⟩, -⟩ := W
  subst hp
  exact Go.stp (fun t r => XS.i2dS X.here hx rfl (hb hc hd) rfl hz r) k
theorem gL2D (W : Wk l Z EL own nm cd ml ret R ws h0 K sf T h cells slots) {x : Int64} {z : UInt64} (hd : decode cd pc = .ok (.l2d, 1)) (hz : FP.l2d x = z) (hp : pc + 1 = pc') (k : Go K P T pc' ls (.double z :: st)) : Go K P T pc ls (.long x :: st) := by
  obtain ⟨vm0, locs, k0, X, e, hx, ⟨hc, -⟩, -⟩ := W
  subst hp
  exact Go.stp (fun t r => XS.l2dS X.here hx rfl (hb hc hd) rfl hz r) k
theorem gDcmp (W : Wk l Z EL own nm cd ml ret R ws h0 K sf T h cells slots) {o : CmpOp} {x y : UInt64} {z : Int32} (hd : decode cd pc = .ok (.dcmp o, 1)) (hz : cmpValue (FP.dcmp x y) o = z) (hp : pc + 1 = pc') (k : Go K P T pc' ls (.int z :: st)) : Go K P T pc ls (.double y :: .double x :: st) := by
  obtain ⟨vm0, locs, k0, X, e, hx, ⟨hc, -⟩, -⟩ := W
  subst hp
  exact Go.stp (fun t r => XS.dcmpS X.here hx rfl (hb hc hd) rfl hz r) k
theorem gDadd (W : Wk l Z EL own nm cd ml ret R ws h0 K sf T h cells slots) {x y z : UInt64} (hd : decode cd pc = .ok (.dadd, 1)) (hz : FP.dadd x y = z) (hn : NoNaN64 z) (hp : pc + 1 = pc') (k : Go K P T pc' ls (.double z :: st)) : Go K P T pc ls (.double y :: .double x :: st) := by
  obtain ⟨vm0, locs, k0, X, e, hx, ⟨hc, -⟩, -⟩ := W
  subst hp
  exact Go.stp (fun t r => XS.daddS X.here hx rfl (hb hc hd) rfl (by rw [hz]; exact hn) hz r) k
theorem gDsub (W : Wk l Z EL own nm cd ml ret R ws h0 K sf T h cells slots) {x y z : UInt64} (hd : decode cd pc = .ok (.dsub, 1)) (hz : FP.dsub x y = z) (hn : NoNaN64 z) (hp : pc + 1 = pc') (k : Go K P T pc' ls (.double z :: st)) : Go K P T pc ls (.double y :: .double x :: st) := by
  obtain ⟨vm0, locs, k0, X, e, hx, ⟨hc, -⟩, -⟩ := W
  subst hp
  exact Go.stp (fun t r => XS.dsubS X.here hx rfl (hb hc hd) rfl (by rw [hz]; exact hn) hz r) k
theorem gDdiv (W : Wk l Z EL own nm cd ml ret R ws h0 K sf T h cells slots) {x y z : UInt64} (hd : decode cd pc = .ok (.ddiv, 1)) (hz : FP.ddiv x y = z) (hn : NoNaN64 z) (hp : pc + 1 = pc') (k : Go K P T pc' ls (.double z :: st)) : Go K P T pc ls (.double y :: .double x :: st) := by
  obtain ⟨vm0, locs, k0, X, e, hx, ⟨hc, -⟩, -⟩ := W
  subst hp
  exact Go.stp (fun t r => XS.ddivS X.here hx rfl (hb hc hd) rfl (by rw [hz]; exact hn) hz r) k
theorem wLdcD (W : Wk l Z EL own nm cd ml ret R ws h0 K sf T h cells slots) {index : Nat} {v : UInt64} (hd : decode cd pc = .ok (.ldc2_w index, 3)) (w : (Cond.constantDouble own index v).before a0 Z = true) (hp : pc + 3 = pc') (k : Go K P T pc' ls (.double v :: st)) : Go K P T pc ls st := by
  obtain ⟨vm0, locs, k0, X, e, hx, hc, e0, hZ, hown, r⟩ := W
  subst hp
  exact Go.stp (fun t q => X.ldc2DoubleC hx hown (mv (s := K.2.2.1.setVm vm0) hZ w) (g := mkF K.2.2.2.1 pc ls st) rfl (hb hc.1 hd) _ q) k
theorem wLdD (W : Wk l Z EL own nm cd ml ret R ws h0 K sf T h cells slots) (hd : decode cd pc = .ok (.daload, 1)) {a : Addr} {kA : ClassId} {z j : Int32} {vs : List Value} {v dv : Value} (A : Arv Z h a kA .double z vs dv) (hj : ¬ j < 0 ∧ j < z) (hv : vs.getD j.toNatClampNeg dv = v) (hp : pc + 1 = pc')
    (k : Go K P T pc' ls (v :: st)) : Go K P T pc ls (.int j :: .ref a :: st) := by
  obtain ⟨vm0, locs, k0, X, e, hx, hc, e0, hZ, r⟩ := W
  subst hp
  obtain ⟨cl, A1, A2, A3, A4, A5, -⟩ := A
  exact Go.stp (fun t q => X.daload hx (by rw [e]; exact A1.1) (State.isArrayOf_alike hZ.alike A1.2.1) A1.2.2 (inb_of A3 hj) (A5.at (inb_of A3 hj) hv) (g := mkF K.2.2.2.1 pc ls (.int j :: .ref a :: st)) rfl rfl (hb hc.1 hd) _ q) k
theorem wStD (W : Wk l Z EL own nm cd ml ret R ws h0 K sf T h cells slots) (hd : decode cd pc = .ok (.dastore, 1)) {a : Addr} (ha : a ∈ sf) {kA : ClassId} {z j : Int32} {x : UInt64} {vs : List Value} {dv : Value} (A : Arv Z h a kA .double z vs dv) (hj : ¬ j < 0 ∧ j < z) (i : Nat) (hi : j.toNatClampNeg = i) (hil : i < vs.length) (hp : pc + 1 = pc')
    (k : ∀ T' h', Wk l Z EL own nm cd ml ret R ws h0 K sf T' h' cells slots → Wr h h' a j.toNatClampNeg (.double x) → Arv Z h' a kA .double z (vs.set i (.double x)) dv → Go K P T' pc' ls st) : Go K P T pc ls (.double x :: .int j :: .ref a :: st) := by
  obtain ⟨vm0, locs, k0, X, e, hx, hc, e0, hZ, hown, hS, hk, hL, hC, hO, hE, hw, hz, hs⟩ := W
  subst hp
  obtain ⟨cl, A1, A2, A3, A4, A5, A6⟩ := A
  obtain ⟨T', h', X', e', Wr', f⟩ := stD X hx hZ e A1 (inb_of A3 hj) (g := mkF K.2.2.2.1 pc ls (.double x :: .int j :: .ref a :: st)) rfl rfl (hb hc.1 hd)
  obtain ⟨hC', hs', hL', hO'⟩ := wWr (s := K.2.2.1) hC hs hL hO hw hz ha Wr'
  exact Go.stp f (k T' h' ⟨vm0, _, k0, X', e', hx, hc, e0, hZ, hown, hS, by rw [Wr'.size]; exact hk, hL', hC', hO', hE, hw, hz, hs'⟩ Wr' (Arv.set A1 A2 A3 A4 A5 A6 rfl Wr' i hi hil))
theorem wRetD {z : UInt64} {kc ks : Nat} {Q : Option Value → Heap → List Addr → Prop} {so : List Addr} (W : Wk l Z EL own nm cd ml (some .double) R ws h0 K sf T h cells slots) (hd : decode cd pc = .ok (.dreturn, 1)) (hk : cells ≤ kc) (hn : slots ≤ ks) (hso : ∀ x ∈ so, x ∈ sf ∧ h0.size ≤ x) (q : Q (some (.double z)) h so) : Go K (Pst Z EL ws K.2.2.1 kc ks Q) T pc ls (.double z :: st) :=
  wEnd W (fun q => nomatch q) hk hn hso q fun vm0 locs fs X hx hc hr f => retOut X hx hr rfl (Or.inr (Or.inr (Or.inl ⟨rfl, rfl, z, rfl⟩))) (hb hc hd) f
theorem wNat (W : Wk l Z EL own nm cd ml ret R ws h0 K sf T h cells slots) {y : MethodName} {index : Nat} (hd : decode cd pc = .ok (.invokestatic index, 3)) (w1 : (Cond.methodLink own index y).before a0 Z = true) (w2 : (Cond.static y).before a0 Z = true) (w3 : (Cond.initialized y.cls).before a0 Z = true) {by0 : ByteArray} {mlc : Nat} {rt : Option FieldType} (w4 : (Cond.code y by0 mlc rt).before a0 Z = true) (hy : y.cls ≠ "java/lang/invoke/MethodHandle" ∧ y.cls ≠ "java/lang/invoke/VarHandle")
    {Wd : Nat} {F : Array Value → Prop} {val val' : Value} (hK : ∀ vm0, (Cond.code y by0 mlc rt).before K.2.2.2.2.1 (K.2.2.1.setVm vm0) = true → Back l R K.1 K.2.1 K.2.2.2.2.2.1 (K.2.2.1.setVm vm0) K.2.2.2.2.1 y 3 Wd (fun A a' => A.cells ≤ R.cells ∧ A.slots ≤ R.slots ∧ F a') (fun A _ v B => v = some val ∧ B = A))
    {argsL rest : List Value} (hsz : ls.size = ml) (hlen : ∀ sig, parseMethodDescriptor y.desc = some sig → argsL.length = sig.parameters.length) (hst : st = argsL.reverse ++ rest) (hW : (rest.map fun v => v.category).sum ≤ Wd) (hc' : cells ≤ R.cells) (hl' : slots ≤ R.slots) (hF : F argsL.toArray) (hv : val = val') (hp : pc + 3 = pc')
    (k : ∀ T', Wk l Z EL own nm cd ml ret R ws h0 K sf T' h cells slots → Go K P T' pc' ls (val' :: rest)) : Go K P T pc ls st := by
  obtain ⟨vm0, locs, k0, X, e, hx, hc, e0, hZ, r1⟩ := W
  subst hp
  obtain ⟨T', X', e', f⟩ := natS X hx hZ r1.1 w1 w2 w3 w4 hy e (hK vm0) (g := mkF K.2.2.2.1 pc ls st) rfl (hsz.trans hc.2.1.symm) hlen hst (by show 2 * 0 + _ ≤ _; omega) (hb hc.1 hd) hc' hl' hF hv
  exact Go.stp f (k T' ⟨vm0, locs, k0, X', e', hx, hc, e0, hZ, r1⟩)
end Dbl
section DI
open Jvm.FP
def dI (n : Nat) : UInt64 := FP.i2d (Int32.ofNat n)
theorem dI_fin (n : Nat) : Fin64 (dI n) := i2d_fin _
theorem nn_dI (n : Nat) : NoNaN64 (dI n) := (dI_fin n).noNaN
theorem dadd_t : ∀ m, m < 33 → ∀ n, n < 33 → m + n < 33 → FP.dadd (dI m) (dI n) = dI (m + n) := by decide +kernel
theorem dsub_t : ∀ m, m < 33 → ∀ n, n < 33 → n ≤ m → FP.dsub (dI m) (dI n) = dI (m - n) := by decide +kernel
theorem dadd_dI {m n s : Nat} (h : m + n = s) (hs : s ≤ 32) : FP.dadd (dI m) (dI n) = dI s := by
  subst h; exact dadd_t m (by omega) n (by omega) (by omega)
theorem dsub_dI {m n s : Nat} (h : s + n = m) (hs : m ≤ 32) : FP.dsub (dI m) (dI n) = dI s := by
  subst h; rw [dsub_t (s + n) (by omega) n (by omega) (by omega), Nat.add_sub_cancel]
theorem dz : FP.dconst0 = dI 0 := by decide +kernel
theorem dpos_t : ∀ n, n < 33 → 1 ≤ n → cmpValue (FP.dcmp (dI n) (dI 0)) .l = 1 := by decide +kernel
theorem dpos {n : Nat} (h1 : 1 ≤ n) (h2 : n ≤ 32) : cmpValue (FP.dcmp (dI n) (dI 0)) .l = 1 := dpos_t n (by omega) h1
theorem dfin {n : Nat} : cmpValue (FP.dcmp (dI n) 9218868437227405312) .g = -1 := dcmp_pinf (dI_fin n) .g
theorem dabs_t : ∀ n, n < 33 → dI n &&& 0x7fffffffffffffff = dI n := by decide +kernel
theorem dabs_dI {n : Nat} (h : n ≤ 32) : Value.double (dI n &&& 0x7fffffffffffffff) = .double (dI n) := by rw [dabs_t n (by omega)]
theorem dmax_t : ∀ n, n < 33 → cmpValue (FP.dcmp (dI n) 9218868437227405311) .g = -1 := by decide +kernel
theorem dmax_dI {n : Nat} (h : n ≤ 32) : cmpValue (FP.dcmp (dI n) 9218868437227405311) .g = -1 := dmax_t n (by omega)
theorem nz_dI : ∀ n, n < 33 → 1 ≤ n → Nz64 (dI n) := by unfold Nz64; decide +kernel
theorem nn_div {m n : Nat} (h1 : 1 ≤ n) (h2 : n ≤ 32) : NoNaN64 (FP.ddiv (dI m) (dI n)) := ddiv_out (nn_dI m) (dI_fin n) (nz_dI n (by omega) h1)
theorem nz_i2d {c : Int32} (h : c ≠ 0) : Nz64 (FP.i2d c) := (nz64_iff _).mpr (Core.i2d_ne_zero h)
theorem nn_quo {s c : Int32} (h : c ≠ 0) : NoNaN64 (FP.ddiv (FP.i2d s) (FP.i2d c)) := ddiv_out (i2d_fin s).noNaN (i2d_fin c) (nz_i2d h)
theorem nn_quoL {s : Int64} {c : Int32} (h : c ≠ 0) : NoNaN64 (FP.ddiv (FP.l2d s) (FP.i2d c)) := ddiv_out (l2d_fin s).noNaN (i2d_fin c) (nz_i2d h)
theorem nn_zero : NoNaN64 0 := by unfold NoNaN64; decide
theorem nn_one : NoNaN64 FP.dconst1 := by unfold NoNaN64; decide
end DI
end Jvm.Own

namespace Jvm.Pilot.@@N@@
open Jvm Jvm.ClassFile Sem Op Lib Jvm.Free Jvm.Stand Jvm.LawKit Jvm.RoadKit Bundle Jvm.Own Jvm.Pilot.@@N@@.Jvm.D
theorem ofNat_toInt {i : Nat} (h : i < 2 ^ 31) : (Int32.ofNat i).toInt = i := Int32.toInt_ofNat_small h
theorem ofNat_nn {i : Nat} (h : i < 2 ^ 31) : ¬ Int32.ofNat i < 0 := by
  rw [lt_i, ofNat_toInt h]; have : (0 : Int32).toInt = 0 := by decide
  omega
theorem ofNat_lt {i j : Nat} (hi : i < 2 ^ 31) (hj : j < 2 ^ 31) : Int32.ofNat i < Int32.ofNat j ↔ i < j := by rw [lt_i, ofNat_toInt hi, ofNat_toInt hj]; omega
theorem lt_big {n : Nat} (h : n ≤ 4000) : Int32.ofNat n < 1073741823 := by
  rw [lt_i, ofNat_toInt (by omega)]
  have q : (1073741823 : Int32).toInt = 1073741823 := by decide
  omega
theorem ofNat_ne0 {n : Nat} (h0 : 0 < n) (h : n ≤ 4000) : ¬ Int32.ofNat n = 0 := fun e => by
  have q := congrArg Int32.toInt e
  rw [ofNat_toInt (by omega)] at q
  have z : (0 : Int32).toInt = 0 := by decide
  omega
theorem ofNat_clamp {i : Nat} (h : i < 2 ^ 31) : (Int32.ofNat i).toNatClampNeg = i := by rw [Int32.toNatClampNeg, ofNat_toInt h]; omega
theorem ofNat_succ {i : Nat} (h : i + 1 < 2 ^ 31) : Int32.ofNat i + Int32.ofInt 1 = Int32.ofNat (i + 1) := by
  apply Int32.toInt_inj.mp
  have q := c_iadd (Int32.ofNat i) (Int32.ofInt 1)
  have r := rng32 (Int32.ofNat i + Int32.ofInt 1)
  have e : (Int32.ofInt 1).toInt = 1 := by decide
  rw [ofNat_toInt (by omega), e] at q
  rw [ofNat_toInt h]; omega
theorem ofNat_inb {i n : Nat} (h : i < n) (hn : n < 2 ^ 31) : ¬ Int32.ofNat i < 0 ∧ Int32.ofNat i < Int32.ofNat n := ⟨ofNat_nn (by omega), (ofNat_lt (by omega) hn).mpr h⟩
theorem shl1 {i : Nat} (h : 2 * i < 2 ^ 31) : Int32.ofNat i <<< ((1 : Int32) &&& 31) = Int32.ofNat (2 * i) := by
  apply Int32.toInt_inj.mp
  have q := c_ishl (Int32.ofNat i) 1 1 (by decide)
  have r := rng32 (Int32.ofNat i <<< ((1 : Int32) &&& 31))
  rw [ofNat_toInt (by omega)] at q
  rw [ofNat_toInt h]; omega
theorem coder1 {n : Nat} (h0 : 0 < n) (hn : n ≤ 4000) {d q : Int32} (e : Int32.ofNat n - Int32.ofNat (2 * n) = d) (e2 : (d.toUInt32 >>> ((31 : Int32) &&& 31).toUInt32).toInt32 = q) : q.toInt8.toInt32 = 1 := by
  subst e
  have s := c_isub (Int32.ofNat n) (Int32.ofNat (2 * n))
  have r := rng32 (Int32.ofNat n - Int32.ofNat (2 * n))
  rw [ofNat_toInt (by omega), ofNat_toInt (by omega)] at s
  have u := c_iushr (Int32.ofNat n - Int32.ofNat (2 * n)) 31 31 (by decide) (by decide)
  rw [e2] at u
  have hq : q.toInt = 1 := by rw [u]; simp only [Nat.reducePow]; omega
  have : q = 1 := i32_of 1 (by decide) hq
  rw [this]; decide
theorem set_get {vs : List Value} {i j : Nat} {v d : Value} : (vs.set i v).getD j d = if i = j ∧ i < vs.length then v else vs.getD j d := by
  simp only [List.getD_eq_getElem?_getD, List.getElem?_set]
  by_cases h : i = j
  · subst h; by_cases h2 : i < vs.length <;> simp [h2]
  · simp [h]
theorem map_getD (cs : List Int32) (i : Nat) (h : i < cs.length) (d : Value) : (cs.map Value.int).getD i d = .int (cs.getD i 0) := by
  simp [List.getD_eq_getElem?_getD, h]
theorem rep_get {n : Nat} (j : Nat) : (List.replicate n (Value.int 0)).getD j (.int 0) = .int 0 := by
  by_cases h : j < n <;> simp [List.getD_eq_getElem?_getD, h]

open Jvm.Free.Fl Jvm.FP Jvm.Native.java_lang_Math.nans
theorem and3 (p : Int32) : p &&& 3 = 0 ∨ p &&& 3 = 1 ∨ p &&& 3 = 2 ∨ p &&& 3 = 3 := by
  have q := c_mask p 3 2 (by decide) (by decide)
  have h : (p &&& 3).toInt = 0 ∨ (p &&& 3).toInt = 1 ∨ (p &&& 3).toInt = 2 ∨ (p &&& 3).toInt = 3 := by omega
  rcases h with h | h | h | h
  · exact Or.inl (Int32.toInt_inj.mp h)
  · exact Or.inr (Or.inl (Int32.toInt_inj.mp h))
  · exact Or.inr (Or.inr (Or.inl (Int32.toInt_inj.mp h)))
  · exact Or.inr (Or.inr (Or.inr (Int32.toInt_inj.mp h)))
theorem wgt {x v w : Int32} (e1 : x &&& 7 = v) (e2 : v + 1 = w) : ∃ n, 1 ≤ n ∧ n ≤ 8 ∧ FP.i2d w = dI n := by
  subst e1 e2
  have q := c_mask x 7 3 (by decide) (by decide)
  refine ⟨(x.toInt % 8).toNat + 1, by omega, by omega, ?_⟩
  unfold dI; congr 1
  apply Int32.toInt_inj.mp
  rw [ofNat_toInt (by omega), Int32.toInt_add, q, show (1 : Int32).toInt = 1 from by decide, Int.bmod_def]; simp only [Nat.reducePow]; split <;> omega
def minL (a b : Int64) : Int64 := if b < a then b else a
theorem ne0 {c : Int32} (h : 0 < c.toInt) : c ≠ 0 := fun q => by rw [q] at h; exact absurd h (by decide)
theorem prodL {c d : Int32} (hc : 0 < c.toInt) (hd : 0 < d.toInt) : (d.toInt64 * c.toInt64).toInt = d.toInt * c.toInt ∧ 0 < d.toInt * c.toInt ∧ d.toInt * c.toInt < 4611686018427387904 := by
  have h1 := Int32.toInt_lt c
  have h2 := Int32.toInt_lt d
  have hp : 0 < d.toInt * c.toInt := Int.mul_pos hd hc
  have hq : d.toInt * c.toInt < 4611686018427387904 := by
    have h3 : d.toInt * c.toInt ≤ 2147483647 * c.toInt := Int.mul_le_mul_of_nonneg_right (by omega) (by omega)
    omega
  refine ⟨?_, hp, hq⟩
  rw [Int64.toInt_mul, Int32.toInt_toInt64, Int32.toInt_toInt64, Int.bmod_def]; simp only [Nat.reducePow]; split <;> omega
theorem ceilT {x n : Int64} {k : Int} (hn : n.toInt = k) (hk : k = 1 ∨ k = 2 ∨ k = 3 ∨ k = 4) (h0 : 0 < x.toInt) (h1 : x.toInt < 4611686018427387904) :
    ((x + n - 1) / n).toInt = (x.toInt + k - 1) / k ∧ (x / n).toInt = x.toInt / k ∧ (x / n * n).toInt = x.toInt / k * k ∧ (x / n + 1).toInt = x.toInt / k + 1 := by
  have e1 : (1 : Int64).toInt = 1 := by decide
  have a1 : (x + n).toInt = x.toInt + k := by rw [Int64.toInt_add, hn, Int.bmod_def]; simp only [Nat.reducePow]; split <;> omega
  have a2 : (x + n - 1).toInt = x.toInt + k - 1 := by rw [Int64.toInt_sub, a1, e1, Int.bmod_def]; simp only [Nat.reducePow]; split <;> omega
  have d1 : (x / n).toInt = x.toInt / k := by
    rw [Int64.toInt_div, hn, Int.tdiv_eq_ediv_of_nonneg (by omega), Int.bmod_def]; simp only [Nat.reducePow]
    rcases hk with rfl | rfl | rfl | rfl <;> split <;> omega
  have d2 : ((x + n - 1) / n).toInt = (x.toInt + k - 1) / k := by
    rw [Int64.toInt_div, a2, hn, Int.tdiv_eq_ediv_of_nonneg (by omega), Int.bmod_def]; simp only [Nat.reducePow]
    rcases hk with rfl | rfl | rfl | rfl <;> split <;> omega
  refine ⟨d2, d1, ?_, ?_⟩
  · rw [Int64.toInt_mul, d1, hn, Int.bmod_def]; simp only [Nat.reducePow]
    rcases hk with rfl | rfl | rfl | rfl <;> split <;> omega
  · rw [Int64.toInt_add, d1, e1, Int.bmod_def]; simp only [Nat.reducePow]
    rcases hk with rfl | rfl | rfl | rfl <;> split <;> omega
theorem i2d_min {c : Int32} {q : Int64} (hc : 0 < c.toInt) (hq : 0 ≤ q.toInt) : FP.i2d (minL c.toInt64 q).toInt32 = FP.l2d (minL c.toInt64 q) := by
  have h : 0 ≤ (minL c.toInt64 q).toInt ∧ (minL c.toInt64 q).toInt < 2147483648 := by
    have hl := Int32.toInt_lt c
    have e := Int32.toInt_toInt64 c
    unfold minL; split
    · next h => have := Int64.lt_iff_toInt_lt.mp h; omega
    · omega
  rw [i2d_w]; congr 1
  apply Int64.toInt_inj.mp
  rw [Int32.toInt_toInt64, Int64.toInt_toInt32, Int.bmod_def]; simp only [Nat.reducePow]; split <;> omega
theorem spanT {c d : Int32} {n : Int64} {k : Int} (hn : n.toInt = k) (hk : k = 1 ∨ k = 2 ∨ k = 3 ∨ k = 4) (hc : 0 < c.toInt) (hd : 0 < d.toInt) (hq : d.toInt64 * c.toInt64 / n * n = d.toInt64 * c.toInt64) :
    FP.i2d (minL c.toInt64 ((d.toInt64 * c.toInt64 + n - 1) / n)).toInt32 = FP.l2d (minL c.toInt64 (d.toInt64 * c.toInt64 / n)) := by
  obtain ⟨e, h0, h1⟩ := prodL hc hd
  obtain ⟨r1, r2, r3, r4⟩ := ceilT (x := d.toInt64 * c.toInt64) hn hk (by omega) (by omega)
  have q := congrArg Int64.toInt hq
  have E : (d.toInt64 * c.toInt64 + n - 1) / n = d.toInt64 * c.toInt64 / n := by
    apply Int64.toInt_inj.mp
    rw [r1, r2]; rw [r3] at q
    rcases hk with rfl | rfl | rfl | rfl <;> omega
  rw [E, i2d_min hc (by rw [r2]; rcases hk with rfl | rfl | rfl | rfl <;> omega)]
theorem spanF {c d : Int32} {n : Int64} {k : Int} (hn : n.toInt = k) (hk : k = 1 ∨ k = 2 ∨ k = 3 ∨ k = 4) (hc : 0 < c.toInt) (hd : 0 < d.toInt) (hq : ¬ d.toInt64 * c.toInt64 / n * n = d.toInt64 * c.toInt64) :
    FP.i2d (minL c.toInt64 ((d.toInt64 * c.toInt64 + n - 1) / n)).toInt32 = FP.l2d (minL c.toInt64 (d.toInt64 * c.toInt64 / n + 1)) := by
  obtain ⟨e, h0, h1⟩ := prodL hc hd
  obtain ⟨r1, r2, r3, r4⟩ := ceilT (x := d.toInt64 * c.toInt64) hn hk (by omega) (by omega)
  have q : ¬ (d.toInt64 * c.toInt64 / n * n).toInt = (d.toInt64 * c.toInt64).toInt := fun z => hq (Int64.toInt_inj.mp z)
  have E : (d.toInt64 * c.toInt64 + n - 1) / n = d.toInt64 * c.toInt64 / n + 1 := by
    apply Int64.toInt_inj.mp
    rw [r1, r4]; rw [r3] at q
    rcases hk with rfl | rfl | rfl | rfl <;> omega
  rw [E, i2d_min hc (by rw [r4]; rcases hk with rfl | rfl | rfl | rfl <;> omega)]
theorem d5_0 : decode jdk_29_method_70_code 0 = .ok (.lload_n 0, 1) := by decide +kernel
theorem d5_1 : decode jdk_29_method_70_code 1 = .ok (.lload_n 2, 1) := by decide +kernel
theorem d5_2 : decode jdk_29_method_70_code 2 = .ok (.lcmp, 1) := by decide +kernel
theorem d5_3 : decode jdk_29_method_70_code 3 = .ok (.ifCond .gt 7, 3) := by decide +kernel
theorem d5_10 : decode jdk_29_method_70_code 10 = .ok (.lload_n 2, 1) := by decide +kernel
theorem d5_11 : decode jdk_29_method_70_code 11 = .ok (.lreturn, 1) := by decide +kernel
theorem d5_6 : decode jdk_29_method_70_code 6 = .ok (.lload_n 0, 1) := by decide +kernel
theorem d5_7 : decode jdk_29_method_70_code 7 = .ok (.goto 4, 3) := by decide +kernel
theorem oef_ob_mnJ (m_ : MethodId) (a : Int64) (b : Int64)  : (entryFrame m_ #[(.long a), (.long b)] 4).locals = #[.val (.long a), .second, .val (.long b), .second] := by first | (simp [entryFrame, argsToLocals, Value.category]; done) | rfl
set_option maxRecDepth 65536 in
set_option maxHeartbeats 40000000 in
theorem ob_mnJ (l : Launch) (Z : State) (a0 : Array Value) (hw : ∀ d ∈ tables_1, d.before a0 Z = true) (hE : EW Z a0 ([] : List (String × Nat))) (a : Int64) (b : Int64) (h : Heap) (hO : Old Z Z.heap.size h)   :
    Ct l Z ([] : List (String × Nat)) (⟨"java/lang/Math", "min", "(JJ)J"⟩ : MethodName) jdk_29_method_70_code 4 (Option.some Jvm.ClassFile.FieldType.long) ⟨0, 0, 0, 0⟩ #[(.long a), (.long b)] h [] (fun rv' hp' so' => rv' = some (.long (minL a b)) ∧ so' = []) := by
  refine Ct.mk "java/lang/Math" "min" rfl rfl (a0 := a0) (by decide +kernel) hO hE (fun x q => nomatch q) ?_
  intro K T W
  rw [oef_ob_mnJ]
  refine gLloadN W d5_0 rfl rfl ?_
  refine gLloadN W d5_1 rfl rfl ?_
  refine gLcmp (z := (lcmpW a b)) W d5_2 rfl rfl ?_
  by_cases c : b < a
  · refine gIfYes (pc' := 10) W d5_3 ((if0 _ _).trans (tlt ((lw_gt _ _).mpr c)).2.2.1) (by decide) rfl ?_
    refine gLloadN W d5_10 rfl rfl ?_
    refine Go.top (show Value.long b = Value.long (minL a b) from by rw [minL, if_pos c]) ?_
    exact wRetL (so := []) W d5_11 (by decide) (by decide) (fun _ q => nomatch q) ⟨rfl, rfl⟩
  · refine gIfNo W d5_3 ((if0 _ _).trans (flt (fun q => c ((lw_gt _ _).mp q))).2.2.1) rfl ?_
    refine gLloadN W d5_6 rfl rfl ?_
    refine gGoto (pc' := 11) W d5_7 (by decide) rfl ?_
    refine Go.top (show Value.long a = Value.long (minL a b) from by rw [minL, if_neg c]) ?_
    exact wRetL (so := []) W d5_11 (by decide) (by decide) (fun _ q => nomatch q) ⟨rfl, rfl⟩
theorem d2_0 : decode jdk_29_method_65_code 0 = .ok (.iload_n 0, 1) := by decide +kernel
theorem d2_1 : decode jdk_29_method_65_code 1 = .ok (.iload_n 1, 1) := by decide +kernel
theorem d2_2 : decode jdk_29_method_65_code 2 = .ok (.if_icmp .lt 7, 3) := by decide +kernel
theorem d2_9 : decode jdk_29_method_65_code 9 = .ok (.iload_n 1, 1) := by decide +kernel
theorem d2_10 : decode jdk_29_method_65_code 10 = .ok (.ireturn, 1) := by decide +kernel
theorem d2_5 : decode jdk_29_method_65_code 5 = .ok (.iload_n 0, 1) := by decide +kernel
theorem d2_6 : decode jdk_29_method_65_code 6 = .ok (.goto 4, 3) := by decide +kernel
theorem oef_ob_mxI (m_ : MethodId) (x : Int32)  : (entryFrame m_ #[(.int (1 : Int32)), (.int x)] 2).locals = #[.val (.int (1 : Int32)), .val (.int x)] := by first | (simp [entryFrame, argsToLocals, Value.category]; done) | rfl
set_option maxRecDepth 65536 in
set_option maxHeartbeats 40000000 in
theorem ob_mxI (l : Launch) (Z : State) (a0 : Array Value) (hw : ∀ d ∈ tables_1, d.before a0 Z = true) (hE : EW Z a0 ([] : List (String × Nat))) (x : Int32) (h : Heap) (hO : Old Z Z.heap.size h)   :
    Ct l Z ([] : List (String × Nat)) (⟨"java/lang/Math", "max", "(II)I"⟩ : MethodName) jdk_29_method_65_code 2 (Option.some Jvm.ClassFile.FieldType.int) ⟨0, 0, 0, 0⟩ #[(.int (1 : Int32)), (.int x)] h [] (fun rv' hp' so' => ∃ c : Int32, rv' = some (.int c) ∧ so' = [] ∧ (0 < c.toInt)) := by
  refine Ct.mk "java/lang/Math" "max" rfl rfl (a0 := a0) (by decide +kernel) hO hE (fun x q => nomatch q) ?_
  intro K T W
  rw [oef_ob_mxI]
  refine gIloadN W d2_0 rfl rfl ?_
  refine gIloadN W d2_1 rfl rfl ?_
  by_cases c : (1 : Int32) < x
  · refine gIcmpYes (pc' := 9) W d2_2 (tlt c).1 (by decide) rfl ?_
    refine gIloadN W d2_9 rfl rfl ?_
    exact wRetI (so := []) (t := .int) W d2_10 (by simp) rfl (by decide) (by decide) (fun _ q => nomatch q) ⟨x, rfl, rfl, (by have := Int32.lt_iff_toInt_lt.mp c; have e : (1 : Int32).toInt = 1 := (by decide); omega)⟩
  · refine gIcmpNo W d2_2 (flt c).1 rfl ?_
    refine gIloadN W d2_5 rfl rfl ?_
    refine gGoto (pc' := 10) W d2_6 (by decide) rfl ?_
    exact wRetI (so := []) (t := .int) W d2_10 (by simp) rfl (by decide) (by decide) (fun _ q => nomatch q) ⟨1, rfl, rfl, (by decide)⟩
theorem opn0 : plainName "java/lang/Double" = true := by first | (simp [plainName, overriddenIn]; done) | decide +kernel
theorem d7_0 : decode jdk_117_method_8_code 0 = .ok (.dload_n 0, 1) := by decide +kernel
theorem d7_1 : decode jdk_117_method_8_code 1 = .ok (.invokestatic 38, 3) := by decide +kernel
theorem ow34 {a0 : Array Value} {Z : State} (hw : ∀ d ∈ tables_1, d.before a0 Z = true) : (Jvm.Cond.methodLink "java/lang/Double" (38 : Nat) ({ cls := "java/lang/Math", name := "abs", desc := "(D)D" } : Jvm.MethodName)).before a0 Z = true := hw _ (List.mem_of_getElem? (i := 34) rfl)
theorem ow35 {a0 : Array Value} {Z : State} (hw : ∀ d ∈ tables_1, d.before a0 Z = true) : (Jvm.Cond.static ({ cls := "java/lang/Math", name := "abs", desc := "(D)D" } : Jvm.MethodName)).before a0 Z = true := hw _ (List.mem_of_getElem? (i := 35) rfl)
theorem ow8 {a0 : Array Value} {Z : State} (hw : ∀ d ∈ tables_1, d.before a0 Z = true) : (Jvm.Cond.initialized "java/lang/Math").before a0 Z = true := hw _ (List.mem_of_getElem? (i := 8) rfl)
theorem ow36 {a0 : Array Value} {Z : State} (hw : ∀ d ∈ tables_1, d.before a0 Z = true) : (Jvm.Cond.code ({ cls := "java/lang/Math", name := "abs", desc := "(D)D" } : Jvm.MethodName) jdk_29_method_64_code (2 : Nat) (Option.some Jvm.ClassFile.FieldType.double)).before a0 Z = true := hw _ (List.mem_of_getElem? (i := 36) rfl)
theorem opd0 : parseMethodDescriptor "(D)D" = some ⟨[.double], some (.double)⟩ := by decide +kernel
theorem d7_4 : decode jdk_117_method_8_code 4 = .ok (.ldc2_w 111, 3) := by decide +kernel
theorem ow37 {a0 : Array Value} {Z : State} (hw : ∀ d ∈ tables_1, d.before a0 Z = true) : (Jvm.Cond.constantDouble "java/lang/Double" (111 : Nat) (9218868437227405311 : UInt64)).before a0 Z = true := hw _ (List.mem_of_getElem? (i := 37) rfl)
theorem d7_7 : decode jdk_117_method_8_code 7 = .ok (.dcmp .g, 1) := by decide +kernel
theorem d7_8 : decode jdk_117_method_8_code 8 = .ok (.ifCond .gt 7, 3) := by decide +kernel
theorem d7_11 : decode jdk_117_method_8_code 11 = .ok (.iconst 1, 1) := by decide +kernel
theorem d7_12 : decode jdk_117_method_8_code 12 = .ok (.goto 4, 3) := by decide +kernel
theorem d7_16 : decode jdk_117_method_8_code 16 = .ok (.ireturn, 1) := by decide +kernel
theorem oef_ob_fi (m_ : MethodId) (y0_ : UInt64)  : (entryFrame m_ #[(.double y0_)] 2).locals = #[.val (.double y0_), .second] := by first | (simp [entryFrame, argsToLocals, Value.category]; done) | rfl
set_option maxRecDepth 65536 in
set_option maxHeartbeats 40000000 in
theorem ob_fi (l : Launch) (Z : State) (a0 : Array Value) (hw : ∀ d ∈ tables_1, d.before a0 Z = true) (hE : EW Z a0 ([] : List (String × Nat))) (s : Nat) (h : Heap) (hO : Old Z Z.heap.size h) (hs : (s ≤ 32))  :
    Ct l Z ([] : List (String × Nat)) (⟨"java/lang/Double", "isFinite", "(D)Z"⟩ : MethodName) jdk_117_method_8_code 2 (Option.some Jvm.ClassFile.FieldType.boolean) ⟨1, 0, 0, 16⟩ #[(.double (dI s))] h [] (fun rv' hp' so' => rv' = some (.int (1 : Int32)) ∧ so' = []) := by
  refine Ct.mk "java/lang/Double" "isFinite" rfl rfl (a0 := a0) (plainFor_of_name opn0) hO hE (fun x q => nomatch q) ?_
  intro K T W
  rw [oef_ob_fi]
  refine gDloadN W d7_0 rfl rfl ?_
  refine wNat (y := (⟨"java/lang/Math", "abs", "(D)D"⟩ : MethodName)) (Wd := 0) (argsL := [(.double (dI s))]) (rest := []) (val' := (.double (dI s))) W d7_1 (ow34 hw) (ow35 hw) (ow8 hw) (ow36 hw) (by decide) (fun _ hc => Jvm.Free.Fl.Abs.absD_pays (l := l) (dI s) (by exact hc) (by decide) (by decide)) rfl (lenOf opd0 rfl) rfl (Nat.le_of_eq rfl) (by decide) (by decide) ⟨rfl, nn_dI _⟩ (dabs_dI hs) rfl fun T1 W2 => ?_
  refine wLdcD (v := 9218868437227405311) W2 d7_4 (ow37 hw) rfl ?_
  refine gDcmp (z := (-1 : Int32)) W2 d7_7 (dmax_dI hs) rfl ?_
  refine gIfNo W2 d7_8 ((if0 _ _).trans (flt (by decide)).2.2.1) rfl ?_
  refine gIconst (z := (1 : Int32)) W2 d7_11 rfl rfl ?_
  refine gGoto (pc' := 16) W2 d7_12 (by decide) rfl ?_
  exact wRetI (so := []) (t := .boolean) W2 d7_16 (by simp) rfl (by decide) (by decide) (fun _ q => nomatch q) ⟨rfl, rfl⟩
theorem opn1 : plainName "com/example/hasset/hasset/algorithm/ApertureWidthPinLaw" = true := by first | (simp [plainName, overriddenIn]; done) | decide +kernel
theorem d1_0 : decode method_2_code 0 = .ok (.iload_n 1, 1) := by decide +kernel
theorem d1_1 : decode method_2_code 1 = .ok (.bipush 7, 2) := by decide +kernel
theorem d1_3 : decode method_2_code 3 = .ok (.iand, 1) := by decide +kernel
theorem d1_4 : decode method_2_code 4 = .ok (.iconst 1, 1) := by decide +kernel
theorem d1_5 : decode method_2_code 5 = .ok (.iadd, 1) := by decide +kernel
theorem d1_6 : decode method_2_code 6 = .ok (.i2d, 1) := by decide +kernel
theorem d1_7 : decode method_2_code 7 = .ok (.dstore_n 2, 1) := by decide +kernel
theorem d1_8 : decode method_2_code 8 = .ok (.iload_n 1, 1) := by decide +kernel
theorem d1_9 : decode method_2_code 9 = .ok (.iconst 3, 1) := by decide +kernel
theorem d1_10 : decode method_2_code 10 = .ok (.iushr, 1) := by decide +kernel
theorem d1_11 : decode method_2_code 11 = .ok (.bipush 7, 2) := by decide +kernel
theorem d1_13 : decode method_2_code 13 = .ok (.iand, 1) := by decide +kernel
theorem d1_14 : decode method_2_code 14 = .ok (.iconst 1, 1) := by decide +kernel
theorem d1_15 : decode method_2_code 15 = .ok (.iadd, 1) := by decide +kernel
theorem d1_16 : decode method_2_code 16 = .ok (.i2d, 1) := by decide +kernel
theorem d1_17 : decode method_2_code 17 = .ok (.dstore 4, 2) := by decide +kernel
theorem d1_19 : decode method_2_code 19 = .ok (.iload_n 1, 1) := by decide +kernel
theorem d1_20 : decode method_2_code 20 = .ok (.bipush 6, 2) := by decide +kernel
theorem d1_22 : decode method_2_code 22 = .ok (.iushr, 1) := by decide +kernel
theorem d1_23 : decode method_2_code 23 = .ok (.bipush 7, 2) := by decide +kernel
theorem d1_25 : decode method_2_code 25 = .ok (.iand, 1) := by decide +kernel
theorem d1_26 : decode method_2_code 26 = .ok (.iconst 1, 1) := by decide +kernel
theorem d1_27 : decode method_2_code 27 = .ok (.iadd, 1) := by decide +kernel
theorem d1_28 : decode method_2_code 28 = .ok (.i2d, 1) := by decide +kernel
theorem d1_29 : decode method_2_code 29 = .ok (.dstore 6, 2) := by decide +kernel
theorem d1_31 : decode method_2_code 31 = .ok (.iload_n 1, 1) := by decide +kernel
theorem d1_32 : decode method_2_code 32 = .ok (.bipush 9, 2) := by decide +kernel
theorem d1_34 : decode method_2_code 34 = .ok (.iushr, 1) := by decide +kernel
theorem d1_35 : decode method_2_code 35 = .ok (.bipush 7, 2) := by decide +kernel
theorem d1_37 : decode method_2_code 37 = .ok (.iand, 1) := by decide +kernel
theorem d1_38 : decode method_2_code 38 = .ok (.iconst 1, 1) := by decide +kernel
theorem d1_39 : decode method_2_code 39 = .ok (.iadd, 1) := by decide +kernel
theorem d1_40 : decode method_2_code 40 = .ok (.i2d, 1) := by decide +kernel
theorem d1_41 : decode method_2_code 41 = .ok (.dstore 8, 2) := by decide +kernel
theorem d1_43 : decode method_2_code 43 = .ok (.iload_n 0, 1) := by decide +kernel
theorem d1_44 : decode method_2_code 44 = .ok (.iconst 3, 1) := by decide +kernel
theorem d1_45 : decode method_2_code 45 = .ok (.iand, 1) := by decide +kernel
theorem d1_46 : decode method_2_code 46 = .ok (.istore 10, 2) := by decide +kernel
theorem d1_48 : decode method_2_code 48 = .ok (.iload 10, 2) := by decide +kernel
theorem d1_50 : decode method_2_code 50 = .ok (.ifCond .ne 11, 3) := by decide +kernel
theorem d1_53 : decode method_2_code 53 = .ok (.iconst 1, 1) := by decide +kernel
theorem d1_54 : decode method_2_code 54 = .ok (.newarray .double, 2) := by decide +kernel
theorem ow4 {a0 : Array Value} {Z : State} (hw : ∀ d ∈ tables_1, d.before a0 Z = true) : (Jvm.Cond.arrayClass Jvm.ClassFile.FieldType.double).before a0 Z = true := hw _ (List.mem_of_getElem? (i := 4) rfl)
theorem d1_56 : decode method_2_code 56 = .ok (.dup, 1) := by decide +kernel
theorem d1_57 : decode method_2_code 57 = .ok (.iconst 0, 1) := by decide +kernel
theorem d1_58 : decode method_2_code 58 = .ok (.dload_n 2, 1) := by decide +kernel
theorem d1_59 : decode method_2_code 59 = .ok (.dastore, 1) := by decide +kernel
theorem d1_60 : decode method_2_code 60 = .ok (.areturn, 1) := by decide +kernel
theorem oef_ob_w1 (m_ : MethodId) (p : Int32) (q : Int32)  : (entryFrame m_ #[(.int p), (.int q)] 11).locals = #[.val (.int p), .val (.int q), .unset, .unset, .unset, .unset, .unset, .unset, .unset, .unset, .unset] := by first | (simp [entryFrame, argsToLocals, Value.category]; done) | rfl
set_option maxRecDepth 65536 in
set_option maxHeartbeats 40000000 in
theorem ob_w1 (l : Launch) (Z : State) (a0 : Array Value) (hw : ∀ d ∈ tables_1, d.before a0 Z = true) (hE : EW Z a0 ([] : List (String × Nat))) (p : Int32) (q : Int32) (h : Heap) (hO : Old Z Z.heap.size h) (hp : (p &&& 3 = 0))  :
    Ct l Z ([] : List (String × Nat)) (⟨"com/example/hasset/hasset/algorithm/ApertureWidthPinLaw", "weights", "(II)[D"⟩ : MethodName) method_2_code 11 (Option.some (Jvm.ClassFile.FieldType.array Jvm.ClassFile.FieldType.double)) ⟨0, 1, 1, 0⟩ #[(.int p), (.int q)] h [] (fun rv' hp' so' => ∃ r : Addr, ∃ kr : ClassId, ∃ n0 : Nat, rv' = some (.ref r) ∧ so' = [] ∧ (h.size ≤ r) ∧ (1 ≤ n0) ∧ (n0 ≤ 8) ∧ Arv Z hp' r kr .double (1 : Int32) [(.double (dI n0))] (.double 0)) := by
  refine Ct.mk "com/example/hasset/hasset/algorithm/ApertureWidthPinLaw" "weights" rfl rfl (a0 := a0) (plainFor_of_name opn1) hO hE (fun x q => nomatch q) ?_
  intro K T W
  rw [oef_ob_w1]
  refine gIloadN W d1_0 rfl rfl ?_
  refine gBipush (z := (7 : Int32)) W d1_1 rfl rfl ?_
  obtain ⟨v3, e4⟩ : ∃ v : Int32, q &&& (7 : Int32) = v := ⟨_, rfl⟩
  refine gIand W d1_3 e4 rfl ?_
  refine gIconst (z := (1 : Int32)) W d1_4 rfl rfl ?_
  obtain ⟨v5, e6⟩ : ∃ v : Int32, v3 + (1 : Int32) = v := ⟨_, rfl⟩
  refine gIadd W d1_5 e6 rfl ?_
  obtain ⟨n0, na0, nb0, ne0⟩ := wgt e4 e6
  refine gI2D (z := (dI n0)) W d1_6 ne0 rfl ?_
  refine gDstoreN (ls' := #[.val (.int p), .val (.int q), .val (.double (dI n0)), .second, .unset, .unset, .unset, .unset, .unset, .unset, .unset]) W d1_7 rfl rfl ?_
  refine gIloadN W d1_8 rfl rfl ?_
  refine gIconst (z := (3 : Int32)) W d1_9 rfl rfl ?_
  obtain ⟨v7, e8⟩ : ∃ v : Int32, (q.toUInt32 >>> ((3 : Int32) &&& 31).toUInt32).toInt32 = v := ⟨_, rfl⟩
  refine gIushr W d1_10 e8 rfl ?_
  refine gBipush (z := (7 : Int32)) W d1_11 rfl rfl ?_
  obtain ⟨v9, e10⟩ : ∃ v : Int32, v7 &&& (7 : Int32) = v := ⟨_, rfl⟩
  refine gIand W d1_13 e10 rfl ?_
  refine gIconst (z := (1 : Int32)) W d1_14 rfl rfl ?_
  obtain ⟨v11, e12⟩ : ∃ v : Int32, v9 + (1 : Int32) = v := ⟨_, rfl⟩
  refine gIadd W d1_15 e12 rfl ?_
  obtain ⟨n1, na1, nb1, ne1⟩ := wgt e10 e12
  refine gI2D (z := (dI n1)) W d1_16 ne1 rfl ?_
  refine gDstore (ls' := #[.val (.int p), .val (.int q), .val (.double (dI n0)), .second, .val (.double (dI n1)), .second, .unset, .unset, .unset, .unset, .unset]) W d1_17 rfl rfl ?_
  refine gIloadN W d1_19 rfl rfl ?_
  refine gBipush (z := (6 : Int32)) W d1_20 rfl rfl ?_
  obtain ⟨v13, e14⟩ : ∃ v : Int32, (q.toUInt32 >>> ((6 : Int32) &&& 31).toUInt32).toInt32 = v := ⟨_, rfl⟩
  refine gIushr W d1_22 e14 rfl ?_
  refine gBipush (z := (7 : Int32)) W d1_23 rfl rfl ?_
  obtain ⟨v15, e16⟩ : ∃ v : Int32, v13 &&& (7 : Int32) = v := ⟨_, rfl⟩
  refine gIand W d1_25 e16 rfl ?_
  refine gIconst (z := (1 : Int32)) W d1_26 rfl rfl ?_
  obtain ⟨v17, e18⟩ : ∃ v : Int32, v15 + (1 : Int32) = v := ⟨_, rfl⟩
  refine gIadd W d1_27 e18 rfl ?_
  obtain ⟨n2, na2, nb2, ne2⟩ := wgt e16 e18
  refine gI2D (z := (dI n2)) W d1_28 ne2 rfl ?_
  refine gDstore (ls' := #[.val (.int p), .val (.int q), .val (.double (dI n0)), .second, .val (.double (dI n1)), .second, .val (.double (dI n2)), .second, .unset, .unset, .unset]) W d1_29 rfl rfl ?_
  refine gIloadN W d1_31 rfl rfl ?_
  refine gBipush (z := (9 : Int32)) W d1_32 rfl rfl ?_
  obtain ⟨v19, e20⟩ : ∃ v : Int32, (q.toUInt32 >>> ((9 : Int32) &&& 31).toUInt32).toInt32 = v := ⟨_, rfl⟩
  refine gIushr W d1_34 e20 rfl ?_
  refine gBipush (z := (7 : Int32)) W d1_35 rfl rfl ?_
  obtain ⟨v21, e22⟩ : ∃ v : Int32, v19 &&& (7 : Int32) = v := ⟨_, rfl⟩
  refine gIand W d1_37 e22 rfl ?_
  refine gIconst (z := (1 : Int32)) W d1_38 rfl rfl ?_
  obtain ⟨v23, e24⟩ : ∃ v : Int32, v21 + (1 : Int32) = v := ⟨_, rfl⟩
  refine gIadd W d1_39 e24 rfl ?_
  obtain ⟨n3, na3, nb3, ne3⟩ := wgt e22 e24
  refine gI2D (z := (dI n3)) W d1_40 ne3 rfl ?_
  refine gDstore (ls' := #[.val (.int p), .val (.int q), .val (.double (dI n0)), .second, .val (.double (dI n1)), .second, .val (.double (dI n2)), .second, .val (.double (dI n3)), .second, .unset]) W d1_41 rfl rfl ?_
  refine gIloadN W d1_43 rfl rfl ?_
  refine gIconst (z := (3 : Int32)) W d1_44 rfl rfl ?_
  refine gIand (z := (0 : Int32)) W d1_45 hp rfl ?_
  refine gIstore (ls' := #[.val (.int p), .val (.int q), .val (.double (dI n0)), .second, .val (.double (dI n1)), .second, .val (.double (dI n2)), .second, .val (.double (dI n3)), .second, .val (.int (0 : Int32))]) W d1_46 rfl rfl ?_
  refine gIload W d1_48 rfl rfl ?_
  refine gIfNo W d1_50 ((if0 _ _).trans (teq (by decide)).2) rfl ?_
  refine gIconst (z := (1 : Int32)) W d1_53 rfl rfl ?_
  refine wNewP (cap := 1) W d1_54 (ow4 hw) (by decide) (by decide) (by decide) (by decide) (by decide) rfl fun T25 h27 a28 k32 W26 E29 g30 A31 => ?_
  have f33 : Arv Z h27 a28 k32 .double (1 : Int32) [(.double 0)] (.double 0) := A31 1
  refine gDup W26 d1_56 rfl rfl ?_
  refine gIconst (z := (0 : Int32)) W26 d1_57 rfl rfl ?_
  refine gDloadN W26 d1_58 rfl rfl ?_
  refine wStD W26 d1_59 (by simp) f33 (by decide) 0 (by decide) (show 0 < 1 from by decide) rfl fun T34 h36 W35 wr37 A38 => ?_
  have f39 : Arv Z h36 a28 k32 .double (1 : Int32) [(.double (dI n0))] (.double 0) := A38
  exact wRetA (so := []) (t := .array .double) W35 d1_60 rfl rfl rfl (by decide) (by decide) (fun _ q => nomatch q) ⟨a28, k32, n0, rfl, rfl, (Nat.le_of_eq g30.symm), na0, nb0, f39⟩
theorem opn2 : plainName "com/example/hasset/hasset/algorithm/Aperture" = true := by first | (simp [plainName, overriddenIn]; done) | decide +kernel
theorem d6_0 : decode prog_1_method_2_code 0 = .ok (.aload_n 0, 1) := by decide +kernel
theorem d6_1 : decode prog_1_method_2_code 1 = .ok (.arraylength, 1) := by decide +kernel
theorem d6_2 : decode prog_1_method_2_code 2 = .ok (.iconst 1, 1) := by decide +kernel
theorem d6_3 : decode prog_1_method_2_code 3 = .ok (.iadd, 1) := by decide +kernel
theorem d6_4 : decode prog_1_method_2_code 4 = .ok (.newarray .double, 2) := by decide +kernel
theorem d6_6 : decode prog_1_method_2_code 6 = .ok (.astore_n 1, 1) := by decide +kernel
theorem d6_7 : decode prog_1_method_2_code 7 = .ok (.dconst 0, 1) := by decide +kernel
theorem d6_8 : decode prog_1_method_2_code 8 = .ok (.dstore_n 2, 1) := by decide +kernel
theorem d6_9 : decode prog_1_method_2_code 9 = .ok (.dconst 0, 1) := by decide +kernel
theorem d6_10 : decode prog_1_method_2_code 10 = .ok (.dstore 4, 2) := by decide +kernel
theorem d6_12 : decode prog_1_method_2_code 12 = .ok (.iconst 0, 1) := by decide +kernel
theorem d6_13 : decode prog_1_method_2_code 13 = .ok (.istore 6, 2) := by decide +kernel
theorem d6_15 : decode prog_1_method_2_code 15 = .ok (.iload 6, 2) := by decide +kernel
theorem d6_17 : decode prog_1_method_2_code 17 = .ok (.aload_n 0, 1) := by decide +kernel
theorem d6_18 : decode prog_1_method_2_code 18 = .ok (.arraylength, 1) := by decide +kernel
theorem d6_19 : decode prog_1_method_2_code 19 = .ok (.if_icmp .ge 58, 3) := by decide +kernel
theorem d6_22 : decode prog_1_method_2_code 22 = .ok (.aload_n 0, 1) := by decide +kernel
theorem d6_23 : decode prog_1_method_2_code 23 = .ok (.iload 6, 2) := by decide +kernel
theorem d6_25 : decode prog_1_method_2_code 25 = .ok (.daload, 1) := by decide +kernel
theorem d6_26 : decode prog_1_method_2_code 26 = .ok (.dstore 7, 2) := by decide +kernel
theorem d6_28 : decode prog_1_method_2_code 28 = .ok (.dload_n 2, 1) := by decide +kernel
theorem d6_29 : decode prog_1_method_2_code 29 = .ok (.dload 7, 2) := by decide +kernel
theorem d6_31 : decode prog_1_method_2_code 31 = .ok (.dadd, 1) := by decide +kernel
theorem d6_32 : decode prog_1_method_2_code 32 = .ok (.dstore 9, 2) := by decide +kernel
theorem d6_34 : decode prog_1_method_2_code 34 = .ok (.dload 9, 2) := by decide +kernel
theorem d6_36 : decode prog_1_method_2_code 36 = .ok (.dload_n 2, 1) := by decide +kernel
theorem d6_37 : decode prog_1_method_2_code 37 = .ok (.dsub, 1) := by decide +kernel
theorem d6_38 : decode prog_1_method_2_code 38 = .ok (.dstore 11, 2) := by decide +kernel
theorem d6_40 : decode prog_1_method_2_code 40 = .ok (.dload 4, 2) := by decide +kernel
theorem d6_42 : decode prog_1_method_2_code 42 = .ok (.dload_n 2, 1) := by decide +kernel
theorem d6_43 : decode prog_1_method_2_code 43 = .ok (.dload 9, 2) := by decide +kernel
theorem d6_45 : decode prog_1_method_2_code 45 = .ok (.dload 11, 2) := by decide +kernel
theorem d6_47 : decode prog_1_method_2_code 47 = .ok (.dsub, 1) := by decide +kernel
theorem d6_48 : decode prog_1_method_2_code 48 = .ok (.dsub, 1) := by decide +kernel
theorem d6_49 : decode prog_1_method_2_code 49 = .ok (.dload 7, 2) := by decide +kernel
theorem d6_51 : decode prog_1_method_2_code 51 = .ok (.dload 11, 2) := by decide +kernel
theorem d6_53 : decode prog_1_method_2_code 53 = .ok (.dsub, 1) := by decide +kernel
theorem d6_54 : decode prog_1_method_2_code 54 = .ok (.dadd, 1) := by decide +kernel
theorem d6_55 : decode prog_1_method_2_code 55 = .ok (.dadd, 1) := by decide +kernel
theorem d6_56 : decode prog_1_method_2_code 56 = .ok (.dstore 4, 2) := by decide +kernel
theorem d6_58 : decode prog_1_method_2_code 58 = .ok (.dload 9, 2) := by decide +kernel
theorem d6_60 : decode prog_1_method_2_code 60 = .ok (.dstore_n 2, 1) := by decide +kernel
theorem d6_61 : decode prog_1_method_2_code 61 = .ok (.aload_n 1, 1) := by decide +kernel
theorem d6_62 : decode prog_1_method_2_code 62 = .ok (.iload 6, 2) := by decide +kernel
theorem d6_64 : decode prog_1_method_2_code 64 = .ok (.iconst 1, 1) := by decide +kernel
theorem d6_65 : decode prog_1_method_2_code 65 = .ok (.iadd, 1) := by decide +kernel
theorem d6_66 : decode prog_1_method_2_code 66 = .ok (.dload_n 2, 1) := by decide +kernel
theorem d6_67 : decode prog_1_method_2_code 67 = .ok (.dload 4, 2) := by decide +kernel
theorem d6_69 : decode prog_1_method_2_code 69 = .ok (.dadd, 1) := by decide +kernel
theorem d6_70 : decode prog_1_method_2_code 70 = .ok (.dastore, 1) := by decide +kernel
theorem d6_71 : decode prog_1_method_2_code 71 = .ok (.iinc 6 1, 3) := by decide +kernel
theorem d6_74 : decode prog_1_method_2_code 74 = .ok (.goto (-59), 3) := by decide +kernel
theorem d6_77 : decode prog_1_method_2_code 77 = .ok (.aload_n 1, 1) := by decide +kernel
theorem d6_78 : decode prog_1_method_2_code 78 = .ok (.aload_n 0, 1) := by decide +kernel
theorem d6_79 : decode prog_1_method_2_code 79 = .ok (.arraylength, 1) := by decide +kernel
theorem d6_80 : decode prog_1_method_2_code 80 = .ok (.daload, 1) := by decide +kernel
theorem d6_81 : decode prog_1_method_2_code 81 = .ok (.dstore 6, 2) := by decide +kernel
theorem d6_83 : decode prog_1_method_2_code 83 = .ok (.dload 6, 2) := by decide +kernel
theorem d6_85 : decode prog_1_method_2_code 85 = .ok (.invokestatic 48, 3) := by decide +kernel
theorem ow30 {a0 : Array Value} {Z : State} (hw : ∀ d ∈ tables_1, d.before a0 Z = true) : (Jvm.Cond.methodLink "com/example/hasset/hasset/algorithm/Aperture" (48 : Nat) ({ cls := "java/lang/Double", name := "isFinite", desc := "(D)Z" } : Jvm.MethodName)).before a0 Z = true := hw _ (List.mem_of_getElem? (i := 30) rfl)
theorem ow32 {a0 : Array Value} {Z : State} (hw : ∀ d ∈ tables_1, d.before a0 Z = true) : (Jvm.Cond.initialized "java/lang/Double").before a0 Z = true := hw _ (List.mem_of_getElem? (i := 32) rfl)
theorem ow33 {a0 : Array Value} {Z : State} (hw : ∀ d ∈ tables_1, d.before a0 Z = true) : (Jvm.Cond.code ({ cls := "java/lang/Double", name := "isFinite", desc := "(D)Z" } : Jvm.MethodName) jdk_117_method_8_code (2 : Nat) (Option.some Jvm.ClassFile.FieldType.boolean)).before a0 Z = true := hw _ (List.mem_of_getElem? (i := 33) rfl)
theorem opd1 : parseMethodDescriptor "(D)Z" = some ⟨[.double], some (.boolean)⟩ := by decide +kernel
theorem ow31 {a0 : Array Value} {Z : State} (hw : ∀ d ∈ tables_1, d.before a0 Z = true) : (Jvm.Cond.static ({ cls := "java/lang/Double", name := "isFinite", desc := "(D)Z" } : Jvm.MethodName)).before a0 Z = true := hw _ (List.mem_of_getElem? (i := 31) rfl)
theorem d6_88 : decode prog_1_method_2_code 88 = .ok (.ifCond .ne 13, 3) := by decide +kernel
theorem d6_101 : decode prog_1_method_2_code 101 = .ok (.iconst 1, 1) := by decide +kernel
theorem d6_102 : decode prog_1_method_2_code 102 = .ok (.istore 8, 2) := by decide +kernel
theorem d6_104 : decode prog_1_method_2_code 104 = .ok (.iload 8, 2) := by decide +kernel
theorem d6_106 : decode prog_1_method_2_code 106 = .ok (.aload_n 0, 1) := by decide +kernel
theorem d6_107 : decode prog_1_method_2_code 107 = .ok (.arraylength, 1) := by decide +kernel
theorem d6_108 : decode prog_1_method_2_code 108 = .ok (.if_icmp .gt 33, 3) := by decide +kernel
theorem d6_111 : decode prog_1_method_2_code 111 = .ok (.aload_n 1, 1) := by decide +kernel
theorem d6_112 : decode prog_1_method_2_code 112 = .ok (.iload 8, 2) := by decide +kernel
theorem d6_114 : decode prog_1_method_2_code 114 = .ok (.aload_n 1, 1) := by decide +kernel
theorem d6_115 : decode prog_1_method_2_code 115 = .ok (.iload 8, 2) := by decide +kernel
theorem d6_117 : decode prog_1_method_2_code 117 = .ok (.iconst 1, 1) := by decide +kernel
theorem d6_118 : decode prog_1_method_2_code 118 = .ok (.isub, 1) := by decide +kernel
theorem d6_119 : decode prog_1_method_2_code 119 = .ok (.daload, 1) := by decide +kernel
theorem d6_120 : decode prog_1_method_2_code 120 = .ok (.dconst 1, 1) := by decide +kernel
theorem d6_121 : decode prog_1_method_2_code 121 = .ok (.aload_n 1, 1) := by decide +kernel
theorem d6_122 : decode prog_1_method_2_code 122 = .ok (.iload 8, 2) := by decide +kernel
theorem d6_124 : decode prog_1_method_2_code 124 = .ok (.daload, 1) := by decide +kernel
theorem d6_125 : decode prog_1_method_2_code 125 = .ok (.dload 6, 2) := by decide +kernel
theorem d6_127 : decode prog_1_method_2_code 127 = .ok (.ddiv, 1) := by decide +kernel
theorem d6_128 : decode prog_1_method_2_code 128 = .ok (.invokestatic 54, 3) := by decide +kernel
theorem ow38 {a0 : Array Value} {Z : State} (hw : ∀ d ∈ tables_1, d.before a0 Z = true) : (Jvm.Cond.methodLink "com/example/hasset/hasset/algorithm/Aperture" (54 : Nat) ({ cls := "java/lang/Math", name := "min", desc := "(DD)D" } : Jvm.MethodName)).before a0 Z = true := hw _ (List.mem_of_getElem? (i := 38) rfl)
theorem ow39 {a0 : Array Value} {Z : State} (hw : ∀ d ∈ tables_1, d.before a0 Z = true) : (Jvm.Cond.static ({ cls := "java/lang/Math", name := "min", desc := "(DD)D" } : Jvm.MethodName)).before a0 Z = true := hw _ (List.mem_of_getElem? (i := 39) rfl)
theorem ow40 {a0 : Array Value} {Z : State} (hw : ∀ d ∈ tables_1, d.before a0 Z = true) : (Jvm.Cond.code ({ cls := "java/lang/Math", name := "min", desc := "(DD)D" } : Jvm.MethodName) jdk_29_method_72_code (4 : Nat) (Option.some Jvm.ClassFile.FieldType.double)).before a0 Z = true := hw _ (List.mem_of_getElem? (i := 40) rfl)
theorem opd2 : parseMethodDescriptor "(DD)D" = some ⟨[.double, .double], some (.double)⟩ := by decide +kernel
theorem d6_131 : decode prog_1_method_2_code 131 = .ok (.invokestatic 57, 3) := by decide +kernel
theorem ow41 {a0 : Array Value} {Z : State} (hw : ∀ d ∈ tables_1, d.before a0 Z = true) : (Jvm.Cond.methodLink "com/example/hasset/hasset/algorithm/Aperture" (57 : Nat) ({ cls := "java/lang/Math", name := "max", desc := "(DD)D" } : Jvm.MethodName)).before a0 Z = true := hw _ (List.mem_of_getElem? (i := 41) rfl)
theorem ow42 {a0 : Array Value} {Z : State} (hw : ∀ d ∈ tables_1, d.before a0 Z = true) : (Jvm.Cond.static ({ cls := "java/lang/Math", name := "max", desc := "(DD)D" } : Jvm.MethodName)).before a0 Z = true := hw _ (List.mem_of_getElem? (i := 42) rfl)
theorem ow43 {a0 : Array Value} {Z : State} (hw : ∀ d ∈ tables_1, d.before a0 Z = true) : (Jvm.Cond.code ({ cls := "java/lang/Math", name := "max", desc := "(DD)D" } : Jvm.MethodName) jdk_29_method_68_code (4 : Nat) (Option.some Jvm.ClassFile.FieldType.double)).before a0 Z = true := hw _ (List.mem_of_getElem? (i := 43) rfl)
theorem d6_134 : decode prog_1_method_2_code 134 = .ok (.dastore, 1) := by decide +kernel
theorem d6_135 : decode prog_1_method_2_code 135 = .ok (.iinc 8 1, 3) := by decide +kernel
theorem d6_138 : decode prog_1_method_2_code 138 = .ok (.goto (-34), 3) := by decide +kernel
theorem d6_141 : decode prog_1_method_2_code 141 = .ok (.aload_n 1, 1) := by decide +kernel
theorem d6_142 : decode prog_1_method_2_code 142 = .ok (.areturn, 1) := by decide +kernel
theorem oef_ob_b1 (m_ : MethodId) (r : Addr)  : (entryFrame m_ #[(.ref r)] 13).locals = #[.val (.ref r), .unset, .unset, .unset, .unset, .unset, .unset, .unset, .unset, .unset, .unset, .unset, .unset] := by first | (simp [entryFrame, argsToLocals, Value.category]; done) | rfl
set_option maxRecDepth 65536 in
set_option maxHeartbeats 40000000 in
theorem ob_b1 (l : Launch) (Z : State) (a0 : Array Value) (hw : ∀ d ∈ tables_1, d.before a0 Z = true) (hE : EW Z a0 ([] : List (String × Nat))) (r : Addr) (kr : ClassId) (n0 : Nat) (h : Heap) (hO : Old Z Z.heap.size h) (q0 : Arv Z h r kr .double (1 : Int32) [(.double (dI n0))] (.double 0)) (na0 : (1 ≤ n0)) (nb0 : (n0 ≤ 8))  :
    Ct l Z ([] : List (String × Nat)) (⟨"com/example/hasset/hasset/algorithm/Aperture", "boundaries", "([D)[D"⟩ : MethodName) prog_1_method_2_code 13 (Option.some (Jvm.ClassFile.FieldType.array Jvm.ClassFile.FieldType.double)) ⟨2, 1, 2, 60⟩ #[(.ref r)] h [] (fun rv' hp' so' => ∃ b : Addr, rv' = some (.ref b) ∧ so' = [] ∧ (h.size ≤ b)) := by
  refine Ct.mk "com/example/hasset/hasset/algorithm/Aperture" "boundaries" rfl rfl (a0 := a0) (plainFor_of_name opn2) hO hE (fun x q => nomatch q) ?_
  intro K T W
  rw [oef_ob_b1]
  refine gAloadN W d6_0 rfl rfl rfl ?_
  refine wLen W d6_1 q0 rfl ?_
  refine gIconst (z := (1 : Int32)) W d6_2 rfl rfl ?_
  refine gIadd (z := (2 : Int32)) W d6_3 (by decide) rfl ?_
  refine wNewP (cap := 2) W d6_4 (ow4 hw) (by decide) (by decide) (by decide) (by decide) (by decide) rfl fun T40 h42 a43 k47 W41 E44 g45 A46 => ?_
  have f48 : Arv Z h42 a43 k47 .double (2 : Int32) [(.double 0), (.double 0)] (.double 0) := A46 2
  refine gAstoreN (ls' := #[.val (.ref r), .val (.ref a43), .unset, .unset, .unset, .unset, .unset, .unset, .unset, .unset, .unset, .unset, .unset]) W41 d6_6 rfl rfl rfl ?_
  refine gDconst0 (z := (dI 0)) W41 d6_7 dz rfl ?_
  refine gDstoreN (ls' := #[.val (.ref r), .val (.ref a43), .val (.double (dI 0)), .second, .unset, .unset, .unset, .unset, .unset, .unset, .unset, .unset, .unset]) W41 d6_8 rfl rfl ?_
  refine gDconst0 (z := (dI 0)) W41 d6_9 dz rfl ?_
  refine gDstore (ls' := #[.val (.ref r), .val (.ref a43), .val (.double (dI 0)), .second, .val (.double (dI 0)), .second, .unset, .unset, .unset, .unset, .unset, .unset, .unset]) W41 d6_10 rfl rfl ?_
  refine gIconst (z := (0 : Int32)) W41 d6_12 rfl rfl ?_
  refine gIstore (ls' := #[.val (.ref r), .val (.ref a43), .val (.double (dI 0)), .second, .val (.double (dI 0)), .second, .val (.int (0 : Int32)), .unset, .unset, .unset, .unset, .unset, .unset]) W41 d6_13 rfl rfl ?_
  refine gIload W41 d6_15 rfl rfl ?_
  refine gAloadN W41 d6_17 rfl rfl rfl ?_
  have f49 := q0.ext E44
  refine wLen W41 d6_18 f49 rfl ?_
  refine gIcmpNo W41 d6_19 (tlt (by decide)).2.1 rfl ?_
  refine gAloadN W41 d6_22 rfl rfl rfl ?_
  refine gIload W41 d6_23 rfl rfl ?_
  refine wLdD (v := (.double (dI n0))) W41 d6_25 f49 (by decide) rfl rfl ?_
  refine gDstore (ls' := #[.val (.ref r), .val (.ref a43), .val (.double (dI 0)), .second, .val (.double (dI 0)), .second, .val (.int (0 : Int32)), .val (.double (dI n0)), .second, .unset, .unset, .unset, .unset]) W41 d6_26 rfl rfl ?_
  refine gDloadN W41 d6_28 rfl rfl ?_
  refine gDload W41 d6_29 rfl rfl ?_
  refine gDadd (z := (dI n0)) W41 d6_31 (dadd_dI (by omega) (by omega)) (nn_dI _) rfl ?_
  refine gDstore (ls' := #[.val (.ref r), .val (.ref a43), .val (.double (dI 0)), .second, .val (.double (dI 0)), .second, .val (.int (0 : Int32)), .val (.double (dI n0)), .second, .val (.double (dI n0)), .second, .unset, .unset]) W41 d6_32 rfl rfl ?_
  refine gDload W41 d6_34 rfl rfl ?_
  refine gDloadN W41 d6_36 rfl rfl ?_
  refine gDsub (z := (dI n0)) W41 d6_37 (dsub_dI (by omega) (by omega)) (nn_dI _) rfl ?_
  refine gDstore (ls' := #[.val (.ref r), .val (.ref a43), .val (.double (dI 0)), .second, .val (.double (dI 0)), .second, .val (.int (0 : Int32)), .val (.double (dI n0)), .second, .val (.double (dI n0)), .second, .val (.double (dI n0)), .second]) W41 d6_38 rfl rfl ?_
  refine gDload W41 d6_40 rfl rfl ?_
  refine gDloadN W41 d6_42 rfl rfl ?_
  refine gDload W41 d6_43 rfl rfl ?_
  refine gDload W41 d6_45 rfl rfl ?_
  refine gDsub (z := (dI 0)) W41 d6_47 (dsub_dI (by omega) (by omega)) (nn_dI _) rfl ?_
  refine gDsub (z := (dI 0)) W41 d6_48 (dsub_dI (by omega) (by omega)) (nn_dI _) rfl ?_
  refine gDload W41 d6_49 rfl rfl ?_
  refine gDload W41 d6_51 rfl rfl ?_
  refine gDsub (z := (dI 0)) W41 d6_53 (dsub_dI (by omega) (by omega)) (nn_dI _) rfl ?_
  refine gDadd (z := (dI 0)) W41 d6_54 (dadd_dI (by omega) (by omega)) (nn_dI _) rfl ?_
  refine gDadd (z := (dI 0)) W41 d6_55 (dadd_dI (by omega) (by omega)) (nn_dI _) rfl ?_
  refine gDstore (ls' := #[.val (.ref r), .val (.ref a43), .val (.double (dI 0)), .second, .val (.double (dI 0)), .second, .val (.int (0 : Int32)), .val (.double (dI n0)), .second, .val (.double (dI n0)), .second, .val (.double (dI n0)), .second]) W41 d6_56 rfl rfl ?_
  refine gDload W41 d6_58 rfl rfl ?_
  refine gDstoreN (ls' := #[.val (.ref r), .val (.ref a43), .val (.double (dI n0)), .second, .val (.double (dI 0)), .second, .val (.int (0 : Int32)), .val (.double (dI n0)), .second, .val (.double (dI n0)), .second, .val (.double (dI n0)), .second]) W41 d6_60 rfl rfl ?_
  refine gAloadN W41 d6_61 rfl rfl rfl ?_
  refine gIload W41 d6_62 rfl rfl ?_
  refine gIconst (z := (1 : Int32)) W41 d6_64 rfl rfl ?_
  refine gIadd (z := (1 : Int32)) W41 d6_65 (by decide) rfl ?_
  refine gDloadN W41 d6_66 rfl rfl ?_
  refine gDload W41 d6_67 rfl rfl ?_
  refine gDadd (z := (dI n0)) W41 d6_69 (dadd_dI (by omega) (by omega)) (nn_dI _) rfl ?_
  refine wStD W41 d6_70 (by simp) f48 (by decide) 1 (by decide) (show 1 < 2 from by decide) rfl fun T50 h52 W51 wr53 A54 => ?_
  have f55 : Arv Z h52 a43 k47 .double (2 : Int32) [(.double 0), (.double (dI n0))] (.double 0) := A54
  refine gIinc (z := (1 : Int32)) (ls' := #[.val (.ref r), .val (.ref a43), .val (.double (dI n0)), .second, .val (.double (dI 0)), .second, .val (.int (1 : Int32)), .val (.double (dI n0)), .second, .val (.double (dI n0)), .second, .val (.double (dI n0)), .second]) W51 d6_71 rfl (by decide) rfl rfl ?_
  refine gGoto (pc' := 15) W51 d6_74 (by decide) rfl ?_
  refine gIload W51 d6_15 rfl rfl ?_
  refine gAloadN W51 d6_17 rfl rfl rfl ?_
  have ne56 : r ≠ a43 := Nat.ne_of_lt (Nat.lt_of_lt_of_le q0.lt (Nat.le_of_eq g45.symm))
  have f57 := f49.other wr53 ne56
  refine wLen W51 d6_18 f57 rfl ?_
  refine gIcmpYes (pc' := 77) W51 d6_19 (flt (by decide)).2.1 (by decide) rfl ?_
  refine gAloadN W51 d6_77 rfl rfl rfl ?_
  refine gAloadN W51 d6_78 rfl rfl rfl ?_
  refine wLen W51 d6_79 f57 rfl ?_
  refine wLdD (v := (.double (dI n0))) W51 d6_80 f55 (by decide) rfl rfl ?_
  refine gDstore (ls' := #[.val (.ref r), .val (.ref a43), .val (.double (dI n0)), .second, .val (.double (dI 0)), .second, .val (.double (dI n0)), .second, .unset, .val (.double (dI n0)), .second, .val (.double (dI n0)), .second]) W51 d6_81 rfl rfl ?_
  refine gDload W51 d6_83 rfl rfl ?_
  refine wStatic (y := (⟨"java/lang/Double", "isFinite", "(D)Z"⟩ : MethodName)) (Wd := 0) (argsL := [(.double (dI n0))]) (rest := []) W51 d6_85 (ow30 hw) (ow31 hw) (ow32 hw) (ow33 hw) (by decide) (Cb.ct (ob_fi l Z a0 hw hE (n0) h52 W51.old (by omega) ) (ow33 hw) (ow32 hw) hE (by decide) (by decide)) (by simp) rfl (lenOf opd1 rfl) rfl (Nat.le_of_eq rfl) (by decide) (by decide) rfl fun v62 so63 T58 h60 W59 kp61 sp64 q65 => ?_
  obtain ⟨rfl, rfl⟩ := q65
  show Go K _ T58 88 #[.val (.ref r), .val (.ref a43), .val (.double (dI n0)), .second, .val (.double (dI 0)), .second, .val (.double (dI n0)), .second, .unset, .val (.double (dI n0)), .second, .val (.double (dI n0)), .second] [(.int (1 : Int32))]
  refine gIfYes (pc' := 101) W59 d6_88 ((if0 _ _).trans (feq (by decide)).2) (by decide) rfl ?_
  refine gIconst (z := (1 : Int32)) W59 d6_101 rfl rfl ?_
  refine gIstore (ls' := #[.val (.ref r), .val (.ref a43), .val (.double (dI n0)), .second, .val (.double (dI 0)), .second, .val (.double (dI n0)), .second, .val (.int (1 : Int32)), .val (.double (dI n0)), .second, .val (.double (dI n0)), .second]) W59 d6_102 rfl rfl ?_
  refine gIload W59 d6_104 rfl rfl ?_
  refine gAloadN W59 d6_106 rfl rfl rfl ?_
  have f66 := f57.keep kp61 nin0
  refine wLen W59 d6_107 f66 rfl ?_
  refine gIcmpNo W59 d6_108 (flt (by decide)).2.2.1 rfl ?_
  refine gAloadN W59 d6_111 rfl rfl rfl ?_
  refine gIload W59 d6_112 rfl rfl ?_
  refine gAloadN W59 d6_114 rfl rfl rfl ?_
  refine gIload W59 d6_115 rfl rfl ?_
  refine gIconst (z := (1 : Int32)) W59 d6_117 rfl rfl ?_
  refine gIsub (z := (0 : Int32)) W59 d6_118 (by decide) rfl ?_
  have f67 := f55.keep kp61 nin0
  refine wLdD (v := (.double 0)) W59 d6_119 f67 (by decide) rfl rfl ?_
  refine gDconst1 (z := FP.dconst1) W59 d6_120 rfl rfl ?_
  refine gAloadN W59 d6_121 rfl rfl rfl ?_
  refine gIload W59 d6_122 rfl rfl ?_
  refine wLdD (v := (.double (dI n0))) W59 d6_124 f67 (by decide) rfl rfl ?_
  refine gDload W59 d6_125 rfl rfl ?_
  obtain ⟨z68, e69⟩ : ∃ z, FP.ddiv (dI n0) (dI n0) = z := ⟨_, rfl⟩
  have nz70 : NoNaN64 z68 := e69 ▸ nn_div (by omega) (by omega)
  refine gDdiv (z := z68) W59 d6_127 e69 nz70 rfl ?_
  obtain ⟨z71, e72⟩ : ∃ z, Native.java_lang_Math.nans.pick64 false FP.dconst1 z68 = z := ⟨_, rfl⟩
  have nz73 : NoNaN64 z71 := e72 ▸ pick64_noNaN nn_one nz70
  refine wNat (y := (⟨"java/lang/Math", "min", "(DD)D"⟩ : MethodName)) (Wd := 4) (argsL := [(.double FP.dconst1), (.double z68)]) (rest := [(.double 0), (.int (1 : Int32)), (.ref a43)]) (val' := (.double z71)) W59 d6_128 (ow38 hw) (ow39 hw) (ow8 hw) (ow40 hw) (by decide) (fun _ hc => Jvm.Free.Fl.Abs.minD_pays (l := l) FP.dconst1 z68 (by exact hc) (by decide) (by decide)) rfl (lenOf opd2 rfl) rfl (Nat.le_of_eq rfl) (by decide) (by decide) ⟨rfl, nn_one, nz70⟩ (congrArg Value.double e72) rfl fun T74 W75 => ?_
  obtain ⟨z76, e77⟩ : ∃ z, Native.java_lang_Math.nans.pick64 true 0 z71 = z := ⟨_, rfl⟩
  have nz78 : NoNaN64 z76 := e77 ▸ pick64_noNaN nn_zero nz73
  refine wNat (y := (⟨"java/lang/Math", "max", "(DD)D"⟩ : MethodName)) (Wd := 2) (argsL := [(.double 0), (.double z71)]) (rest := [(.int (1 : Int32)), (.ref a43)]) (val' := (.double z76)) W75 d6_131 (ow41 hw) (ow42 hw) (ow8 hw) (ow43 hw) (by decide) (fun _ hc => Jvm.Free.Fl.Abs.maxD_pays (l := l) 0 z71 (by exact hc) (by decide) (by decide)) rfl (lenOf opd2 rfl) rfl (Nat.le_of_eq rfl) (by decide) (by decide) ⟨rfl, nn_zero, nz73⟩ (congrArg Value.double e77) rfl fun T79 W80 => ?_
  refine wStD W80 d6_134 (by simp) f67 (by decide) 1 (by decide) (show 1 < 2 from by decide) rfl fun T81 h83 W82 wr84 A85 => ?_
  have f86 : Arv Z h83 a43 k47 .double (2 : Int32) [(.double 0), (.double z76)] (.double 0) := A85
  refine gIinc (z := (2 : Int32)) (ls' := #[.val (.ref r), .val (.ref a43), .val (.double (dI n0)), .second, .val (.double (dI 0)), .second, .val (.double (dI n0)), .second, .val (.int (2 : Int32)), .val (.double (dI n0)), .second, .val (.double (dI n0)), .second]) W82 d6_135 rfl (by decide) rfl rfl ?_
  refine gGoto (pc' := 104) W82 d6_138 (by decide) rfl ?_
  refine gIload W82 d6_104 rfl rfl ?_
  refine gAloadN W82 d6_106 rfl rfl rfl ?_
  have f87 := f66.other wr84 ne56
  refine wLen W82 d6_107 f87 rfl ?_
  refine gIcmpYes (pc' := 141) W82 d6_108 (tlt (by decide)).2.2.1 (by decide) rfl ?_
  refine gAloadN W82 d6_141 rfl rfl rfl ?_
  exact wRetA (so := []) (t := .array .double) W82 d6_142 rfl rfl rfl (by decide) (by decide) (fun _ q => nomatch q) ⟨a43, rfl, rfl, (Nat.le_of_eq g45.symm)⟩
theorem d3_0 : decode prog_1_method_1_code 0 = .ok (.aload_n 0, 1) := by decide +kernel
theorem d3_1 : decode prog_1_method_1_code 1 = .ok (.invokespecial 1, 3) := by decide +kernel
theorem ow16 {a0 : Array Value} {Z : State} (hw : ∀ d ∈ tables_1, d.before a0 Z = true) : (Jvm.Cond.methodLink "com/example/hasset/hasset/algorithm/Aperture" (1 : Nat) ({ cls := "java/lang/Object", name := "<init>", desc := "()V" } : Jvm.MethodName)).before a0 Z = true := hw _ (List.mem_of_getElem? (i := 16) rfl)
theorem ow17 {a0 : Array Value} {Z : State} (hw : ∀ d ∈ tables_1, d.before a0 Z = true) : (Jvm.Cond.instanceMethod ({ cls := "java/lang/Object", name := "<init>", desc := "()V" } : Jvm.MethodName)).before a0 Z = true := hw _ (List.mem_of_getElem? (i := 17) rfl)
theorem ow18 {a0 : Array Value} {Z : State} (hw : ∀ d ∈ tables_1, d.before a0 Z = true) : (Jvm.Cond.code ({ cls := "java/lang/Object", name := "<init>", desc := "()V" } : Jvm.MethodName) object_method_1_code (1 : Nat) (Option.none : Option Jvm.ClassFile.FieldType)).before a0 Z = true := hw _ (List.mem_of_getElem? (i := 18) rfl)
theorem d3_4 : decode prog_1_method_1_code 4 = .ok (.aload_n 1, 1) := by decide +kernel
theorem d3_5 : decode prog_1_method_1_code 5 = .ok (.arraylength, 1) := by decide +kernel
theorem d3_6 : decode prog_1_method_1_code 6 = .ok (.ifCond .ne 13, 3) := by decide +kernel
theorem d3_19 : decode prog_1_method_1_code 19 = .ok (.iconst 0, 1) := by decide +kernel
theorem d3_20 : decode prog_1_method_1_code 20 = .ok (.istore 4, 2) := by decide +kernel
theorem d3_22 : decode prog_1_method_1_code 22 = .ok (.iload 4, 2) := by decide +kernel
theorem d3_24 : decode prog_1_method_1_code 24 = .ok (.aload_n 1, 1) := by decide +kernel
theorem d3_25 : decode prog_1_method_1_code 25 = .ok (.arraylength, 1) := by decide +kernel
theorem d3_26 : decode prog_1_method_1_code 26 = .ok (.if_icmp .ge 48, 3) := by decide +kernel
theorem d3_29 : decode prog_1_method_1_code 29 = .ok (.aload_n 1, 1) := by decide +kernel
theorem d3_30 : decode prog_1_method_1_code 30 = .ok (.iload 4, 2) := by decide +kernel
theorem d3_32 : decode prog_1_method_1_code 32 = .ok (.daload, 1) := by decide +kernel
theorem d3_33 : decode prog_1_method_1_code 33 = .ok (.dconst 0, 1) := by decide +kernel
theorem d3_34 : decode prog_1_method_1_code 34 = .ok (.dcmp .l, 1) := by decide +kernel
theorem d3_35 : decode prog_1_method_1_code 35 = .ok (.ifCond .le 14, 3) := by decide +kernel
theorem d3_38 : decode prog_1_method_1_code 38 = .ok (.aload_n 1, 1) := by decide +kernel
theorem d3_39 : decode prog_1_method_1_code 39 = .ok (.iload 4, 2) := by decide +kernel
theorem d3_41 : decode prog_1_method_1_code 41 = .ok (.daload, 1) := by decide +kernel
theorem d3_42 : decode prog_1_method_1_code 42 = .ok (.ldc2_w 16, 3) := by decide +kernel
theorem ow19 {a0 : Array Value} {Z : State} (hw : ∀ d ∈ tables_1, d.before a0 Z = true) : (Jvm.Cond.constantDouble "com/example/hasset/hasset/algorithm/Aperture" (16 : Nat) (9218868437227405312 : UInt64)).before a0 Z = true := hw _ (List.mem_of_getElem? (i := 19) rfl)
theorem d3_45 : decode prog_1_method_1_code 45 = .ok (.dcmp .g, 1) := by decide +kernel
theorem d3_46 : decode prog_1_method_1_code 46 = .ok (.ifCond .lt 22, 3) := by decide +kernel
theorem d3_68 : decode prog_1_method_1_code 68 = .ok (.iinc 4 1, 3) := by decide +kernel
theorem d3_71 : decode prog_1_method_1_code 71 = .ok (.goto (-49), 3) := by decide +kernel
theorem d3_74 : decode prog_1_method_1_code 74 = .ok (.iload_n 2, 1) := by decide +kernel
theorem d3_75 : decode prog_1_method_1_code 75 = .ok (.iconst 1, 1) := by decide +kernel
theorem d3_76 : decode prog_1_method_1_code 76 = .ok (.if_icmp .ge 17, 3) := by decide +kernel
theorem d3_93 : decode prog_1_method_1_code 93 = .ok (.iload_n 3, 1) := by decide +kernel
theorem d3_94 : decode prog_1_method_1_code 94 = .ok (.iconst 1, 1) := by decide +kernel
theorem d3_95 : decode prog_1_method_1_code 95 = .ok (.if_icmp .ge 17, 3) := by decide +kernel
theorem d3_112 : decode prog_1_method_1_code 112 = .ok (.iload_n 3, 1) := by decide +kernel
theorem d3_113 : decode prog_1_method_1_code 113 = .ok (.i2l, 1) := by decide +kernel
theorem d3_114 : decode prog_1_method_1_code 114 = .ok (.iload_n 2, 1) := by decide +kernel
theorem d3_115 : decode prog_1_method_1_code 115 = .ok (.i2l, 1) := by decide +kernel
theorem d3_116 : decode prog_1_method_1_code 116 = .ok (.lmul, 1) := by decide +kernel
theorem d3_117 : decode prog_1_method_1_code 117 = .ok (.lstore 4, 2) := by decide +kernel
theorem d3_119 : decode prog_1_method_1_code 119 = .ok (.aload_n 0, 1) := by decide +kernel
theorem d3_120 : decode prog_1_method_1_code 120 = .ok (.iload_n 2, 1) := by decide +kernel
theorem d3_121 : decode prog_1_method_1_code 121 = .ok (.putfield 26, 3) := by decide +kernel
theorem ow21 {a0 : Array Value} {Z : State} (hw : ∀ d ∈ tables_1, d.before a0 Z = true) : (Jvm.Cond.laysFinal "com/example/hasset/hasset/algorithm/Aperture" "com/example/hasset/hasset/algorithm/Aperture" "clients" "I").before a0 Z = true := hw _ (List.mem_of_getElem? (i := 21) rfl)
theorem ow20 {a0 : Array Value} {Z : State} (hw : ∀ d ∈ tables_1, d.before a0 Z = true) : (Jvm.Cond.fieldLink "com/example/hasset/hasset/algorithm/Aperture" (26 : Nat) "com/example/hasset/hasset/algorithm/Aperture" "clients" "I").before a0 Z = true := hw _ (List.mem_of_getElem? (i := 20) rfl)
theorem ow11 {a0 : Array Value} {Z : State} (hw : ∀ d ∈ tables_1, d.before a0 Z = true) : (Jvm.Cond.instantiable "com/example/hasset/hasset/algorithm/Aperture" (3 : Nat)).before a0 Z = true := hw _ (List.mem_of_getElem? (i := 11) rfl)
theorem d3_124 : decode prog_1_method_1_code 124 = .ok (.aload_n 0, 1) := by decide +kernel
theorem d3_125 : decode prog_1_method_1_code 125 = .ok (.iload_n 2, 1) := by decide +kernel
theorem d3_126 : decode prog_1_method_1_code 126 = .ok (.i2l, 1) := by decide +kernel
theorem d3_127 : decode prog_1_method_1_code 127 = .ok (.lload 4, 2) := by decide +kernel
theorem d3_129 : decode prog_1_method_1_code 129 = .ok (.aload_n 1, 1) := by decide +kernel
theorem d3_130 : decode prog_1_method_1_code 130 = .ok (.arraylength, 1) := by decide +kernel
theorem d3_131 : decode prog_1_method_1_code 131 = .ok (.i2l, 1) := by decide +kernel
theorem d3_132 : decode prog_1_method_1_code 132 = .ok (.ladd, 1) := by decide +kernel
theorem d3_133 : decode prog_1_method_1_code 133 = .ok (.lconst 1, 1) := by decide +kernel
theorem d3_134 : decode prog_1_method_1_code 134 = .ok (.lsub, 1) := by decide +kernel
theorem d3_135 : decode prog_1_method_1_code 135 = .ok (.aload_n 1, 1) := by decide +kernel
theorem d3_136 : decode prog_1_method_1_code 136 = .ok (.arraylength, 1) := by decide +kernel
theorem d3_137 : decode prog_1_method_1_code 137 = .ok (.i2l, 1) := by decide +kernel
theorem d3_138 : decode prog_1_method_1_code 138 = .ok (.ldiv, 1) := by decide +kernel
theorem d3_139 : decode prog_1_method_1_code 139 = .ok (.invokestatic 32, 3) := by decide +kernel
theorem ow22 {a0 : Array Value} {Z : State} (hw : ∀ d ∈ tables_1, d.before a0 Z = true) : (Jvm.Cond.methodLink "com/example/hasset/hasset/algorithm/Aperture" (32 : Nat) ({ cls := "java/lang/Math", name := "min", desc := "(JJ)J" } : Jvm.MethodName)).before a0 Z = true := hw _ (List.mem_of_getElem? (i := 22) rfl)
theorem ow24 {a0 : Array Value} {Z : State} (hw : ∀ d ∈ tables_1, d.before a0 Z = true) : (Jvm.Cond.code ({ cls := "java/lang/Math", name := "min", desc := "(JJ)J" } : Jvm.MethodName) jdk_29_method_70_code (4 : Nat) (Option.some Jvm.ClassFile.FieldType.long)).before a0 Z = true := hw _ (List.mem_of_getElem? (i := 24) rfl)
theorem opd3 : parseMethodDescriptor "(JJ)J" = some ⟨[.long, .long], some (.long)⟩ := by decide +kernel
theorem ow23 {a0 : Array Value} {Z : State} (hw : ∀ d ∈ tables_1, d.before a0 Z = true) : (Jvm.Cond.static ({ cls := "java/lang/Math", name := "min", desc := "(JJ)J" } : Jvm.MethodName)).before a0 Z = true := hw _ (List.mem_of_getElem? (i := 23) rfl)
theorem d3_142 : decode prog_1_method_1_code 142 = .ok (.l2i, 1) := by decide +kernel
theorem d3_143 : decode prog_1_method_1_code 143 = .ok (.putfield 38, 3) := by decide +kernel
theorem ow26 {a0 : Array Value} {Z : State} (hw : ∀ d ∈ tables_1, d.before a0 Z = true) : (Jvm.Cond.laysFinal "com/example/hasset/hasset/algorithm/Aperture" "com/example/hasset/hasset/algorithm/Aperture" "span" "I").before a0 Z = true := hw _ (List.mem_of_getElem? (i := 26) rfl)
theorem ow25 {a0 : Array Value} {Z : State} (hw : ∀ d ∈ tables_1, d.before a0 Z = true) : (Jvm.Cond.fieldLink "com/example/hasset/hasset/algorithm/Aperture" (38 : Nat) "com/example/hasset/hasset/algorithm/Aperture" "span" "I").before a0 Z = true := hw _ (List.mem_of_getElem? (i := 25) rfl)
theorem d3_146 : decode prog_1_method_1_code 146 = .ok (.aload_n 0, 1) := by decide +kernel
theorem d3_147 : decode prog_1_method_1_code 147 = .ok (.aload_n 1, 1) := by decide +kernel
theorem d3_148 : decode prog_1_method_1_code 148 = .ok (.invokestatic 41, 3) := by decide +kernel
theorem ow27 {a0 : Array Value} {Z : State} (hw : ∀ d ∈ tables_1, d.before a0 Z = true) : (Jvm.Cond.methodLink "com/example/hasset/hasset/algorithm/Aperture" (41 : Nat) ({ cls := "com/example/hasset/hasset/algorithm/Aperture", name := "boundaries", desc := "([D)[D" } : Jvm.MethodName)).before a0 Z = true := hw _ (List.mem_of_getElem? (i := 27) rfl)
theorem ow12 {a0 : Array Value} {Z : State} (hw : ∀ d ∈ tables_1, d.before a0 Z = true) : (Jvm.Cond.initialized "com/example/hasset/hasset/algorithm/Aperture").before a0 Z = true := hw _ (List.mem_of_getElem? (i := 12) rfl)
theorem ow29 {a0 : Array Value} {Z : State} (hw : ∀ d ∈ tables_1, d.before a0 Z = true) : (Jvm.Cond.code ({ cls := "com/example/hasset/hasset/algorithm/Aperture", name := "boundaries", desc := "([D)[D" } : Jvm.MethodName) prog_1_method_2_code (13 : Nat) (Option.some (Jvm.ClassFile.FieldType.array Jvm.ClassFile.FieldType.double))).before a0 Z = true := hw _ (List.mem_of_getElem? (i := 29) rfl)
theorem opd4 : parseMethodDescriptor "([D)[D" = some ⟨[.array .double], some (.array .double)⟩ := by decide +kernel
theorem ow28 {a0 : Array Value} {Z : State} (hw : ∀ d ∈ tables_1, d.before a0 Z = true) : (Jvm.Cond.static ({ cls := "com/example/hasset/hasset/algorithm/Aperture", name := "boundaries", desc := "([D)[D" } : Jvm.MethodName)).before a0 Z = true := hw _ (List.mem_of_getElem? (i := 28) rfl)
theorem d3_151 : decode prog_1_method_1_code 151 = .ok (.putfield 45, 3) := by decide +kernel
theorem ow45 {a0 : Array Value} {Z : State} (hw : ∀ d ∈ tables_1, d.before a0 Z = true) : (Jvm.Cond.laysFinal "com/example/hasset/hasset/algorithm/Aperture" "com/example/hasset/hasset/algorithm/Aperture" "boundaries" "[D").before a0 Z = true := hw _ (List.mem_of_getElem? (i := 45) rfl)
theorem ow44 {a0 : Array Value} {Z : State} (hw : ∀ d ∈ tables_1, d.before a0 Z = true) : (Jvm.Cond.fieldLink "com/example/hasset/hasset/algorithm/Aperture" (45 : Nat) "com/example/hasset/hasset/algorithm/Aperture" "boundaries" "[D").before a0 Z = true := hw _ (List.mem_of_getElem? (i := 44) rfl)
theorem d3_154 : decode prog_1_method_1_code 154 = .ok (.return_, 1) := by decide +kernel
theorem oef_ob_i1 (m_ : MethodId) (a : Addr) (r : Addr) (c : Int32) (d : Int32)  : (entryFrame m_ #[(.ref a), (.ref r), (.int c), (.int d)] 6).locals = #[.val (.ref a), .val (.ref r), .val (.int c), .val (.int d), .unset, .unset] := by first | (simp [entryFrame, argsToLocals, Value.category]; done) | rfl
set_option maxRecDepth 65536 in
set_option maxHeartbeats 40000000 in
theorem ob_i1 (l : Launch) (Z : State) (a0 : Array Value) (hw : ∀ d ∈ tables_1, d.before a0 Z = true) (hE : EW Z a0 ([] : List (String × Nat))) (a : Addr) (r : Addr) (kr : ClassId) (c : Int32) (d : Int32) (n0 : Nat) (h : Heap) (hO : Old Z Z.heap.size h) (q0 : Exa Z h a "com/example/hasset/hasset/algorithm/Aperture") (q1 : Fld Z h a "com/example/hasset/hasset/algorithm/Aperture" "clients" "I" (.int (0 : Int32))) (q2 : Fld Z h a "com/example/hasset/hasset/algorithm/Aperture" "span" "I" (.int (0 : Int32))) (q3 : Fld Z h a "com/example/hasset/hasset/algorithm/Aperture" "boundaries" "[D" .null) (q4 : Arv Z h r kr .double (1 : Int32) [(.double (dI n0))] (.double 0)) (nra : (r ≠ a)) (hc : (0 < c.toInt)) (hd : (0 < d.toInt)) (na0 : (1 ≤ n0)) (nb0 : (n0 ≤ 8)) (ge_a : Z.heap.size ≤ a) :
    Ct l Z ([] : List (String × Nat)) (⟨"com/example/hasset/hasset/algorithm/Aperture", "<init>", "([DII)V"⟩ : MethodName) prog_1_method_1_code 6 (Option.none : Option Jvm.ClassFile.FieldType) ⟨3, 1, 2, 95⟩ #[(.ref a), (.ref r), (.int c), (.int d)] h [a] (fun rv' hp' so' => rv' = none ∧ so' = [] ∧ Exa Z hp' a "com/example/hasset/hasset/algorithm/Aperture" ∧ Fld Z hp' a "com/example/hasset/hasset/algorithm/Aperture" "clients" "I" (.int c) ∧ Fld Z hp' a "com/example/hasset/hasset/algorithm/Aperture" "span" "I" (.int ((minL c.toInt64 (((d.toInt64 * c.toInt64) + 1 - 1) / 1)).toInt32))) := by
  refine Ct.mk "com/example/hasset/hasset/algorithm/Aperture" "<init>" rfl rfl (a0 := a0) (plainFor_of_name opn2) hO hE (fun x q => by simp at q; subst q; exact ge_a) ?_
  intro K T W
  rw [oef_ob_i1]
  refine gAloadN W d3_0 rfl rfl rfl ?_
  refine wInitO W d3_1 (ow16 hw) (ow17 hw) (ow18 hw) rfl (by decide) 0 (Nat.le_of_eq rfl) (by decide) rfl fun T88 W89 => ?_
  refine gAloadN W89 d3_4 rfl rfl rfl ?_
  refine wLen W89 d3_5 q4 rfl ?_
  refine gIfYes (pc' := 19) W89 d3_6 ((if0 _ _).trans (feq (by decide)).2) (by decide) rfl ?_
  refine gIconst (z := (0 : Int32)) W89 d3_19 rfl rfl ?_
  refine gIstore (ls' := #[.val (.ref a), .val (.ref r), .val (.int c), .val (.int d), .val (.int (0 : Int32)), .unset]) W89 d3_20 rfl rfl ?_
  refine gIload W89 d3_22 rfl rfl ?_
  refine gAloadN W89 d3_24 rfl rfl rfl ?_
  refine wLen W89 d3_25 q4 rfl ?_
  refine gIcmpNo W89 d3_26 (tlt (by decide)).2.1 rfl ?_
  refine gAloadN W89 d3_29 rfl rfl rfl ?_
  refine gIload W89 d3_30 rfl rfl ?_
  refine wLdD (v := (.double (dI n0))) W89 d3_32 q4 (by decide) rfl rfl ?_
  refine gDconst0 (z := (dI 0)) W89 d3_33 dz rfl ?_
  refine gDcmp (z := (1 : Int32)) W89 d3_34 (dpos (by omega) (by omega)) rfl ?_
  refine gIfNo W89 d3_35 ((if0 _ _).trans (tlt (by decide)).2.2.2) rfl ?_
  refine gAloadN W89 d3_38 rfl rfl rfl ?_
  refine gIload W89 d3_39 rfl rfl ?_
  refine wLdD (v := (.double (dI n0))) W89 d3_41 q4 (by decide) rfl rfl ?_
  refine wLdcD (v := 9218868437227405312) W89 d3_42 (ow19 hw) rfl ?_
  refine gDcmp (z := (-1 : Int32)) W89 d3_45 dfin rfl ?_
  refine gIfYes (pc' := 68) W89 d3_46 ((if0 _ _).trans (tlt (by decide)).1) (by decide) rfl ?_
  refine gIinc (z := (1 : Int32)) (ls' := #[.val (.ref a), .val (.ref r), .val (.int c), .val (.int d), .val (.int (1 : Int32)), .unset]) W89 d3_68 rfl (by decide) rfl rfl ?_
  refine gGoto (pc' := 22) W89 d3_71 (by decide) rfl ?_
  refine gIload W89 d3_22 rfl rfl ?_
  refine gAloadN W89 d3_24 rfl rfl rfl ?_
  refine wLen W89 d3_25 q4 rfl ?_
  refine gIcmpYes (pc' := 74) W89 d3_26 (flt (by decide)).2.1 (by decide) rfl ?_
  refine gIloadN W89 d3_74 rfl rfl ?_
  refine gIconst (z := (1 : Int32)) W89 d3_75 rfl rfl ?_
  refine gIcmpYes (pc' := 93) W89 d3_76 (flt (fun q => by have := Int32.lt_iff_toInt_lt.mp q; have e : (1 : Int32).toInt = 1 := (by decide); omega)).2.1 (by decide) rfl ?_
  refine gIloadN W89 d3_93 rfl rfl ?_
  refine gIconst (z := (1 : Int32)) W89 d3_94 rfl rfl ?_
  refine gIcmpYes (pc' := 112) W89 d3_95 (flt (fun q => by have := Int32.lt_iff_toInt_lt.mp q; have e : (1 : Int32).toInt = 1 := (by decide); omega)).2.1 (by decide) rfl ?_
  refine gIloadN W89 d3_112 rfl rfl ?_
  refine gI2L (z := d.toInt64) W89 d3_113 rfl rfl ?_
  refine gIloadN W89 d3_114 rfl rfl ?_
  refine gI2L (z := c.toInt64) W89 d3_115 rfl rfl ?_
  refine gLmul (z := (d.toInt64 * c.toInt64)) W89 d3_116 rfl rfl ?_
  refine gLstore (ls' := #[.val (.ref a), .val (.ref r), .val (.int c), .val (.int d), .val (.long (d.toInt64 * c.toInt64)), .second]) W89 d3_117 rfl rfl ?_
  refine gAloadN W89 d3_119 rfl rfl rfl ?_
  refine gIloadN W89 d3_120 rfl rfl ?_
  refine wPutF (ty := .int) W89 d3_121 (ow20 hw) Via.refl (by simp) q1 q0 (Or.inr ⟨(ow21 hw), rfl, rfl⟩) (ow11 hw) (by decide) rfl rfl rfl fun T90 h92 W91 wr93 => ?_
  have f94 := Fld.same wr93 q1
  refine gAloadN W91 d3_124 rfl rfl rfl ?_
  refine gIloadN W91 d3_125 rfl rfl ?_
  refine gI2L (z := c.toInt64) W91 d3_126 rfl rfl ?_
  refine gLload W91 d3_127 rfl rfl ?_
  refine gAloadN W91 d3_129 rfl rfl rfl ?_
  have f95 := q4.other wr93 nra
  refine wLen W91 d3_130 f95 rfl ?_
  refine gI2L (z := (1 : Int64)) W91 d3_131 (by decide) rfl ?_
  refine gLadd (z := ((d.toInt64 * c.toInt64) + 1)) W91 d3_132 rfl rfl ?_
  refine gLconst (z := (1 : Int64)) W91 d3_133 rfl rfl ?_
  refine gLsub (z := ((d.toInt64 * c.toInt64) + 1 - 1)) W91 d3_134 rfl rfl ?_
  refine gAloadN W91 d3_135 rfl rfl rfl ?_
  refine wLen W91 d3_136 f95 rfl ?_
  refine gI2L (z := (1 : Int64)) W91 d3_137 (by decide) rfl ?_
  refine gLdiv (z := (((d.toInt64 * c.toInt64) + 1 - 1) / 1)) W91 d3_138 (by decide) rfl rfl ?_
  refine wStatic (y := (⟨"java/lang/Math", "min", "(JJ)J"⟩ : MethodName)) (Wd := 1) (argsL := [(.long c.toInt64), (.long (((d.toInt64 * c.toInt64) + 1 - 1) / 1))]) (rest := [(.ref a)]) W91 d3_139 (ow22 hw) (ow23 hw) (ow8 hw) (ow24 hw) (by decide) (Cb.ct (ob_mnJ l Z a0 hw hE (c.toInt64) ((((d.toInt64 * c.toInt64) + 1 - 1) / 1)) h92 W91.old  ) (ow24 hw) (ow8 hw) hE (by decide) (by decide)) (by simp) rfl (lenOf opd3 rfl) rfl (Nat.le_of_eq rfl) (by decide) (by decide) rfl fun v100 so101 T96 h98 W97 kp99 sp102 q103 => ?_
  obtain ⟨rfl, rfl⟩ := q103
  show Go K _ T96 142 #[.val (.ref a), .val (.ref r), .val (.int c), .val (.int d), .val (.long (d.toInt64 * c.toInt64)), .second] [(.long (minL c.toInt64 (((d.toInt64 * c.toInt64) + 1 - 1) / 1))), (.ref a)]
  refine gL2I (z := ((minL c.toInt64 (((d.toInt64 * c.toInt64) + 1 - 1) / 1)).toInt32)) W97 d3_142 rfl rfl ?_
  have f104 := q2.other wr93 (Or.inr (slot_ne (t := .int) (t' := .int) (Or.inr (ow26 hw)) (Or.inr (ow21 hw)) (by decide) (by decide) (by decide)))
  have f105 := f104.keep kp99 nin0
  have f106 := q0.wr wr93
  have f107 := f106.keep kp99
  refine wPutF (ty := .int) W97 d3_143 (ow25 hw) Via.refl (by simp) f105 f107 (Or.inr ⟨(ow26 hw), rfl, rfl⟩) (ow11 hw) (by decide) rfl rfl rfl fun T108 h110 W109 wr111 => ?_
  have f112 := Fld.same wr111 f105
  refine gAloadN W109 d3_146 rfl rfl rfl ?_
  refine gAloadN W109 d3_147 rfl rfl rfl ?_
  have f113 := f95.keep kp99 nin0
  have f114 := f113.other wr111 nra
  refine wStatic (y := (⟨"com/example/hasset/hasset/algorithm/Aperture", "boundaries", "([D)[D"⟩ : MethodName)) (Wd := 1) (argsL := [(.ref r)]) (rest := [(.ref a)]) W109 d3_148 (ow27 hw) (ow28 hw) (ow12 hw) (ow29 hw) (by decide) (Cb.ct (ob_b1 l Z a0 hw hE (r) (kr) (n0) h110 W109.old f114 na0 nb0 ) (ow29 hw) (ow12 hw) hE (by decide) (by decide)) (by simp) rfl (lenOf opd4 rfl) rfl (Nat.le_of_eq rfl) (by decide) (by decide) rfl fun v119 so120 T115 h117 W116 kp118 sp121 q122 => ?_
  obtain ⟨b123, rfl, rfl, f124⟩ := q122
  show Go K _ T115 151 #[.val (.ref a), .val (.ref r), .val (.int c), .val (.int d), .val (.long (d.toInt64 * c.toInt64)), .second] [(.ref b123), (.ref a)]
  have f125 := q3.other wr93 (Or.inr (slot_ne (t := .array .double) (t' := .int) (Or.inr (ow45 hw)) (Or.inr (ow21 hw)) (by decide) (by decide) (by decide)))
  have f126 := f125.keep kp99 nin0
  have f127 := f126.other wr111 (Or.inr (slot_ne (t := .array .double) (t' := .int) (Or.inr (ow45 hw)) (Or.inr (ow26 hw)) (by decide) (by decide) (by decide)))
  have f128 := f127.keep kp118 nin0
  have f129 := f107.wr wr111
  have f130 := f129.keep kp118
  refine wPutF (ty := .array .double) W116 d3_151 (ow44 hw) Via.refl (by simp) f128 f130 (Or.inr ⟨(ow45 hw), rfl, rfl⟩) (ow11 hw) (by decide) rfl rfl rfl fun T131 h133 W132 wr134 => ?_
  have f135 := Fld.same wr134 f128
  have f136 := f130.wr wr134
  have f137 := f94.keep kp99 nin0
  have f138 := f137.other wr111 (Or.inr (slot_ne (t := .int) (t' := .int) (Or.inr (ow21 hw)) (Or.inr (ow26 hw)) (by decide) (by decide) (by decide)))
  have f139 := f138.keep kp118 nin0
  have f140 := f139.other wr134 (Or.inr (slot_ne (t := .int) (t' := .array .double) (Or.inr (ow21 hw)) (Or.inr (ow45 hw)) (by decide) (by decide) (by decide)))
  have f141 := f112.keep kp118 nin0
  have f142 := f141.other wr134 (Or.inr (slot_ne (t := .int) (t' := .array .double) (Or.inr (ow26 hw)) (Or.inr (ow45 hw)) (by decide) (by decide) (by decide)))
  exact wRet0 (so := []) W132 d3_154 (by decide) (by decide) (fun _ q => nomatch q) ⟨rfl, rfl, f136, f140, f142⟩
theorem d1_61 : decode method_2_code 61 = .ok (.iload 10, 2) := by decide +kernel
theorem d1_63 : decode method_2_code 63 = .ok (.iconst 1, 1) := by decide +kernel
theorem d1_64 : decode method_2_code 64 = .ok (.if_icmp .ne 16, 3) := by decide +kernel
theorem d1_67 : decode method_2_code 67 = .ok (.iconst 2, 1) := by decide +kernel
theorem d1_68 : decode method_2_code 68 = .ok (.newarray .double, 2) := by decide +kernel
theorem d1_70 : decode method_2_code 70 = .ok (.dup, 1) := by decide +kernel
theorem d1_71 : decode method_2_code 71 = .ok (.iconst 0, 1) := by decide +kernel
theorem d1_72 : decode method_2_code 72 = .ok (.dload_n 2, 1) := by decide +kernel
theorem d1_73 : decode method_2_code 73 = .ok (.dastore, 1) := by decide +kernel
theorem d1_74 : decode method_2_code 74 = .ok (.dup, 1) := by decide +kernel
theorem d1_75 : decode method_2_code 75 = .ok (.iconst 1, 1) := by decide +kernel
theorem d1_76 : decode method_2_code 76 = .ok (.dload 4, 2) := by decide +kernel
theorem d1_78 : decode method_2_code 78 = .ok (.dastore, 1) := by decide +kernel
theorem d1_79 : decode method_2_code 79 = .ok (.areturn, 1) := by decide +kernel
theorem oef_ob_w2 (m_ : MethodId) (p : Int32) (q : Int32)  : (entryFrame m_ #[(.int p), (.int q)] 11).locals = #[.val (.int p), .val (.int q), .unset, .unset, .unset, .unset, .unset, .unset, .unset, .unset, .unset] := by first | (simp [entryFrame, argsToLocals, Value.category]; done) | rfl
set_option maxRecDepth 65536 in
set_option maxHeartbeats 40000000 in
theorem ob_w2 (l : Launch) (Z : State) (a0 : Array Value) (hw : ∀ d ∈ tables_1, d.before a0 Z = true) (hE : EW Z a0 ([] : List (String × Nat))) (p : Int32) (q : Int32) (h : Heap) (hO : Old Z Z.heap.size h) (hp : (p &&& 3 = 1))  :
    Ct l Z ([] : List (String × Nat)) (⟨"com/example/hasset/hasset/algorithm/ApertureWidthPinLaw", "weights", "(II)[D"⟩ : MethodName) method_2_code 11 (Option.some (Jvm.ClassFile.FieldType.array Jvm.ClassFile.FieldType.double)) ⟨0, 1, 2, 0⟩ #[(.int p), (.int q)] h [] (fun rv' hp' so' => ∃ r : Addr, ∃ kr : ClassId, ∃ n0 : Nat, ∃ n1 : Nat, rv' = some (.ref r) ∧ so' = [] ∧ (h.size ≤ r) ∧ (1 ≤ n0) ∧ (n0 ≤ 8) ∧ (1 ≤ n1) ∧ (n1 ≤ 8) ∧ Arv Z hp' r kr .double (2 : Int32) [(.double (dI n0)), (.double (dI n1))] (.double 0)) := by
  refine Ct.mk "com/example/hasset/hasset/algorithm/ApertureWidthPinLaw" "weights" rfl rfl (a0 := a0) (plainFor_of_name opn1) hO hE (fun x q => nomatch q) ?_
  intro K T W
  rw [oef_ob_w2]
  refine gIloadN W d1_0 rfl rfl ?_
  refine gBipush (z := (7 : Int32)) W d1_1 rfl rfl ?_
  obtain ⟨v143, e144⟩ : ∃ v : Int32, q &&& (7 : Int32) = v := ⟨_, rfl⟩
  refine gIand W d1_3 e144 rfl ?_
  refine gIconst (z := (1 : Int32)) W d1_4 rfl rfl ?_
  obtain ⟨v145, e146⟩ : ∃ v : Int32, v143 + (1 : Int32) = v := ⟨_, rfl⟩
  refine gIadd W d1_5 e146 rfl ?_
  obtain ⟨n0, na0, nb0, ne0⟩ := wgt e144 e146
  refine gI2D (z := (dI n0)) W d1_6 ne0 rfl ?_
  refine gDstoreN (ls' := #[.val (.int p), .val (.int q), .val (.double (dI n0)), .second, .unset, .unset, .unset, .unset, .unset, .unset, .unset]) W d1_7 rfl rfl ?_
  refine gIloadN W d1_8 rfl rfl ?_
  refine gIconst (z := (3 : Int32)) W d1_9 rfl rfl ?_
  obtain ⟨v147, e148⟩ : ∃ v : Int32, (q.toUInt32 >>> ((3 : Int32) &&& 31).toUInt32).toInt32 = v := ⟨_, rfl⟩
  refine gIushr W d1_10 e148 rfl ?_
  refine gBipush (z := (7 : Int32)) W d1_11 rfl rfl ?_
  obtain ⟨v149, e150⟩ : ∃ v : Int32, v147 &&& (7 : Int32) = v := ⟨_, rfl⟩
  refine gIand W d1_13 e150 rfl ?_
  refine gIconst (z := (1 : Int32)) W d1_14 rfl rfl ?_
  obtain ⟨v151, e152⟩ : ∃ v : Int32, v149 + (1 : Int32) = v := ⟨_, rfl⟩
  refine gIadd W d1_15 e152 rfl ?_
  obtain ⟨n1, na1, nb1, ne1⟩ := wgt e150 e152
  refine gI2D (z := (dI n1)) W d1_16 ne1 rfl ?_
  refine gDstore (ls' := #[.val (.int p), .val (.int q), .val (.double (dI n0)), .second, .val (.double (dI n1)), .second, .unset, .unset, .unset, .unset, .unset]) W d1_17 rfl rfl ?_
  refine gIloadN W d1_19 rfl rfl ?_
  refine gBipush (z := (6 : Int32)) W d1_20 rfl rfl ?_
  obtain ⟨v153, e154⟩ : ∃ v : Int32, (q.toUInt32 >>> ((6 : Int32) &&& 31).toUInt32).toInt32 = v := ⟨_, rfl⟩
  refine gIushr W d1_22 e154 rfl ?_
  refine gBipush (z := (7 : Int32)) W d1_23 rfl rfl ?_
  obtain ⟨v155, e156⟩ : ∃ v : Int32, v153 &&& (7 : Int32) = v := ⟨_, rfl⟩
  refine gIand W d1_25 e156 rfl ?_
  refine gIconst (z := (1 : Int32)) W d1_26 rfl rfl ?_
  obtain ⟨v157, e158⟩ : ∃ v : Int32, v155 + (1 : Int32) = v := ⟨_, rfl⟩
  refine gIadd W d1_27 e158 rfl ?_
  obtain ⟨n2, na2, nb2, ne2⟩ := wgt e156 e158
  refine gI2D (z := (dI n2)) W d1_28 ne2 rfl ?_
  refine gDstore (ls' := #[.val (.int p), .val (.int q), .val (.double (dI n0)), .second, .val (.double (dI n1)), .second, .val (.double (dI n2)), .second, .unset, .unset, .unset]) W d1_29 rfl rfl ?_
  refine gIloadN W d1_31 rfl rfl ?_
  refine gBipush (z := (9 : Int32)) W d1_32 rfl rfl ?_
  obtain ⟨v159, e160⟩ : ∃ v : Int32, (q.toUInt32 >>> ((9 : Int32) &&& 31).toUInt32).toInt32 = v := ⟨_, rfl⟩
  refine gIushr W d1_34 e160 rfl ?_
  refine gBipush (z := (7 : Int32)) W d1_35 rfl rfl ?_
  obtain ⟨v161, e162⟩ : ∃ v : Int32, v159 &&& (7 : Int32) = v := ⟨_, rfl⟩
  refine gIand W d1_37 e162 rfl ?_
  refine gIconst (z := (1 : Int32)) W d1_38 rfl rfl ?_
  obtain ⟨v163, e164⟩ : ∃ v : Int32, v161 + (1 : Int32) = v := ⟨_, rfl⟩
  refine gIadd W d1_39 e164 rfl ?_
  obtain ⟨n3, na3, nb3, ne3⟩ := wgt e162 e164
  refine gI2D (z := (dI n3)) W d1_40 ne3 rfl ?_
  refine gDstore (ls' := #[.val (.int p), .val (.int q), .val (.double (dI n0)), .second, .val (.double (dI n1)), .second, .val (.double (dI n2)), .second, .val (.double (dI n3)), .second, .unset]) W d1_41 rfl rfl ?_
  refine gIloadN W d1_43 rfl rfl ?_
  refine gIconst (z := (3 : Int32)) W d1_44 rfl rfl ?_
  refine gIand (z := (1 : Int32)) W d1_45 hp rfl ?_
  refine gIstore (ls' := #[.val (.int p), .val (.int q), .val (.double (dI n0)), .second, .val (.double (dI n1)), .second, .val (.double (dI n2)), .second, .val (.double (dI n3)), .second, .val (.int (1 : Int32))]) W d1_46 rfl rfl ?_
  refine gIload W d1_48 rfl rfl ?_
  refine gIfYes (pc' := 61) W d1_50 ((if0 _ _).trans (feq (by decide)).2) (by decide) rfl ?_
  refine gIload W d1_61 rfl rfl ?_
  refine gIconst (z := (1 : Int32)) W d1_63 rfl rfl ?_
  refine gIcmpNo W d1_64 (teq (by decide)).2 rfl ?_
  refine gIconst (z := (2 : Int32)) W d1_67 rfl rfl ?_
  refine wNewP (cap := 2) W d1_68 (ow4 hw) (by decide) (by decide) (by decide) (by decide) (by decide) rfl fun T165 h167 a168 k172 W166 E169 g170 A171 => ?_
  have f173 : Arv Z h167 a168 k172 .double (2 : Int32) [(.double 0), (.double 0)] (.double 0) := A171 2
  refine gDup W166 d1_70 rfl rfl ?_
  refine gIconst (z := (0 : Int32)) W166 d1_71 rfl rfl ?_
  refine gDloadN W166 d1_72 rfl rfl ?_
  refine wStD W166 d1_73 (by simp) f173 (by decide) 0 (by decide) (show 0 < 2 from by decide) rfl fun T174 h176 W175 wr177 A178 => ?_
  have f179 : Arv Z h176 a168 k172 .double (2 : Int32) [(.double (dI n0)), (.double 0)] (.double 0) := A178
  refine gDup W175 d1_74 rfl rfl ?_
  refine gIconst (z := (1 : Int32)) W175 d1_75 rfl rfl ?_
  refine gDload W175 d1_76 rfl rfl ?_
  refine wStD W175 d1_78 (by simp) f179 (by decide) 1 (by decide) (show 1 < 2 from by decide) rfl fun T180 h182 W181 wr183 A184 => ?_
  have f185 : Arv Z h182 a168 k172 .double (2 : Int32) [(.double (dI n0)), (.double (dI n1))] (.double 0) := A184
  exact wRetA (so := []) (t := .array .double) W181 d1_79 rfl rfl rfl (by decide) (by decide) (fun _ q => nomatch q) ⟨a168, k172, n0, n1, rfl, rfl, (Nat.le_of_eq g170.symm), na0, nb0, na1, nb1, f185⟩
theorem oef_ob_b2 (m_ : MethodId) (r : Addr)  : (entryFrame m_ #[(.ref r)] 13).locals = #[.val (.ref r), .unset, .unset, .unset, .unset, .unset, .unset, .unset, .unset, .unset, .unset, .unset, .unset] := by first | (simp [entryFrame, argsToLocals, Value.category]; done) | rfl
set_option maxRecDepth 65536 in
set_option maxHeartbeats 40000000 in
theorem ob_b2 (l : Launch) (Z : State) (a0 : Array Value) (hw : ∀ d ∈ tables_1, d.before a0 Z = true) (hE : EW Z a0 ([] : List (String × Nat))) (r : Addr) (kr : ClassId) (n0 : Nat) (n1 : Nat) (h : Heap) (hO : Old Z Z.heap.size h) (q0 : Arv Z h r kr .double (2 : Int32) [(.double (dI n0)), (.double (dI n1))] (.double 0)) (na0 : (1 ≤ n0)) (nb0 : (n0 ≤ 8)) (na1 : (1 ≤ n1)) (nb1 : (n1 ≤ 8))  :
    Ct l Z ([] : List (String × Nat)) (⟨"com/example/hasset/hasset/algorithm/Aperture", "boundaries", "([D)[D"⟩ : MethodName) prog_1_method_2_code 13 (Option.some (Jvm.ClassFile.FieldType.array Jvm.ClassFile.FieldType.double)) ⟨2, 1, 3, 60⟩ #[(.ref r)] h [] (fun rv' hp' so' => ∃ b : Addr, rv' = some (.ref b) ∧ so' = [] ∧ (h.size ≤ b)) := by
  refine Ct.mk "com/example/hasset/hasset/algorithm/Aperture" "boundaries" rfl rfl (a0 := a0) (plainFor_of_name opn2) hO hE (fun x q => nomatch q) ?_
  intro K T W
  rw [oef_ob_b2]
  refine gAloadN W d6_0 rfl rfl rfl ?_
  refine wLen W d6_1 q0 rfl ?_
  refine gIconst (z := (1 : Int32)) W d6_2 rfl rfl ?_
  refine gIadd (z := (3 : Int32)) W d6_3 (by decide) rfl ?_
  refine wNewP (cap := 3) W d6_4 (ow4 hw) (by decide) (by decide) (by decide) (by decide) (by decide) rfl fun T186 h188 a189 k193 W187 E190 g191 A192 => ?_
  have f194 : Arv Z h188 a189 k193 .double (3 : Int32) [(.double 0), (.double 0), (.double 0)] (.double 0) := A192 3
  refine gAstoreN (ls' := #[.val (.ref r), .val (.ref a189), .unset, .unset, .unset, .unset, .unset, .unset, .unset, .unset, .unset, .unset, .unset]) W187 d6_6 rfl rfl rfl ?_
  refine gDconst0 (z := (dI 0)) W187 d6_7 dz rfl ?_
  refine gDstoreN (ls' := #[.val (.ref r), .val (.ref a189), .val (.double (dI 0)), .second, .unset, .unset, .unset, .unset, .unset, .unset, .unset, .unset, .unset]) W187 d6_8 rfl rfl ?_
  refine gDconst0 (z := (dI 0)) W187 d6_9 dz rfl ?_
  refine gDstore (ls' := #[.val (.ref r), .val (.ref a189), .val (.double (dI 0)), .second, .val (.double (dI 0)), .second, .unset, .unset, .unset, .unset, .unset, .unset, .unset]) W187 d6_10 rfl rfl ?_
  refine gIconst (z := (0 : Int32)) W187 d6_12 rfl rfl ?_
  refine gIstore (ls' := #[.val (.ref r), .val (.ref a189), .val (.double (dI 0)), .second, .val (.double (dI 0)), .second, .val (.int (0 : Int32)), .unset, .unset, .unset, .unset, .unset, .unset]) W187 d6_13 rfl rfl ?_
  refine gIload W187 d6_15 rfl rfl ?_
  refine gAloadN W187 d6_17 rfl rfl rfl ?_
  have f195 := q0.ext E190
  refine wLen W187 d6_18 f195 rfl ?_
  refine gIcmpNo W187 d6_19 (tlt (by decide)).2.1 rfl ?_
  refine gAloadN W187 d6_22 rfl rfl rfl ?_
  refine gIload W187 d6_23 rfl rfl ?_
  refine wLdD (v := (.double (dI n0))) W187 d6_25 f195 (by decide) rfl rfl ?_
  refine gDstore (ls' := #[.val (.ref r), .val (.ref a189), .val (.double (dI 0)), .second, .val (.double (dI 0)), .second, .val (.int (0 : Int32)), .val (.double (dI n0)), .second, .unset, .unset, .unset, .unset]) W187 d6_26 rfl rfl ?_
  refine gDloadN W187 d6_28 rfl rfl ?_
  refine gDload W187 d6_29 rfl rfl ?_
  refine gDadd (z := (dI n0)) W187 d6_31 (dadd_dI (by omega) (by omega)) (nn_dI _) rfl ?_
  refine gDstore (ls' := #[.val (.ref r), .val (.ref a189), .val (.double (dI 0)), .second, .val (.double (dI 0)), .second, .val (.int (0 : Int32)), .val (.double (dI n0)), .second, .val (.double (dI n0)), .second, .unset, .unset]) W187 d6_32 rfl rfl ?_
  refine gDload W187 d6_34 rfl rfl ?_
  refine gDloadN W187 d6_36 rfl rfl ?_
  refine gDsub (z := (dI n0)) W187 d6_37 (dsub_dI (by omega) (by omega)) (nn_dI _) rfl ?_
  refine gDstore (ls' := #[.val (.ref r), .val (.ref a189), .val (.double (dI 0)), .second, .val (.double (dI 0)), .second, .val (.int (0 : Int32)), .val (.double (dI n0)), .second, .val (.double (dI n0)), .second, .val (.double (dI n0)), .second]) W187 d6_38 rfl rfl ?_
  refine gDload W187 d6_40 rfl rfl ?_
  refine gDloadN W187 d6_42 rfl rfl ?_
  refine gDload W187 d6_43 rfl rfl ?_
  refine gDload W187 d6_45 rfl rfl ?_
  refine gDsub (z := (dI 0)) W187 d6_47 (dsub_dI (by omega) (by omega)) (nn_dI _) rfl ?_
  refine gDsub (z := (dI 0)) W187 d6_48 (dsub_dI (by omega) (by omega)) (nn_dI _) rfl ?_
  refine gDload W187 d6_49 rfl rfl ?_
  refine gDload W187 d6_51 rfl rfl ?_
  refine gDsub (z := (dI 0)) W187 d6_53 (dsub_dI (by omega) (by omega)) (nn_dI _) rfl ?_
  refine gDadd (z := (dI 0)) W187 d6_54 (dadd_dI (by omega) (by omega)) (nn_dI _) rfl ?_
  refine gDadd (z := (dI 0)) W187 d6_55 (dadd_dI (by omega) (by omega)) (nn_dI _) rfl ?_
  refine gDstore (ls' := #[.val (.ref r), .val (.ref a189), .val (.double (dI 0)), .second, .val (.double (dI 0)), .second, .val (.int (0 : Int32)), .val (.double (dI n0)), .second, .val (.double (dI n0)), .second, .val (.double (dI n0)), .second]) W187 d6_56 rfl rfl ?_
  refine gDload W187 d6_58 rfl rfl ?_
  refine gDstoreN (ls' := #[.val (.ref r), .val (.ref a189), .val (.double (dI n0)), .second, .val (.double (dI 0)), .second, .val (.int (0 : Int32)), .val (.double (dI n0)), .second, .val (.double (dI n0)), .second, .val (.double (dI n0)), .second]) W187 d6_60 rfl rfl ?_
  refine gAloadN W187 d6_61 rfl rfl rfl ?_
  refine gIload W187 d6_62 rfl rfl ?_
  refine gIconst (z := (1 : Int32)) W187 d6_64 rfl rfl ?_
  refine gIadd (z := (1 : Int32)) W187 d6_65 (by decide) rfl ?_
  refine gDloadN W187 d6_66 rfl rfl ?_
  refine gDload W187 d6_67 rfl rfl ?_
  refine gDadd (z := (dI n0)) W187 d6_69 (dadd_dI (by omega) (by omega)) (nn_dI _) rfl ?_
  refine wStD W187 d6_70 (by simp) f194 (by decide) 1 (by decide) (show 1 < 3 from by decide) rfl fun T196 h198 W197 wr199 A200 => ?_
  have f201 : Arv Z h198 a189 k193 .double (3 : Int32) [(.double 0), (.double (dI n0)), (.double 0)] (.double 0) := A200
  refine gIinc (z := (1 : Int32)) (ls' := #[.val (.ref r), .val (.ref a189), .val (.double (dI n0)), .second, .val (.double (dI 0)), .second, .val (.int (1 : Int32)), .val (.double (dI n0)), .second, .val (.double (dI n0)), .second, .val (.double (dI n0)), .second]) W197 d6_71 rfl (by decide) rfl rfl ?_
  refine gGoto (pc' := 15) W197 d6_74 (by decide) rfl ?_
  refine gIload W197 d6_15 rfl rfl ?_
  refine gAloadN W197 d6_17 rfl rfl rfl ?_
  have ne202 : r ≠ a189 := Nat.ne_of_lt (Nat.lt_of_lt_of_le q0.lt (Nat.le_of_eq g191.symm))
  have f203 := f195.other wr199 ne202
  refine wLen W197 d6_18 f203 rfl ?_
  refine gIcmpNo W197 d6_19 (tlt (by decide)).2.1 rfl ?_
  refine gAloadN W197 d6_22 rfl rfl rfl ?_
  refine gIload W197 d6_23 rfl rfl ?_
  refine wLdD (v := (.double (dI n1))) W197 d6_25 f203 (by decide) rfl rfl ?_
  refine gDstore (ls' := #[.val (.ref r), .val (.ref a189), .val (.double (dI n0)), .second, .val (.double (dI 0)), .second, .val (.int (1 : Int32)), .val (.double (dI n1)), .second, .val (.double (dI n0)), .second, .val (.double (dI n0)), .second]) W197 d6_26 rfl rfl ?_
  refine gDloadN W197 d6_28 rfl rfl ?_
  refine gDload W197 d6_29 rfl rfl ?_
  refine gDadd (z := (dI (n0 + n1))) W197 d6_31 (dadd_dI (by omega) (by omega)) (nn_dI _) rfl ?_
  refine gDstore (ls' := #[.val (.ref r), .val (.ref a189), .val (.double (dI n0)), .second, .val (.double (dI 0)), .second, .val (.int (1 : Int32)), .val (.double (dI n1)), .second, .val (.double (dI (n0 + n1))), .second, .val (.double (dI n0)), .second]) W197 d6_32 rfl rfl ?_
  refine gDload W197 d6_34 rfl rfl ?_
  refine gDloadN W197 d6_36 rfl rfl ?_
  refine gDsub (z := (dI n1)) W197 d6_37 (dsub_dI (by omega) (by omega)) (nn_dI _) rfl ?_
  refine gDstore (ls' := #[.val (.ref r), .val (.ref a189), .val (.double (dI n0)), .second, .val (.double (dI 0)), .second, .val (.int (1 : Int32)), .val (.double (dI n1)), .second, .val (.double (dI (n0 + n1))), .second, .val (.double (dI n1)), .second]) W197 d6_38 rfl rfl ?_
  refine gDload W197 d6_40 rfl rfl ?_
  refine gDloadN W197 d6_42 rfl rfl ?_
  refine gDload W197 d6_43 rfl rfl ?_
  refine gDload W197 d6_45 rfl rfl ?_
  refine gDsub (z := (dI n0)) W197 d6_47 (dsub_dI (by omega) (by omega)) (nn_dI _) rfl ?_
  refine gDsub (z := (dI 0)) W197 d6_48 (dsub_dI (by omega) (by omega)) (nn_dI _) rfl ?_
  refine gDload W197 d6_49 rfl rfl ?_
  refine gDload W197 d6_51 rfl rfl ?_
  refine gDsub (z := (dI 0)) W197 d6_53 (dsub_dI (by omega) (by omega)) (nn_dI _) rfl ?_
  refine gDadd (z := (dI 0)) W197 d6_54 (dadd_dI (by omega) (by omega)) (nn_dI _) rfl ?_
  refine gDadd (z := (dI 0)) W197 d6_55 (dadd_dI (by omega) (by omega)) (nn_dI _) rfl ?_
  refine gDstore (ls' := #[.val (.ref r), .val (.ref a189), .val (.double (dI n0)), .second, .val (.double (dI 0)), .second, .val (.int (1 : Int32)), .val (.double (dI n1)), .second, .val (.double (dI (n0 + n1))), .second, .val (.double (dI n1)), .second]) W197 d6_56 rfl rfl ?_
  refine gDload W197 d6_58 rfl rfl ?_
  refine gDstoreN (ls' := #[.val (.ref r), .val (.ref a189), .val (.double (dI (n0 + n1))), .second, .val (.double (dI 0)), .second, .val (.int (1 : Int32)), .val (.double (dI n1)), .second, .val (.double (dI (n0 + n1))), .second, .val (.double (dI n1)), .second]) W197 d6_60 rfl rfl ?_
  refine gAloadN W197 d6_61 rfl rfl rfl ?_
  refine gIload W197 d6_62 rfl rfl ?_
  refine gIconst (z := (1 : Int32)) W197 d6_64 rfl rfl ?_
  refine gIadd (z := (2 : Int32)) W197 d6_65 (by decide) rfl ?_
  refine gDloadN W197 d6_66 rfl rfl ?_
  refine gDload W197 d6_67 rfl rfl ?_
  refine gDadd (z := (dI (n0 + n1))) W197 d6_69 (dadd_dI (by omega) (by omega)) (nn_dI _) rfl ?_
  refine wStD W197 d6_70 (by simp) f201 (by decide) 2 (by decide) (show 2 < 3 from by decide) rfl fun T204 h206 W205 wr207 A208 => ?_
  have f209 : Arv Z h206 a189 k193 .double (3 : Int32) [(.double 0), (.double (dI n0)), (.double (dI (n0 + n1)))] (.double 0) := A208
  refine gIinc (z := (2 : Int32)) (ls' := #[.val (.ref r), .val (.ref a189), .val (.double (dI (n0 + n1))), .second, .val (.double (dI 0)), .second, .val (.int (2 : Int32)), .val (.double (dI n1)), .second, .val (.double (dI (n0 + n1))), .second, .val (.double (dI n1)), .second]) W205 d6_71 rfl (by decide) rfl rfl ?_
  refine gGoto (pc' := 15) W205 d6_74 (by decide) rfl ?_
  refine gIload W205 d6_15 rfl rfl ?_
  refine gAloadN W205 d6_17 rfl rfl rfl ?_
  have f210 := f203.other wr207 ne202
  refine wLen W205 d6_18 f210 rfl ?_
  refine gIcmpYes (pc' := 77) W205 d6_19 (flt (by decide)).2.1 (by decide) rfl ?_
  refine gAloadN W205 d6_77 rfl rfl rfl ?_
  refine gAloadN W205 d6_78 rfl rfl rfl ?_
  refine wLen W205 d6_79 f210 rfl ?_
  refine wLdD (v := (.double (dI (n0 + n1)))) W205 d6_80 f209 (by decide) rfl rfl ?_
  refine gDstore (ls' := #[.val (.ref r), .val (.ref a189), .val (.double (dI (n0 + n1))), .second, .val (.double (dI 0)), .second, .val (.double (dI (n0 + n1))), .second, .unset, .val (.double (dI (n0 + n1))), .second, .val (.double (dI n1)), .second]) W205 d6_81 rfl rfl ?_
  refine gDload W205 d6_83 rfl rfl ?_
  refine wStatic (y := (⟨"java/lang/Double", "isFinite", "(D)Z"⟩ : MethodName)) (Wd := 0) (argsL := [(.double (dI (n0 + n1)))]) (rest := []) W205 d6_85 (ow30 hw) (ow31 hw) (ow32 hw) (ow33 hw) (by decide) (Cb.ct (ob_fi l Z a0 hw hE ((n0 + n1)) h206 W205.old (by omega) ) (ow33 hw) (ow32 hw) hE (by decide) (by decide)) (by simp) rfl (lenOf opd1 rfl) rfl (Nat.le_of_eq rfl) (by decide) (by decide) rfl fun v215 so216 T211 h213 W212 kp214 sp217 q218 => ?_
  obtain ⟨rfl, rfl⟩ := q218
  show Go K _ T211 88 #[.val (.ref r), .val (.ref a189), .val (.double (dI (n0 + n1))), .second, .val (.double (dI 0)), .second, .val (.double (dI (n0 + n1))), .second, .unset, .val (.double (dI (n0 + n1))), .second, .val (.double (dI n1)), .second] [(.int (1 : Int32))]
  refine gIfYes (pc' := 101) W212 d6_88 ((if0 _ _).trans (feq (by decide)).2) (by decide) rfl ?_
  refine gIconst (z := (1 : Int32)) W212 d6_101 rfl rfl ?_
  refine gIstore (ls' := #[.val (.ref r), .val (.ref a189), .val (.double (dI (n0 + n1))), .second, .val (.double (dI 0)), .second, .val (.double (dI (n0 + n1))), .second, .val (.int (1 : Int32)), .val (.double (dI (n0 + n1))), .second, .val (.double (dI n1)), .second]) W212 d6_102 rfl rfl ?_
  refine gIload W212 d6_104 rfl rfl ?_
  refine gAloadN W212 d6_106 rfl rfl rfl ?_
  have f219 := f210.keep kp214 nin0
  refine wLen W212 d6_107 f219 rfl ?_
  refine gIcmpNo W212 d6_108 (flt (by decide)).2.2.1 rfl ?_
  refine gAloadN W212 d6_111 rfl rfl rfl ?_
  refine gIload W212 d6_112 rfl rfl ?_
  refine gAloadN W212 d6_114 rfl rfl rfl ?_
  refine gIload W212 d6_115 rfl rfl ?_
  refine gIconst (z := (1 : Int32)) W212 d6_117 rfl rfl ?_
  refine gIsub (z := (0 : Int32)) W212 d6_118 (by decide) rfl ?_
  have f220 := f209.keep kp214 nin0
  refine wLdD (v := (.double 0)) W212 d6_119 f220 (by decide) rfl rfl ?_
  refine gDconst1 (z := FP.dconst1) W212 d6_120 rfl rfl ?_
  refine gAloadN W212 d6_121 rfl rfl rfl ?_
  refine gIload W212 d6_122 rfl rfl ?_
  refine wLdD (v := (.double (dI n0))) W212 d6_124 f220 (by decide) rfl rfl ?_
  refine gDload W212 d6_125 rfl rfl ?_
  obtain ⟨z221, e222⟩ : ∃ z, FP.ddiv (dI n0) (dI (n0 + n1)) = z := ⟨_, rfl⟩
  have nz223 : NoNaN64 z221 := e222 ▸ nn_div (by omega) (by omega)
  refine gDdiv (z := z221) W212 d6_127 e222 nz223 rfl ?_
  obtain ⟨z224, e225⟩ : ∃ z, Native.java_lang_Math.nans.pick64 false FP.dconst1 z221 = z := ⟨_, rfl⟩
  have nz226 : NoNaN64 z224 := e225 ▸ pick64_noNaN nn_one nz223
  refine wNat (y := (⟨"java/lang/Math", "min", "(DD)D"⟩ : MethodName)) (Wd := 4) (argsL := [(.double FP.dconst1), (.double z221)]) (rest := [(.double 0), (.int (1 : Int32)), (.ref a189)]) (val' := (.double z224)) W212 d6_128 (ow38 hw) (ow39 hw) (ow8 hw) (ow40 hw) (by decide) (fun _ hc => Jvm.Free.Fl.Abs.minD_pays (l := l) FP.dconst1 z221 (by exact hc) (by decide) (by decide)) rfl (lenOf opd2 rfl) rfl (Nat.le_of_eq rfl) (by decide) (by decide) ⟨rfl, nn_one, nz223⟩ (congrArg Value.double e225) rfl fun T227 W228 => ?_
  obtain ⟨z229, e230⟩ : ∃ z, Native.java_lang_Math.nans.pick64 true 0 z224 = z := ⟨_, rfl⟩
  have nz231 : NoNaN64 z229 := e230 ▸ pick64_noNaN nn_zero nz226
  refine wNat (y := (⟨"java/lang/Math", "max", "(DD)D"⟩ : MethodName)) (Wd := 2) (argsL := [(.double 0), (.double z224)]) (rest := [(.int (1 : Int32)), (.ref a189)]) (val' := (.double z229)) W228 d6_131 (ow41 hw) (ow42 hw) (ow8 hw) (ow43 hw) (by decide) (fun _ hc => Jvm.Free.Fl.Abs.maxD_pays (l := l) 0 z224 (by exact hc) (by decide) (by decide)) rfl (lenOf opd2 rfl) rfl (Nat.le_of_eq rfl) (by decide) (by decide) ⟨rfl, nn_zero, nz226⟩ (congrArg Value.double e230) rfl fun T232 W233 => ?_
  refine wStD W233 d6_134 (by simp) f220 (by decide) 1 (by decide) (show 1 < 3 from by decide) rfl fun T234 h236 W235 wr237 A238 => ?_
  have f239 : Arv Z h236 a189 k193 .double (3 : Int32) [(.double 0), (.double z229), (.double (dI (n0 + n1)))] (.double 0) := A238
  refine gIinc (z := (2 : Int32)) (ls' := #[.val (.ref r), .val (.ref a189), .val (.double (dI (n0 + n1))), .second, .val (.double (dI 0)), .second, .val (.double (dI (n0 + n1))), .second, .val (.int (2 : Int32)), .val (.double (dI (n0 + n1))), .second, .val (.double (dI n1)), .second]) W235 d6_135 rfl (by decide) rfl rfl ?_
  refine gGoto (pc' := 104) W235 d6_138 (by decide) rfl ?_
  refine gIload W235 d6_104 rfl rfl ?_
  refine gAloadN W235 d6_106 rfl rfl rfl ?_
  have f240 := f219.other wr237 ne202
  refine wLen W235 d6_107 f240 rfl ?_
  refine gIcmpNo W235 d6_108 (flt (by decide)).2.2.1 rfl ?_
  refine gAloadN W235 d6_111 rfl rfl rfl ?_
  refine gIload W235 d6_112 rfl rfl ?_
  refine gAloadN W235 d6_114 rfl rfl rfl ?_
  refine gIload W235 d6_115 rfl rfl ?_
  refine gIconst (z := (1 : Int32)) W235 d6_117 rfl rfl ?_
  refine gIsub (z := (1 : Int32)) W235 d6_118 (by decide) rfl ?_
  refine wLdD (v := (.double z229)) W235 d6_119 f239 (by decide) rfl rfl ?_
  refine gDconst1 (z := FP.dconst1) W235 d6_120 rfl rfl ?_
  refine gAloadN W235 d6_121 rfl rfl rfl ?_
  refine gIload W235 d6_122 rfl rfl ?_
  refine wLdD (v := (.double (dI (n0 + n1)))) W235 d6_124 f239 (by decide) rfl rfl ?_
  refine gDload W235 d6_125 rfl rfl ?_
  obtain ⟨z241, e242⟩ : ∃ z, FP.ddiv (dI (n0 + n1)) (dI (n0 + n1)) = z := ⟨_, rfl⟩
  have nz243 : NoNaN64 z241 := e242 ▸ nn_div (by omega) (by omega)
  refine gDdiv (z := z241) W235 d6_127 e242 nz243 rfl ?_
  obtain ⟨z244, e245⟩ : ∃ z, Native.java_lang_Math.nans.pick64 false FP.dconst1 z241 = z := ⟨_, rfl⟩
  have nz246 : NoNaN64 z244 := e245 ▸ pick64_noNaN nn_one nz243
  refine wNat (y := (⟨"java/lang/Math", "min", "(DD)D"⟩ : MethodName)) (Wd := 4) (argsL := [(.double FP.dconst1), (.double z241)]) (rest := [(.double z229), (.int (2 : Int32)), (.ref a189)]) (val' := (.double z244)) W235 d6_128 (ow38 hw) (ow39 hw) (ow8 hw) (ow40 hw) (by decide) (fun _ hc => Jvm.Free.Fl.Abs.minD_pays (l := l) FP.dconst1 z241 (by exact hc) (by decide) (by decide)) rfl (lenOf opd2 rfl) rfl (Nat.le_of_eq rfl) (by decide) (by decide) ⟨rfl, nn_one, nz243⟩ (congrArg Value.double e245) rfl fun T247 W248 => ?_
  obtain ⟨z249, e250⟩ : ∃ z, Native.java_lang_Math.nans.pick64 true z229 z244 = z := ⟨_, rfl⟩
  have nz251 : NoNaN64 z249 := e250 ▸ pick64_noNaN nz231 nz246
  refine wNat (y := (⟨"java/lang/Math", "max", "(DD)D"⟩ : MethodName)) (Wd := 2) (argsL := [(.double z229), (.double z244)]) (rest := [(.int (2 : Int32)), (.ref a189)]) (val' := (.double z249)) W248 d6_131 (ow41 hw) (ow42 hw) (ow8 hw) (ow43 hw) (by decide) (fun _ hc => Jvm.Free.Fl.Abs.maxD_pays (l := l) z229 z244 (by exact hc) (by decide) (by decide)) rfl (lenOf opd2 rfl) rfl (Nat.le_of_eq rfl) (by decide) (by decide) ⟨rfl, nz231, nz246⟩ (congrArg Value.double e250) rfl fun T252 W253 => ?_
  refine wStD W253 d6_134 (by simp) f239 (by decide) 2 (by decide) (show 2 < 3 from by decide) rfl fun T254 h256 W255 wr257 A258 => ?_
  have f259 : Arv Z h256 a189 k193 .double (3 : Int32) [(.double 0), (.double z229), (.double z249)] (.double 0) := A258
  refine gIinc (z := (3 : Int32)) (ls' := #[.val (.ref r), .val (.ref a189), .val (.double (dI (n0 + n1))), .second, .val (.double (dI 0)), .second, .val (.double (dI (n0 + n1))), .second, .val (.int (3 : Int32)), .val (.double (dI (n0 + n1))), .second, .val (.double (dI n1)), .second]) W255 d6_135 rfl (by decide) rfl rfl ?_
  refine gGoto (pc' := 104) W255 d6_138 (by decide) rfl ?_
  refine gIload W255 d6_104 rfl rfl ?_
  refine gAloadN W255 d6_106 rfl rfl rfl ?_
  have f260 := f240.other wr257 ne202
  refine wLen W255 d6_107 f260 rfl ?_
  refine gIcmpYes (pc' := 141) W255 d6_108 (tlt (by decide)).2.2.1 (by decide) rfl ?_
  refine gAloadN W255 d6_141 rfl rfl rfl ?_
  exact wRetA (so := []) (t := .array .double) W255 d6_142 rfl rfl rfl (by decide) (by decide) (fun _ q => nomatch q) ⟨a189, rfl, rfl, (Nat.le_of_eq g191.symm)⟩
theorem oef_ob_i2 (m_ : MethodId) (a : Addr) (r : Addr) (c : Int32) (d : Int32)  : (entryFrame m_ #[(.ref a), (.ref r), (.int c), (.int d)] 6).locals = #[.val (.ref a), .val (.ref r), .val (.int c), .val (.int d), .unset, .unset] := by first | (simp [entryFrame, argsToLocals, Value.category]; done) | rfl
set_option maxRecDepth 65536 in
set_option maxHeartbeats 40000000 in
theorem ob_i2 (l : Launch) (Z : State) (a0 : Array Value) (hw : ∀ d ∈ tables_1, d.before a0 Z = true) (hE : EW Z a0 ([] : List (String × Nat))) (a : Addr) (r : Addr) (kr : ClassId) (c : Int32) (d : Int32) (n0 : Nat) (n1 : Nat) (h : Heap) (hO : Old Z Z.heap.size h) (q0 : Exa Z h a "com/example/hasset/hasset/algorithm/Aperture") (q1 : Fld Z h a "com/example/hasset/hasset/algorithm/Aperture" "clients" "I" (.int (0 : Int32))) (q2 : Fld Z h a "com/example/hasset/hasset/algorithm/Aperture" "span" "I" (.int (0 : Int32))) (q3 : Fld Z h a "com/example/hasset/hasset/algorithm/Aperture" "boundaries" "[D" .null) (q4 : Arv Z h r kr .double (2 : Int32) [(.double (dI n0)), (.double (dI n1))] (.double 0)) (nra : (r ≠ a)) (hc : (0 < c.toInt)) (hd : (0 < d.toInt)) (na0 : (1 ≤ n0)) (nb0 : (n0 ≤ 8)) (na1 : (1 ≤ n1)) (nb1 : (n1 ≤ 8)) (ge_a : Z.heap.size ≤ a) :
    Ct l Z ([] : List (String × Nat)) (⟨"com/example/hasset/hasset/algorithm/Aperture", "<init>", "([DII)V"⟩ : MethodName) prog_1_method_1_code 6 (Option.none : Option Jvm.ClassFile.FieldType) ⟨3, 1, 3, 95⟩ #[(.ref a), (.ref r), (.int c), (.int d)] h [a] (fun rv' hp' so' => rv' = none ∧ so' = [] ∧ Exa Z hp' a "com/example/hasset/hasset/algorithm/Aperture" ∧ Fld Z hp' a "com/example/hasset/hasset/algorithm/Aperture" "clients" "I" (.int c) ∧ Fld Z hp' a "com/example/hasset/hasset/algorithm/Aperture" "span" "I" (.int ((minL c.toInt64 (((d.toInt64 * c.toInt64) + 2 - 1) / 2)).toInt32))) := by
  refine Ct.mk "com/example/hasset/hasset/algorithm/Aperture" "<init>" rfl rfl (a0 := a0) (plainFor_of_name opn2) hO hE (fun x q => by simp at q; subst q; exact ge_a) ?_
  intro K T W
  rw [oef_ob_i2]
  refine gAloadN W d3_0 rfl rfl rfl ?_
  refine wInitO W d3_1 (ow16 hw) (ow17 hw) (ow18 hw) rfl (by decide) 0 (Nat.le_of_eq rfl) (by decide) rfl fun T261 W262 => ?_
  refine gAloadN W262 d3_4 rfl rfl rfl ?_
  refine wLen W262 d3_5 q4 rfl ?_
  refine gIfYes (pc' := 19) W262 d3_6 ((if0 _ _).trans (feq (by decide)).2) (by decide) rfl ?_
  refine gIconst (z := (0 : Int32)) W262 d3_19 rfl rfl ?_
  refine gIstore (ls' := #[.val (.ref a), .val (.ref r), .val (.int c), .val (.int d), .val (.int (0 : Int32)), .unset]) W262 d3_20 rfl rfl ?_
  refine gIload W262 d3_22 rfl rfl ?_
  refine gAloadN W262 d3_24 rfl rfl rfl ?_
  refine wLen W262 d3_25 q4 rfl ?_
  refine gIcmpNo W262 d3_26 (tlt (by decide)).2.1 rfl ?_
  refine gAloadN W262 d3_29 rfl rfl rfl ?_
  refine gIload W262 d3_30 rfl rfl ?_
  refine wLdD (v := (.double (dI n0))) W262 d3_32 q4 (by decide) rfl rfl ?_
  refine gDconst0 (z := (dI 0)) W262 d3_33 dz rfl ?_
  refine gDcmp (z := (1 : Int32)) W262 d3_34 (dpos (by omega) (by omega)) rfl ?_
  refine gIfNo W262 d3_35 ((if0 _ _).trans (tlt (by decide)).2.2.2) rfl ?_
  refine gAloadN W262 d3_38 rfl rfl rfl ?_
  refine gIload W262 d3_39 rfl rfl ?_
  refine wLdD (v := (.double (dI n0))) W262 d3_41 q4 (by decide) rfl rfl ?_
  refine wLdcD (v := 9218868437227405312) W262 d3_42 (ow19 hw) rfl ?_
  refine gDcmp (z := (-1 : Int32)) W262 d3_45 dfin rfl ?_
  refine gIfYes (pc' := 68) W262 d3_46 ((if0 _ _).trans (tlt (by decide)).1) (by decide) rfl ?_
  refine gIinc (z := (1 : Int32)) (ls' := #[.val (.ref a), .val (.ref r), .val (.int c), .val (.int d), .val (.int (1 : Int32)), .unset]) W262 d3_68 rfl (by decide) rfl rfl ?_
  refine gGoto (pc' := 22) W262 d3_71 (by decide) rfl ?_
  refine gIload W262 d3_22 rfl rfl ?_
  refine gAloadN W262 d3_24 rfl rfl rfl ?_
  refine wLen W262 d3_25 q4 rfl ?_
  refine gIcmpNo W262 d3_26 (tlt (by decide)).2.1 rfl ?_
  refine gAloadN W262 d3_29 rfl rfl rfl ?_
  refine gIload W262 d3_30 rfl rfl ?_
  refine wLdD (v := (.double (dI n1))) W262 d3_32 q4 (by decide) rfl rfl ?_
  refine gDconst0 (z := (dI 0)) W262 d3_33 dz rfl ?_
  refine gDcmp (z := (1 : Int32)) W262 d3_34 (dpos (by omega) (by omega)) rfl ?_
  refine gIfNo W262 d3_35 ((if0 _ _).trans (tlt (by decide)).2.2.2) rfl ?_
  refine gAloadN W262 d3_38 rfl rfl rfl ?_
  refine gIload W262 d3_39 rfl rfl ?_
  refine wLdD (v := (.double (dI n1))) W262 d3_41 q4 (by decide) rfl rfl ?_
  refine wLdcD (v := 9218868437227405312) W262 d3_42 (ow19 hw) rfl ?_
  refine gDcmp (z := (-1 : Int32)) W262 d3_45 dfin rfl ?_
  refine gIfYes (pc' := 68) W262 d3_46 ((if0 _ _).trans (tlt (by decide)).1) (by decide) rfl ?_
  refine gIinc (z := (2 : Int32)) (ls' := #[.val (.ref a), .val (.ref r), .val (.int c), .val (.int d), .val (.int (2 : Int32)), .unset]) W262 d3_68 rfl (by decide) rfl rfl ?_
  refine gGoto (pc' := 22) W262 d3_71 (by decide) rfl ?_
  refine gIload W262 d3_22 rfl rfl ?_
  refine gAloadN W262 d3_24 rfl rfl rfl ?_
  refine wLen W262 d3_25 q4 rfl ?_
  refine gIcmpYes (pc' := 74) W262 d3_26 (flt (by decide)).2.1 (by decide) rfl ?_
  refine gIloadN W262 d3_74 rfl rfl ?_
  refine gIconst (z := (1 : Int32)) W262 d3_75 rfl rfl ?_
  refine gIcmpYes (pc' := 93) W262 d3_76 (flt (fun q => by have := Int32.lt_iff_toInt_lt.mp q; have e : (1 : Int32).toInt = 1 := (by decide); omega)).2.1 (by decide) rfl ?_
  refine gIloadN W262 d3_93 rfl rfl ?_
  refine gIconst (z := (1 : Int32)) W262 d3_94 rfl rfl ?_
  refine gIcmpYes (pc' := 112) W262 d3_95 (flt (fun q => by have := Int32.lt_iff_toInt_lt.mp q; have e : (1 : Int32).toInt = 1 := (by decide); omega)).2.1 (by decide) rfl ?_
  refine gIloadN W262 d3_112 rfl rfl ?_
  refine gI2L (z := d.toInt64) W262 d3_113 rfl rfl ?_
  refine gIloadN W262 d3_114 rfl rfl ?_
  refine gI2L (z := c.toInt64) W262 d3_115 rfl rfl ?_
  refine gLmul (z := (d.toInt64 * c.toInt64)) W262 d3_116 rfl rfl ?_
  refine gLstore (ls' := #[.val (.ref a), .val (.ref r), .val (.int c), .val (.int d), .val (.long (d.toInt64 * c.toInt64)), .second]) W262 d3_117 rfl rfl ?_
  refine gAloadN W262 d3_119 rfl rfl rfl ?_
  refine gIloadN W262 d3_120 rfl rfl ?_
  refine wPutF (ty := .int) W262 d3_121 (ow20 hw) Via.refl (by simp) q1 q0 (Or.inr ⟨(ow21 hw), rfl, rfl⟩) (ow11 hw) (by decide) rfl rfl rfl fun T263 h265 W264 wr266 => ?_
  have f267 := Fld.same wr266 q1
  refine gAloadN W264 d3_124 rfl rfl rfl ?_
  refine gIloadN W264 d3_125 rfl rfl ?_
  refine gI2L (z := c.toInt64) W264 d3_126 rfl rfl ?_
  refine gLload W264 d3_127 rfl rfl ?_
  refine gAloadN W264 d3_129 rfl rfl rfl ?_
  have f268 := q4.other wr266 nra
  refine wLen W264 d3_130 f268 rfl ?_
  refine gI2L (z := (2 : Int64)) W264 d3_131 (by decide) rfl ?_
  refine gLadd (z := ((d.toInt64 * c.toInt64) + 2)) W264 d3_132 rfl rfl ?_
  refine gLconst (z := (1 : Int64)) W264 d3_133 rfl rfl ?_
  refine gLsub (z := ((d.toInt64 * c.toInt64) + 2 - 1)) W264 d3_134 rfl rfl ?_
  refine gAloadN W264 d3_135 rfl rfl rfl ?_
  refine wLen W264 d3_136 f268 rfl ?_
  refine gI2L (z := (2 : Int64)) W264 d3_137 (by decide) rfl ?_
  refine gLdiv (z := (((d.toInt64 * c.toInt64) + 2 - 1) / 2)) W264 d3_138 (by decide) rfl rfl ?_
  refine wStatic (y := (⟨"java/lang/Math", "min", "(JJ)J"⟩ : MethodName)) (Wd := 1) (argsL := [(.long c.toInt64), (.long (((d.toInt64 * c.toInt64) + 2 - 1) / 2))]) (rest := [(.ref a)]) W264 d3_139 (ow22 hw) (ow23 hw) (ow8 hw) (ow24 hw) (by decide) (Cb.ct (ob_mnJ l Z a0 hw hE (c.toInt64) ((((d.toInt64 * c.toInt64) + 2 - 1) / 2)) h265 W264.old  ) (ow24 hw) (ow8 hw) hE (by decide) (by decide)) (by simp) rfl (lenOf opd3 rfl) rfl (Nat.le_of_eq rfl) (by decide) (by decide) rfl fun v273 so274 T269 h271 W270 kp272 sp275 q276 => ?_
  obtain ⟨rfl, rfl⟩ := q276
  show Go K _ T269 142 #[.val (.ref a), .val (.ref r), .val (.int c), .val (.int d), .val (.long (d.toInt64 * c.toInt64)), .second] [(.long (minL c.toInt64 (((d.toInt64 * c.toInt64) + 2 - 1) / 2))), (.ref a)]
  refine gL2I (z := ((minL c.toInt64 (((d.toInt64 * c.toInt64) + 2 - 1) / 2)).toInt32)) W270 d3_142 rfl rfl ?_
  have f277 := q2.other wr266 (Or.inr (slot_ne (t := .int) (t' := .int) (Or.inr (ow26 hw)) (Or.inr (ow21 hw)) (by decide) (by decide) (by decide)))
  have f278 := f277.keep kp272 nin0
  have f279 := q0.wr wr266
  have f280 := f279.keep kp272
  refine wPutF (ty := .int) W270 d3_143 (ow25 hw) Via.refl (by simp) f278 f280 (Or.inr ⟨(ow26 hw), rfl, rfl⟩) (ow11 hw) (by decide) rfl rfl rfl fun T281 h283 W282 wr284 => ?_
  have f285 := Fld.same wr284 f278
  refine gAloadN W282 d3_146 rfl rfl rfl ?_
  refine gAloadN W282 d3_147 rfl rfl rfl ?_
  have f286 := f268.keep kp272 nin0
  have f287 := f286.other wr284 nra
  refine wStatic (y := (⟨"com/example/hasset/hasset/algorithm/Aperture", "boundaries", "([D)[D"⟩ : MethodName)) (Wd := 1) (argsL := [(.ref r)]) (rest := [(.ref a)]) W282 d3_148 (ow27 hw) (ow28 hw) (ow12 hw) (ow29 hw) (by decide) (Cb.ct (ob_b2 l Z a0 hw hE (r) (kr) (n0) (n1) h283 W282.old f287 na0 nb0 na1 nb1 ) (ow29 hw) (ow12 hw) hE (by decide) (by decide)) (by simp) rfl (lenOf opd4 rfl) rfl (Nat.le_of_eq rfl) (by decide) (by decide) rfl fun v292 so293 T288 h290 W289 kp291 sp294 q295 => ?_
  obtain ⟨b296, rfl, rfl, f297⟩ := q295
  show Go K _ T288 151 #[.val (.ref a), .val (.ref r), .val (.int c), .val (.int d), .val (.long (d.toInt64 * c.toInt64)), .second] [(.ref b296), (.ref a)]
  have f298 := q3.other wr266 (Or.inr (slot_ne (t := .array .double) (t' := .int) (Or.inr (ow45 hw)) (Or.inr (ow21 hw)) (by decide) (by decide) (by decide)))
  have f299 := f298.keep kp272 nin0
  have f300 := f299.other wr284 (Or.inr (slot_ne (t := .array .double) (t' := .int) (Or.inr (ow45 hw)) (Or.inr (ow26 hw)) (by decide) (by decide) (by decide)))
  have f301 := f300.keep kp291 nin0
  have f302 := f280.wr wr284
  have f303 := f302.keep kp291
  refine wPutF (ty := .array .double) W289 d3_151 (ow44 hw) Via.refl (by simp) f301 f303 (Or.inr ⟨(ow45 hw), rfl, rfl⟩) (ow11 hw) (by decide) rfl rfl rfl fun T304 h306 W305 wr307 => ?_
  have f308 := Fld.same wr307 f301
  have f309 := f303.wr wr307
  have f310 := f267.keep kp272 nin0
  have f311 := f310.other wr284 (Or.inr (slot_ne (t := .int) (t' := .int) (Or.inr (ow21 hw)) (Or.inr (ow26 hw)) (by decide) (by decide) (by decide)))
  have f312 := f311.keep kp291 nin0
  have f313 := f312.other wr307 (Or.inr (slot_ne (t := .int) (t' := .array .double) (Or.inr (ow21 hw)) (Or.inr (ow45 hw)) (by decide) (by decide) (by decide)))
  have f314 := f285.keep kp291 nin0
  have f315 := f314.other wr307 (Or.inr (slot_ne (t := .int) (t' := .array .double) (Or.inr (ow26 hw)) (Or.inr (ow45 hw)) (by decide) (by decide) (by decide)))
  exact wRet0 (so := []) W305 d3_154 (by decide) (by decide) (fun _ q => nomatch q) ⟨rfl, rfl, f309, f313, f315⟩
theorem d1_80 : decode method_2_code 80 = .ok (.iload 10, 2) := by decide +kernel
theorem d1_82 : decode method_2_code 82 = .ok (.iconst 2, 1) := by decide +kernel
theorem d1_83 : decode method_2_code 83 = .ok (.if_icmp .ne 21, 3) := by decide +kernel
theorem d1_86 : decode method_2_code 86 = .ok (.iconst 3, 1) := by decide +kernel
theorem d1_87 : decode method_2_code 87 = .ok (.newarray .double, 2) := by decide +kernel
theorem d1_89 : decode method_2_code 89 = .ok (.dup, 1) := by decide +kernel
theorem d1_90 : decode method_2_code 90 = .ok (.iconst 0, 1) := by decide +kernel
theorem d1_91 : decode method_2_code 91 = .ok (.dload_n 2, 1) := by decide +kernel
theorem d1_92 : decode method_2_code 92 = .ok (.dastore, 1) := by decide +kernel
theorem d1_93 : decode method_2_code 93 = .ok (.dup, 1) := by decide +kernel
theorem d1_94 : decode method_2_code 94 = .ok (.iconst 1, 1) := by decide +kernel
theorem d1_95 : decode method_2_code 95 = .ok (.dload 4, 2) := by decide +kernel
theorem d1_97 : decode method_2_code 97 = .ok (.dastore, 1) := by decide +kernel
theorem d1_98 : decode method_2_code 98 = .ok (.dup, 1) := by decide +kernel
theorem d1_99 : decode method_2_code 99 = .ok (.iconst 2, 1) := by decide +kernel
theorem d1_100 : decode method_2_code 100 = .ok (.dload 6, 2) := by decide +kernel
theorem d1_102 : decode method_2_code 102 = .ok (.dastore, 1) := by decide +kernel
theorem d1_103 : decode method_2_code 103 = .ok (.areturn, 1) := by decide +kernel
theorem oef_ob_w3 (m_ : MethodId) (p : Int32) (q : Int32)  : (entryFrame m_ #[(.int p), (.int q)] 11).locals = #[.val (.int p), .val (.int q), .unset, .unset, .unset, .unset, .unset, .unset, .unset, .unset, .unset] := by first | (simp [entryFrame, argsToLocals, Value.category]; done) | rfl
set_option maxRecDepth 65536 in
set_option maxHeartbeats 40000000 in
theorem ob_w3 (l : Launch) (Z : State) (a0 : Array Value) (hw : ∀ d ∈ tables_1, d.before a0 Z = true) (hE : EW Z a0 ([] : List (String × Nat))) (p : Int32) (q : Int32) (h : Heap) (hO : Old Z Z.heap.size h) (hp : (p &&& 3 = 2))  :
    Ct l Z ([] : List (String × Nat)) (⟨"com/example/hasset/hasset/algorithm/ApertureWidthPinLaw", "weights", "(II)[D"⟩ : MethodName) method_2_code 11 (Option.some (Jvm.ClassFile.FieldType.array Jvm.ClassFile.FieldType.double)) ⟨0, 1, 3, 0⟩ #[(.int p), (.int q)] h [] (fun rv' hp' so' => ∃ r : Addr, ∃ kr : ClassId, ∃ n0 : Nat, ∃ n1 : Nat, ∃ n2 : Nat, rv' = some (.ref r) ∧ so' = [] ∧ (h.size ≤ r) ∧ (1 ≤ n0) ∧ (n0 ≤ 8) ∧ (1 ≤ n1) ∧ (n1 ≤ 8) ∧ (1 ≤ n2) ∧ (n2 ≤ 8) ∧ Arv Z hp' r kr .double (3 : Int32) [(.double (dI n0)), (.double (dI n1)), (.double (dI n2))] (.double 0)) := by
  refine Ct.mk "com/example/hasset/hasset/algorithm/ApertureWidthPinLaw" "weights" rfl rfl (a0 := a0) (plainFor_of_name opn1) hO hE (fun x q => nomatch q) ?_
  intro K T W
  rw [oef_ob_w3]
  refine gIloadN W d1_0 rfl rfl ?_
  refine gBipush (z := (7 : Int32)) W d1_1 rfl rfl ?_
  obtain ⟨v316, e317⟩ : ∃ v : Int32, q &&& (7 : Int32) = v := ⟨_, rfl⟩
  refine gIand W d1_3 e317 rfl ?_
  refine gIconst (z := (1 : Int32)) W d1_4 rfl rfl ?_
  obtain ⟨v318, e319⟩ : ∃ v : Int32, v316 + (1 : Int32) = v := ⟨_, rfl⟩
  refine gIadd W d1_5 e319 rfl ?_
  obtain ⟨n0, na0, nb0, ne0⟩ := wgt e317 e319
  refine gI2D (z := (dI n0)) W d1_6 ne0 rfl ?_
  refine gDstoreN (ls' := #[.val (.int p), .val (.int q), .val (.double (dI n0)), .second, .unset, .unset, .unset, .unset, .unset, .unset, .unset]) W d1_7 rfl rfl ?_
  refine gIloadN W d1_8 rfl rfl ?_
  refine gIconst (z := (3 : Int32)) W d1_9 rfl rfl ?_
  obtain ⟨v320, e321⟩ : ∃ v : Int32, (q.toUInt32 >>> ((3 : Int32) &&& 31).toUInt32).toInt32 = v := ⟨_, rfl⟩
  refine gIushr W d1_10 e321 rfl ?_
  refine gBipush (z := (7 : Int32)) W d1_11 rfl rfl ?_
  obtain ⟨v322, e323⟩ : ∃ v : Int32, v320 &&& (7 : Int32) = v := ⟨_, rfl⟩
  refine gIand W d1_13 e323 rfl ?_
  refine gIconst (z := (1 : Int32)) W d1_14 rfl rfl ?_
  obtain ⟨v324, e325⟩ : ∃ v : Int32, v322 + (1 : Int32) = v := ⟨_, rfl⟩
  refine gIadd W d1_15 e325 rfl ?_
  obtain ⟨n1, na1, nb1, ne1⟩ := wgt e323 e325
  refine gI2D (z := (dI n1)) W d1_16 ne1 rfl ?_
  refine gDstore (ls' := #[.val (.int p), .val (.int q), .val (.double (dI n0)), .second, .val (.double (dI n1)), .second, .unset, .unset, .unset, .unset, .unset]) W d1_17 rfl rfl ?_
  refine gIloadN W d1_19 rfl rfl ?_
  refine gBipush (z := (6 : Int32)) W d1_20 rfl rfl ?_
  obtain ⟨v326, e327⟩ : ∃ v : Int32, (q.toUInt32 >>> ((6 : Int32) &&& 31).toUInt32).toInt32 = v := ⟨_, rfl⟩
  refine gIushr W d1_22 e327 rfl ?_
  refine gBipush (z := (7 : Int32)) W d1_23 rfl rfl ?_
  obtain ⟨v328, e329⟩ : ∃ v : Int32, v326 &&& (7 : Int32) = v := ⟨_, rfl⟩
  refine gIand W d1_25 e329 rfl ?_
  refine gIconst (z := (1 : Int32)) W d1_26 rfl rfl ?_
  obtain ⟨v330, e331⟩ : ∃ v : Int32, v328 + (1 : Int32) = v := ⟨_, rfl⟩
  refine gIadd W d1_27 e331 rfl ?_
  obtain ⟨n2, na2, nb2, ne2⟩ := wgt e329 e331
  refine gI2D (z := (dI n2)) W d1_28 ne2 rfl ?_
  refine gDstore (ls' := #[.val (.int p), .val (.int q), .val (.double (dI n0)), .second, .val (.double (dI n1)), .second, .val (.double (dI n2)), .second, .unset, .unset, .unset]) W d1_29 rfl rfl ?_
  refine gIloadN W d1_31 rfl rfl ?_
  refine gBipush (z := (9 : Int32)) W d1_32 rfl rfl ?_
  obtain ⟨v332, e333⟩ : ∃ v : Int32, (q.toUInt32 >>> ((9 : Int32) &&& 31).toUInt32).toInt32 = v := ⟨_, rfl⟩
  refine gIushr W d1_34 e333 rfl ?_
  refine gBipush (z := (7 : Int32)) W d1_35 rfl rfl ?_
  obtain ⟨v334, e335⟩ : ∃ v : Int32, v332 &&& (7 : Int32) = v := ⟨_, rfl⟩
  refine gIand W d1_37 e335 rfl ?_
  refine gIconst (z := (1 : Int32)) W d1_38 rfl rfl ?_
  obtain ⟨v336, e337⟩ : ∃ v : Int32, v334 + (1 : Int32) = v := ⟨_, rfl⟩
  refine gIadd W d1_39 e337 rfl ?_
  obtain ⟨n3, na3, nb3, ne3⟩ := wgt e335 e337
  refine gI2D (z := (dI n3)) W d1_40 ne3 rfl ?_
  refine gDstore (ls' := #[.val (.int p), .val (.int q), .val (.double (dI n0)), .second, .val (.double (dI n1)), .second, .val (.double (dI n2)), .second, .val (.double (dI n3)), .second, .unset]) W d1_41 rfl rfl ?_
  refine gIloadN W d1_43 rfl rfl ?_
  refine gIconst (z := (3 : Int32)) W d1_44 rfl rfl ?_
  refine gIand (z := (2 : Int32)) W d1_45 hp rfl ?_
  refine gIstore (ls' := #[.val (.int p), .val (.int q), .val (.double (dI n0)), .second, .val (.double (dI n1)), .second, .val (.double (dI n2)), .second, .val (.double (dI n3)), .second, .val (.int (2 : Int32))]) W d1_46 rfl rfl ?_
  refine gIload W d1_48 rfl rfl ?_
  refine gIfYes (pc' := 61) W d1_50 ((if0 _ _).trans (feq (by decide)).2) (by decide) rfl ?_
  refine gIload W d1_61 rfl rfl ?_
  refine gIconst (z := (1 : Int32)) W d1_63 rfl rfl ?_
  refine gIcmpYes (pc' := 80) W d1_64 (feq (by decide)).2 (by decide) rfl ?_
  refine gIload W d1_80 rfl rfl ?_
  refine gIconst (z := (2 : Int32)) W d1_82 rfl rfl ?_
  refine gIcmpNo W d1_83 (teq (by decide)).2 rfl ?_
  refine gIconst (z := (3 : Int32)) W d1_86 rfl rfl ?_
  refine wNewP (cap := 3) W d1_87 (ow4 hw) (by decide) (by decide) (by decide) (by decide) (by decide) rfl fun T338 h340 a341 k345 W339 E342 g343 A344 => ?_
  have f346 : Arv Z h340 a341 k345 .double (3 : Int32) [(.double 0), (.double 0), (.double 0)] (.double 0) := A344 3
  refine gDup W339 d1_89 rfl rfl ?_
  refine gIconst (z := (0 : Int32)) W339 d1_90 rfl rfl ?_
  refine gDloadN W339 d1_91 rfl rfl ?_
  refine wStD W339 d1_92 (by simp) f346 (by decide) 0 (by decide) (show 0 < 3 from by decide) rfl fun T347 h349 W348 wr350 A351 => ?_
  have f352 : Arv Z h349 a341 k345 .double (3 : Int32) [(.double (dI n0)), (.double 0), (.double 0)] (.double 0) := A351
  refine gDup W348 d1_93 rfl rfl ?_
  refine gIconst (z := (1 : Int32)) W348 d1_94 rfl rfl ?_
  refine gDload W348 d1_95 rfl rfl ?_
  refine wStD W348 d1_97 (by simp) f352 (by decide) 1 (by decide) (show 1 < 3 from by decide) rfl fun T353 h355 W354 wr356 A357 => ?_
  have f358 : Arv Z h355 a341 k345 .double (3 : Int32) [(.double (dI n0)), (.double (dI n1)), (.double 0)] (.double 0) := A357
  refine gDup W354 d1_98 rfl rfl ?_
  refine gIconst (z := (2 : Int32)) W354 d1_99 rfl rfl ?_
  refine gDload W354 d1_100 rfl rfl ?_
  refine wStD W354 d1_102 (by simp) f358 (by decide) 2 (by decide) (show 2 < 3 from by decide) rfl fun T359 h361 W360 wr362 A363 => ?_
  have f364 : Arv Z h361 a341 k345 .double (3 : Int32) [(.double (dI n0)), (.double (dI n1)), (.double (dI n2))] (.double 0) := A363
  exact wRetA (so := []) (t := .array .double) W360 d1_103 rfl rfl rfl (by decide) (by decide) (fun _ q => nomatch q) ⟨a341, k345, n0, n1, n2, rfl, rfl, (Nat.le_of_eq g343.symm), na0, nb0, na1, nb1, na2, nb2, f364⟩
theorem oef_ob_b3 (m_ : MethodId) (r : Addr)  : (entryFrame m_ #[(.ref r)] 13).locals = #[.val (.ref r), .unset, .unset, .unset, .unset, .unset, .unset, .unset, .unset, .unset, .unset, .unset, .unset] := by first | (simp [entryFrame, argsToLocals, Value.category]; done) | rfl
set_option maxRecDepth 65536 in
set_option maxHeartbeats 40000000 in
theorem ob_b3 (l : Launch) (Z : State) (a0 : Array Value) (hw : ∀ d ∈ tables_1, d.before a0 Z = true) (hE : EW Z a0 ([] : List (String × Nat))) (r : Addr) (kr : ClassId) (n0 : Nat) (n1 : Nat) (n2 : Nat) (h : Heap) (hO : Old Z Z.heap.size h) (q0 : Arv Z h r kr .double (3 : Int32) [(.double (dI n0)), (.double (dI n1)), (.double (dI n2))] (.double 0)) (na0 : (1 ≤ n0)) (nb0 : (n0 ≤ 8)) (na1 : (1 ≤ n1)) (nb1 : (n1 ≤ 8)) (na2 : (1 ≤ n2)) (nb2 : (n2 ≤ 8))  :
    Ct l Z ([] : List (String × Nat)) (⟨"com/example/hasset/hasset/algorithm/Aperture", "boundaries", "([D)[D"⟩ : MethodName) prog_1_method_2_code 13 (Option.some (Jvm.ClassFile.FieldType.array Jvm.ClassFile.FieldType.double)) ⟨2, 1, 4, 60⟩ #[(.ref r)] h [] (fun rv' hp' so' => ∃ b : Addr, rv' = some (.ref b) ∧ so' = [] ∧ (h.size ≤ b)) := by
  refine Ct.mk "com/example/hasset/hasset/algorithm/Aperture" "boundaries" rfl rfl (a0 := a0) (plainFor_of_name opn2) hO hE (fun x q => nomatch q) ?_
  intro K T W
  rw [oef_ob_b3]
  refine gAloadN W d6_0 rfl rfl rfl ?_
  refine wLen W d6_1 q0 rfl ?_
  refine gIconst (z := (1 : Int32)) W d6_2 rfl rfl ?_
  refine gIadd (z := (4 : Int32)) W d6_3 (by decide) rfl ?_
  refine wNewP (cap := 4) W d6_4 (ow4 hw) (by decide) (by decide) (by decide) (by decide) (by decide) rfl fun T365 h367 a368 k372 W366 E369 g370 A371 => ?_
  have f373 : Arv Z h367 a368 k372 .double (4 : Int32) [(.double 0), (.double 0), (.double 0), (.double 0)] (.double 0) := A371 4
  refine gAstoreN (ls' := #[.val (.ref r), .val (.ref a368), .unset, .unset, .unset, .unset, .unset, .unset, .unset, .unset, .unset, .unset, .unset]) W366 d6_6 rfl rfl rfl ?_
  refine gDconst0 (z := (dI 0)) W366 d6_7 dz rfl ?_
  refine gDstoreN (ls' := #[.val (.ref r), .val (.ref a368), .val (.double (dI 0)), .second, .unset, .unset, .unset, .unset, .unset, .unset, .unset, .unset, .unset]) W366 d6_8 rfl rfl ?_
  refine gDconst0 (z := (dI 0)) W366 d6_9 dz rfl ?_
  refine gDstore (ls' := #[.val (.ref r), .val (.ref a368), .val (.double (dI 0)), .second, .val (.double (dI 0)), .second, .unset, .unset, .unset, .unset, .unset, .unset, .unset]) W366 d6_10 rfl rfl ?_
  refine gIconst (z := (0 : Int32)) W366 d6_12 rfl rfl ?_
  refine gIstore (ls' := #[.val (.ref r), .val (.ref a368), .val (.double (dI 0)), .second, .val (.double (dI 0)), .second, .val (.int (0 : Int32)), .unset, .unset, .unset, .unset, .unset, .unset]) W366 d6_13 rfl rfl ?_
  refine gIload W366 d6_15 rfl rfl ?_
  refine gAloadN W366 d6_17 rfl rfl rfl ?_
  have f374 := q0.ext E369
  refine wLen W366 d6_18 f374 rfl ?_
  refine gIcmpNo W366 d6_19 (tlt (by decide)).2.1 rfl ?_
  refine gAloadN W366 d6_22 rfl rfl rfl ?_
  refine gIload W366 d6_23 rfl rfl ?_
  refine wLdD (v := (.double (dI n0))) W366 d6_25 f374 (by decide) rfl rfl ?_
  refine gDstore (ls' := #[.val (.ref r), .val (.ref a368), .val (.double (dI 0)), .second, .val (.double (dI 0)), .second, .val (.int (0 : Int32)), .val (.double (dI n0)), .second, .unset, .unset, .unset, .unset]) W366 d6_26 rfl rfl ?_
  refine gDloadN W366 d6_28 rfl rfl ?_
  refine gDload W366 d6_29 rfl rfl ?_
  refine gDadd (z := (dI n0)) W366 d6_31 (dadd_dI (by omega) (by omega)) (nn_dI _) rfl ?_
  refine gDstore (ls' := #[.val (.ref r), .val (.ref a368), .val (.double (dI 0)), .second, .val (.double (dI 0)), .second, .val (.int (0 : Int32)), .val (.double (dI n0)), .second, .val (.double (dI n0)), .second, .unset, .unset]) W366 d6_32 rfl rfl ?_
  refine gDload W366 d6_34 rfl rfl ?_
  refine gDloadN W366 d6_36 rfl rfl ?_
  refine gDsub (z := (dI n0)) W366 d6_37 (dsub_dI (by omega) (by omega)) (nn_dI _) rfl ?_
  refine gDstore (ls' := #[.val (.ref r), .val (.ref a368), .val (.double (dI 0)), .second, .val (.double (dI 0)), .second, .val (.int (0 : Int32)), .val (.double (dI n0)), .second, .val (.double (dI n0)), .second, .val (.double (dI n0)), .second]) W366 d6_38 rfl rfl ?_
  refine gDload W366 d6_40 rfl rfl ?_
  refine gDloadN W366 d6_42 rfl rfl ?_
  refine gDload W366 d6_43 rfl rfl ?_
  refine gDload W366 d6_45 rfl rfl ?_
  refine gDsub (z := (dI 0)) W366 d6_47 (dsub_dI (by omega) (by omega)) (nn_dI _) rfl ?_
  refine gDsub (z := (dI 0)) W366 d6_48 (dsub_dI (by omega) (by omega)) (nn_dI _) rfl ?_
  refine gDload W366 d6_49 rfl rfl ?_
  refine gDload W366 d6_51 rfl rfl ?_
  refine gDsub (z := (dI 0)) W366 d6_53 (dsub_dI (by omega) (by omega)) (nn_dI _) rfl ?_
  refine gDadd (z := (dI 0)) W366 d6_54 (dadd_dI (by omega) (by omega)) (nn_dI _) rfl ?_
  refine gDadd (z := (dI 0)) W366 d6_55 (dadd_dI (by omega) (by omega)) (nn_dI _) rfl ?_
  refine gDstore (ls' := #[.val (.ref r), .val (.ref a368), .val (.double (dI 0)), .second, .val (.double (dI 0)), .second, .val (.int (0 : Int32)), .val (.double (dI n0)), .second, .val (.double (dI n0)), .second, .val (.double (dI n0)), .second]) W366 d6_56 rfl rfl ?_
  refine gDload W366 d6_58 rfl rfl ?_
  refine gDstoreN (ls' := #[.val (.ref r), .val (.ref a368), .val (.double (dI n0)), .second, .val (.double (dI 0)), .second, .val (.int (0 : Int32)), .val (.double (dI n0)), .second, .val (.double (dI n0)), .second, .val (.double (dI n0)), .second]) W366 d6_60 rfl rfl ?_
  refine gAloadN W366 d6_61 rfl rfl rfl ?_
  refine gIload W366 d6_62 rfl rfl ?_
  refine gIconst (z := (1 : Int32)) W366 d6_64 rfl rfl ?_
  refine gIadd (z := (1 : Int32)) W366 d6_65 (by decide) rfl ?_
  refine gDloadN W366 d6_66 rfl rfl ?_
  refine gDload W366 d6_67 rfl rfl ?_
  refine gDadd (z := (dI n0)) W366 d6_69 (dadd_dI (by omega) (by omega)) (nn_dI _) rfl ?_
  refine wStD W366 d6_70 (by simp) f373 (by decide) 1 (by decide) (show 1 < 4 from by decide) rfl fun T375 h377 W376 wr378 A379 => ?_
  have f380 : Arv Z h377 a368 k372 .double (4 : Int32) [(.double 0), (.double (dI n0)), (.double 0), (.double 0)] (.double 0) := A379
  refine gIinc (z := (1 : Int32)) (ls' := #[.val (.ref r), .val (.ref a368), .val (.double (dI n0)), .second, .val (.double (dI 0)), .second, .val (.int (1 : Int32)), .val (.double (dI n0)), .second, .val (.double (dI n0)), .second, .val (.double (dI n0)), .second]) W376 d6_71 rfl (by decide) rfl rfl ?_
  refine gGoto (pc' := 15) W376 d6_74 (by decide) rfl ?_
  refine gIload W376 d6_15 rfl rfl ?_
  refine gAloadN W376 d6_17 rfl rfl rfl ?_
  have ne381 : r ≠ a368 := Nat.ne_of_lt (Nat.lt_of_lt_of_le q0.lt (Nat.le_of_eq g370.symm))
  have f382 := f374.other wr378 ne381
  refine wLen W376 d6_18 f382 rfl ?_
  refine gIcmpNo W376 d6_19 (tlt (by decide)).2.1 rfl ?_
  refine gAloadN W376 d6_22 rfl rfl rfl ?_
  refine gIload W376 d6_23 rfl rfl ?_
  refine wLdD (v := (.double (dI n1))) W376 d6_25 f382 (by decide) rfl rfl ?_
  refine gDstore (ls' := #[.val (.ref r), .val (.ref a368), .val (.double (dI n0)), .second, .val (.double (dI 0)), .second, .val (.int (1 : Int32)), .val (.double (dI n1)), .second, .val (.double (dI n0)), .second, .val (.double (dI n0)), .second]) W376 d6_26 rfl rfl ?_
  refine gDloadN W376 d6_28 rfl rfl ?_
  refine gDload W376 d6_29 rfl rfl ?_
  refine gDadd (z := (dI (n0 + n1))) W376 d6_31 (dadd_dI (by omega) (by omega)) (nn_dI _) rfl ?_
  refine gDstore (ls' := #[.val (.ref r), .val (.ref a368), .val (.double (dI n0)), .second, .val (.double (dI 0)), .second, .val (.int (1 : Int32)), .val (.double (dI n1)), .second, .val (.double (dI (n0 + n1))), .second, .val (.double (dI n0)), .second]) W376 d6_32 rfl rfl ?_
  refine gDload W376 d6_34 rfl rfl ?_
  refine gDloadN W376 d6_36 rfl rfl ?_
  refine gDsub (z := (dI n1)) W376 d6_37 (dsub_dI (by omega) (by omega)) (nn_dI _) rfl ?_
  refine gDstore (ls' := #[.val (.ref r), .val (.ref a368), .val (.double (dI n0)), .second, .val (.double (dI 0)), .second, .val (.int (1 : Int32)), .val (.double (dI n1)), .second, .val (.double (dI (n0 + n1))), .second, .val (.double (dI n1)), .second]) W376 d6_38 rfl rfl ?_
  refine gDload W376 d6_40 rfl rfl ?_
  refine gDloadN W376 d6_42 rfl rfl ?_
  refine gDload W376 d6_43 rfl rfl ?_
  refine gDload W376 d6_45 rfl rfl ?_
  refine gDsub (z := (dI n0)) W376 d6_47 (dsub_dI (by omega) (by omega)) (nn_dI _) rfl ?_
  refine gDsub (z := (dI 0)) W376 d6_48 (dsub_dI (by omega) (by omega)) (nn_dI _) rfl ?_
  refine gDload W376 d6_49 rfl rfl ?_
  refine gDload W376 d6_51 rfl rfl ?_
  refine gDsub (z := (dI 0)) W376 d6_53 (dsub_dI (by omega) (by omega)) (nn_dI _) rfl ?_
  refine gDadd (z := (dI 0)) W376 d6_54 (dadd_dI (by omega) (by omega)) (nn_dI _) rfl ?_
  refine gDadd (z := (dI 0)) W376 d6_55 (dadd_dI (by omega) (by omega)) (nn_dI _) rfl ?_
  refine gDstore (ls' := #[.val (.ref r), .val (.ref a368), .val (.double (dI n0)), .second, .val (.double (dI 0)), .second, .val (.int (1 : Int32)), .val (.double (dI n1)), .second, .val (.double (dI (n0 + n1))), .second, .val (.double (dI n1)), .second]) W376 d6_56 rfl rfl ?_
  refine gDload W376 d6_58 rfl rfl ?_
  refine gDstoreN (ls' := #[.val (.ref r), .val (.ref a368), .val (.double (dI (n0 + n1))), .second, .val (.double (dI 0)), .second, .val (.int (1 : Int32)), .val (.double (dI n1)), .second, .val (.double (dI (n0 + n1))), .second, .val (.double (dI n1)), .second]) W376 d6_60 rfl rfl ?_
  refine gAloadN W376 d6_61 rfl rfl rfl ?_
  refine gIload W376 d6_62 rfl rfl ?_
  refine gIconst (z := (1 : Int32)) W376 d6_64 rfl rfl ?_
  refine gIadd (z := (2 : Int32)) W376 d6_65 (by decide) rfl ?_
  refine gDloadN W376 d6_66 rfl rfl ?_
  refine gDload W376 d6_67 rfl rfl ?_
  refine gDadd (z := (dI (n0 + n1))) W376 d6_69 (dadd_dI (by omega) (by omega)) (nn_dI _) rfl ?_
  refine wStD W376 d6_70 (by simp) f380 (by decide) 2 (by decide) (show 2 < 4 from by decide) rfl fun T383 h385 W384 wr386 A387 => ?_
  have f388 : Arv Z h385 a368 k372 .double (4 : Int32) [(.double 0), (.double (dI n0)), (.double (dI (n0 + n1))), (.double 0)] (.double 0) := A387
  refine gIinc (z := (2 : Int32)) (ls' := #[.val (.ref r), .val (.ref a368), .val (.double (dI (n0 + n1))), .second, .val (.double (dI 0)), .second, .val (.int (2 : Int32)), .val (.double (dI n1)), .second, .val (.double (dI (n0 + n1))), .second, .val (.double (dI n1)), .second]) W384 d6_71 rfl (by decide) rfl rfl ?_
  refine gGoto (pc' := 15) W384 d6_74 (by decide) rfl ?_
  refine gIload W384 d6_15 rfl rfl ?_
  refine gAloadN W384 d6_17 rfl rfl rfl ?_
  have f389 := f382.other wr386 ne381
  refine wLen W384 d6_18 f389 rfl ?_
  refine gIcmpNo W384 d6_19 (tlt (by decide)).2.1 rfl ?_
  refine gAloadN W384 d6_22 rfl rfl rfl ?_
  refine gIload W384 d6_23 rfl rfl ?_
  refine wLdD (v := (.double (dI n2))) W384 d6_25 f389 (by decide) rfl rfl ?_
  refine gDstore (ls' := #[.val (.ref r), .val (.ref a368), .val (.double (dI (n0 + n1))), .second, .val (.double (dI 0)), .second, .val (.int (2 : Int32)), .val (.double (dI n2)), .second, .val (.double (dI (n0 + n1))), .second, .val (.double (dI n1)), .second]) W384 d6_26 rfl rfl ?_
  refine gDloadN W384 d6_28 rfl rfl ?_
  refine gDload W384 d6_29 rfl rfl ?_
  refine gDadd (z := (dI (n0 + n1 + n2))) W384 d6_31 (dadd_dI (by omega) (by omega)) (nn_dI _) rfl ?_
  refine gDstore (ls' := #[.val (.ref r), .val (.ref a368), .val (.double (dI (n0 + n1))), .second, .val (.double (dI 0)), .second, .val (.int (2 : Int32)), .val (.double (dI n2)), .second, .val (.double (dI (n0 + n1 + n2))), .second, .val (.double (dI n1)), .second]) W384 d6_32 rfl rfl ?_
  refine gDload W384 d6_34 rfl rfl ?_
  refine gDloadN W384 d6_36 rfl rfl ?_
  refine gDsub (z := (dI n2)) W384 d6_37 (dsub_dI (by omega) (by omega)) (nn_dI _) rfl ?_
  refine gDstore (ls' := #[.val (.ref r), .val (.ref a368), .val (.double (dI (n0 + n1))), .second, .val (.double (dI 0)), .second, .val (.int (2 : Int32)), .val (.double (dI n2)), .second, .val (.double (dI (n0 + n1 + n2))), .second, .val (.double (dI n2)), .second]) W384 d6_38 rfl rfl ?_
  refine gDload W384 d6_40 rfl rfl ?_
  refine gDloadN W384 d6_42 rfl rfl ?_
  refine gDload W384 d6_43 rfl rfl ?_
  refine gDload W384 d6_45 rfl rfl ?_
  refine gDsub (z := (dI (n0 + n1))) W384 d6_47 (dsub_dI (by omega) (by omega)) (nn_dI _) rfl ?_
  refine gDsub (z := (dI 0)) W384 d6_48 (dsub_dI (by omega) (by omega)) (nn_dI _) rfl ?_
  refine gDload W384 d6_49 rfl rfl ?_
  refine gDload W384 d6_51 rfl rfl ?_
  refine gDsub (z := (dI 0)) W384 d6_53 (dsub_dI (by omega) (by omega)) (nn_dI _) rfl ?_
  refine gDadd (z := (dI 0)) W384 d6_54 (dadd_dI (by omega) (by omega)) (nn_dI _) rfl ?_
  refine gDadd (z := (dI 0)) W384 d6_55 (dadd_dI (by omega) (by omega)) (nn_dI _) rfl ?_
  refine gDstore (ls' := #[.val (.ref r), .val (.ref a368), .val (.double (dI (n0 + n1))), .second, .val (.double (dI 0)), .second, .val (.int (2 : Int32)), .val (.double (dI n2)), .second, .val (.double (dI (n0 + n1 + n2))), .second, .val (.double (dI n2)), .second]) W384 d6_56 rfl rfl ?_
  refine gDload W384 d6_58 rfl rfl ?_
  refine gDstoreN (ls' := #[.val (.ref r), .val (.ref a368), .val (.double (dI (n0 + n1 + n2))), .second, .val (.double (dI 0)), .second, .val (.int (2 : Int32)), .val (.double (dI n2)), .second, .val (.double (dI (n0 + n1 + n2))), .second, .val (.double (dI n2)), .second]) W384 d6_60 rfl rfl ?_
  refine gAloadN W384 d6_61 rfl rfl rfl ?_
  refine gIload W384 d6_62 rfl rfl ?_
  refine gIconst (z := (1 : Int32)) W384 d6_64 rfl rfl ?_
  refine gIadd (z := (3 : Int32)) W384 d6_65 (by decide) rfl ?_
  refine gDloadN W384 d6_66 rfl rfl ?_
  refine gDload W384 d6_67 rfl rfl ?_
  refine gDadd (z := (dI (n0 + n1 + n2))) W384 d6_69 (dadd_dI (by omega) (by omega)) (nn_dI _) rfl ?_
  refine wStD W384 d6_70 (by simp) f388 (by decide) 3 (by decide) (show 3 < 4 from by decide) rfl fun T390 h392 W391 wr393 A394 => ?_
  have f395 : Arv Z h392 a368 k372 .double (4 : Int32) [(.double 0), (.double (dI n0)), (.double (dI (n0 + n1))), (.double (dI (n0 + n1 + n2)))] (.double 0) := A394
  refine gIinc (z := (3 : Int32)) (ls' := #[.val (.ref r), .val (.ref a368), .val (.double (dI (n0 + n1 + n2))), .second, .val (.double (dI 0)), .second, .val (.int (3 : Int32)), .val (.double (dI n2)), .second, .val (.double (dI (n0 + n1 + n2))), .second, .val (.double (dI n2)), .second]) W391 d6_71 rfl (by decide) rfl rfl ?_
  refine gGoto (pc' := 15) W391 d6_74 (by decide) rfl ?_
  refine gIload W391 d6_15 rfl rfl ?_
  refine gAloadN W391 d6_17 rfl rfl rfl ?_
  have f396 := f389.other wr393 ne381
  refine wLen W391 d6_18 f396 rfl ?_
  refine gIcmpYes (pc' := 77) W391 d6_19 (flt (by decide)).2.1 (by decide) rfl ?_
  refine gAloadN W391 d6_77 rfl rfl rfl ?_
  refine gAloadN W391 d6_78 rfl rfl rfl ?_
  refine wLen W391 d6_79 f396 rfl ?_
  refine wLdD (v := (.double (dI (n0 + n1 + n2)))) W391 d6_80 f395 (by decide) rfl rfl ?_
  refine gDstore (ls' := #[.val (.ref r), .val (.ref a368), .val (.double (dI (n0 + n1 + n2))), .second, .val (.double (dI 0)), .second, .val (.double (dI (n0 + n1 + n2))), .second, .unset, .val (.double (dI (n0 + n1 + n2))), .second, .val (.double (dI n2)), .second]) W391 d6_81 rfl rfl ?_
  refine gDload W391 d6_83 rfl rfl ?_
  refine wStatic (y := (⟨"java/lang/Double", "isFinite", "(D)Z"⟩ : MethodName)) (Wd := 0) (argsL := [(.double (dI (n0 + n1 + n2)))]) (rest := []) W391 d6_85 (ow30 hw) (ow31 hw) (ow32 hw) (ow33 hw) (by decide) (Cb.ct (ob_fi l Z a0 hw hE ((n0 + n1 + n2)) h392 W391.old (by omega) ) (ow33 hw) (ow32 hw) hE (by decide) (by decide)) (by simp) rfl (lenOf opd1 rfl) rfl (Nat.le_of_eq rfl) (by decide) (by decide) rfl fun v401 so402 T397 h399 W398 kp400 sp403 q404 => ?_
  obtain ⟨rfl, rfl⟩ := q404
  show Go K _ T397 88 #[.val (.ref r), .val (.ref a368), .val (.double (dI (n0 + n1 + n2))), .second, .val (.double (dI 0)), .second, .val (.double (dI (n0 + n1 + n2))), .second, .unset, .val (.double (dI (n0 + n1 + n2))), .second, .val (.double (dI n2)), .second] [(.int (1 : Int32))]
  refine gIfYes (pc' := 101) W398 d6_88 ((if0 _ _).trans (feq (by decide)).2) (by decide) rfl ?_
  refine gIconst (z := (1 : Int32)) W398 d6_101 rfl rfl ?_
  refine gIstore (ls' := #[.val (.ref r), .val (.ref a368), .val (.double (dI (n0 + n1 + n2))), .second, .val (.double (dI 0)), .second, .val (.double (dI (n0 + n1 + n2))), .second, .val (.int (1 : Int32)), .val (.double (dI (n0 + n1 + n2))), .second, .val (.double (dI n2)), .second]) W398 d6_102 rfl rfl ?_
  refine gIload W398 d6_104 rfl rfl ?_
  refine gAloadN W398 d6_106 rfl rfl rfl ?_
  have f405 := f396.keep kp400 nin0
  refine wLen W398 d6_107 f405 rfl ?_
  refine gIcmpNo W398 d6_108 (flt (by decide)).2.2.1 rfl ?_
  refine gAloadN W398 d6_111 rfl rfl rfl ?_
  refine gIload W398 d6_112 rfl rfl ?_
  refine gAloadN W398 d6_114 rfl rfl rfl ?_
  refine gIload W398 d6_115 rfl rfl ?_
  refine gIconst (z := (1 : Int32)) W398 d6_117 rfl rfl ?_
  refine gIsub (z := (0 : Int32)) W398 d6_118 (by decide) rfl ?_
  have f406 := f395.keep kp400 nin0
  refine wLdD (v := (.double 0)) W398 d6_119 f406 (by decide) rfl rfl ?_
  refine gDconst1 (z := FP.dconst1) W398 d6_120 rfl rfl ?_
  refine gAloadN W398 d6_121 rfl rfl rfl ?_
  refine gIload W398 d6_122 rfl rfl ?_
  refine wLdD (v := (.double (dI n0))) W398 d6_124 f406 (by decide) rfl rfl ?_
  refine gDload W398 d6_125 rfl rfl ?_
  obtain ⟨z407, e408⟩ : ∃ z, FP.ddiv (dI n0) (dI (n0 + n1 + n2)) = z := ⟨_, rfl⟩
  have nz409 : NoNaN64 z407 := e408 ▸ nn_div (by omega) (by omega)
  refine gDdiv (z := z407) W398 d6_127 e408 nz409 rfl ?_
  obtain ⟨z410, e411⟩ : ∃ z, Native.java_lang_Math.nans.pick64 false FP.dconst1 z407 = z := ⟨_, rfl⟩
  have nz412 : NoNaN64 z410 := e411 ▸ pick64_noNaN nn_one nz409
  refine wNat (y := (⟨"java/lang/Math", "min", "(DD)D"⟩ : MethodName)) (Wd := 4) (argsL := [(.double FP.dconst1), (.double z407)]) (rest := [(.double 0), (.int (1 : Int32)), (.ref a368)]) (val' := (.double z410)) W398 d6_128 (ow38 hw) (ow39 hw) (ow8 hw) (ow40 hw) (by decide) (fun _ hc => Jvm.Free.Fl.Abs.minD_pays (l := l) FP.dconst1 z407 (by exact hc) (by decide) (by decide)) rfl (lenOf opd2 rfl) rfl (Nat.le_of_eq rfl) (by decide) (by decide) ⟨rfl, nn_one, nz409⟩ (congrArg Value.double e411) rfl fun T413 W414 => ?_
  obtain ⟨z415, e416⟩ : ∃ z, Native.java_lang_Math.nans.pick64 true 0 z410 = z := ⟨_, rfl⟩
  have nz417 : NoNaN64 z415 := e416 ▸ pick64_noNaN nn_zero nz412
  refine wNat (y := (⟨"java/lang/Math", "max", "(DD)D"⟩ : MethodName)) (Wd := 2) (argsL := [(.double 0), (.double z410)]) (rest := [(.int (1 : Int32)), (.ref a368)]) (val' := (.double z415)) W414 d6_131 (ow41 hw) (ow42 hw) (ow8 hw) (ow43 hw) (by decide) (fun _ hc => Jvm.Free.Fl.Abs.maxD_pays (l := l) 0 z410 (by exact hc) (by decide) (by decide)) rfl (lenOf opd2 rfl) rfl (Nat.le_of_eq rfl) (by decide) (by decide) ⟨rfl, nn_zero, nz412⟩ (congrArg Value.double e416) rfl fun T418 W419 => ?_
  refine wStD W419 d6_134 (by simp) f406 (by decide) 1 (by decide) (show 1 < 4 from by decide) rfl fun T420 h422 W421 wr423 A424 => ?_
  have f425 : Arv Z h422 a368 k372 .double (4 : Int32) [(.double 0), (.double z415), (.double (dI (n0 + n1))), (.double (dI (n0 + n1 + n2)))] (.double 0) := A424
  refine gIinc (z := (2 : Int32)) (ls' := #[.val (.ref r), .val (.ref a368), .val (.double (dI (n0 + n1 + n2))), .second, .val (.double (dI 0)), .second, .val (.double (dI (n0 + n1 + n2))), .second, .val (.int (2 : Int32)), .val (.double (dI (n0 + n1 + n2))), .second, .val (.double (dI n2)), .second]) W421 d6_135 rfl (by decide) rfl rfl ?_
  refine gGoto (pc' := 104) W421 d6_138 (by decide) rfl ?_
  refine gIload W421 d6_104 rfl rfl ?_
  refine gAloadN W421 d6_106 rfl rfl rfl ?_
  have f426 := f405.other wr423 ne381
  refine wLen W421 d6_107 f426 rfl ?_
  refine gIcmpNo W421 d6_108 (flt (by decide)).2.2.1 rfl ?_
  refine gAloadN W421 d6_111 rfl rfl rfl ?_
  refine gIload W421 d6_112 rfl rfl ?_
  refine gAloadN W421 d6_114 rfl rfl rfl ?_
  refine gIload W421 d6_115 rfl rfl ?_
  refine gIconst (z := (1 : Int32)) W421 d6_117 rfl rfl ?_
  refine gIsub (z := (1 : Int32)) W421 d6_118 (by decide) rfl ?_
  refine wLdD (v := (.double z415)) W421 d6_119 f425 (by decide) rfl rfl ?_
  refine gDconst1 (z := FP.dconst1) W421 d6_120 rfl rfl ?_
  refine gAloadN W421 d6_121 rfl rfl rfl ?_
  refine gIload W421 d6_122 rfl rfl ?_
  refine wLdD (v := (.double (dI (n0 + n1)))) W421 d6_124 f425 (by decide) rfl rfl ?_
  refine gDload W421 d6_125 rfl rfl ?_
  obtain ⟨z427, e428⟩ : ∃ z, FP.ddiv (dI (n0 + n1)) (dI (n0 + n1 + n2)) = z := ⟨_, rfl⟩
  have nz429 : NoNaN64 z427 := e428 ▸ nn_div (by omega) (by omega)
  refine gDdiv (z := z427) W421 d6_127 e428 nz429 rfl ?_
  obtain ⟨z430, e431⟩ : ∃ z, Native.java_lang_Math.nans.pick64 false FP.dconst1 z427 = z := ⟨_, rfl⟩
  have nz432 : NoNaN64 z430 := e431 ▸ pick64_noNaN nn_one nz429
  refine wNat (y := (⟨"java/lang/Math", "min", "(DD)D"⟩ : MethodName)) (Wd := 4) (argsL := [(.double FP.dconst1), (.double z427)]) (rest := [(.double z415), (.int (2 : Int32)), (.ref a368)]) (val' := (.double z430)) W421 d6_128 (ow38 hw) (ow39 hw) (ow8 hw) (ow40 hw) (by decide) (fun _ hc => Jvm.Free.Fl.Abs.minD_pays (l := l) FP.dconst1 z427 (by exact hc) (by decide) (by decide)) rfl (lenOf opd2 rfl) rfl (Nat.le_of_eq rfl) (by decide) (by decide) ⟨rfl, nn_one, nz429⟩ (congrArg Value.double e431) rfl fun T433 W434 => ?_
  obtain ⟨z435, e436⟩ : ∃ z, Native.java_lang_Math.nans.pick64 true z415 z430 = z := ⟨_, rfl⟩
  have nz437 : NoNaN64 z435 := e436 ▸ pick64_noNaN nz417 nz432
  refine wNat (y := (⟨"java/lang/Math", "max", "(DD)D"⟩ : MethodName)) (Wd := 2) (argsL := [(.double z415), (.double z430)]) (rest := [(.int (2 : Int32)), (.ref a368)]) (val' := (.double z435)) W434 d6_131 (ow41 hw) (ow42 hw) (ow8 hw) (ow43 hw) (by decide) (fun _ hc => Jvm.Free.Fl.Abs.maxD_pays (l := l) z415 z430 (by exact hc) (by decide) (by decide)) rfl (lenOf opd2 rfl) rfl (Nat.le_of_eq rfl) (by decide) (by decide) ⟨rfl, nz417, nz432⟩ (congrArg Value.double e436) rfl fun T438 W439 => ?_
  refine wStD W439 d6_134 (by simp) f425 (by decide) 2 (by decide) (show 2 < 4 from by decide) rfl fun T440 h442 W441 wr443 A444 => ?_
  have f445 : Arv Z h442 a368 k372 .double (4 : Int32) [(.double 0), (.double z415), (.double z435), (.double (dI (n0 + n1 + n2)))] (.double 0) := A444
  refine gIinc (z := (3 : Int32)) (ls' := #[.val (.ref r), .val (.ref a368), .val (.double (dI (n0 + n1 + n2))), .second, .val (.double (dI 0)), .second, .val (.double (dI (n0 + n1 + n2))), .second, .val (.int (3 : Int32)), .val (.double (dI (n0 + n1 + n2))), .second, .val (.double (dI n2)), .second]) W441 d6_135 rfl (by decide) rfl rfl ?_
  refine gGoto (pc' := 104) W441 d6_138 (by decide) rfl ?_
  refine gIload W441 d6_104 rfl rfl ?_
  refine gAloadN W441 d6_106 rfl rfl rfl ?_
  have f446 := f426.other wr443 ne381
  refine wLen W441 d6_107 f446 rfl ?_
  refine gIcmpNo W441 d6_108 (flt (by decide)).2.2.1 rfl ?_
  refine gAloadN W441 d6_111 rfl rfl rfl ?_
  refine gIload W441 d6_112 rfl rfl ?_
  refine gAloadN W441 d6_114 rfl rfl rfl ?_
  refine gIload W441 d6_115 rfl rfl ?_
  refine gIconst (z := (1 : Int32)) W441 d6_117 rfl rfl ?_
  refine gIsub (z := (2 : Int32)) W441 d6_118 (by decide) rfl ?_
  refine wLdD (v := (.double z435)) W441 d6_119 f445 (by decide) rfl rfl ?_
  refine gDconst1 (z := FP.dconst1) W441 d6_120 rfl rfl ?_
  refine gAloadN W441 d6_121 rfl rfl rfl ?_
  refine gIload W441 d6_122 rfl rfl ?_
  refine wLdD (v := (.double (dI (n0 + n1 + n2)))) W441 d6_124 f445 (by decide) rfl rfl ?_
  refine gDload W441 d6_125 rfl rfl ?_
  obtain ⟨z447, e448⟩ : ∃ z, FP.ddiv (dI (n0 + n1 + n2)) (dI (n0 + n1 + n2)) = z := ⟨_, rfl⟩
  have nz449 : NoNaN64 z447 := e448 ▸ nn_div (by omega) (by omega)
  refine gDdiv (z := z447) W441 d6_127 e448 nz449 rfl ?_
  obtain ⟨z450, e451⟩ : ∃ z, Native.java_lang_Math.nans.pick64 false FP.dconst1 z447 = z := ⟨_, rfl⟩
  have nz452 : NoNaN64 z450 := e451 ▸ pick64_noNaN nn_one nz449
  refine wNat (y := (⟨"java/lang/Math", "min", "(DD)D"⟩ : MethodName)) (Wd := 4) (argsL := [(.double FP.dconst1), (.double z447)]) (rest := [(.double z435), (.int (3 : Int32)), (.ref a368)]) (val' := (.double z450)) W441 d6_128 (ow38 hw) (ow39 hw) (ow8 hw) (ow40 hw) (by decide) (fun _ hc => Jvm.Free.Fl.Abs.minD_pays (l := l) FP.dconst1 z447 (by exact hc) (by decide) (by decide)) rfl (lenOf opd2 rfl) rfl (Nat.le_of_eq rfl) (by decide) (by decide) ⟨rfl, nn_one, nz449⟩ (congrArg Value.double e451) rfl fun T453 W454 => ?_
  obtain ⟨z455, e456⟩ : ∃ z, Native.java_lang_Math.nans.pick64 true z435 z450 = z := ⟨_, rfl⟩
  have nz457 : NoNaN64 z455 := e456 ▸ pick64_noNaN nz437 nz452
  refine wNat (y := (⟨"java/lang/Math", "max", "(DD)D"⟩ : MethodName)) (Wd := 2) (argsL := [(.double z435), (.double z450)]) (rest := [(.int (3 : Int32)), (.ref a368)]) (val' := (.double z455)) W454 d6_131 (ow41 hw) (ow42 hw) (ow8 hw) (ow43 hw) (by decide) (fun _ hc => Jvm.Free.Fl.Abs.maxD_pays (l := l) z435 z450 (by exact hc) (by decide) (by decide)) rfl (lenOf opd2 rfl) rfl (Nat.le_of_eq rfl) (by decide) (by decide) ⟨rfl, nz437, nz452⟩ (congrArg Value.double e456) rfl fun T458 W459 => ?_
  refine wStD W459 d6_134 (by simp) f445 (by decide) 3 (by decide) (show 3 < 4 from by decide) rfl fun T460 h462 W461 wr463 A464 => ?_
  have f465 : Arv Z h462 a368 k372 .double (4 : Int32) [(.double 0), (.double z415), (.double z435), (.double z455)] (.double 0) := A464
  refine gIinc (z := (4 : Int32)) (ls' := #[.val (.ref r), .val (.ref a368), .val (.double (dI (n0 + n1 + n2))), .second, .val (.double (dI 0)), .second, .val (.double (dI (n0 + n1 + n2))), .second, .val (.int (4 : Int32)), .val (.double (dI (n0 + n1 + n2))), .second, .val (.double (dI n2)), .second]) W461 d6_135 rfl (by decide) rfl rfl ?_
  refine gGoto (pc' := 104) W461 d6_138 (by decide) rfl ?_
  refine gIload W461 d6_104 rfl rfl ?_
  refine gAloadN W461 d6_106 rfl rfl rfl ?_
  have f466 := f446.other wr463 ne381
  refine wLen W461 d6_107 f466 rfl ?_
  refine gIcmpYes (pc' := 141) W461 d6_108 (tlt (by decide)).2.2.1 (by decide) rfl ?_
  refine gAloadN W461 d6_141 rfl rfl rfl ?_
  exact wRetA (so := []) (t := .array .double) W461 d6_142 rfl rfl rfl (by decide) (by decide) (fun _ q => nomatch q) ⟨a368, rfl, rfl, (Nat.le_of_eq g370.symm)⟩
theorem oef_ob_i3 (m_ : MethodId) (a : Addr) (r : Addr) (c : Int32) (d : Int32)  : (entryFrame m_ #[(.ref a), (.ref r), (.int c), (.int d)] 6).locals = #[.val (.ref a), .val (.ref r), .val (.int c), .val (.int d), .unset, .unset] := by first | (simp [entryFrame, argsToLocals, Value.category]; done) | rfl
set_option maxRecDepth 65536 in
set_option maxHeartbeats 40000000 in
theorem ob_i3 (l : Launch) (Z : State) (a0 : Array Value) (hw : ∀ d ∈ tables_1, d.before a0 Z = true) (hE : EW Z a0 ([] : List (String × Nat))) (a : Addr) (r : Addr) (kr : ClassId) (c : Int32) (d : Int32) (n0 : Nat) (n1 : Nat) (n2 : Nat) (h : Heap) (hO : Old Z Z.heap.size h) (q0 : Exa Z h a "com/example/hasset/hasset/algorithm/Aperture") (q1 : Fld Z h a "com/example/hasset/hasset/algorithm/Aperture" "clients" "I" (.int (0 : Int32))) (q2 : Fld Z h a "com/example/hasset/hasset/algorithm/Aperture" "span" "I" (.int (0 : Int32))) (q3 : Fld Z h a "com/example/hasset/hasset/algorithm/Aperture" "boundaries" "[D" .null) (q4 : Arv Z h r kr .double (3 : Int32) [(.double (dI n0)), (.double (dI n1)), (.double (dI n2))] (.double 0)) (nra : (r ≠ a)) (hc : (0 < c.toInt)) (hd : (0 < d.toInt)) (na0 : (1 ≤ n0)) (nb0 : (n0 ≤ 8)) (na1 : (1 ≤ n1)) (nb1 : (n1 ≤ 8)) (na2 : (1 ≤ n2)) (nb2 : (n2 ≤ 8)) (ge_a : Z.heap.size ≤ a) :
    Ct l Z ([] : List (String × Nat)) (⟨"com/example/hasset/hasset/algorithm/Aperture", "<init>", "([DII)V"⟩ : MethodName) prog_1_method_1_code 6 (Option.none : Option Jvm.ClassFile.FieldType) ⟨3, 1, 4, 95⟩ #[(.ref a), (.ref r), (.int c), (.int d)] h [a] (fun rv' hp' so' => rv' = none ∧ so' = [] ∧ Exa Z hp' a "com/example/hasset/hasset/algorithm/Aperture" ∧ Fld Z hp' a "com/example/hasset/hasset/algorithm/Aperture" "clients" "I" (.int c) ∧ Fld Z hp' a "com/example/hasset/hasset/algorithm/Aperture" "span" "I" (.int ((minL c.toInt64 (((d.toInt64 * c.toInt64) + 3 - 1) / 3)).toInt32))) := by
  refine Ct.mk "com/example/hasset/hasset/algorithm/Aperture" "<init>" rfl rfl (a0 := a0) (plainFor_of_name opn2) hO hE (fun x q => by simp at q; subst q; exact ge_a) ?_
  intro K T W
  rw [oef_ob_i3]
  refine gAloadN W d3_0 rfl rfl rfl ?_
  refine wInitO W d3_1 (ow16 hw) (ow17 hw) (ow18 hw) rfl (by decide) 0 (Nat.le_of_eq rfl) (by decide) rfl fun T467 W468 => ?_
  refine gAloadN W468 d3_4 rfl rfl rfl ?_
  refine wLen W468 d3_5 q4 rfl ?_
  refine gIfYes (pc' := 19) W468 d3_6 ((if0 _ _).trans (feq (by decide)).2) (by decide) rfl ?_
  refine gIconst (z := (0 : Int32)) W468 d3_19 rfl rfl ?_
  refine gIstore (ls' := #[.val (.ref a), .val (.ref r), .val (.int c), .val (.int d), .val (.int (0 : Int32)), .unset]) W468 d3_20 rfl rfl ?_
  refine gIload W468 d3_22 rfl rfl ?_
  refine gAloadN W468 d3_24 rfl rfl rfl ?_
  refine wLen W468 d3_25 q4 rfl ?_
  refine gIcmpNo W468 d3_26 (tlt (by decide)).2.1 rfl ?_
  refine gAloadN W468 d3_29 rfl rfl rfl ?_
  refine gIload W468 d3_30 rfl rfl ?_
  refine wLdD (v := (.double (dI n0))) W468 d3_32 q4 (by decide) rfl rfl ?_
  refine gDconst0 (z := (dI 0)) W468 d3_33 dz rfl ?_
  refine gDcmp (z := (1 : Int32)) W468 d3_34 (dpos (by omega) (by omega)) rfl ?_
  refine gIfNo W468 d3_35 ((if0 _ _).trans (tlt (by decide)).2.2.2) rfl ?_
  refine gAloadN W468 d3_38 rfl rfl rfl ?_
  refine gIload W468 d3_39 rfl rfl ?_
  refine wLdD (v := (.double (dI n0))) W468 d3_41 q4 (by decide) rfl rfl ?_
  refine wLdcD (v := 9218868437227405312) W468 d3_42 (ow19 hw) rfl ?_
  refine gDcmp (z := (-1 : Int32)) W468 d3_45 dfin rfl ?_
  refine gIfYes (pc' := 68) W468 d3_46 ((if0 _ _).trans (tlt (by decide)).1) (by decide) rfl ?_
  refine gIinc (z := (1 : Int32)) (ls' := #[.val (.ref a), .val (.ref r), .val (.int c), .val (.int d), .val (.int (1 : Int32)), .unset]) W468 d3_68 rfl (by decide) rfl rfl ?_
  refine gGoto (pc' := 22) W468 d3_71 (by decide) rfl ?_
  refine gIload W468 d3_22 rfl rfl ?_
  refine gAloadN W468 d3_24 rfl rfl rfl ?_
  refine wLen W468 d3_25 q4 rfl ?_
  refine gIcmpNo W468 d3_26 (tlt (by decide)).2.1 rfl ?_
  refine gAloadN W468 d3_29 rfl rfl rfl ?_
  refine gIload W468 d3_30 rfl rfl ?_
  refine wLdD (v := (.double (dI n1))) W468 d3_32 q4 (by decide) rfl rfl ?_
  refine gDconst0 (z := (dI 0)) W468 d3_33 dz rfl ?_
  refine gDcmp (z := (1 : Int32)) W468 d3_34 (dpos (by omega) (by omega)) rfl ?_
  refine gIfNo W468 d3_35 ((if0 _ _).trans (tlt (by decide)).2.2.2) rfl ?_
  refine gAloadN W468 d3_38 rfl rfl rfl ?_
  refine gIload W468 d3_39 rfl rfl ?_
  refine wLdD (v := (.double (dI n1))) W468 d3_41 q4 (by decide) rfl rfl ?_
  refine wLdcD (v := 9218868437227405312) W468 d3_42 (ow19 hw) rfl ?_
  refine gDcmp (z := (-1 : Int32)) W468 d3_45 dfin rfl ?_
  refine gIfYes (pc' := 68) W468 d3_46 ((if0 _ _).trans (tlt (by decide)).1) (by decide) rfl ?_
  refine gIinc (z := (2 : Int32)) (ls' := #[.val (.ref a), .val (.ref r), .val (.int c), .val (.int d), .val (.int (2 : Int32)), .unset]) W468 d3_68 rfl (by decide) rfl rfl ?_
  refine gGoto (pc' := 22) W468 d3_71 (by decide) rfl ?_
  refine gIload W468 d3_22 rfl rfl ?_
  refine gAloadN W468 d3_24 rfl rfl rfl ?_
  refine wLen W468 d3_25 q4 rfl ?_
  refine gIcmpNo W468 d3_26 (tlt (by decide)).2.1 rfl ?_
  refine gAloadN W468 d3_29 rfl rfl rfl ?_
  refine gIload W468 d3_30 rfl rfl ?_
  refine wLdD (v := (.double (dI n2))) W468 d3_32 q4 (by decide) rfl rfl ?_
  refine gDconst0 (z := (dI 0)) W468 d3_33 dz rfl ?_
  refine gDcmp (z := (1 : Int32)) W468 d3_34 (dpos (by omega) (by omega)) rfl ?_
  refine gIfNo W468 d3_35 ((if0 _ _).trans (tlt (by decide)).2.2.2) rfl ?_
  refine gAloadN W468 d3_38 rfl rfl rfl ?_
  refine gIload W468 d3_39 rfl rfl ?_
  refine wLdD (v := (.double (dI n2))) W468 d3_41 q4 (by decide) rfl rfl ?_
  refine wLdcD (v := 9218868437227405312) W468 d3_42 (ow19 hw) rfl ?_
  refine gDcmp (z := (-1 : Int32)) W468 d3_45 dfin rfl ?_
  refine gIfYes (pc' := 68) W468 d3_46 ((if0 _ _).trans (tlt (by decide)).1) (by decide) rfl ?_
  refine gIinc (z := (3 : Int32)) (ls' := #[.val (.ref a), .val (.ref r), .val (.int c), .val (.int d), .val (.int (3 : Int32)), .unset]) W468 d3_68 rfl (by decide) rfl rfl ?_
  refine gGoto (pc' := 22) W468 d3_71 (by decide) rfl ?_
  refine gIload W468 d3_22 rfl rfl ?_
  refine gAloadN W468 d3_24 rfl rfl rfl ?_
  refine wLen W468 d3_25 q4 rfl ?_
  refine gIcmpYes (pc' := 74) W468 d3_26 (flt (by decide)).2.1 (by decide) rfl ?_
  refine gIloadN W468 d3_74 rfl rfl ?_
  refine gIconst (z := (1 : Int32)) W468 d3_75 rfl rfl ?_
  refine gIcmpYes (pc' := 93) W468 d3_76 (flt (fun q => by have := Int32.lt_iff_toInt_lt.mp q; have e : (1 : Int32).toInt = 1 := (by decide); omega)).2.1 (by decide) rfl ?_
  refine gIloadN W468 d3_93 rfl rfl ?_
  refine gIconst (z := (1 : Int32)) W468 d3_94 rfl rfl ?_
  refine gIcmpYes (pc' := 112) W468 d3_95 (flt (fun q => by have := Int32.lt_iff_toInt_lt.mp q; have e : (1 : Int32).toInt = 1 := (by decide); omega)).2.1 (by decide) rfl ?_
  refine gIloadN W468 d3_112 rfl rfl ?_
  refine gI2L (z := d.toInt64) W468 d3_113 rfl rfl ?_
  refine gIloadN W468 d3_114 rfl rfl ?_
  refine gI2L (z := c.toInt64) W468 d3_115 rfl rfl ?_
  refine gLmul (z := (d.toInt64 * c.toInt64)) W468 d3_116 rfl rfl ?_
  refine gLstore (ls' := #[.val (.ref a), .val (.ref r), .val (.int c), .val (.int d), .val (.long (d.toInt64 * c.toInt64)), .second]) W468 d3_117 rfl rfl ?_
  refine gAloadN W468 d3_119 rfl rfl rfl ?_
  refine gIloadN W468 d3_120 rfl rfl ?_
  refine wPutF (ty := .int) W468 d3_121 (ow20 hw) Via.refl (by simp) q1 q0 (Or.inr ⟨(ow21 hw), rfl, rfl⟩) (ow11 hw) (by decide) rfl rfl rfl fun T469 h471 W470 wr472 => ?_
  have f473 := Fld.same wr472 q1
  refine gAloadN W470 d3_124 rfl rfl rfl ?_
  refine gIloadN W470 d3_125 rfl rfl ?_
  refine gI2L (z := c.toInt64) W470 d3_126 rfl rfl ?_
  refine gLload W470 d3_127 rfl rfl ?_
  refine gAloadN W470 d3_129 rfl rfl rfl ?_
  have f474 := q4.other wr472 nra
  refine wLen W470 d3_130 f474 rfl ?_
  refine gI2L (z := (3 : Int64)) W470 d3_131 (by decide) rfl ?_
  refine gLadd (z := ((d.toInt64 * c.toInt64) + 3)) W470 d3_132 rfl rfl ?_
  refine gLconst (z := (1 : Int64)) W470 d3_133 rfl rfl ?_
  refine gLsub (z := ((d.toInt64 * c.toInt64) + 3 - 1)) W470 d3_134 rfl rfl ?_
  refine gAloadN W470 d3_135 rfl rfl rfl ?_
  refine wLen W470 d3_136 f474 rfl ?_
  refine gI2L (z := (3 : Int64)) W470 d3_137 (by decide) rfl ?_
  refine gLdiv (z := (((d.toInt64 * c.toInt64) + 3 - 1) / 3)) W470 d3_138 (by decide) rfl rfl ?_
  refine wStatic (y := (⟨"java/lang/Math", "min", "(JJ)J"⟩ : MethodName)) (Wd := 1) (argsL := [(.long c.toInt64), (.long (((d.toInt64 * c.toInt64) + 3 - 1) / 3))]) (rest := [(.ref a)]) W470 d3_139 (ow22 hw) (ow23 hw) (ow8 hw) (ow24 hw) (by decide) (Cb.ct (ob_mnJ l Z a0 hw hE (c.toInt64) ((((d.toInt64 * c.toInt64) + 3 - 1) / 3)) h471 W470.old  ) (ow24 hw) (ow8 hw) hE (by decide) (by decide)) (by simp) rfl (lenOf opd3 rfl) rfl (Nat.le_of_eq rfl) (by decide) (by decide) rfl fun v479 so480 T475 h477 W476 kp478 sp481 q482 => ?_
  obtain ⟨rfl, rfl⟩ := q482
  show Go K _ T475 142 #[.val (.ref a), .val (.ref r), .val (.int c), .val (.int d), .val (.long (d.toInt64 * c.toInt64)), .second] [(.long (minL c.toInt64 (((d.toInt64 * c.toInt64) + 3 - 1) / 3))), (.ref a)]
  refine gL2I (z := ((minL c.toInt64 (((d.toInt64 * c.toInt64) + 3 - 1) / 3)).toInt32)) W476 d3_142 rfl rfl ?_
  have f483 := q2.other wr472 (Or.inr (slot_ne (t := .int) (t' := .int) (Or.inr (ow26 hw)) (Or.inr (ow21 hw)) (by decide) (by decide) (by decide)))
  have f484 := f483.keep kp478 nin0
  have f485 := q0.wr wr472
  have f486 := f485.keep kp478
  refine wPutF (ty := .int) W476 d3_143 (ow25 hw) Via.refl (by simp) f484 f486 (Or.inr ⟨(ow26 hw), rfl, rfl⟩) (ow11 hw) (by decide) rfl rfl rfl fun T487 h489 W488 wr490 => ?_
  have f491 := Fld.same wr490 f484
  refine gAloadN W488 d3_146 rfl rfl rfl ?_
  refine gAloadN W488 d3_147 rfl rfl rfl ?_
  have f492 := f474.keep kp478 nin0
  have f493 := f492.other wr490 nra
  refine wStatic (y := (⟨"com/example/hasset/hasset/algorithm/Aperture", "boundaries", "([D)[D"⟩ : MethodName)) (Wd := 1) (argsL := [(.ref r)]) (rest := [(.ref a)]) W488 d3_148 (ow27 hw) (ow28 hw) (ow12 hw) (ow29 hw) (by decide) (Cb.ct (ob_b3 l Z a0 hw hE (r) (kr) (n0) (n1) (n2) h489 W488.old f493 na0 nb0 na1 nb1 na2 nb2 ) (ow29 hw) (ow12 hw) hE (by decide) (by decide)) (by simp) rfl (lenOf opd4 rfl) rfl (Nat.le_of_eq rfl) (by decide) (by decide) rfl fun v498 so499 T494 h496 W495 kp497 sp500 q501 => ?_
  obtain ⟨b502, rfl, rfl, f503⟩ := q501
  show Go K _ T494 151 #[.val (.ref a), .val (.ref r), .val (.int c), .val (.int d), .val (.long (d.toInt64 * c.toInt64)), .second] [(.ref b502), (.ref a)]
  have f504 := q3.other wr472 (Or.inr (slot_ne (t := .array .double) (t' := .int) (Or.inr (ow45 hw)) (Or.inr (ow21 hw)) (by decide) (by decide) (by decide)))
  have f505 := f504.keep kp478 nin0
  have f506 := f505.other wr490 (Or.inr (slot_ne (t := .array .double) (t' := .int) (Or.inr (ow45 hw)) (Or.inr (ow26 hw)) (by decide) (by decide) (by decide)))
  have f507 := f506.keep kp497 nin0
  have f508 := f486.wr wr490
  have f509 := f508.keep kp497
  refine wPutF (ty := .array .double) W495 d3_151 (ow44 hw) Via.refl (by simp) f507 f509 (Or.inr ⟨(ow45 hw), rfl, rfl⟩) (ow11 hw) (by decide) rfl rfl rfl fun T510 h512 W511 wr513 => ?_
  have f514 := Fld.same wr513 f507
  have f515 := f509.wr wr513
  have f516 := f473.keep kp478 nin0
  have f517 := f516.other wr490 (Or.inr (slot_ne (t := .int) (t' := .int) (Or.inr (ow21 hw)) (Or.inr (ow26 hw)) (by decide) (by decide) (by decide)))
  have f518 := f517.keep kp497 nin0
  have f519 := f518.other wr513 (Or.inr (slot_ne (t := .int) (t' := .array .double) (Or.inr (ow21 hw)) (Or.inr (ow45 hw)) (by decide) (by decide) (by decide)))
  have f520 := f491.keep kp497 nin0
  have f521 := f520.other wr513 (Or.inr (slot_ne (t := .int) (t' := .array .double) (Or.inr (ow26 hw)) (Or.inr (ow45 hw)) (by decide) (by decide) (by decide)))
  exact wRet0 (so := []) W511 d3_154 (by decide) (by decide) (fun _ q => nomatch q) ⟨rfl, rfl, f515, f519, f521⟩
theorem d1_104 : decode method_2_code 104 = .ok (.iconst 4, 1) := by decide +kernel
theorem d1_105 : decode method_2_code 105 = .ok (.newarray .double, 2) := by decide +kernel
theorem d1_107 : decode method_2_code 107 = .ok (.dup, 1) := by decide +kernel
theorem d1_108 : decode method_2_code 108 = .ok (.iconst 0, 1) := by decide +kernel
theorem d1_109 : decode method_2_code 109 = .ok (.dload_n 2, 1) := by decide +kernel
theorem d1_110 : decode method_2_code 110 = .ok (.dastore, 1) := by decide +kernel
theorem d1_111 : decode method_2_code 111 = .ok (.dup, 1) := by decide +kernel
theorem d1_112 : decode method_2_code 112 = .ok (.iconst 1, 1) := by decide +kernel
theorem d1_113 : decode method_2_code 113 = .ok (.dload 4, 2) := by decide +kernel
theorem d1_115 : decode method_2_code 115 = .ok (.dastore, 1) := by decide +kernel
theorem d1_116 : decode method_2_code 116 = .ok (.dup, 1) := by decide +kernel
theorem d1_117 : decode method_2_code 117 = .ok (.iconst 2, 1) := by decide +kernel
theorem d1_118 : decode method_2_code 118 = .ok (.dload 6, 2) := by decide +kernel
theorem d1_120 : decode method_2_code 120 = .ok (.dastore, 1) := by decide +kernel
theorem d1_121 : decode method_2_code 121 = .ok (.dup, 1) := by decide +kernel
theorem d1_122 : decode method_2_code 122 = .ok (.iconst 3, 1) := by decide +kernel
theorem d1_123 : decode method_2_code 123 = .ok (.dload 8, 2) := by decide +kernel
theorem d1_125 : decode method_2_code 125 = .ok (.dastore, 1) := by decide +kernel
theorem d1_126 : decode method_2_code 126 = .ok (.areturn, 1) := by decide +kernel
theorem oef_ob_w4 (m_ : MethodId) (p : Int32) (q : Int32)  : (entryFrame m_ #[(.int p), (.int q)] 11).locals = #[.val (.int p), .val (.int q), .unset, .unset, .unset, .unset, .unset, .unset, .unset, .unset, .unset] := by first | (simp [entryFrame, argsToLocals, Value.category]; done) | rfl
set_option maxRecDepth 65536 in
set_option maxHeartbeats 40000000 in
theorem ob_w4 (l : Launch) (Z : State) (a0 : Array Value) (hw : ∀ d ∈ tables_1, d.before a0 Z = true) (hE : EW Z a0 ([] : List (String × Nat))) (p : Int32) (q : Int32) (h : Heap) (hO : Old Z Z.heap.size h) (hp : (p &&& 3 = 3))  :
    Ct l Z ([] : List (String × Nat)) (⟨"com/example/hasset/hasset/algorithm/ApertureWidthPinLaw", "weights", "(II)[D"⟩ : MethodName) method_2_code 11 (Option.some (Jvm.ClassFile.FieldType.array Jvm.ClassFile.FieldType.double)) ⟨0, 1, 4, 0⟩ #[(.int p), (.int q)] h [] (fun rv' hp' so' => ∃ r : Addr, ∃ kr : ClassId, ∃ n0 : Nat, ∃ n1 : Nat, ∃ n2 : Nat, ∃ n3 : Nat, rv' = some (.ref r) ∧ so' = [] ∧ (h.size ≤ r) ∧ (1 ≤ n0) ∧ (n0 ≤ 8) ∧ (1 ≤ n1) ∧ (n1 ≤ 8) ∧ (1 ≤ n2) ∧ (n2 ≤ 8) ∧ (1 ≤ n3) ∧ (n3 ≤ 8) ∧ Arv Z hp' r kr .double (4 : Int32) [(.double (dI n0)), (.double (dI n1)), (.double (dI n2)), (.double (dI n3))] (.double 0)) := by
  refine Ct.mk "com/example/hasset/hasset/algorithm/ApertureWidthPinLaw" "weights" rfl rfl (a0 := a0) (plainFor_of_name opn1) hO hE (fun x q => nomatch q) ?_
  intro K T W
  rw [oef_ob_w4]
  refine gIloadN W d1_0 rfl rfl ?_
  refine gBipush (z := (7 : Int32)) W d1_1 rfl rfl ?_
  obtain ⟨v522, e523⟩ : ∃ v : Int32, q &&& (7 : Int32) = v := ⟨_, rfl⟩
  refine gIand W d1_3 e523 rfl ?_
  refine gIconst (z := (1 : Int32)) W d1_4 rfl rfl ?_
  obtain ⟨v524, e525⟩ : ∃ v : Int32, v522 + (1 : Int32) = v := ⟨_, rfl⟩
  refine gIadd W d1_5 e525 rfl ?_
  obtain ⟨n0, na0, nb0, ne0⟩ := wgt e523 e525
  refine gI2D (z := (dI n0)) W d1_6 ne0 rfl ?_
  refine gDstoreN (ls' := #[.val (.int p), .val (.int q), .val (.double (dI n0)), .second, .unset, .unset, .unset, .unset, .unset, .unset, .unset]) W d1_7 rfl rfl ?_
  refine gIloadN W d1_8 rfl rfl ?_
  refine gIconst (z := (3 : Int32)) W d1_9 rfl rfl ?_
  obtain ⟨v526, e527⟩ : ∃ v : Int32, (q.toUInt32 >>> ((3 : Int32) &&& 31).toUInt32).toInt32 = v := ⟨_, rfl⟩
  refine gIushr W d1_10 e527 rfl ?_
  refine gBipush (z := (7 : Int32)) W d1_11 rfl rfl ?_
  obtain ⟨v528, e529⟩ : ∃ v : Int32, v526 &&& (7 : Int32) = v := ⟨_, rfl⟩
  refine gIand W d1_13 e529 rfl ?_
  refine gIconst (z := (1 : Int32)) W d1_14 rfl rfl ?_
  obtain ⟨v530, e531⟩ : ∃ v : Int32, v528 + (1 : Int32) = v := ⟨_, rfl⟩
  refine gIadd W d1_15 e531 rfl ?_
  obtain ⟨n1, na1, nb1, ne1⟩ := wgt e529 e531
  refine gI2D (z := (dI n1)) W d1_16 ne1 rfl ?_
  refine gDstore (ls' := #[.val (.int p), .val (.int q), .val (.double (dI n0)), .second, .val (.double (dI n1)), .second, .unset, .unset, .unset, .unset, .unset]) W d1_17 rfl rfl ?_
  refine gIloadN W d1_19 rfl rfl ?_
  refine gBipush (z := (6 : Int32)) W d1_20 rfl rfl ?_
  obtain ⟨v532, e533⟩ : ∃ v : Int32, (q.toUInt32 >>> ((6 : Int32) &&& 31).toUInt32).toInt32 = v := ⟨_, rfl⟩
  refine gIushr W d1_22 e533 rfl ?_
  refine gBipush (z := (7 : Int32)) W d1_23 rfl rfl ?_
  obtain ⟨v534, e535⟩ : ∃ v : Int32, v532 &&& (7 : Int32) = v := ⟨_, rfl⟩
  refine gIand W d1_25 e535 rfl ?_
  refine gIconst (z := (1 : Int32)) W d1_26 rfl rfl ?_
  obtain ⟨v536, e537⟩ : ∃ v : Int32, v534 + (1 : Int32) = v := ⟨_, rfl⟩
  refine gIadd W d1_27 e537 rfl ?_
  obtain ⟨n2, na2, nb2, ne2⟩ := wgt e535 e537
  refine gI2D (z := (dI n2)) W d1_28 ne2 rfl ?_
  refine gDstore (ls' := #[.val (.int p), .val (.int q), .val (.double (dI n0)), .second, .val (.double (dI n1)), .second, .val (.double (dI n2)), .second, .unset, .unset, .unset]) W d1_29 rfl rfl ?_
  refine gIloadN W d1_31 rfl rfl ?_
  refine gBipush (z := (9 : Int32)) W d1_32 rfl rfl ?_
  obtain ⟨v538, e539⟩ : ∃ v : Int32, (q.toUInt32 >>> ((9 : Int32) &&& 31).toUInt32).toInt32 = v := ⟨_, rfl⟩
  refine gIushr W d1_34 e539 rfl ?_
  refine gBipush (z := (7 : Int32)) W d1_35 rfl rfl ?_
  obtain ⟨v540, e541⟩ : ∃ v : Int32, v538 &&& (7 : Int32) = v := ⟨_, rfl⟩
  refine gIand W d1_37 e541 rfl ?_
  refine gIconst (z := (1 : Int32)) W d1_38 rfl rfl ?_
  obtain ⟨v542, e543⟩ : ∃ v : Int32, v540 + (1 : Int32) = v := ⟨_, rfl⟩
  refine gIadd W d1_39 e543 rfl ?_
  obtain ⟨n3, na3, nb3, ne3⟩ := wgt e541 e543
  refine gI2D (z := (dI n3)) W d1_40 ne3 rfl ?_
  refine gDstore (ls' := #[.val (.int p), .val (.int q), .val (.double (dI n0)), .second, .val (.double (dI n1)), .second, .val (.double (dI n2)), .second, .val (.double (dI n3)), .second, .unset]) W d1_41 rfl rfl ?_
  refine gIloadN W d1_43 rfl rfl ?_
  refine gIconst (z := (3 : Int32)) W d1_44 rfl rfl ?_
  refine gIand (z := (3 : Int32)) W d1_45 hp rfl ?_
  refine gIstore (ls' := #[.val (.int p), .val (.int q), .val (.double (dI n0)), .second, .val (.double (dI n1)), .second, .val (.double (dI n2)), .second, .val (.double (dI n3)), .second, .val (.int (3 : Int32))]) W d1_46 rfl rfl ?_
  refine gIload W d1_48 rfl rfl ?_
  refine gIfYes (pc' := 61) W d1_50 ((if0 _ _).trans (feq (by decide)).2) (by decide) rfl ?_
  refine gIload W d1_61 rfl rfl ?_
  refine gIconst (z := (1 : Int32)) W d1_63 rfl rfl ?_
  refine gIcmpYes (pc' := 80) W d1_64 (feq (by decide)).2 (by decide) rfl ?_
  refine gIload W d1_80 rfl rfl ?_
  refine gIconst (z := (2 : Int32)) W d1_82 rfl rfl ?_
  refine gIcmpYes (pc' := 104) W d1_83 (feq (by decide)).2 (by decide) rfl ?_
  refine gIconst (z := (4 : Int32)) W d1_104 rfl rfl ?_
  refine wNewP (cap := 4) W d1_105 (ow4 hw) (by decide) (by decide) (by decide) (by decide) (by decide) rfl fun T544 h546 a547 k551 W545 E548 g549 A550 => ?_
  have f552 : Arv Z h546 a547 k551 .double (4 : Int32) [(.double 0), (.double 0), (.double 0), (.double 0)] (.double 0) := A550 4
  refine gDup W545 d1_107 rfl rfl ?_
  refine gIconst (z := (0 : Int32)) W545 d1_108 rfl rfl ?_
  refine gDloadN W545 d1_109 rfl rfl ?_
  refine wStD W545 d1_110 (by simp) f552 (by decide) 0 (by decide) (show 0 < 4 from by decide) rfl fun T553 h555 W554 wr556 A557 => ?_
  have f558 : Arv Z h555 a547 k551 .double (4 : Int32) [(.double (dI n0)), (.double 0), (.double 0), (.double 0)] (.double 0) := A557
  refine gDup W554 d1_111 rfl rfl ?_
  refine gIconst (z := (1 : Int32)) W554 d1_112 rfl rfl ?_
  refine gDload W554 d1_113 rfl rfl ?_
  refine wStD W554 d1_115 (by simp) f558 (by decide) 1 (by decide) (show 1 < 4 from by decide) rfl fun T559 h561 W560 wr562 A563 => ?_
  have f564 : Arv Z h561 a547 k551 .double (4 : Int32) [(.double (dI n0)), (.double (dI n1)), (.double 0), (.double 0)] (.double 0) := A563
  refine gDup W560 d1_116 rfl rfl ?_
  refine gIconst (z := (2 : Int32)) W560 d1_117 rfl rfl ?_
  refine gDload W560 d1_118 rfl rfl ?_
  refine wStD W560 d1_120 (by simp) f564 (by decide) 2 (by decide) (show 2 < 4 from by decide) rfl fun T565 h567 W566 wr568 A569 => ?_
  have f570 : Arv Z h567 a547 k551 .double (4 : Int32) [(.double (dI n0)), (.double (dI n1)), (.double (dI n2)), (.double 0)] (.double 0) := A569
  refine gDup W566 d1_121 rfl rfl ?_
  refine gIconst (z := (3 : Int32)) W566 d1_122 rfl rfl ?_
  refine gDload W566 d1_123 rfl rfl ?_
  refine wStD W566 d1_125 (by simp) f570 (by decide) 3 (by decide) (show 3 < 4 from by decide) rfl fun T571 h573 W572 wr574 A575 => ?_
  have f576 : Arv Z h573 a547 k551 .double (4 : Int32) [(.double (dI n0)), (.double (dI n1)), (.double (dI n2)), (.double (dI n3))] (.double 0) := A575
  exact wRetA (so := []) (t := .array .double) W572 d1_126 rfl rfl rfl (by decide) (by decide) (fun _ q => nomatch q) ⟨a547, k551, n0, n1, n2, n3, rfl, rfl, (Nat.le_of_eq g549.symm), na0, nb0, na1, nb1, na2, nb2, na3, nb3, f576⟩
theorem oef_ob_b4 (m_ : MethodId) (r : Addr)  : (entryFrame m_ #[(.ref r)] 13).locals = #[.val (.ref r), .unset, .unset, .unset, .unset, .unset, .unset, .unset, .unset, .unset, .unset, .unset, .unset] := by first | (simp [entryFrame, argsToLocals, Value.category]; done) | rfl
set_option maxRecDepth 65536 in
set_option maxHeartbeats 40000000 in
theorem ob_b4 (l : Launch) (Z : State) (a0 : Array Value) (hw : ∀ d ∈ tables_1, d.before a0 Z = true) (hE : EW Z a0 ([] : List (String × Nat))) (r : Addr) (kr : ClassId) (n0 : Nat) (n1 : Nat) (n2 : Nat) (n3 : Nat) (h : Heap) (hO : Old Z Z.heap.size h) (q0 : Arv Z h r kr .double (4 : Int32) [(.double (dI n0)), (.double (dI n1)), (.double (dI n2)), (.double (dI n3))] (.double 0)) (na0 : (1 ≤ n0)) (nb0 : (n0 ≤ 8)) (na1 : (1 ≤ n1)) (nb1 : (n1 ≤ 8)) (na2 : (1 ≤ n2)) (nb2 : (n2 ≤ 8)) (na3 : (1 ≤ n3)) (nb3 : (n3 ≤ 8))  :
    Ct l Z ([] : List (String × Nat)) (⟨"com/example/hasset/hasset/algorithm/Aperture", "boundaries", "([D)[D"⟩ : MethodName) prog_1_method_2_code 13 (Option.some (Jvm.ClassFile.FieldType.array Jvm.ClassFile.FieldType.double)) ⟨2, 1, 5, 60⟩ #[(.ref r)] h [] (fun rv' hp' so' => ∃ b : Addr, rv' = some (.ref b) ∧ so' = [] ∧ (h.size ≤ b)) := by
  refine Ct.mk "com/example/hasset/hasset/algorithm/Aperture" "boundaries" rfl rfl (a0 := a0) (plainFor_of_name opn2) hO hE (fun x q => nomatch q) ?_
  intro K T W
  rw [oef_ob_b4]
  refine gAloadN W d6_0 rfl rfl rfl ?_
  refine wLen W d6_1 q0 rfl ?_
  refine gIconst (z := (1 : Int32)) W d6_2 rfl rfl ?_
  refine gIadd (z := (5 : Int32)) W d6_3 (by decide) rfl ?_
  refine wNewP (cap := 5) W d6_4 (ow4 hw) (by decide) (by decide) (by decide) (by decide) (by decide) rfl fun T577 h579 a580 k584 W578 E581 g582 A583 => ?_
  have f585 : Arv Z h579 a580 k584 .double (5 : Int32) [(.double 0), (.double 0), (.double 0), (.double 0), (.double 0)] (.double 0) := A583 5
  refine gAstoreN (ls' := #[.val (.ref r), .val (.ref a580), .unset, .unset, .unset, .unset, .unset, .unset, .unset, .unset, .unset, .unset, .unset]) W578 d6_6 rfl rfl rfl ?_
  refine gDconst0 (z := (dI 0)) W578 d6_7 dz rfl ?_
  refine gDstoreN (ls' := #[.val (.ref r), .val (.ref a580), .val (.double (dI 0)), .second, .unset, .unset, .unset, .unset, .unset, .unset, .unset, .unset, .unset]) W578 d6_8 rfl rfl ?_
  refine gDconst0 (z := (dI 0)) W578 d6_9 dz rfl ?_
  refine gDstore (ls' := #[.val (.ref r), .val (.ref a580), .val (.double (dI 0)), .second, .val (.double (dI 0)), .second, .unset, .unset, .unset, .unset, .unset, .unset, .unset]) W578 d6_10 rfl rfl ?_
  refine gIconst (z := (0 : Int32)) W578 d6_12 rfl rfl ?_
  refine gIstore (ls' := #[.val (.ref r), .val (.ref a580), .val (.double (dI 0)), .second, .val (.double (dI 0)), .second, .val (.int (0 : Int32)), .unset, .unset, .unset, .unset, .unset, .unset]) W578 d6_13 rfl rfl ?_
  refine gIload W578 d6_15 rfl rfl ?_
  refine gAloadN W578 d6_17 rfl rfl rfl ?_
  have f586 := q0.ext E581
  refine wLen W578 d6_18 f586 rfl ?_
  refine gIcmpNo W578 d6_19 (tlt (by decide)).2.1 rfl ?_
  refine gAloadN W578 d6_22 rfl rfl rfl ?_
  refine gIload W578 d6_23 rfl rfl ?_
  refine wLdD (v := (.double (dI n0))) W578 d6_25 f586 (by decide) rfl rfl ?_
  refine gDstore (ls' := #[.val (.ref r), .val (.ref a580), .val (.double (dI 0)), .second, .val (.double (dI 0)), .second, .val (.int (0 : Int32)), .val (.double (dI n0)), .second, .unset, .unset, .unset, .unset]) W578 d6_26 rfl rfl ?_
  refine gDloadN W578 d6_28 rfl rfl ?_
  refine gDload W578 d6_29 rfl rfl ?_
  refine gDadd (z := (dI n0)) W578 d6_31 (dadd_dI (by omega) (by omega)) (nn_dI _) rfl ?_
  refine gDstore (ls' := #[.val (.ref r), .val (.ref a580), .val (.double (dI 0)), .second, .val (.double (dI 0)), .second, .val (.int (0 : Int32)), .val (.double (dI n0)), .second, .val (.double (dI n0)), .second, .unset, .unset]) W578 d6_32 rfl rfl ?_
  refine gDload W578 d6_34 rfl rfl ?_
  refine gDloadN W578 d6_36 rfl rfl ?_
  refine gDsub (z := (dI n0)) W578 d6_37 (dsub_dI (by omega) (by omega)) (nn_dI _) rfl ?_
  refine gDstore (ls' := #[.val (.ref r), .val (.ref a580), .val (.double (dI 0)), .second, .val (.double (dI 0)), .second, .val (.int (0 : Int32)), .val (.double (dI n0)), .second, .val (.double (dI n0)), .second, .val (.double (dI n0)), .second]) W578 d6_38 rfl rfl ?_
  refine gDload W578 d6_40 rfl rfl ?_
  refine gDloadN W578 d6_42 rfl rfl ?_
  refine gDload W578 d6_43 rfl rfl ?_
  refine gDload W578 d6_45 rfl rfl ?_
  refine gDsub (z := (dI 0)) W578 d6_47 (dsub_dI (by omega) (by omega)) (nn_dI _) rfl ?_
  refine gDsub (z := (dI 0)) W578 d6_48 (dsub_dI (by omega) (by omega)) (nn_dI _) rfl ?_
  refine gDload W578 d6_49 rfl rfl ?_
  refine gDload W578 d6_51 rfl rfl ?_
  refine gDsub (z := (dI 0)) W578 d6_53 (dsub_dI (by omega) (by omega)) (nn_dI _) rfl ?_
  refine gDadd (z := (dI 0)) W578 d6_54 (dadd_dI (by omega) (by omega)) (nn_dI _) rfl ?_
  refine gDadd (z := (dI 0)) W578 d6_55 (dadd_dI (by omega) (by omega)) (nn_dI _) rfl ?_
  refine gDstore (ls' := #[.val (.ref r), .val (.ref a580), .val (.double (dI 0)), .second, .val (.double (dI 0)), .second, .val (.int (0 : Int32)), .val (.double (dI n0)), .second, .val (.double (dI n0)), .second, .val (.double (dI n0)), .second]) W578 d6_56 rfl rfl ?_
  refine gDload W578 d6_58 rfl rfl ?_
  refine gDstoreN (ls' := #[.val (.ref r), .val (.ref a580), .val (.double (dI n0)), .second, .val (.double (dI 0)), .second, .val (.int (0 : Int32)), .val (.double (dI n0)), .second, .val (.double (dI n0)), .second, .val (.double (dI n0)), .second]) W578 d6_60 rfl rfl ?_
  refine gAloadN W578 d6_61 rfl rfl rfl ?_
  refine gIload W578 d6_62 rfl rfl ?_
  refine gIconst (z := (1 : Int32)) W578 d6_64 rfl rfl ?_
  refine gIadd (z := (1 : Int32)) W578 d6_65 (by decide) rfl ?_
  refine gDloadN W578 d6_66 rfl rfl ?_
  refine gDload W578 d6_67 rfl rfl ?_
  refine gDadd (z := (dI n0)) W578 d6_69 (dadd_dI (by omega) (by omega)) (nn_dI _) rfl ?_
  refine wStD W578 d6_70 (by simp) f585 (by decide) 1 (by decide) (show 1 < 5 from by decide) rfl fun T587 h589 W588 wr590 A591 => ?_
  have f592 : Arv Z h589 a580 k584 .double (5 : Int32) [(.double 0), (.double (dI n0)), (.double 0), (.double 0), (.double 0)] (.double 0) := A591
  refine gIinc (z := (1 : Int32)) (ls' := #[.val (.ref r), .val (.ref a580), .val (.double (dI n0)), .second, .val (.double (dI 0)), .second, .val (.int (1 : Int32)), .val (.double (dI n0)), .second, .val (.double (dI n0)), .second, .val (.double (dI n0)), .second]) W588 d6_71 rfl (by decide) rfl rfl ?_
  refine gGoto (pc' := 15) W588 d6_74 (by decide) rfl ?_
  refine gIload W588 d6_15 rfl rfl ?_
  refine gAloadN W588 d6_17 rfl rfl rfl ?_
  have ne593 : r ≠ a580 := Nat.ne_of_lt (Nat.lt_of_lt_of_le q0.lt (Nat.le_of_eq g582.symm))
  have f594 := f586.other wr590 ne593
  refine wLen W588 d6_18 f594 rfl ?_
  refine gIcmpNo W588 d6_19 (tlt (by decide)).2.1 rfl ?_
  refine gAloadN W588 d6_22 rfl rfl rfl ?_
  refine gIload W588 d6_23 rfl rfl ?_
  refine wLdD (v := (.double (dI n1))) W588 d6_25 f594 (by decide) rfl rfl ?_
  refine gDstore (ls' := #[.val (.ref r), .val (.ref a580), .val (.double (dI n0)), .second, .val (.double (dI 0)), .second, .val (.int (1 : Int32)), .val (.double (dI n1)), .second, .val (.double (dI n0)), .second, .val (.double (dI n0)), .second]) W588 d6_26 rfl rfl ?_
  refine gDloadN W588 d6_28 rfl rfl ?_
  refine gDload W588 d6_29 rfl rfl ?_
  refine gDadd (z := (dI (n0 + n1))) W588 d6_31 (dadd_dI (by omega) (by omega)) (nn_dI _) rfl ?_
  refine gDstore (ls' := #[.val (.ref r), .val (.ref a580), .val (.double (dI n0)), .second, .val (.double (dI 0)), .second, .val (.int (1 : Int32)), .val (.double (dI n1)), .second, .val (.double (dI (n0 + n1))), .second, .val (.double (dI n0)), .second]) W588 d6_32 rfl rfl ?_
  refine gDload W588 d6_34 rfl rfl ?_
  refine gDloadN W588 d6_36 rfl rfl ?_
  refine gDsub (z := (dI n1)) W588 d6_37 (dsub_dI (by omega) (by omega)) (nn_dI _) rfl ?_
  refine gDstore (ls' := #[.val (.ref r), .val (.ref a580), .val (.double (dI n0)), .second, .val (.double (dI 0)), .second, .val (.int (1 : Int32)), .val (.double (dI n1)), .second, .val (.double (dI (n0 + n1))), .second, .val (.double (dI n1)), .second]) W588 d6_38 rfl rfl ?_
  refine gDload W588 d6_40 rfl rfl ?_
  refine gDloadN W588 d6_42 rfl rfl ?_
  refine gDload W588 d6_43 rfl rfl ?_
  refine gDload W588 d6_45 rfl rfl ?_
  refine gDsub (z := (dI n0)) W588 d6_47 (dsub_dI (by omega) (by omega)) (nn_dI _) rfl ?_
  refine gDsub (z := (dI 0)) W588 d6_48 (dsub_dI (by omega) (by omega)) (nn_dI _) rfl ?_
  refine gDload W588 d6_49 rfl rfl ?_
  refine gDload W588 d6_51 rfl rfl ?_
  refine gDsub (z := (dI 0)) W588 d6_53 (dsub_dI (by omega) (by omega)) (nn_dI _) rfl ?_
  refine gDadd (z := (dI 0)) W588 d6_54 (dadd_dI (by omega) (by omega)) (nn_dI _) rfl ?_
  refine gDadd (z := (dI 0)) W588 d6_55 (dadd_dI (by omega) (by omega)) (nn_dI _) rfl ?_
  refine gDstore (ls' := #[.val (.ref r), .val (.ref a580), .val (.double (dI n0)), .second, .val (.double (dI 0)), .second, .val (.int (1 : Int32)), .val (.double (dI n1)), .second, .val (.double (dI (n0 + n1))), .second, .val (.double (dI n1)), .second]) W588 d6_56 rfl rfl ?_
  refine gDload W588 d6_58 rfl rfl ?_
  refine gDstoreN (ls' := #[.val (.ref r), .val (.ref a580), .val (.double (dI (n0 + n1))), .second, .val (.double (dI 0)), .second, .val (.int (1 : Int32)), .val (.double (dI n1)), .second, .val (.double (dI (n0 + n1))), .second, .val (.double (dI n1)), .second]) W588 d6_60 rfl rfl ?_
  refine gAloadN W588 d6_61 rfl rfl rfl ?_
  refine gIload W588 d6_62 rfl rfl ?_
  refine gIconst (z := (1 : Int32)) W588 d6_64 rfl rfl ?_
  refine gIadd (z := (2 : Int32)) W588 d6_65 (by decide) rfl ?_
  refine gDloadN W588 d6_66 rfl rfl ?_
  refine gDload W588 d6_67 rfl rfl ?_
  refine gDadd (z := (dI (n0 + n1))) W588 d6_69 (dadd_dI (by omega) (by omega)) (nn_dI _) rfl ?_
  refine wStD W588 d6_70 (by simp) f592 (by decide) 2 (by decide) (show 2 < 5 from by decide) rfl fun T595 h597 W596 wr598 A599 => ?_
  have f600 : Arv Z h597 a580 k584 .double (5 : Int32) [(.double 0), (.double (dI n0)), (.double (dI (n0 + n1))), (.double 0), (.double 0)] (.double 0) := A599
  refine gIinc (z := (2 : Int32)) (ls' := #[.val (.ref r), .val (.ref a580), .val (.double (dI (n0 + n1))), .second, .val (.double (dI 0)), .second, .val (.int (2 : Int32)), .val (.double (dI n1)), .second, .val (.double (dI (n0 + n1))), .second, .val (.double (dI n1)), .second]) W596 d6_71 rfl (by decide) rfl rfl ?_
  refine gGoto (pc' := 15) W596 d6_74 (by decide) rfl ?_
  refine gIload W596 d6_15 rfl rfl ?_
  refine gAloadN W596 d6_17 rfl rfl rfl ?_
  have f601 := f594.other wr598 ne593
  refine wLen W596 d6_18 f601 rfl ?_
  refine gIcmpNo W596 d6_19 (tlt (by decide)).2.1 rfl ?_
  refine gAloadN W596 d6_22 rfl rfl rfl ?_
  refine gIload W596 d6_23 rfl rfl ?_
  refine wLdD (v := (.double (dI n2))) W596 d6_25 f601 (by decide) rfl rfl ?_
  refine gDstore (ls' := #[.val (.ref r), .val (.ref a580), .val (.double (dI (n0 + n1))), .second, .val (.double (dI 0)), .second, .val (.int (2 : Int32)), .val (.double (dI n2)), .second, .val (.double (dI (n0 + n1))), .second, .val (.double (dI n1)), .second]) W596 d6_26 rfl rfl ?_
  refine gDloadN W596 d6_28 rfl rfl ?_
  refine gDload W596 d6_29 rfl rfl ?_
  refine gDadd (z := (dI (n0 + n1 + n2))) W596 d6_31 (dadd_dI (by omega) (by omega)) (nn_dI _) rfl ?_
  refine gDstore (ls' := #[.val (.ref r), .val (.ref a580), .val (.double (dI (n0 + n1))), .second, .val (.double (dI 0)), .second, .val (.int (2 : Int32)), .val (.double (dI n2)), .second, .val (.double (dI (n0 + n1 + n2))), .second, .val (.double (dI n1)), .second]) W596 d6_32 rfl rfl ?_
  refine gDload W596 d6_34 rfl rfl ?_
  refine gDloadN W596 d6_36 rfl rfl ?_
  refine gDsub (z := (dI n2)) W596 d6_37 (dsub_dI (by omega) (by omega)) (nn_dI _) rfl ?_
  refine gDstore (ls' := #[.val (.ref r), .val (.ref a580), .val (.double (dI (n0 + n1))), .second, .val (.double (dI 0)), .second, .val (.int (2 : Int32)), .val (.double (dI n2)), .second, .val (.double (dI (n0 + n1 + n2))), .second, .val (.double (dI n2)), .second]) W596 d6_38 rfl rfl ?_
  refine gDload W596 d6_40 rfl rfl ?_
  refine gDloadN W596 d6_42 rfl rfl ?_
  refine gDload W596 d6_43 rfl rfl ?_
  refine gDload W596 d6_45 rfl rfl ?_
  refine gDsub (z := (dI (n0 + n1))) W596 d6_47 (dsub_dI (by omega) (by omega)) (nn_dI _) rfl ?_
  refine gDsub (z := (dI 0)) W596 d6_48 (dsub_dI (by omega) (by omega)) (nn_dI _) rfl ?_
  refine gDload W596 d6_49 rfl rfl ?_
  refine gDload W596 d6_51 rfl rfl ?_
  refine gDsub (z := (dI 0)) W596 d6_53 (dsub_dI (by omega) (by omega)) (nn_dI _) rfl ?_
  refine gDadd (z := (dI 0)) W596 d6_54 (dadd_dI (by omega) (by omega)) (nn_dI _) rfl ?_
  refine gDadd (z := (dI 0)) W596 d6_55 (dadd_dI (by omega) (by omega)) (nn_dI _) rfl ?_
  refine gDstore (ls' := #[.val (.ref r), .val (.ref a580), .val (.double (dI (n0 + n1))), .second, .val (.double (dI 0)), .second, .val (.int (2 : Int32)), .val (.double (dI n2)), .second, .val (.double (dI (n0 + n1 + n2))), .second, .val (.double (dI n2)), .second]) W596 d6_56 rfl rfl ?_
  refine gDload W596 d6_58 rfl rfl ?_
  refine gDstoreN (ls' := #[.val (.ref r), .val (.ref a580), .val (.double (dI (n0 + n1 + n2))), .second, .val (.double (dI 0)), .second, .val (.int (2 : Int32)), .val (.double (dI n2)), .second, .val (.double (dI (n0 + n1 + n2))), .second, .val (.double (dI n2)), .second]) W596 d6_60 rfl rfl ?_
  refine gAloadN W596 d6_61 rfl rfl rfl ?_
  refine gIload W596 d6_62 rfl rfl ?_
  refine gIconst (z := (1 : Int32)) W596 d6_64 rfl rfl ?_
  refine gIadd (z := (3 : Int32)) W596 d6_65 (by decide) rfl ?_
  refine gDloadN W596 d6_66 rfl rfl ?_
  refine gDload W596 d6_67 rfl rfl ?_
  refine gDadd (z := (dI (n0 + n1 + n2))) W596 d6_69 (dadd_dI (by omega) (by omega)) (nn_dI _) rfl ?_
  refine wStD W596 d6_70 (by simp) f600 (by decide) 3 (by decide) (show 3 < 5 from by decide) rfl fun T602 h604 W603 wr605 A606 => ?_
  have f607 : Arv Z h604 a580 k584 .double (5 : Int32) [(.double 0), (.double (dI n0)), (.double (dI (n0 + n1))), (.double (dI (n0 + n1 + n2))), (.double 0)] (.double 0) := A606
  refine gIinc (z := (3 : Int32)) (ls' := #[.val (.ref r), .val (.ref a580), .val (.double (dI (n0 + n1 + n2))), .second, .val (.double (dI 0)), .second, .val (.int (3 : Int32)), .val (.double (dI n2)), .second, .val (.double (dI (n0 + n1 + n2))), .second, .val (.double (dI n2)), .second]) W603 d6_71 rfl (by decide) rfl rfl ?_
  refine gGoto (pc' := 15) W603 d6_74 (by decide) rfl ?_
  refine gIload W603 d6_15 rfl rfl ?_
  refine gAloadN W603 d6_17 rfl rfl rfl ?_
  have f608 := f601.other wr605 ne593
  refine wLen W603 d6_18 f608 rfl ?_
  refine gIcmpNo W603 d6_19 (tlt (by decide)).2.1 rfl ?_
  refine gAloadN W603 d6_22 rfl rfl rfl ?_
  refine gIload W603 d6_23 rfl rfl ?_
  refine wLdD (v := (.double (dI n3))) W603 d6_25 f608 (by decide) rfl rfl ?_
  refine gDstore (ls' := #[.val (.ref r), .val (.ref a580), .val (.double (dI (n0 + n1 + n2))), .second, .val (.double (dI 0)), .second, .val (.int (3 : Int32)), .val (.double (dI n3)), .second, .val (.double (dI (n0 + n1 + n2))), .second, .val (.double (dI n2)), .second]) W603 d6_26 rfl rfl ?_
  refine gDloadN W603 d6_28 rfl rfl ?_
  refine gDload W603 d6_29 rfl rfl ?_
  refine gDadd (z := (dI (n0 + n1 + n2 + n3))) W603 d6_31 (dadd_dI (by omega) (by omega)) (nn_dI _) rfl ?_
  refine gDstore (ls' := #[.val (.ref r), .val (.ref a580), .val (.double (dI (n0 + n1 + n2))), .second, .val (.double (dI 0)), .second, .val (.int (3 : Int32)), .val (.double (dI n3)), .second, .val (.double (dI (n0 + n1 + n2 + n3))), .second, .val (.double (dI n2)), .second]) W603 d6_32 rfl rfl ?_
  refine gDload W603 d6_34 rfl rfl ?_
  refine gDloadN W603 d6_36 rfl rfl ?_
  refine gDsub (z := (dI n3)) W603 d6_37 (dsub_dI (by omega) (by omega)) (nn_dI _) rfl ?_
  refine gDstore (ls' := #[.val (.ref r), .val (.ref a580), .val (.double (dI (n0 + n1 + n2))), .second, .val (.double (dI 0)), .second, .val (.int (3 : Int32)), .val (.double (dI n3)), .second, .val (.double (dI (n0 + n1 + n2 + n3))), .second, .val (.double (dI n3)), .second]) W603 d6_38 rfl rfl ?_
  refine gDload W603 d6_40 rfl rfl ?_
  refine gDloadN W603 d6_42 rfl rfl ?_
  refine gDload W603 d6_43 rfl rfl ?_
  refine gDload W603 d6_45 rfl rfl ?_
  refine gDsub (z := (dI (n0 + n1 + n2))) W603 d6_47 (dsub_dI (by omega) (by omega)) (nn_dI _) rfl ?_
  refine gDsub (z := (dI 0)) W603 d6_48 (dsub_dI (by omega) (by omega)) (nn_dI _) rfl ?_
  refine gDload W603 d6_49 rfl rfl ?_
  refine gDload W603 d6_51 rfl rfl ?_
  refine gDsub (z := (dI 0)) W603 d6_53 (dsub_dI (by omega) (by omega)) (nn_dI _) rfl ?_
  refine gDadd (z := (dI 0)) W603 d6_54 (dadd_dI (by omega) (by omega)) (nn_dI _) rfl ?_
  refine gDadd (z := (dI 0)) W603 d6_55 (dadd_dI (by omega) (by omega)) (nn_dI _) rfl ?_
  refine gDstore (ls' := #[.val (.ref r), .val (.ref a580), .val (.double (dI (n0 + n1 + n2))), .second, .val (.double (dI 0)), .second, .val (.int (3 : Int32)), .val (.double (dI n3)), .second, .val (.double (dI (n0 + n1 + n2 + n3))), .second, .val (.double (dI n3)), .second]) W603 d6_56 rfl rfl ?_
  refine gDload W603 d6_58 rfl rfl ?_
  refine gDstoreN (ls' := #[.val (.ref r), .val (.ref a580), .val (.double (dI (n0 + n1 + n2 + n3))), .second, .val (.double (dI 0)), .second, .val (.int (3 : Int32)), .val (.double (dI n3)), .second, .val (.double (dI (n0 + n1 + n2 + n3))), .second, .val (.double (dI n3)), .second]) W603 d6_60 rfl rfl ?_
  refine gAloadN W603 d6_61 rfl rfl rfl ?_
  refine gIload W603 d6_62 rfl rfl ?_
  refine gIconst (z := (1 : Int32)) W603 d6_64 rfl rfl ?_
  refine gIadd (z := (4 : Int32)) W603 d6_65 (by decide) rfl ?_
  refine gDloadN W603 d6_66 rfl rfl ?_
  refine gDload W603 d6_67 rfl rfl ?_
  refine gDadd (z := (dI (n0 + n1 + n2 + n3))) W603 d6_69 (dadd_dI (by omega) (by omega)) (nn_dI _) rfl ?_
  refine wStD W603 d6_70 (by simp) f607 (by decide) 4 (by decide) (show 4 < 5 from by decide) rfl fun T609 h611 W610 wr612 A613 => ?_
  have f614 : Arv Z h611 a580 k584 .double (5 : Int32) [(.double 0), (.double (dI n0)), (.double (dI (n0 + n1))), (.double (dI (n0 + n1 + n2))), (.double (dI (n0 + n1 + n2 + n3)))] (.double 0) := A613
  refine gIinc (z := (4 : Int32)) (ls' := #[.val (.ref r), .val (.ref a580), .val (.double (dI (n0 + n1 + n2 + n3))), .second, .val (.double (dI 0)), .second, .val (.int (4 : Int32)), .val (.double (dI n3)), .second, .val (.double (dI (n0 + n1 + n2 + n3))), .second, .val (.double (dI n3)), .second]) W610 d6_71 rfl (by decide) rfl rfl ?_
  refine gGoto (pc' := 15) W610 d6_74 (by decide) rfl ?_
  refine gIload W610 d6_15 rfl rfl ?_
  refine gAloadN W610 d6_17 rfl rfl rfl ?_
  have f615 := f608.other wr612 ne593
  refine wLen W610 d6_18 f615 rfl ?_
  refine gIcmpYes (pc' := 77) W610 d6_19 (flt (by decide)).2.1 (by decide) rfl ?_
  refine gAloadN W610 d6_77 rfl rfl rfl ?_
  refine gAloadN W610 d6_78 rfl rfl rfl ?_
  refine wLen W610 d6_79 f615 rfl ?_
  refine wLdD (v := (.double (dI (n0 + n1 + n2 + n3)))) W610 d6_80 f614 (by decide) rfl rfl ?_
  refine gDstore (ls' := #[.val (.ref r), .val (.ref a580), .val (.double (dI (n0 + n1 + n2 + n3))), .second, .val (.double (dI 0)), .second, .val (.double (dI (n0 + n1 + n2 + n3))), .second, .unset, .val (.double (dI (n0 + n1 + n2 + n3))), .second, .val (.double (dI n3)), .second]) W610 d6_81 rfl rfl ?_
  refine gDload W610 d6_83 rfl rfl ?_
  refine wStatic (y := (⟨"java/lang/Double", "isFinite", "(D)Z"⟩ : MethodName)) (Wd := 0) (argsL := [(.double (dI (n0 + n1 + n2 + n3)))]) (rest := []) W610 d6_85 (ow30 hw) (ow31 hw) (ow32 hw) (ow33 hw) (by decide) (Cb.ct (ob_fi l Z a0 hw hE ((n0 + n1 + n2 + n3)) h611 W610.old (by omega) ) (ow33 hw) (ow32 hw) hE (by decide) (by decide)) (by simp) rfl (lenOf opd1 rfl) rfl (Nat.le_of_eq rfl) (by decide) (by decide) rfl fun v620 so621 T616 h618 W617 kp619 sp622 q623 => ?_
  obtain ⟨rfl, rfl⟩ := q623
  show Go K _ T616 88 #[.val (.ref r), .val (.ref a580), .val (.double (dI (n0 + n1 + n2 + n3))), .second, .val (.double (dI 0)), .second, .val (.double (dI (n0 + n1 + n2 + n3))), .second, .unset, .val (.double (dI (n0 + n1 + n2 + n3))), .second, .val (.double (dI n3)), .second] [(.int (1 : Int32))]
  refine gIfYes (pc' := 101) W617 d6_88 ((if0 _ _).trans (feq (by decide)).2) (by decide) rfl ?_
  refine gIconst (z := (1 : Int32)) W617 d6_101 rfl rfl ?_
  refine gIstore (ls' := #[.val (.ref r), .val (.ref a580), .val (.double (dI (n0 + n1 + n2 + n3))), .second, .val (.double (dI 0)), .second, .val (.double (dI (n0 + n1 + n2 + n3))), .second, .val (.int (1 : Int32)), .val (.double (dI (n0 + n1 + n2 + n3))), .second, .val (.double (dI n3)), .second]) W617 d6_102 rfl rfl ?_
  refine gIload W617 d6_104 rfl rfl ?_
  refine gAloadN W617 d6_106 rfl rfl rfl ?_
  have f624 := f615.keep kp619 nin0
  refine wLen W617 d6_107 f624 rfl ?_
  refine gIcmpNo W617 d6_108 (flt (by decide)).2.2.1 rfl ?_
  refine gAloadN W617 d6_111 rfl rfl rfl ?_
  refine gIload W617 d6_112 rfl rfl ?_
  refine gAloadN W617 d6_114 rfl rfl rfl ?_
  refine gIload W617 d6_115 rfl rfl ?_
  refine gIconst (z := (1 : Int32)) W617 d6_117 rfl rfl ?_
  refine gIsub (z := (0 : Int32)) W617 d6_118 (by decide) rfl ?_
  have f625 := f614.keep kp619 nin0
  refine wLdD (v := (.double 0)) W617 d6_119 f625 (by decide) rfl rfl ?_
  refine gDconst1 (z := FP.dconst1) W617 d6_120 rfl rfl ?_
  refine gAloadN W617 d6_121 rfl rfl rfl ?_
  refine gIload W617 d6_122 rfl rfl ?_
  refine wLdD (v := (.double (dI n0))) W617 d6_124 f625 (by decide) rfl rfl ?_
  refine gDload W617 d6_125 rfl rfl ?_
  obtain ⟨z626, e627⟩ : ∃ z, FP.ddiv (dI n0) (dI (n0 + n1 + n2 + n3)) = z := ⟨_, rfl⟩
  have nz628 : NoNaN64 z626 := e627 ▸ nn_div (by omega) (by omega)
  refine gDdiv (z := z626) W617 d6_127 e627 nz628 rfl ?_
  obtain ⟨z629, e630⟩ : ∃ z, Native.java_lang_Math.nans.pick64 false FP.dconst1 z626 = z := ⟨_, rfl⟩
  have nz631 : NoNaN64 z629 := e630 ▸ pick64_noNaN nn_one nz628
  refine wNat (y := (⟨"java/lang/Math", "min", "(DD)D"⟩ : MethodName)) (Wd := 4) (argsL := [(.double FP.dconst1), (.double z626)]) (rest := [(.double 0), (.int (1 : Int32)), (.ref a580)]) (val' := (.double z629)) W617 d6_128 (ow38 hw) (ow39 hw) (ow8 hw) (ow40 hw) (by decide) (fun _ hc => Jvm.Free.Fl.Abs.minD_pays (l := l) FP.dconst1 z626 (by exact hc) (by decide) (by decide)) rfl (lenOf opd2 rfl) rfl (Nat.le_of_eq rfl) (by decide) (by decide) ⟨rfl, nn_one, nz628⟩ (congrArg Value.double e630) rfl fun T632 W633 => ?_
  obtain ⟨z634, e635⟩ : ∃ z, Native.java_lang_Math.nans.pick64 true 0 z629 = z := ⟨_, rfl⟩
  have nz636 : NoNaN64 z634 := e635 ▸ pick64_noNaN nn_zero nz631
  refine wNat (y := (⟨"java/lang/Math", "max", "(DD)D"⟩ : MethodName)) (Wd := 2) (argsL := [(.double 0), (.double z629)]) (rest := [(.int (1 : Int32)), (.ref a580)]) (val' := (.double z634)) W633 d6_131 (ow41 hw) (ow42 hw) (ow8 hw) (ow43 hw) (by decide) (fun _ hc => Jvm.Free.Fl.Abs.maxD_pays (l := l) 0 z629 (by exact hc) (by decide) (by decide)) rfl (lenOf opd2 rfl) rfl (Nat.le_of_eq rfl) (by decide) (by decide) ⟨rfl, nn_zero, nz631⟩ (congrArg Value.double e635) rfl fun T637 W638 => ?_
  refine wStD W638 d6_134 (by simp) f625 (by decide) 1 (by decide) (show 1 < 5 from by decide) rfl fun T639 h641 W640 wr642 A643 => ?_
  have f644 : Arv Z h641 a580 k584 .double (5 : Int32) [(.double 0), (.double z634), (.double (dI (n0 + n1))), (.double (dI (n0 + n1 + n2))), (.double (dI (n0 + n1 + n2 + n3)))] (.double 0) := A643
  refine gIinc (z := (2 : Int32)) (ls' := #[.val (.ref r), .val (.ref a580), .val (.double (dI (n0 + n1 + n2 + n3))), .second, .val (.double (dI 0)), .second, .val (.double (dI (n0 + n1 + n2 + n3))), .second, .val (.int (2 : Int32)), .val (.double (dI (n0 + n1 + n2 + n3))), .second, .val (.double (dI n3)), .second]) W640 d6_135 rfl (by decide) rfl rfl ?_
  refine gGoto (pc' := 104) W640 d6_138 (by decide) rfl ?_
  refine gIload W640 d6_104 rfl rfl ?_
  refine gAloadN W640 d6_106 rfl rfl rfl ?_
  have f645 := f624.other wr642 ne593
  refine wLen W640 d6_107 f645 rfl ?_
  refine gIcmpNo W640 d6_108 (flt (by decide)).2.2.1 rfl ?_
  refine gAloadN W640 d6_111 rfl rfl rfl ?_
  refine gIload W640 d6_112 rfl rfl ?_
  refine gAloadN W640 d6_114 rfl rfl rfl ?_
  refine gIload W640 d6_115 rfl rfl ?_
  refine gIconst (z := (1 : Int32)) W640 d6_117 rfl rfl ?_
  refine gIsub (z := (1 : Int32)) W640 d6_118 (by decide) rfl ?_
  refine wLdD (v := (.double z634)) W640 d6_119 f644 (by decide) rfl rfl ?_
  refine gDconst1 (z := FP.dconst1) W640 d6_120 rfl rfl ?_
  refine gAloadN W640 d6_121 rfl rfl rfl ?_
  refine gIload W640 d6_122 rfl rfl ?_
  refine wLdD (v := (.double (dI (n0 + n1)))) W640 d6_124 f644 (by decide) rfl rfl ?_
  refine gDload W640 d6_125 rfl rfl ?_
  obtain ⟨z646, e647⟩ : ∃ z, FP.ddiv (dI (n0 + n1)) (dI (n0 + n1 + n2 + n3)) = z := ⟨_, rfl⟩
  have nz648 : NoNaN64 z646 := e647 ▸ nn_div (by omega) (by omega)
  refine gDdiv (z := z646) W640 d6_127 e647 nz648 rfl ?_
  obtain ⟨z649, e650⟩ : ∃ z, Native.java_lang_Math.nans.pick64 false FP.dconst1 z646 = z := ⟨_, rfl⟩
  have nz651 : NoNaN64 z649 := e650 ▸ pick64_noNaN nn_one nz648
  refine wNat (y := (⟨"java/lang/Math", "min", "(DD)D"⟩ : MethodName)) (Wd := 4) (argsL := [(.double FP.dconst1), (.double z646)]) (rest := [(.double z634), (.int (2 : Int32)), (.ref a580)]) (val' := (.double z649)) W640 d6_128 (ow38 hw) (ow39 hw) (ow8 hw) (ow40 hw) (by decide) (fun _ hc => Jvm.Free.Fl.Abs.minD_pays (l := l) FP.dconst1 z646 (by exact hc) (by decide) (by decide)) rfl (lenOf opd2 rfl) rfl (Nat.le_of_eq rfl) (by decide) (by decide) ⟨rfl, nn_one, nz648⟩ (congrArg Value.double e650) rfl fun T652 W653 => ?_
  obtain ⟨z654, e655⟩ : ∃ z, Native.java_lang_Math.nans.pick64 true z634 z649 = z := ⟨_, rfl⟩
  have nz656 : NoNaN64 z654 := e655 ▸ pick64_noNaN nz636 nz651
  refine wNat (y := (⟨"java/lang/Math", "max", "(DD)D"⟩ : MethodName)) (Wd := 2) (argsL := [(.double z634), (.double z649)]) (rest := [(.int (2 : Int32)), (.ref a580)]) (val' := (.double z654)) W653 d6_131 (ow41 hw) (ow42 hw) (ow8 hw) (ow43 hw) (by decide) (fun _ hc => Jvm.Free.Fl.Abs.maxD_pays (l := l) z634 z649 (by exact hc) (by decide) (by decide)) rfl (lenOf opd2 rfl) rfl (Nat.le_of_eq rfl) (by decide) (by decide) ⟨rfl, nz636, nz651⟩ (congrArg Value.double e655) rfl fun T657 W658 => ?_
  refine wStD W658 d6_134 (by simp) f644 (by decide) 2 (by decide) (show 2 < 5 from by decide) rfl fun T659 h661 W660 wr662 A663 => ?_
  have f664 : Arv Z h661 a580 k584 .double (5 : Int32) [(.double 0), (.double z634), (.double z654), (.double (dI (n0 + n1 + n2))), (.double (dI (n0 + n1 + n2 + n3)))] (.double 0) := A663
  refine gIinc (z := (3 : Int32)) (ls' := #[.val (.ref r), .val (.ref a580), .val (.double (dI (n0 + n1 + n2 + n3))), .second, .val (.double (dI 0)), .second, .val (.double (dI (n0 + n1 + n2 + n3))), .second, .val (.int (3 : Int32)), .val (.double (dI (n0 + n1 + n2 + n3))), .second, .val (.double (dI n3)), .second]) W660 d6_135 rfl (by decide) rfl rfl ?_
  refine gGoto (pc' := 104) W660 d6_138 (by decide) rfl ?_
  refine gIload W660 d6_104 rfl rfl ?_
  refine gAloadN W660 d6_106 rfl rfl rfl ?_
  have f665 := f645.other wr662 ne593
  refine wLen W660 d6_107 f665 rfl ?_
  refine gIcmpNo W660 d6_108 (flt (by decide)).2.2.1 rfl ?_
  refine gAloadN W660 d6_111 rfl rfl rfl ?_
  refine gIload W660 d6_112 rfl rfl ?_
  refine gAloadN W660 d6_114 rfl rfl rfl ?_
  refine gIload W660 d6_115 rfl rfl ?_
  refine gIconst (z := (1 : Int32)) W660 d6_117 rfl rfl ?_
  refine gIsub (z := (2 : Int32)) W660 d6_118 (by decide) rfl ?_
  refine wLdD (v := (.double z654)) W660 d6_119 f664 (by decide) rfl rfl ?_
  refine gDconst1 (z := FP.dconst1) W660 d6_120 rfl rfl ?_
  refine gAloadN W660 d6_121 rfl rfl rfl ?_
  refine gIload W660 d6_122 rfl rfl ?_
  refine wLdD (v := (.double (dI (n0 + n1 + n2)))) W660 d6_124 f664 (by decide) rfl rfl ?_
  refine gDload W660 d6_125 rfl rfl ?_
  obtain ⟨z666, e667⟩ : ∃ z, FP.ddiv (dI (n0 + n1 + n2)) (dI (n0 + n1 + n2 + n3)) = z := ⟨_, rfl⟩
  have nz668 : NoNaN64 z666 := e667 ▸ nn_div (by omega) (by omega)
  refine gDdiv (z := z666) W660 d6_127 e667 nz668 rfl ?_
  obtain ⟨z669, e670⟩ : ∃ z, Native.java_lang_Math.nans.pick64 false FP.dconst1 z666 = z := ⟨_, rfl⟩
  have nz671 : NoNaN64 z669 := e670 ▸ pick64_noNaN nn_one nz668
  refine wNat (y := (⟨"java/lang/Math", "min", "(DD)D"⟩ : MethodName)) (Wd := 4) (argsL := [(.double FP.dconst1), (.double z666)]) (rest := [(.double z654), (.int (3 : Int32)), (.ref a580)]) (val' := (.double z669)) W660 d6_128 (ow38 hw) (ow39 hw) (ow8 hw) (ow40 hw) (by decide) (fun _ hc => Jvm.Free.Fl.Abs.minD_pays (l := l) FP.dconst1 z666 (by exact hc) (by decide) (by decide)) rfl (lenOf opd2 rfl) rfl (Nat.le_of_eq rfl) (by decide) (by decide) ⟨rfl, nn_one, nz668⟩ (congrArg Value.double e670) rfl fun T672 W673 => ?_
  obtain ⟨z674, e675⟩ : ∃ z, Native.java_lang_Math.nans.pick64 true z654 z669 = z := ⟨_, rfl⟩
  have nz676 : NoNaN64 z674 := e675 ▸ pick64_noNaN nz656 nz671
  refine wNat (y := (⟨"java/lang/Math", "max", "(DD)D"⟩ : MethodName)) (Wd := 2) (argsL := [(.double z654), (.double z669)]) (rest := [(.int (3 : Int32)), (.ref a580)]) (val' := (.double z674)) W673 d6_131 (ow41 hw) (ow42 hw) (ow8 hw) (ow43 hw) (by decide) (fun _ hc => Jvm.Free.Fl.Abs.maxD_pays (l := l) z654 z669 (by exact hc) (by decide) (by decide)) rfl (lenOf opd2 rfl) rfl (Nat.le_of_eq rfl) (by decide) (by decide) ⟨rfl, nz656, nz671⟩ (congrArg Value.double e675) rfl fun T677 W678 => ?_
  refine wStD W678 d6_134 (by simp) f664 (by decide) 3 (by decide) (show 3 < 5 from by decide) rfl fun T679 h681 W680 wr682 A683 => ?_
  have f684 : Arv Z h681 a580 k584 .double (5 : Int32) [(.double 0), (.double z634), (.double z654), (.double z674), (.double (dI (n0 + n1 + n2 + n3)))] (.double 0) := A683
  refine gIinc (z := (4 : Int32)) (ls' := #[.val (.ref r), .val (.ref a580), .val (.double (dI (n0 + n1 + n2 + n3))), .second, .val (.double (dI 0)), .second, .val (.double (dI (n0 + n1 + n2 + n3))), .second, .val (.int (4 : Int32)), .val (.double (dI (n0 + n1 + n2 + n3))), .second, .val (.double (dI n3)), .second]) W680 d6_135 rfl (by decide) rfl rfl ?_
  refine gGoto (pc' := 104) W680 d6_138 (by decide) rfl ?_
  refine gIload W680 d6_104 rfl rfl ?_
  refine gAloadN W680 d6_106 rfl rfl rfl ?_
  have f685 := f665.other wr682 ne593
  refine wLen W680 d6_107 f685 rfl ?_
  refine gIcmpNo W680 d6_108 (flt (by decide)).2.2.1 rfl ?_
  refine gAloadN W680 d6_111 rfl rfl rfl ?_
  refine gIload W680 d6_112 rfl rfl ?_
  refine gAloadN W680 d6_114 rfl rfl rfl ?_
  refine gIload W680 d6_115 rfl rfl ?_
  refine gIconst (z := (1 : Int32)) W680 d6_117 rfl rfl ?_
  refine gIsub (z := (3 : Int32)) W680 d6_118 (by decide) rfl ?_
  refine wLdD (v := (.double z674)) W680 d6_119 f684 (by decide) rfl rfl ?_
  refine gDconst1 (z := FP.dconst1) W680 d6_120 rfl rfl ?_
  refine gAloadN W680 d6_121 rfl rfl rfl ?_
  refine gIload W680 d6_122 rfl rfl ?_
  refine wLdD (v := (.double (dI (n0 + n1 + n2 + n3)))) W680 d6_124 f684 (by decide) rfl rfl ?_
  refine gDload W680 d6_125 rfl rfl ?_
  obtain ⟨z686, e687⟩ : ∃ z, FP.ddiv (dI (n0 + n1 + n2 + n3)) (dI (n0 + n1 + n2 + n3)) = z := ⟨_, rfl⟩
  have nz688 : NoNaN64 z686 := e687 ▸ nn_div (by omega) (by omega)
  refine gDdiv (z := z686) W680 d6_127 e687 nz688 rfl ?_
  obtain ⟨z689, e690⟩ : ∃ z, Native.java_lang_Math.nans.pick64 false FP.dconst1 z686 = z := ⟨_, rfl⟩
  have nz691 : NoNaN64 z689 := e690 ▸ pick64_noNaN nn_one nz688
  refine wNat (y := (⟨"java/lang/Math", "min", "(DD)D"⟩ : MethodName)) (Wd := 4) (argsL := [(.double FP.dconst1), (.double z686)]) (rest := [(.double z674), (.int (4 : Int32)), (.ref a580)]) (val' := (.double z689)) W680 d6_128 (ow38 hw) (ow39 hw) (ow8 hw) (ow40 hw) (by decide) (fun _ hc => Jvm.Free.Fl.Abs.minD_pays (l := l) FP.dconst1 z686 (by exact hc) (by decide) (by decide)) rfl (lenOf opd2 rfl) rfl (Nat.le_of_eq rfl) (by decide) (by decide) ⟨rfl, nn_one, nz688⟩ (congrArg Value.double e690) rfl fun T692 W693 => ?_
  obtain ⟨z694, e695⟩ : ∃ z, Native.java_lang_Math.nans.pick64 true z674 z689 = z := ⟨_, rfl⟩
  have nz696 : NoNaN64 z694 := e695 ▸ pick64_noNaN nz676 nz691
  refine wNat (y := (⟨"java/lang/Math", "max", "(DD)D"⟩ : MethodName)) (Wd := 2) (argsL := [(.double z674), (.double z689)]) (rest := [(.int (4 : Int32)), (.ref a580)]) (val' := (.double z694)) W693 d6_131 (ow41 hw) (ow42 hw) (ow8 hw) (ow43 hw) (by decide) (fun _ hc => Jvm.Free.Fl.Abs.maxD_pays (l := l) z674 z689 (by exact hc) (by decide) (by decide)) rfl (lenOf opd2 rfl) rfl (Nat.le_of_eq rfl) (by decide) (by decide) ⟨rfl, nz676, nz691⟩ (congrArg Value.double e695) rfl fun T697 W698 => ?_
  refine wStD W698 d6_134 (by simp) f684 (by decide) 4 (by decide) (show 4 < 5 from by decide) rfl fun T699 h701 W700 wr702 A703 => ?_
  have f704 : Arv Z h701 a580 k584 .double (5 : Int32) [(.double 0), (.double z634), (.double z654), (.double z674), (.double z694)] (.double 0) := A703
  refine gIinc (z := (5 : Int32)) (ls' := #[.val (.ref r), .val (.ref a580), .val (.double (dI (n0 + n1 + n2 + n3))), .second, .val (.double (dI 0)), .second, .val (.double (dI (n0 + n1 + n2 + n3))), .second, .val (.int (5 : Int32)), .val (.double (dI (n0 + n1 + n2 + n3))), .second, .val (.double (dI n3)), .second]) W700 d6_135 rfl (by decide) rfl rfl ?_
  refine gGoto (pc' := 104) W700 d6_138 (by decide) rfl ?_
  refine gIload W700 d6_104 rfl rfl ?_
  refine gAloadN W700 d6_106 rfl rfl rfl ?_
  have f705 := f685.other wr702 ne593
  refine wLen W700 d6_107 f705 rfl ?_
  refine gIcmpYes (pc' := 141) W700 d6_108 (tlt (by decide)).2.2.1 (by decide) rfl ?_
  refine gAloadN W700 d6_141 rfl rfl rfl ?_
  exact wRetA (so := []) (t := .array .double) W700 d6_142 rfl rfl rfl (by decide) (by decide) (fun _ q => nomatch q) ⟨a580, rfl, rfl, (Nat.le_of_eq g582.symm)⟩
theorem oef_ob_i4 (m_ : MethodId) (a : Addr) (r : Addr) (c : Int32) (d : Int32)  : (entryFrame m_ #[(.ref a), (.ref r), (.int c), (.int d)] 6).locals = #[.val (.ref a), .val (.ref r), .val (.int c), .val (.int d), .unset, .unset] := by first | (simp [entryFrame, argsToLocals, Value.category]; done) | rfl
set_option maxRecDepth 65536 in
set_option maxHeartbeats 40000000 in
theorem ob_i4 (l : Launch) (Z : State) (a0 : Array Value) (hw : ∀ d ∈ tables_1, d.before a0 Z = true) (hE : EW Z a0 ([] : List (String × Nat))) (a : Addr) (r : Addr) (kr : ClassId) (c : Int32) (d : Int32) (n0 : Nat) (n1 : Nat) (n2 : Nat) (n3 : Nat) (h : Heap) (hO : Old Z Z.heap.size h) (q0 : Exa Z h a "com/example/hasset/hasset/algorithm/Aperture") (q1 : Fld Z h a "com/example/hasset/hasset/algorithm/Aperture" "clients" "I" (.int (0 : Int32))) (q2 : Fld Z h a "com/example/hasset/hasset/algorithm/Aperture" "span" "I" (.int (0 : Int32))) (q3 : Fld Z h a "com/example/hasset/hasset/algorithm/Aperture" "boundaries" "[D" .null) (q4 : Arv Z h r kr .double (4 : Int32) [(.double (dI n0)), (.double (dI n1)), (.double (dI n2)), (.double (dI n3))] (.double 0)) (nra : (r ≠ a)) (hc : (0 < c.toInt)) (hd : (0 < d.toInt)) (na0 : (1 ≤ n0)) (nb0 : (n0 ≤ 8)) (na1 : (1 ≤ n1)) (nb1 : (n1 ≤ 8)) (na2 : (1 ≤ n2)) (nb2 : (n2 ≤ 8)) (na3 : (1 ≤ n3)) (nb3 : (n3 ≤ 8)) (ge_a : Z.heap.size ≤ a) :
    Ct l Z ([] : List (String × Nat)) (⟨"com/example/hasset/hasset/algorithm/Aperture", "<init>", "([DII)V"⟩ : MethodName) prog_1_method_1_code 6 (Option.none : Option Jvm.ClassFile.FieldType) ⟨3, 1, 5, 95⟩ #[(.ref a), (.ref r), (.int c), (.int d)] h [a] (fun rv' hp' so' => rv' = none ∧ so' = [] ∧ Exa Z hp' a "com/example/hasset/hasset/algorithm/Aperture" ∧ Fld Z hp' a "com/example/hasset/hasset/algorithm/Aperture" "clients" "I" (.int c) ∧ Fld Z hp' a "com/example/hasset/hasset/algorithm/Aperture" "span" "I" (.int ((minL c.toInt64 (((d.toInt64 * c.toInt64) + 4 - 1) / 4)).toInt32))) := by
  refine Ct.mk "com/example/hasset/hasset/algorithm/Aperture" "<init>" rfl rfl (a0 := a0) (plainFor_of_name opn2) hO hE (fun x q => by simp at q; subst q; exact ge_a) ?_
  intro K T W
  rw [oef_ob_i4]
  refine gAloadN W d3_0 rfl rfl rfl ?_
  refine wInitO W d3_1 (ow16 hw) (ow17 hw) (ow18 hw) rfl (by decide) 0 (Nat.le_of_eq rfl) (by decide) rfl fun T706 W707 => ?_
  refine gAloadN W707 d3_4 rfl rfl rfl ?_
  refine wLen W707 d3_5 q4 rfl ?_
  refine gIfYes (pc' := 19) W707 d3_6 ((if0 _ _).trans (feq (by decide)).2) (by decide) rfl ?_
  refine gIconst (z := (0 : Int32)) W707 d3_19 rfl rfl ?_
  refine gIstore (ls' := #[.val (.ref a), .val (.ref r), .val (.int c), .val (.int d), .val (.int (0 : Int32)), .unset]) W707 d3_20 rfl rfl ?_
  refine gIload W707 d3_22 rfl rfl ?_
  refine gAloadN W707 d3_24 rfl rfl rfl ?_
  refine wLen W707 d3_25 q4 rfl ?_
  refine gIcmpNo W707 d3_26 (tlt (by decide)).2.1 rfl ?_
  refine gAloadN W707 d3_29 rfl rfl rfl ?_
  refine gIload W707 d3_30 rfl rfl ?_
  refine wLdD (v := (.double (dI n0))) W707 d3_32 q4 (by decide) rfl rfl ?_
  refine gDconst0 (z := (dI 0)) W707 d3_33 dz rfl ?_
  refine gDcmp (z := (1 : Int32)) W707 d3_34 (dpos (by omega) (by omega)) rfl ?_
  refine gIfNo W707 d3_35 ((if0 _ _).trans (tlt (by decide)).2.2.2) rfl ?_
  refine gAloadN W707 d3_38 rfl rfl rfl ?_
  refine gIload W707 d3_39 rfl rfl ?_
  refine wLdD (v := (.double (dI n0))) W707 d3_41 q4 (by decide) rfl rfl ?_
  refine wLdcD (v := 9218868437227405312) W707 d3_42 (ow19 hw) rfl ?_
  refine gDcmp (z := (-1 : Int32)) W707 d3_45 dfin rfl ?_
  refine gIfYes (pc' := 68) W707 d3_46 ((if0 _ _).trans (tlt (by decide)).1) (by decide) rfl ?_
  refine gIinc (z := (1 : Int32)) (ls' := #[.val (.ref a), .val (.ref r), .val (.int c), .val (.int d), .val (.int (1 : Int32)), .unset]) W707 d3_68 rfl (by decide) rfl rfl ?_
  refine gGoto (pc' := 22) W707 d3_71 (by decide) rfl ?_
  refine gIload W707 d3_22 rfl rfl ?_
  refine gAloadN W707 d3_24 rfl rfl rfl ?_
  refine wLen W707 d3_25 q4 rfl ?_
  refine gIcmpNo W707 d3_26 (tlt (by decide)).2.1 rfl ?_
  refine gAloadN W707 d3_29 rfl rfl rfl ?_
  refine gIload W707 d3_30 rfl rfl ?_
  refine wLdD (v := (.double (dI n1))) W707 d3_32 q4 (by decide) rfl rfl ?_
  refine gDconst0 (z := (dI 0)) W707 d3_33 dz rfl ?_
  refine gDcmp (z := (1 : Int32)) W707 d3_34 (dpos (by omega) (by omega)) rfl ?_
  refine gIfNo W707 d3_35 ((if0 _ _).trans (tlt (by decide)).2.2.2) rfl ?_
  refine gAloadN W707 d3_38 rfl rfl rfl ?_
  refine gIload W707 d3_39 rfl rfl ?_
  refine wLdD (v := (.double (dI n1))) W707 d3_41 q4 (by decide) rfl rfl ?_
  refine wLdcD (v := 9218868437227405312) W707 d3_42 (ow19 hw) rfl ?_
  refine gDcmp (z := (-1 : Int32)) W707 d3_45 dfin rfl ?_
  refine gIfYes (pc' := 68) W707 d3_46 ((if0 _ _).trans (tlt (by decide)).1) (by decide) rfl ?_
  refine gIinc (z := (2 : Int32)) (ls' := #[.val (.ref a), .val (.ref r), .val (.int c), .val (.int d), .val (.int (2 : Int32)), .unset]) W707 d3_68 rfl (by decide) rfl rfl ?_
  refine gGoto (pc' := 22) W707 d3_71 (by decide) rfl ?_
  refine gIload W707 d3_22 rfl rfl ?_
  refine gAloadN W707 d3_24 rfl rfl rfl ?_
  refine wLen W707 d3_25 q4 rfl ?_
  refine gIcmpNo W707 d3_26 (tlt (by decide)).2.1 rfl ?_
  refine gAloadN W707 d3_29 rfl rfl rfl ?_
  refine gIload W707 d3_30 rfl rfl ?_
  refine wLdD (v := (.double (dI n2))) W707 d3_32 q4 (by decide) rfl rfl ?_
  refine gDconst0 (z := (dI 0)) W707 d3_33 dz rfl ?_
  refine gDcmp (z := (1 : Int32)) W707 d3_34 (dpos (by omega) (by omega)) rfl ?_
  refine gIfNo W707 d3_35 ((if0 _ _).trans (tlt (by decide)).2.2.2) rfl ?_
  refine gAloadN W707 d3_38 rfl rfl rfl ?_
  refine gIload W707 d3_39 rfl rfl ?_
  refine wLdD (v := (.double (dI n2))) W707 d3_41 q4 (by decide) rfl rfl ?_
  refine wLdcD (v := 9218868437227405312) W707 d3_42 (ow19 hw) rfl ?_
  refine gDcmp (z := (-1 : Int32)) W707 d3_45 dfin rfl ?_
  refine gIfYes (pc' := 68) W707 d3_46 ((if0 _ _).trans (tlt (by decide)).1) (by decide) rfl ?_
  refine gIinc (z := (3 : Int32)) (ls' := #[.val (.ref a), .val (.ref r), .val (.int c), .val (.int d), .val (.int (3 : Int32)), .unset]) W707 d3_68 rfl (by decide) rfl rfl ?_
  refine gGoto (pc' := 22) W707 d3_71 (by decide) rfl ?_
  refine gIload W707 d3_22 rfl rfl ?_
  refine gAloadN W707 d3_24 rfl rfl rfl ?_
  refine wLen W707 d3_25 q4 rfl ?_
  refine gIcmpNo W707 d3_26 (tlt (by decide)).2.1 rfl ?_
  refine gAloadN W707 d3_29 rfl rfl rfl ?_
  refine gIload W707 d3_30 rfl rfl ?_
  refine wLdD (v := (.double (dI n3))) W707 d3_32 q4 (by decide) rfl rfl ?_
  refine gDconst0 (z := (dI 0)) W707 d3_33 dz rfl ?_
  refine gDcmp (z := (1 : Int32)) W707 d3_34 (dpos (by omega) (by omega)) rfl ?_
  refine gIfNo W707 d3_35 ((if0 _ _).trans (tlt (by decide)).2.2.2) rfl ?_
  refine gAloadN W707 d3_38 rfl rfl rfl ?_
  refine gIload W707 d3_39 rfl rfl ?_
  refine wLdD (v := (.double (dI n3))) W707 d3_41 q4 (by decide) rfl rfl ?_
  refine wLdcD (v := 9218868437227405312) W707 d3_42 (ow19 hw) rfl ?_
  refine gDcmp (z := (-1 : Int32)) W707 d3_45 dfin rfl ?_
  refine gIfYes (pc' := 68) W707 d3_46 ((if0 _ _).trans (tlt (by decide)).1) (by decide) rfl ?_
  refine gIinc (z := (4 : Int32)) (ls' := #[.val (.ref a), .val (.ref r), .val (.int c), .val (.int d), .val (.int (4 : Int32)), .unset]) W707 d3_68 rfl (by decide) rfl rfl ?_
  refine gGoto (pc' := 22) W707 d3_71 (by decide) rfl ?_
  refine gIload W707 d3_22 rfl rfl ?_
  refine gAloadN W707 d3_24 rfl rfl rfl ?_
  refine wLen W707 d3_25 q4 rfl ?_
  refine gIcmpYes (pc' := 74) W707 d3_26 (flt (by decide)).2.1 (by decide) rfl ?_
  refine gIloadN W707 d3_74 rfl rfl ?_
  refine gIconst (z := (1 : Int32)) W707 d3_75 rfl rfl ?_
  refine gIcmpYes (pc' := 93) W707 d3_76 (flt (fun q => by have := Int32.lt_iff_toInt_lt.mp q; have e : (1 : Int32).toInt = 1 := (by decide); omega)).2.1 (by decide) rfl ?_
  refine gIloadN W707 d3_93 rfl rfl ?_
  refine gIconst (z := (1 : Int32)) W707 d3_94 rfl rfl ?_
  refine gIcmpYes (pc' := 112) W707 d3_95 (flt (fun q => by have := Int32.lt_iff_toInt_lt.mp q; have e : (1 : Int32).toInt = 1 := (by decide); omega)).2.1 (by decide) rfl ?_
  refine gIloadN W707 d3_112 rfl rfl ?_
  refine gI2L (z := d.toInt64) W707 d3_113 rfl rfl ?_
  refine gIloadN W707 d3_114 rfl rfl ?_
  refine gI2L (z := c.toInt64) W707 d3_115 rfl rfl ?_
  refine gLmul (z := (d.toInt64 * c.toInt64)) W707 d3_116 rfl rfl ?_
  refine gLstore (ls' := #[.val (.ref a), .val (.ref r), .val (.int c), .val (.int d), .val (.long (d.toInt64 * c.toInt64)), .second]) W707 d3_117 rfl rfl ?_
  refine gAloadN W707 d3_119 rfl rfl rfl ?_
  refine gIloadN W707 d3_120 rfl rfl ?_
  refine wPutF (ty := .int) W707 d3_121 (ow20 hw) Via.refl (by simp) q1 q0 (Or.inr ⟨(ow21 hw), rfl, rfl⟩) (ow11 hw) (by decide) rfl rfl rfl fun T708 h710 W709 wr711 => ?_
  have f712 := Fld.same wr711 q1
  refine gAloadN W709 d3_124 rfl rfl rfl ?_
  refine gIloadN W709 d3_125 rfl rfl ?_
  refine gI2L (z := c.toInt64) W709 d3_126 rfl rfl ?_
  refine gLload W709 d3_127 rfl rfl ?_
  refine gAloadN W709 d3_129 rfl rfl rfl ?_
  have f713 := q4.other wr711 nra
  refine wLen W709 d3_130 f713 rfl ?_
  refine gI2L (z := (4 : Int64)) W709 d3_131 (by decide) rfl ?_
  refine gLadd (z := ((d.toInt64 * c.toInt64) + 4)) W709 d3_132 rfl rfl ?_
  refine gLconst (z := (1 : Int64)) W709 d3_133 rfl rfl ?_
  refine gLsub (z := ((d.toInt64 * c.toInt64) + 4 - 1)) W709 d3_134 rfl rfl ?_
  refine gAloadN W709 d3_135 rfl rfl rfl ?_
  refine wLen W709 d3_136 f713 rfl ?_
  refine gI2L (z := (4 : Int64)) W709 d3_137 (by decide) rfl ?_
  refine gLdiv (z := (((d.toInt64 * c.toInt64) + 4 - 1) / 4)) W709 d3_138 (by decide) rfl rfl ?_
  refine wStatic (y := (⟨"java/lang/Math", "min", "(JJ)J"⟩ : MethodName)) (Wd := 1) (argsL := [(.long c.toInt64), (.long (((d.toInt64 * c.toInt64) + 4 - 1) / 4))]) (rest := [(.ref a)]) W709 d3_139 (ow22 hw) (ow23 hw) (ow8 hw) (ow24 hw) (by decide) (Cb.ct (ob_mnJ l Z a0 hw hE (c.toInt64) ((((d.toInt64 * c.toInt64) + 4 - 1) / 4)) h710 W709.old  ) (ow24 hw) (ow8 hw) hE (by decide) (by decide)) (by simp) rfl (lenOf opd3 rfl) rfl (Nat.le_of_eq rfl) (by decide) (by decide) rfl fun v718 so719 T714 h716 W715 kp717 sp720 q721 => ?_
  obtain ⟨rfl, rfl⟩ := q721
  show Go K _ T714 142 #[.val (.ref a), .val (.ref r), .val (.int c), .val (.int d), .val (.long (d.toInt64 * c.toInt64)), .second] [(.long (minL c.toInt64 (((d.toInt64 * c.toInt64) + 4 - 1) / 4))), (.ref a)]
  refine gL2I (z := ((minL c.toInt64 (((d.toInt64 * c.toInt64) + 4 - 1) / 4)).toInt32)) W715 d3_142 rfl rfl ?_
  have f722 := q2.other wr711 (Or.inr (slot_ne (t := .int) (t' := .int) (Or.inr (ow26 hw)) (Or.inr (ow21 hw)) (by decide) (by decide) (by decide)))
  have f723 := f722.keep kp717 nin0
  have f724 := q0.wr wr711
  have f725 := f724.keep kp717
  refine wPutF (ty := .int) W715 d3_143 (ow25 hw) Via.refl (by simp) f723 f725 (Or.inr ⟨(ow26 hw), rfl, rfl⟩) (ow11 hw) (by decide) rfl rfl rfl fun T726 h728 W727 wr729 => ?_
  have f730 := Fld.same wr729 f723
  refine gAloadN W727 d3_146 rfl rfl rfl ?_
  refine gAloadN W727 d3_147 rfl rfl rfl ?_
  have f731 := f713.keep kp717 nin0
  have f732 := f731.other wr729 nra
  refine wStatic (y := (⟨"com/example/hasset/hasset/algorithm/Aperture", "boundaries", "([D)[D"⟩ : MethodName)) (Wd := 1) (argsL := [(.ref r)]) (rest := [(.ref a)]) W727 d3_148 (ow27 hw) (ow28 hw) (ow12 hw) (ow29 hw) (by decide) (Cb.ct (ob_b4 l Z a0 hw hE (r) (kr) (n0) (n1) (n2) (n3) h728 W727.old f732 na0 nb0 na1 nb1 na2 nb2 na3 nb3 ) (ow29 hw) (ow12 hw) hE (by decide) (by decide)) (by simp) rfl (lenOf opd4 rfl) rfl (Nat.le_of_eq rfl) (by decide) (by decide) rfl fun v737 so738 T733 h735 W734 kp736 sp739 q740 => ?_
  obtain ⟨b741, rfl, rfl, f742⟩ := q740
  show Go K _ T733 151 #[.val (.ref a), .val (.ref r), .val (.int c), .val (.int d), .val (.long (d.toInt64 * c.toInt64)), .second] [(.ref b741), (.ref a)]
  have f743 := q3.other wr711 (Or.inr (slot_ne (t := .array .double) (t' := .int) (Or.inr (ow45 hw)) (Or.inr (ow21 hw)) (by decide) (by decide) (by decide)))
  have f744 := f743.keep kp717 nin0
  have f745 := f744.other wr729 (Or.inr (slot_ne (t := .array .double) (t' := .int) (Or.inr (ow45 hw)) (Or.inr (ow26 hw)) (by decide) (by decide) (by decide)))
  have f746 := f745.keep kp736 nin0
  have f747 := f725.wr wr729
  have f748 := f747.keep kp736
  refine wPutF (ty := .array .double) W734 d3_151 (ow44 hw) Via.refl (by simp) f746 f748 (Or.inr ⟨(ow45 hw), rfl, rfl⟩) (ow11 hw) (by decide) rfl rfl rfl fun T749 h751 W750 wr752 => ?_
  have f753 := Fld.same wr752 f746
  have f754 := f748.wr wr752
  have f755 := f712.keep kp717 nin0
  have f756 := f755.other wr729 (Or.inr (slot_ne (t := .int) (t' := .int) (Or.inr (ow21 hw)) (Or.inr (ow26 hw)) (by decide) (by decide) (by decide)))
  have f757 := f756.keep kp736 nin0
  have f758 := f757.other wr752 (Or.inr (slot_ne (t := .int) (t' := .array .double) (Or.inr (ow21 hw)) (Or.inr (ow45 hw)) (by decide) (by decide) (by decide)))
  have f759 := f730.keep kp736 nin0
  have f760 := f759.other wr752 (Or.inr (slot_ne (t := .int) (t' := .array .double) (Or.inr (ow26 hw)) (Or.inr (ow45 hw)) (by decide) (by decide) (by decide)))
  exact wRet0 (so := []) W750 d3_154 (by decide) (by decide) (fun _ q => nomatch q) ⟨rfl, rfl, f754, f758, f760⟩
theorem d11_0 : decode prog_1_method_6_code 0 = .ok (.aload_n 0, 1) := by decide +kernel
theorem d11_1 : decode prog_1_method_6_code 1 = .ok (.getfield 38, 3) := by decide +kernel
theorem d11_4 : decode prog_1_method_6_code 4 = .ok (.i2d, 1) := by decide +kernel
theorem d11_5 : decode prog_1_method_6_code 5 = .ok (.aload_n 0, 1) := by decide +kernel
theorem d11_6 : decode prog_1_method_6_code 6 = .ok (.getfield 26, 3) := by decide +kernel
theorem d11_9 : decode prog_1_method_6_code 9 = .ok (.i2d, 1) := by decide +kernel
theorem d11_10 : decode prog_1_method_6_code 10 = .ok (.ddiv, 1) := by decide +kernel
theorem d11_11 : decode prog_1_method_6_code 11 = .ok (.dreturn, 1) := by decide +kernel
theorem oef_ob_wd (m_ : MethodId) (a : Addr)  : (entryFrame m_ #[(.ref a)] 1).locals = #[.val (.ref a)] := by first | (simp [entryFrame, argsToLocals, Value.category]; done) | rfl
set_option maxRecDepth 65536 in
set_option maxHeartbeats 40000000 in
theorem ob_wd (l : Launch) (Z : State) (a0 : Array Value) (hw : ∀ d ∈ tables_1, d.before a0 Z = true) (hE : EW Z a0 ([] : List (String × Nat))) (a : Addr) (c : Int32) (s : Int32) (h : Heap) (hO : Old Z Z.heap.size h) (q0 : Fld Z h a "com/example/hasset/hasset/algorithm/Aperture" "clients" "I" (.int c)) (q1 : Fld Z h a "com/example/hasset/hasset/algorithm/Aperture" "span" "I" (.int s)) (hc : (c ≠ 0))  :
    Ct l Z ([] : List (String × Nat)) (⟨"com/example/hasset/hasset/algorithm/Aperture", "width", "()D"⟩ : MethodName) prog_1_method_6_code 1 (Option.some Jvm.ClassFile.FieldType.double) ⟨0, 0, 0, 0⟩ #[(.ref a)] h [] (fun rv' hp' so' => rv' = some (.double (FP.ddiv (FP.i2d s) (FP.i2d c))) ∧ so' = []) := by
  refine Ct.mk "com/example/hasset/hasset/algorithm/Aperture" "width" rfl rfl (a0 := a0) (plainFor_of_name opn2) hO hE (fun x q => nomatch q) ?_
  intro K T W
  rw [oef_ob_wd]
  refine gAloadN W d11_0 rfl rfl rfl ?_
  refine wGetF W d11_1 (ow25 hw) Via.refl q1 rfl fun T761 W762 => ?_
  refine gI2D (z := (FP.i2d s)) W762 d11_4 rfl rfl ?_
  refine gAloadN W762 d11_5 rfl rfl rfl ?_
  refine wGetF W762 d11_6 (ow20 hw) Via.refl q0 rfl fun T763 W764 => ?_
  refine gI2D (z := (FP.i2d c)) W764 d11_9 rfl rfl ?_
  refine gDdiv (z := (FP.ddiv (FP.i2d s) (FP.i2d c))) W764 d11_10 rfl (nn_quo hc) rfl ?_
  exact wRetD (so := []) W764 d11_11 (by decide) (by decide) (fun _ q => nomatch q) ⟨rfl, rfl⟩
theorem ow0 {a0 : Array Value} {Z : State} (hw : ∀ d ∈ tables_1, d.before a0 Z = true) : (Jvm.Cond.methodLink "com/example/hasset/hasset/algorithm/ApertureWidthPinLaw" (7 : Nat) ({ cls := "com/example/hasset/hasset/algorithm/ApertureWidthPinLaw", name := "weights", desc := "(II)[D" } : Jvm.MethodName)).before a0 Z = true := hw _ (List.mem_of_getElem? (i := 0) rfl)
theorem ow2 {a0 : Array Value} {Z : State} (hw : ∀ d ∈ tables_1, d.before a0 Z = true) : (Jvm.Cond.initialized "com/example/hasset/hasset/algorithm/ApertureWidthPinLaw").before a0 Z = true := hw _ (List.mem_of_getElem? (i := 2) rfl)
theorem ow3 {a0 : Array Value} {Z : State} (hw : ∀ d ∈ tables_1, d.before a0 Z = true) : (Jvm.Cond.code ({ cls := "com/example/hasset/hasset/algorithm/ApertureWidthPinLaw", name := "weights", desc := "(II)[D" } : Jvm.MethodName) method_2_code (11 : Nat) (Option.some (Jvm.ClassFile.FieldType.array Jvm.ClassFile.FieldType.double))).before a0 Z = true := hw _ (List.mem_of_getElem? (i := 3) rfl)
theorem opd5 : parseMethodDescriptor "(II)[D" = some ⟨[.int, .int], some (.array .double)⟩ := by decide +kernel
theorem ow1 {a0 : Array Value} {Z : State} (hw : ∀ d ∈ tables_1, d.before a0 Z = true) : (Jvm.Cond.static ({ cls := "com/example/hasset/hasset/algorithm/ApertureWidthPinLaw", name := "weights", desc := "(II)[D" } : Jvm.MethodName)).before a0 Z = true := hw _ (List.mem_of_getElem? (i := 1) rfl)
theorem ow5 {a0 : Array Value} {Z : State} (hw : ∀ d ∈ tables_1, d.before a0 Z = true) : (Jvm.Cond.constant "com/example/hasset/hasset/algorithm/ApertureWidthPinLaw" (13 : Nat) (2147483647 : Int32)).before a0 Z = true := hw _ (List.mem_of_getElem? (i := 5) rfl)
theorem ow6 {a0 : Array Value} {Z : State} (hw : ∀ d ∈ tables_1, d.before a0 Z = true) : (Jvm.Cond.methodLink "com/example/hasset/hasset/algorithm/ApertureWidthPinLaw" (14 : Nat) ({ cls := "java/lang/Math", name := "max", desc := "(II)I" } : Jvm.MethodName)).before a0 Z = true := hw _ (List.mem_of_getElem? (i := 6) rfl)
theorem ow9 {a0 : Array Value} {Z : State} (hw : ∀ d ∈ tables_1, d.before a0 Z = true) : (Jvm.Cond.code ({ cls := "java/lang/Math", name := "max", desc := "(II)I" } : Jvm.MethodName) jdk_29_method_65_code (2 : Nat) (Option.some Jvm.ClassFile.FieldType.int)).before a0 Z = true := hw _ (List.mem_of_getElem? (i := 9) rfl)
theorem opd6 : parseMethodDescriptor "(II)I" = some ⟨[.int, .int], some (.int)⟩ := by decide +kernel
theorem ow7 {a0 : Array Value} {Z : State} (hw : ∀ d ∈ tables_1, d.before a0 Z = true) : (Jvm.Cond.static ({ cls := "java/lang/Math", name := "max", desc := "(II)I" } : Jvm.MethodName)).before a0 Z = true := hw _ (List.mem_of_getElem? (i := 7) rfl)
theorem ow10 {a0 : Array Value} {Z : State} (hw : ∀ d ∈ tables_1, d.before a0 Z = true) : (Jvm.Cond.classLink "com/example/hasset/hasset/algorithm/ApertureWidthPinLaw" (20 : Nat) "com/example/hasset/hasset/algorithm/Aperture").before a0 Z = true := hw _ (List.mem_of_getElem? (i := 10) rfl)
theorem ow13 {a0 : Array Value} {Z : State} (hw : ∀ d ∈ tables_1, d.before a0 Z = true) : (Jvm.Cond.methodLink "com/example/hasset/hasset/algorithm/ApertureWidthPinLaw" (22 : Nat) ({ cls := "com/example/hasset/hasset/algorithm/Aperture", name := "<init>", desc := "([DII)V" } : Jvm.MethodName)).before a0 Z = true := hw _ (List.mem_of_getElem? (i := 13) rfl)
theorem ow15 {a0 : Array Value} {Z : State} (hw : ∀ d ∈ tables_1, d.before a0 Z = true) : (Jvm.Cond.code ({ cls := "com/example/hasset/hasset/algorithm/Aperture", name := "<init>", desc := "([DII)V" } : Jvm.MethodName) prog_1_method_1_code (6 : Nat) (Option.none : Option Jvm.ClassFile.FieldType)).before a0 Z = true := hw _ (List.mem_of_getElem? (i := 15) rfl)
theorem opd7 : parseMethodDescriptor "([DII)V" = some ⟨[.array .double, .int, .int], none⟩ := by decide +kernel
theorem ow14 {a0 : Array Value} {Z : State} (hw : ∀ d ∈ tables_1, d.before a0 Z = true) : (Jvm.Cond.instanceMethod ({ cls := "com/example/hasset/hasset/algorithm/Aperture", name := "<init>", desc := "([DII)V" } : Jvm.MethodName)).before a0 Z = true := hw _ (List.mem_of_getElem? (i := 14) rfl)
theorem ow46 {a0 : Array Value} {Z : State} (hw : ∀ d ∈ tables_1, d.before a0 Z = true) : (Jvm.Cond.methodLink "com/example/hasset/hasset/algorithm/ApertureWidthPinLaw" (25 : Nat) ({ cls := "java/lang/Math", name := "min", desc := "(JJ)J" } : Jvm.MethodName)).before a0 Z = true := hw _ (List.mem_of_getElem? (i := 46) rfl)
theorem ow51 {a0 : Array Value} {Z : State} (hw : ∀ d ∈ tables_1, d.before a0 Z = true) : (Jvm.Cond.code ({ cls := "com/example/hasset/hasset/algorithm/Aperture", name := "width", desc := "()D" } : Jvm.MethodName) prog_1_method_6_code (1 : Nat) (Option.some Jvm.ClassFile.FieldType.double)).before a0 Z = true := hw _ (List.mem_of_getElem? (i := 51) rfl)
theorem opd8 : parseMethodDescriptor "()D" = some ⟨[], some (.double)⟩ := by decide +kernel
theorem ow47 {a0 : Array Value} {Z : State} (hw : ∀ d ∈ tables_1, d.before a0 Z = true) : (Jvm.Cond.methodLink "com/example/hasset/hasset/algorithm/ApertureWidthPinLaw" (29 : Nat) ({ cls := "com/example/hasset/hasset/algorithm/Aperture", name := "width", desc := "()D" } : Jvm.MethodName)).before a0 Z = true := hw _ (List.mem_of_getElem? (i := 47) rfl)
theorem ow48 {a0 : Array Value} {Z : State} (hw : ∀ d ∈ tables_1, d.before a0 Z = true) : (Jvm.Cond.declares ({ cls := "com/example/hasset/hasset/algorithm/Aperture", name := "width", desc := "()D" } : Jvm.MethodName)).before a0 Z = true := hw _ (List.mem_of_getElem? (i := 48) rfl)
theorem ow50 {a0 : Array Value} {Z : State} (hw : ∀ d ∈ tables_1, d.before a0 Z = true) : (Jvm.Cond.selects "com/example/hasset/hasset/algorithm/Aperture" ({ cls := "com/example/hasset/hasset/algorithm/Aperture", name := "width", desc := "()D" } : Jvm.MethodName) ({ cls := "com/example/hasset/hasset/algorithm/Aperture", name := "width", desc := "()D" } : Jvm.MethodName)).before a0 Z = true := hw _ (List.mem_of_getElem? (i := 50) rfl)
theorem ow49 {a0 : Array Value} {Z : State} (hw : ∀ d ∈ tables_1, d.before a0 Z = true) : (Jvm.Cond.instanceMethod ({ cls := "com/example/hasset/hasset/algorithm/Aperture", name := "width", desc := "()D" } : Jvm.MethodName)).before a0 Z = true := hw _ (List.mem_of_getElem? (i := 49) rfl)
theorem oef_ob_law (m_ : MethodId) (p0 : Int32) (p1 : Int32) (p2 : Int32) (p3 : Int32)  : (entryFrame m_ #[(.int p0), (.int p1), (.int p2), (.int p3)] maxLocals).locals = #[.val (.int p0), .val (.int p1), .val (.int p2), .val (.int p3), .unset, .unset, .unset, .unset, .unset, .unset, .unset, .unset, .unset, .unset, .unset, .unset, .unset] := by first | (simp [entryFrame, argsToLocals, Value.category, maxLocals]; done) | rfl
set_option maxRecDepth 65536 in
set_option maxHeartbeats 40000000 in
theorem ob_law (l : Launch) (Z : State) (a0 : Array Value) (hw : ∀ d ∈ tables_1, d.before a0 Z = true) (hE : EW Z a0 ([] : List (String × Nat))) (p0 : Int32) (p1 : Int32) (p2 : Int32) (p3 : Int32) (h : Heap) (hO : Old Z Z.heap.size h)   :
    Ct l Z ([] : List (String × Nat)) x code maxLocals ret room_1 #[(.int p0), (.int p1), (.int p2), (.int p3)] h [] (fun rv' hp' so' => rv' = some (.int (1 : Int32)) ∧ so' = []) := by
  refine Ct.mk "com/example/hasset/hasset/algorithm/ApertureWidthPinLaw" "law" rfl rfl (a0 := a0) (plainFor_of_name opn1) hO hE (fun x q => nomatch q) ?_
  intro K T W
  rw [oef_ob_law]
  rcases and3 p0 with hN | hN | hN | hN
  · refine gIloadN W at_0 rfl rfl ?_
    refine gIloadN W at_1 rfl rfl ?_
    refine wStatic (y := (⟨"com/example/hasset/hasset/algorithm/ApertureWidthPinLaw", "weights", "(II)[D"⟩ : MethodName)) (Wd := 0) (argsL := [(.int p0), (.int p1)]) (rest := []) W at_2 (ow0 hw) (ow1 hw) (ow2 hw) (ow3 hw) (by decide) (Cb.ct (ob_w1 l Z a0 hw hE (p0) (p1) h W.old hN ) (ow3 hw) (ow2 hw) hE (by decide) (by decide)) (by simp) rfl (lenOf opd5 rfl) rfl (Nat.le_of_eq rfl) (by decide) (by decide) rfl fun v769 so770 T765 h767 W766 kp768 sp771 q772 => ?_
    obtain ⟨r773, kr774, n0775, rfl, rfl, f776, f777, f778, f779⟩ := q772
    show Go K _ T765 5 #[.val (.int p0), .val (.int p1), .val (.int p2), .val (.int p3), .unset, .unset, .unset, .unset, .unset, .unset, .unset, .unset, .unset, .unset, .unset, .unset, .unset] [(.ref r773)]
    refine gAstore (ls' := #[.val (.int p0), .val (.int p1), .val (.int p2), .val (.int p3), .val (.ref r773), .unset, .unset, .unset, .unset, .unset, .unset, .unset, .unset, .unset, .unset, .unset, .unset]) W766 at_5 rfl rfl rfl ?_
    refine gIloadN W766 at_7 rfl rfl ?_
    refine gIconst (z := (3 : Int32)) W766 at_8 rfl rfl ?_
    refine gIand (z := (0 : Int32)) W766 at_9 hN rfl ?_
    refine gIconst (z := (1 : Int32)) W766 at_10 rfl rfl ?_
    refine gIadd (z := (1 : Int32)) W766 at_11 (by decide) rfl ?_
    refine gIstore (ls' := #[.val (.int p0), .val (.int p1), .val (.int p2), .val (.int p3), .val (.ref r773), .val (.int (1 : Int32)), .unset, .unset, .unset, .unset, .unset, .unset, .unset, .unset, .unset, .unset, .unset]) W766 at_12 rfl rfl ?_
    refine gIconst (z := (1 : Int32)) W766 at_14 rfl rfl ?_
    refine gIloadN W766 at_15 rfl rfl ?_
    refine wLdcI (v := (2147483647 : Int32)) W766 at_16 (ow5 hw) rfl ?_
    obtain ⟨v780, e781⟩ : ∃ v : Int32, p2 &&& (2147483647 : Int32) = v := ⟨_, rfl⟩
    refine gIand W766 at_18 e781 rfl ?_
    refine wStatic (y := (⟨"java/lang/Math", "max", "(II)I"⟩ : MethodName)) (Wd := 0) (argsL := [(.int (1 : Int32)), (.int v780)]) (rest := []) W766 at_19 (ow6 hw) (ow7 hw) (ow8 hw) (ow9 hw) (by decide) (Cb.ct (ob_mxI l Z a0 hw hE (v780) h767 W766.old  ) (ow9 hw) (ow8 hw) hE (by decide) (by decide)) (by simp) rfl (lenOf opd6 rfl) rfl (Nat.le_of_eq rfl) (by decide) (by decide) rfl fun v786 so787 T782 h784 W783 kp785 sp788 q789 => ?_
    obtain ⟨c790, rfl, rfl, f791⟩ := q789
    show Go K _ T782 22 #[.val (.int p0), .val (.int p1), .val (.int p2), .val (.int p3), .val (.ref r773), .val (.int (1 : Int32)), .unset, .unset, .unset, .unset, .unset, .unset, .unset, .unset, .unset, .unset, .unset] [(.int c790)]
    refine gIstore (ls' := #[.val (.int p0), .val (.int p1), .val (.int p2), .val (.int p3), .val (.ref r773), .val (.int (1 : Int32)), .val (.int c790), .unset, .unset, .unset, .unset, .unset, .unset, .unset, .unset, .unset, .unset]) W783 at_22 rfl rfl ?_
    refine gIconst (z := (1 : Int32)) W783 at_24 rfl rfl ?_
    refine gIloadN W783 at_25 rfl rfl ?_
    refine wLdcI (v := (2147483647 : Int32)) W783 at_26 (ow5 hw) rfl ?_
    obtain ⟨v792, e793⟩ : ∃ v : Int32, p3 &&& (2147483647 : Int32) = v := ⟨_, rfl⟩
    refine gIand W783 at_28 e793 rfl ?_
    refine wStatic (y := (⟨"java/lang/Math", "max", "(II)I"⟩ : MethodName)) (Wd := 0) (argsL := [(.int (1 : Int32)), (.int v792)]) (rest := []) W783 at_29 (ow6 hw) (ow7 hw) (ow8 hw) (ow9 hw) (by decide) (Cb.ct (ob_mxI l Z a0 hw hE (v792) h784 W783.old  ) (ow9 hw) (ow8 hw) hE (by decide) (by decide)) (by simp) rfl (lenOf opd6 rfl) rfl (Nat.le_of_eq rfl) (by decide) (by decide) rfl fun v798 so799 T794 h796 W795 kp797 sp800 q801 => ?_
    obtain ⟨c802, rfl, rfl, f803⟩ := q801
    show Go K _ T794 32 #[.val (.int p0), .val (.int p1), .val (.int p2), .val (.int p3), .val (.ref r773), .val (.int (1 : Int32)), .val (.int c790), .unset, .unset, .unset, .unset, .unset, .unset, .unset, .unset, .unset, .unset] [(.int c802)]
    refine gIstore (ls' := #[.val (.int p0), .val (.int p1), .val (.int p2), .val (.int p3), .val (.ref r773), .val (.int (1 : Int32)), .val (.int c790), .val (.int c802), .unset, .unset, .unset, .unset, .unset, .unset, .unset, .unset, .unset]) W795 at_32 rfl rfl ?_
    refine wNewO W795 at_34 (ow10 hw) (ow11 hw) (ow12 hw) (by decide) (by decide) rfl fun T804 h806 a807 W805 E808 g809 A810 D811  => ?_
    have f812 : Fld Z h806 a807 "com/example/hasset/hasset/algorithm/Aperture" "clients" "I" (.int (0 : Int32)) := D811 (Or.inr (ow21 hw)) (ty := .int) (by decide)
    have f813 : Fld Z h806 a807 "com/example/hasset/hasset/algorithm/Aperture" "span" "I" (.int (0 : Int32)) := D811 (Or.inr (ow26 hw)) (ty := .int) (by decide)
    have f814 : Fld Z h806 a807 "com/example/hasset/hasset/algorithm/Aperture" "boundaries" "[D" .null := D811 (Or.inr (ow45 hw)) (ty := .array .double) (by decide)
    refine gDup W805 at_37 rfl rfl ?_
    refine gAload W805 at_38 rfl rfl rfl ?_
    refine gIload W805 at_40 rfl rfl ?_
    refine gIload W805 at_42 rfl rfl ?_
    have f816 := f779.keep kp785 nin0
    have f817 := f816.keep kp797 nin0
    have ne815 : r773 ≠ a807 := Nat.ne_of_lt (Nat.lt_of_lt_of_le f817.lt (Nat.le_of_eq g809.symm))
    have f818 := f817.ext E808
    refine wSpecial (y := (⟨"com/example/hasset/hasset/algorithm/Aperture", "<init>", "([DII)V"⟩ : MethodName)) (Wd := 1) (a := a807) (argsL := [(.ref r773), (.int c790), (.int c802)]) (rest := [(.ref a807)]) W805 at_44 rfl (ow13 hw) (ow14 hw) (ow15 hw) (by decide) (Cb.ct (ob_i1 l Z a0 hw hE (a807) (r773) (kr774) (c790) (c802) (n0775) h806 W805.old A810 f812 f813 f814 f818 ne815 f791 f803 f777 f778 (Nat.le_trans W795.old.2.1 (Nat.le_of_eq g809.symm))) (ow15 hw) (ow12 hw) hE (by decide) (by decide)) (by simp) rfl (lenOf opd7 rfl) rfl (Nat.le_of_eq rfl) (by decide) (by decide) rfl fun v823 so824 T819 h821 W820 kp822 sp825 q826 => ?_
    obtain ⟨rfl, rfl, f827, f828, f829⟩ := q826
    show Go K _ T819 47 #[.val (.int p0), .val (.int p1), .val (.int p2), .val (.int p3), .val (.ref r773), .val (.int (1 : Int32)), .val (.int c790), .val (.int c802), .unset, .unset, .unset, .unset, .unset, .unset, .unset, .unset, .unset] [(.ref a807)]
    refine gAstore (ls' := #[.val (.int p0), .val (.int p1), .val (.int p2), .val (.int p3), .val (.ref r773), .val (.int (1 : Int32)), .val (.int c790), .val (.int c802), .val (.ref a807), .unset, .unset, .unset, .unset, .unset, .unset, .unset, .unset]) W820 at_47 rfl rfl rfl ?_
    refine gIload W820 at_49 rfl rfl ?_
    refine gI2L (z := c802.toInt64) W820 at_51 rfl rfl ?_
    refine gIload W820 at_52 rfl rfl ?_
    refine gI2L (z := c790.toInt64) W820 at_54 rfl rfl ?_
    refine gLmul (z := (c802.toInt64 * c790.toInt64)) W820 at_55 rfl rfl ?_
    refine gLstore (ls' := #[.val (.int p0), .val (.int p1), .val (.int p2), .val (.int p3), .val (.ref r773), .val (.int (1 : Int32)), .val (.int c790), .val (.int c802), .val (.ref a807), .val (.long (c802.toInt64 * c790.toInt64)), .second, .unset, .unset, .unset, .unset, .unset, .unset]) W820 at_56 rfl rfl ?_
    refine gLload W820 at_58 rfl rfl ?_
    refine gIload W820 at_60 rfl rfl ?_
    refine gI2L (z := (1 : Int64)) W820 at_62 (by decide) rfl ?_
    refine gLdiv (z := ((c802.toInt64 * c790.toInt64) / 1)) W820 at_63 (by decide) rfl rfl ?_
    refine gLstore (ls' := #[.val (.int p0), .val (.int p1), .val (.int p2), .val (.int p3), .val (.ref r773), .val (.int (1 : Int32)), .val (.int c790), .val (.int c802), .val (.ref a807), .val (.long (c802.toInt64 * c790.toInt64)), .second, .val (.long ((c802.toInt64 * c790.toInt64) / 1)), .second, .unset, .unset, .unset, .unset]) W820 at_64 rfl rfl ?_
    refine gLload W820 at_66 rfl rfl ?_
    refine gIload W820 at_68 rfl rfl ?_
    refine gI2L (z := (1 : Int64)) W820 at_70 (by decide) rfl ?_
    refine gLmul (z := (((c802.toInt64 * c790.toInt64) / 1) * 1)) W820 at_71 rfl rfl ?_
    refine gLload W820 at_72 rfl rfl ?_
    refine gLcmp (z := (lcmpW (((c802.toInt64 * c790.toInt64) / 1) * 1) (c802.toInt64 * c790.toInt64))) W820 at_74 rfl rfl ?_
    by_cases hq : ((c802.toInt64 * c790.toInt64) / 1) * 1 = (c802.toInt64 * c790.toInt64)
    · refine gIfYes (pc' := 84) W820 at_75 ((if0 _ _).trans (teq ((lw_eq _ _).mpr hq)).1) (by decide) rfl ?_
      refine gIload W820 at_84 rfl rfl ?_
      refine gI2L (z := c790.toInt64) W820 at_86 rfl rfl ?_
      refine gLload W820 at_87 rfl rfl ?_
      refine wStatic (y := (⟨"java/lang/Math", "min", "(JJ)J"⟩ : MethodName)) (Wd := 0) (argsL := [(.long c790.toInt64), (.long ((c802.toInt64 * c790.toInt64) / 1))]) (rest := []) W820 at_89 (ow46 hw) (ow23 hw) (ow8 hw) (ow24 hw) (by decide) (Cb.ct (ob_mnJ l Z a0 hw hE (c790.toInt64) (((c802.toInt64 * c790.toInt64) / 1)) h821 W820.old  ) (ow24 hw) (ow8 hw) hE (by decide) (by decide)) (by simp) rfl (lenOf opd3 rfl) rfl (Nat.le_of_eq rfl) (by decide) (by decide) rfl fun v834 so835 T830 h832 W831 kp833 sp836 q837 => ?_
      obtain ⟨rfl, rfl⟩ := q837
      show Go K _ T830 92 #[.val (.int p0), .val (.int p1), .val (.int p2), .val (.int p3), .val (.ref r773), .val (.int (1 : Int32)), .val (.int c790), .val (.int c802), .val (.ref a807), .val (.long (c802.toInt64 * c790.toInt64)), .second, .val (.long ((c802.toInt64 * c790.toInt64) / 1)), .second, .unset, .unset, .unset, .unset] [(.long (minL c790.toInt64 ((c802.toInt64 * c790.toInt64) / 1)))]
      refine gLstore (ls' := #[.val (.int p0), .val (.int p1), .val (.int p2), .val (.int p3), .val (.ref r773), .val (.int (1 : Int32)), .val (.int c790), .val (.int c802), .val (.ref a807), .val (.long (c802.toInt64 * c790.toInt64)), .second, .val (.long ((c802.toInt64 * c790.toInt64) / 1)), .second, .val (.long (minL c790.toInt64 ((c802.toInt64 * c790.toInt64) / 1))), .second, .unset, .unset]) W831 at_92 rfl rfl ?_
      refine gLload W831 at_94 rfl rfl ?_
      refine gL2D (z := (FP.l2d (minL c790.toInt64 ((c802.toInt64 * c790.toInt64) / 1)))) W831 at_96 rfl rfl ?_
      refine gIload W831 at_97 rfl rfl ?_
      refine gI2D (z := (FP.i2d c790)) W831 at_99 rfl rfl ?_
      refine gDdiv (z := (FP.ddiv (FP.l2d (minL c790.toInt64 ((c802.toInt64 * c790.toInt64) / 1))) (FP.i2d c790))) W831 at_100 rfl (nn_quoL (ne0 f791)) rfl ?_
      refine gDstore (ls' := #[.val (.int p0), .val (.int p1), .val (.int p2), .val (.int p3), .val (.ref r773), .val (.int (1 : Int32)), .val (.int c790), .val (.int c802), .val (.ref a807), .val (.long (c802.toInt64 * c790.toInt64)), .second, .val (.long ((c802.toInt64 * c790.toInt64) / 1)), .second, .val (.long (minL c790.toInt64 ((c802.toInt64 * c790.toInt64) / 1))), .second, .val (.double (FP.ddiv (FP.l2d (minL c790.toInt64 ((c802.toInt64 * c790.toInt64) / 1))) (FP.i2d c790))), .second]) W831 at_101 rfl rfl ?_
      refine gAload W831 at_103 rfl rfl rfl ?_
      have f838 := f828.keep kp833 nin0
      have f839 := f829.keep kp833 nin0
      have f848 := f827.keep kp833
      refine wVirtual (y := (⟨"com/example/hasset/hasset/algorithm/Aperture", "width", "()D"⟩ : MethodName)) (z := (⟨"com/example/hasset/hasset/algorithm/Aperture", "width", "()D"⟩ : MethodName)) (Wd := 0) (a := a807) (argsL := []) (rest := []) W831 at_105 (ow47 hw) (ow48 hw) (ow50 hw) (ow49 hw) (nfS (ow50 hw)) (by decide) (Cb.ct (ob_wd l Z a0 hw hE (a807) (c790) ((minL c790.toInt64 (((c802.toInt64 * c790.toInt64) + 1 - 1) / 1)).toInt32) h832 W831.old f838 f839 (ne0 f791) ) (ow51 hw) (ow12 hw) hE (by decide) (by decide)) f848 (by simp) rfl (lenOf opd8 rfl) rfl (Nat.le_of_eq rfl) (by decide) (by decide) rfl fun v844 so845 T840 h842 W841 kp843 sp846 q847 => ?_
      obtain ⟨rfl, rfl⟩ := q847
      show Go K _ T840 108 #[.val (.int p0), .val (.int p1), .val (.int p2), .val (.int p3), .val (.ref r773), .val (.int (1 : Int32)), .val (.int c790), .val (.int c802), .val (.ref a807), .val (.long (c802.toInt64 * c790.toInt64)), .second, .val (.long ((c802.toInt64 * c790.toInt64) / 1)), .second, .val (.long (minL c790.toInt64 ((c802.toInt64 * c790.toInt64) / 1))), .second, .val (.double (FP.ddiv (FP.l2d (minL c790.toInt64 ((c802.toInt64 * c790.toInt64) / 1))) (FP.i2d c790))), .second] [(.double (FP.ddiv (FP.i2d (minL c790.toInt64 (((c802.toInt64 * c790.toInt64) + 1 - 1) / 1)).toInt32) (FP.i2d c790)))]
      refine gDload W841 at_108 rfl rfl ?_
      refine gDcmp (z := (0 : Int32)) W841 at_110 (dcmpV_eq (congrArg (fun t => FP.ddiv t (FP.i2d c790)) (spanT (k := 1) (by decide) (by decide) f791 f803 hq)) (nn_quo (ne0 f791)) .l) rfl ?_
      refine gIfNo W841 at_111 ((if0 _ _).trans (teq (by decide)).2) rfl ?_
      refine gIconst (z := (1 : Int32)) W841 at_114 rfl rfl ?_
      refine gGoto (pc' := 119) W841 at_115 (by decide) rfl ?_
      exact wRetI (so := []) (t := .boolean) W841 at_119 (by simp) rfl (by decide) (by decide) (fun _ q => nomatch q) ⟨rfl, rfl⟩
    · refine gIfNo W820 at_75 ((if0 _ _).trans (feq (fun q => hq ((lw_eq _ _).mp q))).1) rfl ?_
      refine gLload W820 at_78 rfl rfl ?_
      refine gLconst (z := (1 : Int64)) W820 at_80 rfl rfl ?_
      refine gLadd (z := (((c802.toInt64 * c790.toInt64) / 1) + 1)) W820 at_81 rfl rfl ?_
      refine gLstore (ls' := #[.val (.int p0), .val (.int p1), .val (.int p2), .val (.int p3), .val (.ref r773), .val (.int (1 : Int32)), .val (.int c790), .val (.int c802), .val (.ref a807), .val (.long (c802.toInt64 * c790.toInt64)), .second, .val (.long (((c802.toInt64 * c790.toInt64) / 1) + 1)), .second, .unset, .unset, .unset, .unset]) W820 at_82 rfl rfl ?_
      refine gIload W820 at_84 rfl rfl ?_
      refine gI2L (z := c790.toInt64) W820 at_86 rfl rfl ?_
      refine gLload W820 at_87 rfl rfl ?_
      refine wStatic (y := (⟨"java/lang/Math", "min", "(JJ)J"⟩ : MethodName)) (Wd := 0) (argsL := [(.long c790.toInt64), (.long (((c802.toInt64 * c790.toInt64) / 1) + 1))]) (rest := []) W820 at_89 (ow46 hw) (ow23 hw) (ow8 hw) (ow24 hw) (by decide) (Cb.ct (ob_mnJ l Z a0 hw hE (c790.toInt64) ((((c802.toInt64 * c790.toInt64) / 1) + 1)) h821 W820.old  ) (ow24 hw) (ow8 hw) hE (by decide) (by decide)) (by simp) rfl (lenOf opd3 rfl) rfl (Nat.le_of_eq rfl) (by decide) (by decide) rfl fun v853 so854 T849 h851 W850 kp852 sp855 q856 => ?_
      obtain ⟨rfl, rfl⟩ := q856
      show Go K _ T849 92 #[.val (.int p0), .val (.int p1), .val (.int p2), .val (.int p3), .val (.ref r773), .val (.int (1 : Int32)), .val (.int c790), .val (.int c802), .val (.ref a807), .val (.long (c802.toInt64 * c790.toInt64)), .second, .val (.long (((c802.toInt64 * c790.toInt64) / 1) + 1)), .second, .unset, .unset, .unset, .unset] [(.long (minL c790.toInt64 (((c802.toInt64 * c790.toInt64) / 1) + 1)))]
      refine gLstore (ls' := #[.val (.int p0), .val (.int p1), .val (.int p2), .val (.int p3), .val (.ref r773), .val (.int (1 : Int32)), .val (.int c790), .val (.int c802), .val (.ref a807), .val (.long (c802.toInt64 * c790.toInt64)), .second, .val (.long (((c802.toInt64 * c790.toInt64) / 1) + 1)), .second, .val (.long (minL c790.toInt64 (((c802.toInt64 * c790.toInt64) / 1) + 1))), .second, .unset, .unset]) W850 at_92 rfl rfl ?_
      refine gLload W850 at_94 rfl rfl ?_
      refine gL2D (z := (FP.l2d (minL c790.toInt64 (((c802.toInt64 * c790.toInt64) / 1) + 1)))) W850 at_96 rfl rfl ?_
      refine gIload W850 at_97 rfl rfl ?_
      refine gI2D (z := (FP.i2d c790)) W850 at_99 rfl rfl ?_
      refine gDdiv (z := (FP.ddiv (FP.l2d (minL c790.toInt64 (((c802.toInt64 * c790.toInt64) / 1) + 1))) (FP.i2d c790))) W850 at_100 rfl (nn_quoL (ne0 f791)) rfl ?_
      refine gDstore (ls' := #[.val (.int p0), .val (.int p1), .val (.int p2), .val (.int p3), .val (.ref r773), .val (.int (1 : Int32)), .val (.int c790), .val (.int c802), .val (.ref a807), .val (.long (c802.toInt64 * c790.toInt64)), .second, .val (.long (((c802.toInt64 * c790.toInt64) / 1) + 1)), .second, .val (.long (minL c790.toInt64 (((c802.toInt64 * c790.toInt64) / 1) + 1))), .second, .val (.double (FP.ddiv (FP.l2d (minL c790.toInt64 (((c802.toInt64 * c790.toInt64) / 1) + 1))) (FP.i2d c790))), .second]) W850 at_101 rfl rfl ?_
      refine gAload W850 at_103 rfl rfl rfl ?_
      have f857 := f828.keep kp852 nin0
      have f858 := f829.keep kp852 nin0
      have f867 := f827.keep kp852
      refine wVirtual (y := (⟨"com/example/hasset/hasset/algorithm/Aperture", "width", "()D"⟩ : MethodName)) (z := (⟨"com/example/hasset/hasset/algorithm/Aperture", "width", "()D"⟩ : MethodName)) (Wd := 0) (a := a807) (argsL := []) (rest := []) W850 at_105 (ow47 hw) (ow48 hw) (ow50 hw) (ow49 hw) (nfS (ow50 hw)) (by decide) (Cb.ct (ob_wd l Z a0 hw hE (a807) (c790) ((minL c790.toInt64 (((c802.toInt64 * c790.toInt64) + 1 - 1) / 1)).toInt32) h851 W850.old f857 f858 (ne0 f791) ) (ow51 hw) (ow12 hw) hE (by decide) (by decide)) f867 (by simp) rfl (lenOf opd8 rfl) rfl (Nat.le_of_eq rfl) (by decide) (by decide) rfl fun v863 so864 T859 h861 W860 kp862 sp865 q866 => ?_
      obtain ⟨rfl, rfl⟩ := q866
      show Go K _ T859 108 #[.val (.int p0), .val (.int p1), .val (.int p2), .val (.int p3), .val (.ref r773), .val (.int (1 : Int32)), .val (.int c790), .val (.int c802), .val (.ref a807), .val (.long (c802.toInt64 * c790.toInt64)), .second, .val (.long (((c802.toInt64 * c790.toInt64) / 1) + 1)), .second, .val (.long (minL c790.toInt64 (((c802.toInt64 * c790.toInt64) / 1) + 1))), .second, .val (.double (FP.ddiv (FP.l2d (minL c790.toInt64 (((c802.toInt64 * c790.toInt64) / 1) + 1))) (FP.i2d c790))), .second] [(.double (FP.ddiv (FP.i2d (minL c790.toInt64 (((c802.toInt64 * c790.toInt64) + 1 - 1) / 1)).toInt32) (FP.i2d c790)))]
      refine gDload W860 at_108 rfl rfl ?_
      refine gDcmp (z := (0 : Int32)) W860 at_110 (dcmpV_eq (congrArg (fun t => FP.ddiv t (FP.i2d c790)) (spanF (k := 1) (by decide) (by decide) f791 f803 hq)) (nn_quo (ne0 f791)) .l) rfl ?_
      refine gIfNo W860 at_111 ((if0 _ _).trans (teq (by decide)).2) rfl ?_
      refine gIconst (z := (1 : Int32)) W860 at_114 rfl rfl ?_
      refine gGoto (pc' := 119) W860 at_115 (by decide) rfl ?_
      exact wRetI (so := []) (t := .boolean) W860 at_119 (by simp) rfl (by decide) (by decide) (fun _ q => nomatch q) ⟨rfl, rfl⟩
  · refine gIloadN W at_0 rfl rfl ?_
    refine gIloadN W at_1 rfl rfl ?_
    refine wStatic (y := (⟨"com/example/hasset/hasset/algorithm/ApertureWidthPinLaw", "weights", "(II)[D"⟩ : MethodName)) (Wd := 0) (argsL := [(.int p0), (.int p1)]) (rest := []) W at_2 (ow0 hw) (ow1 hw) (ow2 hw) (ow3 hw) (by decide) (Cb.ct (ob_w2 l Z a0 hw hE (p0) (p1) h W.old hN ) (ow3 hw) (ow2 hw) hE (by decide) (by decide)) (by simp) rfl (lenOf opd5 rfl) rfl (Nat.le_of_eq rfl) (by decide) (by decide) rfl fun v872 so873 T868 h870 W869 kp871 sp874 q875 => ?_
    obtain ⟨r876, kr877, n0878, n1879, rfl, rfl, f880, f881, f882, f883, f884, f885⟩ := q875
    show Go K _ T868 5 #[.val (.int p0), .val (.int p1), .val (.int p2), .val (.int p3), .unset, .unset, .unset, .unset, .unset, .unset, .unset, .unset, .unset, .unset, .unset, .unset, .unset] [(.ref r876)]
    refine gAstore (ls' := #[.val (.int p0), .val (.int p1), .val (.int p2), .val (.int p3), .val (.ref r876), .unset, .unset, .unset, .unset, .unset, .unset, .unset, .unset, .unset, .unset, .unset, .unset]) W869 at_5 rfl rfl rfl ?_
    refine gIloadN W869 at_7 rfl rfl ?_
    refine gIconst (z := (3 : Int32)) W869 at_8 rfl rfl ?_
    refine gIand (z := (1 : Int32)) W869 at_9 hN rfl ?_
    refine gIconst (z := (1 : Int32)) W869 at_10 rfl rfl ?_
    refine gIadd (z := (2 : Int32)) W869 at_11 (by decide) rfl ?_
    refine gIstore (ls' := #[.val (.int p0), .val (.int p1), .val (.int p2), .val (.int p3), .val (.ref r876), .val (.int (2 : Int32)), .unset, .unset, .unset, .unset, .unset, .unset, .unset, .unset, .unset, .unset, .unset]) W869 at_12 rfl rfl ?_
    refine gIconst (z := (1 : Int32)) W869 at_14 rfl rfl ?_
    refine gIloadN W869 at_15 rfl rfl ?_
    refine wLdcI (v := (2147483647 : Int32)) W869 at_16 (ow5 hw) rfl ?_
    obtain ⟨v886, e887⟩ : ∃ v : Int32, p2 &&& (2147483647 : Int32) = v := ⟨_, rfl⟩
    refine gIand W869 at_18 e887 rfl ?_
    refine wStatic (y := (⟨"java/lang/Math", "max", "(II)I"⟩ : MethodName)) (Wd := 0) (argsL := [(.int (1 : Int32)), (.int v886)]) (rest := []) W869 at_19 (ow6 hw) (ow7 hw) (ow8 hw) (ow9 hw) (by decide) (Cb.ct (ob_mxI l Z a0 hw hE (v886) h870 W869.old  ) (ow9 hw) (ow8 hw) hE (by decide) (by decide)) (by simp) rfl (lenOf opd6 rfl) rfl (Nat.le_of_eq rfl) (by decide) (by decide) rfl fun v892 so893 T888 h890 W889 kp891 sp894 q895 => ?_
    obtain ⟨c896, rfl, rfl, f897⟩ := q895
    show Go K _ T888 22 #[.val (.int p0), .val (.int p1), .val (.int p2), .val (.int p3), .val (.ref r876), .val (.int (2 : Int32)), .unset, .unset, .unset, .unset, .unset, .unset, .unset, .unset, .unset, .unset, .unset] [(.int c896)]
    refine gIstore (ls' := #[.val (.int p0), .val (.int p1), .val (.int p2), .val (.int p3), .val (.ref r876), .val (.int (2 : Int32)), .val (.int c896), .unset, .unset, .unset, .unset, .unset, .unset, .unset, .unset, .unset, .unset]) W889 at_22 rfl rfl ?_
    refine gIconst (z := (1 : Int32)) W889 at_24 rfl rfl ?_
    refine gIloadN W889 at_25 rfl rfl ?_
    refine wLdcI (v := (2147483647 : Int32)) W889 at_26 (ow5 hw) rfl ?_
    obtain ⟨v898, e899⟩ : ∃ v : Int32, p3 &&& (2147483647 : Int32) = v := ⟨_, rfl⟩
    refine gIand W889 at_28 e899 rfl ?_
    refine wStatic (y := (⟨"java/lang/Math", "max", "(II)I"⟩ : MethodName)) (Wd := 0) (argsL := [(.int (1 : Int32)), (.int v898)]) (rest := []) W889 at_29 (ow6 hw) (ow7 hw) (ow8 hw) (ow9 hw) (by decide) (Cb.ct (ob_mxI l Z a0 hw hE (v898) h890 W889.old  ) (ow9 hw) (ow8 hw) hE (by decide) (by decide)) (by simp) rfl (lenOf opd6 rfl) rfl (Nat.le_of_eq rfl) (by decide) (by decide) rfl fun v904 so905 T900 h902 W901 kp903 sp906 q907 => ?_
    obtain ⟨c908, rfl, rfl, f909⟩ := q907
    show Go K _ T900 32 #[.val (.int p0), .val (.int p1), .val (.int p2), .val (.int p3), .val (.ref r876), .val (.int (2 : Int32)), .val (.int c896), .unset, .unset, .unset, .unset, .unset, .unset, .unset, .unset, .unset, .unset] [(.int c908)]
    refine gIstore (ls' := #[.val (.int p0), .val (.int p1), .val (.int p2), .val (.int p3), .val (.ref r876), .val (.int (2 : Int32)), .val (.int c896), .val (.int c908), .unset, .unset, .unset, .unset, .unset, .unset, .unset, .unset, .unset]) W901 at_32 rfl rfl ?_
    refine wNewO W901 at_34 (ow10 hw) (ow11 hw) (ow12 hw) (by decide) (by decide) rfl fun T910 h912 a913 W911 E914 g915 A916 D917  => ?_
    have f918 : Fld Z h912 a913 "com/example/hasset/hasset/algorithm/Aperture" "clients" "I" (.int (0 : Int32)) := D917 (Or.inr (ow21 hw)) (ty := .int) (by decide)
    have f919 : Fld Z h912 a913 "com/example/hasset/hasset/algorithm/Aperture" "span" "I" (.int (0 : Int32)) := D917 (Or.inr (ow26 hw)) (ty := .int) (by decide)
    have f920 : Fld Z h912 a913 "com/example/hasset/hasset/algorithm/Aperture" "boundaries" "[D" .null := D917 (Or.inr (ow45 hw)) (ty := .array .double) (by decide)
    refine gDup W911 at_37 rfl rfl ?_
    refine gAload W911 at_38 rfl rfl rfl ?_
    refine gIload W911 at_40 rfl rfl ?_
    refine gIload W911 at_42 rfl rfl ?_
    have f922 := f885.keep kp891 nin0
    have f923 := f922.keep kp903 nin0
    have ne921 : r876 ≠ a913 := Nat.ne_of_lt (Nat.lt_of_lt_of_le f923.lt (Nat.le_of_eq g915.symm))
    have f924 := f923.ext E914
    refine wSpecial (y := (⟨"com/example/hasset/hasset/algorithm/Aperture", "<init>", "([DII)V"⟩ : MethodName)) (Wd := 1) (a := a913) (argsL := [(.ref r876), (.int c896), (.int c908)]) (rest := [(.ref a913)]) W911 at_44 rfl (ow13 hw) (ow14 hw) (ow15 hw) (by decide) (Cb.ct (ob_i2 l Z a0 hw hE (a913) (r876) (kr877) (c896) (c908) (n0878) (n1879) h912 W911.old A916 f918 f919 f920 f924 ne921 f897 f909 f881 f882 f883 f884 (Nat.le_trans W901.old.2.1 (Nat.le_of_eq g915.symm))) (ow15 hw) (ow12 hw) hE (by decide) (by decide)) (by simp) rfl (lenOf opd7 rfl) rfl (Nat.le_of_eq rfl) (by decide) (by decide) rfl fun v929 so930 T925 h927 W926 kp928 sp931 q932 => ?_
    obtain ⟨rfl, rfl, f933, f934, f935⟩ := q932
    show Go K _ T925 47 #[.val (.int p0), .val (.int p1), .val (.int p2), .val (.int p3), .val (.ref r876), .val (.int (2 : Int32)), .val (.int c896), .val (.int c908), .unset, .unset, .unset, .unset, .unset, .unset, .unset, .unset, .unset] [(.ref a913)]
    refine gAstore (ls' := #[.val (.int p0), .val (.int p1), .val (.int p2), .val (.int p3), .val (.ref r876), .val (.int (2 : Int32)), .val (.int c896), .val (.int c908), .val (.ref a913), .unset, .unset, .unset, .unset, .unset, .unset, .unset, .unset]) W926 at_47 rfl rfl rfl ?_
    refine gIload W926 at_49 rfl rfl ?_
    refine gI2L (z := c908.toInt64) W926 at_51 rfl rfl ?_
    refine gIload W926 at_52 rfl rfl ?_
    refine gI2L (z := c896.toInt64) W926 at_54 rfl rfl ?_
    refine gLmul (z := (c908.toInt64 * c896.toInt64)) W926 at_55 rfl rfl ?_
    refine gLstore (ls' := #[.val (.int p0), .val (.int p1), .val (.int p2), .val (.int p3), .val (.ref r876), .val (.int (2 : Int32)), .val (.int c896), .val (.int c908), .val (.ref a913), .val (.long (c908.toInt64 * c896.toInt64)), .second, .unset, .unset, .unset, .unset, .unset, .unset]) W926 at_56 rfl rfl ?_
    refine gLload W926 at_58 rfl rfl ?_
    refine gIload W926 at_60 rfl rfl ?_
    refine gI2L (z := (2 : Int64)) W926 at_62 (by decide) rfl ?_
    refine gLdiv (z := ((c908.toInt64 * c896.toInt64) / 2)) W926 at_63 (by decide) rfl rfl ?_
    refine gLstore (ls' := #[.val (.int p0), .val (.int p1), .val (.int p2), .val (.int p3), .val (.ref r876), .val (.int (2 : Int32)), .val (.int c896), .val (.int c908), .val (.ref a913), .val (.long (c908.toInt64 * c896.toInt64)), .second, .val (.long ((c908.toInt64 * c896.toInt64) / 2)), .second, .unset, .unset, .unset, .unset]) W926 at_64 rfl rfl ?_
    refine gLload W926 at_66 rfl rfl ?_
    refine gIload W926 at_68 rfl rfl ?_
    refine gI2L (z := (2 : Int64)) W926 at_70 (by decide) rfl ?_
    refine gLmul (z := (((c908.toInt64 * c896.toInt64) / 2) * 2)) W926 at_71 rfl rfl ?_
    refine gLload W926 at_72 rfl rfl ?_
    refine gLcmp (z := (lcmpW (((c908.toInt64 * c896.toInt64) / 2) * 2) (c908.toInt64 * c896.toInt64))) W926 at_74 rfl rfl ?_
    by_cases hq : ((c908.toInt64 * c896.toInt64) / 2) * 2 = (c908.toInt64 * c896.toInt64)
    · refine gIfYes (pc' := 84) W926 at_75 ((if0 _ _).trans (teq ((lw_eq _ _).mpr hq)).1) (by decide) rfl ?_
      refine gIload W926 at_84 rfl rfl ?_
      refine gI2L (z := c896.toInt64) W926 at_86 rfl rfl ?_
      refine gLload W926 at_87 rfl rfl ?_
      refine wStatic (y := (⟨"java/lang/Math", "min", "(JJ)J"⟩ : MethodName)) (Wd := 0) (argsL := [(.long c896.toInt64), (.long ((c908.toInt64 * c896.toInt64) / 2))]) (rest := []) W926 at_89 (ow46 hw) (ow23 hw) (ow8 hw) (ow24 hw) (by decide) (Cb.ct (ob_mnJ l Z a0 hw hE (c896.toInt64) (((c908.toInt64 * c896.toInt64) / 2)) h927 W926.old  ) (ow24 hw) (ow8 hw) hE (by decide) (by decide)) (by simp) rfl (lenOf opd3 rfl) rfl (Nat.le_of_eq rfl) (by decide) (by decide) rfl fun v940 so941 T936 h938 W937 kp939 sp942 q943 => ?_
      obtain ⟨rfl, rfl⟩ := q943
      show Go K _ T936 92 #[.val (.int p0), .val (.int p1), .val (.int p2), .val (.int p3), .val (.ref r876), .val (.int (2 : Int32)), .val (.int c896), .val (.int c908), .val (.ref a913), .val (.long (c908.toInt64 * c896.toInt64)), .second, .val (.long ((c908.toInt64 * c896.toInt64) / 2)), .second, .unset, .unset, .unset, .unset] [(.long (minL c896.toInt64 ((c908.toInt64 * c896.toInt64) / 2)))]
      refine gLstore (ls' := #[.val (.int p0), .val (.int p1), .val (.int p2), .val (.int p3), .val (.ref r876), .val (.int (2 : Int32)), .val (.int c896), .val (.int c908), .val (.ref a913), .val (.long (c908.toInt64 * c896.toInt64)), .second, .val (.long ((c908.toInt64 * c896.toInt64) / 2)), .second, .val (.long (minL c896.toInt64 ((c908.toInt64 * c896.toInt64) / 2))), .second, .unset, .unset]) W937 at_92 rfl rfl ?_
      refine gLload W937 at_94 rfl rfl ?_
      refine gL2D (z := (FP.l2d (minL c896.toInt64 ((c908.toInt64 * c896.toInt64) / 2)))) W937 at_96 rfl rfl ?_
      refine gIload W937 at_97 rfl rfl ?_
      refine gI2D (z := (FP.i2d c896)) W937 at_99 rfl rfl ?_
      refine gDdiv (z := (FP.ddiv (FP.l2d (minL c896.toInt64 ((c908.toInt64 * c896.toInt64) / 2))) (FP.i2d c896))) W937 at_100 rfl (nn_quoL (ne0 f897)) rfl ?_
      refine gDstore (ls' := #[.val (.int p0), .val (.int p1), .val (.int p2), .val (.int p3), .val (.ref r876), .val (.int (2 : Int32)), .val (.int c896), .val (.int c908), .val (.ref a913), .val (.long (c908.toInt64 * c896.toInt64)), .second, .val (.long ((c908.toInt64 * c896.toInt64) / 2)), .second, .val (.long (minL c896.toInt64 ((c908.toInt64 * c896.toInt64) / 2))), .second, .val (.double (FP.ddiv (FP.l2d (minL c896.toInt64 ((c908.toInt64 * c896.toInt64) / 2))) (FP.i2d c896))), .second]) W937 at_101 rfl rfl ?_
      refine gAload W937 at_103 rfl rfl rfl ?_
      have f944 := f934.keep kp939 nin0
      have f945 := f935.keep kp939 nin0
      have f954 := f933.keep kp939
      refine wVirtual (y := (⟨"com/example/hasset/hasset/algorithm/Aperture", "width", "()D"⟩ : MethodName)) (z := (⟨"com/example/hasset/hasset/algorithm/Aperture", "width", "()D"⟩ : MethodName)) (Wd := 0) (a := a913) (argsL := []) (rest := []) W937 at_105 (ow47 hw) (ow48 hw) (ow50 hw) (ow49 hw) (nfS (ow50 hw)) (by decide) (Cb.ct (ob_wd l Z a0 hw hE (a913) (c896) ((minL c896.toInt64 (((c908.toInt64 * c896.toInt64) + 2 - 1) / 2)).toInt32) h938 W937.old f944 f945 (ne0 f897) ) (ow51 hw) (ow12 hw) hE (by decide) (by decide)) f954 (by simp) rfl (lenOf opd8 rfl) rfl (Nat.le_of_eq rfl) (by decide) (by decide) rfl fun v950 so951 T946 h948 W947 kp949 sp952 q953 => ?_
      obtain ⟨rfl, rfl⟩ := q953
      show Go K _ T946 108 #[.val (.int p0), .val (.int p1), .val (.int p2), .val (.int p3), .val (.ref r876), .val (.int (2 : Int32)), .val (.int c896), .val (.int c908), .val (.ref a913), .val (.long (c908.toInt64 * c896.toInt64)), .second, .val (.long ((c908.toInt64 * c896.toInt64) / 2)), .second, .val (.long (minL c896.toInt64 ((c908.toInt64 * c896.toInt64) / 2))), .second, .val (.double (FP.ddiv (FP.l2d (minL c896.toInt64 ((c908.toInt64 * c896.toInt64) / 2))) (FP.i2d c896))), .second] [(.double (FP.ddiv (FP.i2d (minL c896.toInt64 (((c908.toInt64 * c896.toInt64) + 2 - 1) / 2)).toInt32) (FP.i2d c896)))]
      refine gDload W947 at_108 rfl rfl ?_
      refine gDcmp (z := (0 : Int32)) W947 at_110 (dcmpV_eq (congrArg (fun t => FP.ddiv t (FP.i2d c896)) (spanT (k := 2) (by decide) (by decide) f897 f909 hq)) (nn_quo (ne0 f897)) .l) rfl ?_
      refine gIfNo W947 at_111 ((if0 _ _).trans (teq (by decide)).2) rfl ?_
      refine gIconst (z := (1 : Int32)) W947 at_114 rfl rfl ?_
      refine gGoto (pc' := 119) W947 at_115 (by decide) rfl ?_
      exact wRetI (so := []) (t := .boolean) W947 at_119 (by simp) rfl (by decide) (by decide) (fun _ q => nomatch q) ⟨rfl, rfl⟩
    · refine gIfNo W926 at_75 ((if0 _ _).trans (feq (fun q => hq ((lw_eq _ _).mp q))).1) rfl ?_
      refine gLload W926 at_78 rfl rfl ?_
      refine gLconst (z := (1 : Int64)) W926 at_80 rfl rfl ?_
      refine gLadd (z := (((c908.toInt64 * c896.toInt64) / 2) + 1)) W926 at_81 rfl rfl ?_
      refine gLstore (ls' := #[.val (.int p0), .val (.int p1), .val (.int p2), .val (.int p3), .val (.ref r876), .val (.int (2 : Int32)), .val (.int c896), .val (.int c908), .val (.ref a913), .val (.long (c908.toInt64 * c896.toInt64)), .second, .val (.long (((c908.toInt64 * c896.toInt64) / 2) + 1)), .second, .unset, .unset, .unset, .unset]) W926 at_82 rfl rfl ?_
      refine gIload W926 at_84 rfl rfl ?_
      refine gI2L (z := c896.toInt64) W926 at_86 rfl rfl ?_
      refine gLload W926 at_87 rfl rfl ?_
      refine wStatic (y := (⟨"java/lang/Math", "min", "(JJ)J"⟩ : MethodName)) (Wd := 0) (argsL := [(.long c896.toInt64), (.long (((c908.toInt64 * c896.toInt64) / 2) + 1))]) (rest := []) W926 at_89 (ow46 hw) (ow23 hw) (ow8 hw) (ow24 hw) (by decide) (Cb.ct (ob_mnJ l Z a0 hw hE (c896.toInt64) ((((c908.toInt64 * c896.toInt64) / 2) + 1)) h927 W926.old  ) (ow24 hw) (ow8 hw) hE (by decide) (by decide)) (by simp) rfl (lenOf opd3 rfl) rfl (Nat.le_of_eq rfl) (by decide) (by decide) rfl fun v959 so960 T955 h957 W956 kp958 sp961 q962 => ?_
      obtain ⟨rfl, rfl⟩ := q962
      show Go K _ T955 92 #[.val (.int p0), .val (.int p1), .val (.int p2), .val (.int p3), .val (.ref r876), .val (.int (2 : Int32)), .val (.int c896), .val (.int c908), .val (.ref a913), .val (.long (c908.toInt64 * c896.toInt64)), .second, .val (.long (((c908.toInt64 * c896.toInt64) / 2) + 1)), .second, .unset, .unset, .unset, .unset] [(.long (minL c896.toInt64 (((c908.toInt64 * c896.toInt64) / 2) + 1)))]
      refine gLstore (ls' := #[.val (.int p0), .val (.int p1), .val (.int p2), .val (.int p3), .val (.ref r876), .val (.int (2 : Int32)), .val (.int c896), .val (.int c908), .val (.ref a913), .val (.long (c908.toInt64 * c896.toInt64)), .second, .val (.long (((c908.toInt64 * c896.toInt64) / 2) + 1)), .second, .val (.long (minL c896.toInt64 (((c908.toInt64 * c896.toInt64) / 2) + 1))), .second, .unset, .unset]) W956 at_92 rfl rfl ?_
      refine gLload W956 at_94 rfl rfl ?_
      refine gL2D (z := (FP.l2d (minL c896.toInt64 (((c908.toInt64 * c896.toInt64) / 2) + 1)))) W956 at_96 rfl rfl ?_
      refine gIload W956 at_97 rfl rfl ?_
      refine gI2D (z := (FP.i2d c896)) W956 at_99 rfl rfl ?_
      refine gDdiv (z := (FP.ddiv (FP.l2d (minL c896.toInt64 (((c908.toInt64 * c896.toInt64) / 2) + 1))) (FP.i2d c896))) W956 at_100 rfl (nn_quoL (ne0 f897)) rfl ?_
      refine gDstore (ls' := #[.val (.int p0), .val (.int p1), .val (.int p2), .val (.int p3), .val (.ref r876), .val (.int (2 : Int32)), .val (.int c896), .val (.int c908), .val (.ref a913), .val (.long (c908.toInt64 * c896.toInt64)), .second, .val (.long (((c908.toInt64 * c896.toInt64) / 2) + 1)), .second, .val (.long (minL c896.toInt64 (((c908.toInt64 * c896.toInt64) / 2) + 1))), .second, .val (.double (FP.ddiv (FP.l2d (minL c896.toInt64 (((c908.toInt64 * c896.toInt64) / 2) + 1))) (FP.i2d c896))), .second]) W956 at_101 rfl rfl ?_
      refine gAload W956 at_103 rfl rfl rfl ?_
      have f963 := f934.keep kp958 nin0
      have f964 := f935.keep kp958 nin0
      have f973 := f933.keep kp958
      refine wVirtual (y := (⟨"com/example/hasset/hasset/algorithm/Aperture", "width", "()D"⟩ : MethodName)) (z := (⟨"com/example/hasset/hasset/algorithm/Aperture", "width", "()D"⟩ : MethodName)) (Wd := 0) (a := a913) (argsL := []) (rest := []) W956 at_105 (ow47 hw) (ow48 hw) (ow50 hw) (ow49 hw) (nfS (ow50 hw)) (by decide) (Cb.ct (ob_wd l Z a0 hw hE (a913) (c896) ((minL c896.toInt64 (((c908.toInt64 * c896.toInt64) + 2 - 1) / 2)).toInt32) h957 W956.old f963 f964 (ne0 f897) ) (ow51 hw) (ow12 hw) hE (by decide) (by decide)) f973 (by simp) rfl (lenOf opd8 rfl) rfl (Nat.le_of_eq rfl) (by decide) (by decide) rfl fun v969 so970 T965 h967 W966 kp968 sp971 q972 => ?_
      obtain ⟨rfl, rfl⟩ := q972
      show Go K _ T965 108 #[.val (.int p0), .val (.int p1), .val (.int p2), .val (.int p3), .val (.ref r876), .val (.int (2 : Int32)), .val (.int c896), .val (.int c908), .val (.ref a913), .val (.long (c908.toInt64 * c896.toInt64)), .second, .val (.long (((c908.toInt64 * c896.toInt64) / 2) + 1)), .second, .val (.long (minL c896.toInt64 (((c908.toInt64 * c896.toInt64) / 2) + 1))), .second, .val (.double (FP.ddiv (FP.l2d (minL c896.toInt64 (((c908.toInt64 * c896.toInt64) / 2) + 1))) (FP.i2d c896))), .second] [(.double (FP.ddiv (FP.i2d (minL c896.toInt64 (((c908.toInt64 * c896.toInt64) + 2 - 1) / 2)).toInt32) (FP.i2d c896)))]
      refine gDload W966 at_108 rfl rfl ?_
      refine gDcmp (z := (0 : Int32)) W966 at_110 (dcmpV_eq (congrArg (fun t => FP.ddiv t (FP.i2d c896)) (spanF (k := 2) (by decide) (by decide) f897 f909 hq)) (nn_quo (ne0 f897)) .l) rfl ?_
      refine gIfNo W966 at_111 ((if0 _ _).trans (teq (by decide)).2) rfl ?_
      refine gIconst (z := (1 : Int32)) W966 at_114 rfl rfl ?_
      refine gGoto (pc' := 119) W966 at_115 (by decide) rfl ?_
      exact wRetI (so := []) (t := .boolean) W966 at_119 (by simp) rfl (by decide) (by decide) (fun _ q => nomatch q) ⟨rfl, rfl⟩
  · refine gIloadN W at_0 rfl rfl ?_
    refine gIloadN W at_1 rfl rfl ?_
    refine wStatic (y := (⟨"com/example/hasset/hasset/algorithm/ApertureWidthPinLaw", "weights", "(II)[D"⟩ : MethodName)) (Wd := 0) (argsL := [(.int p0), (.int p1)]) (rest := []) W at_2 (ow0 hw) (ow1 hw) (ow2 hw) (ow3 hw) (by decide) (Cb.ct (ob_w3 l Z a0 hw hE (p0) (p1) h W.old hN ) (ow3 hw) (ow2 hw) hE (by decide) (by decide)) (by simp) rfl (lenOf opd5 rfl) rfl (Nat.le_of_eq rfl) (by decide) (by decide) rfl fun v978 so979 T974 h976 W975 kp977 sp980 q981 => ?_
    obtain ⟨r982, kr983, n0984, n1985, n2986, rfl, rfl, f987, f988, f989, f990, f991, f992, f993, f994⟩ := q981
    show Go K _ T974 5 #[.val (.int p0), .val (.int p1), .val (.int p2), .val (.int p3), .unset, .unset, .unset, .unset, .unset, .unset, .unset, .unset, .unset, .unset, .unset, .unset, .unset] [(.ref r982)]
    refine gAstore (ls' := #[.val (.int p0), .val (.int p1), .val (.int p2), .val (.int p3), .val (.ref r982), .unset, .unset, .unset, .unset, .unset, .unset, .unset, .unset, .unset, .unset, .unset, .unset]) W975 at_5 rfl rfl rfl ?_
    refine gIloadN W975 at_7 rfl rfl ?_
    refine gIconst (z := (3 : Int32)) W975 at_8 rfl rfl ?_
    refine gIand (z := (2 : Int32)) W975 at_9 hN rfl ?_
    refine gIconst (z := (1 : Int32)) W975 at_10 rfl rfl ?_
    refine gIadd (z := (3 : Int32)) W975 at_11 (by decide) rfl ?_
    refine gIstore (ls' := #[.val (.int p0), .val (.int p1), .val (.int p2), .val (.int p3), .val (.ref r982), .val (.int (3 : Int32)), .unset, .unset, .unset, .unset, .unset, .unset, .unset, .unset, .unset, .unset, .unset]) W975 at_12 rfl rfl ?_
    refine gIconst (z := (1 : Int32)) W975 at_14 rfl rfl ?_
    refine gIloadN W975 at_15 rfl rfl ?_
    refine wLdcI (v := (2147483647 : Int32)) W975 at_16 (ow5 hw) rfl ?_
    obtain ⟨v995, e996⟩ : ∃ v : Int32, p2 &&& (2147483647 : Int32) = v := ⟨_, rfl⟩
    refine gIand W975 at_18 e996 rfl ?_
    refine wStatic (y := (⟨"java/lang/Math", "max", "(II)I"⟩ : MethodName)) (Wd := 0) (argsL := [(.int (1 : Int32)), (.int v995)]) (rest := []) W975 at_19 (ow6 hw) (ow7 hw) (ow8 hw) (ow9 hw) (by decide) (Cb.ct (ob_mxI l Z a0 hw hE (v995) h976 W975.old  ) (ow9 hw) (ow8 hw) hE (by decide) (by decide)) (by simp) rfl (lenOf opd6 rfl) rfl (Nat.le_of_eq rfl) (by decide) (by decide) rfl fun v1001 so1002 T997 h999 W998 kp1000 sp1003 q1004 => ?_
    obtain ⟨c1005, rfl, rfl, f1006⟩ := q1004
    show Go K _ T997 22 #[.val (.int p0), .val (.int p1), .val (.int p2), .val (.int p3), .val (.ref r982), .val (.int (3 : Int32)), .unset, .unset, .unset, .unset, .unset, .unset, .unset, .unset, .unset, .unset, .unset] [(.int c1005)]
    refine gIstore (ls' := #[.val (.int p0), .val (.int p1), .val (.int p2), .val (.int p3), .val (.ref r982), .val (.int (3 : Int32)), .val (.int c1005), .unset, .unset, .unset, .unset, .unset, .unset, .unset, .unset, .unset, .unset]) W998 at_22 rfl rfl ?_
    refine gIconst (z := (1 : Int32)) W998 at_24 rfl rfl ?_
    refine gIloadN W998 at_25 rfl rfl ?_
    refine wLdcI (v := (2147483647 : Int32)) W998 at_26 (ow5 hw) rfl ?_
    obtain ⟨v1007, e1008⟩ : ∃ v : Int32, p3 &&& (2147483647 : Int32) = v := ⟨_, rfl⟩
    refine gIand W998 at_28 e1008 rfl ?_
    refine wStatic (y := (⟨"java/lang/Math", "max", "(II)I"⟩ : MethodName)) (Wd := 0) (argsL := [(.int (1 : Int32)), (.int v1007)]) (rest := []) W998 at_29 (ow6 hw) (ow7 hw) (ow8 hw) (ow9 hw) (by decide) (Cb.ct (ob_mxI l Z a0 hw hE (v1007) h999 W998.old  ) (ow9 hw) (ow8 hw) hE (by decide) (by decide)) (by simp) rfl (lenOf opd6 rfl) rfl (Nat.le_of_eq rfl) (by decide) (by decide) rfl fun v1013 so1014 T1009 h1011 W1010 kp1012 sp1015 q1016 => ?_
    obtain ⟨c1017, rfl, rfl, f1018⟩ := q1016
    show Go K _ T1009 32 #[.val (.int p0), .val (.int p1), .val (.int p2), .val (.int p3), .val (.ref r982), .val (.int (3 : Int32)), .val (.int c1005), .unset, .unset, .unset, .unset, .unset, .unset, .unset, .unset, .unset, .unset] [(.int c1017)]
    refine gIstore (ls' := #[.val (.int p0), .val (.int p1), .val (.int p2), .val (.int p3), .val (.ref r982), .val (.int (3 : Int32)), .val (.int c1005), .val (.int c1017), .unset, .unset, .unset, .unset, .unset, .unset, .unset, .unset, .unset]) W1010 at_32 rfl rfl ?_
    refine wNewO W1010 at_34 (ow10 hw) (ow11 hw) (ow12 hw) (by decide) (by decide) rfl fun T1019 h1021 a1022 W1020 E1023 g1024 A1025 D1026  => ?_
    have f1027 : Fld Z h1021 a1022 "com/example/hasset/hasset/algorithm/Aperture" "clients" "I" (.int (0 : Int32)) := D1026 (Or.inr (ow21 hw)) (ty := .int) (by decide)
    have f1028 : Fld Z h1021 a1022 "com/example/hasset/hasset/algorithm/Aperture" "span" "I" (.int (0 : Int32)) := D1026 (Or.inr (ow26 hw)) (ty := .int) (by decide)
    have f1029 : Fld Z h1021 a1022 "com/example/hasset/hasset/algorithm/Aperture" "boundaries" "[D" .null := D1026 (Or.inr (ow45 hw)) (ty := .array .double) (by decide)
    refine gDup W1020 at_37 rfl rfl ?_
    refine gAload W1020 at_38 rfl rfl rfl ?_
    refine gIload W1020 at_40 rfl rfl ?_
    refine gIload W1020 at_42 rfl rfl ?_
    have f1031 := f994.keep kp1000 nin0
    have f1032 := f1031.keep kp1012 nin0
    have ne1030 : r982 ≠ a1022 := Nat.ne_of_lt (Nat.lt_of_lt_of_le f1032.lt (Nat.le_of_eq g1024.symm))
    have f1033 := f1032.ext E1023
    refine wSpecial (y := (⟨"com/example/hasset/hasset/algorithm/Aperture", "<init>", "([DII)V"⟩ : MethodName)) (Wd := 1) (a := a1022) (argsL := [(.ref r982), (.int c1005), (.int c1017)]) (rest := [(.ref a1022)]) W1020 at_44 rfl (ow13 hw) (ow14 hw) (ow15 hw) (by decide) (Cb.ct (ob_i3 l Z a0 hw hE (a1022) (r982) (kr983) (c1005) (c1017) (n0984) (n1985) (n2986) h1021 W1020.old A1025 f1027 f1028 f1029 f1033 ne1030 f1006 f1018 f988 f989 f990 f991 f992 f993 (Nat.le_trans W1010.old.2.1 (Nat.le_of_eq g1024.symm))) (ow15 hw) (ow12 hw) hE (by decide) (by decide)) (by simp) rfl (lenOf opd7 rfl) rfl (Nat.le_of_eq rfl) (by decide) (by decide) rfl fun v1038 so1039 T1034 h1036 W1035 kp1037 sp1040 q1041 => ?_
    obtain ⟨rfl, rfl, f1042, f1043, f1044⟩ := q1041
    show Go K _ T1034 47 #[.val (.int p0), .val (.int p1), .val (.int p2), .val (.int p3), .val (.ref r982), .val (.int (3 : Int32)), .val (.int c1005), .val (.int c1017), .unset, .unset, .unset, .unset, .unset, .unset, .unset, .unset, .unset] [(.ref a1022)]
    refine gAstore (ls' := #[.val (.int p0), .val (.int p1), .val (.int p2), .val (.int p3), .val (.ref r982), .val (.int (3 : Int32)), .val (.int c1005), .val (.int c1017), .val (.ref a1022), .unset, .unset, .unset, .unset, .unset, .unset, .unset, .unset]) W1035 at_47 rfl rfl rfl ?_
    refine gIload W1035 at_49 rfl rfl ?_
    refine gI2L (z := c1017.toInt64) W1035 at_51 rfl rfl ?_
    refine gIload W1035 at_52 rfl rfl ?_
    refine gI2L (z := c1005.toInt64) W1035 at_54 rfl rfl ?_
    refine gLmul (z := (c1017.toInt64 * c1005.toInt64)) W1035 at_55 rfl rfl ?_
    refine gLstore (ls' := #[.val (.int p0), .val (.int p1), .val (.int p2), .val (.int p3), .val (.ref r982), .val (.int (3 : Int32)), .val (.int c1005), .val (.int c1017), .val (.ref a1022), .val (.long (c1017.toInt64 * c1005.toInt64)), .second, .unset, .unset, .unset, .unset, .unset, .unset]) W1035 at_56 rfl rfl ?_
    refine gLload W1035 at_58 rfl rfl ?_
    refine gIload W1035 at_60 rfl rfl ?_
    refine gI2L (z := (3 : Int64)) W1035 at_62 (by decide) rfl ?_
    refine gLdiv (z := ((c1017.toInt64 * c1005.toInt64) / 3)) W1035 at_63 (by decide) rfl rfl ?_
    refine gLstore (ls' := #[.val (.int p0), .val (.int p1), .val (.int p2), .val (.int p3), .val (.ref r982), .val (.int (3 : Int32)), .val (.int c1005), .val (.int c1017), .val (.ref a1022), .val (.long (c1017.toInt64 * c1005.toInt64)), .second, .val (.long ((c1017.toInt64 * c1005.toInt64) / 3)), .second, .unset, .unset, .unset, .unset]) W1035 at_64 rfl rfl ?_
    refine gLload W1035 at_66 rfl rfl ?_
    refine gIload W1035 at_68 rfl rfl ?_
    refine gI2L (z := (3 : Int64)) W1035 at_70 (by decide) rfl ?_
    refine gLmul (z := (((c1017.toInt64 * c1005.toInt64) / 3) * 3)) W1035 at_71 rfl rfl ?_
    refine gLload W1035 at_72 rfl rfl ?_
    refine gLcmp (z := (lcmpW (((c1017.toInt64 * c1005.toInt64) / 3) * 3) (c1017.toInt64 * c1005.toInt64))) W1035 at_74 rfl rfl ?_
    by_cases hq : ((c1017.toInt64 * c1005.toInt64) / 3) * 3 = (c1017.toInt64 * c1005.toInt64)
    · refine gIfYes (pc' := 84) W1035 at_75 ((if0 _ _).trans (teq ((lw_eq _ _).mpr hq)).1) (by decide) rfl ?_
      refine gIload W1035 at_84 rfl rfl ?_
      refine gI2L (z := c1005.toInt64) W1035 at_86 rfl rfl ?_
      refine gLload W1035 at_87 rfl rfl ?_
      refine wStatic (y := (⟨"java/lang/Math", "min", "(JJ)J"⟩ : MethodName)) (Wd := 0) (argsL := [(.long c1005.toInt64), (.long ((c1017.toInt64 * c1005.toInt64) / 3))]) (rest := []) W1035 at_89 (ow46 hw) (ow23 hw) (ow8 hw) (ow24 hw) (by decide) (Cb.ct (ob_mnJ l Z a0 hw hE (c1005.toInt64) (((c1017.toInt64 * c1005.toInt64) / 3)) h1036 W1035.old  ) (ow24 hw) (ow8 hw) hE (by decide) (by decide)) (by simp) rfl (lenOf opd3 rfl) rfl (Nat.le_of_eq rfl) (by decide) (by decide) rfl fun v1049 so1050 T1045 h1047 W1046 kp1048 sp1051 q1052 => ?_
      obtain ⟨rfl, rfl⟩ := q1052
      show Go K _ T1045 92 #[.val (.int p0), .val (.int p1), .val (.int p2), .val (.int p3), .val (.ref r982), .val (.int (3 : Int32)), .val (.int c1005), .val (.int c1017), .val (.ref a1022), .val (.long (c1017.toInt64 * c1005.toInt64)), .second, .val (.long ((c1017.toInt64 * c1005.toInt64) / 3)), .second, .unset, .unset, .unset, .unset] [(.long (minL c1005.toInt64 ((c1017.toInt64 * c1005.toInt64) / 3)))]
      refine gLstore (ls' := #[.val (.int p0), .val (.int p1), .val (.int p2), .val (.int p3), .val (.ref r982), .val (.int (3 : Int32)), .val (.int c1005), .val (.int c1017), .val (.ref a1022), .val (.long (c1017.toInt64 * c1005.toInt64)), .second, .val (.long ((c1017.toInt64 * c1005.toInt64) / 3)), .second, .val (.long (minL c1005.toInt64 ((c1017.toInt64 * c1005.toInt64) / 3))), .second, .unset, .unset]) W1046 at_92 rfl rfl ?_
      refine gLload W1046 at_94 rfl rfl ?_
      refine gL2D (z := (FP.l2d (minL c1005.toInt64 ((c1017.toInt64 * c1005.toInt64) / 3)))) W1046 at_96 rfl rfl ?_
      refine gIload W1046 at_97 rfl rfl ?_
      refine gI2D (z := (FP.i2d c1005)) W1046 at_99 rfl rfl ?_
      refine gDdiv (z := (FP.ddiv (FP.l2d (minL c1005.toInt64 ((c1017.toInt64 * c1005.toInt64) / 3))) (FP.i2d c1005))) W1046 at_100 rfl (nn_quoL (ne0 f1006)) rfl ?_
      refine gDstore (ls' := #[.val (.int p0), .val (.int p1), .val (.int p2), .val (.int p3), .val (.ref r982), .val (.int (3 : Int32)), .val (.int c1005), .val (.int c1017), .val (.ref a1022), .val (.long (c1017.toInt64 * c1005.toInt64)), .second, .val (.long ((c1017.toInt64 * c1005.toInt64) / 3)), .second, .val (.long (minL c1005.toInt64 ((c1017.toInt64 * c1005.toInt64) / 3))), .second, .val (.double (FP.ddiv (FP.l2d (minL c1005.toInt64 ((c1017.toInt64 * c1005.toInt64) / 3))) (FP.i2d c1005))), .second]) W1046 at_101 rfl rfl ?_
      refine gAload W1046 at_103 rfl rfl rfl ?_
      have f1053 := f1043.keep kp1048 nin0
      have f1054 := f1044.keep kp1048 nin0
      have f1063 := f1042.keep kp1048
      refine wVirtual (y := (⟨"com/example/hasset/hasset/algorithm/Aperture", "width", "()D"⟩ : MethodName)) (z := (⟨"com/example/hasset/hasset/algorithm/Aperture", "width", "()D"⟩ : MethodName)) (Wd := 0) (a := a1022) (argsL := []) (rest := []) W1046 at_105 (ow47 hw) (ow48 hw) (ow50 hw) (ow49 hw) (nfS (ow50 hw)) (by decide) (Cb.ct (ob_wd l Z a0 hw hE (a1022) (c1005) ((minL c1005.toInt64 (((c1017.toInt64 * c1005.toInt64) + 3 - 1) / 3)).toInt32) h1047 W1046.old f1053 f1054 (ne0 f1006) ) (ow51 hw) (ow12 hw) hE (by decide) (by decide)) f1063 (by simp) rfl (lenOf opd8 rfl) rfl (Nat.le_of_eq rfl) (by decide) (by decide) rfl fun v1059 so1060 T1055 h1057 W1056 kp1058 sp1061 q1062 => ?_
      obtain ⟨rfl, rfl⟩ := q1062
      show Go K _ T1055 108 #[.val (.int p0), .val (.int p1), .val (.int p2), .val (.int p3), .val (.ref r982), .val (.int (3 : Int32)), .val (.int c1005), .val (.int c1017), .val (.ref a1022), .val (.long (c1017.toInt64 * c1005.toInt64)), .second, .val (.long ((c1017.toInt64 * c1005.toInt64) / 3)), .second, .val (.long (minL c1005.toInt64 ((c1017.toInt64 * c1005.toInt64) / 3))), .second, .val (.double (FP.ddiv (FP.l2d (minL c1005.toInt64 ((c1017.toInt64 * c1005.toInt64) / 3))) (FP.i2d c1005))), .second] [(.double (FP.ddiv (FP.i2d (minL c1005.toInt64 (((c1017.toInt64 * c1005.toInt64) + 3 - 1) / 3)).toInt32) (FP.i2d c1005)))]
      refine gDload W1056 at_108 rfl rfl ?_
      refine gDcmp (z := (0 : Int32)) W1056 at_110 (dcmpV_eq (congrArg (fun t => FP.ddiv t (FP.i2d c1005)) (spanT (k := 3) (by decide) (by decide) f1006 f1018 hq)) (nn_quo (ne0 f1006)) .l) rfl ?_
      refine gIfNo W1056 at_111 ((if0 _ _).trans (teq (by decide)).2) rfl ?_
      refine gIconst (z := (1 : Int32)) W1056 at_114 rfl rfl ?_
      refine gGoto (pc' := 119) W1056 at_115 (by decide) rfl ?_
      exact wRetI (so := []) (t := .boolean) W1056 at_119 (by simp) rfl (by decide) (by decide) (fun _ q => nomatch q) ⟨rfl, rfl⟩
    · refine gIfNo W1035 at_75 ((if0 _ _).trans (feq (fun q => hq ((lw_eq _ _).mp q))).1) rfl ?_
      refine gLload W1035 at_78 rfl rfl ?_
      refine gLconst (z := (1 : Int64)) W1035 at_80 rfl rfl ?_
      refine gLadd (z := (((c1017.toInt64 * c1005.toInt64) / 3) + 1)) W1035 at_81 rfl rfl ?_
      refine gLstore (ls' := #[.val (.int p0), .val (.int p1), .val (.int p2), .val (.int p3), .val (.ref r982), .val (.int (3 : Int32)), .val (.int c1005), .val (.int c1017), .val (.ref a1022), .val (.long (c1017.toInt64 * c1005.toInt64)), .second, .val (.long (((c1017.toInt64 * c1005.toInt64) / 3) + 1)), .second, .unset, .unset, .unset, .unset]) W1035 at_82 rfl rfl ?_
      refine gIload W1035 at_84 rfl rfl ?_
      refine gI2L (z := c1005.toInt64) W1035 at_86 rfl rfl ?_
      refine gLload W1035 at_87 rfl rfl ?_
      refine wStatic (y := (⟨"java/lang/Math", "min", "(JJ)J"⟩ : MethodName)) (Wd := 0) (argsL := [(.long c1005.toInt64), (.long (((c1017.toInt64 * c1005.toInt64) / 3) + 1))]) (rest := []) W1035 at_89 (ow46 hw) (ow23 hw) (ow8 hw) (ow24 hw) (by decide) (Cb.ct (ob_mnJ l Z a0 hw hE (c1005.toInt64) ((((c1017.toInt64 * c1005.toInt64) / 3) + 1)) h1036 W1035.old  ) (ow24 hw) (ow8 hw) hE (by decide) (by decide)) (by simp) rfl (lenOf opd3 rfl) rfl (Nat.le_of_eq rfl) (by decide) (by decide) rfl fun v1068 so1069 T1064 h1066 W1065 kp1067 sp1070 q1071 => ?_
      obtain ⟨rfl, rfl⟩ := q1071
      show Go K _ T1064 92 #[.val (.int p0), .val (.int p1), .val (.int p2), .val (.int p3), .val (.ref r982), .val (.int (3 : Int32)), .val (.int c1005), .val (.int c1017), .val (.ref a1022), .val (.long (c1017.toInt64 * c1005.toInt64)), .second, .val (.long (((c1017.toInt64 * c1005.toInt64) / 3) + 1)), .second, .unset, .unset, .unset, .unset] [(.long (minL c1005.toInt64 (((c1017.toInt64 * c1005.toInt64) / 3) + 1)))]
      refine gLstore (ls' := #[.val (.int p0), .val (.int p1), .val (.int p2), .val (.int p3), .val (.ref r982), .val (.int (3 : Int32)), .val (.int c1005), .val (.int c1017), .val (.ref a1022), .val (.long (c1017.toInt64 * c1005.toInt64)), .second, .val (.long (((c1017.toInt64 * c1005.toInt64) / 3) + 1)), .second, .val (.long (minL c1005.toInt64 (((c1017.toInt64 * c1005.toInt64) / 3) + 1))), .second, .unset, .unset]) W1065 at_92 rfl rfl ?_
      refine gLload W1065 at_94 rfl rfl ?_
      refine gL2D (z := (FP.l2d (minL c1005.toInt64 (((c1017.toInt64 * c1005.toInt64) / 3) + 1)))) W1065 at_96 rfl rfl ?_
      refine gIload W1065 at_97 rfl rfl ?_
      refine gI2D (z := (FP.i2d c1005)) W1065 at_99 rfl rfl ?_
      refine gDdiv (z := (FP.ddiv (FP.l2d (minL c1005.toInt64 (((c1017.toInt64 * c1005.toInt64) / 3) + 1))) (FP.i2d c1005))) W1065 at_100 rfl (nn_quoL (ne0 f1006)) rfl ?_
      refine gDstore (ls' := #[.val (.int p0), .val (.int p1), .val (.int p2), .val (.int p3), .val (.ref r982), .val (.int (3 : Int32)), .val (.int c1005), .val (.int c1017), .val (.ref a1022), .val (.long (c1017.toInt64 * c1005.toInt64)), .second, .val (.long (((c1017.toInt64 * c1005.toInt64) / 3) + 1)), .second, .val (.long (minL c1005.toInt64 (((c1017.toInt64 * c1005.toInt64) / 3) + 1))), .second, .val (.double (FP.ddiv (FP.l2d (minL c1005.toInt64 (((c1017.toInt64 * c1005.toInt64) / 3) + 1))) (FP.i2d c1005))), .second]) W1065 at_101 rfl rfl ?_
      refine gAload W1065 at_103 rfl rfl rfl ?_
      have f1072 := f1043.keep kp1067 nin0
      have f1073 := f1044.keep kp1067 nin0
      have f1082 := f1042.keep kp1067
      refine wVirtual (y := (⟨"com/example/hasset/hasset/algorithm/Aperture", "width", "()D"⟩ : MethodName)) (z := (⟨"com/example/hasset/hasset/algorithm/Aperture", "width", "()D"⟩ : MethodName)) (Wd := 0) (a := a1022) (argsL := []) (rest := []) W1065 at_105 (ow47 hw) (ow48 hw) (ow50 hw) (ow49 hw) (nfS (ow50 hw)) (by decide) (Cb.ct (ob_wd l Z a0 hw hE (a1022) (c1005) ((minL c1005.toInt64 (((c1017.toInt64 * c1005.toInt64) + 3 - 1) / 3)).toInt32) h1066 W1065.old f1072 f1073 (ne0 f1006) ) (ow51 hw) (ow12 hw) hE (by decide) (by decide)) f1082 (by simp) rfl (lenOf opd8 rfl) rfl (Nat.le_of_eq rfl) (by decide) (by decide) rfl fun v1078 so1079 T1074 h1076 W1075 kp1077 sp1080 q1081 => ?_
      obtain ⟨rfl, rfl⟩ := q1081
      show Go K _ T1074 108 #[.val (.int p0), .val (.int p1), .val (.int p2), .val (.int p3), .val (.ref r982), .val (.int (3 : Int32)), .val (.int c1005), .val (.int c1017), .val (.ref a1022), .val (.long (c1017.toInt64 * c1005.toInt64)), .second, .val (.long (((c1017.toInt64 * c1005.toInt64) / 3) + 1)), .second, .val (.long (minL c1005.toInt64 (((c1017.toInt64 * c1005.toInt64) / 3) + 1))), .second, .val (.double (FP.ddiv (FP.l2d (minL c1005.toInt64 (((c1017.toInt64 * c1005.toInt64) / 3) + 1))) (FP.i2d c1005))), .second] [(.double (FP.ddiv (FP.i2d (minL c1005.toInt64 (((c1017.toInt64 * c1005.toInt64) + 3 - 1) / 3)).toInt32) (FP.i2d c1005)))]
      refine gDload W1075 at_108 rfl rfl ?_
      refine gDcmp (z := (0 : Int32)) W1075 at_110 (dcmpV_eq (congrArg (fun t => FP.ddiv t (FP.i2d c1005)) (spanF (k := 3) (by decide) (by decide) f1006 f1018 hq)) (nn_quo (ne0 f1006)) .l) rfl ?_
      refine gIfNo W1075 at_111 ((if0 _ _).trans (teq (by decide)).2) rfl ?_
      refine gIconst (z := (1 : Int32)) W1075 at_114 rfl rfl ?_
      refine gGoto (pc' := 119) W1075 at_115 (by decide) rfl ?_
      exact wRetI (so := []) (t := .boolean) W1075 at_119 (by simp) rfl (by decide) (by decide) (fun _ q => nomatch q) ⟨rfl, rfl⟩
  · refine gIloadN W at_0 rfl rfl ?_
    refine gIloadN W at_1 rfl rfl ?_
    refine wStatic (y := (⟨"com/example/hasset/hasset/algorithm/ApertureWidthPinLaw", "weights", "(II)[D"⟩ : MethodName)) (Wd := 0) (argsL := [(.int p0), (.int p1)]) (rest := []) W at_2 (ow0 hw) (ow1 hw) (ow2 hw) (ow3 hw) (by decide) (Cb.ct (ob_w4 l Z a0 hw hE (p0) (p1) h W.old hN ) (ow3 hw) (ow2 hw) hE (by decide) (by decide)) (by simp) rfl (lenOf opd5 rfl) rfl (Nat.le_of_eq rfl) (by decide) (by decide) rfl fun v1087 so1088 T1083 h1085 W1084 kp1086 sp1089 q1090 => ?_
    obtain ⟨r1091, kr1092, n01093, n11094, n21095, n31096, rfl, rfl, f1097, f1098, f1099, f1100, f1101, f1102, f1103, f1104, f1105, f1106⟩ := q1090
    show Go K _ T1083 5 #[.val (.int p0), .val (.int p1), .val (.int p2), .val (.int p3), .unset, .unset, .unset, .unset, .unset, .unset, .unset, .unset, .unset, .unset, .unset, .unset, .unset] [(.ref r1091)]
    refine gAstore (ls' := #[.val (.int p0), .val (.int p1), .val (.int p2), .val (.int p3), .val (.ref r1091), .unset, .unset, .unset, .unset, .unset, .unset, .unset, .unset, .unset, .unset, .unset, .unset]) W1084 at_5 rfl rfl rfl ?_
    refine gIloadN W1084 at_7 rfl rfl ?_
    refine gIconst (z := (3 : Int32)) W1084 at_8 rfl rfl ?_
    refine gIand (z := (3 : Int32)) W1084 at_9 hN rfl ?_
    refine gIconst (z := (1 : Int32)) W1084 at_10 rfl rfl ?_
    refine gIadd (z := (4 : Int32)) W1084 at_11 (by decide) rfl ?_
    refine gIstore (ls' := #[.val (.int p0), .val (.int p1), .val (.int p2), .val (.int p3), .val (.ref r1091), .val (.int (4 : Int32)), .unset, .unset, .unset, .unset, .unset, .unset, .unset, .unset, .unset, .unset, .unset]) W1084 at_12 rfl rfl ?_
    refine gIconst (z := (1 : Int32)) W1084 at_14 rfl rfl ?_
    refine gIloadN W1084 at_15 rfl rfl ?_
    refine wLdcI (v := (2147483647 : Int32)) W1084 at_16 (ow5 hw) rfl ?_
    obtain ⟨v1107, e1108⟩ : ∃ v : Int32, p2 &&& (2147483647 : Int32) = v := ⟨_, rfl⟩
    refine gIand W1084 at_18 e1108 rfl ?_
    refine wStatic (y := (⟨"java/lang/Math", "max", "(II)I"⟩ : MethodName)) (Wd := 0) (argsL := [(.int (1 : Int32)), (.int v1107)]) (rest := []) W1084 at_19 (ow6 hw) (ow7 hw) (ow8 hw) (ow9 hw) (by decide) (Cb.ct (ob_mxI l Z a0 hw hE (v1107) h1085 W1084.old  ) (ow9 hw) (ow8 hw) hE (by decide) (by decide)) (by simp) rfl (lenOf opd6 rfl) rfl (Nat.le_of_eq rfl) (by decide) (by decide) rfl fun v1113 so1114 T1109 h1111 W1110 kp1112 sp1115 q1116 => ?_
    obtain ⟨c1117, rfl, rfl, f1118⟩ := q1116
    show Go K _ T1109 22 #[.val (.int p0), .val (.int p1), .val (.int p2), .val (.int p3), .val (.ref r1091), .val (.int (4 : Int32)), .unset, .unset, .unset, .unset, .unset, .unset, .unset, .unset, .unset, .unset, .unset] [(.int c1117)]
    refine gIstore (ls' := #[.val (.int p0), .val (.int p1), .val (.int p2), .val (.int p3), .val (.ref r1091), .val (.int (4 : Int32)), .val (.int c1117), .unset, .unset, .unset, .unset, .unset, .unset, .unset, .unset, .unset, .unset]) W1110 at_22 rfl rfl ?_
    refine gIconst (z := (1 : Int32)) W1110 at_24 rfl rfl ?_
    refine gIloadN W1110 at_25 rfl rfl ?_
    refine wLdcI (v := (2147483647 : Int32)) W1110 at_26 (ow5 hw) rfl ?_
    obtain ⟨v1119, e1120⟩ : ∃ v : Int32, p3 &&& (2147483647 : Int32) = v := ⟨_, rfl⟩
    refine gIand W1110 at_28 e1120 rfl ?_
    refine wStatic (y := (⟨"java/lang/Math", "max", "(II)I"⟩ : MethodName)) (Wd := 0) (argsL := [(.int (1 : Int32)), (.int v1119)]) (rest := []) W1110 at_29 (ow6 hw) (ow7 hw) (ow8 hw) (ow9 hw) (by decide) (Cb.ct (ob_mxI l Z a0 hw hE (v1119) h1111 W1110.old  ) (ow9 hw) (ow8 hw) hE (by decide) (by decide)) (by simp) rfl (lenOf opd6 rfl) rfl (Nat.le_of_eq rfl) (by decide) (by decide) rfl fun v1125 so1126 T1121 h1123 W1122 kp1124 sp1127 q1128 => ?_
    obtain ⟨c1129, rfl, rfl, f1130⟩ := q1128
    show Go K _ T1121 32 #[.val (.int p0), .val (.int p1), .val (.int p2), .val (.int p3), .val (.ref r1091), .val (.int (4 : Int32)), .val (.int c1117), .unset, .unset, .unset, .unset, .unset, .unset, .unset, .unset, .unset, .unset] [(.int c1129)]
    refine gIstore (ls' := #[.val (.int p0), .val (.int p1), .val (.int p2), .val (.int p3), .val (.ref r1091), .val (.int (4 : Int32)), .val (.int c1117), .val (.int c1129), .unset, .unset, .unset, .unset, .unset, .unset, .unset, .unset, .unset]) W1122 at_32 rfl rfl ?_
    refine wNewO W1122 at_34 (ow10 hw) (ow11 hw) (ow12 hw) (by decide) (by decide) rfl fun T1131 h1133 a1134 W1132 E1135 g1136 A1137 D1138  => ?_
    have f1139 : Fld Z h1133 a1134 "com/example/hasset/hasset/algorithm/Aperture" "clients" "I" (.int (0 : Int32)) := D1138 (Or.inr (ow21 hw)) (ty := .int) (by decide)
    have f1140 : Fld Z h1133 a1134 "com/example/hasset/hasset/algorithm/Aperture" "span" "I" (.int (0 : Int32)) := D1138 (Or.inr (ow26 hw)) (ty := .int) (by decide)
    have f1141 : Fld Z h1133 a1134 "com/example/hasset/hasset/algorithm/Aperture" "boundaries" "[D" .null := D1138 (Or.inr (ow45 hw)) (ty := .array .double) (by decide)
    refine gDup W1132 at_37 rfl rfl ?_
    refine gAload W1132 at_38 rfl rfl rfl ?_
    refine gIload W1132 at_40 rfl rfl ?_
    refine gIload W1132 at_42 rfl rfl ?_
    have f1143 := f1106.keep kp1112 nin0
    have f1144 := f1143.keep kp1124 nin0
    have ne1142 : r1091 ≠ a1134 := Nat.ne_of_lt (Nat.lt_of_lt_of_le f1144.lt (Nat.le_of_eq g1136.symm))
    have f1145 := f1144.ext E1135
    refine wSpecial (y := (⟨"com/example/hasset/hasset/algorithm/Aperture", "<init>", "([DII)V"⟩ : MethodName)) (Wd := 1) (a := a1134) (argsL := [(.ref r1091), (.int c1117), (.int c1129)]) (rest := [(.ref a1134)]) W1132 at_44 rfl (ow13 hw) (ow14 hw) (ow15 hw) (by decide) (Cb.ct (ob_i4 l Z a0 hw hE (a1134) (r1091) (kr1092) (c1117) (c1129) (n01093) (n11094) (n21095) (n31096) h1133 W1132.old A1137 f1139 f1140 f1141 f1145 ne1142 f1118 f1130 f1098 f1099 f1100 f1101 f1102 f1103 f1104 f1105 (Nat.le_trans W1122.old.2.1 (Nat.le_of_eq g1136.symm))) (ow15 hw) (ow12 hw) hE (by decide) (by decide)) (by simp) rfl (lenOf opd7 rfl) rfl (Nat.le_of_eq rfl) (by decide) (by decide) rfl fun v1150 so1151 T1146 h1148 W1147 kp1149 sp1152 q1153 => ?_
    obtain ⟨rfl, rfl, f1154, f1155, f1156⟩ := q1153
    show Go K _ T1146 47 #[.val (.int p0), .val (.int p1), .val (.int p2), .val (.int p3), .val (.ref r1091), .val (.int (4 : Int32)), .val (.int c1117), .val (.int c1129), .unset, .unset, .unset, .unset, .unset, .unset, .unset, .unset, .unset] [(.ref a1134)]
    refine gAstore (ls' := #[.val (.int p0), .val (.int p1), .val (.int p2), .val (.int p3), .val (.ref r1091), .val (.int (4 : Int32)), .val (.int c1117), .val (.int c1129), .val (.ref a1134), .unset, .unset, .unset, .unset, .unset, .unset, .unset, .unset]) W1147 at_47 rfl rfl rfl ?_
    refine gIload W1147 at_49 rfl rfl ?_
    refine gI2L (z := c1129.toInt64) W1147 at_51 rfl rfl ?_
    refine gIload W1147 at_52 rfl rfl ?_
    refine gI2L (z := c1117.toInt64) W1147 at_54 rfl rfl ?_
    refine gLmul (z := (c1129.toInt64 * c1117.toInt64)) W1147 at_55 rfl rfl ?_
    refine gLstore (ls' := #[.val (.int p0), .val (.int p1), .val (.int p2), .val (.int p3), .val (.ref r1091), .val (.int (4 : Int32)), .val (.int c1117), .val (.int c1129), .val (.ref a1134), .val (.long (c1129.toInt64 * c1117.toInt64)), .second, .unset, .unset, .unset, .unset, .unset, .unset]) W1147 at_56 rfl rfl ?_
    refine gLload W1147 at_58 rfl rfl ?_
    refine gIload W1147 at_60 rfl rfl ?_
    refine gI2L (z := (4 : Int64)) W1147 at_62 (by decide) rfl ?_
    refine gLdiv (z := ((c1129.toInt64 * c1117.toInt64) / 4)) W1147 at_63 (by decide) rfl rfl ?_
    refine gLstore (ls' := #[.val (.int p0), .val (.int p1), .val (.int p2), .val (.int p3), .val (.ref r1091), .val (.int (4 : Int32)), .val (.int c1117), .val (.int c1129), .val (.ref a1134), .val (.long (c1129.toInt64 * c1117.toInt64)), .second, .val (.long ((c1129.toInt64 * c1117.toInt64) / 4)), .second, .unset, .unset, .unset, .unset]) W1147 at_64 rfl rfl ?_
    refine gLload W1147 at_66 rfl rfl ?_
    refine gIload W1147 at_68 rfl rfl ?_
    refine gI2L (z := (4 : Int64)) W1147 at_70 (by decide) rfl ?_
    refine gLmul (z := (((c1129.toInt64 * c1117.toInt64) / 4) * 4)) W1147 at_71 rfl rfl ?_
    refine gLload W1147 at_72 rfl rfl ?_
    refine gLcmp (z := (lcmpW (((c1129.toInt64 * c1117.toInt64) / 4) * 4) (c1129.toInt64 * c1117.toInt64))) W1147 at_74 rfl rfl ?_
    by_cases hq : ((c1129.toInt64 * c1117.toInt64) / 4) * 4 = (c1129.toInt64 * c1117.toInt64)
    · refine gIfYes (pc' := 84) W1147 at_75 ((if0 _ _).trans (teq ((lw_eq _ _).mpr hq)).1) (by decide) rfl ?_
      refine gIload W1147 at_84 rfl rfl ?_
      refine gI2L (z := c1117.toInt64) W1147 at_86 rfl rfl ?_
      refine gLload W1147 at_87 rfl rfl ?_
      refine wStatic (y := (⟨"java/lang/Math", "min", "(JJ)J"⟩ : MethodName)) (Wd := 0) (argsL := [(.long c1117.toInt64), (.long ((c1129.toInt64 * c1117.toInt64) / 4))]) (rest := []) W1147 at_89 (ow46 hw) (ow23 hw) (ow8 hw) (ow24 hw) (by decide) (Cb.ct (ob_mnJ l Z a0 hw hE (c1117.toInt64) (((c1129.toInt64 * c1117.toInt64) / 4)) h1148 W1147.old  ) (ow24 hw) (ow8 hw) hE (by decide) (by decide)) (by simp) rfl (lenOf opd3 rfl) rfl (Nat.le_of_eq rfl) (by decide) (by decide) rfl fun v1161 so1162 T1157 h1159 W1158 kp1160 sp1163 q1164 => ?_
      obtain ⟨rfl, rfl⟩ := q1164
      show Go K _ T1157 92 #[.val (.int p0), .val (.int p1), .val (.int p2), .val (.int p3), .val (.ref r1091), .val (.int (4 : Int32)), .val (.int c1117), .val (.int c1129), .val (.ref a1134), .val (.long (c1129.toInt64 * c1117.toInt64)), .second, .val (.long ((c1129.toInt64 * c1117.toInt64) / 4)), .second, .unset, .unset, .unset, .unset] [(.long (minL c1117.toInt64 ((c1129.toInt64 * c1117.toInt64) / 4)))]
      refine gLstore (ls' := #[.val (.int p0), .val (.int p1), .val (.int p2), .val (.int p3), .val (.ref r1091), .val (.int (4 : Int32)), .val (.int c1117), .val (.int c1129), .val (.ref a1134), .val (.long (c1129.toInt64 * c1117.toInt64)), .second, .val (.long ((c1129.toInt64 * c1117.toInt64) / 4)), .second, .val (.long (minL c1117.toInt64 ((c1129.toInt64 * c1117.toInt64) / 4))), .second, .unset, .unset]) W1158 at_92 rfl rfl ?_
      refine gLload W1158 at_94 rfl rfl ?_
      refine gL2D (z := (FP.l2d (minL c1117.toInt64 ((c1129.toInt64 * c1117.toInt64) / 4)))) W1158 at_96 rfl rfl ?_
      refine gIload W1158 at_97 rfl rfl ?_
      refine gI2D (z := (FP.i2d c1117)) W1158 at_99 rfl rfl ?_
      refine gDdiv (z := (FP.ddiv (FP.l2d (minL c1117.toInt64 ((c1129.toInt64 * c1117.toInt64) / 4))) (FP.i2d c1117))) W1158 at_100 rfl (nn_quoL (ne0 f1118)) rfl ?_
      refine gDstore (ls' := #[.val (.int p0), .val (.int p1), .val (.int p2), .val (.int p3), .val (.ref r1091), .val (.int (4 : Int32)), .val (.int c1117), .val (.int c1129), .val (.ref a1134), .val (.long (c1129.toInt64 * c1117.toInt64)), .second, .val (.long ((c1129.toInt64 * c1117.toInt64) / 4)), .second, .val (.long (minL c1117.toInt64 ((c1129.toInt64 * c1117.toInt64) / 4))), .second, .val (.double (FP.ddiv (FP.l2d (minL c1117.toInt64 ((c1129.toInt64 * c1117.toInt64) / 4))) (FP.i2d c1117))), .second]) W1158 at_101 rfl rfl ?_
      refine gAload W1158 at_103 rfl rfl rfl ?_
      have f1165 := f1155.keep kp1160 nin0
      have f1166 := f1156.keep kp1160 nin0
      have f1175 := f1154.keep kp1160
      refine wVirtual (y := (⟨"com/example/hasset/hasset/algorithm/Aperture", "width", "()D"⟩ : MethodName)) (z := (⟨"com/example/hasset/hasset/algorithm/Aperture", "width", "()D"⟩ : MethodName)) (Wd := 0) (a := a1134) (argsL := []) (rest := []) W1158 at_105 (ow47 hw) (ow48 hw) (ow50 hw) (ow49 hw) (nfS (ow50 hw)) (by decide) (Cb.ct (ob_wd l Z a0 hw hE (a1134) (c1117) ((minL c1117.toInt64 (((c1129.toInt64 * c1117.toInt64) + 4 - 1) / 4)).toInt32) h1159 W1158.old f1165 f1166 (ne0 f1118) ) (ow51 hw) (ow12 hw) hE (by decide) (by decide)) f1175 (by simp) rfl (lenOf opd8 rfl) rfl (Nat.le_of_eq rfl) (by decide) (by decide) rfl fun v1171 so1172 T1167 h1169 W1168 kp1170 sp1173 q1174 => ?_
      obtain ⟨rfl, rfl⟩ := q1174
      show Go K _ T1167 108 #[.val (.int p0), .val (.int p1), .val (.int p2), .val (.int p3), .val (.ref r1091), .val (.int (4 : Int32)), .val (.int c1117), .val (.int c1129), .val (.ref a1134), .val (.long (c1129.toInt64 * c1117.toInt64)), .second, .val (.long ((c1129.toInt64 * c1117.toInt64) / 4)), .second, .val (.long (minL c1117.toInt64 ((c1129.toInt64 * c1117.toInt64) / 4))), .second, .val (.double (FP.ddiv (FP.l2d (minL c1117.toInt64 ((c1129.toInt64 * c1117.toInt64) / 4))) (FP.i2d c1117))), .second] [(.double (FP.ddiv (FP.i2d (minL c1117.toInt64 (((c1129.toInt64 * c1117.toInt64) + 4 - 1) / 4)).toInt32) (FP.i2d c1117)))]
      refine gDload W1168 at_108 rfl rfl ?_
      refine gDcmp (z := (0 : Int32)) W1168 at_110 (dcmpV_eq (congrArg (fun t => FP.ddiv t (FP.i2d c1117)) (spanT (k := 4) (by decide) (by decide) f1118 f1130 hq)) (nn_quo (ne0 f1118)) .l) rfl ?_
      refine gIfNo W1168 at_111 ((if0 _ _).trans (teq (by decide)).2) rfl ?_
      refine gIconst (z := (1 : Int32)) W1168 at_114 rfl rfl ?_
      refine gGoto (pc' := 119) W1168 at_115 (by decide) rfl ?_
      exact wRetI (so := []) (t := .boolean) W1168 at_119 (by simp) rfl (by decide) (by decide) (fun _ q => nomatch q) ⟨rfl, rfl⟩
    · refine gIfNo W1147 at_75 ((if0 _ _).trans (feq (fun q => hq ((lw_eq _ _).mp q))).1) rfl ?_
      refine gLload W1147 at_78 rfl rfl ?_
      refine gLconst (z := (1 : Int64)) W1147 at_80 rfl rfl ?_
      refine gLadd (z := (((c1129.toInt64 * c1117.toInt64) / 4) + 1)) W1147 at_81 rfl rfl ?_
      refine gLstore (ls' := #[.val (.int p0), .val (.int p1), .val (.int p2), .val (.int p3), .val (.ref r1091), .val (.int (4 : Int32)), .val (.int c1117), .val (.int c1129), .val (.ref a1134), .val (.long (c1129.toInt64 * c1117.toInt64)), .second, .val (.long (((c1129.toInt64 * c1117.toInt64) / 4) + 1)), .second, .unset, .unset, .unset, .unset]) W1147 at_82 rfl rfl ?_
      refine gIload W1147 at_84 rfl rfl ?_
      refine gI2L (z := c1117.toInt64) W1147 at_86 rfl rfl ?_
      refine gLload W1147 at_87 rfl rfl ?_
      refine wStatic (y := (⟨"java/lang/Math", "min", "(JJ)J"⟩ : MethodName)) (Wd := 0) (argsL := [(.long c1117.toInt64), (.long (((c1129.toInt64 * c1117.toInt64) / 4) + 1))]) (rest := []) W1147 at_89 (ow46 hw) (ow23 hw) (ow8 hw) (ow24 hw) (by decide) (Cb.ct (ob_mnJ l Z a0 hw hE (c1117.toInt64) ((((c1129.toInt64 * c1117.toInt64) / 4) + 1)) h1148 W1147.old  ) (ow24 hw) (ow8 hw) hE (by decide) (by decide)) (by simp) rfl (lenOf opd3 rfl) rfl (Nat.le_of_eq rfl) (by decide) (by decide) rfl fun v1180 so1181 T1176 h1178 W1177 kp1179 sp1182 q1183 => ?_
      obtain ⟨rfl, rfl⟩ := q1183
      show Go K _ T1176 92 #[.val (.int p0), .val (.int p1), .val (.int p2), .val (.int p3), .val (.ref r1091), .val (.int (4 : Int32)), .val (.int c1117), .val (.int c1129), .val (.ref a1134), .val (.long (c1129.toInt64 * c1117.toInt64)), .second, .val (.long (((c1129.toInt64 * c1117.toInt64) / 4) + 1)), .second, .unset, .unset, .unset, .unset] [(.long (minL c1117.toInt64 (((c1129.toInt64 * c1117.toInt64) / 4) + 1)))]
      refine gLstore (ls' := #[.val (.int p0), .val (.int p1), .val (.int p2), .val (.int p3), .val (.ref r1091), .val (.int (4 : Int32)), .val (.int c1117), .val (.int c1129), .val (.ref a1134), .val (.long (c1129.toInt64 * c1117.toInt64)), .second, .val (.long (((c1129.toInt64 * c1117.toInt64) / 4) + 1)), .second, .val (.long (minL c1117.toInt64 (((c1129.toInt64 * c1117.toInt64) / 4) + 1))), .second, .unset, .unset]) W1177 at_92 rfl rfl ?_
      refine gLload W1177 at_94 rfl rfl ?_
      refine gL2D (z := (FP.l2d (minL c1117.toInt64 (((c1129.toInt64 * c1117.toInt64) / 4) + 1)))) W1177 at_96 rfl rfl ?_
      refine gIload W1177 at_97 rfl rfl ?_
      refine gI2D (z := (FP.i2d c1117)) W1177 at_99 rfl rfl ?_
      refine gDdiv (z := (FP.ddiv (FP.l2d (minL c1117.toInt64 (((c1129.toInt64 * c1117.toInt64) / 4) + 1))) (FP.i2d c1117))) W1177 at_100 rfl (nn_quoL (ne0 f1118)) rfl ?_
      refine gDstore (ls' := #[.val (.int p0), .val (.int p1), .val (.int p2), .val (.int p3), .val (.ref r1091), .val (.int (4 : Int32)), .val (.int c1117), .val (.int c1129), .val (.ref a1134), .val (.long (c1129.toInt64 * c1117.toInt64)), .second, .val (.long (((c1129.toInt64 * c1117.toInt64) / 4) + 1)), .second, .val (.long (minL c1117.toInt64 (((c1129.toInt64 * c1117.toInt64) / 4) + 1))), .second, .val (.double (FP.ddiv (FP.l2d (minL c1117.toInt64 (((c1129.toInt64 * c1117.toInt64) / 4) + 1))) (FP.i2d c1117))), .second]) W1177 at_101 rfl rfl ?_
      refine gAload W1177 at_103 rfl rfl rfl ?_
      have f1184 := f1155.keep kp1179 nin0
      have f1185 := f1156.keep kp1179 nin0
      have f1194 := f1154.keep kp1179
      refine wVirtual (y := (⟨"com/example/hasset/hasset/algorithm/Aperture", "width", "()D"⟩ : MethodName)) (z := (⟨"com/example/hasset/hasset/algorithm/Aperture", "width", "()D"⟩ : MethodName)) (Wd := 0) (a := a1134) (argsL := []) (rest := []) W1177 at_105 (ow47 hw) (ow48 hw) (ow50 hw) (ow49 hw) (nfS (ow50 hw)) (by decide) (Cb.ct (ob_wd l Z a0 hw hE (a1134) (c1117) ((minL c1117.toInt64 (((c1129.toInt64 * c1117.toInt64) + 4 - 1) / 4)).toInt32) h1178 W1177.old f1184 f1185 (ne0 f1118) ) (ow51 hw) (ow12 hw) hE (by decide) (by decide)) f1194 (by simp) rfl (lenOf opd8 rfl) rfl (Nat.le_of_eq rfl) (by decide) (by decide) rfl fun v1190 so1191 T1186 h1188 W1187 kp1189 sp1192 q1193 => ?_
      obtain ⟨rfl, rfl⟩ := q1193
      show Go K _ T1186 108 #[.val (.int p0), .val (.int p1), .val (.int p2), .val (.int p3), .val (.ref r1091), .val (.int (4 : Int32)), .val (.int c1117), .val (.int c1129), .val (.ref a1134), .val (.long (c1129.toInt64 * c1117.toInt64)), .second, .val (.long (((c1129.toInt64 * c1117.toInt64) / 4) + 1)), .second, .val (.long (minL c1117.toInt64 (((c1129.toInt64 * c1117.toInt64) / 4) + 1))), .second, .val (.double (FP.ddiv (FP.l2d (minL c1117.toInt64 (((c1129.toInt64 * c1117.toInt64) / 4) + 1))) (FP.i2d c1117))), .second] [(.double (FP.ddiv (FP.i2d (minL c1117.toInt64 (((c1129.toInt64 * c1117.toInt64) + 4 - 1) / 4)).toInt32) (FP.i2d c1117)))]
      refine gDload W1187 at_108 rfl rfl ?_
      refine gDcmp (z := (0 : Int32)) W1187 at_110 (dcmpV_eq (congrArg (fun t => FP.ddiv t (FP.i2d c1117)) (spanF (k := 4) (by decide) (by decide) f1118 f1130 hq)) (nn_quo (ne0 f1118)) .l) rfl ?_
      refine gIfNo W1187 at_111 ((if0 _ _).trans (teq (by decide)).2) rfl ?_
      refine gIconst (z := (1 : Int32)) W1187 at_114 rfl rfl ?_
      refine gGoto (pc' := 119) W1187 at_115 (by decide) rfl ?_
      exact wRetI (so := []) (t := .boolean) W1187 at_119 (by simp) rfl (by decide) (by decide) (fun _ q => nomatch q) ⟨rfl, rfl⟩
set_option maxRecDepth 65536 in
set_option maxHeartbeats 40000000 in
theorem comes_1 {Post : Tables → Env → Array Value → State → Outcome → State → Prop} (hpost : ∀ tb e args s v u, (limb_1_1.after args s (.returned v) u = true ∧ limb_1_2.after args s (.returned v) u = true ∧ True) → Framed s (.returned v) u (Jvm.fieldLocs frame_1_writes args s ++ Jvm.arrayLocs frame_1_arrays args s ++ Jvm.staticLocs frame_1_statics s) 16 128 → Post tb e args s (.returned v) u) :
    ArmFor flags0 classFile x code maxLocals ret World_1 tables_1 room_1 Calls_1 rest_1 Pre_1 Post := by
  intro l hfl _ _ p e ha hc hk s m args below hf hA hF happ hP
  obtain ⟨hcalls, hrest, hpre⟩ := hP
  obtain ⟨-, -, -, hnamed, -, -, -, hat⟩ := (Spec.applies_iff hf).mp happ
  obtain ⟨hg, hn⟩ := and_e (Cond.before_iff.mp (show (Jvm.Cond.and given_1 narrow_1).before args s = true from hpre))
  obtain ⟨hcount, hg0⟩ := and_e hg
  obtain ⟨hi0, hg1⟩ := and_e hg0
  obtain ⟨hi1, hg2⟩ := and_e hg1
  obtain ⟨hi2, hg3⟩ := and_e hg2
  have hi3 := hg3
  obtain ⟨w0, w1, w2, w3, rfl⟩ : ∃ w0 w1 w2 w3 : Value, args = #[w0, w1, w2, w3] := by
    have hs : args.size = 4 := by simpa [Cond.value, given_1] using hcount
    obtain ⟨L⟩ := args
    match L, hs with
    | [w0, w1, w2, w3], _ => exact ⟨w0, w1, w2, w3, rfl⟩
  have hw := fun d (hd : d ∈ tables_1) => atoms_spec (ws := Jvm.Cond.code x code maxLocals ret :: tables_1) hat d (List.mem_cons_of_mem _ hd)
  obtain ⟨i0, ei0⟩ := is_v hi0
  obtain rfl : w0 = (.int i0) := Option.some.inj ei0
  obtain ⟨i1, ei1⟩ := is_v hi1
  obtain rfl : w1 = (.int i1) := Option.some.inj ei1
  obtain ⟨i2, ei2⟩ := is_v hi2
  obtain rfl : w2 = (.int i2) := Option.some.inj ei2
  obtain ⟨i3, ei3⟩ := is_v hi3
  obtain rfl : w3 = (.int i3) := Option.some.inj ei3
  have hE : EW s #[(.int i0), (.int i1), (.int i2), (.int i3)] ([] : List (String × Nat)) := EW.nil
  have hCH : CHv s ([] : List (String × Nat)) s.vm s.heap := fun _ q => nomatch q
  obtain ⟨n, o, h1, h2, h3, v, L, so, rfl, hQ, -, hL, -, hq⟩ := ob_law l s _ hw hE i0 i1 i2 i3  s.heap (Old.start s)  tables_1 p e ha hc hk s m _ below hf ((Spec.applies_iff_loose hf).mp happ).1 ⟨rfl, State.Warmed39.refl s, rfl, hCH, fun _ q => nomatch q⟩ trivial
  obtain ⟨rfl, -⟩ := hQ
  refine ⟨n, _, h1, h2, h3, hpost _ _ _ _ _ _ ⟨Cond.after_iff.mpr rfl, Cond.after_iff.mpr (eq_i res_at (Term.int_eval (1)) rfl), trivial⟩ ⟨hq.1.1, hq.2, (hq.1.2.2.2.sift fun y hy => Or.inr ?_).mono (by decide) (by decide)⟩⟩
  rcases hL y hy with z | z
  · cases z
  · exact z
theorem main_1_1 : Claimed_1_1 := comes_1 fun _ _ _ _ _ _ h hF => ⟨h.1, hF⟩
theorem main_1_2 : Claimed_1_2 := comes_1 fun _ _ _ _ _ _ h hF => ⟨h.2.1, hF⟩
end Jvm.Pilot.@@N@@
namespace Jvm.Pilot.@@N@@
open Jvm Jvm.ClassFile Sem Op Lib Jvm.Free Jvm.Stand Jvm.Pilot.@@N@@.Jvm.D
/-! MADE BY PROGRAM (witnessworld.py) out of the Statement's table words and the real class files: 17 classes; the members and pool entries that the words name. The judged class is class 1, her method 2. -/
namespace start1
open Jvm.ClassFile
def u (s : String) : CpInfo := .utf8 (stringToUtf16 s)
/-- a pool by its gaps: so many unusable entries, then the entry; so many at the end -/
def gap : Nat → List CpInfo → List CpInfo
  | 0, r => r
  | n + 1, r => .unusable :: gap n r
def poolList (es : List (Nat × CpInfo)) (last : Nat) : List CpInfo := es.foldr (fun e r => gap e.1 (e.2 :: r)) (gap last [])
def pool (es : List (Nat × CpInfo)) (last : Nat) : Array CpInfo := ⟨poolList es last⟩
def fileOf (pool : Array CpInfo) (this : Nat) (attrs : Array Attribute := #[]) (ms : Array MethodInfo := #[]) (fl : Nat := 33) (sup : Nat := 0) (ifs : Array Nat := #[]) (fds : Array FieldInfo := #[]) : ClassFile where
  minorVersion := 0
  majorVersion := 65
  constantPool := pool
  accessFlags := fl
  thisClass := this
  superClass := sup
  interfaces := ifs
  fields := fds
  methods := ms
  attributes := attrs
def plain (name : String) (sup : Option ClassId) : Class where
  name := name
  kind := .ordinary
  loader := none
  accessFlags := 33
  super := sup
  interfaces := #[]
  cf := none
  fields := #[]
  methods := #[]
  instanceTypes := #[]
  staticTypes := #[]
  resolved := #[]
  callSites := []
  init := .initialized
  statics := none
  mirror := none

def pool0 : Array CpInfo := pool [(5, u "<init>"), (0, u "()V"), (1, .class_ 10), (1, u "java/lang/Object")] 113

def k0c0 : Code := { maxStack := 0, maxLocals := 1, code := object_method_1_code, exceptionTable := #[], attributes := #[] }
def k0m0 : Method := { name := "<init>", desc := "()V", sig := { parameters := [], returnType := none }, accessFlags := 1, code := some k0c0 }
/-- java/lang/Object -/
def k0 : Class := { plain "java/lang/Object" none with
  accessFlags := 33
  interfaces := #[]
  cf := some (fileOf pool0 8 #[] #[{ accessFlags := 1, nameIndex := 5, descriptorIndex := 6, attributes := #[] }] 33 0 #[] #[])
  fields := #[]
  methods := #[k0m0]
  instanceTypes := #[]
  staticTypes := #[]
  resolved := Array.replicate 124 none
  statics := none }

def pool1 : Array CpInfo := pool [(2, .class_ 4), (1, u "java/lang/Object"), (0, u "<init>"), (0, u "()V"), (0, .methodref 8 9), (0, .class_ 10), (0, .nameAndType 11 12), (0, u "com/example/hasset/hasset/algorithm/ApertureWidthPinLaw"), (0, u "weights"), (0, u "(II)[D"), (0, .integer 2147483647), (0, .methodref 15 16), (0, .class_ 17), (0, .nameAndType 18 19), (0, u "java/lang/Math"), (0, u "max"), (0, u "(II)I"), (0, .class_ 21), (0, u "com/example/hasset/hasset/algorithm/Aperture"), (0, .methodref 20 23), (0, .nameAndType 5 24), (0, u "([DII)V"), (0, .methodref 15 26), (0, .nameAndType 27 28), (0, u "min"), (0, u "(JJ)J"), (0, .methodref 20 30), (0, .nameAndType 31 32), (0, u "width"), (0, u "()D"), (3, u "law"), (0, u "(IIII)Z")] 4

def k1m0 : Method := { name := "<init>", desc := "()V", sig := { parameters := [], returnType := none }, accessFlags := 1, code := none }
def k1c1 : Code := { maxStack := 5, maxLocals := 11, code := method_2_code, exceptionTable := #[], attributes := #[] }
def k1m1 : Method := { name := "weights", desc := "(II)[D", sig := { parameters := [.int, .int], returnType := some (.array .double) }, accessFlags := 10, code := some k1c1 }
def k1c2 : Code := { maxStack := 5, maxLocals := 17, code := code, exceptionTable := #[], attributes := #[] }
def k1m2 : Method := { name := "law", desc := "(IIII)Z", sig := { parameters := [.int, .int, .int, .int], returnType := some .boolean }, accessFlags := 9, code := some k1c2 }
/-- com/example/hasset/hasset/algorithm/ApertureWidthPinLaw -/
def k1 : Class := { plain "com/example/hasset/hasset/algorithm/ApertureWidthPinLaw" (some 0) with
  accessFlags := 49
  interfaces := #[]
  cf := some (fileOf pool1 8 #[] #[{ accessFlags := 1, nameIndex := 5, descriptorIndex := 6, attributes := #[] }, { accessFlags := 10, nameIndex := 11, descriptorIndex := 12, attributes := #[] }, { accessFlags := 9, nameIndex := 36, descriptorIndex := 37, attributes := #[] }] 49 2 #[] #[])
  fields := #[]
  methods := #[k1m0, k1m1, k1m2]
  instanceTypes := #[]
  staticTypes := #[]
  resolved := Array.replicate 42 none
  statics := none }

def pool2 : Array CpInfo := pool [(1, .class_ 2), (0, u "java/lang/Math"), (1, .class_ 6), (1, u "java/lang/Object"), (0, u "<init>"), (0, u "()V"), (5, u "(D)D"), (37, u "(DD)D"), (45, .class_ 100), (1, u "java/lang/Math$RandomNumberGeneratorHolder"), (20, u "(JJ)J"), (2, u "abs"), (47, u "negativeZeroFloatBits"), (0, u "J"), (2, u "negativeZeroDoubleBits"), (21, u "max"), (2, u "min"), (43, u "$assertionsDisabled"), (0, u "Z"), (88, u "(II)I"), (2, u "twoToTheDoubleScaleDown"), (0, u "D"), (4, u "twoToTheDoubleScaleUp"), (9, u "E"), (3, u "PI"), (2, u "TAU"), (2, u "DEGREES_TO_RADIANS"), (0, u "RADIANS_TO_DEGREES")] 94

def k2m0 : Method := { name := "<init>", desc := "()V", sig := { parameters := [], returnType := none }, accessFlags := 2, code := none }
def k2c1 : Code := { maxStack := 4, maxLocals := 2, code := jdk_29_method_64_code, exceptionTable := #[], attributes := #[] }
def k2m1 : Method := { name := "abs", desc := "(D)D", sig := { parameters := [.double], returnType := some .double }, accessFlags := 9, code := some k2c1 }
def k2c2 : Code := { maxStack := 2, maxLocals := 2, code := jdk_29_method_65_code, exceptionTable := #[], attributes := #[] }
def k2m2 : Method := { name := "max", desc := "(II)I", sig := { parameters := [.int, .int], returnType := some .int }, accessFlags := 9, code := some k2c2 }
def k2c3 : Code := { maxStack := 4, maxLocals := 4, code := jdk_29_method_68_code, exceptionTable := #[], attributes := #[] }
def k2m3 : Method := { name := "max", desc := "(DD)D", sig := { parameters := [.double, .double], returnType := some .double }, accessFlags := 9, code := some k2c3 }
def k2c4 : Code := { maxStack := 4, maxLocals := 4, code := jdk_29_method_70_code, exceptionTable := #[], attributes := #[] }
def k2m4 : Method := { name := "min", desc := "(JJ)J", sig := { parameters := [.long, .long], returnType := some .long }, accessFlags := 9, code := some k2c4 }
def k2c5 : Code := { maxStack := 4, maxLocals := 4, code := jdk_29_method_72_code, exceptionTable := #[], attributes := #[] }
def k2m5 : Method := { name := "min", desc := "(DD)D", sig := { parameters := [.double, .double], returnType := some .double }, accessFlags := 9, code := some k2c5 }
/-- java/lang/Math -/
def k2 : Class := { plain "java/lang/Math" (some 0) with
  accessFlags := 49
  interfaces := #[]
  cf := some (fileOf pool2 1 #[.nestMembers #[98]] #[{ accessFlags := 2, nameIndex := 7, descriptorIndex := 8, attributes := #[] }, { accessFlags := 9, nameIndex := 124, descriptorIndex := 14, attributes := #[] }, { accessFlags := 9, nameIndex := 198, descriptorIndex := 335, attributes := #[] }, { accessFlags := 9, nameIndex := 198, descriptorIndex := 52, attributes := #[] }, { accessFlags := 9, nameIndex := 201, descriptorIndex := 121, attributes := #[] }, { accessFlags := 9, nameIndex := 201, descriptorIndex := 52, attributes := #[] }] 49 4 #[] #[{ accessFlags := 25, nameIndex := 354, descriptorIndex := 339, attributes := #[] }, { accessFlags := 25, nameIndex := 358, descriptorIndex := 339, attributes := #[] }, { accessFlags := 25, nameIndex := 361, descriptorIndex := 339, attributes := #[] }, { accessFlags := 26, nameIndex := 364, descriptorIndex := 339, attributes := #[] }, { accessFlags := 26, nameIndex := 365, descriptorIndex := 339, attributes := #[] }, { accessFlags := 26, nameIndex := 172, descriptorIndex := 173, attributes := #[] }, { accessFlags := 26, nameIndex := 176, descriptorIndex := 173, attributes := #[] }, { accessFlags := 8, nameIndex := 344, descriptorIndex := 339, attributes := #[] }, { accessFlags := 8, nameIndex := 338, descriptorIndex := 339, attributes := #[] }, { accessFlags := 4120, nameIndex := 245, descriptorIndex := 246, attributes := #[] }])
  fields := #[{ name := "E", type := .double, accessFlags := 25, slot := 0, constantValue := 0 }, { name := "PI", type := .double, accessFlags := 25, slot := 1, constantValue := 0 }, { name := "TAU", type := .double, accessFlags := 25, slot := 2, constantValue := 0 }, { name := "DEGREES_TO_RADIANS", type := .double, accessFlags := 26, slot := 3, constantValue := 0 }, { name := "RADIANS_TO_DEGREES", type := .double, accessFlags := 26, slot := 4, constantValue := 0 }, { name := "negativeZeroFloatBits", type := .long, accessFlags := 26, slot := 5, constantValue := 0 }, { name := "negativeZeroDoubleBits", type := .long, accessFlags := 26, slot := 6, constantValue := 0 }, { name := "twoToTheDoubleScaleUp", type := .double, accessFlags := 8, slot := 7, constantValue := 0 }, { name := "twoToTheDoubleScaleDown", type := .double, accessFlags := 8, slot := 8, constantValue := 0 }, { name := "$assertionsDisabled", type := .boolean, accessFlags := 4120, slot := 9, constantValue := 0 }]
  methods := #[k2m0, k2m1, k2m2, k2m3, k2m4, k2m5]
  instanceTypes := #[]
  staticTypes := #[.double, .double, .double, .double, .double, .long, .long, .double, .double, .boolean]
  resolved := Array.replicate 460 none
  statics := none }

def pool3 : Array CpInfo := pool [(1, .methodref 2 3), (0, .class_ 4), (0, .nameAndType 5 6), (0, u "java/lang/Object"), (0, u "<init>"), (0, u "()V"), (7, .class_ 15), (0, u "java/lang/Double"), (0, .double 9218868437227405312), (9, .fieldref 27 28), (0, .class_ 29), (0, .nameAndType 30 31), (0, u "com/example/hasset/hasset/algorithm/Aperture"), (0, u "clients"), (0, u "I"), (0, .methodref 33 34), (0, .class_ 35), (0, .nameAndType 36 37), (0, u "java/lang/Math"), (0, u "min"), (0, u "(JJ)J"), (0, .fieldref 27 39), (0, .nameAndType 40 31), (0, u "span"), (0, .methodref 27 42), (0, .nameAndType 43 44), (0, u "boundaries"), (0, u "([D)[D"), (0, .fieldref 27 46), (0, .nameAndType 43 47), (0, u "[D"), (0, .methodref 14 49), (0, .nameAndType 50 51), (0, u "isFinite"), (0, u "(D)Z"), (2, .methodref 33 55), (0, .nameAndType 36 56), (0, u "(DD)D"), (0, .methodref 33 58), (0, .nameAndType 59 56), (0, u "max"), (10, .class_ 71), (0, u "com/example/hasset/hasset/algorithm/Aperture$Arc"), (9, u "width"), (0, u "()D"), (33, u "MIN_OVERLAP"), (0, u "D"), (1, u "([DII)V")] 39

def k3c0 : Code := { maxStack := 7, maxLocals := 6, code := prog_1_method_1_code, exceptionTable := #[], attributes := #[] }
def k3m0 : Method := { name := "<init>", desc := "([DII)V", sig := { parameters := [(.array .double), .int, .int], returnType := none }, accessFlags := 1, code := some k3c0 }
def k3c1 : Code := { maxStack := 10, maxLocals := 13, code := prog_1_method_2_code, exceptionTable := #[], attributes := #[] }
def k3m1 : Method := { name := "boundaries", desc := "([D)[D", sig := { parameters := [(.array .double)], returnType := some (.array .double) }, accessFlags := 10, code := some k3c1 }
def k3c2 : Code := { maxStack := 4, maxLocals := 1, code := prog_1_method_6_code, exceptionTable := #[], attributes := #[] }
def k3m2 : Method := { name := "width", desc := "()D", sig := { parameters := [], returnType := some .double }, accessFlags := 1, code := some k3c2 }
/-- com/example/hasset/hasset/algorithm/Aperture -/
def k3 : Class := { plain "com/example/hasset/hasset/algorithm/Aperture" (some 0) with
  accessFlags := 49
  interfaces := #[]
  cf := some (fileOf pool3 27 #[.nestMembers #[70]] #[{ accessFlags := 1, nameIndex := 5, descriptorIndex := 119, attributes := #[] }, { accessFlags := 10, nameIndex := 43, descriptorIndex := 44, attributes := #[] }, { accessFlags := 1, nameIndex := 81, descriptorIndex := 82, attributes := #[] }] 49 2 #[] #[{ accessFlags := 25, nameIndex := 116, descriptorIndex := 117, attributes := #[] }, { accessFlags := 18, nameIndex := 30, descriptorIndex := 31, attributes := #[] }, { accessFlags := 18, nameIndex := 40, descriptorIndex := 31, attributes := #[] }, { accessFlags := 18, nameIndex := 43, descriptorIndex := 47, attributes := #[] }])
  fields := #[{ name := "MIN_OVERLAP", type := .double, accessFlags := 25, slot := 0, constantValue := 0 }, { name := "clients", type := .int, accessFlags := 18, slot := 0, constantValue := 0 }, { name := "span", type := .int, accessFlags := 18, slot := 1, constantValue := 0 }, { name := "boundaries", type := (.array .double), accessFlags := 18, slot := 2, constantValue := 0 }]
  methods := #[k3m0, k3m1, k3m2]
  instanceTypes := #[.int, .int, (.array .double)]
  staticTypes := #[.double]
  resolved := Array.replicate 159 none
  statics := none }

def pool4 : Array CpInfo := pool [(1, .class_ 2), (0, u "java/io/Serializable"), (0, .class_ 4), (0, u "java/lang/Object")] 2

/-- java/io/Serializable -/
def k4 : Class := { plain "java/io/Serializable" (some 0) with
  accessFlags := 1537
  interfaces := #[]
  cf := some (fileOf pool4 1 #[] #[] 1537 3 #[] #[])
  fields := #[]
  methods := #[]
  instanceTypes := #[]
  staticTypes := #[]
  resolved := Array.replicate 7 none
  statics := none }

def pool5 : Array CpInfo := pool [(2, .class_ 4), (1, u "java/lang/Object"), (0, u "<init>"), (0, u "()V"), (1, .class_ 10), (1, u "java/lang/Number"), (2, .class_ 14), (0, u "java/io/Serializable"), (0, u "serialVersionUID"), (0, u "J")] 20

def k5m0 : Method := { name := "<init>", desc := "()V", sig := { parameters := [], returnType := none }, accessFlags := 1, code := none }
/-- java/lang/Number -/
def k5 : Class := { plain "java/lang/Number" (some 0) with
  accessFlags := 1057
  interfaces := #[4]
  cf := some (fileOf pool5 8 #[] #[{ accessFlags := 1, nameIndex := 5, descriptorIndex := 6, attributes := #[] }] 1057 2 #[13] #[{ accessFlags := 26, nameIndex := 15, descriptorIndex := 16, attributes := #[] }])
  fields := #[{ name := "serialVersionUID", type := .long, accessFlags := 26, slot := 0, constantValue := 0 }]
  methods := #[k5m0]
  instanceTypes := #[]
  staticTypes := #[.long]
  resolved := Array.replicate 37 none
  statics := none }

def pool6 : Array CpInfo := pool [(1, .class_ 2), (0, u "java/lang/Comparable"), (0, .class_ 4), (0, u "java/lang/Object")] 7

/-- java/lang/Comparable -/
def k6 : Class := { plain "java/lang/Comparable" (some 0) with
  accessFlags := 1537
  interfaces := #[]
  cf := some (fileOf pool6 1 #[] #[] 1537 3 #[] #[])
  fields := #[]
  methods := #[]
  instanceTypes := #[]
  staticTypes := #[]
  resolved := Array.replicate 12 none
  statics := none }

def pool7 : Array CpInfo := pool [(1, .class_ 2), (0, u "java/lang/constant/Constable"), (0, .class_ 4), (0, u "java/lang/Object")] 6

/-- java/lang/constant/Constable -/
def k7 : Class := { plain "java/lang/constant/Constable" (some 0) with
  accessFlags := 1537
  interfaces := #[]
  cf := some (fileOf pool7 1 #[] #[] 1537 3 #[] #[])
  fields := #[]
  methods := #[]
  instanceTypes := #[]
  staticTypes := #[]
  resolved := Array.replicate 11 none
  statics := none }

def pool8 : Array CpInfo := pool [(1, .class_ 2), (0, u "java/lang/constant/ConstantDesc"), (0, .class_ 4), (0, u "java/lang/Object")] 32

/-- java/lang/constant/ConstantDesc -/
def k8 : Class := { plain "java/lang/constant/ConstantDesc" (some 0) with
  accessFlags := 1537
  interfaces := #[]
  cf := some (fileOf pool8 1 #[] #[] 1537 3 #[] #[])
  fields := #[]
  methods := #[]
  instanceTypes := #[]
  staticTypes := #[]
  resolved := Array.replicate 37 none
  statics := none }

def pool9 : Array CpInfo := pool [(1, .class_ 2), (0, u "java/lang/Double"), (10, u "isFinite"), (0, u "(D)Z"), (8, .class_ 25), (1, u "java/lang/Math"), (12, .methodref 23 39), (0, .nameAndType 40 41), (0, u "abs"), (0, u "(D)D"), (69, .double 9218868437227405311), (2, .class_ 116), (1, u "java/lang/Number"), (3, u "value"), (0, u "D"), (51, u "TYPE"), (0, u "Ljava/lang/Class;"), (0, .class_ 176), (0, u "java/lang/Comparable"), (0, .class_ 178), (0, u "java/lang/constant/Constable"), (0, .class_ 180), (0, u "java/lang/constant/ConstantDesc"), (0, u "POSITIVE_INFINITY"), (3, u "NEGATIVE_INFINITY"), (2, u "NaN"), (2, u "MAX_VALUE"), (0, u "MIN_NORMAL"), (0, u "MIN_VALUE"), (2, u "SIZE"), (0, u "I"), (1, u "PRECISION"), (1, u "MAX_EXPONENT"), (1, u "MIN_EXPONENT"), (1, u "BYTES"), (3, u "serialVersionUID"), (0, u "J")] 79

def k9c0 : Code := { maxStack := 4, maxLocals := 2, code := jdk_117_method_8_code, exceptionTable := #[], attributes := #[] }
def k9m0 : Method := { name := "isFinite", desc := "(D)Z", sig := { parameters := [.double], returnType := some .boolean }, accessFlags := 9, code := some k9c0 }
/-- java/lang/Double -/
def k9 : Class := { plain "java/lang/Double" (some 5) with
  accessFlags := 49
  interfaces := #[6, 7, 8]
  cf := some (fileOf pool9 1 #[] #[{ accessFlags := 9, nameIndex := 13, descriptorIndex := 14, attributes := #[] }] 49 114 #[175, 177, 179] #[{ accessFlags := 25, nameIndex := 181, descriptorIndex := 121, attributes := #[] }, { accessFlags := 25, nameIndex := 185, descriptorIndex := 121, attributes := #[] }, { accessFlags := 25, nameIndex := 188, descriptorIndex := 121, attributes := #[] }, { accessFlags := 25, nameIndex := 191, descriptorIndex := 121, attributes := #[] }, { accessFlags := 25, nameIndex := 192, descriptorIndex := 121, attributes := #[] }, { accessFlags := 25, nameIndex := 193, descriptorIndex := 121, attributes := #[] }, { accessFlags := 25, nameIndex := 196, descriptorIndex := 197, attributes := #[] }, { accessFlags := 25, nameIndex := 199, descriptorIndex := 197, attributes := #[] }, { accessFlags := 25, nameIndex := 201, descriptorIndex := 197, attributes := #[] }, { accessFlags := 25, nameIndex := 203, descriptorIndex := 197, attributes := #[] }, { accessFlags := 25, nameIndex := 205, descriptorIndex := 197, attributes := #[] }, { accessFlags := 25, nameIndex := 173, descriptorIndex := 174, attributes := #[] }, { accessFlags := 18, nameIndex := 120, descriptorIndex := 121, attributes := #[] }, { accessFlags := 26, nameIndex := 209, descriptorIndex := 210, attributes := #[] }])
  fields := #[{ name := "POSITIVE_INFINITY", type := .double, accessFlags := 25, slot := 0, constantValue := 0 }, { name := "NEGATIVE_INFINITY", type := .double, accessFlags := 25, slot := 1, constantValue := 0 }, { name := "NaN", type := .double, accessFlags := 25, slot := 2, constantValue := 0 }, { name := "MAX_VALUE", type := .double, accessFlags := 25, slot := 3, constantValue := 0 }, { name := "MIN_NORMAL", type := .double, accessFlags := 25, slot := 4, constantValue := 0 }, { name := "MIN_VALUE", type := .double, accessFlags := 25, slot := 5, constantValue := 0 }, { name := "SIZE", type := .int, accessFlags := 25, slot := 6, constantValue := 0 }, { name := "PRECISION", type := .int, accessFlags := 25, slot := 7, constantValue := 0 }, { name := "MAX_EXPONENT", type := .int, accessFlags := 25, slot := 8, constantValue := 0 }, { name := "MIN_EXPONENT", type := .int, accessFlags := 25, slot := 9, constantValue := 0 }, { name := "BYTES", type := .int, accessFlags := 25, slot := 10, constantValue := 0 }, { name := "TYPE", type := (.object "java/lang/Class"), accessFlags := 25, slot := 11, constantValue := 0 }, { name := "value", type := .double, accessFlags := 18, slot := 0, constantValue := 0 }, { name := "serialVersionUID", type := .long, accessFlags := 26, slot := 12, constantValue := 0 }]
  methods := #[k9m0]
  instanceTypes := #[.double]
  staticTypes := #[.double, .double, .double, .double, .double, .double, .int, .int, .int, .int, .int, (.object "java/lang/Class"), .long]
  resolved := Array.replicate 290 none
  statics := none }

def pool10 : Array CpInfo := pool [(1, u "java/lang/Cloneable"), (0, .class_ 1), (0, u "java/lang/Object"), (0, .class_ 3)] 3

/-- java/lang/Cloneable -/
def k10 : Class := { plain "java/lang/Cloneable" (some 0) with
  accessFlags := 1537
  interfaces := #[]
  cf := some (fileOf pool10 2 #[] #[] 1537 4 #[] #[])
  fields := #[]
  methods := #[]
  instanceTypes := #[]
  staticTypes := #[]
  resolved := Array.replicate 8 none
  statics := none }

/-- the primitive byte -/
def k11 : Class := { plain "byte" none with kind := .primitive 'B', accessFlags := 0x411 }
/-- [B -/
def k12 : Class := { plain "[B" (some 0) with kind := .array 11 .byte, interfaces := #[10, 4], accessFlags := 1041 }

/-- the primitive double -/
def k13 : Class := { plain "double" none with kind := .primitive 'D', accessFlags := 0x411 }
/-- [D -/
def k14 : Class := { plain "[D" (some 0) with kind := .array 13 .double, interfaces := #[10, 4], accessFlags := 1041 }

/-- the primitive int -/
def k15 : Class := { plain "int" none with kind := .primitive 'I', accessFlags := 0x411 }
/-- [I -/
def k16 : Class := { plain "[I" (some 0) with kind := .array 15 .int, interfaces := #[10, 4], accessFlags := 1041 }

def heap : Heap := #[]
def classes : Array Class := #[k0, k1, k2, k3, k4, k5, k6, k7, k8, k9, k10, k11, k12, k13, k14, k15, k16]
def interned : List (Array UInt16 × Addr) := []
def slotsUsed : Nat := 0
def theMethod : MethodId := ⟨1, 2⟩
def args0 : Array Value := #[.int 5, .int 5, .int 5, .int 5]
def aboutOver (below : List Frame) : State where
  vm := { classes := classes, interned := interned.toArray }
  heap := heap
  slotsUsed := slotsUsed
  threads := #[{ frames := .invoking theMethod args0 :: below }]
def below0 : List Frame := [.native { method := ⟨0, 0⟩, args := #[] }]
def about1 : State := aboutOver below0
def p0 : Program := .bare "" "" ""
def e0 : Env := launch0.env 0 0 0
theorem w_frames : about1.frames = Frame.invoking theMethod args0 :: below0 := rfl
set_option maxRecDepth 65536 in
theorem w_args : argsFit about1.vm theMethod args0 = true := by decide +kernel
set_option maxRecDepth 65536 in
theorem w_heap : heapFits about1 = true := by decide +kernel
set_option maxRecDepth 65536 in
theorem w_runnable : about1.curStatus? = some .runnable := by decide +kernel
set_option maxRecDepth 65536 in
theorem w_alone : about1.alone = true := by decide +kernel
set_option maxRecDepth 65536 in
theorem w_named : about1.methodNamed? x = some theMethod := by decide +kernel
set_option maxRecDepth 65536 in
theorem w_hears : about1.hears theMethod below0 = true := by decide +kernel
set_option maxRecDepth 65536 in
theorem w_ripe : about1.ripe theMethod args0 below0 = true := by decide +kernel
theorem w_running : about1.status = .running := rfl
set_option maxRecDepth 65536 in
theorem w_room : about1.hasRoom e0.platform room_1 = true :=
  launch0.hasRoom_least _ room_1 (by decide +kernel) (by decide +kernel) (by decide +kernel) (by decide +kernel) (by decide +kernel) (by decide +kernel)
theorem allAtoms_all (ts : List Jvm.Cond) (a : Array Jvm.Value) (st : Jvm.State) : (allAtoms ts).before a st = ts.all (fun c => c.before a st) := by
  induction ts with
  | nil => rfl
  | cons c t ih =>
    show (Jvm.Cond.and c (allAtoms t)).before a st = _
    rw [Jvm.Cond.before_and, ih, List.all_cons]
def words1 : List Jvm.Cond := Jvm.Cond.code x code maxLocals ret :: tables_1
/-- a 'code' word, met by the world's own term for the bytes: nothing is compared byte by byte -/
theorem code_word {y : MethodName} {bytes : ByteArray} {mx : Nat} {rt : Option FieldType} {a : Array Value} {s : State} {m : MethodId} {meth : Method} {c : Code} (h1 : s.methodNamed? y = some m) (h2 : s.vm.method? m = some meth) (h3 : meth.code = some c) (h4 : c.code = bytes)
    (h5 : (c.maxLocals == mx && c.exceptionTable.isEmpty && decide (c.maxStack ≤ mostOperands) && decide (meth.sig.returnType = rt) && !meth.locks && decide (parseMethodDescriptor y.desc = some meth.sig)) = true) : (Jvm.Cond.code y bytes mx rt).before a s = true := by
  simp only [Bool.and_eq_true, beq_iff_eq, Bool.not_eq_true', decide_eq_true_eq] at h5
  obtain ⟨⟨⟨⟨⟨g1, g2⟩, g3⟩, g4⟩, g5⟩, g6⟩ := h5
  simp [Cond.before, Cond.holds, Cond.value, h1, h2, h3, h4, g1, g2, g3, g4, g5, g6]
def isCode : Jvm.Cond → Bool
  | .code _ _ _ _ => true
  | _ => false
theorem all_split {L : List Jvm.Cond} {P : Jvm.Cond → Bool} (h1 : L.all (fun c => isCode c || P c) = true) (h2 : ∀ c ∈ L.filter isCode, P c = true) : L.all P = true := by
  refine List.all_eq_true.mpr fun c hc => ?_
  have h := List.all_eq_true.mp h1 c hc
  rcases Bool.eq_false_or_eq_true (isCode c) with hi | hi
  · exact h2 c (List.mem_filter.mpr ⟨hc, hi⟩)
  · simpa [hi] using h
set_option maxRecDepth 65536 in
theorem w_c0 : (Jvm.Cond.code x code maxLocals ret).before args0 about1 = true := code_word (m := ⟨1, 2⟩) (meth := k1m2) (c := k1c2) (by decide +kernel) rfl rfl rfl (by decide +kernel)
set_option maxRecDepth 65536 in
theorem w_c1 : (Jvm.Cond.code ({ cls := "com/example/hasset/hasset/algorithm/ApertureWidthPinLaw", name := "weights", desc := "(II)[D" } : Jvm.MethodName) method_2_code (11 : Nat) (Option.some (Jvm.ClassFile.FieldType.array Jvm.ClassFile.FieldType.double))).before args0 about1 = true := code_word (m := ⟨1, 1⟩) (meth := k1m1) (c := k1c1) (by decide +kernel) rfl rfl rfl (by decide +kernel)
set_option maxRecDepth 65536 in
theorem w_c2 : (Jvm.Cond.code ({ cls := "java/lang/Math", name := "max", desc := "(II)I" } : Jvm.MethodName) jdk_29_method_65_code (2 : Nat) (Option.some Jvm.ClassFile.FieldType.int)).before args0 about1 = true := code_word (m := ⟨2, 2⟩) (meth := k2m2) (c := k2c2) (by decide +kernel) rfl rfl rfl (by decide +kernel)
set_option maxRecDepth 65536 in
theorem w_c3 : (Jvm.Cond.code ({ cls := "com/example/hasset/hasset/algorithm/Aperture", name := "<init>", desc := "([DII)V" } : Jvm.MethodName) prog_1_method_1_code (6 : Nat) (Option.none : Option Jvm.ClassFile.FieldType)).before args0 about1 = true := code_word (m := ⟨3, 0⟩) (meth := k3m0) (c := k3c0) (by decide +kernel) rfl rfl rfl (by decide +kernel)
set_option maxRecDepth 65536 in
theorem w_c4 : (Jvm.Cond.code ({ cls := "java/lang/Object", name := "<init>", desc := "()V" } : Jvm.MethodName) object_method_1_code (1 : Nat) (Option.none : Option Jvm.ClassFile.FieldType)).before args0 about1 = true := code_word (m := ⟨0, 0⟩) (meth := k0m0) (c := k0c0) (by decide +kernel) rfl rfl rfl (by decide +kernel)
set_option maxRecDepth 65536 in
theorem w_c5 : (Jvm.Cond.code ({ cls := "java/lang/Math", name := "min", desc := "(JJ)J" } : Jvm.MethodName) jdk_29_method_70_code (4 : Nat) (Option.some Jvm.ClassFile.FieldType.long)).before args0 about1 = true := code_word (m := ⟨2, 4⟩) (meth := k2m4) (c := k2c4) (by decide +kernel) rfl rfl rfl (by decide +kernel)
set_option maxRecDepth 65536 in
theorem w_c6 : (Jvm.Cond.code ({ cls := "com/example/hasset/hasset/algorithm/Aperture", name := "boundaries", desc := "([D)[D" } : Jvm.MethodName) prog_1_method_2_code (13 : Nat) (Option.some (Jvm.ClassFile.FieldType.array Jvm.ClassFile.FieldType.double))).before args0 about1 = true := code_word (m := ⟨3, 1⟩) (meth := k3m1) (c := k3c1) (by decide +kernel) rfl rfl rfl (by decide +kernel)
set_option maxRecDepth 65536 in
theorem w_c7 : (Jvm.Cond.code ({ cls := "java/lang/Double", name := "isFinite", desc := "(D)Z" } : Jvm.MethodName) jdk_117_method_8_code (2 : Nat) (Option.some Jvm.ClassFile.FieldType.boolean)).before args0 about1 = true := code_word (m := ⟨9, 0⟩) (meth := k9m0) (c := k9c0) (by decide +kernel) rfl rfl rfl (by decide +kernel)
set_option maxRecDepth 65536 in
theorem w_c8 : (Jvm.Cond.code ({ cls := "java/lang/Math", name := "abs", desc := "(D)D" } : Jvm.MethodName) jdk_29_method_64_code (2 : Nat) (Option.some Jvm.ClassFile.FieldType.double)).before args0 about1 = true := code_word (m := ⟨2, 1⟩) (meth := k2m1) (c := k2c1) (by decide +kernel) rfl rfl rfl (by decide +kernel)
set_option maxRecDepth 65536 in
theorem w_c9 : (Jvm.Cond.code ({ cls := "java/lang/Math", name := "min", desc := "(DD)D" } : Jvm.MethodName) jdk_29_method_72_code (4 : Nat) (Option.some Jvm.ClassFile.FieldType.double)).before args0 about1 = true := code_word (m := ⟨2, 5⟩) (meth := k2m5) (c := k2c5) (by decide +kernel) rfl rfl rfl (by decide +kernel)
set_option maxRecDepth 65536 in
theorem w_c10 : (Jvm.Cond.code ({ cls := "java/lang/Math", name := "max", desc := "(DD)D" } : Jvm.MethodName) jdk_29_method_68_code (4 : Nat) (Option.some Jvm.ClassFile.FieldType.double)).before args0 about1 = true := code_word (m := ⟨2, 3⟩) (meth := k2m3) (c := k2c3) (by decide +kernel) rfl rfl rfl (by decide +kernel)
set_option maxRecDepth 65536 in
theorem w_c11 : (Jvm.Cond.code ({ cls := "com/example/hasset/hasset/algorithm/Aperture", name := "width", desc := "()D" } : Jvm.MethodName) prog_1_method_6_code (1 : Nat) (Option.some Jvm.ClassFile.FieldType.double)).before args0 about1 = true := code_word (m := ⟨3, 2⟩) (meth := k3m2) (c := k3c2) (by decide +kernel) rfl rfl rfl (by decide +kernel)
def codes1 : List Jvm.Cond := [Jvm.Cond.code x code maxLocals ret, Jvm.Cond.code ({ cls := "com/example/hasset/hasset/algorithm/ApertureWidthPinLaw", name := "weights", desc := "(II)[D" } : Jvm.MethodName) method_2_code (11 : Nat) (Option.some (Jvm.ClassFile.FieldType.array Jvm.ClassFile.FieldType.double)), Jvm.Cond.code ({ cls := "java/lang/Math", name := "max", desc := "(II)I" } : Jvm.MethodName) jdk_29_method_65_code (2 : Nat) (Option.some Jvm.ClassFile.FieldType.int), Jvm.Cond.code ({ cls := "com/example/hasset/hasset/algorithm/Aperture", name := "<init>", desc := "([DII)V" } : Jvm.MethodName) prog_1_method_1_code (6 : Nat) (Option.none : Option Jvm.ClassFile.FieldType), Jvm.Cond.code ({ cls := "java/lang/Object", name := "<init>", desc := "()V" } : Jvm.MethodName) object_method_1_code (1 : Nat) (Option.none : Option Jvm.ClassFile.FieldType), Jvm.Cond.code ({ cls := "java/lang/Math", name := "min", desc := "(JJ)J" } : Jvm.MethodName) jdk_29_method_70_code (4 : Nat) (Option.some Jvm.ClassFile.FieldType.long), Jvm.Cond.code ({ cls := "com/example/hasset/hasset/algorithm/Aperture", name := "boundaries", desc := "([D)[D" } : Jvm.MethodName) prog_1_method_2_code (13 : Nat) (Option.some (Jvm.ClassFile.FieldType.array Jvm.ClassFile.FieldType.double)), Jvm.Cond.code ({ cls := "java/lang/Double", name := "isFinite", desc := "(D)Z" } : Jvm.MethodName) jdk_117_method_8_code (2 : Nat) (Option.some Jvm.ClassFile.FieldType.boolean), Jvm.Cond.code ({ cls := "java/lang/Math", name := "abs", desc := "(D)D" } : Jvm.MethodName) jdk_29_method_64_code (2 : Nat) (Option.some Jvm.ClassFile.FieldType.double), Jvm.Cond.code ({ cls := "java/lang/Math", name := "min", desc := "(DD)D" } : Jvm.MethodName) jdk_29_method_72_code (4 : Nat) (Option.some Jvm.ClassFile.FieldType.double), Jvm.Cond.code ({ cls := "java/lang/Math", name := "max", desc := "(DD)D" } : Jvm.MethodName) jdk_29_method_68_code (4 : Nat) (Option.some Jvm.ClassFile.FieldType.double), Jvm.Cond.code ({ cls := "com/example/hasset/hasset/algorithm/Aperture", name := "width", desc := "()D" } : Jvm.MethodName) prog_1_method_6_code (1 : Nat) (Option.some Jvm.ClassFile.FieldType.double)]
set_option maxRecDepth 65536 in
theorem codes_eq : words1.filter isCode = codes1 := rfl
theorem w_codes : ∀ c ∈ words1.filter isCode, c.before args0 about1 = true := by
  rw [codes_eq]
  intro c hc
  simp only [codes1, List.mem_cons, List.not_mem_nil, or_false] at hc
  rcases hc with rfl | rfl | rfl | rfl | rfl | rfl | rfl | rfl | rfl | rfl | rfl | rfl
  · exact w_c0
  · exact w_c1
  · exact w_c2
  · exact w_c3
  · exact w_c4
  · exact w_c5
  · exact w_c6
  · exact w_c7
  · exact w_c8
  · exact w_c9
  · exact w_c10
  · exact w_c11
set_option maxRecDepth 65536 in
theorem w_t1 : (words1.take 24).all (fun c => isCode c || c.before args0 about1) = true := by decide +kernel
set_option maxRecDepth 65536 in
theorem w_t2 : ((words1.drop 24).take 24).all (fun c => isCode c || c.before args0 about1) = true := by decide +kernel
set_option maxRecDepth 65536 in
theorem w_t3 : ((words1.drop 24).drop 24).all (fun c => isCode c || c.before args0 about1) = true := by decide +kernel
theorem w_tables : (allAtoms (Jvm.Cond.code x code maxLocals ret :: tables_1)).before args0 about1 = true := by
  rw [allAtoms_all]
  show words1.all (fun c => c.before args0 about1) = true
  refine all_split ?_ w_codes
  rw [← List.take_append_drop 24 words1, List.all_append, w_t1, ← List.take_append_drop 24 (words1.drop 24), List.all_append, w_t2, w_t3]
  rfl
set_option maxRecDepth 65536 in
theorem w_case : (Jvm.Cond.and given_1 narrow_1).before args0 about1 = true := by decide +kernel
theorem w_applies : (headSpec (Jvm.Cond.code x code maxLocals ret :: tables_1) room_1).applies x e0.platform about1 = true :=
  (Spec.applies_iff w_frames).mpr ⟨w_running, w_runnable, w_alone, w_named, w_hears, w_ripe, w_room, w_tables⟩
theorem atStart : AtStart classFile x code maxLocals ret World_1 tables_1 room_1 Calls_1 rest_1 Pre_1 launch0 p0 e0 about1 theMethod args0 below0 :=
  ⟨lists_1, trivial, launch0.admits_env _ _ _, launch0.least_env, fairChoices_fair.cas, fairChoices_fair.clock, w_frames, w_args, w_heap, w_applies, trivial, trivial, w_case⟩
end start1
theorem witness_1 : WitnessClaimed_1 := ⟨start1.p0, start1.e0, start1.about1, start1.theMethod, start1.args0, start1.below0, start1.atStart⟩
end Jvm.Pilot.@@N@@
